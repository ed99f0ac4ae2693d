import PyProof.Rows.All
import Wide.All
import OpenK.AllK
import Wide.FinOn
import PySem.Challenge.RW_pw0012_01
set_option Elab.async false
set_option linter.unusedVariables false
set_option linter.unusedSimpArgs false
set_option maxRecDepth 100000
open PySem PySem.W PyProof.Rows
namespace Mine
/-! ## heaps kept -/
/-- all that stood stands as it was; no generator, nothing outside is touched -/
structure Keeps (s s' : Shared) : Prop where
  get : ∀ b o, s.heap.get? b = some o → s'.heap.get? b = some o
  gens : s'.gens = s.gens
  os : s'.os = s.os
theorem Kp.refl (s : Shared) : Keeps s s := ⟨fun _ _ e => e, rfl, rfl⟩
theorem Kp.trans {a b c : Shared} (x : Keeps a b) (y : Keeps b c) : Keeps a c := ⟨fun d o e => y.get d o (x.get d o e), y.gens.trans x.gens, y.os.trans x.os⟩
theorem Kp.get {a b : Shared} (x : Keeps a b) : ∀ c o, a.heap.get? c = some o → b.heap.get? c = some o := x.get
theorem Kp.push (s : Shared) (o : Obj) : Keeps s { s with heap := s.heap.push o } := ⟨fun _ _ e => Heap.get?_push_of_some _ e, rfl, rfl⟩
theorem Kp.tok (s : Shared) (t : Nat) : Keeps s { s with toks := t } := ⟨fun _ _ e => e, rfl, rfl⟩
theorem Kp.of {s : Shared} {h' : Heap} (k : ∀ b o, s.heap.get? b = some o → h'.get? b = some o) (t : Nat) : Keeps s { s with heap := h', toks := t } := ⟨k, rfl, rfl⟩
theorem get_size (h : Heap) : h.get? h.objs.size = none := by
  cases e : h.get? h.objs.size with
  | none => rfl
  | some o => exact absurd (Heap.lt_size e) (Nat.lt_irrefl _)
theorem get_ge {h : Heap} {a : Addr} (ha : h.objs.size ≤ a) : h.get? a = none := by
  cases e : h.get? a with
  | none => rfl
  | some o => exact absurd (Heap.lt_size e) (Nat.not_lt.mpr ha)
theorem Kp.none {a b : Shared} (x : Keeps a b) {c : Addr} (h : b.heap.get? c = none) : a.heap.get? c = none := by
  cases e : a.heap.get? c with
  | none => rfl
  | some o => rw [Kp.get x c o e] at h; cases h
theorem ne_of_get {h : Heap} {a b : Addr} {o : Obj} (ha : h.get? a = some o) (hb : h.get? b = none) : a ≠ b := by
  rintro rfl; rw [ha] at hb; cases hb

/-! ## data in a heap; `ok` tells which lists and tuples it may be made of -/
mutual
noncomputable def Rd (ok : Addr → Prop) (h : Heap) : PyData → Value → Prop
  | .none, v => v = .none
  | .bool b, v => v = .bool b
  | .int i, v => ∃ t, v = .int i t
  | .str x, v => ∃ t, v = .str x t
  | .list xs, v => ∃ a vs, v = .ref a ∧ ok a ∧ h.IsList a vs ∧ RdAll ok h xs vs.toList
  | .tuple xs, v => ∃ a vs, v = .ref a ∧ ok a ∧ h.IsTuple a vs ∧ RdAll ok h xs vs.toList
  | .dict _, _ => False
noncomputable def RdAll (ok : Addr → Prop) (h : Heap) : List PyData → List Value → Prop
  | [], vs => vs = []
  | d :: ds, vs => ∃ v r, vs = v :: r ∧ Rd ok h d v ∧ RdAll ok h ds r
end
theorem Rd_int {ok : Addr → Prop} {h : Heap} {i : Int} {v : Value} : Rd ok h (.int i) v ↔ ∃ t, v = .int i t := by simp only [Rd]
theorem Rd_str {ok : Addr → Prop} {h : Heap} {x : Str} {v : Value} : Rd ok h (.str x) v ↔ ∃ t, v = .str x t := by simp only [Rd]
theorem Rd_bool {ok : Addr → Prop} {h : Heap} {b : Bool} {v : Value} : Rd ok h (.bool b) v ↔ v = .bool b := by simp only [Rd]
theorem Rd_none {ok : Addr → Prop} {h : Heap} {v : Value} : Rd ok h .none v ↔ v = .none := by simp only [Rd]
theorem Rd_list {ok : Addr → Prop} {h : Heap} {xs : List PyData} {v : Value} : Rd ok h (.list xs) v ↔ ∃ a vs, v = .ref a ∧ ok a ∧ h.IsList a vs ∧ RdAll ok h xs vs.toList := by simp only [Rd]
theorem Rd_tuple {ok : Addr → Prop} {h : Heap} {xs : List PyData} {v : Value} : Rd ok h (.tuple xs) v ↔ ∃ a vs, v = .ref a ∧ ok a ∧ h.IsTuple a vs ∧ RdAll ok h xs vs.toList := by simp only [Rd]

/-- the lists and tuples that ok lets through are as they were -/
noncomputable def Mv (ok : Addr → Prop) (h h' : Heap) : Prop := ∀ b o, ok b → h.get? b = some o → (∀ es n, o.data ≠ .dict es n) → (∀ v, o.data ≠ .cell v) → h'.get? b = some o
theorem Mv.of_keep {ok : Addr → Prop} {h h' : Heap} (k : ∀ b o, h.get? b = some o → h'.get? b = some o) : Mv ok h h' := fun b o _ e _ _ => k b o e
theorem Mv.refl (ok : Addr → Prop) (h : Heap) : Mv ok h h := fun _ _ _ e _ _ => e
theorem Mv.trans {ok : Addr → Prop} {h h' h'' : Heap} (x : Mv ok h h') (y : Mv ok h' h'') : Mv ok h h'' := fun b o k e d c => y b o k (x b o k e d c) d c
theorem Mv.of_true {ok : Addr → Prop} {h h' : Heap} (x : Mv (fun _ => True) h h') : Mv ok h h' := fun b o _ e d c => x b o trivial e d c
theorem Mv.sameBut {ok : Addr → Prop} {h h' : Heap} {a : Addr} (hs : Heap.SameBut a h h') (ha : ∀ o, h.get? a = some o → (∃ es n, o.data = .dict es n) ∨ (∃ v, o.data = .cell v) ∨ ¬ ok a) : Mv ok h h' :=
  fun b o k e d c => by
    by_cases hb : b = a
    · subst hb
      rcases ha o e with ⟨es, n, x⟩ | ⟨v, x⟩ | x
      · exact absurd x (d es n)
      · exact absurd x (c v)
      · exact absurd k x
    · exact (hs.2 b hb).trans e
theorem Mv.seq {ok : Addr → Prop} {h h' : Heap} {b : Addr} {o : Obj} {vs : Array Value} {n : Nat} (m : Mv ok h h') (hb : ok b) (e : h.get? b = some o) (d : o.data = .seq vs n) : h'.get? b = some o :=
  m b o hb e (fun _ _ x => by rw [d] at x; cases x) (fun _ x => by rw [d] at x; cases x)
theorem Mv.isList {ok : Addr → Prop} {h h' : Heap} {a : Addr} {vs : Array Value} (m : Mv ok h h') (x : h.IsList a vs) (ha : ok a) : h'.IsList a vs := by
  obtain ⟨o, e, c, n, d⟩ := x
  exact ⟨o, m.seq ha e d, c, n, d⟩
theorem Mv.isTuple {ok : Addr → Prop} {h h' : Heap} {a : Addr} {vs : Array Value} (m : Mv ok h h') (x : h.IsTuple a vs) (ha : ok a) : h'.IsTuple a vs := by
  obtain ⟨o, e, c, n, d⟩ := x
  exact ⟨o, m.seq ha e d, c, n, d⟩
mutual
theorem Rd.mv {ok ok' : Addr → Prop} {h h' : Heap} (m : Mv ok h h') (w : ∀ a o, ok a → h.get? a = some o → ok' a) : ∀ (d : PyData) (v : Value), Rd ok h d v → Rd ok' h' d v
  | .none, v, x => x
  | .bool b, v, x => x
  | .int i, v, x => x
  | .str s, v, x => x
  | .list xs, v, x => by
    simp only [Rd] at x ⊢
    obtain ⟨a, vs, e, ha, hl, hr⟩ := x
    exact ⟨a, vs, e, (let ⟨o, ho, _⟩ := hl; w a o ha ho), m.isList hl ha, RdAll.mv m w xs _ hr⟩
  | .tuple xs, v, x => by
    simp only [Rd] at x ⊢
    obtain ⟨a, vs, e, ha, hl, hr⟩ := x
    exact ⟨a, vs, e, (let ⟨o, ho, _⟩ := hl; w a o ha ho), m.isTuple hl ha, RdAll.mv m w xs _ hr⟩
  | .dict _, v, x => x
theorem RdAll.mv {ok ok' : Addr → Prop} {h h' : Heap} (m : Mv ok h h') (w : ∀ a o, ok a → h.get? a = some o → ok' a) : ∀ (ds : List PyData) (vs : List Value), RdAll ok h ds vs → RdAll ok' h' ds vs
  | [], vs, x => x
  | d :: ds, vs, x => by
    simp only [RdAll] at x ⊢
    obtain ⟨v, r, e, h1, h2⟩ := x
    exact ⟨v, r, e, Rd.mv m w d v h1, RdAll.mv m w ds r h2⟩
end
theorem Rd.kp {ok : Addr → Prop} {s s' : Shared} {d : PyData} {v : Value} (x : Rd ok s.heap d v) (k : Keeps s s') : Rd ok s'.heap d v := Rd.mv (.of_keep (Kp.get k)) (fun _ _ y _ => y) d v x
theorem RdAll.kp {ok : Addr → Prop} {s s' : Shared} {d : List PyData} {v : List Value} (x : RdAll ok s.heap d v) (k : Keeps s s') : RdAll ok s'.heap d v := RdAll.mv (.of_keep (Kp.get k)) (fun _ _ y _ => y) d v x
mutual
theorem Rd.reads {ok : Addr → Prop} {h : Heap} : ∀ (d : PyData) (v : Value), Rd ok h d v → ∃ as, Reads h v d as
  | .none, v, x => by simp only [Rd] at x; subst x; exact ⟨_, .none⟩
  | .bool b, v, x => by simp only [Rd] at x; subst x; exact ⟨_, .bool b⟩
  | .int i, v, x => by simp only [Rd] at x; obtain ⟨t, rfl⟩ := x; exact ⟨_, .int i t⟩
  | .str s, v, x => by simp only [Rd] at x; obtain ⟨t, rfl⟩ := x; exact ⟨_, .str s t⟩
  | .list xs, v, x => by
    simp only [Rd] at x
    obtain ⟨a, vs, rfl, _, ⟨o, e, c, n, d⟩, hr⟩ := x
    obtain ⟨as, hr⟩ := RdAll.reads xs _ hr
    exact ⟨_, .list e c d hr⟩
  | .tuple xs, v, x => by
    simp only [Rd] at x
    obtain ⟨a, vs, rfl, _, ⟨o, e, c, n, d⟩, hr⟩ := x
    obtain ⟨as, hr⟩ := RdAll.reads xs _ hr
    exact ⟨_, .tuple e c d hr⟩
  | .dict _, v, x => by simp only [Rd] at x
theorem RdAll.reads {ok : Addr → Prop} {h : Heap} : ∀ (ds : List PyData) (vs : List Value), RdAll ok h ds vs → ∃ as, ReadsAll h vs ds as
  | [], vs, x => by simp only [RdAll] at x; subst x; exact ⟨_, .nil⟩
  | d :: ds, vs, x => by
    simp only [RdAll] at x
    obtain ⟨v, r, rfl, h1, h2⟩ := x
    obtain ⟨as, h1⟩ := Rd.reads d v h1
    obtain ⟨bs, h2⟩ := RdAll.reads ds r h2
    exact ⟨_, .cons h1 h2⟩
end
theorem RdAll.length {ok : Addr → Prop} {h : Heap} : ∀ {ds : List PyData} {vs : List Value}, RdAll ok h ds vs → vs.length = ds.length
  | [], vs, x => by simp only [RdAll] at x; subst x; rfl
  | d :: ds, vs, x => by
    simp only [RdAll] at x
    obtain ⟨v, r, rfl, _, h2⟩ := x
    simp [RdAll.length h2]
theorem RdAll.get {ok : Addr → Prop} {h : Heap} : ∀ {ds : List PyData} {vs : List Value}, RdAll ok h ds vs → ∀ (i : Nat) (d : PyData), ds[i]? = some d → ∃ v, vs[i]? = some v ∧ Rd ok h d v
  | [], vs, _, i, d, e => by simp at e
  | d :: ds, vs, x, i, d', e => by
    simp only [RdAll] at x
    obtain ⟨v, r, rfl, h1, h2⟩ := x
    cases i with
    | zero => simp at e; subst e; exact ⟨v, by simp, h1⟩
    | succ i => obtain ⟨u, e1, e2⟩ := RdAll.get h2 i d' (by simpa using e); exact ⟨u, by simpa using e1, e2⟩
theorem RdAll.append {ok : Addr → Prop} {h : Heap} : ∀ {ds es : List PyData} {vs us : List Value}, RdAll ok h ds vs → RdAll ok h es us → RdAll ok h (ds ++ es) (vs ++ us)
  | [], es, vs, us, x, y => by simp only [RdAll] at x; subst x; exact y
  | d :: ds, es, vs, us, x, y => by
    simp only [RdAll] at x
    obtain ⟨v, r, rfl, h1, h2⟩ := x
    simp only [List.cons_append, RdAll]
    exact ⟨v, r ++ us, rfl, h1, RdAll.append h2 y⟩
theorem RdAll.one {ok : Addr → Prop} {h : Heap} {d : PyData} {v : Value} (x : Rd ok h d v) : RdAll ok h [d] [v] := by
  simp only [RdAll]; exact ⟨v, [], rfl, x, rfl⟩

/-! ## what a name holds -/
inductive Sp where
  | dat (d : PyData)
  | val (v : Value)
noncomputable def Sp.on (ok : Addr → Prop) (h : Heap) : Sp → Value → Prop
  | .dat d, v => Rd ok h d v
  | .val u, v => v = u
theorem Sp.mv {ok ok' : Addr → Prop} {h h' : Heap} (m : Mv ok h h') (w : ∀ a o, ok a → h.get? a = some o → ok' a) : ∀ {sp : Sp} {v : Value}, sp.on ok h v → sp.on ok' h' v
  | .dat d, v, x => Rd.mv m w d v x
  | .val u, v, x => x
theorem Sp.kp {ok : Addr → Prop} {s s' : Shared} {sp : Sp} {v : Value} (x : sp.on ok s.heap v) (k : Keeps s s') : sp.on ok s'.heap v := Sp.mv (.of_keep (Kp.get k)) (fun _ _ y _ => y) x

noncomputable def NameIs (env : Env) (h : Heap) (x : Str) (v : Value) : Prop :=
  (env.kindOf x = some .local ∧ ∃ m, h.Ns env.locals m ∧ m x = some v) ∨
  ((env.kindOf x = some .cell ∨ (env.kindOf x = some .free ∧ (x == ("__classdict__" : Str)) = false)) ∧ ∃ c, env.cells.lookup x = some c ∧ h.IsCell c (some v))
theorem NameIs.keep {env : Env} {h h' : Heap} {x : Str} {v : Value} (n : NameIs env h x v) (k : ∀ b o, h.get? b = some o → h'.get? b = some o) : NameIs env h' x v :=
  n.elim (fun ⟨a, m, b, c⟩ => .inl ⟨a, m, b.keeps k, c⟩) fun ⟨a, c, b, d⟩ => .inr ⟨a, c, b, d.keeps k⟩
theorem NameIs.load {M : Model} {A : Around} {E : Value → Shared → Prop} {s : Shared} {env : Env} {x : Str} {v : Value} {Q : Value → Shared → Prop} (hk : env.scope.kind = .function) (n : NameIs env s.heap x v) (h : Q v s) :
    wpAny M A (loadName env x) Q E s := by
  rcases n with ⟨a, m, b, c⟩ | ⟨a | ⟨a, a'⟩, c, b, d⟩
  · exact wpAny_loadName_local hk a b c h
  · exact wpAny_loadName_cell hk a b d h
  · exact wpAny_loadName_free hk a b d h a'

/-! ## a frame -/
structure Fst (s₀ : Shared) (N : List (Str × NameKind)) (env : Env) (ok : Addr → Prop) (ρ : List (Str × Sp)) (s : Shared) : Prop where
  keeps : Keeps s₀ s
  kind : env.scope.kind = .function
  ns : ∃ m, s.heap.Ns env.locals m
  new : s₀.heap.get? env.locals = none
  cell : ∀ x c, env.cells.lookup x = some c → ∃ v, s.heap.IsCell c v
  apart : env.cells.Pairwise fun x y => x.2 ≠ y.2
  own : ∀ x c, N.lookup x = some .cell → env.cells.lookup x = some c → s₀.heap.get? c = none
  names : ∀ x sp, ρ.lookup x = some sp → ∃ v, NameIs env s.heap x v ∧ sp.on ok s.heap v

theorem Fst.kp {s₀ s s' : Shared} {N : List (Str × NameKind)} {env : Env} {ok : Addr → Prop} {ρ : List (Str × Sp)} (F : Fst s₀ N env ok ρ s) (k : Keeps s s') : Fst s₀ N env ok ρ s' where
  keeps := Kp.trans F.keeps k
  kind := F.kind
  ns := F.ns.elim fun m x => ⟨m, x.keeps (Kp.get k)⟩
  new := F.new
  cell := fun x c e => (F.cell x c e).elim fun v y => ⟨v, y.keeps (Kp.get k)⟩
  apart := F.apart
  own := F.own
  names := fun x sp e => (F.names x sp e).elim fun v ⟨a, b⟩ => ⟨v, a.keep (Kp.get k), Sp.kp b k⟩

theorem cell_ne_ns {h : Heap} {a c : Addr} {m : Str → Option Value} {v : Option Value} (x : h.Ns a m) (y : h.IsCell c v) : a ≠ c := by
  rintro rfl
  obtain ⟨o, es, ep, e, d, _⟩ := x
  obtain ⟨o', e', d'⟩ := y
  rw [e] at e'; cases e'; rw [d] at d'; cases d'

/-- a store of a name: the frame with one name more -/
theorem Fst.store {M : Model} {A : Around} {E : Value → Shared → Prop} {s₀ s : Shared} {N : List (Str × NameKind)} {env : Env} {ok : Addr → Prop} {ρ : List (Str × Sp)} {x : Str} {sp : Sp} {v : Value} {Q : Unit → Shared → Prop}
    (F : Fst s₀ N env ok ρ s) (hv : sp.on ok s.heap v)
    (hx : env.kindOf x = some .local ∨ (env.kindOf x = some .cell ∧ N.lookup x = some .cell ∧ ∃ c, env.cells.lookup x = some c))
    (h : ∀ s', Fst s₀ N env ok ((x, sp) :: ρ) s' → (∃ a, (a = env.locals ∨ env.cells.lookup x = some a) ∧ Heap.SameBut a s.heap s'.heap) → s'.gens = s.gens ∧ s'.os = s.os → Q () s') : wpAny M A (storeName env x v) Q E s := by
  obtain ⟨m, hn⟩ := F.ns
  rcases hx with hl | ⟨hl, hN, c, hc⟩
  · refine wpAny_storeName_local hl hn (fun h' hn' hs' => h _ ?_ ⟨_, .inl rfl, hs'⟩ ⟨rfl, rfl⟩) (by rw [F.kind]; rfl)
    have mv : Mv ok s.heap h' := Mv.sameBut hs' fun o e => by
      obtain ⟨o', es, ep, e', d', _⟩ := hn
      rw [e] at e'; cases e'; exact .inl ⟨_, _, d'⟩
    refine ⟨?_, F.kind, ⟨_, hn'⟩, F.new, fun y c e => ?_, F.apart, F.own, fun y sp' e => ?_⟩
    · exact ⟨fun b o e => (hs'.2 b (ne_of_get e F.new)).trans (F.keeps.get b o e), F.keeps.gens, F.keeps.os⟩
    · obtain ⟨u, hu⟩ := F.cell y c e
      exact ⟨u, hu.sameBut hs' (cell_ne_ns hn hu).symm⟩
    · rw [List.lookup_cons] at e
      by_cases hy : y = x
      · subst hy
        simp only [beq_self_eq_true] at e
        cases e
        exact ⟨v, .inl ⟨hl, _, hn', by simp⟩, Sp.mv mv (fun _ _ z _ => z) hv⟩
      · rw [show (y == x) = false from by simpa using hy] at e
        obtain ⟨u, a, b⟩ := F.names y sp' e
        refine ⟨u, ?_, Sp.mv mv (fun _ _ z _ => z) b⟩
        rcases a with ⟨a1, m1, a2, a3⟩ | ⟨a1, c1, a2, a3⟩
        · refine .inl ⟨a1, _, hn', ?_⟩
          simp only [hy, if_false]
          rw [Heap.Ns.agree hn a2 y]; exact a3
        · exact .inr ⟨a1, c1, a2, a3.sameBut hs' (cell_ne_ns hn a3).symm⟩
  · obtain ⟨u₀, hu₀⟩ := F.cell x c hc
    refine wpAny_storeName_cell F.kind hl hc hu₀ (fun h' hc' hs' => h _ ?_ ⟨c, .inr hc, hs'⟩ ⟨rfl, rfl⟩)
    have mv : Mv ok s.heap h' := Mv.sameBut hs' fun o e => by
      obtain ⟨o', e', d'⟩ := hu₀
      rw [e] at e'; cases e'; exact .inr (.inl ⟨_, d'⟩)
    refine ⟨?_, F.kind, ⟨m, hn.sameBut hs' (cell_ne_ns hn hu₀)⟩, F.new, fun y c' e => ?_, F.apart, F.own, fun y sp' e => ?_⟩
    · exact ⟨fun b o e => (hs'.2 b (ne_of_get e (F.own x c hN hc))).trans (F.keeps.get b o e), F.keeps.gens, F.keeps.os⟩
    · by_cases hcc : c' = c
      · subst hcc; exact ⟨_, hc'⟩
      · obtain ⟨u, hu⟩ := F.cell y c' e
        exact ⟨u, hu.sameBut hs' hcc⟩
    · rw [List.lookup_cons] at e
      by_cases hy : y = x
      · subst hy
        simp only [beq_self_eq_true] at e
        cases e
        exact ⟨v, .inr ⟨.inl hl, c, hc, hc'⟩, Sp.mv mv (fun _ _ z _ => z) hv⟩
      · rw [show (y == x) = false from by simpa using hy] at e
        obtain ⟨u, a, b⟩ := F.names y sp' e
        refine ⟨u, ?_, Sp.mv mv (fun _ _ z _ => z) b⟩
        rcases a with ⟨a1, m1, a2, a3⟩ | ⟨a1, c1, a2, a3⟩
        · exact .inl ⟨a1, m1, a2.sameBut hs' (cell_ne_ns a2 hu₀), a3⟩
        · refine .inr ⟨a1, c1, a2, a3.sameBut hs' fun ec => hy ?_⟩
          subst ec
          exact name_of_addr F.apart (mem_of_lookup a2) (mem_of_lookup hc)

/-! ## the judgement -/
structure Cx where
  prog : Program
  w : World
  A : Around
  env : Env
  ok : Addr → Prop
  s : Shared
  ρ : List (Str × Sp)
  mg : Str → Option Value
  mb : Str → Option Value

structure Cx.Ok (C : Cx) : Prop where
  kind : C.env.scope.kind = .function
  ok : ∀ a, C.s.heap.get? a = none → C.ok a
  names : ∀ x sp, C.ρ.lookup x = some sp → ∃ v, NameIs C.env C.s.heap x v ∧ sp.on C.ok C.s.heap v
  eg : C.env.globals = mainGlobals
  eb : C.env.builtins = builtinsNs
  g : C.s.heap.Ns mainGlobals C.mg
  b : C.s.heap.Ns builtinsNs C.mb
  hand : C.A.handled = none
  units : C.A.units + 200 < cLine
  pyl : ∀ s, Keeps C.s s → PylongRoom (model C.prog C.w) C.A s
  apart : C.env.cells.Pairwise fun x y => x.2 ≠ y.2

/-- e comes back with a value of which P holds; nothing that stood is turned -/
noncomputable def Ev (C : Cx) (e : Expr) (P : Heap → Value → Prop) : Prop :=
  ∀ s, Keeps C.s s → wpAny (model C.prog C.w) C.A (eval e C.env) (fun v s' => Keeps s s' ∧ P s'.heap v) (fun _ _ => False) s
/-- the test e is b -/
noncomputable def Ts (C : Cx) (e : Expr) (b : Bool) : Prop :=
  ∀ s, Keeps C.s s → wpAny (model C.prog C.w) C.A (isTrue e C.env (eval e C.env)) (fun r s' => Keeps s s' ∧ r = b) (fun _ _ => False) s
noncomputable abbrev EvD (C : Cx) (e : Expr) (d : PyData) : Prop := Ev C e fun h v => Rd C.ok h d v
noncomputable abbrev EvV (C : Cx) (e : Expr) (u : Value) : Prop := Ev C e fun _ v => v = u

theorem Cx.Ok.fresh {C : Cx} (h : C.Ok) {s : Shared} (k : Keeps C.s s) : C.ok s.heap.objs.size := h.ok _ (Kp.none k (get_size _))

theorem Ev.name {C : Cx} (hC : C.Ok) {x : Str} {p : Pos} {sp : Sp} (hx : C.ρ.lookup x = some sp) (hd : (x == ("__debug__" : Str)) = false := by decide) : Ev C (.Name x p) (fun h v => sp.on C.ok h v) := fun s k => by
  obtain ⟨v, n, o⟩ := hC.names x sp hx
  exact wpAny_Name (NameIs.load hC.kind (n.keep (Kp.get k)) ⟨Kp.refl _, Sp.kp o k⟩) hd
theorem Ev.nameD {C : Cx} (hC : C.Ok) {x : Str} {p : Pos} {d : PyData} (hx : C.ρ.lookup x = some (.dat d)) (hd : (x == ("__debug__" : Str)) = false := by decide) : EvD C (.Name x p) d := Ev.name hC hx hd
theorem Ev.nameV {C : Cx} (hC : C.Ok) {x : Str} {p : Pos} {u : Value} (hx : C.ρ.lookup x = some (.val u)) (hd : (x == ("__debug__" : Str)) = false := by decide) : EvV C (.Name x p) u := Ev.name hC hx hd
theorem Ev.global {C : Cx} (hC : C.Ok) {x : Str} {p : Pos} {v : Value} (hk : C.env.kindOf x = some .globalImplicit) (hx : C.mg x = some v) (hd : (x == ("__debug__" : Str)) = false := by decide) : EvV C (.Name x p) v := fun s k =>
  Calls.Name_function_global hC.kind hk (Calls.loadGlobal_global (mg := C.mg) (by rw [hC.eg]; exact hC.g.keeps (Kp.get k)) hx ⟨Kp.refl _, rfl⟩) hd
theorem Ev.builtin {C : Cx} (hC : C.Ok) {x : Str} {p : Pos} {v : Value} (hk : C.env.kindOf x = some .globalImplicit) (hm : C.mg x = none) (hx : C.mb x = some v) (hd : (x == ("__debug__" : Str)) = false := by decide) : EvV C (.Name x p) v := fun s k =>
  Calls.Name_function_global hC.kind hk (Calls.loadGlobal_builtin (mg := C.mg) (mb := C.mb) (by rw [hC.eg]; exact hC.g.keeps (Kp.get k)) hm (by rw [hC.eb]; exact hC.b.keeps (Kp.get k)) hx ⟨Kp.refl _, rfl⟩) hd

theorem Ev.int {C : Cx} {i : Int} {k : Nat} {p : Pos} : EvD C (.Constant (.int i) k p) (.int i) := fun s _ => wpAny_Constant_int ⟨Kp.tok _ _, Rd_int.mpr ⟨_, rfl⟩⟩
theorem Ev.str {C : Cx} {x : Str} {k : Nat} {p : Pos} : EvD C (.Constant (.str x) k p) (.str x) := fun s _ => wpAny_Constant_str ⟨Kp.tok _ _, Rd_str.mpr ⟨_, rfl⟩⟩
theorem Ev.cNone {C : Cx} {k : Nat} {p : Pos} : EvD C (.Constant .none k p) .none := fun s _ => wpAny_Constant_none ⟨Kp.refl _, Rd_none.mpr rfl⟩
theorem Ev.bool {C : Cx} {b : Bool} {k : Nat} {p : Pos} : EvD C (.Constant (.bool b) k p) (.bool b) := fun s _ => wpAny_Constant_bool ⟨Kp.refl _, Rd_bool.mpr rfl⟩
theorem Ev.mono {C : Cx} {e : Expr} {P P' : Heap → Value → Prop} (h : Ev C e P) (hp : ∀ h v, P h v → P' h v) : Ev C e P' := fun s k => wpAny_mono (h s k) (fun _ _ x => ⟨x.1, hp _ _ x.2⟩) fun _ _ x => x

/-- two things in turn -/
theorem Ev.two {C : Cx} {e : Expr} {P : Heap → Value → Prop} {s : Shared} {Q : Value → Shared → Prop} (h : Ev C e P) (k : Keeps C.s s) (hq : ∀ v s', Keeps s s' → P s'.heap v → Q v s') : wpAny (model C.prog C.w) C.A (eval e C.env) Q (fun _ _ => False) s :=
  wpAny_mono (h s k) (fun v s' x => hq v s' x.1 x.2) fun _ _ x => x

/-- a binary operation upon data -/
noncomputable def BinOk (C : Cx) (op : Operator) (a b c : PyData) : Prop :=
  ∀ s v u, Keeps C.s s → Rd C.ok s.heap a v → Rd C.ok s.heap b u → wpAny (model C.prog C.w) C.A (binaryOp op v u) (fun r s' => Keeps s s' ∧ Rd C.ok s'.heap c r) (fun _ _ => False) s
theorem Ev.binop {C : Cx} {l r : Expr} {op : Operator} {p : Pos} {a b c : PyData} (hl : EvD C l a) (hr : EvD C r b) (hb : BinOk C op a b c) : EvD C (.BinOp l op r p) c := fun s k =>
  wpAny_BinOp (Ev.two hl k fun v s₁ k₁ hv => Ev.two hr (Kp.trans k k₁) fun u s₂ k₂ hu =>
    wpAny_mono (hb s₂ v u (Kp.trans (Kp.trans k k₁) k₂) (hv.kp k₂) hu) (fun _ _ x => ⟨Kp.trans (Kp.trans k₁ k₂) x.1, x.2⟩) fun _ _ x => x)
theorem bin_add {C : Cx} {a b : Int} : BinOk C .Add (.int a) (.int b) (.int (a + b)) := fun s v u _ hv hu => by
  obtain ⟨t, rfl⟩ := Rd_int.mp hv; obtain ⟨t', rfl⟩ := Rd_int.mp hu
  exact wpAny_add_int ⟨Kp.tok _ _, Rd_int.mpr ⟨_, rfl⟩⟩
end Mine
namespace Mine
theorem wk {M : Model} {A : Around} {α : Type} {t : Sem α} {P : α → Heap → Prop} {s s₁ : Shared} (k : Keeps s s₁) (h : wpAny M A t (fun r s' => Keeps s₁ s' ∧ P r s'.heap) (fun _ _ => False) s₁) :
    wpAny M A t (fun r s' => Keeps s s' ∧ P r s'.heap) (fun _ _ => False) s₁ := wpAny_mono h (fun _ _ x => ⟨Kp.trans k x.1, x.2⟩) fun _ _ x => x

theorem wkV {M : Model} {A : Around} {t : Sem Value} {P : Heap → Value → Prop} {s s₁ : Shared} (k : Keeps s s₁) (h : wpAny M A t (fun r s' => Keeps s₁ s' ∧ P s'.heap r) (fun _ _ => False) s₁) :
    wpAny M A t (fun r s' => Keeps s s' ∧ P s'.heap r) (fun _ _ => False) s₁ := wpAny_mono h (fun _ _ x => ⟨Kp.trans k x.1, x.2⟩) fun _ _ x => x

/-! ## ints -/
theorem bin_sub {C : Cx} {a b : Int} : BinOk C .Sub (.int a) (.int b) (.int (a - b)) := fun s v u _ hv hu => by
  obtain ⟨t, rfl⟩ := Rd_int.mp hv; obtain ⟨t', rfl⟩ := Rd_int.mp hu
  exact sub_int ⟨Kp.tok _ _, Rd_int.mpr ⟨_, rfl⟩⟩
theorem bin_mul {C : Cx} {a b : Int} (hm : IntMulOk a b) : BinOk C .Mult (.int a) (.int b) (.int (a * b)) := fun s v u _ hv hu => by
  obtain ⟨t, rfl⟩ := Rd_int.mp hv; obtain ⟨t', rfl⟩ := Rd_int.mp hu
  exact mul_int ⟨Kp.tok _ _, Rd_int.mpr ⟨_, rfl⟩⟩ hm
theorem bin_mod {C : Cx} {a b : Int} (hb : b ≠ 0) : BinOk C .Mod (.int a) (.int b) (.int (a.fmod b)) := fun s v u _ hv hu => by
  obtain ⟨t, rfl⟩ := Rd_int.mp hv; obtain ⟨t', rfl⟩ := Rd_int.mp hu
  exact mod_int hb ⟨Kp.tok _ _, Rd_int.mpr ⟨_, rfl⟩⟩
theorem bin_fdiv {C : Cx} (hC : C.Ok) {a b : Int} (hb : b ≠ 0) : BinOk C .FloorDiv (.int a) (.int b) (.int (a.fdiv b)) := fun s v u k hv hu => by
  obtain ⟨t, rfl⟩ := Rd_int.mp hv; obtain ⟨t', rfl⟩ := Rd_int.mp hu
  exact floordiv_int hb ⟨Kp.tok _ _, Rd_int.mpr ⟨_, rfl⟩⟩ (.inr (hC.pyl s k))
theorem bin_pow {C : Cx} {a n : Int} (hn : 0 ≤ n) (hn2 : n ≤ 1000000) (ha : a.natAbs < 2 ^ 64) : BinOk C .Pow (.int a) (.int n) (.int (a ^ n.toNat)) := fun s v u k hv hu => by
  obtain ⟨t, rfl⟩ := Rd_int.mp hv; obtain ⟨t', rfl⟩ := Rd_int.mp hu
  exact pow_int_small hn hn2 ha ⟨Kp.tok _ _, Rd_int.mpr ⟨_, rfl⟩⟩
/-! ## texts -/
theorem bin_addS {C : Cx} {x y : Str} (hsz : x.length + y.length ≤ 1000000) : BinOk C .Add (.str x) (.str y) (.str (x ++ y)) := fun s v u k hv hu => by
  obtain ⟨t, rfl⟩ := Rd_str.mp hv; obtain ⟨t', rfl⟩ := Rd_str.mp hu
  exact add_str (fun t' tk => ⟨Kp.tok _ _, Rd_str.mpr ⟨_, rfl⟩⟩) (by rw [sizeLine_eq]; omega)
/-! ## lists -/
theorem isList_new {h : Heap} {vs : Array Value} : (h.push { cls := .type "list", data := .seq vs }).IsList h.objs.size vs := ⟨_, Heap.get?_push_size _ rfl, rfl, _, rfl⟩
theorem isTuple_new {h : Heap} {vs : Array Value} : (h.push { cls := .type "tuple", data := .seq vs }).IsTuple h.objs.size vs := ⟨_, Heap.get?_push_size _ rfl, rfl, _, rfl⟩
theorem rd_newList {C : Cx} (hC : C.Ok) {s : Shared} (k : Keeps C.s s) {ds : List PyData} {vs : Array Value} (h : RdAll C.ok s.heap ds vs.toList) :
    Rd C.ok (s.heap.push { cls := .type "list", data := .seq vs }) (.list ds) (.ref s.heap.objs.size) :=
  Rd_list.mpr ⟨_, vs, rfl, hC.fresh k, isList_new, h.kp (s := s) (Kp.push s _)⟩
theorem rd_newTuple {C : Cx} (hC : C.Ok) {s : Shared} (k : Keeps C.s s) {ds : List PyData} {vs : Array Value} (h : RdAll C.ok s.heap ds vs.toList) :
    Rd C.ok (s.heap.push { cls := .type "tuple", data := .seq vs }) (.tuple ds) (.ref s.heap.objs.size) :=
  Rd_tuple.mpr ⟨_, vs, rfl, hC.fresh k, isTuple_new, h.kp (s := s) (Kp.push s _)⟩
theorem rdAll_size {ok : Addr → Prop} {h : Heap} {ds : List PyData} {vs : Array Value} (x : RdAll ok h ds vs.toList) : vs.size = ds.length := by
  have := x.length; simpa using this

theorem bin_addL {C : Cx} (hC : C.Ok) {xs ys : List PyData} (hsz : xs.length + ys.length ≤ 1000000) : BinOk C .Add (.list xs) (.list ys) (.list (xs ++ ys)) := fun s v u k hv hu => by
  obtain ⟨l, vs, rfl, _, hl, hvs⟩ := Rd_list.mp hv; obtain ⟨b, us, rfl, _, hb, hus⟩ := Rd_list.mp hu
  have z1 := rdAll_size hvs
  have z2 := rdAll_size hus
  obtain ⟨⟨cls, dd, data, sl⟩, ho, hc, n, hd⟩ := id hl
  obtain ⟨⟨cls2, dd2, data2, sl2⟩, ho2, hc2, n2, hd2⟩ := id hb
  simp only at hc hd hc2 hd2
  subst hc hd hc2 hd2
  refine concat_meets ⟨_, ho, rfl⟩ ⟨_, ho2, rfl⟩ noFill_list_add seq_list_add PySem.F.slot_list_add PySem.F.entry_list_add (PySem.F.args_list_add_2 _ _) (list_addW l b vs us n n2 dd dd2 sl sl2 (by rw [sizeLine_eq]; omega)) ⟨ho, ho2, ?_⟩
  refine ⟨Kp.push _ _, rd_newList hC k ?_⟩
  simpa using hvs.append hus

/-! ## displays, arguments -/
noncomputable def EvL (C : Cx) (pos : Pos) (es : List Expr) (ds : List PyData) : Prop :=
  ∀ s, Keeps C.s s → wpAny (model C.prog C.w) C.A (spliced (backTo pos (starEach es C.env))) (fun vs s' => Keeps s s' ∧ RdAll C.ok s'.heap ds vs) (fun _ _ => False) s
theorem EvL.nil {C : Cx} {pos : Pos} : EvL C pos [] [] := fun s k => wpAny_items_nil ⟨Kp.refl _, by simp only [RdAll]⟩
theorem EvL.cons {C : Cx} {pos : Pos} {e : Expr} {es : List Expr} {d : PyData} {ds : List PyData} (h : EvD C e d) (hs : EvL C pos es ds)
    (he : starEach (e :: es) C.env = (false, eval e C.env) :: starEach es C.env := by rfl) : EvL C pos (e :: es) (d :: ds) := fun s k =>
  wpAny_items_cons (Ev.two h k fun v s₁ k₁ hv => wpAny_mono (hs s₁ (Kp.trans k k₁)) (fun vs s₂ x => ⟨Kp.trans k₁ x.1, by simp only [RdAll]; exact ⟨v, vs, rfl, hv.kp x.1, x.2⟩⟩) fun _ _ x => x) he
theorem Ev.list {C : Cx} (hC : C.Ok) {pos : Pos} {es : List Expr} {ds : List PyData} (h : EvL C pos es ds) (hsz : ds.length ≤ 100 := by decide) : EvD C (.List es pos) (.list ds) := fun s k =>
  wpAny_List (wpAny_mono (h s k) (fun vs s₁ x => ⟨by rw [x.2.length, sizeLine_eq]; omega, Kp.trans x.1 (Kp.push _ _), rd_newList hC (Kp.trans k x.1) x.2⟩) fun _ _ x => x)
theorem Ev.tuple {C : Cx} (hC : C.Ok) {pos : Pos} {j : Nat} {es : List Expr} {ds : List PyData} (h : EvL C pos es ds) (hsz : ds.length ≤ 100 := by decide) : EvD C (.Tuple es j pos) (.tuple ds) := fun s k =>
  wpAny_Tuple (wpAny_mono (h s k) (fun vs s₁ x => ⟨by rw [x.2.length, sizeLine_eq]; omega, Kp.trans x.1 (Kp.push _ _), rd_newTuple hC (Kp.trans k x.1) x.2⟩) fun _ _ x => x)

/-! ## calls -/
noncomputable def CallOk (C : Cx) (f : Value) (ds : List PyData) (P : Heap → Value → Prop) : Prop :=
  ∀ s vs, Keeps C.s s → RdAll C.ok s.heap ds vs → wpAny (model C.prog C.w) C.A (call f vs) (fun r s' => Keeps s s' ∧ P s'.heap r) (fun _ _ => False) s
noncomputable abbrev CallD (C : Cx) (f : Value) (ds : List PyData) (d : PyData) : Prop := CallOk C f ds fun h v => Rd C.ok h d v

theorem evalArgs_any {M : Model} {A : Around} {E : Value → Shared → Prop} {s : Shared} {f : Value} {ts : List (Bool × Sem Value)} {Q : Args → Shared → Prop} (hp : ts.any (·.1) = false)
    (h : wpAny M A (spliced ts) (fun vs s' => Q ⟨vs, []⟩ s') E s) : wpAny M A (evalArgs f true ts []) Q E s := by
  cases ts with
  | nil =>
    unfold evalArgs
    show wpAny M A (spliced [] >>= _) Q E s
    refine wpAny_bind (wpAny_mono h (fun vs s' h' => ?_) fun _ _ x => x)
    refine wpAny_holding ?_
    exact wpAny_bind (wpAny_pure (wpAny_bind (wpAny_pure (wpAny_pure h'))))
  | cons t r =>
    obtain ⟨b, x⟩ := t
    cases b with
    | true => simp at hp
    | false => exact Calls.evalArgs_plain h

theorem Ev.callB {C : Cx} {f : Str} {p pos : Pos} {id : String} {es : List Expr} {ds : List PyData} {P : Heap → Value → Prop} (hf : EvV C (.Name f p) (.builtin id)) (ha : EvL C pos es ds) (hc : CallOk C (.builtin id) ds P)
    (hp : (backTo pos (starEach es C.env)).any (·.1) = false := by rfl) : Ev C (.Call (.Name f p) es [] pos) P := fun s k =>
  wpAny_Call_NameR (Ev.two hf k fun v s₁ k₁ hv => by
    subst hv
    exact Calls.callWith_builtin hp (evalArgs_any hp (wpAny_mono (ha s₁ (Kp.trans k k₁)) (fun vs s₂ x => wkV (Kp.trans k₁ x.1) (hc s₂ vs (Kp.trans (Kp.trans k k₁) x.1) x.2)) fun _ _ x => x)))
theorem Ev.callT {C : Cx} {f : Str} {p pos : Pos} {T : String} {es : List Expr} {ds : List PyData} {P : Heap → Value → Prop} (hf : EvV C (.Name f p) (.type T)) (ha : EvL C pos es ds) (hc : CallOk C (.type T) ds P)
    (hp : (backTo pos (starEach es C.env)).any (·.1) = false := by rfl) : Ev C (.Call (.Name f p) es [] pos) P := fun s k =>
  wpAny_Call_NameR (Ev.two hf k fun v s₁ k₁ hv => by
    subst hv
    exact PySem.callWith_type hp (evalArgs_any hp (wpAny_mono (ha s₁ (Kp.trans k k₁)) (fun vs s₂ x => wkV (Kp.trans k₁ x.1) (hc s₂ vs (Kp.trans (Kp.trans k k₁) x.1) x.2)) fun _ _ x => x)))
theorem Ev.callF {C : Cx} {f : Str} {p pos : Pos} {a : Addr} {es : List Expr} {ds : List PyData} {P : Heap → Value → Prop} (hf : EvV C (.Name f p) (.ref a)) (ho : ∃ o fd, C.s.heap.get? a = some o ∧ o.data = .func fd) (ha : EvL C pos es ds) (hc : CallOk C (.ref a) ds P)
    (hp : (backTo pos (starEach es C.env)).any (·.1) = false := by rfl) : Ev C (.Call (.Name f p) es [] pos) P := fun s k =>
  wpAny_Call_NameR (Ev.two hf k fun v s₁ k₁ hv => by
    subst hv
    obtain ⟨o, fd, h1, h2⟩ := ho
    exact Calls.callWith_function (o := o) (fd := fd) (evalArgs_any hp (wpAny_mono (ha s₁ (Kp.trans k k₁)) (fun vs s₂ x => ⟨⟨Kp.get (Kp.trans (Kp.trans k k₁) x.1) _ _ h1, h2⟩, wkV (Kp.trans k₁ x.1) (hc s₂ vs (Kp.trans (Kp.trans k k₁) x.1) x.2)⟩) fun _ _ x => x)))

/-- a method of a text -/
theorem Ev.methS {C : Cx} {o : Expr} {name : Str} {apos pos : Pos} {es : List Expr} {ds : List PyData} {x : Str} {id : String} {P : Heap → Value → Prop} (ho : EvD C o (.str x)) (pa : PlainAttrs "str") (slot : Slot "str" name id)
    (hty : typeOf (.builtin id) = pure (.type "method_descriptor")) (ha : EvL C pos es ds) (hc : CallOk C (.builtin id) (.str x :: ds) P)
    (hbase : attributeBase o name C.env (eval o C.env) = eval o C.env := by rfl)
    (hfew : ((backTo pos (starEach es C.env)).all (fun x => !x.1) && (backToKw pos (keywordEach [] C.env)).all (fun x => x.1.isSome)
      && decide (es.length + ([] : List Keyword).length + (if ([] : List Keyword).isEmpty then 0 else 1) < 30)) = true := by rfl)
    (hline : (apos.endLine == pos.line) = true := by rfl)
    (hp : (backTo pos (starEach es C.env)).any (·.1) = false := by rfl) : Ev C (.Call (.Attribute o name apos) es [] pos) P := fun s k =>
  wpAny_Call_method_late hbase hfew hline rfl (Ev.two ho k fun v s₁ k₁ hv => by
    obtain ⟨t, rfl⟩ := Rd_str.mp hv
    refine ⟨"str", id, pa, slot, hty, typeIs_str s₁ x t, fun a e => (nomatch e), ?_⟩
    refine Calls.callWith_builtin hp (evalArgs_any hp (wpAny_mono (ha s₁ (Kp.trans k k₁)) (fun vs s₂ y => wkV (Kp.trans k₁ y.1) (hc s₂ _ (Kp.trans (Kp.trans k k₁) y.1) ?_)) fun _ _ x => x))
    simp only [RdAll]
    exact ⟨_, vs, rfl, Rd_str.mpr ⟨t, rfl⟩, y.2⟩)

/-! ## tests -/
noncomputable def TruthOk (C : Cx) (P : Heap → Value → Prop) (b : Bool) : Prop :=
  ∀ s v, Keeps C.s s → P s.heap v → wpAny (model C.prog C.w) C.A (truthy v) (fun r s' => Keeps s s' ∧ r = b) (fun _ _ => False) s
theorem Ts.val {C : Cx} {e : Expr} {P : Heap → Value → Prop} {b : Bool} (h : Ev C e P) (ht : TruthOk C P b)
    (he : isTrue e C.env (eval e C.env) = (do let v ← eval e C.env; standAt e.pos; holding [v] (truthy v)) := by rfl) : Ts C e b := fun s k =>
  wpAny_isTrue_value (Ev.two h k fun v s₁ k₁ hv => wk (P := fun r _ => r = b) k₁ (ht s₁ v (Kp.trans k k₁) hv)) he
noncomputable def CmpOk (C : Cx) (op : CmpOp) (a b : PyData) (r : Bool) : Prop :=
  ∀ s v u, Keeps C.s s → Rd C.ok s.heap a v → Rd C.ok s.heap b u → wpAny (model C.prog C.w) C.A (compareOp op v u) (fun c s' => Keeps s s' ∧ c = .bool r) (fun _ _ => False) s
theorem Ev.cmp {C : Cx} {l r : Expr} {op : CmpOp} {p : Pos} {a b : PyData} {c : Bool} (hl : EvD C l a) (hr : EvD C r b) (hb : CmpOk C op a b c) (hm : behindInMarks op r = false := by with_unfolding_all rfl) : EvD C (.Compare l [op] [r] p) (.bool c) := fun s k =>
  wpAny_Compare1 (Ev.two hl k fun v s₁ k₁ hv => Ev.two hr (Kp.trans k k₁) fun u s₂ k₂ hu =>
    wpAny_mono (hb s₂ v u (Kp.trans (Kp.trans k k₁) k₂) (hv.kp k₂) hu) (fun _ _ x => ⟨Kp.trans (Kp.trans k₁ k₂) x.1, Rd_bool.mpr x.2⟩) fun _ _ x => x) hm
theorem Ts.cmp {C : Cx} {l r : Expr} {op : CmpOp} {p : Pos} {a b : PyData} {c : Bool} (hl : EvD C l a) (hr : EvD C r b) (hb : CmpOk C op a b c) (hm : behindInMarks op r = false := by with_unfolding_all rfl) : Ts C (.Compare l [op] [r] p) c := fun s k =>
  wpAny_isTrue_Compare1 (Ev.two hl k fun v s₁ k₁ hv => Ev.two hr (Kp.trans k k₁) fun u s₂ k₂ hu =>
    wpAny_mono (hb s₂ v u (Kp.trans (Kp.trans k k₁) k₂) (hv.kp k₂) hu) (fun c' s₃ x => by obtain ⟨x1, rfl⟩ := x; exact wpAny_truthy_bool ⟨Kp.trans (Kp.trans k₁ k₂) x1, rfl⟩) fun _ _ x => x) hm
theorem cmp_eqI {C : Cx} {a b : Int} : CmpOk C .Eq (.int a) (.int b) (a == b) := fun s v u _ hv hu => by
  obtain ⟨t, rfl⟩ := Rd_int.mp hv; obtain ⟨t', rfl⟩ := Rd_int.mp hu
  exact eq_int ⟨Kp.refl _, rfl⟩
theorem cmp_neI {C : Cx} {a b : Int} : CmpOk C .NotEq (.int a) (.int b) (a != b) := fun s v u _ hv hu => by
  obtain ⟨t, rfl⟩ := Rd_int.mp hv; obtain ⟨t', rfl⟩ := Rd_int.mp hu
  exact ne_int ⟨Kp.refl _, rfl⟩
theorem cmp_ltI {C : Cx} {a b : Int} : CmpOk C .Lt (.int a) (.int b) (decide (a < b)) := fun s v u _ hv hu => by
  obtain ⟨t, rfl⟩ := Rd_int.mp hv; obtain ⟨t', rfl⟩ := Rd_int.mp hu
  exact lt_int ⟨Kp.refl _, rfl⟩
theorem cmp_gtI {C : Cx} {a b : Int} : CmpOk C .Gt (.int a) (.int b) (decide (b < a)) := fun s v u _ hv hu => by
  obtain ⟨t, rfl⟩ := Rd_int.mp hv; obtain ⟨t', rfl⟩ := Rd_int.mp hu
  exact gt_int ⟨Kp.refl _, rfl⟩
theorem cmp_eqS {C : Cx} {a b : Str} : CmpOk C .Eq (.str a) (.str b) (a == b) := fun s v u _ hv hu => by
  obtain ⟨t, rfl⟩ := Rd_str.mp hv; obtain ⟨t', rfl⟩ := Rd_str.mp hu
  exact eq_str ⟨Kp.refl _, rfl⟩
theorem cmp_eqD {C : Cx} (hC : C.Ok) {a b : PyData} (ha : a.canLay0 = true) (hb : b.canLay0 = true) (hd : a.depth ≤ 100) : CmpOk C .Eq a b (PyData.eqv a b) := fun s v u _ hv hu => by
  obtain ⟨as, ra⟩ := Rd.reads a v hv; obtain ⟨bs, rb⟩ := Rd.reads b u hu
  exact SeqAt.compareEq_reads ra rb ha hb (by have := hC.units; omega) ⟨Kp.refl _, rfl⟩
theorem cmp_neD {C : Cx} (hC : C.Ok) {a b : PyData} (ha : a.canLay0 = true) (hb : b.canLay0 = true) (hd : a.depth ≤ 100) : CmpOk C .NotEq a b (!PyData.eqv a b) := fun s v u _ hv hu => by
  obtain ⟨as, ra⟩ := Rd.reads a v hv; obtain ⟨bs, rb⟩ := Rd.reads b u hu
  exact SeqAt.compareNe_reads ra rb ha hb (by have := hC.units; omega) ⟨Kp.refl _, rfl⟩
theorem cmp_notIn {C : Cx} (hC : C.Ok) {d : PyData} {xs : List PyData} (ha : PyData.canLayAll0 xs = true) (hb : d.canLay0 = true) (hd : d.depth ≤ 100) : CmpOk C .NotIn d (.list xs) (!xs.any fun y => PyData.eqv y d) := fun s v u _ hv hu => by
  obtain ⟨as, ra⟩ := Rd.reads _ v hv; obtain ⟨bs, rb⟩ := Rd.reads _ u hu
  exact SeqAt.notIn_list_reads rb ra ha hb (by have := hC.units; omega) ⟨Kp.refl _, rfl⟩

theorem Ev.ifExp {C : Cx} {t b o : Expr} {p : Pos} {c : Bool} {P : Heap → Value → Prop} (ht : Ts C t c) (hb : c = true → Ev C b P) (ho : c = false → Ev C o P) : Ev C (.IfExp t b o p) P := fun s k =>
  wpAny_IfExp (wpAny_mono (ht s k) (fun r s₁ x => by
    obtain ⟨x1, rfl⟩ := x
    cases r with
    | true => exact wk (P := fun v h => P h v) x1 (hb rfl s₁ (Kp.trans k x1))
    | false => exact wk (P := fun v h => P h v) x1 (ho rfl s₁ (Kp.trans k x1))) fun _ _ x => x)
end Mine
namespace Mine
/-! ## items -/
theorem Ev.item {C : Cx} {value slice : Expr} {pos : Pos} {ds : List PyData} {k : Int} {d : PyData} (hv : EvD C value (.list ds)) (hi : EvD C slice (.int k)) (h0 : 0 ≤ k) (hfit : k < 2 ^ 63) (hd : ds[k.toNat]? = some d)
    (hs : ∀ o i, subscripted slice false o i = operate [o, i] (getItem o i) := by intro _ _; rfl) : EvD C (.Subscript value slice pos) d := fun s k₀ =>
  Subscript_ (Ev.two hv k₀ fun v s₁ k₁ hv => Ev.two hi (Kp.trans k₀ k₁) fun u s₂ k₂ hu => by
    obtain ⟨t, rfl⟩ := Rd_int.mp hu
    obtain ⟨a, vs, rfl, _, hl, hr⟩ := Rd_list.mp (hv.kp k₂)
    obtain ⟨x, hx, hdx⟩ := hr.get _ _ hd
    exact tail_any hl.typeIs slot_list_getitem.lookup (wpAny_getItem_list hl h0 hfit (by simpa using hx) ⟨Kp.trans k₁ k₂, hdx⟩) (hs _ _))
theorem Ev.itemS {C : Cx} {value slice : Expr} {pos : Pos} {x : Str} {i : Int} {c : Nat} (hv : EvD C value (.str x)) (hi : EvD C slice (.int i)) (h0 : -1000000 ≤ i) (hfit : i < 1000000) (hc : (seqIndex? i x.length).bind (x.cps[·]?) = some c)
    (hs : ∀ o i, subscripted slice false o i = operate [o, i] (getItem o i) := by intro _ _; rfl) : EvD C (.Subscript value slice pos) (.str ⟨#[c]⟩) := fun s k₀ =>
  Subscript_ (Ev.two hv k₀ fun v s₁ k₁ hv => Ev.two hi (Kp.trans k₀ k₁) fun u s₂ k₂ hu => by
    obtain ⟨t, rfl⟩ := Rd_int.mp hu
    obtain ⟨t', rfl⟩ := Rd_str.mp hv
    refine tail_any (typeIs_str s₂ x t') F.slot_str_getitem.lookup (PyProof.Rows.getItem_str (c := c) ?_ hc ⟨Kp.trans (Kp.trans k₁ k₂) (Kp.tok _ _), Rd_str.mpr ⟨_, rfl⟩⟩) (hs _ _)
    rw [Bool.or_eq_false_iff]
    constructor <;> (apply decide_eq_false; omega))

/-! ## slices -/
/-- a part of a slice -/
inductive Part (C : Cx) : Option Expr → Option Int → Prop
  | no : Part C none none
  | int {e : Expr} {i : Int} : EvD C e (.int i) → Part C (some e) (some i)
  | non {e : Expr} : EvD C e .none → Part C (some e) none
theorem Part.ev {C : Cx} {e : Option Expr} {p : Option Int} (h : Part C e p) {s : Shared} (k : Keeps C.s s) {Q : Value → Shared → Prop} (hq : ∀ v s', Keeps s s' → (∃ q : Option (Int × Tok), v = partValue q ∧ q.map (·.1) = p) → Q v s') :
    wpAny (model C.prog C.w) C.A (evalPart e C.env) Q (fun _ _ => False) s := by
  cases h with
  | no => exact wpAny_evalPart_none (hq _ _ (Kp.refl _) ⟨none, rfl, rfl⟩)
  | int h => exact wpAny_evalPart_some (Ev.two h k fun v s' k' hv => by obtain ⟨t, rfl⟩ := Rd_int.mp hv; exact hq _ _ k' ⟨some (_, t), rfl, rfl⟩)
  | non h => exact wpAny_evalPart_some (Ev.two h k fun v s' k' hv => by have := Rd_none.mp hv; subst this; exact hq _ _ k' ⟨none, rfl, rfl⟩)
theorem isPart_of {q : Option (Int × Tok)} : IsPart (partValue q) (q.map (·.1)) := by
  cases q with
  | none => exact .none
  | some x => exact .int _ _
noncomputable def pickIdx (lo hi st : Option Int) (n : Nat) : List Nat := sliceRange (sliceBounds lo hi st n).1 (sliceBounds lo hi st n).2.1 (sliceBounds lo hi st n).2.2
noncomputable def pick {α : Type} (xs : List α) (lo hi st : Option Int) : List α := (pickIdx lo hi st xs.length).filterMap (xs[·]?)
theorem RdAll.pick {ok : Addr → Prop} {h : Heap} {ds : List PyData} {vs : List Value} (x : RdAll ok h ds vs) : ∀ idx : List Nat, RdAll ok h (idx.filterMap (ds[·]?)) (idx.filterMap (vs[·]?))
  | [] => by simp only [List.filterMap_nil, RdAll]
  | i :: r => by
    have ih := RdAll.pick x r
    cases e : ds[i]? with
    | none =>
      have e' : vs[i]? = none := by
        rw [List.getElem?_eq_none_iff] at e ⊢; rw [x.length]; exact e
      simp only [List.filterMap_cons, e, e']; exact ih
    | some d =>
      obtain ⟨v, e', hv⟩ := x.get i d e
      simp only [List.filterMap_cons, e, e', RdAll]
      exact ⟨v, _, rfl, hv, ih⟩
theorem Ev.slice {C : Cx} (hC : C.Ok) {value : Expr} {lo hi st : Option Expr} {p pos : Pos} {ds : List PyData} {plo phi pst : Option Int} (hv : EvD C value (.list ds)) (hlo : Part C lo plo) (hhi : Part C hi phi) (hst : Part C st pst) (h0 : pst ≠ some 0) (hn : ds.length ≤ 1000000)
    (hs : ∀ o i, ∃ ops, subscripted (.Slice lo hi st p) false o i = operate ops (getItem o i) := by intro _ _; exact ⟨_, rfl⟩) : EvD C (.Subscript value (.Slice lo hi st p) pos) (.list (pick ds plo phi pst)) := fun s k₀ =>
  Subscript_ (Ev.two hv k₀ fun v s₁ k₁ hv => wpAny_Slice (hlo.ev (Kp.trans k₀ k₁) fun vl s₂ k₂ hl => hhi.ev (Kp.trans (Kp.trans k₀ k₁) k₂) fun vu s₃ k₃ hu => hst.ev (Kp.trans (Kp.trans (Kp.trans k₀ k₁) k₂) k₃) fun vt s₄ k₄ ht => by
    obtain ⟨ql, rfl, rfl⟩ := hl
    obtain ⟨qu, rfl, rfl⟩ := hu
    obtain ⟨qt, rfl, rfl⟩ := ht
    have k14 := Kp.trans (Kp.trans k₂ k₃) k₄
    have k5 := Kp.push s₄ { cls := .type "slice", data := .fields #[partValue ql, partValue qu, partValue qt] }
    obtain ⟨a, vs, rfl, _, hl, hr⟩ := Rd_list.mp (hv.kp (Kp.trans k14 k5))
    obtain ⟨ops, hs⟩ := hs (.ref a) (.ref s₄.heap.objs.size)
    have z := rdAll_size hr
    refine tail_any (T := "list") hl.typeIs slot_list_getitem.lookup (wpAny_getItem_list_slice hl (Heap.IsSliceOf.new _ _ _ _) isPart_of isPart_of isPart_of h0 ⟨Kp.trans k₁ (Kp.trans (Kp.trans k14 k5) (Kp.push _ _)), ?_⟩ (by rw [sizeLine_eq]; omega)) hs
    refine rd_newList hC (s := { s₄ with heap := s₄.heap.push _ }) (Kp.trans (Kp.trans k₀ k₁) (Kp.trans k14 k5)) ?_
    have := hr.pick (pickIdx (ql.map (·.1)) (qu.map (·.1)) (qt.map (·.1)) vs.size)
    rw [show (slicePick vs (ql.map (·.1)) (qu.map (·.1)) (qt.map (·.1))).toList = (pickIdx (ql.map (·.1)) (qu.map (·.1)) (qt.map (·.1)) vs.size).filterMap (vs.toList[·]?) from by
      unfold slicePick pickIdx; simp]
    rw [show pick ds (ql.map (·.1)) (qu.map (·.1)) (qt.map (·.1)) = (pickIdx (ql.map (·.1)) (qu.map (·.1)) (qt.map (·.1)) vs.size).filterMap (ds[·]?) from by unfold pick; rw [z]]
    exact this))
theorem Ev.sliceS {C : Cx} {value : Expr} {lo hi : Option Expr} {p pos : Pos} {x : Str} {plo phi : Option Int} (hv : EvD C value (.str x)) (hlo : Part C lo plo) (hhi : Part C hi phi) (hn : x.length ≤ 1000000) : EvD C (.Subscript value (.Slice lo hi none p) pos) (.str (Txt.slice x plo phi)) := fun s k₀ =>
  Subscript_ (Ev.two hv k₀ fun v s₁ k₁ hv => wpAny_Slice (hlo.ev (Kp.trans k₀ k₁) fun vl s₂ k₂ hl => hhi.ev (Kp.trans (Kp.trans k₀ k₁) k₂) fun vu s₃ k₃ hu => wpAny_evalPart_none (by
    obtain ⟨ql, rfl, rfl⟩ := hl
    obtain ⟨qu, rfl, rfl⟩ := hu
    obtain ⟨t, rfl⟩ := Rd_str.mp hv
    refine tail_any (T := "str") (typeIs_str _ x t) F.slot_str_getitem.lookup (wpAny_getItem_str_slice (l := ql) (u := qu) (st := none) ⟨_, Heap.get?_push_size _ rfl, rfl, rfl⟩ rfl ?_) (ops := [.ref s₃.heap.objs.size, .str x t]) rfl
    unfold sliceMade
    have e : slicePicked x ql qu none = Builtin.Str.strSliceIndices (ql.map (·.1)) (qu.map (·.1)) 1 x.length := rfl
    rw [e]
    have kk : Keeps s { s₃ with heap := s₃.heap.push { cls := .type "slice", data := .fields #[partValue ql, partValue qu, .none] } } := Kp.trans (Kp.trans k₁ (Kp.trans k₂ k₃)) (Kp.push _ _)
    have key : ∀ t' k, Keeps s { s₃ with heap := s₃.heap.push { cls := .type "slice", data := .fields #[partValue ql, partValue qu, .none] }, toks := k } ∧ Rd C.ok (s₃.heap.push { cls := .type "slice", data := .fields #[partValue ql, partValue qu, .none] }) (.str (Txt.slice x (ql.map (·.1)) (qu.map (·.1)))) (.str (Txt.slice x (ql.map (·.1)) (qu.map (·.1))) t') :=
      fun t' k => ⟨Kp.trans kk (Kp.tok _ _), Rd_str.mpr ⟨t', rfl⟩⟩
    exact post_val_or_str ⟨Nat.le_trans (Txt.slice_le x _ _) (by rw [sizeLine_eq]; omega), key⟩)))
end Mine
namespace Mine
theorem RdAll.nil_ {ok : Addr → Prop} {h : Heap} {vs : List Value} (x : RdAll ok h [] vs) : vs = [] := by simpa only [RdAll] using x
theorem RdAll.cons_ {ok : Addr → Prop} {h : Heap} {d : PyData} {ds : List PyData} {vs : List Value} (x : RdAll ok h (d :: ds) vs) : ∃ v r, vs = v :: r ∧ Rd ok h d v ∧ RdAll ok h ds r := by simpa only [RdAll] using x
theorem RdAll.one_ {ok : Addr → Prop} {h : Heap} {d : PyData} {vs : List Value} (x : RdAll ok h [d] vs) : ∃ v, vs = [v] ∧ Rd ok h d v := by
  obtain ⟨v, r, rfl, a, b⟩ := x.cons_; have := b.nil_; subst this; exact ⟨v, rfl, a⟩
theorem RdAll.two_ {ok : Addr → Prop} {h : Heap} {d e : PyData} {vs : List Value} (x : RdAll ok h [d, e] vs) : ∃ v u, vs = [v, u] ∧ Rd ok h d v ∧ Rd ok h e u := by
  obtain ⟨v, r, rfl, a, b⟩ := x.cons_; obtain ⟨u, rfl, c⟩ := b.one_; exact ⟨v, u, rfl, a, c⟩
theorem RdAll.three_ {ok : Addr → Prop} {h : Heap} {d e f : PyData} {vs : List Value} (x : RdAll ok h [d, e, f] vs) : ∃ v u t, vs = [v, u, t] ∧ Rd ok h d v ∧ Rd ok h e u ∧ Rd ok h f t := by
  obtain ⟨v, r, rfl, a, b⟩ := x.cons_; obtain ⟨u, t, rfl, c, d⟩ := b.two_; exact ⟨v, u, t, rfl, a, c, d⟩
theorem RdAll.ints {ok : Addr → Prop} {h : Heap} : ∀ {ns : List Int} {vs : List Value}, RdAll ok h (ns.map .int) vs → IntsAre vs ns
  | [], vs, x => by have := x.nil_; subst this; exact .nil
  | n :: ns, vs, x => by
    obtain ⟨v, r, rfl, a, b⟩ := RdAll.cons_ (d := .int n) (ds := ns.map .int) x
    obtain ⟨t, rfl⟩ := Rd_int.mp a
    exact .cons n t b.ints
theorem RdAll.of_ints {ok : Addr → Prop} {h : Heap} {vs : List Value} {ns : List Int} (x : IntsAre vs ns) : RdAll ok h (ns.map .int) vs := by
  induction x with
  | nil => simp only [List.map_nil, RdAll]
  | cons n t _ ih => simp only [List.map_cons, RdAll]; exact ⟨_, _, rfl, Rd_int.mpr ⟨t, rfl⟩, ih⟩

/-! ## built-in calls -/
theorem call_lenL {C : Cx} {ds : List PyData} (hn : ds.length ≤ 1000000) : CallD C (.builtin "len") [.list ds] (.int ds.length) := fun s vs k x => by
  obtain ⟨v, rfl, a⟩ := x.one_
  obtain ⟨l, us, rfl, _, hl, hr⟩ := Rd_list.mp a
  have z := rdAll_size hr
  exact Calls.call_len_list hl (by omega) ⟨Kp.tok _ _, Rd_int.mpr ⟨_, by rw [z]⟩⟩
theorem call_lenS {C : Cx} {x : Str} (hn : x.length ≤ 1000000) : CallD C (.builtin "len") [.str x] (.int x.length) := fun s vs k y => by
  obtain ⟨v, rfl, a⟩ := y.one_
  obtain ⟨t, rfl⟩ := Rd_str.mp a
  exact P.len_str (by omega) ⟨Kp.tok _ _, Rd_int.mpr ⟨_, rfl⟩⟩
theorem call_sumL {C : Cx} (hC : C.Ok) {ns : List Int} : CallD C (.builtin "sum") [.list (ns.map .int)] (.int ns.sum) := fun s vs k x => by
  obtain ⟨v, rfl, a⟩ := x.one_
  obtain ⟨l, us, rfl, _, hl, hr⟩ := Rd_list.mp a
  have hi := hr.ints
  obtain ⟨xs, hx⟩ := hi.allInts.items
  have hx' : us = intItems xs := by have := congrArg Array.toList hx; simpa using congrArg List.toArray this
  have hl' : s.heap.IsList l (intItems xs) := hx' ▸ hl
  refine sum_intListG hC.hand hl' fun h' tk t' hk => ⟨Kp.of hk tk, Rd_int.mpr ⟨t', ?_⟩⟩
  have e1 : ns = xs.toList.map (·.1) := by
    rw [← nums_intItems, ← hx']
    exact (show numsOf us.toList = ns from hi.numsOf).symm
  have e2 : preSum (numAt xs) xs.size = ns.sum := by
    rw [preSum_eq, List.take_of_length_le (by simp), e1]
  rw [e2]
theorem call_min2 {C : Cx} (hC : C.Ok) {a b : Int} : CallD C (.builtin "min") [.int a, .int b] (.int (if b < a then b else a)) := fun s vs k x => by
  obtain ⟨v, u, rfl, ha, hb⟩ := x.two_
  obtain ⟨t, rfl⟩ := Rd_int.mp ha
  obtain ⟨t', rfl⟩ := Rd_int.mp hb
  exact min_two_ints hC.hand fun h' tk hk => ⟨Kp.of hk tk, Rd_int.mpr (by split <;> exact ⟨_, rfl⟩)⟩
theorem call_max2 {C : Cx} (hC : C.Ok) {a b : Int} : CallD C (.builtin "max") [.int a, .int b] (.int (if b > a then b else a)) := fun s vs k x => by
  obtain ⟨v, u, rfl, ha, hb⟩ := x.two_
  obtain ⟨t, rfl⟩ := Rd_int.mp ha
  obtain ⟨t', rfl⟩ := Rd_int.mp hb
  exact max_two_ints hC.hand fun h' tk hk => ⟨Kp.of hk tk, Rd_int.mpr (by split <;> exact ⟨_, rfl⟩)⟩

noncomputable def RangeOf (ok : Addr → Prop) (a b c : Int) (h : Heap) (v : Value) : Prop := ∃ r t u w, v = .ref r ∧ IsRange h r a b c t u w
theorem call_range1 {C : Cx} {n : Int} : CallOk C (.type "range") [.int n] (RangeOf C.ok 0 n 1) := fun s vs k x => by
  obtain ⟨v, rfl, ha⟩ := x.one_
  obtain ⟨t, rfl⟩ := Rd_int.mp ha
  exact call_range_1 ⟨Kp.trans (Kp.push _ _) (Kp.tok _ _), _, _, _, _, rfl, Heap.get?_push_size _ rfl⟩
theorem call_range3 {C : Cx} (hC : C.Ok) {a b c : Int} (hc : c ≠ 0) : CallOk C (.type "range") [.int a, .int b, .int c] (RangeOf C.ok a b c) := fun s vs k x => by
  obtain ⟨v, u, w, rfl, ha, hb, hd⟩ := x.three_
  obtain ⟨t, rfl⟩ := Rd_int.mp ha
  obtain ⟨t', rfl⟩ := Rd_int.mp hb
  obtain ⟨t'', rfl⟩ := Rd_int.mp hd
  exact call_range_3 hc ⟨Kp.push _ _, _, _, _, _, rfl, Heap.get?_push_size _ rfl⟩ (.inr (hC.pyl s k))
/-- enumerate(l), as made behind h₀ -/
noncomputable def EnumOf (ok : Addr → Prop) (ds : List PyData) (h₀ h : Heap) (v : Value) : Prop :=
  ∃ e it l vs, v = .ref e ∧ IsEnum h e it 0 .none ∧ h.IsListIter it l 0 ∧ h.IsList l vs ∧ ok l ∧ RdAll (fun a => ok a ∧ a ∉ [e, it]) h ds vs.toList ∧ (∀ b ∈ [e, it], h₀.get? b = none) ∧ e ≠ it ∧ l ≠ e ∧ l ≠ it
theorem call_enum {C : Cx} {ds : List PyData} : CallOk C (.type "enumerate") [.list ds] (fun h v => EnumOf C.ok ds C.s.heap h v) := fun s vs k x => by
  obtain ⟨v, rfl, ha⟩ := x.one_
  obtain ⟨l, us, rfl, okl, hl, hr⟩ := Rd_list.mp ha
  have hlt : @LT.lt Nat _ l s.heap.objs.size := by obtain ⟨_, e, _⟩ := hl; exact Heap.lt_size e
  refine call_enumerate_list hl fun h' h1 h2 h3 h4 => ⟨Kp.of h4 s.toks, _, _, l, us, rfl, h1, h2, (Mv.of_keep (ok := C.ok) h4).isList hl okl, okl, ?_, fun b hb => ?_, ?_, ?_, ?_⟩
  · refine RdAll.mv (.of_keep h4) (fun a o y e => ⟨y, fun hm => ?_⟩) _ _ hr
    have hlt' : @LT.lt Nat _ a s.heap.objs.size := Heap.lt_size e
    have : a = s.heap.objs.size + 1 ∨ a = s.heap.objs.size := by simpa using hm
    rcases this with x | x <;> (rw [x] at hlt'; omega)
  · have : b = s.heap.objs.size + 1 ∨ b = s.heap.objs.size := by simpa using hb
    refine Kp.none k ?_
    rcases this with rfl | rfl
    · exact get_ge (Nat.le_succ _)
    · exact get_size _
  · refine neN ?_; omega
  · refine neN ?_; omega
  · refine neN ?_; omega
noncomputable def ZipOf (ok : Addr → Prop) (ds es : List PyData) (h₀ h : Heap) (v : Value) : Prop :=
  ∃ z TI TO i1 i2 l1 l2 xs ys, v = .ref z ∧ IsZip h z TI TO .none ∧ IsPair h TI (.ref i1) (.ref i2) ∧ IsPair h TO .none .none ∧ h.IsListIter i1 l1 0 ∧ h.IsListIter i2 l2 0 ∧ h.IsList l1 xs ∧ h.IsList l2 ys ∧ ok l1 ∧ ok l2 ∧ h₀.get? TI = none ∧
    RdAll (fun a => ok a ∧ a ∉ [z, TO, i1, i2]) h ds xs.toList ∧ RdAll (fun a => ok a ∧ a ∉ [z, TO, i1, i2]) h es ys.toList ∧ (∀ b ∈ [z, TO, i1, i2], h₀.get? b = none) ∧ ZipApart z TI TO i1 i2 l1 l2
theorem call_zip {C : Cx} {ds es : List PyData} : CallOk C (.type "zip") [.list ds, .list es] (fun h v => ZipOf C.ok ds es C.s.heap h v) := fun s vs k x => by
  obtain ⟨v, u, rfl, ha, hb⟩ := x.two_
  obtain ⟨l1, xs, rfl, ok1, hl1, hr1⟩ := Rd_list.mp ha
  obtain ⟨l2, ys, rfl, ok2, hl2, hr2⟩ := Rd_list.mp hb
  have lt1 : @LT.lt Nat _ l1 s.heap.objs.size := by obtain ⟨_, e, _⟩ := hl1; exact Heap.lt_size e
  have lt2 : @LT.lt Nat _ l2 s.heap.objs.size := by obtain ⟨_, e, _⟩ := hl2; exact Heap.lt_size e
  have out : ∀ a o, C.ok a → s.heap.get? a = some o → C.ok a ∧ a ∉ [s.heap.objs.size + 4, s.heap.objs.size + 3, s.heap.objs.size, s.heap.objs.size + 1] := fun a o y e => ⟨y, fun hm => by
    have hlt' : @LT.lt Nat _ a s.heap.objs.size := Heap.lt_size e
    have : a = s.heap.objs.size + 4 ∨ a = s.heap.objs.size + 3 ∨ a = s.heap.objs.size ∨ a = s.heap.objs.size + 1 := by simpa using hm
    rcases this with x | x | x | x <;> (rw [x] at hlt'; omega)⟩
  refine call_zip_2 hl1 hl2 fun h' h1 h2 h3 h4 h5 h6 h7 => ⟨Kp.of h7 s.toks, _, _, _, _, _, l1, l2, xs, ys, rfl, h1, h2, h3, h4, h5, (Mv.of_keep (ok := C.ok) h7).isList hl1 ok1, (Mv.of_keep (ok := C.ok) h7).isList hl2 ok2, ok1, ok2, Kp.none k (get_ge (Nat.le_add_right _ _)),
    RdAll.mv (.of_keep h7) out _ _ hr1, RdAll.mv (.of_keep h7) out _ _ hr2, fun b hb => ?_, ?_⟩
  · have : b = s.heap.objs.size + 4 ∨ b = s.heap.objs.size + 3 ∨ b = s.heap.objs.size ∨ b = s.heap.objs.size + 1 := by simpa using hb
    refine Kp.none k (get_ge ?_)
    rcases this with rfl | rfl | rfl | rfl
    · exact Nat.le_add_right _ _
    · exact Nat.le_add_right _ _
    · exact Nat.le_refl _
    · exact Nat.le_add_right _ _
  · constructor <;> (refine neN ?_; omega)
/-- list(range(a, b, c)) -/
theorem rdAll_itemsOf {ok : Addr → Prop} {h : Heap} {a c : Int} {n : Nat} {acc : Array Value} (x : ItemsOf (fun i v => ∃ t, v = .int (a + i * c) t) acc n) : RdAll ok h ((List.range n).map fun i : Nat => PyData.int (a + (i : Int) * c)) acc.toList := by
  have key : ∀ (m : Nat) (l : List Value), l.length = m → (∀ (i : Nat) (v : Value), l[i]? = some v → ∃ t, v = Value.int (a + (i : Int) * c) t) → RdAll ok h ((List.range m).map fun i : Nat => PyData.int (a + (i : Int) * c)) l := by
    intro m
    induction m with
    | zero => intro l hl _; have : l = [] := List.length_eq_zero_iff.mp hl; subst this; simp only [List.range_zero, List.map_nil, RdAll]
    | succ m ih =>
      intro l hl hv
      rcases List.eq_nil_or_concat l with rfl | ⟨r, v, rfl⟩
      · simp at hl
      · have hr : r.length = m := by simpa using hl
        rw [List.concat_eq_append] at hv ⊢
        rw [List.range_succ, List.map_append, List.map_cons, List.map_nil]
        refine RdAll.append (ih r hr fun i u e => hv i u ?_) (.one ?_)
        · have : i < r.length := (List.getElem?_eq_some_iff.mp e).1
          rw [List.getElem?_append_left this]; exact e
        · obtain ⟨t, e⟩ := hv m v (by rw [← hr, List.getElem?_concat_length])
          exact Rd_int.mpr ⟨t, e⟩
  refine key n acc.toList ?_ ?_
  · simpa using x.1
  · exact fun i v e => x.2 i v (by simpa using e)

theorem call_sortedL {C : Cx} (hC : C.Ok) {ns : List Int} (hn : ns.length < 64) : CallOk C (.builtin "sorted") [.list (ns.map .int)] (fun h v => ∃ ns' : List Int, ns'.Perm ns ∧ ns'.Pairwise (· ≤ ·) ∧ Rd C.ok h (.list (ns'.map .int)) v) := fun s vs k x => by
  obtain ⟨v, rfl, ha⟩ := x.one_
  obtain ⟨l, us, rfl, okl, hl, hr⟩ := Rd_list.mp ha
  have hi := hr.ints
  refine sorted_ints (vs := us.toList) (by simpa using hl) hi (by rw [hi.length]; exact hn) fun out ns' a1 a2 a3 => ⟨Kp.of (fun _ _ => sortedAll_old) s.toks, ns', a2, a3, ?_⟩
  obtain ⟨e, he⟩ := sortedAll_at s.heap us.toList out
  refine Rd_list.mpr ⟨_, out, rfl, hC.ok _ (Kp.none k ?_), ⟨_, he, rfl, _, rfl⟩, .of_ints a1⟩
  exact get_ge (Nat.le_succ _)
end Mine
namespace Mine
/-! ## targets -/
/-- what an assignment to a target binds -/
inductive Asg : Expr → Sp → List (Str × Sp) → Prop
  | name {x : Str} {p : Pos} {sp : Sp} : Asg (.Name x p) sp [(x, sp)]
  | pair {x y : Str} {p q pos : Pos} {j : Nat} {d e : PyData} : Asg (.Tuple [.Name x p, .Name y q] j pos) (.dat (.tuple [d, e])) [(y, .dat e), (x, .dat d)]
  | triple {x y z : Str} {p q r pos : Pos} {j : Nat} {d e f : PyData} : Asg (.Tuple [.Name x p, .Name y q, .Name z r] j pos) (.dat (.tuple [d, e, f])) [(z, .dat f), (y, .dat e), (x, .dat d)]
/-- names that the frame may store -/
noncomputable def Own (N : List (Str × NameKind)) (env : Env) (x : Str) : Prop := env.kindOf x = some .local ∨ (env.kindOf x = some .cell ∧ N.lookup x = some .cell ∧ ∃ c, env.cells.lookup x = some c)

/-- where a frame's names lie -/
noncomputable def frA (env : Env) (a : Addr) : Prop := a = env.locals ∨ ∃ x, env.cells.lookup x = some a
noncomputable def Ch (W : Addr → Prop) (h h' : Heap) : Prop := ∀ b o, ¬ W b → h.get? b = some o → h'.get? b = some o
theorem Ch.trans {W : Addr → Prop} {h h' h'' : Heap} (x : Ch W h h') (y : Ch W h' h'') : Ch W h h'' := fun b o n e => y b o n (x b o n e)
theorem Ch.of_keep {W : Addr → Prop} {h h' : Heap} (k : ∀ b o, h.get? b = some o → h'.get? b = some o) : Ch W h h' := fun b o _ e => k b o e
/-- nothing that lived is gone -/
noncomputable def Lv (h h' : Heap) : Prop := ∀ a, h'.get? a = none → h.get? a = none
theorem Lv.trans {h h' h'' : Heap} (x : Lv h h') (y : Lv h' h'') : Lv h h'' := fun a e => x a (y a e)
theorem Lv.of_keep {h h' : Heap} (k : ∀ b o, h.get? b = some o → h'.get? b = some o) : Lv h h' := fun a e => by
  cases e' : h.get? a with
  | none => rfl
  | some o => rw [k a o e'] at e; cases e
structure Stored (env : Env) (s s' : Shared) : Prop where
  mv : Mv (fun _ => True) s.heap s'.heap
  ch : Ch (frA env) s.heap s'.heap
  lv : Lv s.heap s'.heap
  same : s'.gens = s.gens ∧ s'.os = s.os
theorem Fst.store' {M : Model} {A : Around} {E : Value → Shared → Prop} {s₀ s : Shared} {N : List (Str × NameKind)} {env : Env} {ok : Addr → Prop} {ρ : List (Str × Sp)} {x : Str} {sp : Sp} {v : Value} {Q : Unit → Shared → Prop}
    (F : Fst s₀ N env ok ρ s) (hv : sp.on ok s.heap v) (hx : Own N env x)
    (h : ∀ s', Fst s₀ N env ok ((x, sp) :: ρ) s' → Stored env s s' → Q () s') : wpAny M A (storeName env x v) Q E s := by
  refine F.store hv hx fun s' F' hs he => h s' F' ?_
  obtain ⟨a, ha, hs⟩ := hs
  refine ⟨Mv.sameBut hs fun o e => ?_, fun b o hb e => (hs.2 b fun e' => hb ?_).trans e, fun b hb => ?_, he⟩
  · rcases ha with rfl | ha
    · obtain ⟨m, o', es, ep, e', d', _⟩ := F.ns
      rw [e] at e'; cases e'; exact .inl ⟨_, _, d'⟩
    · obtain ⟨u, o', e', d'⟩ := F.cell _ _ ha
      rw [e] at e'; cases e'; exact .inr (.inl ⟨_, d'⟩)
  · subst e'
    rcases ha with rfl | ha
    · exact .inl rfl
    · exact .inr ⟨_, ha⟩
  · by_cases hba : b = a
    · subst hba
      rcases ha with rfl | ha
      · obtain ⟨m, o', es, ep, e', _⟩ := F'.ns; rw [e'] at hb; cases hb
      · obtain ⟨u, o', e', _⟩ := F'.cell _ _ ha; rw [e'] at hb; cases hb
    · rw [← hs.2 b hba]; exact hb
theorem same_trans {s s' s'' : Shared} (x : s'.gens = s.gens ∧ s'.os = s.os) (y : s''.gens = s'.gens ∧ s''.os = s'.os) : s''.gens = s.gens ∧ s''.os = s.os := ⟨y.1.trans x.1, y.2.trans x.2⟩
theorem Stored.trans {env : Env} {s s' s'' : Shared} (x : Stored env s s') (y : Stored env s' s'') : Stored env s s'' := ⟨x.mv.trans y.mv, x.ch.trans y.ch, x.lv.trans y.lv, same_trans x.same y.same⟩
theorem Kp.same {s s' : Shared} (k : Keeps s s') : s'.gens = s.gens ∧ s'.os = s.os := ⟨k.gens, k.os⟩

theorem Stored.kp {env : Env} {s s' : Shared} (k : Keeps s s') : Stored env s s' := ⟨.of_keep (Kp.get k), .of_keep (Kp.get k), .of_keep (Kp.get k), Kp.same k⟩
theorem assign_ok {prog : Program} {w : World} {A : Around} {E : Value → Shared → Prop} (hh : A.handled = none) {s₀ s : Shared} {N : List (Str × NameKind)} {env : Env} {ok : Addr → Prop} {ρ bs : List (Str × Sp)} {target : Expr} {sp : Sp} {v : Value} {Q : Unit → Shared → Prop}
    (ha : Asg target sp bs) (F : Fst s₀ N env ok ρ s) (hv : sp.on ok s.heap v) (hx : ∀ b ∈ bs, Own N env b.1)
    (h : ∀ s', Fst s₀ N env ok (bs ++ ρ) s' → Stored env s s' → Q () s') : wpAny (model prog w) A (assign target env v) Q E s := by
  cases ha with
  | name => exact wpAny_assign_Name (F.store' hv (hx (_, sp) (List.mem_singleton.mpr rfl)) h)
  | pair =>
    rename_i x y p q pos j d e
    obtain ⟨T, vs, rfl, okT, hT, hr⟩ := Rd_tuple.mp hv
    obtain ⟨v1, v2, e2, r1, r2⟩ := hr.two_
    have hx1 : Own N env x := hx (x, .dat d) (by simp)
    have hx2 : Own N env y := hx (y, .dat e) (by simp)
    refine wpAny_assign_Tuple hh hT (by have := congrArg List.length e2; simp at this; rw [this]; rfl) rfl fun h' hk => ?_
    have kk : Keeps s { s with heap := h' } := Kp.of (fun b o e => hk b o (Nat.ne_of_lt (Heap.lt_size e)) e) s.toks
    rw [e2]
    refine wpAny_assignInOrder_more (wpAny_assign_Name ((F.kp kk).store' (sp := .dat d) (r1.kp kk) hx1 fun s1 F1 m1 => ?_))
    refine wpAny_assignInOrder_more (wpAny_assign_Name (F1.store' (sp := .dat e) (Sp.mv (sp := .dat e) (m1.mv.of_true) (fun _ _ z _ => z) (r2.kp kk)) hx2 fun s2 F2 m2 => ?_))
    exact wpAny_assignInOrder_none (h s2 F2 ((Stored.kp kk).trans (m1.trans m2)))
  | triple =>
    rename_i x y z p q r pos j d e f
    obtain ⟨T, vs, rfl, okT, hT, hr⟩ := Rd_tuple.mp hv
    obtain ⟨v1, v2, v3, e2, r1, r2, r3⟩ := hr.three_
    have hx1 : Own N env x := hx (x, .dat d) (by simp)
    have hx2 : Own N env y := hx (y, .dat e) (by simp)
    have hx3 : Own N env z := hx (z, .dat f) (by simp)
    refine wpAny_assign_Tuple hh hT (by have := congrArg List.length e2; simp at this; rw [this]; rfl) rfl fun h' hk => ?_
    have kk : Keeps s { s with heap := h' } := Kp.of (fun b o e => hk b o (Nat.ne_of_lt (Heap.lt_size e)) e) s.toks
    rw [e2]
    refine wpAny_assignInOrder_more (wpAny_assign_Name ((F.kp kk).store' (sp := .dat d) (r1.kp kk) hx1 fun s1 F1 m1 => ?_))
    refine wpAny_assignInOrder_more (wpAny_assign_Name (F1.store' (sp := .dat e) (Sp.mv (sp := .dat e) (m1.mv.of_true) (fun _ _ z _ => z) (r2.kp kk)) hx2 fun s2 F2 m2 => ?_))
    refine wpAny_assignInOrder_more (wpAny_assign_Name (F2.store' (sp := .dat f) (Sp.mv (sp := .dat f) ((m1.mv.trans m2.mv).of_true) (fun _ _ z _ => z) (r3.kp kk)) hx3 fun s3 F3 m3 => ?_))
    exact wpAny_assignInOrder_none (h s3 F3 ((Stored.kp kk).trans (m1.trans (m2.trans m3))))
end Mine
namespace Mine
/-! ## where a loop's items come from -/
noncomputable def NotFrame (o : Obj) : Prop := (∀ es n, o.data ≠ .dict es n) ∧ ∀ v, o.data ≠ .cell v
structure Src {α : Type} (prog : Program) (w : World) (A : Around) (target : Expr) (I : Addr) (fp wr : List Addr) (ok : Addr → Prop) (hB : Heap) (l : List α) (sp : α → Sp) (St : Nat → Heap → Prop) : Prop where
  sub : ∀ b ∈ wr, b ∈ fp
  live : ∀ i h, St i h → ∀ b ∈ wr, h.get? b ≠ none
  plain : ∀ i h, St i h → ∀ b ∈ fp, ∀ o, h.get? b = some o → NotFrame o
  frame : ∀ i h h', St i h → (∀ b ∈ fp, ∀ o, h.get? b = some o → h'.get? b = some o) → St i h'
  next : ∀ (i : Nat) (x : α) (s : Shared) (Q : Value → Shared → Prop) (E : Value → Shared → Prop), l[i]? = some x → St i s.heap → Mv ok hB s.heap → (∀ a, s.heap.get? a = none → ok a) →
    (∀ v h' tk, (sp x).on ok h' v → St (i + 1) h' → (∀ b o, b ∉ wr → s.heap.get? b = some o → h'.get? b = some o) → Q v { s with heap := h', toks := tk }) →
    wpAny (model prog w) A (pyNext (.ref I)) (fun r s₁ => ∃ v, r = some v ∧ wpAny (model prog w) A (letOwnedTupleGo target (.ref I) v) (fun _ s₂ => Q v s₂) E s₁) E s
  done : ∀ (s : Shared) (Q : Shared → Prop) (E : Value → Shared → Prop), St l.length s.heap →
    (∀ h' tk, (∀ b o, b ∉ wr → s.heap.get? b = some o → h'.get? b = some o) → Q { s with heap := h', toks := tk }) → wpAny (model prog w) A (pyNext (.ref I)) (fun r s₁ => r = none ∧ Q s₁) E s
  self : ∀ i (s : Shared) (Q : Value → Shared → Prop) (E : Value → Shared → Prop), St i s.heap → Q (.ref I) s → wpAny (model prog w) A (pyIter (.ref I)) Q E s

/-- a value that can be walked: P h₀ h v, h₀ the heap ahead of its making -/
noncomputable def Iters {α : Type} (C : Cx) (target : Expr) (P : Heap → Heap → Value → Prop) (l : List α) (sp : α → Sp) : Prop :=
  ∀ s₀ s v, Keeps C.s s₀ → Keeps s₀ s → P s₀.heap s.heap v →
    wpAny (model C.prog C.w) C.A (pyIter v) (fun it s₂ => ∃ I fp wr St, it = .ref I ∧ Keeps s s₂ ∧ (∀ b ∈ wr, s₀.heap.get? b = none) ∧ (∀ b ∈ fp, C.ok b) ∧ St 0 s₂.heap ∧ (∀ b ∈ fp, s₂.heap.get? b ≠ none) ∧
      ∀ ok' : Addr → Prop, (∀ a ∈ wr, ¬ ok' a) → (∀ a o, C.ok a → a ∉ wr → s₂.heap.get? a = some o → ok' a) → Src C.prog C.w C.A target I fp wr ok' s₂.heap l sp St) (fun _ _ => False) s

theorem go_listiter {M : Model} {A : Around} {E : Value → Shared → Prop} {s : Shared} {target : Expr} {I l : Addr} {i : Nat} {v : Value} {Q : Unit → Shared → Prop} (hit : s.heap.IsListIter I l i) (hQ : Q () s) : wpAny M A (letOwnedTupleGo target (.ref I) v) Q E s := by
  obtain ⟨o, ho, hc, hd⟩ := hit
  have key : ∀ T, wpAny M A (do
      let o ← load I
      match o.cls, o.data with
      | .type n, .fields vs =>
        if ["enumerate", "zip", "dict_itemiterator", "dict_reverseitemiterator", "odict_iterator", "itertools.zip_longest", "itertools.pairwise"].contains n && vs[0]? == some (rawInt T) then
          rule "for.unpacks-the-owned-tuple"
          updateField I 0 .none
      | _, _ => pure ()) Q E s := fun T => by
    refine wpAny_bind (wpAny_load ho ?_)
    rw [hc, hd]
    exact wpAny_pure hQ
  unfold letOwnedTupleGo
  split
  · cases v <;> first | exact wpAny_pure hQ | exact key _
  · cases v <;> first | exact wpAny_pure hQ | exact key _
  · exact wpAny_pure hQ
theorem go_tupleiter {M : Model} {A : Around} {E : Value → Shared → Prop} {s : Shared} {target : Expr} {I l : Addr} {i : Nat} {v : Value} {Q : Unit → Shared → Prop} (hit : s.heap.IsTupleIter I l i) (hQ : Q () s) : wpAny M A (letOwnedTupleGo target (.ref I) v) Q E s := by
  obtain ⟨o, ho, hc, hd⟩ := hit
  have key : ∀ T, wpAny M A (do
      let o ← load I
      match o.cls, o.data with
      | .type n, .fields vs =>
        if ["enumerate", "zip", "dict_itemiterator", "dict_reverseitemiterator", "odict_iterator", "itertools.zip_longest", "itertools.pairwise"].contains n && vs[0]? == some (rawInt T) then
          rule "for.unpacks-the-owned-tuple"
          updateField I 0 .none
      | _, _ => pure ()) Q E s := fun T => by
    refine wpAny_bind (wpAny_load ho ?_)
    rw [hc, hd]
    exact wpAny_pure hQ
  unfold letOwnedTupleGo
  split
  · cases v <;> first | exact wpAny_pure hQ | exact key _
  · cases v <;> first | exact wpAny_pure hQ | exact key _
  · exact wpAny_pure hQ

theorem mem2 {b a c : Addr} (h : b ∈ [a, c]) : b = a ∨ b = c := by simpa using h
theorem nf_fields {o : Obj} {vs : Array Value} (d : o.data = .fields vs) : NotFrame o := ⟨fun _ _ y => (by rw [d] at y; cases y), fun _ y => (by rw [d] at y; cases y)⟩
theorem nf_seq {o : Obj} {vs : Array Value} {n : Nat} (d : o.data = .seq vs n) : NotFrame o := ⟨fun _ _ y => (by rw [d] at y; cases y), fun _ y => (by rw [d] at y; cases y)⟩
theorem notFrame_listIter {h : Heap} {a l : Addr} {i : Nat} {o : Obj} (x : h.IsListIter a l i) (e : h.get? a = some o) : NotFrame o := by
  obtain ⟨o', e', _, d⟩ := x; rw [e] at e'; cases e'; exact nf_fields d
theorem notFrame_tupleIter {h : Heap} {a l : Addr} {i : Nat} {o : Obj} (x : h.IsTupleIter a l i) (e : h.get? a = some o) : NotFrame o := by
  obtain ⟨o', e', _, d⟩ := x; rw [e] at e'; cases e'; exact nf_fields d
theorem notFrame_list {h : Heap} {a : Addr} {vs : Array Value} {o : Obj} (x : h.IsList a vs) (e : h.get? a = some o) : NotFrame o := by
  obtain ⟨o', e', _, n, d⟩ := x; rw [e] at e'; cases e'; exact nf_seq d
theorem notFrame_tuple {h : Heap} {a : Addr} {vs : Array Value} {o : Obj} (x : h.IsTuple a vs) (e : h.get? a = some o) : NotFrame o := by
  obtain ⟨o', e', _, n, d⟩ := x; rw [e] at e'; cases e'; exact nf_seq d
theorem mv_but {ok : Addr → Prop} {wr : List Addr} {h h' : Heap} (hw : ∀ b ∈ wr, ¬ ok b) (hk : ∀ b o, b ∉ wr → h.get? b = some o → h'.get? b = some o) : Mv ok h h' := fun b o k e _ _ => hk b o (fun hb => hw b hb k) e

/-- a list of things -/
theorem Src.list {α : Type} {prog : Program} {w : World} {A : Around} (hh : A.handled = none) {target : Expr} {I ax : Addr} (hne : ax ≠ I) {items : Array Value} {ok : Addr → Prop} {hB : Heap} {l : List α} {sp : α → Sp} (hlen : items.size = l.length) (hw : ∀ b ∈ [I], ¬ ok b)
    (hsp : ∀ (i : Nat) (x : α), l[i]? = some x → ∃ v, items[i]? = some v ∧ (sp x).on ok hB v) :
    Src prog w A target I [I, ax] [I] ok hB l sp (fun i h => h.IsListIter I ax i ∧ h.IsList ax items) := by
  have W := Walks.list (prog := prog) (w := w) hh I ax hne items
  exact {
    sub := W.sub
    live := fun i h st b hb => by
      have : b = I := by simpa using hb
      subst this; obtain ⟨⟨o, e, _⟩, _⟩ := st; rw [e]; exact fun x => nomatch x
    plain := fun i h st b hb o e => by
      rcases mem2 hb with rfl | rfl
      · exact notFrame_listIter st.1 e
      · exact notFrame_list st.2 e
    frame := W.frame
    next := fun i x s Q E hx st mv _ hQ => by
      obtain ⟨v, hv, hs⟩ := hsp i x hx
      refine wpAny_pyNext_list_item st.1 st.2 hv fun h' hit' hs' => ⟨v, rfl, go_listiter hit' ?_⟩
      have hk : ∀ b o, b ∉ [I] → s.heap.get? b = some o → h'.get? b = some o := fun b o hb e => hs'.extBut b o (fun z => hb (by simp [z])) e
      exact hQ v h' s.toks (Sp.mv (mv.trans (mv_but hw hk)) (fun _ _ z _ => z) hs) ⟨hit', st.2.extBut hs'.extBut hne⟩ hk
    done := fun s Q E st hQ => W.done s (fun r s₁ => r = none ∧ Q s₁) E (by rw [hlen]; exact st) fun h' tk hk => ⟨rfl, hQ h' tk hk⟩
    self := W.self }

theorem Src.tuple {α : Type} {prog : Program} {w : World} {A : Around} (hh : A.handled = none) {target : Expr} {I ax : Addr} (hne : ax ≠ I) {items : Array Value} {ok : Addr → Prop} {hB : Heap} {l : List α} {sp : α → Sp} (hlen : items.size = l.length) (hw : ∀ b ∈ [I], ¬ ok b)
    (hsp : ∀ (i : Nat) (x : α), l[i]? = some x → ∃ v, items[i]? = some v ∧ (sp x).on ok hB v) :
    Src prog w A target I [I, ax] [I] ok hB l sp (fun i h => h.IsTupleIter I ax i ∧ h.IsTuple ax items) := by
  have W := Walks.tuple (prog := prog) (w := w) hh I ax hne items
  exact {
    sub := W.sub
    live := fun i h st b hb => by
      have : b = I := by simpa using hb
      subst this; obtain ⟨⟨o, e, _⟩, _⟩ := st; rw [e]; exact fun x => nomatch x
    plain := fun i h st b hb o e => by
      rcases mem2 hb with rfl | rfl
      · exact notFrame_tupleIter st.1 e
      · exact notFrame_tuple st.2 e
    frame := W.frame
    next := fun i x s Q E hx st mv _ hQ => by
      obtain ⟨v, hv, hs⟩ := hsp i x hx
      refine wpAny_pyNext_tuple_item st.1 st.2 hv fun h' hit' hs' => ⟨v, rfl, go_tupleiter hit' ?_⟩
      have hk : ∀ b o, b ∉ [I] → s.heap.get? b = some o → h'.get? b = some o := fun b o hb e => hs'.extBut b o (fun z => hb (by simp [z])) e
      exact hQ v h' s.toks (Sp.mv (mv.trans (mv_but hw hk)) (fun _ _ z _ => z) hs) ⟨hit', st.2.extBut hs'.extBut hne⟩ hk
    done := fun s Q E st hQ => W.done s (fun r s₁ => r = none ∧ Q s₁) E (by rw [hlen]; exact st) fun h' tk hk => ⟨rfl, hQ h' tk hk⟩
    self := W.self }

theorem Src.range {prog : Program} {w : World} {A : Around} (hh : A.handled = none) {x : Str} {p : Pos} {I : Addr} {n : Nat} {ok : Addr → Prop} {hB : Heap} (hw : ∀ b ∈ [I], ¬ ok b) :
    Src prog w A (.Name x p) I [I] [I] ok hB (List.range n) (fun i => .dat (.int i)) (fun i h => IsRangeIter h I (i : Nat) ((n : Int) - (i : Nat)) 1) where
  sub := fun _ hb => hb
  live := fun i h st b hb => by
    have : b = I := by simpa using hb
    subst this; rw [show h.get? b = _ from st]; exact fun x => nomatch x
  plain := fun i h st b hb o e => by
    have : b = I := by simpa using hb
    subst this; rw [show h.get? b = _ from st] at e; cases e; exact nf_fields rfl
  frame := fun _ _ _ st hk => hk I (by simp) _ st
  next := fun i y s Q E hx st mv _ hQ => by
    have hi : i < n ∧ y = i := by
      obtain ⟨h1, h2⟩ := List.getElem?_eq_some_iff.mp hx
      exact ⟨by simpa using h1, by simpa using h2.symm⟩
    obtain ⟨hi, rfl⟩ := hi
    refine wpAny_pyNext_range_item st (by omega) fun h' hit' hs' => ⟨_, rfl, wpAny_pure ?_⟩
    have hk : ∀ b o, b ∉ [I] → s.heap.get? b = some o → h'.get? b = some o := fun b o hb e => hs'.extBut b o (fun z => hb (by simp [z])) e
    refine hQ _ h' _ (show Rd ok h' (.int (y : Nat)) _ from Rd_int.mpr ⟨_, rfl⟩) ?_ hk
    have e2 : (n : Int) - ((y + 1 : Nat) : Int) = (n : Int) - (y : Int) - 1 := by push_cast; omega
    have e1 : ((y + 1 : Nat) : Int) = (y : Int) + 1 := by push_cast; rfl
    rw [e1] at e2 ⊢; rw [e2]; exact hit'
  done := fun s Q E st hQ => wpAny_pyNext_range_end hh st (by simp) fun h' he' => ⟨rfl, hQ h' s.toks fun b o hb e => he' b o (fun h => hb (by simp [h])) e⟩
  self := fun _ _ _ _ st hQ => wpAny_pyIter_rangeiter st hQ

/-- enumerate -/
theorem Src.enum {α : Type} {prog : Program} {w : World} {A : Around} (hh : A.handled = none) {elts : List Expr} {j : Nat} {pos : Pos} {e it ax : Addr} (hei : e ≠ it) (hle : ax ≠ e) (hli : ax ≠ it) {items : Array Value} {ok : Addr → Prop} {hB : Heap} {l : List α} {g : α → PyData} (hlen : items.size = l.length) (hw : ∀ b ∈ [e, it], ¬ ok b)
    (hsp : ∀ (i : Nat) (x : α), l[i]? = some x → ∃ v, items[i]? = some v ∧ Rd ok hB (g x) v) :
    Src prog w A (.Tuple elts j pos) e [e, it, ax] [e, it] ok hB (l.zipIdx) (fun p => .dat (.tuple [.int (p.2 : Nat), g p.1])) (fun i h => (∃ old, IsEnum h e it i old) ∧ h.IsListIter it ax i ∧ h.IsList ax items) := by
  have W := WalksT.enumerate (prog := prog) (w := w) hh e it ax hei hle hli items
  exact {
    sub := W.sub
    live := fun i h st b hb => by
      rcases mem2 hb with rfl | rfl
      · obtain ⟨⟨old, he⟩, _⟩ := st; rw [he]; exact fun x => nomatch x
      · obtain ⟨_, ⟨o, e, _⟩, _⟩ := st; rw [e]; exact fun x => nomatch x
    plain := fun i h st b hb o ho => by
      obtain ⟨⟨old, he⟩, hi, hl⟩ := st
      rcases List.mem_cons.mp hb with rfl | hb
      · rw [he] at ho; cases ho; exact nf_fields rfl
      · rcases mem2 hb with rfl | rfl
        · exact notFrame_listIter hi ho
        · exact notFrame_list hl ho
    frame := W.frame
    next := fun i x s Q E hx st mv hf hQ => by
      obtain ⟨y, k⟩ := x
      have hi : l[i]? = some y ∧ k = i := by
        rw [List.getElem?_zipIdx] at hx
        cases hy : l[i]? with
        | none => rw [hy] at hx; cases hx
        | some z => rw [hy] at hx; simp at hx; exact ⟨by rw [hx.1], hx.2.symm⟩
      obtain ⟨hy, rfl⟩ := hi
      obtain ⟨v, hv, hs⟩ := hsp k y hy
      have hlt : k < items.size := by
        by_cases h : k < items.size
        · exact h
        · rw [Array.getElem?_eq_none (Nat.not_lt.mp h)] at hv; cases hv
      refine W.item k s _ _ hlt st fun T vals h' tk hP hsz hT hm hk => ⟨_, rfl, ?_⟩
      obtain ⟨t, x', hx', rfl⟩ := hP
      rw [hv] at hx'; cases hx'
      have hTw := W.apart _ _ _ hm
      refine W.go elts j pos k T { s with heap := h', toks := tk } _ _ hm fun h'' st' hk' => ?_
      have hkk : ∀ b o, b ∉ [e, it] → s.heap.get? b = some o → h''.get? b = some o := fun b o hb x => hk' b o hb (hk b o hb x)
      refine hQ _ h'' tk (Rd_tuple.mpr ⟨T, #[.int k t, v], rfl, hf T (get_ge hsz), ?_, ?_⟩) st' hkk
      · obtain ⟨o, e1, e2⟩ := hT; exact ⟨o, hk' T o hTw e1, e2⟩
      · simp only [RdAll]
        exact ⟨_, _, rfl, Rd_int.mpr ⟨t, rfl⟩, v, [], rfl, Rd.mv (mv.trans (mv_but hw hkk)) (fun _ _ z _ => z) _ _ hs, rfl⟩
    done := fun s Q E st hQ => W.done s (fun r s₁ => r = none ∧ Q s₁) E (by rw [hlen]; simpa using st) fun h' tk hk => ⟨rfl, hQ h' tk hk⟩
    self := W.self }

/-- zip of two lists -/
theorem Src.zip {α : Type} {prog : Program} {w : World} {A : Around} (hh : A.handled = none) {elts : List Expr} {j : Nat} {pos : Pos} {z TI TO i1 i2 l1 l2 : Addr} (D : ZipApart z TI TO i1 i2 l1 l2) {xs ys : Array Value} {ok : Addr → Prop} {hB : Heap} {l : List α} {g g' : α → PyData}
    (hlen1 : xs.size = l.length) (hlen2 : ys.size = l.length) (hw : ∀ b ∈ [z, TO, i1, i2], ¬ ok b)
    (hsp : ∀ (i : Nat) (x : α), l[i]? = some x → ∃ v u, xs[i]? = some v ∧ ys[i]? = some u ∧ Rd ok hB (g x) v ∧ Rd ok hB (g' x) u) :
    Src prog w A (.Tuple elts j pos) z [z, TI, TO, i1, i2, l1, l2] [z, TO, i1, i2] ok hB l (fun p => .dat (.tuple [g p, g' p]))
      (fun i h => IsZip h z TI TO .none ∧ IsPair h TI (.ref i1) (.ref i2) ∧ (∃ a b, IsPair h TO a b) ∧ h.IsListIter i1 l1 i ∧ h.IsListIter i2 l2 i ∧ h.IsList l1 xs ∧ h.IsList l2 ys) := by
  have W := WalksT.zip2 (prog := prog) (w := w) hh z TI TO i1 i2 l1 l2 D xs ys
  have hn : min xs.size ys.size = l.length := by omega
  exact {
    sub := W.sub
    live := fun i h st b hb => by
      obtain ⟨hz, hTI, ⟨a, c, hTO⟩, ⟨o1, e1, _⟩, ⟨o2, e2, _⟩, _⟩ := st
      have : b = z ∨ b = TO ∨ b = i1 ∨ b = i2 := by simpa using hb
      rcases this with rfl | rfl | rfl | rfl
      · rw [hz]; exact fun x => nomatch x
      · rw [hTO]; exact fun x => nomatch x
      · rw [e1]; exact fun x => nomatch x
      · rw [e2]; exact fun x => nomatch x
    plain := fun i h st b hb o ho => by
      obtain ⟨hz, hTI, ⟨a, c, hTO⟩, h1, h2, h3, h4⟩ := st
      have : b = z ∨ b = TI ∨ b = TO ∨ b = i1 ∨ b = i2 ∨ b = l1 ∨ b = l2 := by simpa using hb
      rcases this with rfl | rfl | rfl | rfl | rfl | rfl | rfl
      · rw [hz] at ho; cases ho; exact nf_fields rfl
      · rw [hTI] at ho; cases ho; exact nf_seq rfl
      · rw [hTO] at ho; cases ho; exact nf_seq rfl
      · exact notFrame_listIter h1 ho
      · exact notFrame_listIter h2 ho
      · exact notFrame_list h3 ho
      · exact notFrame_list h4 ho
    frame := W.frame
    next := fun i x s Q E hx st mv hf hQ => by
      obtain ⟨v, u, hv, hu, hs, hs'⟩ := hsp i x hx
      have hlt : i < min xs.size ys.size := by rw [hn]; exact (List.getElem?_eq_some_iff.mp hx).1
      refine W.item i s _ _ hlt st fun T vals h' tk hP hsz hT hm hk => ⟨_, rfl, ?_⟩
      obtain ⟨a, b, ha, hb, rfl⟩ := hP
      rw [hv] at ha; cases ha
      rw [hu] at hb; cases hb
      have hTw := W.apart _ _ _ hm
      refine W.go elts j pos i T { s with heap := h', toks := tk } _ _ hm fun h'' st' hk' => ?_
      have hkk : ∀ b o, b ∉ [z, TO, i1, i2] → s.heap.get? b = some o → h''.get? b = some o := fun b o hb x => hk' b o hb (hk b o hb x)
      refine hQ _ h'' tk (Rd_tuple.mpr ⟨T, #[v, u], rfl, hf T (get_ge hsz), ?_, ?_⟩) st' hkk
      · obtain ⟨o, e1, e2⟩ := hT; exact ⟨o, hk' T o hTw e1, e2⟩
      · simp only [RdAll]
        exact ⟨_, _, rfl, Rd.mv (mv.trans (mv_but hw hkk)) (fun _ _ z _ => z) _ _ hs, u, [], rfl, Rd.mv (mv.trans (mv_but hw hkk)) (fun _ _ z _ => z) _ _ hs', rfl⟩
    done := fun s Q E st hQ => W.done s (fun r s₁ => r = none ∧ Q s₁) E (by rw [hn]; exact st) fun h' tk hk => ⟨rfl, hQ h' tk hk⟩
    self := W.self }

theorem ok_new {C : Cx} (hC : C.Ok) {s₀ : Shared} (k : Keeps C.s s₀) {b : Addr} (h : s₀.heap.get? b = none) : C.ok b := hC.ok b (Kp.none k h)
theorem lt_of_list {h : Heap} {a : Addr} {vs : Array Value} (x : h.IsList a vs) : a < h.objs.size := by obtain ⟨_, e, _⟩ := x; exact Heap.lt_size e
theorem rdAll_map_get {α : Type} {ok : Addr → Prop} {h : Heap} {l : List α} {g : α → PyData} {vs : Array Value} (x : RdAll ok h (l.map g) vs.toList) (i : Nat) (y : α) (hy : l[i]? = some y) : ∃ v, vs[i]? = some v ∧ Rd ok h (g y) v := by
  obtain ⟨v, h1, h2⟩ := x.get i (g y) (by simp [hy])
  exact ⟨v, by simpa using h1, h2⟩
/-- a list of data is walked item by item -/
theorem Iters.list {α : Type} {C : Cx} (hC : C.Ok) {target : Expr} {l : List α} {g : α → PyData} : Iters C target (fun _ h v => Rd C.ok h (.list (l.map g)) v) l (fun x => .dat (g x)) := fun s₀ s v k₀ k hv => by
  obtain ⟨ax, vs, rfl, okl, hl, hr⟩ := Rd_list.mp hv
  have hlt := lt_of_list hl
  refine wpAny_pyIter_list hl ⟨_, [s.heap.objs.size, ax], [s.heap.objs.size], (fun i h => h.IsListIter s.heap.objs.size ax i ∧ h.IsList ax vs), rfl, Kp.push _ _, fun b hb => ?_, fun b hb => (mem2 hb).elim (fun e => e ▸ ok_new hC k₀ (Kp.none k (get_size _))) (fun e => e ▸ okl), ⟨⟨_, Heap.get?_push_size _ rfl, rfl, rfl⟩, hl.push _⟩, fun b hb => ?_, fun ok' hw ho => ?_⟩
  · have : b = s.heap.objs.size := by simpa using hb
    subst this; exact Kp.none k (get_size _)
  · rcases mem2 hb with rfl | rfl
    · rw [Heap.get?_push_size _ rfl]; exact fun x => nomatch x
    · obtain ⟨o, e, _⟩ := hl; rw [Heap.get?_push_of_some _ e]; exact fun x => nomatch x
  · refine Src.list hC.hand (Nat.ne_of_lt hlt) (by rw [rdAll_size hr, List.length_map]) hw fun i x hx => ?_
    obtain ⟨v, h1, h2⟩ := rdAll_map_get hr i x hx
    refine ⟨v, h1, Rd.mv (.of_keep (Kp.get (Kp.push s _))) (fun a o h3 h4 => ho a o h3 (fun hm => ?_) (Heap.get?_push_of_some _ h4)) _ _ h2⟩
    have : a = s.heap.objs.size := by simpa using hm
    subst this; rw [get_size] at h4; cases h4
theorem Iters.tuple {α : Type} {C : Cx} (hC : C.Ok) {target : Expr} {l : List α} {g : α → PyData} : Iters C target (fun _ h v => Rd C.ok h (.tuple (l.map g)) v) l (fun x => .dat (g x)) := fun s₀ s v k₀ k hv => by
  obtain ⟨ax, vs, rfl, okl, hl, hr⟩ := Rd_tuple.mp hv
  have hlt : ax < s.heap.objs.size := by obtain ⟨_, e, _⟩ := hl; exact Heap.lt_size e
  refine wpAny_pyIter_tuple hl ⟨_, [s.heap.objs.size, ax], [s.heap.objs.size], (fun i h => h.IsTupleIter s.heap.objs.size ax i ∧ h.IsTuple ax vs), rfl, Kp.push _ _, fun b hb => ?_, fun b hb => (mem2 hb).elim (fun e => e ▸ ok_new hC k₀ (Kp.none k (get_size _))) (fun e => e ▸ okl), ⟨⟨_, Heap.get?_push_size _ rfl, rfl, rfl⟩, (by obtain ⟨o, e, r⟩ := hl; exact ⟨o, Heap.get?_push_of_some _ e, r⟩)⟩, fun b hb => ?_, fun ok' hw ho => ?_⟩
  · have : b = s.heap.objs.size := by simpa using hb
    subst this; exact Kp.none k (get_size _)
  · rcases mem2 hb with rfl | rfl
    · rw [Heap.get?_push_size _ rfl]; exact fun x => nomatch x
    · obtain ⟨o, e, _⟩ := hl; rw [Heap.get?_push_of_some _ e]; exact fun x => nomatch x
  · refine Src.tuple hC.hand (Nat.ne_of_lt hlt) (by rw [rdAll_size hr, List.length_map]) hw fun i x hx => ?_
    obtain ⟨v, h1, h2⟩ := rdAll_map_get hr i x hx
    refine ⟨v, h1, Rd.mv (.of_keep (Kp.get (Kp.push s _))) (fun a o h3 h4 => ho a o h3 (fun hm => ?_) (Heap.get?_push_of_some _ h4)) _ _ h2⟩
    have : a = s.heap.objs.size := by simpa using hm
    subst this; rw [get_size] at h4; cases h4
/-- a list of exact values -/
noncomputable def ListOf (ok : Addr → Prop) (us : List Value) (h : Heap) (v : Value) : Prop := ∃ a, v = .ref a ∧ ok a ∧ h.IsList a us.toArray
theorem Iters.vals {C : Cx} (hC : C.Ok) {target : Expr} {us : List Value} : Iters C target (fun _ h v => ListOf C.ok us h v) us (fun x => .val x) := fun s₀ s v k₀ k hv => by
  obtain ⟨ax, rfl, okl, hl⟩ := hv
  have hlt := lt_of_list hl
  refine wpAny_pyIter_list hl ⟨_, [s.heap.objs.size, ax], [s.heap.objs.size], (fun i h => h.IsListIter s.heap.objs.size ax i ∧ h.IsList ax us.toArray), rfl, Kp.push _ _, fun b hb => ?_, fun b hb => (mem2 hb).elim (fun e => e ▸ ok_new hC k₀ (Kp.none k (get_size _))) (fun e => e ▸ okl), ⟨⟨_, Heap.get?_push_size _ rfl, rfl, rfl⟩, hl.push _⟩, fun b hb => ?_, fun ok' hw ho => ?_⟩
  · have : b = s.heap.objs.size := by simpa using hb
    subst this; exact Kp.none k (get_size _)
  · rcases mem2 hb with rfl | rfl
    · rw [Heap.get?_push_size _ rfl]; exact fun x => nomatch x
    · obtain ⟨o, e, _⟩ := hl; rw [Heap.get?_push_of_some _ e]; exact fun x => nomatch x
  · exact Src.list hC.hand (Nat.ne_of_lt hlt) (by simp) hw fun i x hx => ⟨x, by simpa using hx, rfl⟩
theorem rangeSize_nat (n : Nat) : Builtin.Range.rangeSize 0 n 1 = n := by
  unfold Builtin.Range.rangeSize; simp <;> omega
theorem Iters.range {C : Cx} (hC : C.Ok) {x : Str} {p : Pos} {n : Nat} (hn : n ≤ 1000000) : Iters C (.Name x p) (fun _ h v => RangeOf C.ok 0 n 1 h v) (List.range n) (fun i => .dat (.int (i : Nat))) := fun s₀ s v k₀ k hv => by
  obtain ⟨r, t, u, u', rfl, hr⟩ := hv
  refine wpAny_pyIter_range hr (small_one (by omega) (by omega) (by omega) (by omega)) ⟨_, [s.heap.objs.size], [s.heap.objs.size], (fun i h => IsRangeIter h s.heap.objs.size (i : Nat) ((n : Int) - (i : Nat)) 1), rfl, Kp.push _ _, fun b hb => ?_, fun b hb => (List.mem_singleton.mp hb) ▸ ok_new hC k₀ (Kp.none k (get_size _)), ?_, fun b hb => ?_, fun ok' hw ho => Src.range (n := n) hC.hand hw⟩
  · have : b = s.heap.objs.size := by simpa using hb
    subst this; exact Kp.none k (get_size _)
  · rw [rangeSize_nat]
    have := Heap.get?_push_size s.heap (o := { cls := .type "range_iterator", data := .fields #[rawInt 0, rawInt n, rawInt 1] }) rfl
    simpa using this
  · have : b = s.heap.objs.size := by simpa using hb
    subst this; rw [Heap.get?_push_size _ rfl]; exact fun x => nomatch x

theorem Iters.enum {α : Type} {C : Cx} (hC : C.Ok) {elts : List Expr} {j : Nat} {pos : Pos} {l : List α} {g : α → PyData} :
    Iters C (.Tuple elts j pos) (fun h₀ h v => EnumOf C.ok (l.map g) h₀ h v) l.zipIdx (fun p => .dat (.tuple [.int (p.2 : Nat), g p.1])) := fun s₀ s v k₀ k hv => by
  obtain ⟨e, it, ax, vs, rfl, he, hi, hl, okl, hr, hf, d1, d2, d3⟩ := hv
  refine wpAny_pyIter_enum he ⟨e, [e, it, ax], [e, it], (fun i h => (∃ old, IsEnum h e it i old) ∧ h.IsListIter it ax i ∧ h.IsList ax vs), rfl, Kp.refl _, hf, fun b hb => (List.mem_cons.mp hb).elim (fun e' => ok_new hC k₀ (hf b (by simp [e']))) (fun hb => (mem2 hb).elim (fun e' => ok_new hC k₀ (hf b (by simp [e']))) fun e' => e' ▸ okl), ⟨⟨_, he⟩, hi, hl⟩, fun b hb => ?_, fun ok' hw ho => ?_⟩
  · have : b = e ∨ b = it ∨ b = ax := by simpa using hb
    rcases this with rfl | rfl | rfl
    · rw [he]; exact fun x => nomatch x
    · obtain ⟨o, e1, _⟩ := hi; rw [e1]; exact fun x => nomatch x
    · obtain ⟨o, e1, _⟩ := hl; rw [e1]; exact fun x => nomatch x
  · refine Src.enum hC.hand d1 d2 d3 (by rw [rdAll_size hr, List.length_map]) hw fun i x hx => ?_
    obtain ⟨v, h1, h2⟩ := rdAll_map_get hr i x hx
    exact ⟨v, h1, Rd.mv (.refl _ _) (fun a o h3 h4 => ho a o h3.1 h3.2 h4) _ _ h2⟩
theorem Iters.zip {α : Type} {C : Cx} (hC : C.Ok) {elts : List Expr} {j : Nat} {pos : Pos} {l : List α} {g g' : α → PyData} :
    Iters C (.Tuple elts j pos) (fun h₀ h v => ZipOf C.ok (l.map g) (l.map g') h₀ h v) l (fun p => .dat (.tuple [g p, g' p])) := fun s₀ s v k₀ k hv => by
  obtain ⟨z, TI, TO, i1, i2, l1, l2, xs, ys, rfl, hz, hTI, hTO, h1, h2, h3, h4, okl1, okl2, hTIn, hr1, hr2, hf, D⟩ := hv
  refine wpAny_pyIter_zip hz ⟨z, [z, TI, TO, i1, i2, l1, l2], [z, TO, i1, i2], (fun i h => IsZip h z TI TO .none ∧ IsPair h TI (.ref i1) (.ref i2) ∧ (∃ a b, IsPair h TO a b) ∧ h.IsListIter i1 l1 i ∧ h.IsListIter i2 l2 i ∧ h.IsList l1 xs ∧ h.IsList l2 ys), rfl, Kp.refl _, hf, (fun b hb => by
    have : b = z ∨ b = TI ∨ b = TO ∨ b = i1 ∨ b = i2 ∨ b = l1 ∨ b = l2 := by simpa using hb
    rcases this with rfl | rfl | rfl | rfl | rfl | rfl | rfl
    · exact ok_new hC k₀ (hf _ (by simp))
    · exact ok_new hC k₀ hTIn
    · exact ok_new hC k₀ (hf _ (by simp))
    · exact ok_new hC k₀ (hf _ (by simp))
    · exact ok_new hC k₀ (hf _ (by simp))
    · exact okl1
    · exact okl2), ⟨hz, hTI, ⟨_, _, hTO⟩, h1, h2, h3, h4⟩, fun b hb => ?_, fun ok' hw ho => ?_⟩
  · have : b = z ∨ b = TI ∨ b = TO ∨ b = i1 ∨ b = i2 ∨ b = l1 ∨ b = l2 := by simpa using hb
    rcases this with rfl | rfl | rfl | rfl | rfl | rfl | rfl
    · rw [hz]; exact fun x => nomatch x
    · rw [hTI]; exact fun x => nomatch x
    · rw [hTO]; exact fun x => nomatch x
    · obtain ⟨o, e1, _⟩ := h1; rw [e1]; exact fun x => nomatch x
    · obtain ⟨o, e1, _⟩ := h2; rw [e1]; exact fun x => nomatch x
    · obtain ⟨o, e1, _⟩ := h3; rw [e1]; exact fun x => nomatch x
    · obtain ⟨o, e1, _⟩ := h4; rw [e1]; exact fun x => nomatch x
  · refine Src.zip hC.hand D (by rw [rdAll_size hr1, List.length_map]) (by rw [rdAll_size hr2, List.length_map]) hw fun i x hx => ?_
    obtain ⟨v, e1, e2⟩ := rdAll_map_get hr1 i x hx
    obtain ⟨u, e3, e4⟩ := rdAll_map_get hr2 i x hx
    exact ⟨v, u, e1, e3, Rd.mv (.refl _ _) (fun a o h3 h4 => ho a o h3.1 h3.2 h4) _ _ e2, Rd.mv (.refl _ _) (fun a o h3 h4 => ho a o h3.1 h3.2 h4) _ _ e4⟩
end Mine
namespace Mine
/-! ## frames under other changes -/
theorem Fst.but {s₀ s : Shared} {N : List (Str × NameKind)} {env : Env} {ok : Addr → Prop} {ρ : List (Str × Sp)} (F : Fst s₀ N env ok ρ s) (W : List Addr) (hw0 : ∀ b ∈ W, s₀.heap.get? b = none) (hwok : ∀ b ∈ W, ¬ ok b)
    (hnf : ∀ b ∈ W, ∀ o, s.heap.get? b = some o → NotFrame o) {h' : Heap} {tk : Nat} (hk : ∀ b o, b ∉ W → s.heap.get? b = some o → h'.get? b = some o) : Fst s₀ N env ok ρ { s with heap := h', toks := tk } := by
  have hNs : ∀ m, s.heap.Ns env.locals m → h'.Ns env.locals m := fun m hn => by
    refine hn.at fun o e => hk _ o (fun hm => ?_) e
    obtain ⟨o', es, ep, e', d', _⟩ := hn
    rw [e] at e'; cases e'
    exact (hnf _ hm _ e).1 _ _ d'
  have hCl : ∀ c v, s.heap.IsCell c v → h'.IsCell c v := fun c v hc => by
    obtain ⟨o, e, d⟩ := hc
    exact ⟨o, hk _ o (fun hm => (hnf _ hm _ e).2 _ d) e, d⟩
  have mv : Mv ok s.heap h' := mv_but hwok hk
  refine ⟨?_, F.kind, F.ns.elim fun m x => ⟨m, hNs m x⟩, F.new, fun x c e => (F.cell x c e).elim fun v y => ⟨v, hCl c v y⟩, F.apart, F.own, fun x sp e => ?_⟩
  · exact ⟨fun b o e => hk b o (fun hm => by rw [hw0 b hm] at e; cases e) (F.keeps.get b o e), F.keeps.gens, F.keeps.os⟩
  · obtain ⟨v, a, b⟩ := F.names x sp e
    refine ⟨v, ?_, Sp.mv mv (fun _ _ z _ => z) b⟩
    rcases a with ⟨a1, m1, a2, a3⟩ | ⟨a1, c1, a2, a3⟩
    · exact .inl ⟨a1, m1, hNs m1 a2, a3⟩
    · exact .inr ⟨a1, c1, a2, hCl _ _ a3⟩
theorem Fst.sub {s₀ s : Shared} {N : List (Str × NameKind)} {env : Env} {ok : Addr → Prop} {ρ ρ' : List (Str × Sp)} (F : Fst s₀ N env ok ρ s) (h : ∀ x sp, ρ'.lookup x = some sp → ρ.lookup x = some sp) : Fst s₀ N env ok ρ' s :=
  ⟨F.keeps, F.kind, F.ns, F.new, F.cell, F.apart, F.own, fun x sp e => F.names x sp (h x sp e)⟩

/-- a comprehension's state between its turns -/
structure LI (s₀ : Shared) (N : List (Str × NameKind)) (env : Env) (ok : Addr → Prop) (ρ : List (Str × Sp)) (D : Addr) (hB : Heap) (ds : List PyData) (s : Shared) : Prop where
  F : Fst s₀ N env ok ρ s
  acc : ∃ vs : Array Value, s.heap.PlainList D vs ∧ RdAll ok s.heap ds vs.toList
  mv : Mv ok hB s.heap
theorem LI.sub {s₀ s : Shared} {N : List (Str × NameKind)} {env : Env} {ok : Addr → Prop} {ρ ρ' : List (Str × Sp)} {D : Addr} {hB : Heap} {ds : List PyData} (L : LI s₀ N env ok ρ D hB ds s) (h : ∀ x sp, ρ'.lookup x = some sp → ρ.lookup x = some sp) : LI s₀ N env ok ρ' D hB ds s :=
  ⟨L.F.sub h, L.acc, L.mv⟩
theorem LI.kp {s₀ s s' : Shared} {N : List (Str × NameKind)} {env : Env} {ok : Addr → Prop} {ρ : List (Str × Sp)} {D : Addr} {hB : Heap} {ds : List PyData} (L : LI s₀ N env ok ρ D hB ds s) (k : Keeps s s') : LI s₀ N env ok ρ D hB ds s' :=
  ⟨L.F.kp k, L.acc.elim fun vs ⟨⟨n, a⟩, b⟩ => ⟨vs, ⟨n, Kp.get k _ _ a⟩, b.kp k⟩, L.mv.trans (.of_keep (Kp.get k))⟩
theorem LI.but {s₀ s : Shared} {N : List (Str × NameKind)} {env : Env} {ok : Addr → Prop} {ρ : List (Str × Sp)} {D : Addr} {hB : Heap} {ds : List PyData} (L : LI s₀ N env ok ρ D hB ds s) (W : List Addr) (hw0 : ∀ b ∈ W, s₀.heap.get? b = none) (hwok : ∀ b ∈ W, ¬ ok b)
    (hnf : ∀ b ∈ W, ∀ o, s.heap.get? b = some o → NotFrame o) (hD : D ∉ W) {h' : Heap} {tk : Nat} (hk : ∀ b o, b ∉ W → s.heap.get? b = some o → h'.get? b = some o) : LI s₀ N env ok ρ D hB ds { s with heap := h', toks := tk } :=
  ⟨L.F.but W hw0 hwok hnf hk, L.acc.elim fun vs ⟨⟨n, a⟩, b⟩ => ⟨vs, ⟨n, hk _ _ hD a⟩, RdAll.mv (mv_but hwok hk) (fun _ _ z _ => z) _ _ b⟩, L.mv.trans (mv_but hwok hk)⟩

noncomputable def testsOf (ifs : List Expr) (env : Env) : Sem Bool := forIn ifs true fun c r => if r = true then do let ok ← isTrue c env (eval c env); pure (ForInStep.yield ok) else pure (ForInStep.yield r)
noncomputable def turnOf (e : Expr) (d : Nat) (it acc : Value) (env : Env) (target : Expr) (p : Pos) (ifs : List Expr) (emit : Sem Unit) : Sem Fin := do
  standAt p
  match ← pyNext it with
  | none => pure (.done .next)
  | some v =>
    letOwnedTupleGo target it v
    assign target env v
    let ok ← testsOf ifs env
    if ok then emit
    again (.compLoop e d it acc env)

theorem lookup_append_none {β : Type} {l r : List (Str × β)} {x : Str} (h : l.lookup x = none) : (l ++ r).lookup x = r.lookup x := by rw [List.lookup_append, h]; rfl

theorem comp_loop {α : Type} {prog : Program} {w : World} {A : Around} {R : Result → Shared → Prop} {e : Expr} {d : Nat} {I D : Addr} {env : Env} {target : Expr} {p : Pos} {ifs : List Expr} {emit : Sem Unit} {s₀ s : Shared} {N : List (Str × NameKind)} {ok : Addr → Prop} {ρ : List (Str × Sp)} {hB : Heap}
    {fp wr : List Addr} {l : List α} {sp : α → Sp} {St : Nat → Heap → Prop} (hh : A.handled = none)
    (hc : (Code.compLoop e d (.ref I) (.ref D) env).isFrame = false)
    (hturn : compTurn e d (.ref I) (.ref D) env = turnOf e d (.ref I) (.ref D) env target p ifs emit)
    (hun : A.under (.compLoop e d (.ref I) (.ref D) env) = A)
    (S : Src prog w A target I fp wr ok hB l sp St)
    (bs : α → List (Str × Sp)) (hasg : ∀ x ∈ l, Asg target (sp x) (bs x)) (hown : ∀ x ∈ l, ∀ b ∈ bs x, Own N env b.1) (hsh : ∀ x ∈ l, ∀ y sp', ρ.lookup y = some sp' → (bs x).lookup y = none)
    (hw0 : ∀ b ∈ wr, s₀.heap.get? b = none) (hwok : ∀ b ∈ wr, ¬ ok b) (hDf : D ∉ fp)
    (hfresh : ∀ s i, Fst s₀ N env ok ρ s → (∃ vs, s.heap.PlainList D vs) → St i s.heap → ∀ a, s.heap.get? a = none → ok a)
    (q : α → Bool) (out : α → List PyData)
    (htest : ∀ x ∈ l, ∀ s, Fst s₀ N env ok (bs x ++ ρ) s → (∀ a, s.heap.get? a = none → ok a) → wpAny (model prog w) A (testsOf ifs env) (fun r s' => Keeps s s' ∧ r = q x) (fun _ _ => False) s)
    {ds₀ : List PyData} (hlen : (ds₀ ++ (l.filter q).flatMap out).length ≤ 1000000)
    (hemit : ∀ x ∈ l, q x = true → ∀ i ds s, ds.length ≤ 1000000 → LI s₀ N env ok (bs x ++ ρ) D hB ds s → St i s.heap → (∀ a, s.heap.get? a = none → ok a) →
      wpAny (model prog w) A emit (fun _ s' => LI s₀ N env ok (bs x ++ ρ) D hB (ds ++ out x) s' ∧ St i s'.heap) (fun _ _ => False) s)
    (hL : LI s₀ N env ok ρ D hB ds₀ s) (hst : St 0 s.heap)
    (hR : ∀ s', LI s₀ N env ok ρ D hB (ds₀ ++ (l.filter q).flatMap out) s' → R (.ok .next) s') :
    codeAny (model prog w) A (.compLoop e d (.ref I) (.ref D) env) R s := by
  have hDw : D ∉ wr := fun h => hDf (S.sub _ h)
  have hpre : ∀ i, (ds₀ ++ ((l.take i).filter q).flatMap out).length ≤ 1000000 := fun i => by
    have e : (l.filter q).flatMap out = ((l.take i).filter q).flatMap out ++ ((l.drop i).filter q).flatMap out := by
      rw [← List.flatMap_append, ← List.filter_append, List.take_append_drop]
    rw [e] at hlen
    simp only [List.length_append] at hlen ⊢
    omega
  refine codeAny_loop (by cases e <;> rfl) (fun k s' => ∃ i, i ≤ l.length ∧ k = l.length + 1 - i ∧ LI s₀ N env ok ρ D hB (ds₀ ++ ((l.take i).filter q).flatMap out) s' ∧ St i s'.heap) (fun k s' hI => ?_) (l.length + 1) ⟨0, Nat.zero_le _, rfl, by simpa using hL, hst⟩
  obtain ⟨i, hi, rfl, L, st⟩ := hI
  rw [hun]
  show wpAny _ A (if (Code.compLoop e d (.ref I) (.ref D) env).isFrame then (compTurn e d (.ref I) (.ref D) env).onRaise (leaving env) else (compTurn e d (.ref I) (.ref D) env).onRaise (fun x => do noteFrame x env; theTreesLotGoes x)) _ _ s'
  rw [hc, hturn]
  refine wpAny_noted ?_
  suffices main : ∀ Qf : Fin → Shared → Prop, (∀ s₁, R (.ok .next) s₁ → Qf (.done .next) s₁) →
      (∀ s₁, (∃ j, j ≤ l.length ∧ i < j ∧ LI s₀ N env ok ρ D hB (ds₀ ++ ((l.take j).filter q).flatMap out) s₁ ∧ St j s₁.heap) → Qf (.again (.compLoop e d (.ref I) (.ref D) env)) s₁) →
      wpAny (model prog w) A (turnOf e d (.ref I) (.ref D) env target p ifs emit) Qf (fun _ _ => False) s' from
    wpAny_mono (main _ (fun s₁ h => h) fun s₁ ⟨j, h1, h2, h3, h4⟩ => ⟨rfl, l.length + 1 - j, by omega, j, h1, rfl, h3, h4⟩) (fun _ _ y => y) fun _ _ y => y.elim
  intro Qf hdone hagain
  unfold turnOf
  refine wpAny_bind (wpAny_standAt (wpAny_bind ?_))
  by_cases hlt : i < l.length
  · have hx : l[i]? = some l[i] := List.getElem?_eq_getElem hlt
    generalize hxe : l[i] = x at hx
    have hxm : x ∈ l := List.mem_of_getElem? hx
    refine wpAny_mono (S.next i x s' (fun v s₂ => wpAny (model prog w) A (assign target env v) (fun _ s₃ => wpAny (model prog w) A (do
        let ok ← testsOf ifs env
        if ok then emit
        again (.compLoop e d (.ref I) (.ref D) env)) Qf (fun _ _ => False) s₃) (fun _ _ => False) s₂) (fun _ _ => False) hx st L.mv (hfresh s' i L.F (L.acc.elim fun vs a => ⟨vs, a.1⟩) st) fun v h' tk hv st' hk => ?_) (fun r s₁ hr => ?_) fun _ _ y => y.elim
    rotate_left
    · obtain ⟨v, rfl, hg⟩ := hr
      exact wpAny_bind (wpAny_mono hg (fun _ s₂ h₂ => wpAny_bind h₂) fun _ _ y => y.elim)
    have L1 : LI s₀ N env ok ρ D hB (ds₀ ++ ((l.take i).filter q).flatMap out) { s' with heap := h', toks := tk } := L.but wr hw0 hwok (fun b hb o ho => S.plain i _ st b (S.sub b hb) o ho) hDw hk
    refine assign_ok hh (hasg x hxm) L1.F hv (hown x hxm) fun s₃ F₃ ms₃ => ?_
    have m₃ := ms₃.mv
    have st₃ : St (i + 1) s₃.heap := S.frame _ _ _ st' fun b hb o ho => m₃ b o trivial ho (S.plain _ _ st' b hb o ho).1 (S.plain _ _ st' b hb o ho).2
    have L3 : LI s₀ N env ok (bs x ++ ρ) D hB (ds₀ ++ ((l.take i).filter q).flatMap out) s₃ := by
      refine ⟨F₃, ?_, L1.mv.trans m₃.of_true⟩
      obtain ⟨vs, ⟨n, a⟩, b⟩ := L1.acc
      exact ⟨vs, ⟨n, m₃ _ _ trivial a (fun _ _ y => nomatch y) (fun _ y => nomatch y)⟩, RdAll.mv m₃.of_true (fun _ _ z _ => z) _ _ b⟩
    have back : ∀ y sp', ρ.lookup y = some sp' → (bs x ++ ρ).lookup y = some sp' := fun y sp' hy => by rw [lookup_append_none (hsh x hxm y sp' hy)]; exact hy
    have fr : ∀ {ds : List PyData} {s : Shared} {j : Nat}, LI s₀ N env ok (bs x ++ ρ) D hB ds s → St j s.heap → ∀ a, s.heap.get? a = none → ok a := fun {ds s j} L st => hfresh s j (L.F.sub back) (L.acc.elim fun vs a => ⟨vs, a.1⟩) st
    refine wpAny_bind (wpAny_mono (htest x hxm s₃ F₃ (fr L3 st₃)) (fun r s₄ hr => ?_) fun _ _ y => y.elim)
    obtain ⟨k₄, rfl⟩ := hr
    have L4 := L3.kp k₄
    have st₄ : St (i + 1) s₄.heap := S.frame _ _ _ st₃ fun b _ o ho => Kp.get k₄ b o ho
    have tk1 : l.take (i + 1) = l.take i ++ [x] := by rw [List.take_add_one, hx]; rfl
    cases hq : q x with
    | false =>
      simp only [Bool.false_eq_true, if_false]
      refine wpAny_pure (hagain _ ⟨i + 1, hlt, Nat.lt_succ_self _, ?_, st₄⟩)
      rw [tk1, List.filter_append]
      simpa [hq] using L4.sub back
    | true =>
      simp only [if_true]
      refine wpAny_bind (wpAny_mono (hemit x hxm hq (i + 1) _ s₄ (hpre i) L4 st₄ (fr L4 st₄)) (fun _ s₅ h₅ => ?_) fun _ _ y => y.elim)
      refine wpAny_pure (hagain _ ⟨i + 1, hlt, Nat.lt_succ_self _, ?_, h₅.2⟩)
      rw [tk1, List.filter_append]
      have := h₅.1.sub back
      simpa [hq] using this
  · have hil : i = l.length := by omega
    subst hil
    refine wpAny_mono (S.done s' (fun s₁ => R (.ok .next) s₁) (fun _ _ => False) st fun h' tk hk => hR _ ?_) (fun r s₁ hr => ?_) fun _ _ y => y.elim
    · have := L.but (tk := tk) wr hw0 hwok (fun b hb o ho => S.plain _ _ st b (S.sub b hb) o ho) hDw hk
      simpa using this
    · obtain ⟨rfl, hr⟩ := hr
      exact wpAny_pure (hdone _ hr)
end Mine
namespace Mine
/-! ## a comprehension's frame -/
noncomputable def clFrom (cells : List (Str × Addr)) : List (Str × NameKind) → List (Str × Addr) → List (Str × Addr)
  | [], acc => acc
  | (n, k) :: r, acc => if k == .free then clFrom cells r ((n, (cells.lookup n).getD 0) :: acc) else clFrom cells r acc
theorem closureFor_eq {scope : Scope} {env : Env} (h : ∀ n, (n, NameKind.free) ∈ scope.names → ∃ c, env.cells.lookup n = some c) : closureFor scope env = pure (clFrom env.cells scope.names []) := by
  have key : ∀ (names : List (Str × NameKind)) (acc : List (Str × Addr)) (f : Str × NameKind → List (Str × Addr) → Sem (ForInStep (List (Str × Addr)))),
      (∀ n k cs, f (n, k) cs = if (k == .free) = true then (do let a ← cellOf env n; pure (.yield ((n, a) :: cs))) else pure (.yield cs)) →
      (∀ n, (n, NameKind.free) ∈ names → ∃ c, env.cells.lookup n = some c) → forIn names acc f = pure (clFrom env.cells names acc) := by
    intro names
    induction names with
    | nil => intro acc f _ _; rfl
    | cons x r ih =>
      intro acc f hf hn
      obtain ⟨n, k⟩ := x
      rw [List.forIn_cons, hf]
      unfold clFrom
      by_cases hk : (k == NameKind.free) = true
      · rw [if_pos hk, if_pos hk]
        have hk' : k = .free := by simpa using hk
        subst hk'
        obtain ⟨c, hc⟩ := hn n List.mem_cons_self
        unfold cellOf
        rw [hc]
        simp only [pure_bind, Option.getD_some]
        exact ih _ f hf fun m hm => hn m (List.mem_cons_of_mem _ hm)
      · rw [if_neg hk, if_neg hk]
        simp only [pure_bind]
        exact ih _ f hf fun m hm => hn m (List.mem_cons_of_mem _ hm)
  unfold closureFor
  show (forIn scope.names [] _ >>= fun cs => pure cs) = _
  rw [key scope.names [] _ (fun n k cs => by cases k <;> rfl) h]
  rfl
theorem clFrom_mem {cells : List (Str × Addr)} : ∀ (names : List (Str × NameKind)) (acc : List (Str × Addr)) (n : Str) (c : Addr), (n, c) ∈ clFrom cells names acc → (n, c) ∈ acc ∨ ((n, NameKind.free) ∈ names ∧ c = (cells.lookup n).getD 0)
  | [], acc, n, c, h => .inl h
  | (m, k) :: r, acc, n, c, h => by
    unfold clFrom at h
    split at h
    · rename_i hk
      have hk' : k = .free := by simpa using hk
      subst hk'
      rcases clFrom_mem r _ n c h with h | ⟨h1, h2⟩
      · rcases List.mem_cons.mp h with e | h
        · cases e; exact .inr ⟨List.mem_cons_self, rfl⟩
        · exact .inl h
      · exact .inr ⟨List.mem_cons_of_mem _ h1, h2⟩
    · rcases clFrom_mem r _ n c h with h | ⟨h1, h2⟩
      · exact .inl h
      · exact .inr ⟨List.mem_cons_of_mem _ h1, h2⟩
theorem clFrom_has {cells : List (Str × Addr)} : ∀ (names : List (Str × NameKind)) (acc : List (Str × Addr)) (n : Str), (n, NameKind.free) ∈ names → (n, (cells.lookup n).getD 0) ∈ clFrom cells names acc
  | (m, k) :: r, acc, n, h => by
    unfold clFrom
    rcases List.mem_cons.mp h with e | h
    · cases e
      rw [if_pos (by rfl)]
      exact keep r _ _ List.mem_cons_self
    · split
      · exact clFrom_has r _ n h
      · exact clFrom_has r _ n h
where
  keep : ∀ (names : List (Str × NameKind)) (acc : List (Str × Addr)) (x : Str × Addr), x ∈ acc → x ∈ clFrom cells names acc
    | [], acc, x, h => h
    | (m, k) :: r, acc, x, h => by
      unfold clFrom
      split
      · exact keep r _ x (List.mem_cons_of_mem _ h)
      · exact keep r _ x h
theorem clFrom_names {cells : List (Str × Addr)} : ∀ (names : List (Str × NameKind)) (acc : List (Str × Addr)), (names.map (·.1)).Nodup → (∀ x ∈ acc, x.1 ∉ names.map (·.1)) → (acc.map (·.1)).Nodup → ((clFrom cells names acc).map (·.1)).Nodup
  | [], acc, _, _, h => h
  | (m, k) :: r, acc, hn, hd, h => by
    have hn' := List.nodup_cons.mp hn
    unfold clFrom
    split
    · refine clFrom_names r _ hn'.2 (fun x hx => ?_) ?_
      · rcases List.mem_cons.mp hx with rfl | hx
        · exact hn'.1
        · exact fun hm => hd x hx (List.mem_cons_of_mem _ hm)
      · rw [List.map_cons, List.nodup_cons]
        exact ⟨fun hm => by obtain ⟨x, hx, e⟩ := List.mem_map.mp hm; exact hd x hx (by rw [e]; exact List.mem_cons_self), h⟩
    · exact clFrom_names r _ hn'.2 (fun x hx hm => hd x hx (List.mem_cons_of_mem _ hm)) h
theorem cellsFrom_mem : ∀ (names : List (Str × NameKind)) (n : Nat) (acc : List (Str × Addr)) (x : Str) (c : Addr), (x, c) ∈ cellsFrom n names acc → (x, c) ∈ acc ∨ (@LE.le Nat _ n c ∧ (x, NameKind.cell) ∈ names)
  | [], n, acc, x, c, h => .inl h
  | (m, k) :: r, n, acc, x, c, h => by
    unfold cellsFrom at h
    split at h
    · rename_i hk
      have hk' : k = .cell := by simpa using hk
      subst hk'
      rcases cellsFrom_mem r _ _ x c h with h | ⟨h1, h2⟩
      · rcases List.mem_cons.mp h with e | h
        · cases e; exact .inr ⟨Nat.le_refl _, List.mem_cons_self⟩
        · exact .inl h
      · exact .inr ⟨Nat.le_trans (Nat.le_succ _) h1, List.mem_cons_of_mem _ h2⟩
    · rcases cellsFrom_mem r _ _ x c h with h | ⟨h1, h2⟩
      · exact .inl h
      · exact .inr ⟨h1, List.mem_cons_of_mem _ h2⟩
theorem cellsFrom_apart : ∀ (names : List (Str × NameKind)) (n : Nat) (acc : List (Str × Addr)), acc.Pairwise (fun x y => x.2 ≠ y.2) → (∀ x ∈ acc, @LT.lt Nat _ x.2 n) → (cellsFrom n names acc).Pairwise (fun x y => x.2 ≠ y.2)
  | [], n, acc, h, _ => h
  | (m, k) :: r, n, acc, h, hl => by
    unfold cellsFrom
    split
    · refine cellsFrom_apart r _ _ (List.pairwise_cons.mpr ⟨fun y hy e => ?_, h⟩) fun x hx => ?_
      · have := hl y hy; have e' : n = y.2 := e; omega
      · rcases List.mem_cons.mp hx with rfl | hx
        · exact Nat.lt_succ_self _
        · exact Nat.lt_succ_of_lt (hl x hx)
    · exact cellsFrom_apart r n acc h hl
theorem cellsFrom_cell : ∀ (names : List (Str × NameKind)) (h : Heap) (acc : List (Str × Addr)) (x : Str) (c : Addr), (x, c) ∈ cellsFrom h.objs.size names acc → (x, c) ∈ acc ∨ (pushCells h names).IsCell c none
  | [], h, acc, x, c, hm => .inl hm
  | (m, k) :: r, h, acc, x, c, hm => by
    unfold cellsFrom at hm
    unfold pushCells
    split at hm
    · rename_i hk
      rw [if_pos hk]
      rw [show h.objs.size + 1 = (h.push { cls := .type "cell", data := .cell none }).objs.size from (Heap.size_push ..).symm] at hm
      rcases cellsFrom_cell r _ _ x c hm with h1 | h1
      · rcases List.mem_cons.mp h1 with e | h1
        · cases e
          exact .inr ⟨_, pushCells_keeps _ _ _ _ (Heap.get?_push_size _ rfl), rfl⟩
        · exact .inl h1
      · exact .inr h1
    · rename_i hk
      rw [if_neg hk]
      exact cellsFrom_cell r h acc x c hm
theorem cellsFrom_lookup {x : Str} : ∀ (names : List (Str × NameKind)) (n : Nat) (acc : List (Str × Addr)), (x, NameKind.cell) ∉ names → (cellsFrom n names acc).lookup x = acc.lookup x
  | [], n, acc, _ => rfl
  | (m, k) :: r, n, acc, h => by
    unfold cellsFrom
    split
    · rename_i hk
      have hk' : k = .cell := by simpa using hk
      subst hk'
      rw [cellsFrom_lookup r _ _ fun hm => h (List.mem_cons_of_mem _ hm), List.lookup_cons]
      have : (x == m) = false := by
        simp only [beq_eq_false_iff_ne, ne_eq]
        rintro rfl; exact h List.mem_cons_self
      rw [this]
    · exact cellsFrom_lookup r _ _ fun hm => h (List.mem_cons_of_mem _ hm)
theorem lookup_of_nodup {β : Type} : ∀ {l : List (Str × β)} {n : Str} {c : β}, (l.map (·.1)).Nodup → (n, c) ∈ l → l.lookup n = some c
  | (m, b) :: r, n, c, hn, h => by
    rw [List.lookup_cons]
    rw [List.map_cons, List.nodup_cons] at hn
    rcases List.mem_cons.mp h with e | h'
    · cases e; simp
    · have : (n == m) = false := by
        simp only [beq_eq_false_iff_ne, ne_eq]
        intro e; exact hn.1 (by rw [← e]; exact List.mem_map_of_mem (f := (·.1)) h')
      rw [this]; exact lookup_of_nodup hn.2 h'
theorem apart_of_names {l cells : List (Str × Addr)} (hp : cells.Pairwise fun x y => x.2 ≠ y.2) (hm : ∀ n c, (n, c) ∈ l → cells.lookup n = some c) (hn : (l.map (·.1)).Nodup) : l.Pairwise fun x y => x.2 ≠ y.2 := by
  induction l with
  | nil => exact List.Pairwise.nil
  | cons x r ih =>
    rw [List.map_cons, List.nodup_cons] at hn
    refine List.pairwise_cons.mpr ⟨fun y hy e => ?_, ih (fun n c h => hm n c (List.mem_cons_of_mem _ h)) hn.2⟩
    obtain ⟨n, c⟩ := x; obtain ⟨n', c'⟩ := y
    have e' : c = c' := e
    subst e'
    have := name_of_addr hp (mem_of_lookup (hm n c List.mem_cons_self)) (mem_of_lookup (hm n' c (List.mem_cons_of_mem _ hy)))
    subst this
    exact hn.1 (List.mem_map_of_mem (f := (·.1)) hy)

/-- the environment that a comprehension makes -/
noncomputable def compE (scope : Scope) (L : Addr) (env : Env) : Env :=
  { scope := relabel scope env, locals := L, globals := env.globals, cells := cellsFrom (L + 1) scope.names (clFrom env.cells scope.names []), qual := env.qual, func := none, code := env.code, frame := env.frame, builtins := env.builtins }
theorem newEnv_comp {M : Model} {A : Around} {E : Value → Shared → Prop} {s : Shared} {env : Env} {scope : Scope} {cl : List (Str × Addr)} {Q : Env → Shared → Prop}
    (h : Q { scope := scope, locals := s.heap.objs.size, globals := env.globals, cells := cellsFrom (s.heap.objs.size + 1) scope.names cl, qual := env.qual, func := none, code := env.code, frame := env.frame, builtins := env.builtins }
      { s with heap := pushCells (s.heap.push { cls := .type "dict", data := .dict #[] }) scope.names }) :
    wpAny M A (newFunctionEnv scope env.globals cl [] env.qual none .none (some env)) Q E s := by
  simp only [newFunctionEnv, Option.isSome_some, if_true]
  refine wpAny_bind (wpAny_alloc ?_)
  refine wpAny_bind (wpAny_layCells _ (fun name kind cells => by cases hkc : kind == NameKind.cell <;> simp) _ _ _ _ ?_)
  rw [show ({ s with heap := s.heap.push { cls := .type "dict", data := .dict #[] } } : Shared).heap.objs.size = s.heap.objs.size + 1 from Heap.size_push ..]
  exact wpAny_bind (wpAny_pure (wpAny_pure h))

noncomputable def freeOf (scope : Scope) (ρ : List (Str × Sp)) : List (Str × Sp) := ρ.filter fun p => scope.names.lookup p.1 == some .free
theorem freeOf_lookup {scope : Scope} : ∀ {ρ : List (Str × Sp)} {x : Str} {sp : Sp}, (freeOf scope ρ).lookup x = some sp → ρ.lookup x = some sp ∧ scope.names.lookup x = some .free
  | [], x, sp, h => by simp [freeOf] at h
  | (y, t) :: r, x, sp, h => by
    unfold freeOf at h
    rw [List.filter_cons] at h
    rw [List.lookup_cons]
    by_cases hy : (scope.names.lookup y == some NameKind.free) = true
    · simp only [hy, if_true] at h
      rw [List.lookup_cons] at h
      cases hb : x == y with
      | true =>
        rw [hb] at h
        simp only at h ⊢
        have : x = y := by simpa using hb
        subst this
        exact ⟨h, by simpa using hy⟩
      | false => rw [hb] at h; exact freeOf_lookup h
    · simp only [hy] at h
      have ih := freeOf_lookup (ρ := r) h
      cases hb : x == y with
      | true =>
        have : x = y := by simpa using hb
        subst this
        exact absurd (by rw [ih.2]; rfl) hy
      | false => exact ih
end Mine
namespace Mine
noncomputable abbrev Cx.inner (C : Cx) (env : Env) (ok : Addr → Prop) (s : Shared) (ρ : List (Str × Sp)) : Cx := { C with env := env, ok := ok, s := s, ρ := ρ }
noncomputable abbrev Cx.at (C : Cx) (s : Shared) : Cx := { C with s := s }
theorem Cx.Ok.at {C : Cx} (hC : C.Ok) {s : Shared} (k : Keeps C.s s) : (C.at s).Ok where
  kind := hC.kind
  ok := fun a h => hC.ok a (Kp.none k h)
  names := fun x sp e => (hC.names x sp e).elim fun v ⟨a, b⟩ => ⟨v, a.keep (Kp.get k), Sp.kp b k⟩
  eg := hC.eg
  eb := hC.eb
  g := hC.g.keeps (Kp.get k)
  b := hC.b.keeps (Kp.get k)
  hand := hC.hand
  units := hC.units
  pyl := fun s' k' => hC.pyl s' (Kp.trans k k')
  apart := hC.apart

noncomputable def TestsOk (C : Cx) (ifs : List Expr) (b : Bool) : Prop := ∀ s, Keeps C.s s → wpAny (model C.prog C.w) C.A (testsOf ifs C.env) (fun r s' => Keeps s s' ∧ r = b) (fun _ _ => False) s
theorem TestsOk.nil {C : Cx} : TestsOk C [] true := fun s k => wpAny_pure ⟨Kp.refl _, rfl⟩
theorem TestsOk.one {C : Cx} {c : Expr} {b : Bool} (h : Ts C c b) : TestsOk C [c] b := fun s k => wpAny_tests_one (h s k)

theorem lookup_map_kind {g : Str → NameKind → NameKind} {f : Str × NameKind → Str × NameKind} (hf : ∀ n k, f (n, k) = (n, g n k)) : ∀ (names : List (Str × NameKind)) (x : Str), (names.map f).lookup x = (names.lookup x).map (g x)
  | [], _ => rfl
  | (n, k) :: r, x => by
    rw [List.map_cons, hf, List.lookup_cons, List.lookup_cons]
    cases hb : x == n with
    | true =>
      have : x = n := by simpa using hb
      subst this; rfl
    | false => exact lookup_map_kind hf r x
theorem relabel_lookup (scope : Scope) (env : Env) (x : Str) : (relabel scope env).names.lookup x = (scope.names.lookup x).map fun k => if (k == NameKind.free && env.scope.kind == .function && env.kindOf x == some .cell) then NameKind.cell else k :=
  lookup_map_kind (g := fun n k => if (k == NameKind.free && env.scope.kind == .function && env.kindOf n == some .cell) then NameKind.cell else k) (fun n k => by dsimp only; split <;> rfl) scope.names x
theorem relabel_free {scope : Scope} {env : Env} {x : Str} (h : scope.names.lookup x = some .free) : (relabel scope env).names.lookup x = some .cell ∨ (relabel scope env).names.lookup x = some .free := by
  rw [relabel_lookup, h, Option.map_some]
  split
  · exact .inl rfl
  · exact .inr rfl
theorem relabel_cell {scope : Scope} {env : Env} {x : Str} (h : scope.names.lookup x = some .cell) : (relabel scope env).names.lookup x = some .cell := by rw [relabel_lookup, h]; rfl
theorem relabel_global {scope : Scope} {env : Env} {x : Str} (h : scope.names.lookup x = some .globalImplicit) : (relabel scope env).names.lookup x = some .globalImplicit := by rw [relabel_lookup, h]; rfl

/-- what is looked at once of a comprehension's names -/
noncomputable def scopeOk (scope : Scope) (ρ : List (Str × Sp)) (kindOf : Str → Option NameKind) (tn : List Str) : Bool :=
  scope.kind == .function && decide ((scope.names.map (·.1)).Nodup) &&
  scope.names.all (fun p => p.2 != .free || ((ρ.lookup p.1).isSome && kindOf p.1 != some .local && p.1 != ("__classdict__" : Str))) &&
  tn.all (fun x => scope.names.lookup x == some .local || scope.names.lookup x == some .cell)
structure ScopeIs (scope : Scope) (ρ : List (Str × Sp)) (kindOf : Str → Option NameKind) (tn : List Str) : Prop where
  kind : scope.kind = .function
  nodup : (scope.names.map (·.1)).Nodup
  free : ∀ n, (n, NameKind.free) ∈ scope.names → (∃ sp, ρ.lookup n = some sp) ∧ kindOf n ≠ some .local ∧ (n == ("__classdict__" : Str)) = false
  tn : ∀ x ∈ tn, scope.names.lookup x = some .local ∨ scope.names.lookup x = some .cell
theorem scopeIs_of {scope : Scope} {ρ : List (Str × Sp)} {kindOf : Str → Option NameKind} {tn : List Str} (h : scopeOk scope ρ kindOf tn = true) : ScopeIs scope ρ kindOf tn := by
  unfold scopeOk at h
  simp only [Bool.and_eq_true, decide_eq_true_eq, beq_iff_eq] at h
  obtain ⟨⟨⟨h1, h2⟩, h3⟩, h4⟩ := h
  refine ⟨h1, h2, fun n hn => ?_, fun x hx => ?_⟩
  · have := List.all_eq_true.mp h3 _ hn
    rw [Bool.or_eq_true] at this
    rcases this with h | h
    · exact absurd (show (NameKind.free != NameKind.free) = true from h) (by decide)
    · rw [Bool.and_eq_true, Bool.and_eq_true] at h
      exact ⟨Option.isSome_iff_exists.mp h.1.1, by simpa using h.1.2, by simpa using h.2⟩
  · have := List.all_eq_true.mp h4 _ hx
    simpa using this

theorem nodup_not_cell {names : List (Str × NameKind)} (hn : (names.map (·.1)).Nodup) {x : Str} {k : NameKind} (h : names.lookup x = some k) (hk : k ≠ .cell) : (x, NameKind.cell) ∉ names := fun hm => by
  rw [lookup_of_nodup hn hm] at h; cases h; exact hk rfl

theorem compE_fst {C : Cx} (hC : C.Ok) {scope : Scope} {tn : List Str} (hs : ScopeIs scope C.ρ C.env.kindOf tn) {s₀ s : Shared} (k₀ : Keeps C.s s₀) (k : Keeps s₀ s) {ok' : Addr → Prop} (hok : ∀ a o, C.ok a → C.s.heap.get? a = some o → ok' a) :
    Fst s₀ scope.names (compE scope s.heap.objs.size C.env) ok' (freeOf scope C.ρ) { s with heap := pushCells (s.heap.push { cls := .type "dict", data := .dict #[] }) scope.names } := by
  have keep : ∀ b o, s.heap.get? b = some o → (pushCells (s.heap.push { cls := .type "dict", data := .dict #[] }) scope.names).get? b = some o := fun b o e => pushCells_keeps _ _ _ _ (Heap.get?_push_of_some _ e)
  have ks : Keeps s { s with heap := pushCells (s.heap.push { cls := .type "dict", data := .dict #[] }) scope.names } := Kp.of keep s.toks
  have k2 := Kp.trans (Kp.trans k₀ k) ks
  -- the closure's cells
  have hcl : ∀ n, (n, NameKind.free) ∈ scope.names → ∃ c v sp, C.env.cells.lookup n = some c ∧ C.ρ.lookup n = some sp ∧ C.s.heap.IsCell c (some v) ∧ sp.on C.ok C.s.heap v := fun n hn => by
    obtain ⟨⟨sp, e⟩, h2, _⟩ := hs.free n hn
    obtain ⟨v, a, b⟩ := hC.names n sp e
    rcases a with ⟨a1, _⟩ | ⟨_, c, a2, a3⟩
    · exact absurd a1 h2
    · exact ⟨c, v, sp, a2, e, a3, b⟩
  have clm : ∀ n c, (n, c) ∈ clFrom C.env.cells scope.names [] → (n, NameKind.free) ∈ scope.names ∧ C.env.cells.lookup n = some c := fun n c hm => by
    rcases clFrom_mem _ _ _ _ hm with h | ⟨h1, h2⟩
    · cases h
    · obtain ⟨c', v, sp, e1, _⟩ := hcl n h1
      rw [e1] at h2; simp at h2; subst h2; exact ⟨h1, e1⟩
  have clnd : ((clFrom C.env.cells scope.names []).map (·.1)).Nodup := clFrom_names _ _ hs.nodup (fun _ h => nomatch h) List.nodup_nil
  have sz : (s.heap.push { cls := .type "dict", data := .dict #[] }).objs.size = s.heap.objs.size + 1 := Heap.size_push ..
  have lookF : ∀ x, scope.names.lookup x = some .free → ∃ c, (compE scope s.heap.objs.size C.env).cells.lookup x = some c ∧ C.env.cells.lookup x = some c := fun x hx => by
    have hm : (x, NameKind.free) ∈ scope.names := mem_of_lookup hx
    obtain ⟨c, v, sp, e1, _⟩ := hcl x hm
    refine ⟨c, ?_, e1⟩
    show (cellsFrom (s.heap.objs.size + 1) scope.names (clFrom C.env.cells scope.names [])).lookup x = some c
    rw [cellsFrom_lookup _ _ _ (nodup_not_cell hs.nodup hx (fun y => nomatch y))]
    have := clFrom_has (cells := C.env.cells) scope.names [] x hm
    rw [e1] at this
    exact lookup_of_nodup clnd this
  refine ⟨Kp.trans k ks, ?_, ⟨fun _ => none, ?_⟩, Kp.none k (get_size _), fun x c e => ?_, ?_, fun x c hx e => ?_, fun x sp e => ?_⟩
  · exact hs.kind
  · exact (Heap.Ns.new s.heap (.type "dict")).keeps (pushCells_keeps _ _)
  · have hm : (x, c) ∈ cellsFrom (s.heap.objs.size + 1) scope.names (clFrom C.env.cells scope.names []) := mem_of_lookup e
    rw [← sz] at hm
    rcases cellsFrom_cell _ _ _ _ _ hm with h | h
    · obtain ⟨h1, h2⟩ := clm _ _ h
      obtain ⟨c', v, sp, e1, _, e3, _⟩ := hcl x h1
      rw [h2] at e1; cases e1
      exact ⟨_, e3.keeps (Kp.get k2)⟩
    · exact ⟨_, h⟩
  · refine cellsFrom_apart _ _ _ (apart_of_names hC.apart (fun n c h => (clm n c h).2) clnd) fun x hx => ?_
    obtain ⟨h1, h2⟩ := clm x.1 x.2 hx
    obtain ⟨c', v, sp, e1, _, e3, _⟩ := hcl x.1 h1
    rw [h2] at e1; cases e1
    have := (e3.keeps (Kp.get (Kp.trans k₀ k))).lt
    exact Nat.lt_succ_of_lt this
  · have hm : (x, c) ∈ cellsFrom (s.heap.objs.size + 1) scope.names (clFrom C.env.cells scope.names []) := mem_of_lookup e
    rcases cellsFrom_mem _ _ _ _ _ hm with h | ⟨h1, _⟩
    · obtain ⟨h1, _⟩ := clm _ _ h
      rw [lookup_of_nodup hs.nodup h1] at hx; cases hx
    · exact Kp.none k (get_ge (Nat.le_trans (Nat.le_succ _) h1))
  · obtain ⟨e1, e2⟩ := freeOf_lookup e
    obtain ⟨c, l1, l2⟩ := lookF x e2
    obtain ⟨c', v, sp', f1, f2, f3, f4⟩ := hcl x (mem_of_lookup e2)
    rw [f2] at e1; cases e1
    rw [l2] at f1; cases f1
    refine ⟨v, .inr ⟨?_, c, l1, f3.keeps (Kp.get k2)⟩, Sp.mv (.of_keep (Kp.get k2)) hok f4⟩
    have hd := (hs.free x (mem_of_lookup e2)).2.2
    rcases relabel_free (env := C.env) e2 with h | h
    · exact .inl h
    · exact .inr ⟨h, hd⟩

theorem compE_own {C : Cx} {scope : Scope} {tn : List Str} (hs : ScopeIs scope C.ρ C.env.kindOf tn) {L : Addr} {x : Str} (hx : x ∈ tn) : Own scope.names (compE scope L C.env) x := by
  rcases hs.tn x hx with h | h
  · exact .inl (lookup_relabel_local h)
  · refine .inr ⟨relabel_cell h, h, ?_⟩
    have := cellsFrom_some (x := x) scope.names (L + 1) (clFrom C.env.cells scope.names []) (.inl h)
    exact Option.isSome_iff_exists.mp this

/-- what holds inside -/
theorem inner_ok {C : Cx} (hC : C.Ok) {scope : Scope} {L : Addr} {s₀ s : Shared} (k₀ : Keeps C.s s₀) {ok' : Addr → Prop} {ρ : List (Str × Sp)} (F : Fst s₀ scope.names (compE scope L C.env) ok' ρ s) (hf : ∀ a, s.heap.get? a = none → ok' a) :
    (C.inner (compE scope L C.env) ok' s ρ).Ok where
  kind := F.kind
  ok := hf
  names := F.names
  eg := hC.eg
  eb := hC.eb
  g := hC.g.keeps (Kp.get (Kp.trans k₀ F.keeps))
  b := hC.b.keeps (Kp.get (Kp.trans k₀ F.keeps))
  hand := hC.hand
  units := hC.units
  pyl := fun s' k' => hC.pyl s' (Kp.trans (Kp.trans k₀ F.keeps) k')
  apart := F.apart
end Mine
namespace Mine
theorem plain_push {h : Heap} {vs : Array Value} : (h.push { cls := .type "list", data := .seq vs }).PlainList h.objs.size vs := ⟨_, Heap.get?_push_size _ rfl⟩

/-- an element put behind the others -/
theorem emit_append {C : Cx} (hC : C.Ok) {s₀ : Shared} {N : List (Str × NameKind)} {D : Addr} {hB : Heap} {ds : List PyData} {elt : Expr} {d : PyData} {St : Nat → Heap → Prop} {i : Nat} (hds : ds.length ≤ 1000000)
    (L : LI s₀ N C.env C.ok C.ρ D hB ds C.s) (hst : St i C.s.heap) (hfr : ∀ h h', St i h → (∀ b o, b ≠ D → h.get? b = some o → h'.get? b = some o) → St i h') (hD0 : s₀.heap.get? D = none) (hDok : ¬ C.ok D) (he : EvD C elt d) :
    wpAny (model C.prog C.w) C.A (eval elt C.env >>= fun x => call (.builtin "list.append") [.ref D, x] >>= fun _ => pure ()) (fun _ s' => LI s₀ N C.env C.ok C.ρ D hB (ds ++ [d]) s' ∧ St i s'.heap) (fun _ _ => False) C.s := by
  refine wpAny_bind (Ev.two he (Kp.refl _) fun y s₁ k₁ hy => wpAny_bind ?_)
  have L1 := L.kp k₁
  obtain ⟨vs, hp, hr⟩ := L1.acc
  have hz := rdAll_size hr
  refine wpAny_list_append_plain (hsz := by rw [sizeLine_eq, hz]; omega) hp fun h' hp' hs' => wpAny_pure ⟨?_, ?_⟩
  · have hk : ∀ b o, b ∉ [D] → s₁.heap.get? b = some o → h'.get? b = some o := fun b o hb e => hs'.extBut b o (by simpa using hb) e
    have hw0 : ∀ b ∈ [D], s₀.heap.get? b = none := fun b hb => by
      have : b = D := by simpa using hb
      subst this; exact hD0
    have hwok : ∀ b ∈ [D], ¬ C.ok b := fun b hb => by
      have : b = D := by simpa using hb
      subst this; exact hDok
    refine ⟨L1.F.but (tk := s₁.toks) [D] hw0 hwok (fun b hb o ho => ?_) hk, ⟨_, hp', ?_⟩, L1.mv.trans (mv_but hwok hk)⟩
    · have : b = D := by simpa using hb
      subst this
      obtain ⟨n, e⟩ := hp
      rw [e] at ho; cases ho; exact nf_seq rfl
    · rw [Array.toList_push]
      exact RdAll.append (RdAll.mv (mv_but hwok hk) (fun _ _ z _ => z) _ _ hr) (.one (Rd.mv (mv_but hwok hk) (fun _ _ z _ => z) _ _ hy))
  · exact hfr _ _ hst fun b o hb e => hs'.extBut b o hb (Kp.get k₁ b o e)

theorem flat_one {α β : Type} (f : α → β) : ∀ l : List α, (l.flatMap fun x => [f x]) = l.map f
  | [] => rfl
  | x :: r => by rw [List.flatMap_cons, flat_one f r]; rfl

theorem compTurn_one (elt target iter : Expr) (ifs : List Expr) (scope : Scope) (pos : Pos) (it acc : Value) (env : Env) :
    compTurn (.ListComp elt [⟨target, iter, ifs, 0⟩] scope pos) 0 it acc env = turnOf (.ListComp elt [⟨target, iter, ifs, 0⟩] scope pos) 0 it acc env target iter.pos ifs (eval elt env >>= fun x => call (.builtin "list.append") [acc, x] >>= fun _ => pure ()) := by rfl

theorem comp_run {α : Type} {C : Cx} (hC : C.Ok) {elt target iter : Expr} {ifs : List Expr} {scope : Scope} {pos : Pos} {P : Heap → Heap → Value → Prop} {l : List α} {sp : α → Sp} {tn : List Str} (hs : ScopeIs scope C.ρ C.env.kindOf tn)
    (hiter : ∀ s, Keeps C.s s → Ev (C.at s) iter (P s.heap)) (hI : Iters C target P l sp) (bs : α → List (Str × Sp)) (hasg : ∀ x ∈ l, Asg target (sp x) (bs x)) (htn : ∀ x ∈ l, (bs x).map (·.1) = tn)
    (q : α → Bool) (f : α → PyData) (hlen : l.length ≤ 1000000)
    (htest : ∀ x ∈ l, ∀ cenv ok' s', (C.inner cenv ok' s' (bs x ++ freeOf scope C.ρ)).Ok → cenv.scope = relabel scope C.env → Keeps C.s s' → TestsOk (C.inner cenv ok' s' (bs x ++ freeOf scope C.ρ)) ifs (q x))
    (helt : ∀ x ∈ l, q x = true → ∀ cenv ok' s', (C.inner cenv ok' s' (bs x ++ freeOf scope C.ρ)).Ok → cenv.scope = relabel scope C.env → Keeps C.s s' → EvD (C.inner cenv ok' s' (bs x ++ freeOf scope C.ρ)) elt (f x))
    {use : Option (Value → Sem Unit)} {Q : Value → Shared → Prop} {s : Shared} (k : Keeps C.s s)
    (hfin : ∀ D L' s', Keeps s s' → (∃ m, s'.heap.Ns L' m) → s.heap.get? L' = none → s.heap.get? D = none → Rd C.ok s'.heap (.list ((l.filter q).map f)) (.ref D) → compPost (model C.prog C.w) C.A (fun _ _ => False) use Q (.ref D) L' (.ok .next) s')
    (hset : ∀ x, foldedSetIterable iter C.env x = pure x := by intro _; rfl) :
    wpAny (model C.prog C.w) C.A (comprehension (.ListComp elt [⟨target, iter, ifs, 0⟩] scope pos) scope C.env iter.pos (newList []) false (eval iter C.env) use) Q (fun _ _ => False) s := by
  have hcl : ∀ n, (n, NameKind.free) ∈ scope.names → ∃ c, C.env.cells.lookup n = some c := fun n hn => by
    obtain ⟨⟨sp, e⟩, h2, _⟩ := hs.free n hn
    obtain ⟨v, a, b⟩ := hC.names n sp e
    rcases a with ⟨a1, _⟩ | ⟨_, c, a2, a3⟩
    · exact absurd a1 h2
    · exact ⟨c, a2⟩
  refine wpAny_comprehension_free (g := ⟨target, iter, ifs, 0⟩) (gs := []) rfl hset (closureFor_eq hcl) hs.kind (fun x hx hl => by
    obtain ⟨n, kk⟩ := x; dsimp only at hl ⊢; subst hl; exact lookup_of_nodup hs.nodup hx) ?_
  refine wpAny_mono (hiter s k s (Kp.refl s)) (fun xv s₁ h₁ => ?_) fun _ _ y => y
  obtain ⟨k₁, hP⟩ := h₁
  refine wpAny_mono (hI s s₁ xv k k₁ hP) (fun it s₂ h₂ => ?_) fun _ _ y => y
  obtain ⟨I, fp, wr, St, rfl, k₂, hw0, hfpok, hst, hfp, hS⟩ := h₂
  refine wpAny_newObj_type ?_
  refine newEnv_comp ?_
  -- the new list D, the frame L'
  generalize hD : s₂.heap.objs.size = D
  have hDn : s₂.heap.get? D = none := hD ▸ get_size _
  have k3 : Keeps s₂ { s₂ with heap := s₂.heap.push { cls := .type "list", data := .seq ([] : List Value).toArray } } := Kp.push _ _
  generalize hs3 : ({ s₂ with heap := s₂.heap.push { cls := .type "list", data := .seq ([] : List Value).toArray } } : Shared) = s₃ at k3
  have hp3 : s₃.heap.PlainList D #[] := by rw [← hs3, ← hD]; exact plain_push
  have k03 : Keeps s s₃ := Kp.trans (Kp.trans k₁ k₂) k3
  let ok' : Addr → Prop := fun a => C.ok a ∧ a ∉ wr ∧ a ≠ D
  have hs0D : s.heap.get? D = none := Kp.none (Kp.trans k₁ k₂) hDn
  have hDfp : D ∉ fp := fun hm => hfp D hm hDn
  have F := compE_fst hC hs k k03 (ok' := ok') fun a o h1 h2 => ⟨h1, fun hm => (by have := hw0 a hm; rw [Kp.get k a o h2] at this; cases this), fun e => (by rw [e] at h2; rw [Kp.get k _ o h2] at hs0D; cases hs0D)⟩
  generalize hs4 : ({ s₃ with heap := pushCells (s₃.heap.push { cls := .type "dict", data := .dict #[] }) scope.names } : Shared) = s₄ at F
  have k4 : Keeps s₃ s₄ := by
    rw [← hs4]; exact Kp.of (fun b o e => pushCells_keeps _ _ _ _ (Heap.get?_push_of_some _ e)) s₃.toks
  have S := hS ok' (fun a ha h => h.2.1 ha) fun a o h1 h2 h3 => ⟨h1, h2, fun e => (by rw [e, hDn] at h3; cases h3)⟩
  have hst4 : St 0 s₄.heap := S.frame _ _ _ hst fun b _ o e => Kp.get (Kp.trans k3 k4) b o e
  have hfin' : ∀ s', LI s scope.names (compE scope s₃.heap.objs.size C.env) ok' (freeOf scope C.ρ) D s₂.heap ((l.filter q).flatMap fun x => [f x]) s' →
      compPost (model C.prog C.w) C.A (fun _ _ => False) use Q (.ref D) s₃.heap.objs.size (.ok .next) s' := fun s' L => by
    refine hfin D _ s' L.F.keeps L.F.ns L.F.new hs0D ?_
    obtain ⟨vs, ⟨n, hp⟩, hr⟩ := L.acc
    refine Rd_list.mpr ⟨D, vs, rfl, hC.ok D (Kp.none k hs0D), ⟨_, hp, rfl, n, rfl⟩, ?_⟩
    have := RdAll.mv (.refl _ _) (fun a o h1 _ => h1.1) _ _ hr
    rwa [show ((l.filter q).flatMap fun x => [f x]) = (l.filter q).map f from flat_one f _] at this
  have loop : codeAny (model C.prog C.w) C.A (.compLoop (.ListComp elt [⟨target, iter, ifs, 0⟩] scope pos) 0 (.ref I) (.ref D) (compE scope s₃.heap.objs.size C.env)) (compPost (model C.prog C.w) C.A (fun _ _ => False) use Q (.ref D) s₃.heap.objs.size) s₄ := by
    refine comp_loop (s₀ := s) (N := scope.names) (ok := ok') (ρ := freeOf scope C.ρ) (hB := s₂.heap) (ds₀ := []) hC.hand rfl (compTurn_one ..) rfl S bs hasg (fun x hx b hb => ?_) (fun x hx y sp' hy => ?_) hw0 (fun b hb h => h.2.1 hb) hDfp (fun s' i F' hp' st' a ha => ?_) q (fun x => [f x]) (fun x hx s' F' hf' => ?_) ?_ (fun x hx hq i ds s' hds L' st' hf' => ?_) ?_ hst4 (fun s' L => hfin' s' (by simpa using L))
    · refine compE_own hs ?_
      rw [← htn x hx]; exact List.mem_map_of_mem (f := (·.1)) hb
    · obtain ⟨_, h2⟩ := freeOf_lookup hy
      cases hl : (bs x).lookup y with
      | none => rfl
      | some sp'' =>
        have : y ∈ tn := by rw [← htn x hx]; exact List.mem_map_of_mem (f := (·.1)) (mem_of_lookup hl)
        rcases hs.tn y this with h | h <;> (rw [h] at h2; cases h2)
    · refine ⟨hC.ok a (Kp.none (Kp.trans k F'.keeps) ha), fun hm => S.live i _ st' a hm ha, fun e => ?_⟩
      rw [e] at ha; obtain ⟨vs, n, e⟩ := hp'; rw [e] at ha; cases ha
    · exact htest x hx _ _ s' (inner_ok hC k F' hf') rfl (Kp.trans k F'.keeps) s' (Kp.refl _)
    · rw [List.nil_append, flat_one, List.length_map]
      exact Nat.le_trans (List.length_filter_le _ _) hlen
    · exact emit_append (C := C.inner (compE scope s₃.heap.objs.size C.env) ok' s' (bs x ++ freeOf scope C.ρ)) (inner_ok hC k L'.F hf') hds L' st' (fun h h' hst' hk => S.frame _ _ _ hst' fun b hb o e => hk b o (fun e' => hDfp (e' ▸ hb)) e) hs0D (fun h => h.2.2 rfl)
        (helt x hx hq _ _ s' (inner_ok hC k L'.F hf') rfl (Kp.trans k L'.F.keeps))
    · refine ⟨F, ⟨#[], ?_, by simp only [RdAll]⟩, .of_keep (Kp.get (Kp.trans k3 k4))⟩
      obtain ⟨n, e⟩ := hp3
      exact ⟨n, Kp.get k4 _ _ e⟩
  exact codeAny_compStart_list loop (S.self 0 _ _ _ hst4 loop)

/-- a list comprehension -/
theorem Ev.comp {α : Type} {C : Cx} (hC : C.Ok) {elt target iter : Expr} {ifs : List Expr} {scope : Scope} {pos : Pos} {P : Heap → Heap → Value → Prop} {l : List α} {sp : α → Sp} (tn : List Str)
    (hiter : ∀ s, Keeps C.s s → Ev (C.at s) iter (P s.heap)) (hI : Iters C target P l sp) (bs : α → List (Str × Sp)) (hasg : ∀ x ∈ l, Asg target (sp x) (bs x)) (htn : ∀ x ∈ l, (bs x).map (·.1) = tn)
    (hs : scopeOk scope C.ρ C.env.kindOf tn = true) (q : α → Bool) (f : α → PyData) (hlen : l.length ≤ 1000000)
    (htest : ∀ x ∈ l, ∀ cenv ok' s', (C.inner cenv ok' s' (bs x ++ freeOf scope C.ρ)).Ok → cenv.scope = relabel scope C.env → Keeps C.s s' → TestsOk (C.inner cenv ok' s' (bs x ++ freeOf scope C.ρ)) ifs (q x))
    (helt : ∀ x ∈ l, q x = true → ∀ cenv ok' s', (C.inner cenv ok' s' (bs x ++ freeOf scope C.ρ)).Ok → cenv.scope = relabel scope C.env → Keeps C.s s' → EvD (C.inner cenv ok' s' (bs x ++ freeOf scope C.ρ)) elt (f x))
    (hset : ∀ x, foldedSetIterable iter C.env x = pure x := by intro _; rfl) : EvD C (.ListComp elt [⟨target, iter, ifs, 0⟩] scope pos) (.list ((l.filter q).map f)) := fun s k => by
  rw [eval_ListComp]
  refine comp_run hC (scopeIs_of hs) hiter hI bs hasg htn q f hlen htest helt (use := none) k (fun D L' s' k' hn hL _ hr => ?_) hset
  obtain ⟨m, hn⟩ := hn
  refine ⟨m, hn, fun h' hs' => ⟨?_, Rd.mv (Mv.sameBut hs' fun o e => ?_) (fun _ _ z _ => z) _ _ hr⟩⟩
  · exact ⟨fun b o e => (hs'.2 b (ne_of_get e hL)).trans (k'.get b o e), k'.gens, k'.os⟩
  · obtain ⟨o', es, ep, e', d', _⟩ := hn
    rw [e] at e'; cases e'; exact .inl ⟨_, _, d'⟩

/-- the same, and that the list is new -/
theorem Ev.compF {α : Type} {C : Cx} (hC : C.Ok) {elt target iter : Expr} {ifs : List Expr} {scope : Scope} {pos : Pos} {P : Heap → Heap → Value → Prop} {l : List α} {sp : α → Sp} (tn : List Str)
    (hiter : ∀ s, Keeps C.s s → Ev (C.at s) iter (P s.heap)) (hI : Iters C target P l sp) (bs : α → List (Str × Sp)) (hasg : ∀ x ∈ l, Asg target (sp x) (bs x)) (htn : ∀ x ∈ l, (bs x).map (·.1) = tn)
    (hs : scopeOk scope C.ρ C.env.kindOf tn = true) (q : α → Bool) (f : α → PyData) (hlen : l.length ≤ 1000000)
    (htest : ∀ x ∈ l, ∀ cenv ok' s', (C.inner cenv ok' s' (bs x ++ freeOf scope C.ρ)).Ok → cenv.scope = relabel scope C.env → Keeps C.s s' → TestsOk (C.inner cenv ok' s' (bs x ++ freeOf scope C.ρ)) ifs (q x))
    (helt : ∀ x ∈ l, q x = true → ∀ cenv ok' s', (C.inner cenv ok' s' (bs x ++ freeOf scope C.ρ)).Ok → cenv.scope = relabel scope C.env → Keeps C.s s' → EvD (C.inner cenv ok' s' (bs x ++ freeOf scope C.ρ)) elt (f x))
    (hset : ∀ x, foldedSetIterable iter C.env x = pure x := by intro _; rfl) : Ev C (.ListComp elt [⟨target, iter, ifs, 0⟩] scope pos) (fun h v => Rd C.ok h (.list ((l.filter q).map f)) v ∧ ∃ a, v = .ref a ∧ C.s.heap.get? a = none) := fun s k => by
  rw [eval_ListComp]
  refine comp_run hC (scopeIs_of hs) hiter hI bs hasg htn q f hlen htest helt (use := none) k (fun D L' s' k' hn hL hD hr => ?_) hset
  obtain ⟨m, hn⟩ := hn
  refine ⟨m, hn, fun h' hs' => ⟨?_, Rd.mv (Mv.sameBut hs' fun o e => ?_) (fun _ _ z _ => z) _ _ hr, D, rfl, Kp.none k hD⟩⟩
  · exact ⟨fun b o e => (hs'.2 b (ne_of_get e hL)).trans (k'.get b o e), k'.gens, k'.os⟩
  · obtain ⟨o', es, ep, e', d', _⟩ := hn
    rw [e] at e'; cases e'; exact .inl ⟨_, _, d'⟩
end Mine
namespace Mine
/-! ## a function's run -/
structure Fx where
  prog : Program
  w : World
  A : Around
  env : Env
  N : List (Str × NameKind)
  ok : Addr → Prop
  kp : Addr → Prop
  s₀ : Shared
  mg : Str → Option Value
  mb : Str → Option Value
structure Fx.Gd (X : Fx) : Prop where
  eg : X.env.globals = mainGlobals
  eb : X.env.builtins = builtinsNs
  g : X.s₀.heap.Ns mainGlobals X.mg
  b : X.s₀.heap.Ns builtinsNs X.mb
  hand : X.A.handled = none
  units : X.A.units + 200 < cLine
  pyl : ∀ s, Keeps X.s₀ s → PylongRoom (model X.prog X.w) X.A s
  okkp : ∀ a, X.ok a → X.kp a
noncomputable abbrev Fx.cx (X : Fx) (s : Shared) (ρ : List (Str × Sp)) : Cx := ⟨X.prog, X.w, X.A, X.env, X.ok, s, ρ, X.mg, X.mb⟩
noncomputable abbrev Fx.m (X : Fx) : Model := model X.prog X.w
structure FS (X : Fx) (hB : Heap) (ρ : List (Str × Sp)) (s : Shared) : Prop where
  F : Fst X.s₀ X.N X.env X.ok ρ s
  ok : ∀ a, s.heap.get? a = none → X.ok a
  mv : Mv X.kp hB s.heap
theorem FS.cx {X : Fx} (hX : X.Gd) {hB : Heap} {ρ : List (Str × Sp)} {s : Shared} (f : FS X hB ρ s) : (X.cx s ρ).Ok where
  kind := f.F.kind
  ok := f.ok
  names := f.F.names
  eg := hX.eg
  eb := hX.eb
  g := hX.g.keeps (Kp.get f.F.keeps)
  b := hX.b.keeps (Kp.get f.F.keeps)
  hand := hX.hand
  units := hX.units
  pyl := fun s' k' => hX.pyl s' (Kp.trans f.F.keeps k')
  apart := f.F.apart
theorem FS.kp {X : Fx} {hB : Heap} {ρ : List (Str × Sp)} {s s' : Shared} (f : FS X hB ρ s) (k : Keeps s s') : FS X hB ρ s' :=
  ⟨f.F.kp k, fun a e => f.ok a (Kp.none k e), f.mv.trans (.of_keep (Kp.get k))⟩
theorem FS.sub {X : Fx} {hB : Heap} {ρ ρ' : List (Str × Sp)} {s : Shared} (f : FS X hB ρ s) (h : ∀ x sp, ρ'.lookup x = some sp → ρ.lookup x = some sp) : FS X hB ρ' s := ⟨f.F.sub h, f.ok, f.mv⟩
theorem FS.base {X : Fx} {hB : Heap} {ρ : List (Str × Sp)} {s : Shared} (f : FS X hB ρ s) : FS X s.heap ρ s := ⟨f.F, f.ok, .refl _ _⟩
theorem FS.store {X : Fx} {E : Value → Shared → Prop} {hB : Heap} {ρ : List (Str × Sp)} {s : Shared} (f : FS X hB ρ s) {x : Str} {sp : Sp} {v : Value} {Q : Unit → Shared → Prop} (hv : sp.on X.ok s.heap v) (hx : Own X.N X.env x)
    (h : ∀ s', FS X hB ((x, sp) :: ρ) s' → Stored X.env s s' → Q () s') : wpAny X.m X.A (storeName X.env x v) Q E s :=
  f.F.store' hv hx fun s' F' st => h s' ⟨F', fun a e => f.ok a (st.lv a e), f.mv.trans st.mv.of_true⟩ st
theorem FS.assignT {X : Fx} (hX : X.Gd) {E : Value → Shared → Prop} {hB : Heap} {ρ bs : List (Str × Sp)} {s : Shared} (f : FS X hB ρ s) {target : Expr} {sp : Sp} {v : Value} {Q : Unit → Shared → Prop} (ha : Asg target sp bs) (hv : sp.on X.ok s.heap v) (hx : ∀ b ∈ bs, Own X.N X.env b.1)
    (h : ∀ s', FS X hB (bs ++ ρ) s' → Stored X.env s s' → Q () s') : wpAny X.m X.A (assign target X.env v) Q E s :=
  assign_ok hX.hand ha f.F hv hx fun s' F' st => h s' ⟨F', fun a e => f.ok a (st.lv a e), f.mv.trans st.mv.of_true⟩ st

/-! ## statements -/
section
variable {X : Fx} (hX : X.Gd) {hB : Heap} {ρ : List (Str × Sp)} {s : Shared}

theorem FS.setN (f : FS X hB ρ s) {x : Str} {p pos : Pos} {value : Expr} {sp : Sp} {Q : Flow → Shared → Prop} (hv : Ev (X.cx s ρ) value (fun h v => sp.on X.ok h v)) (hx : Own X.N X.env x)
    (h : ∀ s', FS X hB ((x, sp) :: ρ) s' → Q .next s') (hs : swapsWith value (some (.Name x p)) pos.line X.env = pure false := by rfl) : wpAny X.m X.A (exec (.Assign [.Name x p] value pos) X.env) Q (fun _ _ => False) s :=
  wpAny_Assign_Name (wpAny_mono (hv s (Kp.refl _)) (fun v s₁ y => (f.kp y.1).store y.2 hx fun s' f' _ => h s' f') fun _ _ y => y) hs
include hX in
theorem FS.setT (f : FS X hB ρ s) {elts : List Expr} {j : Nat} {tpos pos : Pos} {value : Expr} {d : PyData} {bs : List (Str × Sp)} {Q : Flow → Shared → Prop} (hv : EvD (X.cx s ρ) value d) (ha : Asg (.Tuple elts j tpos) (.dat d) bs) (hx : ∀ b ∈ bs, Own X.N X.env b.1)
    (h : ∀ s', FS X hB (bs ++ ρ) s' → Q .next s') (hs : swapsWithSole [.Tuple elts j tpos] value pos.line X.env = pure false := by rfl) (hw : swappedStores [.Tuple elts j tpos] value X.env = pure none := by rfl) :
    wpAny X.m X.A (exec (.Assign [.Tuple elts j tpos] value pos) X.env) Q (fun _ _ => False) s :=
  Assign_Tuple (wpAny_mono (hv s (Kp.refl _)) (fun v s₁ y => (f.kp y.1).assignT hX ha y.2 hx fun s' f' _ => h s' f') fun _ _ y => y) hs hw
theorem FS.ret (f : FS X hB ρ s) {e : Expr} {pos : Pos} {P : Heap → Value → Prop} {Q : Flow → Shared → Prop} (hv : Ev (X.cx s ρ) e P) (h : ∀ v s', Keeps s s' → P s'.heap v → Q (.ret v) s') : wpAny X.m X.A (exec (.Return (some e) pos) X.env) Q (fun _ _ => False) s :=
  wpAny_Return_some (wpAny_mono (hv s (Kp.refl _)) (fun v s' y => h v s' y.1 y.2) fun _ _ y => y)
theorem FS.iff (f : FS X hB ρ s) {test : Expr} {body orelse : List Stmt} {pos : Pos} {b : Bool} {Q : Flow → Shared → Prop} (ht : Ts (X.cx s ρ) test b) (h1 : b = true → ∀ s', FS X hB ρ s' → Keeps s s' → wpAny X.m X.A (execs body X.env) Q (fun _ _ => False) s')
    (h2 : b = false → ∀ s', FS X hB ρ s' → Keeps s s' → wpAny X.m X.A (execs orelse X.env) Q (fun _ _ => False) s') : wpAny X.m X.A (exec (.If test body orelse pos) X.env) Q (fun _ _ => False) s :=
  wpAny_If (wpAny_mono (ht s (Kp.refl _)) (fun r s' y => by
    obtain ⟨k, rfl⟩ := y
    cases r with
    | true => exact h1 rfl s' (f.kp k) k
    | false => exact h2 rfl s' (f.kp k) k) fun _ _ y => y)
theorem FS.seq {st : Stmt} {rest : List Stmt} {Q : Flow → Shared → Prop} (h : wpAny X.m X.A (exec st X.env) (fun fl s' => match fl with | .next => wpAny X.m X.A (execs rest X.env) Q (fun _ _ => False) s' | fl => Q fl s') (fun _ _ => False) s) :
    wpAny X.m X.A (execs (st :: rest) X.env) Q (fun _ _ => False) s := wpAny_execs_cons h
end

/-! ## the name of a comprehension's value, stored at once -/
theorem FS.butDict {X : Fx} {hB : Heap} {ρ : List (Str × Sp)} {s : Shared} (f : FS X hB ρ s) {L' : Addr} {m : Str → Option Value} (hn : s.heap.Ns L' m) (hL0 : X.s₀.heap.get? L' = none) (hLl : L' ≠ X.env.locals) {h' : Heap} (hs : Heap.SameBut L' s.heap h') (hokL : X.ok L') : FS X hB ρ { s with heap := h' } := by
  have mvT : Mv (fun _ => True) s.heap h' := Mv.sameBut hs fun o e => by
    obtain ⟨o', es, ep, e', d', _⟩ := hn
    rw [e] at e'; cases e'; exact .inl ⟨_, _, d'⟩
  have hNs : ∀ m', s.heap.Ns X.env.locals m' → h'.Ns X.env.locals m' := fun m' y => y.sameBut hs (fun e => hLl e.symm)
  have hCl : ∀ c v, s.heap.IsCell c v → h'.IsCell c v := fun c v y => y.sameBut hs (cell_ne_ns hn y).symm
  refine ⟨⟨?_, f.F.kind, f.F.ns.elim fun m' y => ⟨m', hNs m' y⟩, f.F.new, fun x c e => (f.F.cell x c e).elim fun v y => ⟨v, hCl c v y⟩, f.F.apart, f.F.own, fun x sp e => ?_⟩, fun a e => ?_, f.mv.trans mvT.of_true⟩
  · exact ⟨fun b o e => (hs.2 b (ne_of_get e hL0)).trans (f.F.keeps.get b o e), f.F.keeps.gens, f.F.keeps.os⟩
  · obtain ⟨v, a, b⟩ := f.F.names x sp e
    refine ⟨v, ?_, Sp.mv mvT.of_true (fun _ _ z _ => z) b⟩
    rcases a with ⟨a1, m1, a2, a3⟩ | ⟨a1, c1, a2, a3⟩
    · exact .inl ⟨a1, m1, hNs m1 a2, a3⟩
    · exact .inr ⟨a1, c1, a2, hCl _ _ a3⟩
  · by_cases ha : a = L'
    · subst ha; exact hokL
    · exact f.ok a (by rw [← hs.2 a ha]; exact e)

theorem FS.setC {α : Type} {X : Fx} (hX : X.Gd) {hB : Heap} {ρ : List (Str × Sp)} {s : Shared} (f : FS X hB ρ s) {y : Str} {py spos : Pos} {elt target iter : Expr} {ifs : List Expr} {scope : Scope} {pos : Pos} {P : Heap → Heap → Value → Prop} {l : List α} {sp : α → Sp} (tn : List Str)
    (hiter : ∀ s', Keeps s s' → Ev ((X.cx s ρ).at s') iter (P s'.heap)) (hI : Iters (X.cx s ρ) target P l sp) (bs : α → List (Str × Sp)) (hasg : ∀ x ∈ l, Asg target (sp x) (bs x)) (htn : ∀ x ∈ l, (bs x).map (·.1) = tn)
    (hs : scopeOk scope ρ X.env.kindOf tn = true) (q : α → Bool) (g : α → PyData) (hlen : l.length ≤ 1000000)
    (htest : ∀ x ∈ l, ∀ cenv ok' s', ((X.cx s ρ).inner cenv ok' s' (bs x ++ freeOf scope ρ)).Ok → cenv.scope = relabel scope X.env → Keeps s s' → TestsOk ((X.cx s ρ).inner cenv ok' s' (bs x ++ freeOf scope ρ)) ifs (q x))
    (helt : ∀ x ∈ l, q x = true → ∀ cenv ok' s', ((X.cx s ρ).inner cenv ok' s' (bs x ++ freeOf scope ρ)).Ok → cenv.scope = relabel scope X.env → Keeps s s' → EvD ((X.cx s ρ).inner cenv ok' s' (bs x ++ freeOf scope ρ)) elt (g x))
    (hy : Own X.N X.env y) {Q : Flow → Shared → Prop} (h : ∀ s', FS X hB ((y, .dat (.list ((l.filter q).map g))) :: ρ) s' → Q .next s')
    (hsw : swapsWith (.ListComp elt [⟨target, iter, ifs, 0⟩] scope pos) (some (.Name y py)) spos.line X.env = pure true := by rfl)
    (hset : ∀ x, foldedSetIterable iter X.env x = pure x := by intro _; rfl) :
    wpAny X.m X.A (exec (.Assign [.Name y py] (.ListComp elt [⟨target, iter, ifs, 0⟩] scope pos) spos) X.env) Q (fun _ _ => False) s := by
  rw [exec_Assign_Name_used _ _ _ _ hsw]
  refine wpAny_bind (wpAny_standAt (wpAny_bind ?_))
  show wpAny _ X.A (do let _ ← comprehension (.ListComp elt [⟨target, iter, ifs, 0⟩] scope pos) scope X.env _ (newList []) false (eval iter X.env) (some (assign (.Name y py) X.env))) _ _ s
  refine wpAny_bind (wpAny_mono (comp_run (C := X.cx s ρ) (f.cx hX) (scopeIs_of hs) hiter hI bs hasg htn q g hlen htest helt (use := some (assign (.Name y py) X.env)) (Q := fun _ s' => Q .next s') (Kp.refl s) (fun D L' s' k' hn hL _ hr => ?_) hset) (fun _ s' hq => wpAny_pure (wpAny_pure hq)) fun _ _ z => z)
  obtain ⟨m, hn⟩ := hn
  refine wpAny_assign_Name ((f.kp k').store (sp := .dat (.list ((l.filter q).map g))) hr hy fun s'' f'' st => ?_)
  have hLl : L' ≠ X.env.locals := fun e => by
    obtain ⟨m', o, es, ep, e', _⟩ := f.F.ns
    rw [e, e'] at hL; cases hL
  have hLc : ¬ frA X.env L' := fun hm => by
    rcases hm with e | ⟨x, e⟩
    · exact hLl e
    · obtain ⟨u, hu⟩ := (f.F.kp k').cell x L' e
      exact cell_ne_ns hn hu rfl
  have hn'' : s''.heap.Ns L' m := hn.at fun o e => st.ch _ o hLc e
  exact ⟨m, hn'', fun h' hs' => h _ (f''.butDict hn'' (Kp.none f.F.keeps hL) hLl hs' (f.ok L' hL))⟩
end Mine
namespace Mine
/-! ## calls of the text's own defs -/
/-- what holds of the ground, with room for k calls within calls -/
structure Gl (prog : Program) (mg mb : Str → Option Value) (k : Nat) (A : Around) (s : Shared) : Prop where
  g : s.heap.Ns mainGlobals mg
  b : s.heap.Ns builtinsNs mb
  nolim : s.heap.NoLimit
  seer : s.heap.NoSeer
  tree : prog.given.tree = none
  hand : A.handled = none
  frames : ∃ l, A.frames = some l
  depth : A.depth + k + 120 < recursionLimit
  units : A.units + 10 * k + 300 < cLine
theorem Gl.kp {prog : Program} {mg mb : Str → Option Value} {k : Nat} {A : Around} {s s' : Shared} (G : Gl prog mg mb k A s) (h : Keeps s s') : Gl prog mg mb k A s' :=
  ⟨G.g.keeps (Kp.get h), G.b.keeps (Kp.get h), G.nolim.keeps (Kp.get h), G.seer.keeps (Kp.get h), G.tree, G.hand, G.frames, G.depth, G.units⟩
theorem Gl.deeper {prog : Program} {mg mb : Str → Option Value} {k : Nat} {A : Around} {s : Shared} (G : Gl prog mg mb (k + 1) A s) (env : Env) : Gl prog mg mb k (A.deeper env) s :=
  ⟨G.g, G.b, G.nolim, G.seer, G.tree, G.hand, G.frames.elim fun l e => ⟨env :: l, by show A.frames.map (env :: ·) = _; rw [e]; rfl⟩, by have := G.depth; show A.depth + 1 + k + 120 < _; omega, by have := G.units; show A.units + 3 + 10 * k + 300 < _; omega⟩
theorem Gl.less {prog : Program} {mg mb : Str → Option Value} {k j : Nat} {A : Around} {s : Shared} (G : Gl prog mg mb k A s) (h : j ≤ k) : Gl prog mg mb j A s :=
  ⟨G.g, G.b, G.nolim, G.seer, G.tree, G.hand, G.frames, by have := G.depth; omega, by have := G.units; omega⟩

structure FnIs (h : Heap) (a : Addr) (fd : FuncData) : Prop where
  obj : ∃ o, h.get? a = some o ∧ o.data = .func fd
  code : h.CodeRec fd.code fd.qualname
theorem FnIs.kp {s s' : Shared} {a : Addr} {fd : FuncData} (x : FnIs s.heap a fd) (k : Keeps s s') : FnIs s'.heap a fd := ⟨x.obj.elim fun o e => ⟨o, Kp.get k _ _ e.1, e.2⟩, x.code.keeps (Kp.get k)⟩
theorem FnIs.fn {h : Heap} {a : Addr} {fd : FuncData} (x : FnIs h a fd) : ∃ o fd, h.get? a = some o ∧ o.data = .func fd := x.obj.elim fun o e => ⟨o, fd, e.1, e.2⟩

noncomputable def SpAll (ok : Addr → Prop) (h : Heap) : List Sp → List Value → Prop
  | [], vs => vs = []
  | sp :: r, vs => ∃ v us, vs = v :: us ∧ sp.on ok h v ∧ SpAll ok h r us
theorem SpAll.of_rd {ok : Addr → Prop} {h : Heap} : ∀ {ds : List PyData} {vs : List Value}, RdAll ok h ds vs → SpAll ok h (ds.map .dat) vs
  | [], vs, x => x.nil_
  | d :: ds, vs, x => by
    obtain ⟨v, r, e, a, b⟩ := x.cons_
    exact ⟨v, r, e, a, SpAll.of_rd b⟩

theorem bindL_other {kindOf : Str → Option NameKind} : ∀ (binds : List (Str × Value)) (m : Str → Option Value) (x : Str), x ∉ binds.map (·.1) → bindL kindOf binds m x = m x
  | [], m, x, _ => rfl
  | (n, v) :: r, m, x, h => by
    have h1 : x ≠ n := fun e => h (by rw [e]; exact List.mem_cons_self)
    have h2 : x ∉ r.map (·.1) := fun e => h (List.mem_cons_of_mem _ e)
    unfold bindL
    rw [bindL_other r _ x h2]
    split
    · simp only [h1, if_false]
    · rfl
theorem bindL_get {kindOf : Str → Option NameKind} : ∀ (binds : List (Str × Value)) (m : Str → Option Value) (x : Str) (v : Value), (binds.map (·.1)).Nodup → (x, v) ∈ binds → kindOf x = some .local → bindL kindOf binds m x = some v
  | (n, u) :: r, m, x, v, hn, h, hk => by
    rw [List.map_cons, List.nodup_cons] at hn
    unfold bindL
    rcases List.mem_cons.mp h with e | h
    · cases e
      rw [bindL_other r _ _ hn.1, if_pos hk, if_pos rfl]
    · exact bindL_get r _ x v hn.2 h hk
theorem bindC_other {kindOf : Str → Option NameKind} : ∀ (binds : List (Str × Value)) (m : Str → Option Value) (x : Str), x ∉ binds.map (·.1) → bindC kindOf binds m x = m x
  | [], m, x, _ => rfl
  | (n, v) :: r, m, x, h => by
    have h1 : x ≠ n := fun e => h (by rw [e]; exact List.mem_cons_self)
    have h2 : x ∉ r.map (·.1) := fun e => h (List.mem_cons_of_mem _ e)
    unfold bindC
    rw [bindC_other r _ x h2]
    split
    · rfl
    · simp only [h1, if_false]
theorem bindC_get {kindOf : Str → Option NameKind} : ∀ (binds : List (Str × Value)) (m : Str → Option Value) (x : Str) (v : Value), (binds.map (·.1)).Nodup → (x, v) ∈ binds → kindOf x ≠ some .local → bindC kindOf binds m x = some v
  | (n, u) :: r, m, x, v, hn, h, hk => by
    rw [List.map_cons, List.nodup_cons] at hn
    unfold bindC
    rcases List.mem_cons.mp h with e | h
    · cases e
      rw [bindC_other r _ _ hn.1, if_neg hk, if_pos rfl]
    · exact bindC_get r _ x v hn.2 h hk
theorem zip_fst {α β : Type} : ∀ (l : List α) (r : List β), (l.zip r).map (·.1) = l.take r.length
  | [], r => by simp
  | x :: l, [] => by simp
  | x :: l, y :: r => by simp [zip_fst l r]
theorem zip_lookup {ok : Addr → Prop} {h : Heap} : ∀ {names : List Str} {sps : List Sp} {vs : List Value}, SpAll ok h sps vs → ∀ {x : Str} {sp : Sp}, (names.zip sps).lookup x = some sp → ∃ v, (x, v) ∈ names.zip vs ∧ sp.on ok h v
  | [], _, _, _, x, sp, e => by simp at e
  | n :: ns, [], _, _, x, sp, e => by simp at e
  | n :: ns, t :: ts, vs, H, x, sp, e => by
    obtain ⟨v, us, rfl, a, b⟩ := H
    rw [List.zip_cons_cons, List.lookup_cons] at e
    cases hb : x == n with
    | true =>
      rw [hb] at e; simp only at e; cases e
      have : x = n := by simpa using hb
      subst this
      exact ⟨v, by rw [List.zip_cons_cons]; exact List.mem_cons_self, a⟩
    | false =>
      rw [hb] at e
      obtain ⟨u, h1, h2⟩ := zip_lookup b e
      exact ⟨u, by rw [List.zip_cons_cons]; exact List.mem_cons_of_mem _ h1, h2⟩

/-- what is looked at once of a def -/
noncomputable def defOk (fd : FuncData) (names : List Str) : Bool :=
  decide (names.Nodup) && names.all (fun x => fd.scope.names.lookup x == some .local || fd.scope.names.lookup x == some .cell) && fd.closure.isEmpty && !fd.scope.isCoroutine && !fd.scope.isGenerator && fd.scope.kind == .function
structure DefIs (fd : FuncData) (names : List Str) : Prop where
  nodup : names.Nodup
  kinds : ∀ x ∈ names, fd.scope.names.lookup x = some .local ∨ fd.scope.names.lookup x = some .cell
  clo : fd.closure = []
  co : fd.scope.isCoroutine = false
  gen : fd.scope.isGenerator = false
  kind : fd.scope.kind = .function
theorem defIs_of {fd : FuncData} {names : List Str} (h : defOk fd names = true) : DefIs fd names := by
  unfold defOk at h
  simp only [Bool.and_eq_true, decide_eq_true_eq, beq_iff_eq, Bool.not_eq_true', List.isEmpty_iff] at h
  obtain ⟨⟨⟨⟨⟨h1, h2⟩, h3⟩, h4⟩, h5⟩, h6⟩ := h
  exact ⟨h1, fun x hx => by simpa using List.all_eq_true.mp h2 x hx, h3, h4, h5, h6⟩

noncomputable def fxOf (prog : Program) (w : World) (A : Around) (fd : FuncData) (a : Addr) (ok kp : Addr → Prop) (s : Shared) (mg mb : Str → Option Value) : Fx :=
  { prog, w, A := A.deeper (callEnvC fd s.heap.objs.size a), env := callEnvC fd s.heap.objs.size a, N := fd.scope.names, ok, kp, s₀ := s, mg, mb }

theorem pylong_of {prog : Program} {w : World} {mg mb : Str → Option Value} {k : Nat} {A : Around} {s : Shared} {env : Env} (G : Gl prog mg mb (k + 1) A s) (hgen : env.scope.isGenerator = false) (hco : env.scope.isCoroutine = false) (hb : env.builtins = builtinsNs) (hg : env.globals = mainGlobals) {s' : Shared} (h : Keeps s s') :
    PylongRoom (model prog w) (A.deeper env) s' := by
  obtain ⟨l, e⟩ := G.frames
  refine PylongRoom.of (G.nolim.keeps (Kp.get h)) ?_ (SeerAt.of (env := env) (l := l) (G.seer.keeps (Kp.get h)) G.tree ?_ hgen hco hb hg)
  · have := G.depth; show A.depth + 1 + 100 < _; omega
  · show A.frames.map (env :: ·) = _; rw [e]; rfl

theorem fxOf_gd {prog : Program} {w : World} {mg mb : Str → Option Value} {k : Nat} {A : Around} {s : Shared} {fd : FuncData} {a : Addr} {names : List Str} (G : Gl prog mg mb (k + 1) A s) (D : DefIs fd names) (hg : fd.globals = mainGlobals) (hb : fd.builtins = builtinsNs) (ok kp : Addr → Prop) (hok : ∀ a, ok a → kp a) : (fxOf prog w A fd a ok kp s mg mb).Gd where
  eg := hg
  eb := hb
  g := G.g
  b := G.b
  hand := G.hand
  units := by have := G.units; show A.units + 3 + 200 < _; omega
  pyl := fun s' k' => pylong_of (env := callEnvC fd s.heap.objs.size a) G D.gen D.co hb hg k'
  okkp := hok

theorem call_fn {prog : Program} {w : World} {mg mb : Str → Option Value} {k : Nat} {A : Around} {s : Shared} {fd : FuncData} {a : Addr} {names : List Str} {body : List Stmt} {vals : List Value} {sps : List Sp} {ok : Addr → Prop} {P : Heap → Value → Prop}
    (G : Gl prog mg mb (k + 1) A s) (hf : FnIs s.heap a fd) (D : DefIs fd names) (hbody : fd.body = .stmts body) (hbind : bindArgs fd ⟨vals, []⟩ = pure (names.zip vals)) (hsp : SpAll ok s.heap sps vals) (hlen : vals.length ≤ names.length) (hok : ∀ a, s.heap.get? a = none → ok a)
    (h : ∀ s₁, FS (fxOf prog w A fd a ok (fun _ => True) s mg mb) s₁.heap (names.zip sps) s₁ →
      wpAny (model prog w) (A.deeper (callEnvC fd s.heap.objs.size a)) (execs body (callEnvC fd s.heap.objs.size a)) (fun fl s' => Keeps s s' ∧ P s'.heap (match fl with | .ret v => v | _ => .none)) (fun _ _ => False) s₁) :
    wpAny (model prog w) A (call (.ref a) vals) (fun r s' => Keeps s s' ∧ P s'.heap r) (fun _ _ => False) s := by
  obtain ⟨o, ho, hd⟩ := hf.obj
  have hzn : (names.zip vals).map (·.1) = names.take vals.length := by
    exact zip_fst _ _
  have hmem : ∀ x ∈ names.zip vals, x.1 ∈ names := fun x hx => by
    have : x.1 ∈ (names.zip vals).map (·.1) := List.mem_map_of_mem (f := (·.1)) hx
    rw [hzn] at this; exact List.mem_of_mem_take this
  refine wpAny_call (codeAny_call_cells (by have := G.depth; omega) ho hd G.nolim hf.code hbody hbind D.clo (fun x hx => ?_) (fun s₁ I => ?_) D.co D.gen D.kind)
  · rcases D.kinds x.1 (hmem x hx) with e | e
    · exact .inl e
    · exact .inr ⟨e, cellsFrom_some _ _ _ (.inl e)⟩
  · have hnd : ((names.zip vals).map (·.1)).Nodup := by rw [hzn]; exact D.nodup.sublist (List.take_sublist _ _)
    obtain ⟨h', tk, e, kk⟩ := I.done
    have ks : Keeps s s₁ := by subst e; exact ⟨kk, rfl, rfl⟩
    have F : Fst s fd.scope.names (callEnvC fd s.heap.objs.size a) ok (names.zip sps) s₁ := by
      refine ⟨ks, D.kind, ⟨_, I.toInCall.ns⟩, get_ge I.toInCall.fresh, fun x c e => ⟨_, I.cell x c e⟩, I.apart, fun x c _ e => get_ge (Nat.le_of_lt (Nat.lt_of_le_of_lt I.toInCall.fresh (I.above x c (mem_of_lookup e)))), fun x sp e => ?_⟩
      obtain ⟨v, hv, hon⟩ := zip_lookup hsp e
      refine ⟨v, ?_, Sp.kp hon ks⟩
      rcases D.kinds x (hmem (x, v) hv) with hk | hk
      · exact .inl ⟨hk, _, I.toInCall.ns, bindL_get _ _ x v hnd hv hk⟩
      · have hc : ∃ c, (callEnvC fd s.heap.objs.size a).cells.lookup x = some c := Option.isSome_iff_exists.mp (cellsFrom_some fd.scope.names (s.heap.objs.size + 1) [] (.inl hk))
        obtain ⟨c, hc⟩ := hc
        refine .inr ⟨.inl hk, c, hc, ?_⟩
        have := I.cell x c hc
        rwa [bindC_get _ _ x v hnd hv (fun e => by rw [show (callEnvC fd s.heap.objs.size a).kindOf x = some .cell from hk] at e; cases e)] at this
    exact wpAny_mono (h s₁ ⟨F, fun b hb => hok b (Kp.none ks hb), .refl _ _⟩) (fun fl s' y => y) fun _ _ y => y.elim

/-- a def of the text, by what its body does -/
theorem CallOk.def {C : Cx} (hC : C.Ok) {k : Nat} (G : Gl C.prog C.mg C.mb (k + 1) C.A C.s) {a : Addr} {fd : FuncData} (hf : FnIs C.s.heap a fd) {names : List Str} {body : List Stmt} {ds : List PyData} {P : Heap → Value → Prop} (D : DefIs fd names) (hbody : fd.body = .stmts body) (hg : fd.globals = mainGlobals) (hbi : fd.builtins = builtinsNs)
    (hn : ds.length = names.length) (hbind : ∀ vals : List Value, vals.length = names.length → bindArgs fd ⟨vals, []⟩ = pure (names.zip vals))
    (h : ∀ s s₁, Keeps C.s s → (fxOf C.prog C.w C.A fd a C.ok (fun _ => True) s C.mg C.mb).Gd → Gl C.prog C.mg C.mb k (fxOf C.prog C.w C.A fd a C.ok (fun _ => True) s C.mg C.mb).A s₁ → FS (fxOf C.prog C.w C.A fd a C.ok (fun _ => True) s C.mg C.mb) s₁.heap (names.zip (ds.map .dat)) s₁ →
      wpAny (fxOf C.prog C.w C.A fd a C.ok (fun _ => True) s C.mg C.mb).m (fxOf C.prog C.w C.A fd a C.ok (fun _ => True) s C.mg C.mb).A (execs body (fxOf C.prog C.w C.A fd a C.ok (fun _ => True) s C.mg C.mb).env) (fun fl s' => Keeps s s' ∧ P s'.heap (match fl with | .ret v => v | _ => .none)) (fun _ _ => False) s₁) :
    CallOk C (.ref a) ds P := fun s vs kk x => by
  have hl : vs.length = names.length := by rw [x.length, hn]
  exact call_fn (G.kp kk) (hf.kp kk) D hbody (hbind vs hl) (.of_rd x) (Nat.le_of_eq hl) (fun a h => hC.ok a (Kp.none kk h)) fun s₁ f => h s s₁ kk (fxOf_gd (G.kp kk) D hg hbi C.ok (fun _ => True) fun _ _ => trivial) (((G.kp kk).deeper _).kp f.F.keeps) f

theorem FS.retD {X : Fx} {hB : Heap} {ρ : List (Str × Sp)} {s : Shared} (f : FS X hB ρ s) {e : Expr} {pos : Pos} {d : PyData} {Q : Flow → Shared → Prop} (hv : EvD (X.cx s ρ) e d) (h : ∀ v s', Keeps s s' → Rd X.ok s'.heap d v → Q (.ret v) s') : wpAny X.m X.A (exec (.Return (some e) pos) X.env) Q (fun _ _ => False) s := f.ret hv h
theorem Ev.cast {C : Cx} {e : Expr} {d d' : PyData} (h : EvD C e d) (hd : d = d') : EvD C e d' := hd ▸ h

theorem inner_kind {cenv env : Env} {scope : Scope} {x : Str} (h : cenv.scope = relabel scope env) (hx : scope.names.lookup x = some .globalImplicit) : cenv.kindOf x = some .globalImplicit := by
  show cenv.scope.names.lookup x = _
  rw [h]; exact relabel_global hx
/-- the built-in names that are used -/
structure Bis (mg mb : Str → Option Value) : Prop where
  len : mg "len" = none ∧ mb "len" = some (.builtin "len")
  sum : mg "sum" = none ∧ mb "sum" = some (.builtin "sum")
  min : mg "min" = none ∧ mb "min" = some (.builtin "min")
  max : mg "max" = none ∧ mb "max" = some (.builtin "max")
  sorted : mg "sorted" = none ∧ mb "sorted" = some (.builtin "sorted")
  range : mg "range" = none ∧ mb "range" = some (.type "range")
  enumerate : mg "enumerate" = none ∧ mb "enumerate" = some (.type "enumerate")
  zip : mg "zip" = none ∧ mb "zip" = some (.type "zip")
  list : mg "list" = none ∧ mb "list" = some (.type "list")
  set : mg "set" = none ∧ mb "set" = some (.type "set")
  str : mg "str" = none ∧ mb "str" = some (.type "str")
  type : mg "type" = none ∧ mb "type" = some (.type "type")
end Mine
namespace Mine
/-! ## sets of texts: what is in them; once one is in, their order is the world's -/
noncomputable def SetS (prog : Program) (w : World) (h : Heap) (a : Addr) (S : Str → Bool) (n : Nat) : Prop :=
  ∃ o es ep t, h.get? a = some o ∧ o.ExactSet ∧ o.data = .set es ep t ∧ ElemsOf (strKind prog w) es.toList ∧ (∀ k, S k = true ↔ ∃ e ∈ es.toList, (strKind prog w).is k e.2 = true) ∧ es.size < scanBound ∧ t.fits es.size = true ∧ es.size = n ∧ (es.size ≠ 0 → t.plain = false)
theorem SetS.setOf {prog : Program} {w : World} {h : Heap} {a : Addr} {S : Str → Bool} {n : Nat} (x : SetS prog w h a S n) : h.SetOf (strKind prog w) a S n := by
  obtain ⟨o, es, ep, t, h1, h2, h3, h4, h5, h6, h7, h8, _⟩ := x
  exact ⟨o, es, ep, t, h1, h2, h3, h4, h5, h6, h7, h8⟩
theorem SetS.at {prog : Program} {w : World} {h h' : Heap} {a : Addr} {S : Str → Bool} {n : Nat} (x : SetS prog w h a S n) (k : ∀ o, h.get? a = some o → h'.get? a = some o) : SetS prog w h' a S n := by
  obtain ⟨o, es, ep, t, h1, r⟩ := x
  exact ⟨o, es, ep, t, k o h1, r⟩

theorem orStandIn_plain {t : SetTable} {n : Nat} (h : t.plain = false) : (t.orStandIn n).plain = false := by
  unfold SetTable.orStandIn; split
  · exact h
  · rfl
theorem layNew_plain {t : SetTable} {es : Array (Int × Value)} {h : Int} {x : Value} (hp : t.plain = false) : (layNew t es h x).2.1.plain = false := by
  unfold layNew
  split
  · exact orStandIn_plain hp
  · rfl
theorem relaid_plain {t t' : SetTable} {hs : Array Int} {n : Nat} {order : Array Nat} (h : t.relaid hs n = some (t', order)) : t'.plain = t.plain := by
  unfold SetTable.relaid SetTable.laid at h
  cases e : SetTable.layClean (SetTable.sizeAbove n - 1) hs with
  | none => rw [e] at h; cases h
  | some owner => rw [e] at h; cases h; rfl
theorem relayAll_plain {t : SetTable} {es : Array (Int × Value)} {n : Nat} (hp : t.plain = false) : (relayAll t es n).2.1.plain = false := by
  unfold relayAll
  split
  · rename_i t' order e
    dsimp only
    split
    · rw [relaid_plain e]; exact hp
    · rfl
  · rfl

section
variable {prog : Program} {w : World} {A : Around} {E : Value → Shared → Prop} {s : Shared}

theorem setS_store {h : Heap} {a : Addr} {o : Obj} {es : Array (Int × Value)} {ep : Nat} {t : SetTable} (ho : h.get? a = some o) (hex : o.ExactSet) (hd : o.data = .set es ep t)
    {es' : Array (Int × Value)} {t' : SetTable} {S' : Str → Bool} (hel : ElemsOf (strKind prog w) es'.toList) (hmem : ∀ k, S' k = true ↔ ∃ e ∈ es'.toList, (strKind prog w).is k e.2 = true) (hb : es'.size < scanBound) (hf : t'.fits es'.size = true) (hp : t'.plain = false) :
    (h.update a (Obj.putSet es' t')).get? a = some { o with data := .set es' (ep + 1) t' } ∧ SetS prog w (h.update a (Obj.putSet es' t')) a S' es'.size := by
  obtain ⟨hg, _⟩ := SetOf_store (knd := strKind prog w) ho hex hd hel hmem hb hf
  exact ⟨hg, _, es', ep + 1, t', hg, hex, rfl, hel, hmem, hb, hf, rfl, fun _ => hp⟩

theorem setAdd_S {a : Addr} {S : Str → Bool} {n : Nat} {x : Str} {tk : Tok} {Q : Bool → Shared → Prop} (hS : SetS prog w s.heap a S n) (hroom : n + 1 < scanBound)
    (h : ∀ h', Heap.SameBut a s.heap h' → SetS prog w h' a (fun k => S k || decide (k = x)) (if S x then n else n + 1) → Q (!S x) { s with heap := h', toks := s.toks + 1 }) :
    wpAny (model prog w) A (setAdd a (.str x tk)) Q E s := by
  obtain ⟨o, es, ep, t, ho, hex, hd, hel, hmem, hb, hf, hn, hpl⟩ := hS
  have hkey : (strKind prog w).is x (.str x tk) = true := by show Value.isStrOf x (.str x tk) = true; simp [Value.isStrOf]
  have hb1 : es.size + 1 < scanBound := by rw [hn]; exact hroom
  unfold setAdd
  refine wpAny_holding (wpAny_bind ((strKind prog w).pyHash hkey ?_))
  unfold setAddHashed setAddHashedIn
  refine wpAny_holding (wpAny_bind (wpAny_setState_of ho hd hf ?_))
  dsimp only
  rw [byScan_of (knd := strKind prog w) rfl hb hel, if_pos rfl]
  unfold setAddByScan
  refine wpAny_bind (wpAny_bind (wpAny_rule (wpAny_bind (wpAny_setScan_of (knd := strKind prog w) hkey ho hd hf hel ?_))))
  cases hr : List.findIdx? (fun e => (strKind prog w).is x e.2) es.toList with
  | some j =>
    dsimp only
    obtain ⟨hj, hpj, _⟩ := List.findIdx?_eq_some_iff_getElem.mp hr
    have hSk : S x = true := (hmem x).mpr ⟨es.toList[j], List.getElem_mem hj, hpj⟩
    refine wpAny_pure (wpAny_pure ?_)
    have := h s.heap (.refl _ _) ⟨o, es, ep, t, ho, hex, hd, hel, fun k => by
      rw [Bool.or_eq_true, decide_eq_true_eq, ← hmem k]
      exact ⟨fun hk => hk.elim id (fun e => e ▸ hSk), .inl⟩, hb, hf, by rw [hSk]; exact hn, hpl⟩
    rw [hSk] at this; exact this
  | none =>
    dsimp only
    have hSk : S x = false := by
      cases hk : S x with
      | false => rfl
      | true => obtain ⟨e, he, hp⟩ := (hmem x).mp hk; have := List.findIdx?_eq_none_iff.mp hr e he; rw [hp] at this; exact Bool.noConfusion this
    have hperm := layNew_perm t es ((strKind prog w).hash x) (.str x tk)
    have hfits := layNew_fits t es ((strKind prog w).hash x) (.str x tk)
    have hplN := fun hp => layNew_plain (t := t) (es := es) (h := (strKind prog w).hash x) (x := .str x tk) hp
    generalize layNew t es ((strKind prog w).hash x) (.str x tk) = L at hperm hfits hplN ⊢
    obtain ⟨es1, t1, wasDummy, gave⟩ := L
    dsimp only at hperm hfits hplN ⊢
    rw [Array.toList_push] at hperm
    have hel1 : ElemsOf (strKind prog w) es1.toList := (hel.push hkey rfl).perm hperm
    have hmem1 : ∀ k, (S k || decide (k = x)) = true ↔ ∃ e ∈ es1.toList, (strKind prog w).is k e.2 = true := mem_push_iff hkey hmem hperm
    have hsz1 : es1.size = n + 1 := by rw [← Array.length_toList, hperm.length_eq, List.length_append, Array.length_toList, hn]; rfl
    have hb1' : es1.size < scanBound := by rw [hsz1]; exact hroom
    -- the table once the text is in: plain no more
    have tail : ∀ (t2 : SetTable) (s' : Shared), t2.plain = false → t2.fits es1.size = true → s'.heap = s.heap → s'.gens = s.gens → s'.drawn = s.drawn → s'.os = s.os → s'.toks = s.toks + 1 →
        ∀ (g : Bool → Sem Unit), (∀ (b : Bool) (s₁ : Shared) (Q' : Unit → Shared → Prop), Q' () s₁ → wpAny (model prog w) A (g b) Q' E s₁) →
        wpAny (model prog w) A (do
          storeSet a es1 t2
          if (!wasDummy && t2.tooFull) = true then do
              g (relayAll t2 es1 (SetTable.grown es1.size)).2.2
              storeSet a (relayAll t2 es1 (SetTable.grown es1.size)).1 (relayAll t2 es1 (SetTable.grown es1.size)).2.1
              pure (some true)
            else pure (some true)) (fun r s' => wpAny (model prog w) A (match r with | some added => pure added | none => setAddHashedIn a (.str x tk) ((strKind prog w).hash x) 99999) Q E s') E s' := by
      intro t2 s' hp2 hf2 e1 e2 e3 e4 e5 g hg
      obtain ⟨hp', gg, dd, tt, os'⟩ := s'
      dsimp only at e1 e2 e3 e4 e5
      subst e1 e2 e3 e4 e5
      refine wpAny_bind (wpAny_storeSet_of ho hd ?_ (fits_of_scanBound hb1'))
      obtain ⟨ho1, hS1⟩ := setS_store (prog := prog) (w := w) ho hex hd hel1 hmem1 hb1' hf2 hp2
      have hsb1 := Heap.SameBut.update s.heap a (Obj.putSet es1 t2)
      split
      · have hpm := relayAll_perm t2 es1 (SetTable.grown es1.size)
        have hfr := relayAll_fits t2 es1 (SetTable.grown es1.size)
        have hpr := relayAll_plain (es := es1) (n := SetTable.grown es1.size) hp2
        generalize relayAll t2 es1 (SetTable.grown es1.size) = Rl at hpm hfr hpr ⊢
        obtain ⟨es2, t3, gave2⟩ := Rl
        dsimp only at hpm hfr hpr ⊢
        have hel2 : ElemsOf (strKind prog w) es2.toList := hel1.perm hpm
        have hmem2 : ∀ k, (S k || decide (k = x)) = true ↔ ∃ e ∈ es2.toList, (strKind prog w).is k e.2 = true := fun k => (hmem1 k).trans ⟨fun ⟨e, he, q⟩ => ⟨e, hpm.mem_iff.mpr he, q⟩, fun ⟨e, he, q⟩ => ⟨e, hpm.mem_iff.mp he, q⟩⟩
        have hsz : es2.size = es1.size := by rw [← Array.length_toList, hpm.length_eq, Array.length_toList]
        have hb2 : es2.size < scanBound := by rw [hsz]; exact hb1'
        refine wpAny_bind (hg _ _ _ (wpAny_bind (wpAny_storeSet_of ho1 rfl ?_ (fits_of_scanBound hb2))))
        obtain ⟨_, hS2⟩ := setS_store (prog := prog) (w := w) ho1 hex rfl hel2 hmem2 hb2 hfr hpr
        rw [hsz, hsz1] at hS2
        refine wpAny_pure (wpAny_pure ?_)
        have := h _ (hsb1.trans (Heap.SameBut.update _ a (Obj.putSet es2 t3)))
        rw [hSk] at this
        exact this hS2
      · refine wpAny_pure (wpAny_pure ?_)
        have := h _ hsb1
        rw [hSk] at this
        rw [hsz1] at hS1
        exact this hS1
    have hgw : ∀ (b : Bool) (s₁ : Shared) (Q' : Unit → Shared → Prop), Q' () s₁ → wpAny (model prog w) A (match b with | true => rule "set.scan.the-table-gave-way" | false => pure ()) Q' E s₁ :=
      fun b s₁ Q' hq => by cases b <;> first | exact wpAny_pure hq | exact wpAny_rule hq
    refine wpAny_bind (hgw _ _ _ ?_)
    split
    · rename_i hpt
      refine wpAny_bind ?_
      rw [hashByValue_scannable 8 rfl]
      refine wpAny_pure ?_
      exact tail _ { s with toks := s.toks + 1 } rfl (SetTable.fits_plain_off hfits) rfl rfl rfl rfl rfl _ hgw
    · rename_i hpt
      refine wpAny_bind (wpAny_pure ?_)
      have hp1 : t1.plain = false := by simpa using hpt
      exact tail _ { s with toks := s.toks + 1 } hp1 hfits rfl rfl rfl rfl rfl _ hgw
end

section
variable {prog : Program} {w : World} {A : Around} {E : Value → Shared → Prop} {s : Shared}
noncomputable def inS (xs : List Str) (k : Str) : Bool := xs.any (· == k)
theorem inS_snoc (xs : List Str) (x k : Str) : inS (xs ++ [x]) k = (inS xs k || decide (k = x)) := by
  unfold inS
  rw [List.any_append, List.any_cons, List.any_nil, Bool.or_false]
  congr 1
  by_cases h : k = x
  · subst h; simp
  · have : (x == k) = false := by simpa using fun e : x = k => h e.symm
    rw [this, decide_eq_false h]
theorem rdAll_strs_get {ok : Addr → Prop} {h : Heap} {xs : List Str} {vs : Array Value} (r : RdAll ok h (xs.map .str) vs.toList) (i : Nat) (hi : i < vs.size) : ∃ x t, xs[i]? = some x ∧ vs[i]? = some (.str x t) := by
  have hz := rdAll_size r
  rw [List.length_map] at hz
  have hx : xs[i]? = some xs[i] := List.getElem?_eq_getElem (by omega)
  obtain ⟨v, h1, h2⟩ := rdAll_map_get (g := PyData.str) r i _ hx
  obtain ⟨t, rfl⟩ := Rd_str.mp h2
  exact ⟨_, t, hx, h1⟩
/-- a list's texts are put into a set one by one -/
theorem set_fill {S I l : Addr} {vs : Array Value} {xs : List Str} (hh : A.handled = none) (hr : ∀ i, i < vs.size → ∃ x t, xs[i]? = some x ∧ vs[i]? = some (.str x t)) (hlen : xs.length = vs.size) (hb : vs.size + 1 < scanBound) (hSI : S ≠ I) (hSl : S ≠ l) (hIl : l ≠ I) {R : Result → Shared → Prop} :
    ∀ (k i : Nat) (s : Shared) (n : Nat), vs.size - i = k → i ≤ vs.size → s.heap.IsListIter I l i → s.heap.IsList l vs → SetS prog w s.heap S (inS (xs.take i)) n → n ≤ i →
      (∀ h' tk n', (∀ b o, b ≠ S → b ≠ I → s.heap.get? b = some o → h'.get? b = some o) → SetS prog w h' S (inS xs) n' → R (.ok (.ret .none)) { s with heap := h', toks := tk }) →
      codeAny (model prog w) A (.builtin "set.update.loop" ⟨[.ref S, .ref I], []⟩) R s := by
  intro k
  induction k with
  | zero =>
    intro i s n hk hi hit hl hS hn hR
    have hin : i = vs.size := by omega
    subst hin
    refine codeAny_builtin F.entry_set_update_loop ?_
    rw [Around.under_plainId F.plain_set_update_loop _]
    show wpAny _ A.in1 (pyNext (.ref I) >>= _) _ _ s
    refine wpAny_bind (wpAny_pyNext_list_end (by simpa using hh) hit hl (Array.getElem?_eq_none (Nat.le_refl _)) fun h' hx => ?_)
    show wpAny _ A.in1 (ret Value.none) _ _ _
    refine wpAny_pure (hR h' s.toks n (fun b o _ h2 e => hx b o h2 e) ?_)
    rw [List.take_of_length_le (by omega)] at hS
    exact hS.at fun o e => hx S o hSI e
  | succ k ih =>
    intro i s n hk hi hit hl hS hn hR
    have hlt : i < vs.size := by omega
    obtain ⟨x, t, hx, hv⟩ := hr i hlt
    refine codeAny_builtin F.entry_set_update_loop ?_
    rw [Around.under_plainId F.plain_set_update_loop _]
    show wpAny _ A.in1 (pyNext (.ref I) >>= _) _ _ s
    refine wpAny_bind (wpAny_pyNext_list_item hit hl hv fun h₁ hit₁ hs₁ => ?_)
    show wpAny _ A.in1 (holding [Value.str x t] (setAdd S (.str x t)) >>= _) _ _ _
    refine wpAny_bind (wpAny_holding (setAdd_S (n := n) (hS.at fun o e => (hs₁.2 S hSI).trans e) (by omega) fun h₂ hs₂ hS₂ => ?_))
    refine wpAny_pure ⟨plainId_quiet F.plain_set_update_loop _, ih (i + 1) _ (if inS (xs.take i) x then n else n + 1) (by omega) hlt ?_ ?_ ?_ ?_ fun h' tk n' hk' hS' => ?_⟩
    · exact hit₁.extBut hs₂.extBut (Ne.symm hSI)
    · exact (hl.extBut hs₁.extBut hIl).extBut hs₂.extBut (Ne.symm hSl)
    · rw [List.take_add_one, hx]
      have : inS (xs.take i ++ [x]) = fun k => inS (xs.take i) k || decide (k = x) := funext fun k => inS_snoc _ _ _
      show SetS prog w h₂ S (inS (xs.take i ++ (some x).toList)) _
      rw [show (some x).toList = [x] from rfl, this]
      exact hS₂
    · split <;> omega
    · exact hR h' tk n' (fun b o h1 h2 e => hk' b o h1 h2 ((hs₂.2 b h1).trans ((hs₁.2 b h2).trans e))) hS'
end

set_option maxHeartbeats 3200000 in
/-- set(l) of a list of texts -/
theorem setFrom {prog : Program} {w : World} {A : Around} {E : Value → Shared → Prop} {s : Shared} {l : Addr} {vs : Array Value} {xs : List Str} {Q : Value → Shared → Prop} (hh : A.handled = none) (hl : s.heap.IsList l vs)
    (hr : ∀ i, i < vs.size → ∃ x t, xs[i]? = some x ∧ vs[i]? = some (.str x t)) (hlen : xs.length = vs.size) (hb : vs.size + 1 < scanBound)
    (h : ∀ h' tk n, SetS prog w h' s.heap.objs.size (inS xs) n → (∀ b o, s.heap.get? b = some o → h'.get? b = some o) → Q (.ref s.heap.objs.size) { s with heap := h', toks := tk }) :
    wpAny (model prog w) A (call (.type "set") [.ref l]) Q E s := by
  obtain ⟨c, tl, hmro⟩ := F.called_set.mro
  have hmade := F.called_set.made
  have hsub := F.called_set.sub
  refine wpAny_call (codeAny_of_tree ?_)
  show wpAny _ _ (callAny (.type "set") _) _ _ _
  refine wpAny_pure ⟨Code.quiet_builtin _ (by decide +kernel), codeAny_builtin F.entry_type_call ?_⟩
  rw [Around.under_plain (weight_type_call_type "set" [.ref l] []) rfl]
  have h1 := F.called_set.notType
  have h2 := F.called_set.canCreate
  have hct := F.typeCall_set_1 (.ref l)
  repeat (any_goals (first | assumption | wp_step))
  refine codeAny_mono (code_set_new_1 (.ref l) (E := E) (Q₁ := fun obj s₁ => ∃ led : Bool, obj = .ref s.heap.objs.size ∧ s₁ = { s with heap := s.heap.push { cls := .type "set", dict := none, data := .set #[] 0 (.fresh 0 0 led) } }) fun led => ⟨led, rfl, rfl⟩) fun r s₁ hr₁ => ?_
  rcases r with e | (v | _ | _ | v)
  · exact hr₁
  · exact hr₁.elim
  · exact hr₁.elim
  · exact hr₁.elim
  obtain ⟨led, rfl, rfl⟩ := hr₁
  generalize hH : s.heap.push { cls := .type "set", dict := none, data := .set #[] 0 (.fresh 0 0 led) } = H
  have hS : H.get? s.heap.objs.size = some { cls := .type "set", dict := none, data := .set #[] 0 (.fresh 0 0 led) } := hH ▸ Heap.get?_push_size _ rfl
  have hT : Shared.TypeIs { s with heap := H } (.ref s.heap.objs.size) "set" := ⟨_, hS, rfl⟩
  have hk1 : ∀ b o, s.heap.get? b = some o → H.get? b = some o := fun b o e => hH ▸ Heap.get?_push_of_some _ e
  have hli := F.called_set.init.lookup
  have hbi := F.called_set.init.bind (.ref s.heap.objs.size)
  repeat (any_goals (first | assumption | wp_step))
  refine codeAny_mono (codeAny_call_builtin (R := wants (fun r s₂ => r = .none ∧ ∃ h' tk n, s₂ = { s with heap := h', toks := tk } ∧ SetS prog w h' s.heap.objs.size (inS xs) n ∧ (∀ b o, s.heap.get? b = some o → h'.get? b = some o)) E)
    F.called_set.init.plain F.entry_set_init (check_set_init_1 hT ?_)) fun r₂ s₂ hr₂ => ?_
  · obtain ⟨⟨ocls, odict, odata, oslots⟩, hol, hcl, nl, hdl⟩ := hl
    simp only at hcl hdl
    subst hcl hdl
    have hol' : H.get? l = some { cls := .type "list", dict := odict, data := .seq vs nl, slots := oslots } := hk1 _ _ hol
    have hsls := F.sub_list_set
    have hslf := F.sub_list_frozenset
    have hne : (Value.type "list" == Value.type "dict") = false := by decide
    have hl1 : H.IsList l vs := ⟨_, hol', rfl, nl, rfl⟩
    unfold Builtin.«set.__init__» noKeywords Builtin.Frozenset.updateFrom
    generalize hPI : pyIter = PI
    wp_walk
    subst hPI
    refine wpAny_pyIter_list hl1 (wpAny_bind (wpAny_runValue ?_))
    have hsz : H.objs.size = s.heap.objs.size + 1 := hH ▸ Heap.size_push ..
    have hlS : @LT.lt Nat _ l s.heap.objs.size := Heap.lt_size hol
    refine set_fill (prog := prog) (w := w) (l := l) (vs := vs) (xs := xs) (by simpa using hh) hr hlen hb ?_ ?_ ?_ vs.size 0 _ 0 (by omega) (Nat.zero_le _) ⟨_, Heap.get?_push_size _ rfl, rfl, rfl⟩ (hl1.push _) ?_ (Nat.le_refl _) fun h' tk n hk' hS' => ?_
    · show s.heap.objs.size ≠ H.objs.size; rw [hsz]; exact Nat.ne_of_lt (Nat.lt_succ_self _)
    · exact Nat.ne_of_gt hlS
    · show l ≠ H.objs.size; rw [hsz]; exact Nat.ne_of_lt (Nat.lt_succ_of_lt hlS)
    · refine ⟨_, #[], 0, _, Heap.get?_push_of_some _ hS, ⟨rfl, rfl, rfl⟩, rfl, fun e he => by simp at he, fun k => by simp [inS], by decide, rfl, rfl, fun x => absurd rfl x⟩
    · refine wpAny_pure ?_
      show wpAny _ _ (ret Value.none) _ _ _
      refine wpAny_pure ⟨rfl, h', tk, n, rfl, hS', fun b o e => hk' b o (Nat.ne_of_lt (Heap.lt_size e)) ?_ (Heap.get?_push_of_some _ (hk1 b o e))⟩
      show b ≠ H.objs.size; rw [hsz]; exact Nat.ne_of_lt (Nat.lt_succ_of_lt (Heap.lt_size e))
  · rcases r₂ with e | (v | _ | _ | v)
    · exact hr₂
    · exact hr₂.elim
    · exact hr₂.elim
    · exact hr₂.elim
    obtain ⟨rfl, h', tk, n, rfl, hS', hk'⟩ := hr₂
    repeat (any_goals (first | assumption | wp_step))
    exact h _ _ _ hS' hk'
end Mine
namespace Mine
/-! ## a walk through a set of texts, in whatever order -/
theorem wpAny_pick {M : Model} {A : Around} {E : Value → Shared → Prop} {s : Shared} {src : Source} {n : Nat} {Q : Nat → Shared → Prop} (hn : n ≠ 0) (h : ∀ i, i < n → ∀ dr, Q i { s with drawn := dr }) : wpAny M A (choose src n) Q E s := fun Γ p _ => by
  show Sem.wp M Γ (.choose src n .pure) _ _ p s
  rw [Sem.wp_choose]
  exact ⟨hn, h _ (Nat.mod_lt _ (Nat.pos_of_ne_zero hn)) _⟩
theorem eraseIdx_perm {α : Type} : ∀ (xs : List α) (i : Nat) (x : α), xs[i]? = some x → (x :: xs.eraseIdx i).Perm xs
  | [], i, x, h => by simp at h
  | y :: r, 0, x, h => by simp at h; subst h; exact .refl _
  | y :: r, i + 1, x, h => by
    simp only [List.eraseIdx_cons_succ]
    exact (List.Perm.swap y x _).trans ((eraseIdx_perm r i x (by simpa using h)).cons y)
theorem wpAny_drawOrder {M : Model} {A : Around} {E : Value → Shared → Prop} {α : Type} : ∀ (n : Nat) (xs : List α) (s : Shared) (Q : List α → Shared → Prop), xs.length = n → (∀ ys dr, ys.Perm xs → Q ys { s with drawn := dr }) → wpAny M A (drawOrder n xs) Q E s
  | 0, xs, s, Q, hn, h => by
    have : xs = [] := List.length_eq_zero_iff.mp hn
    subst this
    exact wpAny_pure (h [] s.drawn (.refl _))
  | n + 1, [], s, Q, hn, h => by simp at hn
  | n + 1, x :: r, s, Q, hn, h => by
    unfold drawOrder
    refine wpAny_bind (wpAny_pick (by simp) fun i hi dr => ?_)
    have hx : (x :: r)[i]? = some (x :: r)[i] := List.getElem?_eq_getElem hi
    generalize (x :: r)[i] = y at hx
    rw [hx]
    refine wpAny_bind (wpAny_drawOrder n ((x :: r).eraseIdx i) { s with drawn := dr } _ ?_ fun ys dr' hp => wpAny_pure (h _ dr' ?_))
    · rw [List.length_eraseIdx_of_lt hi]; omega
    · exact (hp.cons y).trans (eraseIdx_perm _ _ _ hx)
theorem pick_go {α : Type} (next : Nat → Nat) : ∀ (fuel k : Nat) (left : List α) (out : Array α), left.length ≤ fuel → (pickOrder.go next fuel k left out).toList.Perm (out.toList ++ left)
  | 0, k, left, out, h => by
    have : left = [] := List.length_eq_zero_iff.mp (Nat.le_zero.mp h)
    subst this
    unfold pickOrder.go
    simp
  | fuel + 1, k, left, out, h => by
    unfold pickOrder.go
    cases hx : left[next k % left.length]? with
    | none =>
      have : left = [] := by
        cases left with
        | nil => rfl
        | cons a r => exact absurd (List.getElem?_eq_none_iff.mp hx) (Nat.not_le.mpr (Nat.mod_lt _ (by simp)))
      subst this; simp
    | some x =>
      have hlt : next k % left.length < left.length := (List.getElem?_eq_some_iff.mp hx).1
      refine (pick_go next fuel (k + 1) _ _ (by rw [List.length_eraseIdx_of_lt hlt]; omega)).trans ?_
      rw [Array.toList_push, List.append_assoc]
      exact (eraseIdx_perm _ _ _ hx).append_left _
theorem pickOrder_perm {α : Type} (next : Nat → Nat) (xs : Array α) : (pickOrder next xs).toList.Perm xs.toList := by
  unfold pickOrder
  have := pick_go next xs.size 0 xs.toList #[] (by simp)
  simpa using this

theorem slot_setiter_next : Slot "set_iterator" "__next__" "set_iterator.__next__" :=
  .of (owner := "set_iterator") (n := "__next__") (by rw [typeLookup_type, builtinLookup_eq_fast]; kernel_rfl) (by decide +kernel) (by decide +kernel) (by decide +kernel)
    (by first | exact .inl (by decide +kernel) | exact .inr (by decide +kernel)) (by rw [isSubtype_type]; kernel_rfl)
theorem entry_setiter_next : entryFor table "set_iterator.__next__" = some Builtin.«set_iterator.__next__» := entryFor_of_tree (by kernel_rfl)
theorem args_setiter_next (a : Value) : argsOk "set_iterator.__next__" ⟨[a], []⟩ := by unfold argsOk; kernel_rfl
theorem entry_set_iter : entryFor table "set.__iter__" = some Builtin.«frozenset.__iter__» := entryFor_alias (id' := "frozenset.__iter__") (by kernel_rfl) rfl (by decide +kernel) (by kernel_rfl)

noncomputable def itObj (first : Value) (i : Nat) (a : Addr) (n ep : Nat) : Obj := { cls := .type "set_iterator", data := .fields #[first, rawInt i, .ref a, rawInt n, rawInt ep] }
/-- an iterator that goes through ord, i of it behind -/
noncomputable def SetIt (w : World) (h : Heap) (it a : Addr) (ord : List Value) (i : Nat) : Prop :=
  ∃ o es ep t, h.get? a = some o ∧ o.data = .set es ep t ∧ t.fits es.size = true ∧ ord.length = es.size ∧
    ((w.params.followText "set-order" = true ∧ h.get? it = some (itObj (rawInt 0) i a es.size ep) ∧ ord = (pickOrder (w.params.setOrder a ep) es).toList.map (·.2)) ∨
     (w.params.followText "set-order" = false ∧ ∃ T ps, h.get? it = some (itObj (.ref T) i a es.size ep) ∧ h.get? T = some { cls := .type "tuple", data := .seq ((ps : List Nat).map fun p : Nat => rawInt p).toArray } ∧ ps.length = es.size ∧
        ∀ (j p : Nat), ps[j]? = some p → ∃ e : Int × Value, es[p]? = some e ∧ ord[j]? = some e.2) ∨
     (w.params.followText "set-order" = false ∧ h.get? it = some (itObj (rawInt 0) i a es.size ep) ∧ es.size = 0))

section
variable {prog : Program} {w : World} {A : Around} {E : Value → Shared → Prop} {s : Shared}

theorem byText_ {M : Model} {Q : Bool → Shared → Prop} (h : Q (M.w.params.followText "set-order") s) : wpAny M A setsByText Q E s := by
  unfold setsByText
  exact wpAny_bind (wpAny_askSetting (wpAny_pure h))

/-- the walk begins -/
theorem iter_set {a : Addr} {S : Str → Bool} {n : Nat} {Q : Value → Shared → Prop} (hS : SetS prog w s.heap a S n) (hn : n ≠ 1)
    (h : ∀ it h' dr ord, SetIt w h' it a ord 0 → (∀ b o, s.heap.get? b = some o → h'.get? b = some o) → s.heap.get? it = none → (∀ k, S k = true ↔ ∃ v ∈ ord, (strKind prog w).is k v = true) → (∀ v ∈ ord, ∃ x t, v = .str x t) → Q (.ref it) { s with heap := h', drawn := dr }) :
    wpAny (model prog w) A (pyIter (.ref a)) Q E s := by
  have hT := hS.setOf.typeIs
  obtain ⟨o, es, ep, t, ho, hex, hd, hel, hmem, hb, hf, hsz, hpl⟩ := hS
  have hstr : ∀ e ∈ es.toList, ∃ x tk, e.2 = .str x tk := fun e he => by
    obtain ⟨⟨k, hk, _⟩, _⟩ := hel e he
    exact ⟨k, Value.isStrOf_shape hk⟩
  refine wpAny_pyIter_slot hT F.slot_set_iter (wpAny_call_entry F.slot_set_iter hT entry_set_iter ?_ (F.args_set_iter_1 _))
  unfold Builtin.«frozenset.__iter__» Builtin.Frozenset.slot0 Builtin.Frozenset.sizeOf
  refine wpAny_bind (wpAny_bind (wpAny_pure (wpAny_pure (wpAny_bind (wpAny_bind (wpAny_setEntries_of ho hd hf (wpAny_pure (wpAny_bind ?_))))))))
  unfold setDrawn
  refine wpAny_bind (wpAny_setState_of ho hd hf (wpAny_bind (byText_ (wpAny_pure ?_))))
  show wpAny _ _ (if (!w.params.followText "set-order" && (!t.plain && decide (es.size > 1))) = true then _ else _) _ _ _
  have fin : ∀ (first : Value) (s' : Shared), s'.gens = s.gens → s'.os = s.os → s'.toks = s.toks → (∀ b o, s.heap.get? b = some o → s'.heap.get? b = some o) →
      (∀ ord, SetIt w (s'.heap.push (itObj first 0 a es.size ep)) s'.heap.objs.size a ord 0 → (∀ k, S k = true ↔ ∃ v ∈ ord, (strKind prog w).is k v = true) → (∀ v ∈ ord, ∃ x t, v = .str x t) → Q (.ref s'.heap.objs.size) { s' with heap := s'.heap.push (itObj first 0 a es.size ep) }) := by
    intro first s' e1 e2 e3 hk ord hI hm hst
    obtain ⟨hp', g', d', t', os'⟩ := s'
    dsimp only at e1 e2 e3 hk ⊢
    subst e1 e2 e3
    exact h _ _ d' ord hI (fun b o e => Heap.get?_push_of_some _ (hk b o e)) (by
      cases e : s.heap.get? hp'.objs.size with
      | none => rfl
      | some o' => exact absurd (Heap.lt_size (hk _ _ e)) (Nat.lt_irrefl _)) hm hst
  have back : ∀ (first : Value) (s' : Shared) (hk : ∀ b o, s.heap.get? b = some o → s'.heap.get? b = some o), Q (.ref s'.heap.objs.size) { s' with heap := s'.heap.push (itObj first 0 a es.size ep) } →
      wpAny (model prog w) A.in1 (do
        let ep ← setEpoch a
        let v ← newFields "set_iterator" [first, rawInt 0, .ref a, rawInt es.size, rawInt ep]
        ret v) (fun fin s'' => ∃ v, fin = .done (.ret v) ∧ ∃ T' r, s''.TypeIs v T' ∧ typeLookup (.type T') "__next__" = pure (some r) ∧ Q v s'') E s' := by
    intro first s' hk hq
    refine wpAny_bind (wpAny_setEpoch_of (hk _ _ ho) hd hf (wpAny_bind (wpAny_newObj_type (wpAny_pure ⟨_, rfl, "set_iterator", _, ⟨_, Heap.get?_push_size _ rfl, rfl⟩, slot_setiter_next.lookup, hq⟩))))
  cases hbt : w.params.followText "set-order" with
  | true =>
    simp only [Bool.not_true, Bool.false_and, Bool.false_eq_true, if_false]
    refine wpAny_bind (wpAny_pure <| back _ _ (fun _ _ e => e) ?_)
    have hp := pickOrder_perm (w.params.setOrder a ep) es
    refine fin _ s rfl rfl rfl (fun _ _ e => e) ((pickOrder (w.params.setOrder a ep) es).toList.map (·.2)) ⟨o, es, ep, t, Heap.get?_push_of_some _ ho, hd, hf, by rw [List.length_map, hp.length_eq, Array.length_toList], .inl ⟨hbt, Heap.get?_push_size _ rfl, rfl⟩⟩ (fun k => ?_) fun v hv => ?_
    · rw [hmem k]
      exact ⟨fun ⟨e, he, q⟩ => ⟨e.2, List.mem_map_of_mem (hp.mem_iff.mpr he), q⟩, fun ⟨v, hv, q⟩ => by obtain ⟨e, he, rfl⟩ := List.mem_map.mp hv; exact ⟨e, hp.mem_iff.mp he, q⟩⟩
    · obtain ⟨e, he, rfl⟩ := List.mem_map.mp hv
      exact hstr e (hp.mem_iff.mp he)
  | false =>
    by_cases h0 : es.size = 0
    · have : decide (es.size > 1) = false := decide_eq_false (by omega)
      simp only [this, Bool.and_false, Bool.false_eq_true, if_false]
      refine wpAny_bind (wpAny_pure <| back _ _ (fun _ _ e => e) ?_)
      have hes : es.toList = [] := List.length_eq_zero_iff.mp (by simpa using h0)
      refine fin _ s rfl rfl rfl (fun _ _ e => e) [] ⟨o, es, ep, t, Heap.get?_push_of_some _ ho, hd, hf, by simpa using h0.symm, .inr (.inr ⟨hbt, Heap.get?_push_size _ rfl, h0⟩)⟩ (fun k => ?_) fun v hv => (nomatch hv)
      rw [hmem k, hes]; simp
    · have h2 : es.size > 1 := by omega
      have : (!false && (!t.plain && decide (es.size > 1))) = true := by rw [hpl h0, decide_eq_true h2]; rfl
      rw [this, if_pos rfl]
      refine wpAny_bind (wpAny_drawOrder _ _ s _ (by simp) fun ys dr hp => ?_)
      have hlen : ys.length = es.size := by rw [hp.length_eq, List.length_range]
      refine wpAny_bind (wpAny_newTuple ?_ (by rw [List.length_map, hlen]; exact fits_of_scanBound hb))
      refine back _ _ (fun _ _ e => Heap.get?_push_of_some _ e) ?_
      have hget : ∀ p ∈ ys, ∃ e, es[p]? = some e := fun p hp' => by
        have := List.mem_range.mp (hp.mem_iff.mp hp')
        exact ⟨es[p], Array.getElem?_eq_getElem this⟩
      refine fin _ { s with drawn := dr, heap := s.heap.push _ } rfl rfl rfl (fun _ _ e => Heap.get?_push_of_some _ e) (ys.filterMap fun p => (es[p]?).map (·.2)) ⟨o, es, ep, t, Heap.get?_push_of_some _ (Heap.get?_push_of_some _ ho), hd, hf, ?_, .inr (.inl ⟨hbt, _, ys, Heap.get?_push_size _ rfl, Heap.get?_push_of_some _ (Heap.get?_push_size _ rfl), hlen, ?_⟩)⟩ (fun k => ?_) fun v hv => ?_
      · rw [← hlen]
        have : ∀ l : List Nat, (∀ p ∈ l, ∃ e, es[p]? = some e) → (l.filterMap fun p => (es[p]?).map (·.2)).length = l.length := by
          intro l
          induction l with
          | nil => intro _; rfl
          | cons p r ih =>
            intro hl
            obtain ⟨e, he⟩ := hl p List.mem_cons_self
            simp [List.filterMap_cons, he, ih fun q hq => hl q (List.mem_cons_of_mem _ hq)]
        exact this ys hget
      · intro j p hj
        obtain ⟨e, he⟩ := hget p (List.mem_of_getElem? hj)
        refine ⟨e, he, ?_⟩
        have : ∀ (l : List Nat) (j p : Nat), (∀ p ∈ l, ∃ e, es[p]? = some e) → l[j]? = some p → (l.filterMap fun p => (es[p]?).map (·.2))[j]? = (es[p]?).map (·.2) := by
          intro l
          induction l with
          | nil => intro j p _ h; simp at h
          | cons q r ih =>
            intro j p hl h
            obtain ⟨e', he'⟩ := hl q List.mem_cons_self
            simp only [List.filterMap_cons, he', Option.map_some]
            cases j with
            | zero => simp at h; subst h; simp [he']
            | succ j => simpa using ih j p (fun q hq => hl q (List.mem_cons_of_mem _ hq)) (by simpa using h)
        rw [this ys j p hget hj, he]; rfl
      · rw [hmem k]
        constructor
        · rintro ⟨e, he, q⟩
          obtain ⟨i, hi, rfl⟩ := List.getElem_of_mem he
          have hi' : i < es.size := by simpa using hi
          refine ⟨es.toList[i].2, List.mem_filterMap.mpr ⟨i, hp.mem_iff.mpr (List.mem_range.mpr hi'), ?_⟩, q⟩
          simp [hi']
        · rintro ⟨v, hv, q⟩
          obtain ⟨p, _, hp'⟩ := List.mem_filterMap.mp hv
          obtain ⟨e, he, rfl⟩ := Option.map_eq_some_iff.mp hp'
          exact ⟨e, Array.mem_toList_iff.mpr (Array.mem_of_getElem? he), q⟩
      · obtain ⟨p, _, hp'⟩ := List.mem_filterMap.mp hv
        obtain ⟨e, he, rfl⟩ := Option.map_eq_some_iff.mp hp'
        exact hstr e (Array.mem_toList_iff.mpr (Array.mem_of_getElem? he))
end
end Mine
namespace Mine
section
variable {prog : Program} {w : World} {A : Around} {E : Value → Shared → Prop} {s : Shared}

theorem itObj_type {h : Heap} {g : Array GenState} {d : Drawn} {t : Nat} {os : OsState} {it a : Addr} {f : Value} {i n ep : Nat} (e : h.get? it = some (itObj f i a n ep)) : Shared.TypeIs ⟨h, g, d, t, os⟩ (.ref it) "set_iterator" := ⟨_, e, rfl⟩
/-- the same, with the tuple of places named -/
noncomputable def SetItT (w : World) (h : Heap) (it a T : Addr) (ord : List Value) (i : Nat) : Prop :=
  ∃ o es ep t, h.get? a = some o ∧ o.data = .set es ep t ∧ t.fits es.size = true ∧ ord.length = es.size ∧
    ((w.params.followText "set-order" = true ∧ h.get? it = some (itObj (rawInt 0) i a es.size ep) ∧ ord = (pickOrder (w.params.setOrder a ep) es).toList.map (·.2)) ∨
     (w.params.followText "set-order" = false ∧ ∃ ps, h.get? it = some (itObj (.ref T) i a es.size ep) ∧ h.get? T = some { cls := .type "tuple", data := .seq ((ps : List Nat).map fun p : Nat => rawInt p).toArray } ∧ ps.length = es.size ∧
        ∀ (j p : Nat), ps[j]? = some p → ∃ e : Int × Value, es[p]? = some e ∧ ord[j]? = some e.2) ∨
     (w.params.followText "set-order" = false ∧ h.get? it = some (itObj (rawInt 0) i a es.size ep) ∧ es.size = 0)) ∧
    ∃ oT, h.get? T = some oT ∧ NotFrame oT
theorem nf_set {o : Obj} {es : Array (Int × Value)} {n : Nat} {t : SetTable} (d : o.data = .set es n t) : NotFrame o := ⟨fun _ _ y => (by rw [d] at y; cases y), fun _ y => (by rw [d] at y; cases y)⟩
theorem setIt_T {h : Heap} {it a : Addr} {ord : List Value} {i : Nat} (x : SetIt w h it a ord i) : ∃ T, T ≠ it ∧ SetItT w h it a T ord i := by
  obtain ⟨o, es, ep, t, h1, h2, h3, h4, hc⟩ := x
  have ne : ∀ f n, h.get? it = some (itObj f i a n ep) → a ≠ it := fun f n e e' => by subst e'; rw [e] at h1; cases h1; cases h2
  rcases hc with ⟨a1, a2, a3⟩ | ⟨a1, T, ps, a2, a3, a4⟩ | ⟨a1, a2, a3⟩
  · exact ⟨a, ne _ _ a2, o, es, ep, t, h1, h2, h3, h4, .inl ⟨a1, a2, a3⟩, o, h1, nf_set h2⟩
  · exact ⟨T, fun e => by subst e; rw [a2] at a3; have := congrArg Obj.cls (Option.some.inj a3); simp [itObj] at this, o, es, ep, t, h1, h2, h3, h4, .inr (.inl ⟨a1, ps, a2, a3, a4⟩), _, a3, nf_seq rfl⟩
  · exact ⟨a, ne _ _ a2, o, es, ep, t, h1, h2, h3, h4, .inr (.inr ⟨a1, a2, a3⟩), o, h1, nf_set h2⟩
theorem setIt_obj {h : Heap} {it a T : Addr} {ord : List Value} {i : Nat} (x : SetItT w h it a T ord i) : ∃ f n ep, h.get? it = some (itObj f i a n ep) := by
  obtain ⟨o, es, ep, t, _, _, _, _, h1 | h1 | h1, _⟩ := x
  · exact ⟨_, _, _, h1.2.1⟩
  · obtain ⟨_, ps, e, _⟩ := h1; exact ⟨_, _, _, e⟩
  · exact ⟨_, _, _, h1.2.1⟩
theorem up_self {h : Heap} {it a : Addr} {f f' : Value} {i n ep : Nat} (e : h.get? it = some (itObj f i a n ep)) : (h.update it (Obj.mapFields (·.setIfInBounds 0 f'))).get? it = some (itObj f' i a n ep) := by
  rw [Heap.get?_update_self _ e (Obj.isFreed_of_fields (Obj.data_mapFields (o := itObj f i a n ep) (by rfl) _))]; rfl
theorem up_i {h : Heap} {it a : Addr} {f : Value} {i n ep : Nat} (e : h.get? it = some (itObj f i a n ep)) : (h.update it (Obj.mapFields (·.setIfInBounds 1 (rawInt ((i : Int) + 1))))).get? it = some (itObj f (i + 1) a n ep) := by
  rw [Heap.get?_update_self _ e (Obj.isFreed_of_fields (Obj.data_mapFields (o := itObj f i a n ep) (by rfl) _))]; rfl

theorem next_set_item {it a T : Addr} {ord : List Value} {i : Nat} {x : Value} {Q : Option Value → Shared → Prop} (hTi : T ≠ it) (hI : SetItT w s.heap it a T ord i) (hx : ord[i]? = some x)
    (hQ : ∀ h', SetItT w h' it a T ord (i + 1) → Heap.SameBut it s.heap h' → Q (some x) { s with heap := h' }) : wpAny (model prog w) A (pyNext (.ref it)) Q E s := by
  obtain ⟨f, n, ep', hit⟩ := setIt_obj hI
  have hT := itObj_type (g := s.gens) (d := s.drawn) (t := s.toks) (os := s.os) hit
  obtain ⟨o, es, ep, t, ho, hd, hf, hlen, hc, oT, hoT, hnT⟩ := hI
  have hai : a ≠ it := fun e => by subst e; rw [hit] at ho; cases ho; cases hd
  have hlt : i < ord.length := (List.getElem?_eq_some_iff.mp hx).1
  unfold pyNext
  refine wpAny_bind (wpAny_attempt (wpAny_callSpecial?_slot (name := Str.ofString "__next__") hT slot_setiter_next (wpAny_call_entry slot_setiter_next hT entry_setiter_next ?_ (args_setiter_next _))))
  rcases hc with ⟨hb, hit, rfl⟩ | ⟨hb, ps, hit, hTo, hps, hord⟩ | ⟨hb, hit, h0⟩
  · show wpAny _ _ (fieldsOf (.ref it) >>= _) _ _ s
    refine wpAny_bind (wpAny_fieldsOf hit rfl ?_)
    show wpAny _ _ (setEntries a >>= _) _ _ s
    refine wpAny_bind (wpAny_setEntries_of ho hd hf ?_)
    rw [if_neg (by simp [rawInt])]
    show wpAny _ _ (setNext a 0 (i : Int).toNat (ep : Int).toNat >>= _) _ _ s
    rw [Int.toNat_natCast, Int.toNat_natCast]
    refine wpAny_bind ?_
    unfold setNext
    refine wpAny_bind (wpAny_setState_of ho hd hf ?_)
    refine wpAny_bind (byText_ ?_)
    rw [show (model prog w).w.params.followText "set-order" = true from hb, if_pos rfl, if_neg (by simp)]
    refine wpAny_bind (m := setWalk a) ?_
    unfold setWalk
    refine wpAny_bind (wpAny_setState_of ho hd hf (wpAny_bind (byText_ ?_)))
    rw [show (model prog w).w.params.followText "set-order" = true from hb, if_pos rfl]
    refine wpAny_bind (wpAny_askSetting (wpAny_pure ?_))
    refine wpAny_pure ?_
    obtain ⟨e, he, rfl⟩ : ∃ e : Int × Value, (pickOrder (w.params.setOrder a ep) es)[i]? = some e ∧ e.2 = x := by
      simpa using hx
    rw [show (pickOrder ((model prog w).w.params.setOrder a ep) es)[i]? = some e from he]
    show wpAny _ _ (setField (.ref it) 0 (rawInt (0 : Nat)) >>= _) _ _ s
    refine wpAny_bind (wpAny_setField hit rfl (by simp) ?_)
    have hit1 := up_self (f' := rawInt (0 : Nat)) hit
    show wpAny _ _ (setField (.ref it) 1 (rawInt ((i : Int) + 1)) >>= _) _ _ _
    refine wpAny_bind (wpAny_setField hit1 rfl (by simp) ?_)
    have hit2 := up_i hit1
    have hsb := (Heap.SameBut.update s.heap it (Obj.mapFields (·.setIfInBounds 0 (rawInt (0 : Nat))))).trans (Heap.SameBut.update _ it (Obj.mapFields (·.setIfInBounds 1 (rawInt ((i : Int) + 1)))))
    exact wpAny_pure ⟨e.2, rfl, wpAny_pure (hQ _ ⟨o, es, ep, t, (hsb.2 a hai).trans ho, hd, hf, hlen, .inl ⟨hb, hit2, rfl⟩, oT, (hsb.2 T hTi).trans hoT, hnT⟩ hsb)⟩
  · show wpAny _ _ (fieldsOf (.ref it) >>= _) _ _ s
    refine wpAny_bind (wpAny_fieldsOf hit rfl ?_)
    show wpAny _ _ (setEntries a >>= _) _ _ s
    refine wpAny_bind (wpAny_setEntries_of ho hd hf ?_)
    rw [if_neg (by simp [rawInt])]
    show wpAny _ _ (seqItems? (.ref T) >>= _) _ _ s
    refine wpAny_bind (wpAny_seqItems hTo rfl ?_)
    have hps1 : i < ps.length := by omega
    have hp : ps[i]? = some ps[i] := List.getElem?_eq_getElem hps1
    generalize ps[i] = p at hp
    have hpa : ((ps.map fun p : Nat => rawInt p).toArray)[(i : Int).toNat]? = some (.int (p : Nat) 0) := by
      rw [Int.toNat_natCast]; simp [hp, rawInt]
    show wpAny _ _ (match ((ps.map fun p : Nat => rawInt p).toArray)[(i : Int).toNat]? with
      | some (.int place _) => _
      | some _ => _
      | none => _) _ _ s
    rw [hpa]
    obtain ⟨e, he, hoe⟩ := hord i p hp
    obtain rfl : e.2 = x := by rw [hoe] at hx; exact Option.some.inj hx
    show wpAny _ _ (setNextDrawn a (p : Int).toNat (ep : Int).toNat >>= _) _ _ s
    rw [Int.toNat_natCast, Int.toNat_natCast]
    refine wpAny_bind ?_
    unfold setNextDrawn
    refine wpAny_bind (wpAny_setState_of ho hd hf ?_)
    dsimp only
    rw [if_neg (by simp)]
    rw [he]
    refine wpAny_pure ?_
    show wpAny _ _ (setField (.ref it) 1 (rawInt ((i : Int) + 1)) >>= _) _ _ _
    refine wpAny_bind (wpAny_setField hit rfl (by simp) ?_)
    have hit2 := up_i hit
    have hsb := Heap.SameBut.update s.heap it (Obj.mapFields (·.setIfInBounds 1 (rawInt ((i : Int) + 1))))
    exact wpAny_pure ⟨e.2, rfl, wpAny_pure (hQ _ ⟨o, es, ep, t, (hsb.2 a hai).trans ho, hd, hf, hlen, .inr (.inl ⟨hb, ps, hit2, (hsb.2 T hTi).trans hTo, hps, hord⟩), oT, (hsb.2 T hTi).trans hoT, hnT⟩ hsb)⟩
  · rw [hlen, h0] at hlt; exact absurd hlt (Nat.not_lt_zero _)

theorem stop_now {it : Addr} {Q : Option Value → Shared → Prop} {h₁ : Heap} (hh : A.handled = none) (hk : Heap.ExtBut it s.heap h₁) (hQ : ∀ h', Heap.ExtBut it s.heap h' → Q none { s with heap := h' }) {P : Fin → Shared → Prop} :
    wpAny (model prog w) A.in1 (newExc (.type "StopIteration") [] >>= fun e => raiseNew e) P (fun e s' => wpAny (model prog w) A (isInstance e (.type "StopIteration") >>= fun b => if b = true then pure none else throw e) Q E s') { s with heap := h₁ } := by
  refine wpAny_bind ?_
  simp only [newExc, newTuple]
  refine wpAny_bind (wpAny_newObj_type ?_ (by size_fits))
  refine wpAny_bind (m := firstArgMember _ _) (wpAny_of_eq (a := Value.none) (by first | rfl | (simp only [firstArgMember]; rfl)) ?_)
  refine wpAny_newObj_type ?_ (by size_fits)
  simp only [raiseNew]
  refine wpAny_bind (wpAny_handled ?_)
  rw [show A.in1.handled = none from hh]
  refine wpAny_bind (wpAny_pure (wpAny_throw ?_))
  refine wpAny_bind (wpAny_isInstance (T := "StopIteration") (b := true) ⟨_, Heap.get?_push_size _ rfl, rfl⟩ isSubtype_stop ?_)
  exact wpAny_pure (hQ _ ((hk.push _).push _))

theorem next_set_end {it a T : Addr} {ord : List Value} {Q : Option Value → Shared → Prop} (hh : A.handled = none) (hI : SetItT w s.heap it a T ord ord.length)
    (hQ : ∀ h', Heap.ExtBut it s.heap h' → Q none { s with heap := h' }) : wpAny (model prog w) A (pyNext (.ref it)) Q E s := by
  obtain ⟨f, n, ep', hit⟩ := setIt_obj hI
  have hT := itObj_type (g := s.gens) (d := s.drawn) (t := s.toks) (os := s.os) hit
  obtain ⟨o, es, ep, t, ho, hd, hf, hlen, hc, oT, hoT, hnT⟩ := hI
  unfold pyNext
  refine wpAny_bind (wpAny_attempt (wpAny_callSpecial?_slot (name := Str.ofString "__next__") hT slot_setiter_next (wpAny_call_entry slot_setiter_next hT entry_setiter_next ?_ (args_setiter_next _))))
  rcases hc with ⟨hb, hit, hord⟩ | ⟨hb, ps, hit, hTo, hps, hord⟩ | ⟨hb, hit, h0⟩
  · show wpAny _ _ (fieldsOf (.ref it) >>= _) _ _ s
    refine wpAny_bind (wpAny_fieldsOf hit rfl ?_)
    show wpAny _ _ (setEntries a >>= _) _ _ s
    refine wpAny_bind (wpAny_setEntries_of ho hd hf ?_)
    rw [if_neg (by simp [rawInt])]
    show wpAny _ _ (setNext a 0 (ord.length : Int).toNat (ep : Int).toNat >>= _) _ _ s
    rw [Int.toNat_natCast, Int.toNat_natCast]
    refine wpAny_bind ?_
    unfold setNext
    refine wpAny_bind (wpAny_setState_of ho hd hf ?_)
    refine wpAny_bind (byText_ ?_)
    rw [show (model prog w).w.params.followText "set-order" = true from hb, if_pos rfl, if_neg (by simp)]
    refine wpAny_bind (m := setWalk a) ?_
    unfold setWalk
    refine wpAny_bind (wpAny_setState_of ho hd hf (wpAny_bind (byText_ ?_)))
    rw [show (model prog w).w.params.followText "set-order" = true from hb, if_pos rfl]
    refine wpAny_bind (wpAny_askSetting (wpAny_pure ?_))
    refine wpAny_pure ?_
    have hno : (pickOrder (w.params.setOrder a ep) es)[ord.length]? = none := by
      rw [hord]
      simp
    rw [show (pickOrder ((model prog w).w.params.setOrder a ep) es)[ord.length]? = none from hno]
    show wpAny _ _ (setField (.ref it) 2 .none >>= _) _ _ s
    refine wpAny_bind (wpAny_setField hit rfl (by simp) ?_)
    exact stop_now hh (Heap.SameBut.update ..).extBut hQ
  · show wpAny _ _ (fieldsOf (.ref it) >>= _) _ _ s
    refine wpAny_bind (wpAny_fieldsOf hit rfl ?_)
    show wpAny _ _ (setEntries a >>= _) _ _ s
    refine wpAny_bind (wpAny_setEntries_of ho hd hf ?_)
    rw [if_neg (by simp [rawInt])]
    show wpAny _ _ (seqItems? (.ref T) >>= _) _ _ s
    refine wpAny_bind (wpAny_seqItems hTo rfl ?_)
    have hpa : ((ps.map fun p : Nat => rawInt p).toArray)[(ord.length : Int).toNat]? = none := by
      rw [Int.toNat_natCast]; simp; omega
    show wpAny _ _ (match ((ps.map fun p : Nat => rawInt p).toArray)[(ord.length : Int).toNat]? with
      | some (.int place _) => _
      | some _ => _
      | none => _) _ _ s
    rw [hpa]
    show wpAny _ _ (setField (.ref it) 0 (rawInt (0 : Nat)) >>= _) _ _ s
    refine wpAny_bind (wpAny_setField hit rfl (by simp) ?_)
    have hit1 := up_self (f' := rawInt (0 : Nat)) hit
    show wpAny _ _ (setField (.ref it) 2 .none >>= _) _ _ _
    refine wpAny_bind (wpAny_setField hit1 rfl (by simp) ?_)
    exact stop_now (s := s) hh ((Heap.SameBut.update ..).trans (Heap.SameBut.update ..)).extBut hQ
  · show wpAny _ _ (fieldsOf (.ref it) >>= _) _ _ s
    refine wpAny_bind (wpAny_fieldsOf hit rfl ?_)
    show wpAny _ _ (setEntries a >>= _) _ _ s
    refine wpAny_bind (wpAny_setEntries_of ho hd hf ?_)
    rw [if_neg (by simp [rawInt])]
    show wpAny _ _ (setNext a 0 (ord.length : Int).toNat (ep : Int).toNat >>= _) _ _ s
    rw [Int.toNat_natCast, Int.toNat_natCast]
    refine wpAny_bind ?_
    unfold setNext
    refine wpAny_bind (wpAny_setState_of ho hd hf ?_)
    refine wpAny_bind (byText_ ?_)
    rw [show (model prog w).w.params.followText "set-order" = false from hb, if_neg (by simp)]
    have hes : es = #[] := Array.size_eq_zero_iff.mp h0
    subst hes
    show wpAny _ _ (if (!t.plain && decide ((#[] : Array (Int × Value)).size > 1)) = true then _ else _) _ _ _
    rw [if_neg (by simp)]
    show wpAny _ _ ((if (!t.led && !(#[] : Array (Int × Value)).isEmpty) = true then unsupported "set:maker-not-led" else pure ()) >>= _) _ _ _
    rw [if_neg (by simp)]
    refine wpAny_bind (wpAny_pure (wpAny_pure ?_))
    show wpAny _ _ (setField (.ref it) 2 .none >>= _) _ _ s
    refine wpAny_bind (wpAny_setField hit rfl (by simp) ?_)
    exact stop_now hh (Heap.SameBut.update ..).extBut hQ
end
end Mine
namespace Mine
/-! ## loops -/
noncomputable abbrev Fx.withOk (X : Fx) (ok' : Addr → Prop) : Fx := { X with ok := ok' }
theorem Fx.Gd.withOk {X : Fx} (hX : X.Gd) {ok' : Addr → Prop} (h : ∀ a, ok' a → X.ok a) : (X.withOk ok').Gd :=
  ⟨hX.eg, hX.eb, hX.g, hX.b, hX.hand, hX.units, hX.pyl, fun a x => hX.okkp a (h a x)⟩
theorem Fst.okTo {s₀ s : Shared} {N : List (Str × NameKind)} {env : Env} {ok ok' : Addr → Prop} {ρ : List (Str × Sp)} (F : Fst s₀ N env ok ρ s) (h : ∀ a o, ok a → s.heap.get? a = some o → ok' a) : Fst s₀ N env ok' ρ s :=
  ⟨F.keeps, F.kind, F.ns, F.new, F.cell, F.apart, F.own, fun x sp e => (F.names x sp e).elim fun v ⟨a, b⟩ => ⟨v, a, Sp.mv (.refl _ _) h b⟩⟩
/-- what a loop's own steps leave alone -/
structure Tm (env : Env) (s : Shared) (ok' : Addr → Prop) (h h' : Heap) : Prop where
  mv : Mv (fun b => s.heap.get? b ≠ none ∨ ok' b) h h'
  ch : ∀ b o, (s.heap.get? b ≠ none ∨ ok' b) → ¬ frA env b → h.get? b = some o → h'.get? b = some o
theorem Tm.of_keep {env : Env} {s : Shared} {ok' : Addr → Prop} {h h' : Heap} (k : ∀ b o, h.get? b = some o → h'.get? b = some o) : Tm env s ok' h h' := ⟨.of_keep k, fun b o _ _ e => k b o e⟩
theorem FS.forL {α : Type} {X : Fx} (hX : X.Gd) {hB : Heap} {ρ : List (Str × Sp)} {s : Shared} (f : FS X hB ρ s) {target iter : Expr} {body : List Stmt} {pos : Pos} {P : Heap → Heap → Value → Prop} {l : List α} {sp : α → Sp} {Q : Flow → Shared → Prop}
    (hiter : Ev (X.cx s ρ) iter (P s.heap)) (hI : Iters (X.cx s ρ) target P l sp) (bs : α → List (Str × Sp)) (hasg : ∀ x ∈ l, Asg target (sp x) (bs x)) (hown : ∀ x ∈ l, ∀ b ∈ bs x, Own X.N X.env b.1)
    (inv : Nat → List (Str × Sp)) (h0 : ∀ x sp, (inv 0).lookup x = some sp → ρ.lookup x = some sp) (K : (Addr → Prop) → Nat → Heap → Prop)
    (hK : ∀ ok' i h h', (∀ a, ok' a → X.ok a) → K ok' i h → Tm X.env s ok' h h' → K ok' i h')
    (hK0 : ∀ ok', (∀ a, ok' a → X.ok a) → (∀ a, X.ok a → s.heap.get? a ≠ none → ok' a) → K ok' 0 s.heap)
    (hbody : ∀ ok', (∀ a, ok' a → X.ok a) → (∀ a, X.ok a → s.heap.get? a ≠ none → ok' a) → ∀ i x s', l[i]? = some x → FS (X.withOk ok') s'.heap (bs x ++ inv i) s' → K ok' i s'.heap →
      wpAny X.m X.A (execs body X.env) (fun fl s'' => match fl with
        | .next => FS (X.withOk ok') s'.heap (inv (i + 1)) s'' ∧ K ok' (i + 1) s''.heap
        | .cont => FS (X.withOk ok') s'.heap (inv (i + 1)) s'' ∧ K ok' (i + 1) s''.heap
        | .brk => Q .next s''
        | .ret v => Q (.ret v) s'') (fun _ _ => False) s')
    (hend : ∀ ok' s', (∀ a, ok' a → X.ok a) → FS X hB (inv l.length) s' → K ok' l.length s'.heap → Q .next s')
    (hset : ∀ x, foldedSetIterable iter X.env x = pure x := by intro _; rfl) :
    wpAny X.m X.A (exec (.For target iter body [] pos) X.env) Q (fun _ _ => False) s := by
  refine wpAny_For (wpAny_mono (hiter s (Kp.refl _)) (fun v s₁ ⟨k₁, hv⟩ => wpAny_mono (hI s s₁ v (Kp.refl _) k₁ hv) (fun it s₂ hy => ?_) fun _ _ y => y) fun _ _ y => y) hset
  obtain ⟨I, fp, wr, St, rfl, k₂, hwr, hfp, st0, hlive, hS⟩ := hy
  have k02 : Keeps s s₂ := Kp.trans k₁ k₂
  let ok' : Addr → Prop := fun a => X.ok a ∧ a ∉ wr
  have hsub : ∀ a, ok' a → X.ok a := fun a x => x.1
  have halive : ∀ a, X.ok a → s.heap.get? a ≠ none → ok' a := fun a x y => ⟨x, fun hm => y (hwr a hm)⟩
  have S := hS ok' (fun a hm x => x.2 hm) fun a o x y _ => ⟨x, y⟩
  have hX' := hX.withOk hsub
  have f2 : FS (X.withOk ok') s₂.heap (inv 0) s₂ := by
    have F := ((f.F.sub h0).okTo (ok' := ok') fun a o x e => halive a x (by rw [e]; exact fun y => nomatch y)).kp k02
    refine ⟨F, fun a e => ⟨f.ok a (Kp.none k02 e), fun hm => ?_⟩, .refl _ _⟩
    exact hlive a (S.sub a hm) e
  have tm02 : Tm X.env s ok' s.heap s₂.heap := .of_keep (Kp.get k02)
  have nowr : ∀ b o, X.kp b → hB.get? b = some o → (∀ es n, o.data ≠ .dict es n) → (∀ v, o.data ≠ .cell v) → b ∉ wr := fun b o k e d c hm => by
    have := f.mv b o k e d c
    rw [hwr b hm] at this; cases this
  refine codeAny_forLoop_any (fun k s' => ∃ i, i ≤ l.length ∧ k = l.length + 1 - i ∧ FS (X.withOk ok') s'.heap (inv i) s' ∧ Mv ok' s₂.heap s'.heap ∧ Mv X.kp hB s'.heap ∧ K ok' i s'.heap ∧ St i s'.heap) (fun k s' hy => ?_) (l.length + 1) ⟨0, Nat.zero_le _, rfl, f2.base, .refl _ _, f.mv.trans (.of_keep (Kp.get k02)), hK ok' 0 _ _ hsub (hK0 ok' hsub halive) tm02, st0⟩
  obtain ⟨i, hi, rfl, g, m2, mB, hk, st⟩ := hy
  -- a step of the source: only wr changes
  have step : ∀ (h' : Heap) (tk : Nat), (∀ b o, b ∉ wr → s'.heap.get? b = some o → h'.get? b = some o) → Fst X.s₀ X.N X.env ok' (inv i) { s' with heap := h', toks := tk } ∧ (∀ a, a ∉ wr → h'.get? a = none → ok' a) ∧ Mv ok' s₂.heap h' ∧ Mv X.kp hB h' ∧ K ok' i h' := fun h' tk hh => by
    refine ⟨g.F.but wr (fun b hb => Kp.none f.F.keeps (hwr b hb)) (fun b hb x => x.2 hb) (fun b hb o e => S.plain i _ st b (S.sub b hb) o e) (tk := tk) hh, fun a ha e => g.ok a ?_, m2.trans (mv_but (fun b hb x => x.2 hb) hh), fun b o kb e d c => hh b o (nowr b o kb e d c) (mB b o kb e d c), hK ok' i _ _ hsub hk ⟨fun b o hb e d c => hh b o (fun hm => hb.elim (fun y => y (hwr b hm)) fun y => y.2 hm) e, fun b o hb n e => hh b o (fun hm => hb.elim (fun y => y (hwr b hm)) fun y => y.2 hm) e⟩⟩
    cases e' : s'.heap.get? a with
    | none => rfl
    | some o => rw [hh a o ha e'] at e; cases e
  by_cases hlt : i < l.length
  · have hx : l[i]? = some l[i] := List.getElem?_eq_getElem hlt
    generalize hxe : l[i] = x at hx
    have hxm : x ∈ l := List.mem_of_getElem? hx
    refine wpAny_mono (S.next i x s' (fun v s₃ => wpAny X.m X.A (assign target X.env v) (fun _ s₄ => wpAny X.m X.A (execs body X.env) (fun fl s₅ => match fl with
        | .next | .cont => ∃ m, m < l.length + 1 - i ∧ ∃ j, j ≤ l.length ∧ m = l.length + 1 - j ∧ FS (X.withOk ok') s₅.heap (inv j) s₅ ∧ Mv ok' s₂.heap s₅.heap ∧ Mv X.kp hB s₅.heap ∧ K ok' j s₅.heap ∧ St j s₅.heap
        | .brk => Q .next s₅
        | .ret v => Q (.ret v) s₅) (fun _ _ => False) s₄) (fun _ _ => False) s₃) (fun _ _ => False) hx st m2 g.ok fun v h' tk hv st' hh => ?_) (fun r s₃ hr => ?_) fun _ _ y => y.elim
    · obtain ⟨F3, o3, m3, mB3, hk3⟩ := step h' tk hh
      have f3 : FS (X.withOk ok') h' (inv i) { s' with heap := h', toks := tk } := ⟨F3, fun a e => by
        by_cases ha : a ∈ wr
        · exact absurd e (S.live _ _ st' a ha)
        · exact o3 a ha e, .refl _ _⟩
      refine f3.assignT hX' (hasg x hxm) hv (hown x hxm) fun s₄ f4 stt => ?_
      have tm : Tm X.env s ok' h' s₄.heap := ⟨stt.mv.of_true, fun b o _ n e => stt.ch b o n e⟩
      have st4 : St (i + 1) s₄.heap := S.frame _ _ _ st' fun b hb o e => stt.mv b o trivial e (S.plain _ _ st' b hb o e).1 (S.plain _ _ st' b hb o e).2
      refine wpAny_mono (hbody ok' hsub halive i x s₄ hx f4.base (hK ok' i _ _ hsub hk3 tm)) (fun fl s₅ hy => ?_) fun _ _ y => y
      have fin : FS (X.withOk ok') s₄.heap (inv (i + 1)) s₅ → K ok' (i + 1) s₅.heap → ∃ m, m < l.length + 1 - i ∧ ∃ j, j ≤ l.length ∧ m = l.length + 1 - j ∧ FS (X.withOk ok') s₅.heap (inv j) s₅ ∧ Mv ok' s₂.heap s₅.heap ∧ Mv X.kp hB s₅.heap ∧ K ok' j s₅.heap ∧ St j s₅.heap := fun g5 k5 => by
        refine ⟨l.length + 1 - (i + 1), by omega, i + 1, hlt, rfl, g5.base, ?_, ?_, k5, S.frame _ _ _ st4 fun b hb o e => g5.mv b o (hX.okkp b (hfp b hb)) e (S.plain _ _ st4 b hb o e).1 (S.plain _ _ st4 b hb o e).2⟩
        · exact (m3.trans stt.mv.of_true).trans fun b o kb e d c => g5.mv b o (hX.okkp b kb.1) e d c
        · exact (mB3.trans stt.mv.of_true).trans g5.mv
      cases fl with
      | next => exact fin hy.1 hy.2
      | cont => exact fin hy.1 hy.2
      | brk => exact hy
      | ret v => exact hy
    · obtain ⟨v, rfl, hr⟩ := hr
      exact wpAny_mono hr (fun _ s₄ hy => wpAny_mono hy (fun _ s₅ hz => wpAny_mono hz (fun fl _ q => by cases fl <;> exact q) fun _ _ y => y.elim) fun _ _ y => y.elim) fun _ _ y => y.elim
  · have : i = l.length := by omega
    subst this
    refine wpAny_mono (S.done s' (fun s₃ => wpAny X.m X.A (execs [] X.env) (fun fl s₄ => Q fl s₄) (fun _ _ => False) s₃) (fun _ _ => False) st fun h' tk hh => ?_) (fun r s₃ hr => ?_) fun _ _ y => y.elim
    · obtain ⟨F3, o3, m3, mB3, hk3⟩ := step h' tk hh
      refine wpAny_execs_nil (hend ok' _ hsub ⟨F3.okTo fun a o x _ => x.1, fun a e => ?_, mB3⟩ hk3)
      by_cases ha : a ∈ wr
      · exact hfp a (S.sub a ha)
      · exact (o3 a ha e).1
    · obtain ⟨rfl, hr⟩ := hr
      exact wpAny_mono hr (fun _ _ q => q) fun _ _ y => y.elim
end Mine
namespace Mine
/-! ## while -/
theorem FS.whileL {X : Fx} {hB : Heap} {ρ : List (Str × Sp)} {s : Shared} (f : FS X hB ρ s) {test : Expr} {body : List Stmt} {pos : Pos} {Q : Flow → Shared → Prop} (n : Nat)
    (inv : Nat → List (Str × Sp)) (h0 : ∀ x sp, (inv 0).lookup x = some sp → ρ.lookup x = some sp) (K : Nat → Heap → Prop) (hK : ∀ i s s', K i s.heap → Keeps s s' → K i s'.heap) (hK0 : K 0 s.heap)
    (ht : ∀ i s', i ≤ n → FS X hB (inv i) s' → K i s'.heap → Ts (X.cx s' (inv i)) test (decide (i < n)))
    (hbody : ∀ i s', i < n → FS X hB (inv i) s' → K i s'.heap → wpAny X.m X.A (execs body X.env) (fun fl s'' => match fl with
        | .next => FS X hB (inv (i + 1)) s'' ∧ K (i + 1) s''.heap
        | .cont => FS X hB (inv (i + 1)) s'' ∧ K (i + 1) s''.heap
        | .brk => Q .next s''
        | .ret v => Q (.ret v) s'') (fun _ _ => False) s')
    (hend : ∀ s', FS X hB (inv n) s' → K n s'.heap → Q .next s') : wpAny X.m X.A (exec (.While test body [] pos) X.env) Q (fun _ _ => False) s := by
  refine wpAny_While (codeAny_whileLoop (fun k s' => ∃ i, i ≤ n ∧ k = n - i ∧ FS X hB (inv i) s' ∧ K i s'.heap) (fun k s' hy => ?_) n ⟨0, Nat.zero_le _, rfl, f.sub h0, hK0⟩)
  obtain ⟨i, hi, rfl, g, hk⟩ := hy
  refine wpAny_mono (ht i s' hi g hk s' (Kp.refl _)) (fun b s₂ hy => ?_) fun _ _ y => y.elim
  obtain ⟨k2, rfl⟩ := hy
  by_cases hlt : i < n
  · rw [decide_eq_true hlt, if_pos rfl]
    refine wpAny_mono (hbody i s₂ hlt (g.kp k2) (hK i _ _ hk k2)) (fun fl s₃ hy => ?_) fun _ _ y => y.elim
    cases fl with
    | next => exact ⟨n - (i + 1), by omega, i + 1, hlt, rfl, hy.1, hy.2⟩
    | cont => exact ⟨n - (i + 1), by omega, i + 1, hlt, rfl, hy.1, hy.2⟩
    | brk => exact hy
    | ret v => exact hy
  · have : i = n := by omega
    subst this
    rw [decide_eq_false (Nat.lt_irrefl _), if_neg Bool.false_ne_true]
    exact wpAny_execs_nil (hend s₂ (g.kp k2) (hK _ _ _ hk k2))

/-! ## lists that are written to -/
noncomputable abbrev Fx.hole (X : Fx) (D : Addr) : Fx := { X with ok := fun a => X.ok a ∧ a ≠ D, kp := fun a => X.kp a ∧ a ≠ D }
theorem Fx.Gd.hole {X : Fx} (hX : X.Gd) (D : Addr) : (X.hole D).Gd := ⟨hX.eg, hX.eb, hX.g, hX.b, hX.hand, hX.units, hX.pyl, fun a x => ⟨hX.okkp a x.1, x.2⟩⟩
theorem FS.toHole {X : Fx} {hB : Heap} {ρ : List (Str × Sp)} {s s₁ : Shared} (f : FS X hB ρ s) (k : Keeps s s₁) {D : Addr} (hD : s.heap.get? D = none) (hD1 : s₁.heap.get? D ≠ none) : FS (X.hole D) hB ρ s₁ :=
  ⟨(f.F.okTo (ok' := (X.hole D).ok) fun a o x e => ⟨x, fun e' => by subst e'; rw [hD] at e; cases e⟩).kp k, fun a e => ⟨f.ok a (Kp.none k e), fun e' => by subst e'; exact hD1 e⟩, fun b o kb e d c => Kp.get k b o (f.mv b o kb.1 e d c)⟩
theorem isList_kp {s s' : Shared} {a : Addr} {vs : Array Value} (x : s.heap.IsList a vs) (k : Keeps s s') : s'.heap.IsList a vs := x.elim fun o y => ⟨o, Kp.get k _ _ y.1, y.2⟩
noncomputable def Hole (ok : Addr → Prop) (D : Addr) (ds : List PyData) (h : Heap) : Prop := ∃ vs, PlainL h D vs ∧ RdAll ok h ds vs.toList
noncomputable def HoleI (ok : Addr → Prop) (D : Addr) (ds : List PyData) (h : Heap) : Prop := ∃ vs, h.IsList D vs ∧ RdAll ok h ds vs.toList
theorem Hole.i {ok : Addr → Prop} {D : Addr} {ds : List PyData} {h : Heap} (x : Hole ok D ds h) : HoleI ok D ds h := x.elim fun vs y => ⟨vs, y.1.isList, y.2⟩
theorem Hole.kp {ok : Addr → Prop} {D : Addr} {ds : List PyData} {s s' : Shared} (x : Hole ok D ds s.heap) (k : Keeps s s') : Hole ok D ds s'.heap := x.elim fun vs y => ⟨vs, y.1.keeps (Kp.get k), y.2.kp k⟩
theorem HoleI.kp {ok : Addr → Prop} {D : Addr} {ds : List PyData} {s s' : Shared} (x : HoleI ok D ds s.heap) (k : Keeps s s') : HoleI ok D ds s'.heap := x.elim fun vs y => ⟨vs, isList_kp y.1 k, y.2.kp k⟩
theorem PlainL.mvD {ok : Addr → Prop} {h h' : Heap} {a : Addr} {vs : Array Value} (m : Mv ok h h') (x : PlainL h a vs) (ha : ok a) : PlainL h' a vs := by
  obtain ⟨o, n, e, c, dn, d⟩ := x
  exact ⟨o, n, m.seq ha e d, c, dn, d⟩
theorem Hole.mv {ok ok' : Addr → Prop} {D : Addr} {ds : List PyData} {h h' : Heap} (x : Hole ok D ds h) (m : Mv ok' h h') (hD : ok' D) (hok : ∀ a, ok a → ok' a) : Hole ok D ds h' := x.elim fun vs y => ⟨vs, PlainL.mvD m y.1 hD, RdAll.mv (fun b o k e => m b o (hok b k) e) (fun _ _ z _ => z) _ _ y.2⟩
theorem HoleI.mv {ok ok' : Addr → Prop} {D : Addr} {ds : List PyData} {h h' : Heap} (x : HoleI ok D ds h) (m : Mv ok' h h') (hD : ok' D) (hok : ∀ a, ok a → ok' a) : HoleI ok D ds h' := x.elim fun vs y => ⟨vs, m.isList y.1 hD, RdAll.mv (fun b o k e => m b o (hok b k) e) (fun _ _ z _ => z) _ _ y.2⟩
/-- a loop's own steps leave a hole alone -/
theorem Hole.tm {env : Env} {s : Shared} {ok' : Addr → Prop} {h h' : Heap} {D : Addr} {ds : List PyData} (x : Hole ok' D ds h) (t : Tm env s ok' h h') (hD : s.heap.get? D ≠ none) : Hole ok' D ds h' := x.mv t.mv (.inl hD) fun _ y => .inr y
theorem HoleI.tm {env : Env} {s : Shared} {ok' : Addr → Prop} {h h' : Heap} {D : Addr} {ds : List PyData} (x : HoleI ok' D ds h) (t : Tm env s ok' h h') (hD : s.heap.get? D ≠ none) : HoleI ok' D ds h' := x.mv t.mv (.inl hD) fun _ y => .inr y
theorem Hole.okTo {ok ok' : Addr → Prop} {D : Addr} {ds : List PyData} {h : Heap} (x : Hole ok D ds h) (w : ∀ a o, ok a → h.get? a = some o → ok' a) : Hole ok' D ds h := x.elim fun vs y => ⟨vs, y.1, RdAll.mv (.refl _ _) w _ _ y.2⟩
theorem HoleI.okTo {ok ok' : Addr → Prop} {D : Addr} {ds : List PyData} {h : Heap} (x : HoleI ok D ds h) (w : ∀ a o, ok a → h.get? a = some o → ok' a) : HoleI ok' D ds h := x.elim fun vs y => ⟨vs, y.1, RdAll.mv (.refl _ _) w _ _ y.2⟩
theorem HoleI.rd {ok ok' : Addr → Prop} {D : Addr} {ds : List PyData} {h : Heap} (x : HoleI ok D ds h) (w : ∀ a, ok a → ok' a) (hD : ok' D) : Rd ok' h (.list ds) (.ref D) := x.elim fun vs y => Rd_list.mpr ⟨D, vs, rfl, hD, y.1, RdAll.mv (.refl _ _) (fun a _ z _ => w a z) _ _ y.2⟩

theorem FS.setHole {X : Fx} {hB : Heap} {ρ : List (Str × Sp)} {s : Shared} (f : FS X hB ρ s) {x : Str} {p pos : Pos} {value : Expr} {ds : List PyData} {Q : Flow → Shared → Prop}
    (hv : Ev (X.cx s ρ) value (fun h v => ∃ D vs, v = .ref D ∧ s.heap.get? D = none ∧ PlainL h D vs ∧ RdAll (fun _ => False) h ds vs.toList)) (hx : Own X.N X.env x)
    (h : ∀ D s', X.ok D → s.heap.get? D = none → X.s₀.heap.get? D = none → FS (X.hole D) hB ((x, .val (.ref D)) :: ρ) s' → Hole (X.hole D).ok D ds s'.heap → Q .next s') (hs : swapsWith value (some (.Name x p)) pos.line X.env = pure false := by rfl) :
    wpAny X.m X.A (exec (.Assign [.Name x p] value pos) X.env) Q (fun _ _ => False) s :=
  wpAny_Assign_Name (wpAny_mono (hv s (Kp.refl _)) (fun v s₁ ⟨k, D, vs, e, hD, hp, hr⟩ => by
    subst e
    have hD1 : s₁.heap.get? D ≠ none := by obtain ⟨o, n, e, _⟩ := hp; rw [e]; exact fun y => nomatch y
    have H : Hole (X.hole D).ok D ds s₁.heap := ⟨vs, hp, RdAll.mv (.refl _ _) (fun a _ z _ => z.elim) _ _ hr⟩
    exact (f.toHole k hD hD1).store (sp := .val (.ref D)) rfl hx fun s' f' st => h D s' (f.ok D hD) hD (Kp.none f.F.keeps hD) f' (H.mv st.mv trivial fun _ _ => trivial)) fun _ _ y => y) hs
/-- the list is written no more -/
theorem FS.unhole {X : Fx} {hB : Heap} {ρ : List (Str × Sp)} {s : Shared} {D : Addr} (f : FS (X.hole D) hB ρ s) (hD : hB.get? D = none) : FS X hB ρ s :=
  ⟨f.F.okTo fun a o x _ => x.1, fun a e => (f.ok a e).1, fun b o kb e d c => f.mv b o ⟨kb, fun e' => by subst e'; rw [hD] at e; cases e⟩ e d c⟩
/-- a list that is written, read -/
theorem FS.know {X : Fx} {hB : Heap} {ρ : List (Str × Sp)} {s : Shared} (f : FS X hB ρ s) {x : Str} {v : Value} {d : PyData} (hx : ρ.lookup x = some (.val v)) (hv : Rd X.ok s.heap d v) : FS X hB ((x, .dat d) :: ρ) s :=
  ⟨⟨f.F.keeps, f.F.kind, f.F.ns, f.F.new, f.F.cell, f.F.apart, f.F.own, fun y sp e => by
    rw [List.lookup_cons] at e
    by_cases hy : y = x
    · subst hy
      simp only [beq_self_eq_true] at e
      cases e
      obtain ⟨u, a, b⟩ := f.F.names y _ hx
      cases b
      exact ⟨v, a, hv⟩
    · rw [show (y == x) = false from by simpa using hy] at e
      exact f.F.names y sp e⟩, f.ok, f.mv⟩
theorem FS.view {X : Fx} {hB : Heap} {ρ : List (Str × Sp)} {s : Shared} {D : Addr} (f : FS (X.hole D) hB ρ s) {x : Str} {ds : List PyData} (hx : ρ.lookup x = some (.val (.ref D))) (hD : X.ok D) (H : HoleI (X.hole D).ok D ds s.heap) : FS X s.heap ((x, .dat (.list ds)) :: ρ) s :=
  FS.know (X := X) ⟨f.F.okTo fun a o x _ => x.1, fun a e => (f.ok a e).1, .refl _ _⟩ hx (H.rd (fun _ z => z.1) hD)

/-- a change of one list that is none of the kept -/
theorem FS.butList {X : Fx} {hB : Heap} {ρ : List (Str × Sp)} {s : Shared} (f : FS X hB ρ s) (hX : X.Gd) {D : Addr} {vs : Array Value} (hp : s.heap.IsList D vs) (hD : ¬ X.kp D) (hD0 : X.s₀.heap.get? D = none) {h' : Heap} (hs : Heap.SameBut D s.heap h') (hl : h'.get? D ≠ none) : FS X hB ρ { s with heap := h' } := by
  have hk : ∀ b o, b ∉ [D] → s.heap.get? b = some o → h'.get? b = some o := fun b o hb e => hs.extBut b o (by simpa using hb) e
  have hok : ∀ b ∈ [D], ¬ X.ok b := fun b hb z => by
    have : b = D := by simpa using hb
    subst this; exact hD (hX.okkp _ z)
  refine ⟨f.F.but (tk := s.toks) [D] (fun b hb => ?_) hok (fun b hb o ho => ?_) hk, fun a e => f.ok a ?_, f.mv.trans fun b o kb e _ _ => hk b o (fun hb => ?_) e⟩
  · have : b = D := by simpa using hb
    subst this; exact hD0
  · have : b = D := by simpa using hb
    subst this; exact notFrame_list hp ho
  · by_cases ha : a = D
    · subst ha; exact absurd e hl
    · rw [← hs.2 a ha]; exact e
  · have : b = D := by simpa using hb
    subst this; exact hD kb

theorem FS.appendG {X : Fx} (hX : X.Gd) {hB : Heap} {ρ : List (Str × Sp)} {s : Shared} (f : FS X hB ρ s) {x : Str} {p apos pos epos : Pos} {elt : Expr} {D : Addr} {vs : Array Value} {P : Heap → Value → Prop} {Q : Flow → Shared → Prop} (hx : ρ.lookup x = some (.val (.ref D))) (hD : ¬ X.kp D) (hD0 : X.s₀.heap.get? D = none)
    (hp : PlainL s.heap D vs) (hlen : vs.size ≤ 1000000) (he : Ev (X.cx s ρ) elt P) (h : ∀ v s₁ s', Keeps s s₁ → P s₁.heap v → Heap.SameBut D s₁.heap s'.heap → FS X hB ρ s' → PlainL s'.heap D (vs.push v) → Q .next s')
    (hline : (apos.endLine == pos.line) = true := by rfl) (hxd : (x == ("__debug__" : Str)) = false := by decide)
    (hbase : attributeBase (.Name x p) "append" X.env (eval (.Name x p) X.env) = eval (.Name x p) X.env := by rfl)
    (hfew : ((backTo pos (starEach [elt] X.env)).all (fun x => !x.1) && (backToKw pos (keywordEach [] X.env)).all (fun x => x.1.isSome)
      && decide (([elt] : List Expr).length + ([] : List Keyword).length + (if ([] : List Keyword).isEmpty then 0 else 1) < 30)) = true := by rfl)
    (htrees : backTo pos (starEach [elt] X.env) = [(false, eval elt X.env)] := by rfl) (hi : interactive X.env = false := by rfl)
    (hs : swapsWith (.Call (.Attribute (.Name x p) "append" apos) [elt] [] pos) none epos.line X.env = pure false := by rfl) :
    wpAny X.m X.A (exec (.Expr (.Call (.Attribute (.Name x p) "append" apos) [elt] [] pos) epos) X.env) Q (fun _ _ => False) s := by
  refine wpAny_Expr_any ?_ hi hs
  refine wpAny_Call_append hbase hfew hline htrees ?_
  refine wpAny_mono (Ev.nameV (f.cx hX) hx hxd s (Kp.refl _)) (fun v s₁ ⟨k₁, e⟩ => ?_) fun _ _ y => y
  subst e
  refine ⟨D, vs, rfl, hp.keeps (Kp.get k₁), Ev.two he k₁ fun y s₂ k₂ hy => ?_⟩
  have hp2 := hp.keeps (Kp.get (Kp.trans k₁ k₂))
  refine list_append_plainL hp2 (fun h' hp' hs' => h y s₂ _ (Kp.trans k₁ k₂) hy hs' ((f.kp (Kp.trans k₁ k₂)).butList hX hp2.isList hD hD0 hs' ?_) hp') (by rw [sizeLine_eq]; omega)
  obtain ⟨o, n, e, _⟩ := hp'
  rw [e]; exact fun y => nomatch y

theorem FS.append {X : Fx} (hX : X.Gd) {hB : Heap} {ρ : List (Str × Sp)} {s : Shared} (f : FS X hB ρ s) {x : Str} {p apos pos epos : Pos} {elt : Expr} {D : Addr} {ds : List PyData} {d : PyData} {Q : Flow → Shared → Prop} (hx : ρ.lookup x = some (.val (.ref D))) (hD : ¬ X.kp D) (hD0 : X.s₀.heap.get? D = none)
    (H : Hole X.ok D ds s.heap) (hlen : ds.length ≤ 1000000) (he : EvD (X.cx s ρ) elt d) (h : ∀ s', FS X hB ρ s' → Hole X.ok D (ds ++ [d]) s'.heap → Q .next s')
    (hline : (apos.endLine == pos.line) = true := by rfl) (hxd : (x == ("__debug__" : Str)) = false := by decide)
    (hbase : attributeBase (.Name x p) "append" X.env (eval (.Name x p) X.env) = eval (.Name x p) X.env := by rfl)
    (hfew : ((backTo pos (starEach [elt] X.env)).all (fun x => !x.1) && (backToKw pos (keywordEach [] X.env)).all (fun x => x.1.isSome)
      && decide (([elt] : List Expr).length + ([] : List Keyword).length + (if ([] : List Keyword).isEmpty then 0 else 1) < 30)) = true := by rfl)
    (htrees : backTo pos (starEach [elt] X.env) = [(false, eval elt X.env)] := by rfl) (hi : interactive X.env = false := by rfl)
    (hs : swapsWith (.Call (.Attribute (.Name x p) "append" apos) [elt] [] pos) none epos.line X.env = pure false := by rfl) :
    wpAny X.m X.A (exec (.Expr (.Call (.Attribute (.Name x p) "append" apos) [elt] [] pos) epos) X.env) Q (fun _ _ => False) s := by
  obtain ⟨vs, hp, hr⟩ := H
  refine f.appendG hX hx hD hD0 hp (by rw [rdAll_size hr]; exact hlen) he (fun v s₁ s' k hv hs' f' hp' => h s' f' ⟨_, hp', ?_⟩) hline hxd hbase hfew htrees hi hs
  rw [Array.toList_push]
  have m : Mv X.ok s₁.heap s'.heap := fun b o kb e _ _ => hs'.extBut b o (fun e' => hD (hX.okkp _ (e' ▸ kb))) e
  exact RdAll.append (RdAll.mv m (fun _ _ z _ => z) _ _ (hr.kp k)) (.one (Rd.mv m (fun _ _ z _ => z) _ _ hv))

theorem rdAll_set {ok : Addr → Prop} {h : Heap} {d : PyData} {v : Value} (hv : Rd ok h d v) : ∀ {ds : List PyData} {vs : List Value} (i : Nat), RdAll ok h ds vs → RdAll ok h (ds.set i d) (vs.set i v)
  | [], vs, i, x => by simp only [RdAll] at x; subst x; simp [RdAll]
  | c :: ds, vs, i, x => by
    simp only [RdAll] at x
    obtain ⟨u, r, rfl, h1, h2⟩ := x
    cases i with
    | zero => simp only [List.set_cons_zero, RdAll]; exact ⟨v, r, rfl, hv, h2⟩
    | succ i => simp only [List.set_cons_succ, RdAll]; exact ⟨u, _, rfl, h1, rdAll_set hv i h2⟩
/-- an item of the list is stored -/
theorem FS.setItem {X : Fx} (hX : X.Gd) {hB : Heap} {ρ : List (Str × Sp)} {s : Shared} (f : FS X hB ρ s) {x : Str} {p p' pos : Pos} {ix value : Expr} {D : Addr} {ds : List PyData} {d : PyData} {i : Nat} {Q : Flow → Shared → Prop} (hx : ρ.lookup x = some (.val (.ref D))) (hD : ¬ X.kp D) (hD0 : X.s₀.heap.get? D = none)
    (H : HoleI X.ok D ds s.heap) (hi : i < ds.length) (hi2 : i < 1000000) (he : EvD (X.cx s ρ) value d) (hix : EvD (X.cx s ρ) ix (.int (i : Nat))) (h : ∀ s', FS X hB ρ s' → HoleI X.ok D (ds.set i d) s'.heap → Q .next s') (hxd : (x == ("__debug__" : Str)) = false := by decide)
    (hs : swapsWith value (some (.Subscript (.Name x p) ix p')) pos.line X.env = pure false := by rfl) : wpAny X.m X.A (exec (.Assign [.Subscript (.Name x p) ix p'] value pos) X.env) Q (fun _ _ => False) s := by
  obtain ⟨vs, hp, hr⟩ := H
  refine wpAny_Assign_Subscript (Ev.two he (Kp.refl _) fun v s₁ k₁ hv => Ev.two (Ev.nameV (f.cx hX) hx hxd) k₁ fun u s₂ k₂ hu => Ev.two hix (Kp.trans k₁ k₂) fun y s₃ k₃ hy => ?_) hs
  subst hu
  obtain ⟨t, rfl⟩ := Rd_int.mp hy
  have k := Kp.trans (Kp.trans k₁ k₂) k₃
  have hp3 := isList_kp hp k
  have hsz := rdAll_size hr
  refine wpAny_setItem_list hp3 (by omega) (by omega) (by omega) fun h' hl' hs' => ?_
  have m : Mv X.ok s₃.heap h' := fun b o kb e _ _ => hs'.extBut b o (fun e' => hD (hX.okkp _ (e' ▸ kb))) e
  refine h _ ((f.kp k).butList hX hp3 hD hD0 hs' ?_) ⟨_, hl', ?_⟩
  · obtain ⟨o, e, _⟩ := hl'
    rw [e]; exact fun y => nomatch y
  · rw [Array.toList_setIfInBounds, Int.toNat_natCast]
    exact rdAll_set (Rd.mv m (fun _ _ z _ => z) _ _ (hv.kp (Kp.trans k₂ k₃))) i (RdAll.mv m (fun _ _ z _ => z) _ _ (hr.kp k))
end Mine
namespace Mine
/-! ## more tests -/
theorem truth_int {C : Cx} {a : Int} : TruthOk C (fun h v => Rd C.ok h (.int a) v) (a != 0) := fun s v k hv => by
  obtain ⟨t, rfl⟩ := Rd_int.mp hv
  exact PySem.P.truthy_int ⟨Kp.refl _, rfl⟩
theorem truth_str {C : Cx} {x : Str} (hx : x.length ≤ 1000000) : TruthOk C (fun h v => Rd C.ok h (.str x) v) (decide (x.length ≠ 0)) := fun s v k hv => by
  obtain ⟨t, rfl⟩ := Rd_str.mp hv
  refine PySem.P.truthy_str (by omega) ⟨Kp.tok _ _, ?_⟩
  by_cases h : x.length = 0 <;> simp [h]
theorem truth_list {C : Cx} {ds : List PyData} (hx : ds.length ≤ 1000000) : TruthOk C (fun h v => Rd C.ok h (.list ds) v) (decide (ds.length ≠ 0)) := fun s v k hv => by
  obtain ⟨a, vs, rfl, _, hl, hr⟩ := Rd_list.mp hv
  have hz := rdAll_size hr
  refine wpAny_truthy_list hl (by omega) ⟨Kp.tok _ _, ?_⟩
  by_cases h : ds.length = 0
  · have : vs.isEmpty = true := Array.isEmpty_iff_size_eq_zero.mpr (by omega)
    simp [h, this]
  · have : vs.isEmpty = false := by
      cases e : vs.isEmpty with
      | false => rfl
      | true => exact absurd (Array.isEmpty_iff_size_eq_zero.mp e) (by omega)
    simp [h, this]
theorem truth_none {C : Cx} : TruthOk C (fun h v => Rd C.ok h .none v) false := fun s v k hv => by
  have := Rd_none.mp hv; subst this
  exact wpAny_pure ⟨Kp.refl _, rfl⟩
theorem Ts.not {C : Cx} {e : Expr} {p : Pos} {b : Bool} (h : Ts C e b) : Ts C (.UnaryOp .Not e p) (!b) := fun s k =>
  wpAny_isTrue_Not (wpAny_mono (h s k) (fun r s' x => ⟨x.1, by rw [x.2]⟩) fun _ _ x => x)
noncomputable def TsA (C : Cx) (op : BoolOp) (es : List Expr) (b : Bool) : Prop :=
  ∀ s, Keeps C.s s → wpAny (model C.prog C.w) C.A (allTrue op es C.env) (fun r s' => Keeps s s' ∧ r = b) (fun _ _ => False) s
theorem Ts.ops {C : Cx} {op : BoolOp} {es : List Expr} {p : Pos} {b : Bool} (h : TsA C op es b) : Ts C (.BoolOp op es p) b := fun s k => wpAny_isTrue_BoolOp (h s k)
theorem TsA.and0 {C : Cx} : TsA C .And [] true := fun s k => wpAny_allTrue_And_nil ⟨Kp.refl _, rfl⟩
theorem TsA.or0 {C : Cx} : TsA C .Or [] false := fun s k => wpAny_allTrue_Or_nil ⟨Kp.refl _, rfl⟩
theorem TsA.and {C : Cx} {e : Expr} {r : List Expr} {b c : Bool} (h : Ts C e b) (hr : b = true → TsA C .And r c) : TsA C .And (e :: r) (b && c) := fun s k =>
  wpAny_allTrue_And_cons (wpAny_mono (h s k) (fun t s₁ x => by
    obtain ⟨k₁, rfl⟩ := x
    cases t with
    | true => exact wpAny_mono (hr rfl s₁ (Kp.trans k k₁)) (fun _ _ y => ⟨Kp.trans k₁ y.1, y.2⟩) fun _ _ y => y
    | false => exact ⟨k₁, rfl⟩) fun _ _ x => x)
theorem TsA.or {C : Cx} {e : Expr} {r : List Expr} {b c : Bool} (h : Ts C e b) (hr : b = false → TsA C .Or r c) : TsA C .Or (e :: r) (b || c) := fun s k =>
  wpAny_allTrue_Or_cons (wpAny_mono (h s k) (fun t s₁ x => by
    obtain ⟨k₁, rfl⟩ := x
    cases t with
    | false => exact wpAny_mono (hr rfl s₁ (Kp.trans k k₁)) (fun _ _ y => ⟨Kp.trans k₁ y.1, y.2⟩) fun _ _ y => y
    | true => exact ⟨k₁, rfl⟩) fun _ _ x => x)
theorem Ts.cast {C : Cx} {e : Expr} {b c : Bool} (h : Ts C e b) (hb : b = c) : Ts C e c := hb ▸ h
/-- e or r, as a value -/
theorem Ev.or {C : Cx} {x y : Expr} {p : Pos} {P Q : Heap → Value → Prop} {b : Bool} (hx : Ev C x P) (ht : TruthOk C P b) (hP : ∀ s s' v, Keeps s s' → P s.heap v → P s'.heap v) (h1 : b = true → ∀ h v, P h v → Q h v) (h2 : b = false → Ev C y Q) : Ev C (.BoolOp .Or [x, y] p) Q := fun s k =>
  wpAny_Or2 (Ev.two hx k fun v s₁ k₁ hv => wpAny_mono (ht s₁ v (Kp.trans k k₁) hv) (fun t s₂ z => by
    obtain ⟨k₂, rfl⟩ := z
    cases t with
    | true => exact ⟨Kp.trans k₁ k₂, h1 rfl _ _ (hP _ _ _ k₂ hv)⟩
    | false => exact wpAny_mono (h2 rfl s₂ (Kp.trans (Kp.trans k k₁) k₂)) (fun _ _ y => ⟨Kp.trans (Kp.trans k₁ k₂) y.1, y.2⟩) fun _ _ y => y) fun _ _ y => y)
/-- a < b < c -/
theorem Ts.cmp2 {C : Cx} {l m r : Expr} {op op' : CmpOp} {p : Pos} {a b c : PyData} {t t' : Bool} (hl : EvD C l a) (hm : EvD C m b) (hr : EvD C r c) (h1 : CmpOk C op a b t) (h2 : CmpOk C op' b c t')
    (hb : behindInMarks op' r = false := by with_unfolding_all rfl) : Ts C (.Compare l [op, op'] [m, r] p) (t && t') := fun s k => by
  have e : isTrue (.Compare l [op, op'] [m, r] p) C.env (eval (.Compare l [op, op'] [m, r] p) C.env) = (do testChain p (← eval l C.env) [op, op'] [eval m C.env, markedBehindIn op' r (eval r C.env)]) := rfl
  rw [e, markedBehindIn_of_false hb]
  refine wpAny_bind (Ev.two hl k fun v s₁ k₁ hv => ?_)
  show wpAny _ _ (do
    let rv ← holding [v] (eval m C.env)
    standAt p
    let c ← holding [v, rv] (compareOp op v rv)
    release [v, rv] [c]
    if ← holding [c, rv] (truthy c) then testChain p rv [op'] [eval r C.env] else pure false) _ _ s₁
  refine wpAny_bind (wpAny_holding (Ev.two hm (Kp.trans k k₁) fun u s₂ k₂ hu => wpAny_bind (wpAny_standAt (wpAny_bind (wpAny_holding (wpAny_mono (h1 s₂ v u (Kp.trans (Kp.trans k k₁) k₂) (hv.kp k₂) hu) (fun c' s₃ x => ?_) fun _ _ x => x))))))
  obtain ⟨k₃, rfl⟩ := x
  have k13 := Kp.trans (Kp.trans k₁ k₂) k₃
  refine wpAny_bind (wpAny_release (wpAny_bind (wpAny_holding (wpAny_truthy_bool ?_))))
  cases t with
  | false => exact wpAny_pure ⟨k13, rfl⟩
  | true =>
    show wpAny _ _ (do
      let rv ← holding [u] (eval r C.env)
      standAt p
      let c ← operate [u, rv] (compareOp op' u rv)
      holding [c] (truthy c)) _ _ s₃
    refine wpAny_bind (wpAny_holding (Ev.two hr (Kp.trans k k13) fun y s₄ k₄ hy => wpAny_bind (wpAny_standAt (wpAny_bind (wpAny_operating (wpAny_mono (h2 s₄ u y (Kp.trans (Kp.trans k k13) k₄) (hu.kp (Kp.trans k₃ k₄)) hy) (fun c' s₅ x => ?_) fun _ _ x => x))))))
    obtain ⟨k₅, rfl⟩ := x
    exact wpAny_holding (wpAny_truthy_bool ⟨Kp.trans (Kp.trans k13 k₄) k₅, by simp⟩)

/-! ## is -/
theorem cmp_isNone {C : Cx} {x : Str} : CmpOk C .Is (.str x) .none false := fun s v u _ hv hu => by
  obtain ⟨t, rfl⟩ := Rd_str.mp hv; have := Rd_none.mp hu; subst this
  exact wpAny_is_plain rfl ⟨Kp.refl _, rfl⟩
theorem cmp_noneIs {C : Cx} : CmpOk C .Is .none .none true := fun s v u _ hv hu => by
  have := Rd_none.mp hv; subst this; have := Rd_none.mp hu; subst this
  exact wpAny_is_plain rfl ⟨Kp.refl _, rfl⟩
theorem Ts.isV {C : Cx} {l r : Expr} {p : Pos} {a b : Value} (hl : EvV C l a) (hr : EvV C r b) (hp : plainIs a b = true) (hm : behindInMarks .Is r = false := by with_unfolding_all rfl) : Ts C (.Compare l [.Is] [r] p) (a == b) := fun s k =>
  wpAny_isTrue_Compare1 (Ev.two hl k fun v s₁ k₁ hv => Ev.two hr (Kp.trans k k₁) fun u s₂ k₂ hu => by
    subst hv hu
    exact wpAny_is_plain hp (wpAny_truthy_bool ⟨Kp.trans k₁ k₂, rfl⟩)) hm
theorem call_typeS {C : Cx} {x : Str} : CallOk C (.type "type") [.str x] (fun _ v => v = .type "str") := fun s vs k h => by
  obtain ⟨v, rfl, ha⟩ := h.one_
  obtain ⟨t, rfl⟩ := Rd_str.mp ha
  exact call_type_of (typeIs_str s x t) (by decide) ⟨Kp.refl _, rfl⟩

/-! ## x += e -/
theorem FS.aug {X : Fx} (hX : X.Gd) {hB : Heap} {ρ : List (Str × Sp)} {s : Shared} (f : FS X hB ρ s) {x : Str} {p pos : Pos} {op : Operator} {value : Expr} {a b c : Int} {Q : Flow → Shared → Prop} (ho : op = .Add ∧ c = a + b ∨ op = .Sub ∧ c = a - b) (hx : ρ.lookup x = some (.dat (.int a))) (hv : EvD (X.cx s ρ) value (.int b)) (ox : Own X.N X.env x)
    (h : ∀ s', FS X hB ((x, .dat (.int c)) :: ρ) s' → Q .next s') : wpAny X.m X.A (exec (.AugAssign (.Name x p) op value pos) X.env) Q (fun _ _ => False) s := by
  obtain ⟨v, n, o⟩ := f.F.names x _ hx
  obtain ⟨t, rfl⟩ := Rd_int.mp (show Rd X.ok s.heap (.int a) v from o)
  refine wpAny_AugAssign_Name (NameIs.load f.F.kind n (Ev.two hv (Kp.refl _) fun u s₂ k₂ hu => ?_))
  obtain ⟨t', rfl⟩ := Rd_int.mp hu
  rcases ho with ⟨rfl, rfl⟩ | ⟨rfl, rfl⟩
  · exact PySem.P.iadd_int (((f.kp k₂).kp (Kp.tok _ _)).store (sp := .dat (.int (a + b))) (show Rd X.ok s₂.heap (.int (a + b)) _ from Rd_int.mpr ⟨_, rfl⟩) ox fun s' f' _ => h s' f')
  · exact PySem.P.isub_int (((f.kp k₂).kp (Kp.tok _ _)).store (sp := .dat (.int (a - b))) (show Rd X.ok s₂.heap (.int (a - b)) _ from Rd_int.mpr ⟨_, rfl⟩) ox fun s' f' _ => h s' f')
end Mine
namespace Mine
noncomputable def stmtAt (i : Nat) : Stmt := (PySem.Challenge.pw_pw0012_01.main.body[i]?).getD (.Pass ⟨0, 0, 0, 0⟩)
noncomputable def fnAt (i : Nat) (pm cd doc : Value) : FuncData := match stmtAt i with
  | .FunctionDef name params body _ _ _ scope _ _ _ => Calls.docDef name params body scope pm cd doc
  | _ => Calls.docDef "" { posonlyargs := [], args := [], vararg := none, kwonlyargs := [], kw_defaults := [], kwarg := none, defaults := [] } [] default pm cd doc
noncomputable def bodyAt (i : Nat) : List Stmt := match stmtAt i with
  | .FunctionDef _ _ body _ _ _ _ _ _ _ => body
  | _ => []

noncomputable def partTab : List Str := ["x", "xx", "y"]
noncomputable def partsOf (n : Int) : List Str := (List.range (n.fmod 3 + 1).toNat).map fun place => (partTab[(((n.fdiv 3).fdiv (3 ^ place)).fmod 3).toNat]?).getD ""

local macro_rules | `(tactic| walk_at "kind") => `(tactic| first | rfl | exact inner_kind (by assumption) rfl)
local macro_rules | `(tactic| walk_at "side") => `(tactic| first | decide | omega | assumption)
local macro_rules | `(tactic| walk_at "bin") => `(tactic| first
  | exact bin_add | exact bin_sub
  | exact bin_mod (by walk_at "side")
  | exact bin_fdiv (by assumption) (by walk_at "side")
  | exact bin_pow (by walk_at "side") (by walk_at "side") (by walk_at "side")
  | exact bin_addS (by walk_at "side")
  | exact bin_addL (by assumption) (by walk_at "side")
  | exact bin_mul (by walk_at "side"))
local macro_rules | `(tactic| walk_at "fn") => `(tactic| first
  | exact Ev.builtin (by assumption) (by walk_at "kind") (Bis.range (by assumption)).1 (Bis.range (by assumption)).2
  | exact Ev.builtin (by assumption) (by walk_at "kind") (Bis.len (by assumption)).1 (Bis.len (by assumption)).2
  | exact Ev.builtin (by assumption) (by walk_at "kind") (Bis.sum (by assumption)).1 (Bis.sum (by assumption)).2)
local macro_rules | `(tactic| walk_at "args") => `(tactic| first
  | exact EvL.nil
  | (refine' EvL.cons ?e ?r; (case e => walk_at "ev"); (case r => walk_at "args")))
local macro_rules | `(tactic| walk_at "ev") => `(tactic| first
  | exact Ev.int
  | exact Ev.str
  | exact Ev.cNone
  | exact Ev.bool
  | exact Ev.nameD (by assumption) rfl
  | (refine' Ev.binop ?l ?r ?b; (case l => walk_at "ev"); (case r => walk_at "ev"); (case b => walk_at "bin"))
  | (refine' Ev.list (by assumption) ?l; (case l => walk_at "args")))
theorem one_list {α : Type} {vs : List α} (h : vs.length = 1) : ∃ a, vs = [a] := by
  match vs, h with
  | [a], _ => exact ⟨a, rfl⟩
theorem parts_ok {C : Cx} (hC : C.Ok) {k : Nat} (G : Gl C.prog C.mg C.mb (k + 1) C.A C.s) (B : Bis C.mg C.mb) {a : Addr} {pm cd doc : Value} (hf : FnIs C.s.heap a (fnAt 17 pm cd doc)) (n : Int) :
    CallD C (.ref a) [.int n] (.list ((partsOf n).map .str)) := by
  refine CallOk.def hC G hf (names := ["number"]) (body := bodyAt 17) (defIs_of (by kernel_rfl)) rfl rfl rfl rfl (fun vs h => by obtain ⟨a, rfl⟩ := one_list h; rfl) fun s s₁ k₀ hX G' f => ?_
  have hC' := f.cx hX
  refine FS.seq ?_
  refine FS.retD f ?_ (fun v s' k' h => ⟨Kp.trans f.F.keeps k', h⟩)
  have hm : 0 ≤ n.fmod 3 + 1 ∧ n.fmod 3 < 3 := by have := Int.fmod_nonneg_of_pos n (b := 3) (by decide); have := Int.fmod_lt_of_pos n (b := 3) (by decide); omega
  have hcast : n.fmod 3 + 1 = (((n.fmod 3 + 1).toNat : Nat) : Int) := by omega
  refine Ev.cast (Ev.comp hC' (P := fun _ h v => RangeOf C.ok 0 (((n.fmod 3 + 1).toNat : Nat) : Int) 1 h v) ["place"] (fun s' k' => ?_) (Iters.range hC' (by omega)) (fun i => [("place", .dat (.int (i : Nat)))]) (fun x _ => .name) (fun x _ => rfl) (by kernel_rfl) (fun _ => true) (fun i : Nat => PyData.str ((partTab[(((n.fdiv 3).fdiv (3 ^ i)).fmod 3).toNat]?).getD "")) (by simp; omega) (fun x _ cenv ok' s' hC'' hsc k' => .nil) (fun x hx _ cenv ok' s' hC'' hsc k' => ?_)) ?_
  · have hC'' := hC'.at k'
    rw [← hcast]
    refine Ev.callT (T := "range") (ds := [.int (n.fmod 3 + 1)]) ?_ ?_ call_range1
    · walk_at "fn"
    · walk_at "args"
  · have hx' : x < 3 := by have := List.mem_range.mp hx; omega
    have h3 := Int.fmod_nonneg_of_pos ((n.fdiv 3).fdiv (3 ^ x)) (b := 3) (by decide)
    have h4 := Int.fmod_lt_of_pos ((n.fdiv 3).fdiv (3 ^ x)) (b := 3) (by decide)
    have h5 : (3 : Int) ^ ((x : Int).toNat) = 3 ^ x := by rw [Int.toNat_natCast]
    refine Ev.item (ds := [.str "x", .str "xx", .str "y"]) (k := ((n.fdiv 3).fdiv (3 ^ ((x : Int).toNat))).fmod 3) ?_ ?_ ?_ ?_ ?_
    · walk_at "ev"
    · have h6 : (3 : Int) ^ ((x : Int).toNat) ≠ 0 := by rw [h5]; exact Int.ne_of_gt (Int.pow_pos (by decide))
      walk_at "ev"
    · rw [h5]; omega
    · rw [h5]; omega
    · rw [h5]
      generalize ((n.fdiv 3).fdiv (3 ^ x)).fmod 3 = z at *
      have : z = 0 ∨ z = 1 ∨ z = 2 := by omega
      rcases this with rfl | rfl | rfl <;> rfl
  · unfold partsOf
    rw [List.filter_eq_self.mpr (fun _ _ => rfl), List.map_map]
    rfl
end Mine
namespace Mine
/-! ## names of the text's globals -/
theorem Ev.globalI {C : Cx} (hC : C.Ok) {x : Str} {p : Pos} {i : Int} {t : Tok} (hx : C.mg x = some (.int i t)) (hk : C.env.kindOf x = some .globalImplicit) (hd : (x == ("__debug__" : Str)) = false := by decide) : EvD C (.Name x p) (.int i) := Ev.mono (Ev.global hC hk hx hd) fun h v e => by subst e; exact Rd_int.mpr ⟨t, rfl⟩
theorem Ev.globalS {C : Cx} (hC : C.Ok) {x : Str} {p : Pos} {y : Str} {t : Tok} (hx : C.mg x = some (.str y t)) (hk : C.env.kindOf x = some .globalImplicit) (hd : (x == ("__debug__" : Str)) = false := by decide) : EvD C (.Name x p) (.str y) := Ev.mono (Ev.global hC hk hx hd) fun h v e => by subst e; exact Rd_str.mpr ⟨t, rfl⟩
theorem sub_nil {ρ : List (Str × Sp)} : ∀ y sp, ([] : List (Str × Sp)).lookup y = some sp → ρ.lookup y = some sp := fun y sp e => by cases e
theorem sub_cons {x : Str} {sp : Sp} {ρ' ρ : List (Str × Sp)} (h : ρ.lookup x = some sp) (r : ∀ y sp', ρ'.lookup y = some sp' → ρ.lookup y = some sp') : ∀ y sp', ((x, sp) :: ρ').lookup y = some sp' → ρ.lookup y = some sp' := fun y sp' e => by
  rw [List.lookup_cons] at e
  by_cases hy : y = x
  · subst hy; simp only [beq_self_eq_true] at e; cases e; exact h
  · rw [show (y == x) = false from by simpa using hy] at e
    exact r y sp' e

structure Consts (mg : Str → Option Value) : Prop where
  move : ∃ t, mg "_MOVE_COST" = some (.int 2 t)
  case_ : ∃ t, mg "_CASE_COST" = some (.int 1 t)
  size : ∃ t, mg "_MAX_STRING_SIZE" = some (.int 40 t)
  sep : ∃ t, mg "sep" = some (.str "/" t)

local macro_rules | `(tactic| walk_at "kind") => `(tactic| first | rfl | exact inner_kind (by assumption) rfl)
local macro_rules | `(tactic| walk_at "side") => `(tactic| first | assumption | decide | omega)
local macro_rules | `(tactic| walk_at "bin") => `(tactic| first
  | exact bin_add | exact bin_sub
  | exact bin_mod (by walk_at "side")
  | exact bin_fdiv (by assumption) (by walk_at "side")
  | exact bin_pow (by walk_at "side") (by walk_at "side") (by walk_at "side")
  | exact bin_addS (by walk_at "side")
  | exact bin_addL (by assumption) (by walk_at "side")
  | exact bin_mul (by walk_at "side"))
local macro_rules | `(tactic| walk_at "cmp") => `(tactic| first
  | exact cmp_eqI | exact cmp_neI | exact cmp_ltI | exact cmp_gtI | exact cmp_eqS | exact cmp_isNone | exact cmp_noneIs)
local macro_rules | `(tactic| walk_at "args") => `(tactic| first
  | exact EvL.nil
  | (refine' EvL.cons ?e ?r; (case e => walk_at "ev"); (case r => walk_at "args")))
local macro_rules | `(tactic| walk_at "glob") => `(tactic| first
  | exact Ev.globalI (by assumption) (by assumption) (by walk_at "kind")
  | exact Ev.globalS (by assumption) (by assumption) (by walk_at "kind"))
local macro_rules | `(tactic| walk_at "ev") => `(tactic| first
  | exact Ev.int
  | exact Ev.str
  | exact Ev.cNone
  | exact Ev.bool
  | exact Ev.nameD (by assumption) rfl
  | walk_at "glob"
  | (refine' Ev.binop ?l ?r ?b; (case l => walk_at "ev"); (case r => walk_at "ev"); (case b => walk_at "bin"))
  | (refine' Ev.list (by assumption) ?l; (case l => walk_at "args")))
local macro_rules | `(tactic| walk_at "ts") => `(tactic| first
  | (refine' Ts.cmp ?l ?r ?b; (case l => walk_at "ev"); (case r => walk_at "ev"); (case b => walk_at "cmp")))

/-! ## _substitution_cost -/
noncomputable def subC (x y : Str) : Int := if (x == y) = true then 0 else if (Txt.lower x == Txt.lower y) = true then 1 else 2
theorem call_lower {C : Cx} {x : Str} (h : Builtin.Str.tooLong (Txt.lower x).length = false) : CallD C (.builtin "str.lower") [.str x] (.str (Txt.lower x)) := fun s vs k y => by
  obtain ⟨v, rfl, ha⟩ := y.one_
  obtain ⟨t, rfl⟩ := Rd_str.mp ha
  exact SC.lower h ⟨Kp.tok _ _, Rd_str.mpr ⟨_, rfl⟩⟩
theorem two_list {α : Type} {vs : List α} (h : vs.length = 2) : ∃ a b, vs = [a, b] := by
  match vs, h with
  | [a, b], _ => exact ⟨a, b, rfl⟩
theorem three_list {α : Type} {vs : List α} (h : vs.length = 3) : ∃ a b c, vs = [a, b, c] := by
  match vs, h with
  | [a, b, c], _ => exact ⟨a, b, c, rfl⟩
theorem five_list {α : Type} {vs : List α} (h : vs.length = 5) : ∃ a b c d e, vs = [a, b, c, d, e] := by
  match vs, h with
  | [a, b, c, d, e], _ => exact ⟨a, b, c, d, e, rfl⟩
theorem sub_ok {C : Cx} (hC : C.Ok) {k : Nat} (G : Gl C.prog C.mg C.mb (k + 1) C.A C.s) (K : Consts C.mg) {a : Addr} {pm cd doc : Value} (hf : FnIs C.s.heap a (fnAt 5 pm cd doc)) {x y : Str} (hx : Builtin.Str.tooLong (Txt.lower x).length = false) (hy : Builtin.Str.tooLong (Txt.lower y).length = false) :
    CallD C (.ref a) [.str x, .str y] (.int (subC x y)) := by
  refine CallOk.def hC G hf (names := ["ch_a", "ch_b"]) (body := bodyAt 5) (defIs_of (by kernel_rfl)) rfl rfl rfl rfl (fun vs h => by obtain ⟨a, b, rfl⟩ := two_list h; rfl) fun s s₁ k₀ hX G' f => ?_
  obtain ⟨tm, hm⟩ := K.move
  obtain ⟨tc, hc⟩ := K.case_
  have hC' := f.cx hX
  refine FS.seq (FS.iff f (b := x == y) (by walk_at "ts") (fun hb s₂ f₂ _ => ?_) fun hb s₂ f₂ _ => ?_)
  · have hC₂ := f₂.cx hX
    refine FS.seq (FS.retD f₂ (d := .int 0) (by walk_at "ev") fun v s' k' h => ⟨Kp.trans f₂.F.keeps k', ?_⟩)
    unfold subC; rw [if_pos hb]; exact h
  · have hC₂ := f₂.cx hX
    refine wpAny_execs_nil (FS.seq (FS.iff f₂ (b := Txt.lower x == Txt.lower y) (Ts.cmp (Ev.methS (name := "lower") (ds := []) (by walk_at "ev") F.plainAttrs_str F.slot_str_lower rfl (by walk_at "args") (call_lower hx)) (Ev.methS (name := "lower") (ds := []) (by walk_at "ev") F.plainAttrs_str F.slot_str_lower rfl (by walk_at "args") (call_lower hy)) cmp_eqS) (fun hb' s₃ f₃ _ => ?_) fun hb' s₃ f₃ _ => ?_))
    · have hC₃ := f₃.cx hX
      refine FS.seq (FS.retD f₃ (d := .int 1) (by walk_at "ev") fun v s' k' h => ⟨Kp.trans f₃.F.keeps k', ?_⟩)
      unfold subC; rw [if_neg (by rw [hb]; exact Bool.false_ne_true), if_pos hb']; exact h
    · have hC₃ := f₃.cx hX
      refine wpAny_execs_nil (FS.seq (FS.retD f₃ (d := .int 2) (by walk_at "ev") fun v s' k' h => ⟨Kp.trans f₃.F.keeps k', ?_⟩))
      unfold subC; rw [if_neg (by rw [hb]; exact Bool.false_ne_true), if_neg (by rw [hb']; exact Bool.false_ne_true)]; exact h
end Mine
namespace Mine
/-- x, y = (e, e') : stored from the right -/
theorem FS.swap2 {X : Fx} (hX : X.Gd) {hB : Heap} {ρ : List (Str × Sp)} {s : Shared} (f : FS X hB ρ s) {x y : Str} {p q tpos pos : Pos} {j : Nat} {value : Expr} {d e : PyData} {Q : Flow → Shared → Prop} (hv : EvD (X.cx s ρ) value (.tuple [d, e])) (hx : Own X.N X.env x) (hy : Own X.N X.env y)
    (h : ∀ s', FS X hB ((x, .dat d) :: (y, .dat e) :: ρ) s' → Q .next s') (hs : swapsWithSole [.Tuple [.Name x p, .Name y q] j tpos] value pos.line X.env = pure false := by rfl) (hw : swappedStores [.Tuple [.Name x p, .Name y q] j tpos] value X.env = pure (some [x, y]) := by rfl) :
    wpAny X.m X.A (exec (.Assign [.Tuple [.Name x p, .Name y q] j tpos] value pos) X.env) Q (fun _ _ => False) s := by
  rw [exec_Assign_arm]
  refine wpAny_bind (wpAny_standAt ?_)
  rw [hs]
  refine wpAny_bind (wpAny_pure ?_)
  rw [if_neg (by decide)]
  refine wpAny_bind (Ev.two hv (Kp.refl _) fun v s₁ k₁ hv => ?_)
  rw [hw]
  refine wpAny_bind (wpAny_pure ?_)
  obtain ⟨T, vs, rfl, okT, hT, hr⟩ := Rd_tuple.mp hv
  obtain ⟨v1, v2, e2, r1, r2⟩ := hr.two_
  show wpAny X.m X.A (do
    rule "assign.swapped-stores"
    let items ← unpackItems (.ref T) 2 none
    assignInOrder ([x, y].reverse.map fun n => bindName X.env n) items.reverse
    pure (Flow.next : Flow)) _ _ s₁
  have hsz : vs.size = 2 := by have := congrArg List.length e2; simpa using this
  rw [← hsz]
  refine wpAny_bind (wpAny_rule (wpAny_bind (wpAny_unpackItems_tuple hX.hand hT fun h' hk => ?_)))
  have kk : Keeps s₁ { s₁ with heap := h' } := Kp.of (fun b o e => hk b o (Nat.ne_of_lt (Heap.lt_size e)) e) s₁.toks
  rw [e2]
  refine wpAny_bind ?_
  refine wpAny_assignInOrder_more (wpAny_bindName (((f.kp k₁).kp kk).store (sp := .dat e) (r2.kp kk) hy fun s1 F1 m1 => ?_))
  refine wpAny_assignInOrder_more (wpAny_bindName (F1.store (sp := .dat d) (Sp.mv (sp := .dat d) (m1.mv.of_true) (fun _ _ z _ => z) (r1.kp kk)) hx fun s2 F2 m2 => ?_))
  exact wpAny_assignInOrder_none (wpAny_pure (h s2 F2))
/-! ## the built-in names by one table -/
noncomputable def bisTab : List (Str × Value) := [("len", .builtin "len"), ("range", .type "range"), ("sum", .builtin "sum"), ("min", .builtin "min"), ("max", .builtin "max"), ("sorted", .builtin "sorted"), ("enumerate", .type "enumerate"), ("zip", .type "zip"), ("list", .type "list"), ("set", .type "set"), ("str", .type "str"), ("type", .type "type")]
theorem lookup_all {α β : Type} [BEq α] [LawfulBEq α] {P : α → β → Prop} : ∀ {l : List (α × β)}, (∀ p ∈ l, P p.1 p.2) → ∀ {x : α} {v : β}, l.lookup x = some v → P x v
  | [], _, x, v, h => by cases h
  | (k, u) :: r, H, x, v, h => by
    rw [List.lookup_cons] at h
    cases hb : x == k with
    | true =>
      rw [hb] at h; simp only at h; cases h
      have := eq_of_beq hb; subst this
      exact H _ List.mem_cons_self
    | false =>
      rw [hb] at h
      exact lookup_all (fun p hp => H p (List.mem_cons_of_mem _ hp)) h
theorem Bis.all {mg mb : Str → Option Value} (B : Bis mg mb) {x : Str} {v : Value} (h : bisTab.lookup x = some v) : mg x = none ∧ mb x = some v := by
  refine lookup_all (P := fun x v => mg x = none ∧ mb x = some v) (l := bisTab) (fun p hp => ?_) h
  simp only [bisTab, List.mem_cons, List.not_mem_nil, or_false] at hp
  rcases hp with rfl | rfl | rfl | rfl | rfl | rfl | rfl | rfl | rfl | rfl | rfl | rfl
  · exact B.len
  · exact B.range
  · exact B.sum
  · exact B.min
  · exact B.max
  · exact B.sorted
  · exact B.enumerate
  · exact B.zip
  · exact B.list
  · exact B.set
  · exact B.str
  · exact B.type
theorem Ev.bi {C : Cx} (hC : C.Ok) (B : Bis C.mg C.mb) {x : Str} {p : Pos} {v : Value} (h : bisTab.lookup x = some v) (hk : C.env.kindOf x = some .globalImplicit) (hd : (x == ("__debug__" : Str)) = false := by decide) : EvV C (.Name x p) v := Ev.builtin hC hk (B.all h).1 (B.all h).2 hd

/-! ## stores beside lists that are written to -/
theorem FS.setM {X : Fx} {hB : Heap} {ρ : List (Str × Sp)} {s : Shared} (f : FS X hB ρ s) {x : Str} {p pos : Pos} {value : Expr} {d : PyData} {Q : Flow → Shared → Prop} (hv : EvD (X.cx s ρ) value d) (hx : Own X.N X.env x)
    (h : ∀ s', FS X hB ((x, .dat d) :: ρ) s' → Mv (fun _ => True) s.heap s'.heap → Q .next s') (hs : swapsWith value (some (.Name x p)) pos.line X.env = pure false := by rfl) : wpAny X.m X.A (exec (.Assign [.Name x p] value pos) X.env) Q (fun _ _ => False) s :=
  wpAny_Assign_Name (wpAny_mono (hv s (Kp.refl _)) (fun v s₁ y => (f.kp y.1).store (sp := .dat d) y.2 hx fun s' f' st => h s' f' ((Mv.of_keep (Kp.get y.1)).trans st.mv)) fun _ _ y => y) hs
theorem FS.set2M {X : Fx} {hB : Heap} {ρ : List (Str × Sp)} {s : Shared} (f : FS X hB ρ s) {x y : Str} {p q pos : Pos} {value : Expr} {d : PyData} {Q : Flow → Shared → Prop} (hv : EvD (X.cx s ρ) value d) (hx : Own X.N X.env x) (hy : Own X.N X.env y)
    (h : ∀ s', FS X hB ((y, .dat d) :: (x, .dat d) :: ρ) s' → Mv (fun _ => True) s.heap s'.heap → Q .next s') (he : (assignEach [.Name x p, .Name y q] X.env).map (·.2) = [assign (.Name x p) X.env, assign (.Name y q) X.env] := by rfl) (hw : swappedStores [.Name x p, .Name y q] value X.env = pure none := by rfl) :
    wpAny X.m X.A (exec (.Assign [.Name x p, .Name y q] value pos) X.env) Q (fun _ _ => False) s :=
  wpAny_Assign_two (wpAny_mono (hv s (Kp.refl _)) (fun v s₁ z => wpAny_assign_Name ((f.kp z.1).store (sp := .dat d) z.2 hx fun s' f' st => wpAny_assign_Name (f'.store (sp := .dat d) (Sp.mv (sp := .dat d) st.mv.of_true (fun _ _ z _ => z) z.2) hy fun s'' f'' st' => h s'' f'' (((Mv.of_keep (Kp.get z.1)).trans st.mv).trans st'.mv)))) fun _ _ y => y) he hw
theorem Ev.itemH {C : Cx} {value slice : Expr} {pos : Pos} {D : Addr} {ds : List PyData} {k : Int} {d : PyData} (hv : EvV C value (.ref D)) (H : HoleI C.ok D ds C.s.heap) (hi : EvD C slice (.int k)) (h0 : 0 ≤ k) (hfit : k < 2 ^ 63) (hd : ds[k.toNat]? = some d)
    (hs : ∀ o i, subscripted slice false o i = operate [o, i] (getItem o i) := by intro _ _; rfl) : EvD C (.Subscript value slice pos) d := fun s k₀ =>
  Subscript_ (Ev.two hv k₀ fun v s₁ k₁ hv => Ev.two hi (Kp.trans k₀ k₁) fun u s₂ k₂ hu => by
    subst hv
    obtain ⟨t, rfl⟩ := Rd_int.mp hu
    obtain ⟨vs, hl, hr⟩ := H.kp (Kp.trans (Kp.trans k₀ k₁) k₂)
    obtain ⟨x, hx, hdx⟩ := hr.get _ _ hd
    exact tail_any hl.typeIs slot_list_getitem.lookup (wpAny_getItem_list hl h0 hfit (by simpa using hx) ⟨Kp.trans k₁ k₂, hdx⟩) (hs _ _))
theorem own1 {N : List (Str × NameKind)} {env : Env} {x : Str} {sp : Sp} (h : Own N env x) : ∀ b ∈ [(x, sp)], Own N env b.1 := fun b hb => by
  have : b = (x, sp) := by simpa using hb
  subst this; exact h
theorem own2 {N : List (Str × NameKind)} {env : Env} {x y : Str} {sp sp' : Sp} (h : Own N env x) (h' : Own N env y) : ∀ b ∈ [(x, sp), (y, sp')], Own N env b.1 := fun b hb => by
  rcases List.mem_cons.mp hb with rfl | hb
  · exact h
  · exact own1 h' b hb
theorem own3 {N : List (Str × NameKind)} {env : Env} {x y z : Str} {sp sp' sp'' : Sp} (h : Own N env x) (h' : Own N env y) (h'' : Own N env z) : ∀ b ∈ [(x, sp), (y, sp'), (z, sp'')], Own N env b.1 := fun b hb => by
  rcases List.mem_cons.mp hb with rfl | hb
  · exact h
  · exact own2 h' h'' b hb
end Mine
namespace Mine
/-! ## texts as lists of signs -/
noncomputable def S (l : List Nat) : Str := ⟨l.toArray⟩
noncomputable def ch (c : Nat) : Str := ⟨#[c]⟩
theorem S_len (l : List Nat) : (S l).length = l.length := by simp [S, Str.length]
theorem S_inj {l r : List Nat} : S l = S r ↔ l = r := by
  constructor
  · intro h
    have := congrArg (fun x : Str => x.cps.toList) h
    simpa [S] using this
  · rintro rfl; rfl
theorem S_beq (l r : List Nat) : (S l == S r) = decide (l = r) := by
  by_cases h : l = r
  · subst h; simp
  · rw [decide_eq_false h]
    exact beq_eq_false_iff_ne.mpr fun e => h (S_inj.mp e)
theorem S_at {l : List Nat} {i : Nat} (h : i < l.length) : (seqIndex? (i : Int) (S l).length).bind ((S l).cps[·]?) = some l[i] := by
  rw [S_len]
  have : seqIndex? (i : Int) l.length = some i := by
    unfold seqIndex?
    rw [if_neg (show ¬ ((i : Int) < 0) by omega)]
    have h1 : (decide (0 ≤ (i : Int)) && decide ((i : Int) < l.length)) = true := by rw [decide_eq_true (by omega), decide_eq_true (by omega)]; rfl
    simp only [h1, if_true, Int.toNat_natCast]
  rw [this]
  simp [S, h]
theorem S_atNeg {l : List Nat} {j : Nat} (h0 : 0 < j) (h : j ≤ l.length) : (seqIndex? (-(j : Int)) (S l).length).bind ((S l).cps[·]?) = some (l[l.length - j]'(by omega)) := by
  rw [S_len]
  have : seqIndex? (-(j : Int)) l.length = some (l.length - j) := by
    unfold seqIndex?
    rw [if_pos (show (-(j : Int) < 0) by omega)]
    have h1 : (decide (0 ≤ -(j : Int) + l.length) && decide (-(j : Int) + l.length < l.length)) = true := by rw [decide_eq_true (by omega), decide_eq_true (by omega)]; rfl
    simp only [h1, if_true]
    congr 1; omega
  rw [this]
  have h2 : l.length - j < l.length := by omega
  simp [S, h2]
theorem slice_from {l : List Nat} {i : Nat} (h : i ≤ l.length) : Txt.slice (S l) (some (i : Int)) none = S (l.drop i) := by
  have := slice_closes_fromL (x := S l) (i := i) (b := l.length) (by omega) (by rw [S_len]; omega) (by rw [S_len])
  rw [eq_of_beq this]
  unfold S
  have e : ((l.length : Int) - i).toNat = l.length - i := by omega
  rw [Int.toNat_natCast, e]
  congr 2
  exact List.take_of_length_le (by simp)
theorem slice_neg {l : List Nat} {j : Nat} (h : j ≤ l.length) : Txt.slice (S l) none (if j = 0 then none else some (-(j : Int))) = S (l.take (l.length - j)) := by
  by_cases h0 : j = 0
  · subst h0
    rw [if_pos rfl, Nat.sub_zero, List.take_length]
    show StrLaws.sliceText (S l) none none = _
    unfold StrLaws.sliceText
    have e : (Builtin.Str.strSliceIndices none none 1 (S l).length).length = (S l).length := by
      rw [StrLaws.sliceIdx_none_lo, StrLaws.sliceIdx_none_hi]
      have := StrLaws.strSliceIndices_plain (a := 0) (b := (S l).length) (len := (S l).length) (Nat.zero_le _) (Nat.le_refl _)
      rw [show ((0 : Nat) : Int) = 0 from rfl] at this
      rw [this]; simp
    rw [e]; simp
  · rw [if_neg h0]
    have := slice_closes_to_neg (x := S l) (j := -(j : Int)) (k := -(j : Int) + (S l).length) (by omega) (by rw [S_len]; omega) rfl
    rw [eq_of_beq this]
    unfold S
    have e : (-(j : Int) + (S l).length - 0).toNat = l.length - j := by rw [S_len]; omega
    rw [show (⟨l.toArray⟩ : Str) = S l from rfl, e]
    congr 2

/-! ## the distance -/
noncomputable def cost (c d : Nat) : Int := subC (ch c) (ch d)
noncomputable def innS (bc : Nat) (la : List Nat) (row : List Int) (d0 : Int) : Nat → Int × Int × Int × List Int
  | 0 => (d0, d0, 9223372036854775807, row)
  | i + 1 =>
    let p := innS bc la row d0 i
    let sb := p.1 + cost bc (la[i]?.getD 0)
    let dist := p.2.2.2[i]?.getD 0
    let t := (if dist < p.2.1 then dist else p.2.1) + 2
    let r := if sb < t then sb else t
    (dist, r, if r < p.2.2.1 then r else p.2.2.1, p.2.2.2.set i r)
noncomputable def row0 (la : List Nat) : List Int := (List.range la.length).map fun i : Nat => 2 + (i : Int) * 2
noncomputable def outS (la lb : List Nat) : Nat → Int × List Int
  | 0 => (0, row0 la)
  | j + 1 =>
    let q := innS (lb[j]?.getD 0) la (outS la lb j).2 ((j : Int) * 2) la.length
    (q.2.1, q.2.2.2)
noncomputable def minS (la lb : List Nat) (j : Nat) : Int := (innS (lb[j]?.getD 0) la (outS la lb j).2 ((j : Int) * 2) la.length).2.2.1
noncomputable def dp (la lb : List Nat) (M : Int) : Int := if (List.range lb.length).any (fun j => decide (M < minS la lb j)) then M + 1 else (outS la lb lb.length).1
noncomputable def lev3 (la lb : List Nat) (M : Int) : Int := if M < ((lb.length : Int) - la.length) * 2 then M + 1 else dp la lb M
noncomputable def lev2 (la lb : List Nat) (M : Int) : Int := if la.length = 0 ∨ lb.length = 0 then 2 * ((la.length : Int) + lb.length) else if lb.length < la.length then lev3 lb la M else lev3 la lb M
noncomputable def cpl : List Nat → List Nat → Nat
  | a :: l, b :: r => if a = b then cpl l r + 1 else 0
  | _, _ => 0
noncomputable def cut (m : Nat) (l : List Nat) : List Nat := l.take (l.length - m)
noncomputable def lev1 (la lb : List Nat) (M : Int) : Int := let m := cpl la.reverse lb.reverse; lev2 (cut m la) (cut m lb) M
noncomputable def lev (la lb : List Nat) (M : Int) : Int := if la = lb then 0 else lev1 (la.drop (cpl la lb)) (lb.drop (cpl la lb)) M

theorem innS_row (bc : Nat) (la : List Nat) (row : List Int) (d0 : Int) : ∀ i, (innS bc la row d0 i).2.2.2.length = row.length
  | 0 => rfl
  | i + 1 => by simp [innS, innS_row bc la row d0 i]
theorem outS_row (la lb : List Nat) : ∀ j, (outS la lb j).2.length = la.length
  | 0 => by simp [outS, row0]
  | j + 1 => by simp [outS, innS_row, outS_row la lb j]
theorem cpl_le : ∀ la lb, cpl la lb ≤ la.length ∧ cpl la lb ≤ lb.length
  | [], _ => by simp [cpl]
  | _ :: _, [] => by simp [cpl]
  | a :: l, b :: r => by
    unfold cpl
    have := cpl_le l r
    split <;> simp <;> omega
theorem cpl_eq : ∀ (la lb : List Nat) (i : Nat), i < cpl la lb → ∀ (h1 : i < la.length) (h2 : i < lb.length), la[i] = lb[i]
  | [], _, i, h, h1, _ => by simp at h1
  | _ :: _, [], i, h, _, h2 => by simp at h2
  | a :: l, b :: r, i, h, h1, h2 => by
    unfold cpl at h
    split at h
    · rename_i e
      cases i with
      | zero => simpa using e
      | succ i => simpa using cpl_eq l r i (by omega) (by simpa using h1) (by simpa using h2)
    · omega
theorem cpl_ne : ∀ (la lb : List Nat) (h1 : cpl la lb < la.length) (h2 : cpl la lb < lb.length), la[cpl la lb] ≠ lb[cpl la lb]
  | [], _, h1, _ => by simp at h1
  | _ :: _, [], _, h2 => by simp at h2
  | a :: l, b :: r, h1, h2 => by
    by_cases e : a = b
    · have hc : cpl (a :: l) (b :: r) = cpl l r + 1 := by simp [cpl, e]
      simp only [hc, List.getElem_cons_succ]
      exact cpl_ne l r (by rw [hc] at h1; simpa using h1) (by rw [hc] at h2; simpa using h2)
    · have hc : cpl (a :: l) (b :: r) = 0 := by simp [cpl, e]
      simp only [hc, List.getElem_cons_zero]
      exact e

theorem size_two (n : Nat) : Builtin.Range.rangeSize 2 (2 * ((n : Int) + 1)) 2 = n := by
  unfold Builtin.Range.rangeSize
  rw [if_pos (by decide)]
  split <;> omega
theorem small_two (n : Nat) (h : n ≤ 40) : Builtin.Range.small 2 (2 * ((n : Int) + 1)) 2 = true := by
  have key : ∀ n : Fin 41, Builtin.Range.small 2 (2 * (((n : Nat) : Int) + 1)) 2 = true := by decide +kernel
  exact key ⟨n, by omega⟩
theorem S_atNeg1 {l : List Nat} {j : Nat} (h : j < l.length) : (seqIndex? (-(j : Int) - 1) (S l).length).bind ((S l).cps[·]?) = some (l.reverse[j]'(by simpa using h)) := by
  have := S_atNeg (l := l) (j := j + 1) (by omega) (by omega)
  rw [show (-(j : Int) - 1) = -((j + 1 : Nat) : Int) by push_cast; omega, this]
  congr 1
  rw [List.getElem_reverse]
  congr 1
  omega
theorem cut_len (m : Nat) (l : List Nat) : (cut m l).length = l.length - m := by simp [cut]
end Mine
namespace Mine
local macro_rules | `(tactic| walk_at "kind") => `(tactic| first | rfl | exact inner_kind (by assumption) rfl)
local macro_rules | `(tactic| walk_at "side") => `(tactic| first | assumption | decide | omega)
local macro_rules | `(tactic| walk_at "bin") => `(tactic| first
  | with_reducible exact bin_add
  | with_reducible exact bin_sub
  | ((with_reducible refine' bin_mod ?h); (case h => walk_at "side"))
  | ((with_reducible refine' bin_fdiv ?c ?h); (case c => assumption); (case h => walk_at "side"))
  | ((with_reducible refine' bin_pow ?h ?h' ?h''); (case h => walk_at "side"); (case h' => walk_at "side"); (case h'' => walk_at "side"))
  | ((with_reducible refine' bin_addS ?h); (case h => walk_at "side"))
  | ((with_reducible refine' bin_addL ?c ?h); (case c => assumption); (case h => walk_at "side"))
  | ((with_reducible refine' bin_mul ?h); (case h => first | exact IntMulOk.of_right (by decide) | exact IntMulOk.of_left (by decide) | assumption)))
local macro_rules | `(tactic| walk_at "cmp") => `(tactic| first
  | with_reducible exact cmp_eqI
  | with_reducible exact cmp_neI
  | with_reducible exact cmp_ltI
  | with_reducible exact cmp_gtI
  | with_reducible exact cmp_eqS
  | with_reducible exact cmp_isNone
  | with_reducible exact cmp_noneIs)
local macro_rules | `(tactic| walk_at "args") => `(tactic| first
  | with_reducible exact EvL.nil
  | ((with_reducible refine' EvL.cons ?e ?r ?z); (case e => walk_at "ev"); (case r => walk_at "args"); (case z => rfl)))
local macro_rules | `(tactic| walk_at "fn") => `(tactic| ((with_reducible refine' Ev.bi ?c ?b ?h ?k ?d); (case c => assumption); (case b => assumption); (case h => rfl); (case k => walk_at "kind"); (case d => decide)))
local macro_rules | `(tactic| walk_at "call") => `(tactic| first
  | ((with_reducible refine' call_lenS ?h); (case h => walk_at "side"))
  | ((with_reducible refine' call_lenL ?h); (case h => walk_at "side"))
  | ((with_reducible refine' call_min2 ?h); (case h => assumption))
  | ((with_reducible refine' call_max2 ?h); (case h => assumption)))
local macro_rules | `(tactic| walk_at "ev") => `(tactic| first
  | with_reducible exact Ev.int
  | with_reducible exact Ev.str
  | with_reducible exact Ev.cNone
  | with_reducible exact Ev.bool
  | ((with_reducible refine' Ev.nameD ?c ?h ?d); (case c => assumption); (case h => rfl); (case d => decide))
  | ((with_reducible refine' Ev.globalI ?c ?h ?k ?d); (case c => assumption); (case h => assumption); (case k => walk_at "kind"); (case d => decide))
  | ((with_reducible refine' Ev.globalS ?c ?h ?k ?d); (case c => assumption); (case h => assumption); (case k => walk_at "kind"); (case d => decide))
  | ((with_reducible refine' Ev.binop ?l ?r ?b); (case l => walk_at "ev"); (case r => walk_at "ev"); (case b => walk_at "bin"))
  | ((with_reducible refine' Ev.callB ?f ?a ?c ?p); (case f => walk_at "fn"); (case a => walk_at "args"); (case c => walk_at "call"); (case p => rfl))
  | ((with_reducible refine' Ev.tuple ?c ?l ?z); (case c => assumption); (case l => walk_at "args"); (case z => exact Nat.le_of_ble_eq_true rfl))
  | ((with_reducible refine' Ev.list ?c ?l ?z); (case c => assumption); (case l => walk_at "args"); (case z => exact Nat.le_of_ble_eq_true rfl)))
local macro_rules | `(tactic| walk_at "ts") => `(tactic| first
  | ((with_reducible refine' Ts.cmp ?l ?r ?b ?m); (case l => walk_at "ev"); (case r => walk_at "ev"); (case b => walk_at "cmp"); (case m => with_unfolding_all rfl)))
theorem Ev.listRangeF {C : Cx} (hC : C.Ok) {e1 e2 e3 : Expr} {f g : Str} {p p' p'' pos : Pos} {a b c : Int} {n : Nat} (hf : EvV C (.Name f p) (.type "list")) (hg : EvV C (.Name g p') (.type "range")) (ha : EvL C p'' [e1, e2, e3] [.int a, .int b, .int c])
    (hc : c ≠ 0) (hsmall : Builtin.Range.small a b c = true) (hn : Builtin.Range.rangeSize a b c = n) (hlen : n ≤ 2 ^ 24)
    (he : starEach [.Call (.Name g p') [e1, e2, e3] [] p''] C.env = [(false, eval (.Call (.Name g p') [e1, e2, e3] [] p'') C.env)] := by rfl)
    (hp : (backTo p'' (starEach [e1, e2, e3] C.env)).any (·.1) = false := by rfl) :
    Ev C (.Call (.Name f p) [.Call (.Name g p') [e1, e2, e3] [] p''] [] pos) (fun h v => ∃ D vs, v = .ref D ∧ C.s.heap.get? D = none ∧ PlainL h D vs ∧ RdAll (fun _ => False) h ((List.range n).map fun i : Nat => PyData.int (a + (i : Int) * c)) vs.toList) := fun s k =>
  wpAny_Call_NameR (Ev.two hf k fun v s₁ k₁ hv => by
    subst hv
    have hin : Ev C (.Call (.Name g p') [e1, e2, e3] [] p'') (RangeOf C.ok a b c) := Ev.callT hg ha (call_range3 hC hc) hp
    refine PySem.callWith_type (by rw [he]; rfl) (evalArgs_any (by rw [he]; rfl) (wpAny_items_cons (Ev.two hin (Kp.trans k k₁) fun u s₂ k₂ hu => wpAny_items_nil ?_) he))
    obtain ⟨r, t, t', t'', rfl, hr⟩ := hu
    refine call_list_range hC.hand hr hsmall hn hlen fun h' tk acc c' hk hl hi => ⟨Kp.trans (Kp.trans k₁ k₂) (Kp.of hk tk), _, acc, rfl, Kp.none (Kp.trans (Kp.trans k k₁) k₂) (get_size _), ⟨_, c', hl, rfl, rfl, rfl⟩, rdAll_itemsOf hi⟩)

noncomputable abbrev levX (prog : Program) (w : World) (A : Around) (a : Addr) (pm cd doc : Value) (ok : Addr → Prop) (s : Shared) (mg mb : Str → Option Value) : Fx := fxOf prog w A (fnAt 6 pm cd doc) a ok (fun _ => True) s mg mb
theorem range_at {n i x : Nat} (h : (List.range n)[i]? = some x) : i < n ∧ x = i := by
  obtain ⟨h1, h2⟩ := List.getElem?_eq_some_iff.mp h
  exact ⟨by simpa using h1, by simpa using h2.symm⟩
theorem getD_of {α : Type} {l : List α} {i : Nat} {d : α} (h : i < l.length) : l[i]?.getD d = l[i] := by simp [h]

section
variable {prog : Program} {w : World} {A : Around} {a : Addr} {pm cd doc : Value} {ok : Addr → Prop} {s : Shared} {mg mb : Str → Option Value} {k : Nat}

theorem lev_tail (hX : (levX prog w A a pm cd doc ok s mg mb).Gd) (G : Gl prog mg mb (k + 1) (levX prog w A a pm cd doc ok s mg mb).A s) (B : Bis mg mb) (K : Consts mg) {af : Addr} {pm' cd' doc' : Value} (hsubn : mg "_substitution_cost" = some (.ref af)) (hsub : FnIs s.heap af (fnAt 5 pm' cd' doc'))
    {la lb : List Nat} {M : Int} (hle : la.length ≤ lb.length) (hlb : lb.length ≤ 40) (hlow : ∀ c ∈ la ++ lb, Builtin.Str.tooLong (Txt.lower (ch c)).length = false) {hB : Heap} {ρ : List (Str × Sp)} {s₁ : Shared} (f : FS (levX prog w A a pm cd doc ok s mg mb) hB ρ s₁)
    (ha : ρ.lookup ("a" : Str) = some (.dat (.str (S la)))) (hb : ρ.lookup ("b" : Str) = some (.dat (.str (S lb)))) (hm : ρ.lookup ("max_cost" : Str) = some (.dat (.int M))) :
    wpAny (levX prog w A a pm cd doc ok s mg mb).m (levX prog w A a pm cd doc ok s mg mb).A (execs ((bodyAt 6).drop 12) (levX prog w A a pm cd doc ok s mg mb).env) (fun fl s' => Keeps s s' ∧ Rd ok s'.heap (.int (lev3 la lb M)) (match fl with | .ret v => v | _ => .none)) (fun _ _ => False) s₁ := by
  obtain ⟨tm, hmv⟩ := K.move
  have hSa : (S la).length = la.length := S_len la
  have hSb : (S lb).length = lb.length := S_len lb
  have hSa' : (S la).length ≤ 1000000 := by omega
  have hSb' : (S lb).length ≤ 1000000 := by omega
  have f := f.sub (ρ' := [("a", .dat (.str (S la))), ("b", .dat (.str (S lb))), ("max_cost", .dat (.int M))]) (sub_cons ha (sub_cons hb (sub_cons hm sub_nil)))
  have hC := f.cx hX
  refine FS.seq (FS.iff f (b := decide (M < (((S lb).length : Int) - (S la).length) * 2)) (by walk_at "ts") (fun hb s₂ f₂ _ => ?_) fun hb s₂ f₂ _ => ?_)
  · have hC₂ := f₂.cx hX
    refine FS.seq (FS.retD f₂ (d := .int (M + 1)) (by walk_at "ev") fun v s' k' h => ⟨Kp.trans f₂.F.keeps k', ?_⟩)
    have hb' := of_decide_eq_true hb
    rw [hSa, hSb] at hb'
    unfold lev3; rw [if_pos hb']; exact h
  have hb' := of_decide_eq_false hb
  rw [hSa, hSb] at hb'
  have hlev : lev3 la lb M = dp la lb M := by unfold lev3; rw [if_neg hb']
  rw [hlev]
  have hC₂ := f₂.cx hX
  refine wpAny_execs_nil (FS.seq (FS.setHole f₂ (ds := (row0 la).map .int) ?_ (.inl rfl) fun D s₃ okD hD hD0 f₃ H₃ => ?_))
  · rw [show (row0 la).map PyData.int = (List.range la.length).map fun i : Nat => PyData.int (2 + (i : Int) * 2) from by simp [row0]]
    refine Ev.listRangeF hC₂ (a := 2) (b := 2 * (((S la).length : Int) + 1)) (c := 2) (n := la.length) (by walk_at "fn") (by walk_at "fn") (by walk_at "args") (by decide) ?_ ?_ (by omega)
    · rw [hSa]; exact small_two _ (by omega)
    · rw [hSa]; exact size_two _
  have hX₃ := hX.hole D
  have hC₃ := f₃.cx hX₃
  refine FS.seq (FS.setM f₃ (d := .int 0) (by walk_at "ev") (.inl rfl) fun s₄ f₄ m₄ => ?_)
  have H₄ := (H₃.mv m₄ trivial fun _ _ => trivial).i
  have hC₄ := f₄.cx hX₃
  have aD : s₄.heap.get? D ≠ none := by obtain ⟨vs, ⟨o, e, _⟩, _⟩ := H₄; rw [e]; exact fun y => nomatch y
  refine FS.seq (FS.forL hX₃ f₄ (P := fun _ h v => RangeOf ((levX prog w A a pm cd doc ok s mg mb).hole D).ok 0 (((S lb).length : Nat) : Int) 1 h v) (l := List.range (S lb).length) (sp := fun i : Nat => .dat (.int i)) ?_ (Iters.range hC₄ hSb') (fun i => [("bindex", .dat (.int (i : Nat)))]) (fun x _ => .name) (fun x _ => own1 (.inl rfl))
    (fun j => [("result", .dat (.int (outS la lb j).1)), ("row", .val (.ref D)), ("a", .dat (.str (S la))), ("b", .dat (.str (S lb))), ("max_cost", .dat (.int M))]) (sub_cons rfl (sub_cons rfl (sub_cons rfl (sub_cons rfl (sub_cons rfl sub_nil)))))
    (fun ok' j h => HoleI ok' D ((outS la lb j).2.map .int) h ∧ ∀ j', j' < j → ¬ M < minS la lb j') (fun ok' i h h' _ x t => ⟨x.1.tm t aD, x.2⟩) (fun ok' _ hal => ⟨H₄.okTo fun a o x e => hal a x (by rw [e]; exact fun y => nomatch y), fun _ h => absurd h (Nat.not_lt_zero _)⟩)
    ?_ ?_)
  · exact Ev.callT (T := "range") (ds := [.int (((S lb).length : Nat) : Int)]) (by walk_at "fn") (by walk_at "args") call_range1
  · intro ok' hsub' hal j x s₅ hx f₅ K₅
    obtain ⟨hj, rfl⟩ := range_at hx
    rw [hSb] at hj
    have hX₅ := hX₃.withOk hsub'
    have hC₅ := f₅.cx hX₅
    refine FS.seq (FS.setM f₅ (d := .str (ch lb[x])) (Ev.itemS (by walk_at "ev") (by walk_at "ev") (by omega) (by omega) (S_at hj)) (.inl rfl) fun s₆ f₆ m₆ => ?_)
    have hC₆ := f₆.cx hX₅
    refine FS.seq (FS.set2M f₆ (d := .int ((x : Int) * 2)) (by walk_at "ev") (.inl rfl) (.inl rfl) fun s₇ f₇ m₇ => ?_)
    have hC₇ := f₇.cx hX₅
    refine FS.seq (FS.setM f₇ (d := .int 9223372036854775807) (by walk_at "ev") (.inl rfl) fun s₈ f₈ m₈ => ?_)
    have H₈ : HoleI ok' D ((outS la lb x).2.map .int) s₈.heap := K₅.1.mv (m₆.trans (m₇.trans m₈)) trivial fun _ _ => trivial
    have hC₈ := f₈.cx hX₅
    have aD₈ : s₈.heap.get? D ≠ none := by obtain ⟨vs, ⟨o, e, _⟩, _⟩ := H₈; rw [e]; exact fun y => nomatch y
    have hbx : lb[x]?.getD 0 = lb[x] := getD_of hj
    refine FS.seq (FS.forL hX₅ f₈ (P := fun _ h v => RangeOf ok' 0 (((S la).length : Nat) : Int) 1 h v) (l := List.range (S la).length) (sp := fun i : Nat => .dat (.int i)) ?_ (Iters.range hC₈ hSa') (fun i => [("index", .dat (.int (i : Nat)))]) (fun x _ => .name) (fun x _ => own1 (.inl rfl))
      (fun i => [("minimum", .dat (.int (innS (lb[x]?.getD 0) la (outS la lb x).2 ((x : Int) * 2) i).2.2.1)), ("result", .dat (.int (innS (lb[x]?.getD 0) la (outS la lb x).2 ((x : Int) * 2) i).2.1)), ("distance", .dat (.int (innS (lb[x]?.getD 0) la (outS la lb x).2 ((x : Int) * 2) i).1)), ("bchar", .dat (.str (ch lb[x]))), ("row", .val (.ref D)), ("a", .dat (.str (S la))), ("b", .dat (.str (S lb))), ("max_cost", .dat (.int M))])
      (sub_cons rfl (sub_cons rfl (sub_cons rfl (sub_cons rfl (sub_cons rfl (sub_cons rfl (sub_cons rfl (sub_cons rfl sub_nil))))))))
      (fun ok'' i h => HoleI ok'' D ((innS (lb[x]?.getD 0) la (outS la lb x).2 ((x : Int) * 2) i).2.2.2.map .int) h) (fun ok'' i h h' _ x t => x.tm t aD₈) (fun ok'' _ hal => H₈.okTo fun a o x e => hal a x (by rw [e]; exact fun y => nomatch y))
      ?_ ?_)
    · exact Ev.callT (T := "range") (ds := [.int (((S la).length : Nat) : Int)]) (by walk_at "fn") (by walk_at "args") call_range1
    · intro ok'' hsub'' hal'' i y s₉ hy f₉ K₉
      obtain ⟨hi, rfl⟩ := range_at hy
      rw [hSa] at hi
      have hX₉ := hX₅.withOk hsub''
      have hay : la[y]?.getD 0 = la[y] := getD_of hi
      generalize hq : innS (lb[x]?.getD 0) la (outS la lb x).2 ((x : Int) * 2) y = q at f₉ K₉
      have hC₉ := f₉.cx hX₉
      have hql : q.2.2.2.length = la.length := by rw [← hq, innS_row, outS_row]
      refine FS.seq (FS.setM f₉ (d := .int (q.1 + cost (lb[x]?.getD 0) (la[y]?.getD 0))) ?_ (.inl rfl) fun s₁₀ f₁₀ m₁₀ => ?_)
      · rw [hbx, hay]
        refine Ev.binop (by walk_at "ev") (Ev.callF (a := af) (ds := [.str (ch lb[x]), .str (ch la[y])]) (Ev.global hC₉ rfl hsubn) (hsub.kp f₉.F.keeps).fn ?_ (sub_ok hC₉ (G.kp f₉.F.keeps) K (hsub.kp f₉.F.keeps) (hlow _ (by simp)) (hlow _ (by simp)))) bin_add
        refine EvL.cons (by walk_at "ev") (EvL.cons (Ev.itemS (by walk_at "ev") (by walk_at "ev") (by omega) (by omega) (S_at hi)) EvL.nil)
      have K₁₀ := K₉.mv m₁₀ trivial fun _ _ => trivial
      have hC₁₀ := f₁₀.cx hX₉
      refine FS.seq (FS.setM f₁₀ (d := .int (q.2.2.2[y]?.getD 0)) (Ev.itemH (k := (y : Nat)) (Ev.nameV hC₁₀ rfl) K₁₀ (by walk_at "ev") (by omega) (by omega) ?_) (.inl rfl) fun s₁₁ f₁₁ m₁₁ => ?_)
      · have : y < q.2.2.2.length := by omega
        simp [this]
      have hC₁₁ := f₁₁.cx hX₉
      refine FS.seq (FS.setM f₁₁ (d := .int ((if q.2.2.2[y]?.getD 0 < q.2.1 then q.2.2.2[y]?.getD 0 else q.2.1) + 2)) (by walk_at "ev") (.inl rfl) fun s₁₂ f₁₂ m₁₂ => ?_)
      have hC₁₂ := f₁₂.cx hX₉
      refine FS.seq (FS.setM f₁₂ (d := .int (innS (lb[x]?.getD 0) la (outS la lb x).2 ((x : Int) * 2) (y + 1)).2.1) ?_ (.inl rfl) fun s₁₃ f₁₃ m₁₃ => ?_)
      · unfold innS; rw [hq]; walk_at "ev"
      have K₁₃ := K₁₀.mv (m₁₁.trans (m₁₂.trans m₁₃)) trivial fun _ _ => trivial
      have hC₁₃ := f₁₃.cx hX₉
      refine FS.seq (FS.setItem hX₉ f₁₃ (i := y) (ds := q.2.2.2.map .int) (d := .int (innS (lb[x]?.getD 0) la (outS la lb x).2 ((x : Int) * 2) (y + 1)).2.1) rfl (fun h => h.2 rfl) hD0 K₁₃ (by rw [List.length_map]; omega) (by omega) (by walk_at "ev") (by walk_at "ev") fun s₁₄ f₁₄ K₁₄ => ?_)
      have hC₁₄ := f₁₄.cx hX₉
      have e4 : (innS (lb[x]?.getD 0) la (outS la lb x).2 ((x : Int) * 2) (y + 1)).2.2.2 = q.2.2.2.set y (innS (lb[x]?.getD 0) la (outS la lb x).2 ((x : Int) * 2) (y + 1)).2.1 := by simp only [innS, hq]
      have e1 : (innS (lb[x]?.getD 0) la (outS la lb x).2 ((x : Int) * 2) (y + 1)).1 = q.2.2.2[y]?.getD 0 := by simp only [innS, hq]
      have e3 : (innS (lb[x]?.getD 0) la (outS la lb x).2 ((x : Int) * 2) (y + 1)).2.2.1 = if (innS (lb[x]?.getD 0) la (outS la lb x).2 ((x : Int) * 2) (y + 1)).2.1 < q.2.2.1 then (innS (lb[x]?.getD 0) la (outS la lb x).2 ((x : Int) * 2) (y + 1)).2.1 else q.2.2.1 := by simp only [innS, hq]
      rw [← List.map_set, ← e4] at K₁₄
      rw [e1, e3]
      generalize (innS (lb[x]?.getD 0) la (outS la lb x).2 ((x : Int) * 2) (y + 1)) = q' at *
      refine FS.seq (FS.iff f₁₄ (b := decide (q'.2.1 < q.2.2.1)) (by walk_at "ts") (fun hb s₁₅ f₁₅ k₁₅ => ?_) fun hb s₁₅ f₁₅ k₁₅ => ?_)
      · have hC₁₅ := f₁₅.cx hX₉
        refine FS.seq (FS.setM f₁₅ (d := .int q'.2.1) (by walk_at "ev") (.inl rfl) fun s₁₆ f₁₆ m₁₆ => wpAny_execs_nil (wpAny_execs_nil ⟨f₁₆.sub ?_, (K₁₄.kp k₁₅).mv m₁₆ trivial fun _ _ => trivial⟩))
        rw [if_pos (of_decide_eq_true hb)]
        exact (sub_cons rfl (sub_cons rfl (sub_cons rfl (sub_cons rfl (sub_cons rfl (sub_cons rfl (sub_cons rfl (sub_cons rfl sub_nil))))))))
      · refine wpAny_execs_nil (wpAny_execs_nil ⟨f₁₅.sub ?_, K₁₄.kp k₁₅⟩)
        rw [if_neg (of_decide_eq_false hb)]
        exact (sub_cons rfl (sub_cons rfl (sub_cons rfl (sub_cons rfl (sub_cons rfl (sub_cons rfl (sub_cons rfl (sub_cons rfl sub_nil))))))))
    · intro ok'' s₉ hsub'' f₉ K₉
      have hC₉ := f₉.cx hX₅
      have K₉' : HoleI ok' D ((outS la lb (x + 1)).2.map .int) s₉.heap := by
        have := K₉.okTo (ok' := ok') fun a o z _ => hsub'' a z
        rw [List.length_range, hSa] at this
        exact this
      rw [List.length_range, hSa] at f₉ hC₉
      have hmn : (innS (lb[x]?.getD 0) la (outS la lb x).2 ((x : Int) * 2) la.length).2.2.1 = minS la lb x := rfl
      rw [hmn] at f₉ hC₉
      refine FS.seq (FS.iff f₉ (b := decide (M < minS la lb x)) (by walk_at "ts") (fun hb s₁₀ f₁₀ k₁₀ => ?_) fun hb s₁₀ f₁₀ k₁₀ => ?_)
      · have hC₁₀ := f₁₀.cx hX₅
        refine FS.seq (FS.retD f₁₀ (d := .int (M + 1)) (by walk_at "ev") fun v s' k' h => ⟨Kp.trans f₁₀.F.keeps k', ?_⟩)
        have : (List.range lb.length).any (fun j => decide (M < minS la lb j)) = true := List.any_eq_true.mpr ⟨x, List.mem_range.mpr hj, hb⟩
        unfold dp; rw [this, if_pos rfl]
        exact Rd_int.mpr (Rd_int.mp h)
      · refine wpAny_execs_nil (wpAny_execs_nil ⟨f₁₀.sub ?_, K₉'.kp k₁₀, fun j' hj' => ?_⟩)
        · exact (sub_cons rfl (sub_cons rfl (sub_cons rfl (sub_cons rfl (sub_cons rfl sub_nil)))))
        · by_cases e : j' = x
          · subst e; exact of_decide_eq_false hb
          · exact K₅.2 j' (by omega)
  · intro ok' s₅ _ f₅ K₅
    have hC₅ := f₅.cx hX₃
    rw [List.length_range, hSb] at f₅ K₅ hC₅
    refine FS.seq (FS.retD f₅ (d := .int (outS la lb lb.length).1) (by walk_at "ev") fun v s' k' h => ⟨Kp.trans f₅.F.keeps k', ?_⟩)
    have : (List.range lb.length).any (fun j => decide (M < minS la lb j)) = false := by
      rw [List.any_eq_false]
      intro j hj
      simpa using K₅.2 j (List.mem_range.mp hj)
    unfold dp; rw [this, if_neg Bool.false_ne_true]
    exact Rd_int.mpr (Rd_int.mp h)

theorem orNone {C : Cx} {x : Expr} {p p' : Pos} {k' : Nat} {j : Nat} (h : EvD C x (.int (-(j : Int)))) : Part C (some (.BoolOp .Or [x, .Constant .none k' p'] p)) (if j = 0 then none else some (-(j : Int))) := by
  by_cases hj : j = 0
  · rw [if_pos hj]
    refine .non (Ev.or (b := false) h ?_ (fun s s' v k hv => hv.kp k) (fun e => nomatch e) fun _ => Ev.cNone)
    have := truth_int (C := C) (a := -(j : Int))
    rwa [show ((-(j : Int)) != 0) = false from by subst hj; rfl] at this
  · rw [if_neg hj]
    refine .int (Ev.or (b := true) h ?_ (fun s s' v k hv => hv.kp k) (fun _ h v hv => hv) fun e => nomatch e)
    have := truth_int (C := C) (a := -(j : Int))
    rwa [show ((-(j : Int)) != 0) = true from by simp; omega] at this

theorem dec_drop (n i : Nat) : decide (n - i ≠ 0) = decide (i < n) := decide_eq_decide.mpr (by omega)
theorem dec_take (n i : Nat) : decide (min (n - i) n ≠ 0) = decide (i < n) := decide_eq_decide.mpr (by omega)
theorem lev_ok {C : Cx} (hC : C.Ok) (G : Gl C.prog C.mg C.mb (k + 2) C.A C.s) (B : Bis C.mg C.mb) (K : Consts C.mg) {a af : Addr} {pm cd doc pm' cd' doc' : Value} (hf : FnIs C.s.heap a (fnAt 6 pm cd doc)) (hsubn : C.mg "_substitution_cost" = some (.ref af)) (hsub : FnIs C.s.heap af (fnAt 5 pm' cd' doc'))
    {la lb : List Nat} {M : Int} (hla : la.length ≤ 40) (hlb : lb.length ≤ 40) (hlow : ∀ c ∈ la ++ lb, Builtin.Str.tooLong (Txt.lower (ch c)).length = false) :
    CallD C (.ref a) [.str (S la), .str (S lb), .int M] (.int (lev la lb M)) := by
  refine CallOk.def hC G hf (names := ["a", "b", "max_cost"]) (body := bodyAt 6) (defIs_of (by kernel_rfl)) rfl rfl rfl rfl (fun vs h => by obtain ⟨a, b, c, rfl⟩ := three_list h; rfl) fun s s₁ k₀ hX G' f => ?_
  obtain ⟨tm, hmv⟩ := K.move
  obtain ⟨tz, hmz⟩ := K.size
  have hSa : (S la).length = la.length := S_len la
  have hSb : (S lb).length = lb.length := S_len lb
  have f := f.sub (ρ' := [("a", .dat (.str (S la))), ("b", .dat (.str (S lb))), ("max_cost", .dat (.int M))]) (sub_cons rfl (sub_cons rfl (sub_cons rfl sub_nil)))
  have hC' := f.cx hX
  refine FS.seq (FS.iff f (b := S la == S lb) (by walk_at "ts") (fun hb s₂ f₂ _ => ?_) fun hb s₂ f₂ _ => ?_)
  · have hC₂ := f₂.cx hX
    refine FS.seq (FS.retD f₂ (d := .int 0) (by walk_at "ev") fun v s' k' h => ⟨Kp.trans f₂.F.keeps k', ?_⟩)
    unfold lev; rw [S_beq] at hb; rw [if_pos (of_decide_eq_true hb)]; exact h
  have hne : la ≠ lb := by rw [S_beq] at hb; exact of_decide_eq_false hb
  have hlev : lev la lb M = lev1 (la.drop (cpl la lb)) (lb.drop (cpl la lb)) M := by unfold lev; rw [if_neg hne]
  rw [hlev]
  have hC₂ := f₂.cx hX
  refine wpAny_execs_nil (FS.seq (FS.setM f₂ (d := .int 0) (by walk_at "ev") (.inl rfl) fun s₃ f₃ _ => ?_))
  obtain ⟨hp1, hp2⟩ := cpl_le la lb
  refine FS.seq (FS.whileL f₃ (cpl la lb) (fun i => [("pre", .dat (.int (i : Nat))), ("a", .dat (.str (S la))), ("b", .dat (.str (S lb))), ("max_cost", .dat (.int M))]) (sub_cons rfl (sub_cons rfl (sub_cons rfl (sub_cons rfl sub_nil)))) (fun _ _ => True) (fun _ _ _ _ _ => trivial) trivial (fun i s₄ hi f₄ _ => ?_) (fun i s₄ hi f₄ _ => ?_) fun s₄ f₄ _ => ?_)
  · have hC₄ := f₄.cx hX
    refine Ts.cast (Ts.ops (TsA.and (b := decide (i < la.length)) (Ts.val (Ev.sliceS (x := S la) (plo := some (i : Int)) (phi := none) (by walk_at "ev") (.int (by walk_at "ev")) .no (by omega)) ?_) fun h1 => TsA.and (b := decide (i < lb.length)) (Ts.val (Ev.sliceS (x := S lb) (plo := some (i : Int)) (phi := none) (by walk_at "ev") (.int (by walk_at "ev")) .no (by omega)) ?_) fun h2 => TsA.and (b := decide (i < cpl la lb)) (Ts.cast (Ts.cmp (Ev.itemS (by walk_at "ev") (by walk_at "ev") (by omega) (by omega) (S_at (of_decide_eq_true h1))) (Ev.itemS (by walk_at "ev") (by walk_at "ev") (by omega) (by omega) (S_at (of_decide_eq_true h2))) cmp_eqS) ?_) fun _ => TsA.and0)) ?_
    · rw [slice_from (by omega)]
      have := truth_str (C := (fxOf C.prog C.w C.A (fnAt 6 pm cd doc) a C.ok (fun _ => True) s C.mg C.mb).cx s₄ [("pre", .dat (.int (i : Nat))), ("a", .dat (.str (S la))), ("b", .dat (.str (S lb))), ("max_cost", .dat (.int M))]) (x := S (la.drop i)) (by rw [S_len, List.length_drop]; omega)
      rwa [show decide ((S (la.drop i)).length ≠ 0) = decide (i < la.length) from by rw [S_len, List.length_drop]; exact dec_drop _ _] at this
    · rw [slice_from (by omega)]
      have := truth_str (C := (fxOf C.prog C.w C.A (fnAt 6 pm cd doc) a C.ok (fun _ => True) s C.mg C.mb).cx s₄ [("pre", .dat (.int (i : Nat))), ("a", .dat (.str (S la))), ("b", .dat (.str (S lb))), ("max_cost", .dat (.int M))]) (x := S (lb.drop i)) (by rw [S_len, List.length_drop]; omega)
      rwa [show decide ((S (lb.drop i)).length ≠ 0) = decide (i < lb.length) from by rw [S_len, List.length_drop]; exact dec_drop _ _] at this
    · have e1 := of_decide_eq_true h1
      have e2 := of_decide_eq_true h2
      show (ch la[i] == ch lb[i]) = _
      by_cases hlt : i < cpl la lb
      · rw [cpl_eq la lb i hlt e1 e2, decide_eq_true hlt]; exact beq_self_eq_true _
      · have : i = cpl la lb := by omega
        subst this
        rw [decide_eq_false (Nat.lt_irrefl _)]
        refine beq_eq_false_iff_ne.mpr fun e => cpl_ne la lb e1 e2 ?_
        simpa [ch] using e
    · by_cases hlt : i < cpl la lb
      · rw [decide_eq_true hlt, decide_eq_true (show i < la.length by omega), decide_eq_true (show i < lb.length by omega)]; rfl
      · rw [decide_eq_false hlt]; simp
  · have hC₄ := f₄.cx hX
    refine FS.seq (FS.aug hX f₄ (a := (i : Nat)) (b := 1) (c := ((i + 1 : Nat) : Int)) (.inl ⟨rfl, by push_cast; rfl⟩) rfl (by walk_at "ev") (.inl rfl) fun s₅ f₅ => wpAny_execs_nil ⟨f₅.sub ?_, trivial⟩)
    exact (sub_cons rfl (sub_cons rfl (sub_cons rfl (sub_cons rfl sub_nil))))
  generalize cpl la lb = n at *
  have hC₄ := f₄.cx hX
  have hla' : (la.drop n).length ≤ 40 := by rw [List.length_drop]; omega
  have hlb' : (lb.drop n).length ≤ 40 := by rw [List.length_drop]; omega
  have hlow' : ∀ c ∈ la.drop n ++ lb.drop n, Builtin.Str.tooLong (Txt.lower (ch c)).length = false := fun c hc => hlow c (by
    rcases List.mem_append.mp hc with h | h
    · exact List.mem_append_left _ (List.mem_of_mem_drop h)
    · exact List.mem_append_right _ (List.mem_of_mem_drop h))
  refine FS.seq (FS.setM f₄ (d := .str (S (la.drop n))) (Ev.cast (Ev.sliceS (x := S la) (plo := some (n : Int)) (phi := none) (by walk_at "ev") (.int (by walk_at "ev")) .no (by omega)) (by rw [slice_from hp1])) (.inl rfl) fun s₅ f₅ _ => ?_)
  have hC₅ := f₅.cx hX
  refine FS.seq (FS.setM f₅ (d := .str (S (lb.drop n))) (Ev.cast (Ev.sliceS (x := S lb) (plo := some (n : Int)) (phi := none) (by walk_at "ev") (.int (by walk_at "ev")) .no (by omega)) (by rw [slice_from hp2])) (.inl rfl) fun s₆ f₆ _ => ?_)
  have hC₆ := f₆.cx hX
  generalize la.drop n = la at *
  generalize lb.drop n = lb at *
  have hSa : (S la).length = la.length := S_len la
  have hSb : (S lb).length = lb.length := S_len lb
  refine FS.seq (FS.setM f₆ (d := .int 0) (by walk_at "ev") (.inl rfl) fun s₇ f₇ _ => ?_)
  obtain ⟨hm1, hm2⟩ := cpl_le la.reverse lb.reverse
  rw [List.length_reverse] at hm1 hm2
  refine FS.seq (FS.whileL f₇ (cpl la.reverse lb.reverse) (fun i => [("post", .dat (.int (-(i : Int)))), ("a", .dat (.str (S la))), ("b", .dat (.str (S lb))), ("max_cost", .dat (.int M))]) (sub_cons rfl (sub_cons rfl (sub_cons rfl (sub_cons rfl sub_nil)))) (fun _ _ => True) (fun _ _ _ _ _ => trivial) trivial (fun i s₈ hi f₈ _ => ?_) (fun i s₈ hi f₈ _ => ?_) fun s₈ f₈ _ => ?_)
  · have hC₈ := f₈.cx hX
    refine Ts.cast (Ts.ops (TsA.and (b := decide (i < la.length)) (Ts.val (Ev.sliceS (x := S la) (plo := none) (phi := if i = 0 then none else some (-(i : Int))) (by walk_at "ev") .no (orNone (by walk_at "ev")) (by omega)) ?_) fun h1 => TsA.and (b := decide (i < lb.length)) (Ts.val (Ev.sliceS (x := S lb) (plo := none) (phi := if i = 0 then none else some (-(i : Int))) (by walk_at "ev") .no (orNone (by walk_at "ev")) (by omega)) ?_) fun h2 => TsA.and (b := decide (i < cpl la.reverse lb.reverse)) (Ts.cast (Ts.cmp (Ev.itemS (i := -(i : Int) - 1) (by walk_at "ev") (by walk_at "ev") (by omega) (by omega) (S_atNeg1 (of_decide_eq_true h1))) (Ev.itemS (i := -(i : Int) - 1) (by walk_at "ev") (by walk_at "ev") (by omega) (by omega) (S_atNeg1 (of_decide_eq_true h2))) cmp_eqS) ?_) fun _ => TsA.and0)) ?_
    · rw [slice_neg (by omega)]
      have := truth_str (C := (fxOf C.prog C.w C.A (fnAt 6 pm cd doc) a C.ok (fun _ => True) s C.mg C.mb).cx s₈ [("post", .dat (.int (-(i : Int)))), ("a", .dat (.str (S la))), ("b", .dat (.str (S lb))), ("max_cost", .dat (.int M))]) (x := S (la.take (la.length - i))) (by rw [S_len, List.length_take]; omega)
      rwa [show decide ((S (la.take (la.length - i))).length ≠ 0) = decide (i < la.length) from by rw [S_len, List.length_take]; exact dec_take _ _] at this
    · rw [slice_neg (by omega)]
      have := truth_str (C := (fxOf C.prog C.w C.A (fnAt 6 pm cd doc) a C.ok (fun _ => True) s C.mg C.mb).cx s₈ [("post", .dat (.int (-(i : Int)))), ("a", .dat (.str (S la))), ("b", .dat (.str (S lb))), ("max_cost", .dat (.int M))]) (x := S (lb.take (lb.length - i))) (by rw [S_len, List.length_take]; omega)
      rwa [show decide ((S (lb.take (lb.length - i))).length ≠ 0) = decide (i < lb.length) from by rw [S_len, List.length_take]; exact dec_take _ _] at this
    · have e1 : i < la.reverse.length := by rw [List.length_reverse]; exact of_decide_eq_true h1
      have e2 : i < lb.reverse.length := by rw [List.length_reverse]; exact of_decide_eq_true h2
      show (ch la.reverse[i] == ch lb.reverse[i]) = _
      by_cases hlt : i < cpl la.reverse lb.reverse
      · rw [cpl_eq la.reverse lb.reverse i hlt e1 e2, decide_eq_true hlt]; exact beq_self_eq_true _
      · have : i = cpl la.reverse lb.reverse := by omega
        subst this
        rw [decide_eq_false (Nat.lt_irrefl _)]
        refine beq_eq_false_iff_ne.mpr fun e => cpl_ne la.reverse lb.reverse e1 e2 ?_
        simpa [ch] using e
    · by_cases hlt : i < cpl la.reverse lb.reverse
      · rw [decide_eq_true hlt, decide_eq_true (show i < la.length by omega), decide_eq_true (show i < lb.length by omega)]; rfl
      · rw [decide_eq_false hlt]; simp
  · have hC₈ := f₈.cx hX
    refine FS.seq (FS.aug hX f₈ (a := -(i : Int)) (b := 1) (c := -((i + 1 : Nat) : Int)) (.inr ⟨rfl, by push_cast; omega⟩) rfl (by walk_at "ev") (.inl rfl) fun s₉ f₉ => wpAny_execs_nil ⟨f₉.sub ?_, trivial⟩)
    exact (sub_cons rfl (sub_cons rfl (sub_cons rfl (sub_cons rfl sub_nil))))
  have hC₈ := f₈.cx hX
  have hlev1 : lev1 la lb M = lev2 (cut (cpl la.reverse lb.reverse) la) (cut (cpl la.reverse lb.reverse) lb) M := rfl
  rw [hlev1]
  generalize cpl la.reverse lb.reverse = m at *
  refine FS.seq (FS.setM f₈ (d := .str (S (cut m la))) (Ev.cast (Ev.sliceS (x := S la) (plo := none) (phi := if m = 0 then none else some (-(m : Int))) (by walk_at "ev") .no (orNone (by walk_at "ev")) (by omega)) (by rw [slice_neg hm1]; rfl)) (.inl rfl) fun s₉ f₉ _ => ?_)
  have hC₉ := f₉.cx hX
  refine FS.seq (FS.setM f₉ (d := .str (S (cut m lb))) (Ev.cast (Ev.sliceS (x := S lb) (plo := none) (phi := if m = 0 then none else some (-(m : Int))) (by walk_at "ev") .no (orNone (by walk_at "ev")) (by omega)) (by rw [slice_neg hm2]; rfl)) (.inl rfl) fun s₁₀ f₁₀ _ => ?_)
  have hC₁₀ := f₁₀.cx hX
  have hla2 : (cut m la).length ≤ 40 := by rw [cut_len]; omega
  have hlb2 : (cut m lb).length ≤ 40 := by rw [cut_len]; omega
  have hlow2 : ∀ c ∈ cut m la ++ cut m lb, Builtin.Str.tooLong (Txt.lower (ch c)).length = false := fun c hc => hlow' c (by
    rcases List.mem_append.mp hc with h | h
    · exact List.mem_append_left _ (List.mem_of_mem_take h)
    · exact List.mem_append_right _ (List.mem_of_mem_take h))
  generalize cut m la = la at *
  generalize cut m lb = lb at *
  have hSa : (S la).length = la.length := S_len la
  have hSb : (S lb).length = lb.length := S_len lb
  have hSa' : (S la).length ≤ 1000000 := by omega
  have hSb' : (S lb).length ≤ 1000000 := by omega
  refine FS.seq (FS.iff f₁₀ (b := !decide ((S la).length ≠ 0) || (!decide ((S lb).length ≠ 0) || false)) (Ts.ops (TsA.or (Ts.not (Ts.val (by walk_at "ev") (truth_str (by omega)))) fun _ => TsA.or (Ts.not (Ts.val (by walk_at "ev") (truth_str (by omega)))) fun _ => TsA.or0)) (fun hb s₁₁ f₁₁ _ => ?_) fun hb s₁₁ f₁₁ _ => ?_)
  · have hC₁₁ := f₁₁.cx hX
    refine FS.seq (FS.retD f₁₁ (d := .int (2 * (((S la).length : Int) + (S lb).length))) (by walk_at "ev") fun v s' k' h => ⟨Kp.trans f₁₁.F.keeps k', ?_⟩)
    have : la.length = 0 ∨ lb.length = 0 := by rw [hSa, hSb] at hb; simp at hb; rcases hb with h | h <;> simp [h]
    unfold lev2; rw [if_pos this]; rw [hSa, hSb] at h; exact h
  have hpos : ¬ (la.length = 0 ∨ lb.length = 0) := by
    rw [hSa, hSb] at hb
    simp at hb
    rintro (h | h)
    · exact hb.1 (List.length_eq_zero_iff.mp h)
    · exact hb.2 (List.length_eq_zero_iff.mp h)
  have hC₁₁ := f₁₁.cx hX
  refine wpAny_execs_nil (FS.seq (FS.iff f₁₁ (b := decide ((40 : Int) < (S la).length) || (decide ((40 : Int) < (S lb).length) || false)) (Ts.ops (TsA.or (by walk_at "ts") fun _ => TsA.or (by walk_at "ts") fun _ => TsA.or0)) (fun hb s₁₂ f₁₂ _ => ?_) fun hb s₁₂ f₁₂ _ => ?_))
  · rw [hSa, hSb, decide_eq_false (by omega), decide_eq_false (by omega)] at hb; cases hb
  have hC₁₂ := f₁₂.cx hX
  have G₁ : Gl C.prog C.mg C.mb (k + 1) (levX C.prog C.w C.A a pm cd doc C.ok s C.mg C.mb).A s := (G.kp k₀).deeper _
  refine wpAny_execs_nil (FS.seq (FS.iff f₁₂ (b := decide (((S lb).length : Int) < (S la).length)) (by walk_at "ts") (fun hb s₁₃ f₁₃ _ => ?_) fun hb s₁₃ f₁₃ _ => ?_))
  · have hC₁₃ := f₁₃.cx hX
    refine FS.seq (FS.swap2 hX f₁₃ (d := .str (S lb)) (e := .str (S la)) (by walk_at "ev") (.inl rfl) (.inl rfl) fun s₁₄ f₁₄ => wpAny_execs_nil ?_)
    have hlt : lb.length < la.length := by have := of_decide_eq_true hb; omega
    have e : lev2 la lb M = lev3 lb la M := by unfold lev2; rw [if_neg hpos, if_pos hlt]
    rw [e]
    exact lev_tail hX G₁ B K hsubn (hsub.kp k₀) (Nat.le_of_lt hlt) hla2 (fun c hc => hlow2 c (by rcases List.mem_append.mp hc with h | h; exact List.mem_append_right _ h; exact List.mem_append_left _ h)) f₁₄ rfl rfl rfl
  · have hlt : ¬ lb.length < la.length := by have := of_decide_eq_false hb; omega
    have e : lev2 la lb M = lev3 la lb M := by unfold lev2; rw [if_neg hpos, if_neg hlt]
    rw [e]
    exact wpAny_execs_nil (lev_tail hX G₁ B K hsubn (hsub.kp k₀) (by omega) hlb2 hlow2 f₁₃ rfl rfl rfl)
end
theorem SetItT.keep {w : World} {h h' : Heap} {it a T : Addr} {ord : List Value} {i : Nat} (x : SetItT w h it a T ord i) (k : ∀ b ∈ [it, a, T], ∀ o, h.get? b = some o → h'.get? b = some o) : SetItT w h' it a T ord i := by
  obtain ⟨o, es, ep, t, h1, h2, h3, h4, hc, oT, h5, h6⟩ := x
  refine ⟨o, es, ep, t, k a (by simp) o h1, h2, h3, h4, ?_, oT, k T (by simp) _ h5, h6⟩
  rcases hc with ⟨a1, a2, a3⟩ | ⟨a1, ps, a2, a3, a4⟩ | ⟨a1, a2, a3⟩
  · exact .inl ⟨a1, k it (by simp) _ a2, a3⟩
  · exact .inr (.inl ⟨a1, ps, k it (by simp) _ a2, k T (by simp) _ a3, a4⟩)
  · exact .inr (.inr ⟨a1, k it (by simp) _ a2, a3⟩)
theorem SetItT.plain {w : World} {h : Heap} {it a T : Addr} {ord : List Value} {i : Nat} (x : SetItT w h it a T ord i) : ∀ b ∈ [it, a, T], ∃ o, h.get? b = some o ∧ NotFrame o := by
  intro b hb
  obtain ⟨f, n, ep', hit⟩ := setIt_obj x
  obtain ⟨o, es, ep, t, h1, h2, h3, h4, hc, oT, h5, h6⟩ := x
  have : b = it ∨ b = a ∨ b = T := by simpa using hb
  rcases this with rfl | rfl | rfl
  · exact ⟨_, hit, nf_fields rfl⟩
  · exact ⟨o, h1, nf_set h2⟩
  · exact ⟨oT, h5, h6⟩

/-- a walk through a set of texts, in whatever order; a turn leaves, or shows T of its text and changes nothing that the rest asks -/
theorem FS.forSet {X : Fx} (hX : X.Gd) {hB : Heap} {ρ : List (Str × Sp)} {s : Shared} (f : FS X hB ρ s) {x : Str} {px : Pos} {iter : Expr} {body : List Stmt} {pos : Pos} {a : Addr} {S : Str → Bool} {n : Nat} {Q : Flow → Shared → Prop}
    (hiter : EvV (X.cx s ρ) iter (.ref a)) (hS : SetS X.prog X.w s.heap a S n) (hn : n ≠ 1) (hown : Own X.N X.env x) (okA : ∀ b, s.heap.get? b ≠ none → X.ok b)
    (ρ' : List (Str × Sp)) (h0 : ∀ x sp, ρ'.lookup x = some sp → ρ.lookup x = some sp) (K : Heap → Prop) (hK : ∀ (ok' : Addr → Prop) h h', K h → Tm X.env s ok' h h' → K h') (hK0 : K s.heap) (T : Str → Prop)
    (hbody : ∀ (ok' : Addr → Prop), (∀ a, ok' a → X.ok a) → (∀ a, X.ok a → s.heap.get? a ≠ none → ok' a) → ∀ k s', S k = true → FS (X.withOk ok') s'.heap ((x, .dat (.str k)) :: ρ') s' → K s'.heap →
      wpAny X.m X.A (execs body X.env) (fun fl s'' => match fl with
        | .next => FS (X.withOk ok') s'.heap ρ' s'' ∧ K s''.heap ∧ T k
        | .cont => FS (X.withOk ok') s'.heap ρ' s'' ∧ K s''.heap ∧ T k
        | .brk => Q .next s''
        | .ret v => Q (.ret v) s'') (fun _ _ => False) s')
    (hend : ∀ (ok' : Addr → Prop) s', (∀ a, ok' a → X.ok a) → (∀ k, S k = true → T k) → FS X hB ρ' s' → K s'.heap → Q .next s')
    (hset : ∀ x, foldedSetIterable iter X.env x = pure x := by intro _; rfl) :
    wpAny X.m X.A (exec (.For (.Name x px) iter body [] pos) X.env) Q (fun _ _ => False) s := by
  refine wpAny_For (wpAny_mono (hiter s (Kp.refl _)) (fun v s₁ ⟨k₁, hv⟩ => ?_) fun _ _ y => y) hset
  subst hv
  refine iter_set (hS.at (Kp.get k₁ _)) hn fun it h₂ dr ord hI hk2 hit0 hmem hstr => ?_
  obtain ⟨Ti, hTi, st0⟩ := setIt_T hI
  have k₂ : Keeps s₁ { s₁ with heap := h₂, drawn := dr } := ⟨hk2, rfl, rfl⟩
  generalize hs2 : ({ s₁ with heap := h₂, drawn := dr } : Shared) = s₂ at k₂
  have hst0 : SetItT X.w s₂.heap it a Ti ord 0 := by rw [← hs2]; exact st0
  have k02 : Keeps s s₂ := Kp.trans k₁ k₂
  have hit0 : s.heap.get? it = none := Kp.none k₁ hit0
  let ok' : Addr → Prop := fun b => X.ok b ∧ b ≠ it
  have hsub : ∀ b, ok' b → X.ok b := fun b x => x.1
  have halive : ∀ b, X.ok b → s.heap.get? b ≠ none → ok' b := fun b x y => ⟨x, fun e => y (e ▸ hit0)⟩
  have hX' := hX.withOk hsub
  have live2 : ∀ b ∈ [it, a, Ti], ∃ o, s₂.heap.get? b = some o ∧ NotFrame o := hst0.plain
  have hw0 : ∀ b ∈ [it], s.heap.get? b = none := fun b hb => by
    have : b = it := by simpa using hb
    subst this; exact hit0
  have f2 : FS (X.withOk ok') s₂.heap ρ' s₂ := by
    have F := ((f.F.sub h0).okTo (ok' := ok') fun b o x e => halive b x (by rw [e]; exact fun y => nomatch y)).kp k02
    refine ⟨F, fun b e => ⟨f.ok b (Kp.none k02 e), fun hm => ?_⟩, .refl _ _⟩
    subst hm
    obtain ⟨o, e', _⟩ := live2 b (by simp)
    rw [e'] at e; cases e
  have tm02 : Tm X.env s ok' s.heap s₂.heap := .of_keep (Kp.get k02)
  have nowr : ∀ b o, X.kp b → hB.get? b = some o → (∀ es n, o.data ≠ .dict es n) → (∀ v, o.data ≠ .cell v) → b ∉ [it] := fun b o k e d c hm => by
    have := f.mv b o k e d c
    rw [hw0 b hm] at this; cases this
  have okfp : ∀ b ∈ [it, a, Ti], X.ok b := fun b hb => by
    cases e : s.heap.get? b with
    | none => exact f.ok b e
    | some o => exact okA b (by rw [e]; exact fun y => nomatch y)
  refine codeAny_forLoop_any (fun k s' => ∃ i, i ≤ ord.length ∧ k = ord.length + 1 - i ∧ FS (X.withOk ok') s'.heap ρ' s' ∧ Mv ok' s₂.heap s'.heap ∧ Mv X.kp hB s'.heap ∧ K s'.heap ∧ SetItT X.w s'.heap it a Ti ord i ∧ ∀ k t, (Value.str k t) ∈ ord.take i → T k) (fun k s' hy => ?_) (ord.length + 1) ⟨0, Nat.zero_le _, rfl, f2.base, .refl _ _, f.mv.trans (.of_keep (Kp.get k02)), hK ok' _ _ hK0 tm02, hst0, fun k t h => by simp at h⟩
  obtain ⟨i, hi, rfl, g, m2, mB, hk, st, hT⟩ := hy
  -- a step of the source: only it changes
  have step : ∀ (h' : Heap) (tk : Nat) (dr' : Drawn), (∀ b o, b ∉ [it] → s'.heap.get? b = some o → h'.get? b = some o) → Fst X.s₀ X.N X.env ok' ρ' { s' with heap := h', toks := tk } ∧ (∀ a, a ∉ [it] → h'.get? a = none → ok' a) ∧ Mv ok' s₂.heap h' ∧ Mv X.kp hB h' ∧ K h' := fun h' tk _ hh => by
    refine ⟨g.F.but [it] (fun b hb => Kp.none f.F.keeps (hw0 b hb)) (fun b hb x => x.2 (by simpa using hb)) (fun b hb o e => ?_) (tk := tk) hh, fun a ha e => g.ok a ?_, m2.trans (mv_but (fun b hb x => x.2 (by simpa using hb)) hh), fun b o kb e d c => hh b o (nowr b o kb e d c) (mB b o kb e d c), hK ok' _ _ hk ⟨fun b o hb e d c => hh b o (fun hm => hb.elim (fun y => y (hw0 b hm)) fun y => y.2 (by simpa using hm)) e, fun b o hb n e => hh b o (fun hm => hb.elim (fun y => y (hw0 b hm)) fun y => y.2 (by simpa using hm)) e⟩⟩
    · have : b = it := by simpa using hb
      subst this
      obtain ⟨o', e', nf⟩ := st.plain b (by simp)
      rw [e] at e'; cases e'; exact nf
    · cases e' : s'.heap.get? a with
      | none => rfl
      | some o => rw [hh a o ha e'] at e; cases e
  by_cases hlt : i < ord.length
  · have hx : ord[i]? = some ord[i] := List.getElem?_eq_getElem hlt
    generalize hxe : ord[i] = v at hx
    have hxm : v ∈ ord := List.mem_of_getElem? hx
    obtain ⟨k, tk, rfl⟩ := hstr v hxm
    have hSk : S k = true := (hmem k).mpr ⟨_, hxm, by show Value.isStrOf k (.str k tk) = true; simp [Value.isStrOf]⟩
    refine next_set_item hTi st hx fun h' st' hs' => wpAny_pure ?_
    have hh : ∀ b o, b ∉ [it] → s'.heap.get? b = some o → h'.get? b = some o := fun b o hb e => (hs'.2 b (by simpa using hb)).trans e
    obtain ⟨F3, o3, m3, mB3, hk3⟩ := step h' s'.toks s'.drawn hh
    have f3 : FS (X.withOk ok') h' ρ' { s' with heap := h' } := ⟨F3, fun b e => by
      by_cases ha : b ∈ [it]
      · have : b = it := by simpa using ha
        subst this
        obtain ⟨o, e', _⟩ := st'.plain b (by simp)
        rw [e'] at e; cases e
      · exact o3 b ha e, .refl _ _⟩
    refine f3.assignT hX' (sp := .dat (.str k)) .name (show Rd ok' h' (.str k) (.str k tk) from Rd_str.mpr ⟨_, rfl⟩) (own1 hown) fun s₄ f4 stt => ?_
    have tm : Tm X.env s ok' h' s₄.heap := ⟨stt.mv.of_true, fun b o _ n e => stt.ch b o n e⟩
    have st4 : SetItT X.w s₄.heap it a Ti ord (i + 1) := st'.keep fun b hb o e => by
      obtain ⟨o', e', nf⟩ := st'.plain b hb
      rw [e] at e'; cases e'
      exact stt.mv b o trivial e nf.1 nf.2
    refine wpAny_mono (hbody ok' hsub halive k s₄ hSk f4.base (hK ok' _ _ hk3 tm)) (fun fl s₅ hy => ?_) fun _ _ y => y.elim
    have fin : FS (X.withOk ok') s₄.heap ρ' s₅ → K s₅.heap → T k → ∃ m, m < ord.length + 1 - i ∧ ∃ j, j ≤ ord.length ∧ m = ord.length + 1 - j ∧ FS (X.withOk ok') s₅.heap ρ' s₅ ∧ Mv ok' s₂.heap s₅.heap ∧ Mv X.kp hB s₅.heap ∧ K s₅.heap ∧ SetItT X.w s₅.heap it a Ti ord j ∧ ∀ k t, (Value.str k t) ∈ ord.take j → T k := fun g5 k5 hTk => by
      refine ⟨ord.length + 1 - (i + 1), by omega, i + 1, hlt, rfl, g5.base, ?_, ?_, k5, st4.keep fun b hb o e => ?_, fun k' t' hm => ?_⟩
      · exact (m3.trans stt.mv.of_true).trans fun b o kb e d c => g5.mv b o (hX.okkp b kb.1) e d c
      · exact (mB3.trans stt.mv.of_true).trans g5.mv
      · obtain ⟨o', e', nf⟩ := st4.plain b hb
        rw [e] at e'; cases e'
        exact g5.mv b o (hX.okkp b (okfp b hb)) e nf.1 nf.2
      · rw [List.take_add_one, hx] at hm
        rcases List.mem_append.mp hm with hm | hm
        · exact hT k' t' hm
        · have : Value.str k' t' = Value.str k tk := by simpa using hm
          cases this; exact hTk
    cases fl with
    | next => exact fin hy.1 hy.2.1 hy.2.2
    | cont => exact fin hy.1 hy.2.1 hy.2.2
    | brk => exact hy
    | ret v => exact hy
  · have : i = ord.length := by omega
    subst this
    refine next_set_end hX.hand st fun h' hext => ?_
    have hh : ∀ b o, b ∉ [it] → s'.heap.get? b = some o → h'.get? b = some o := fun b o hb e => hext b o (by simpa using hb) e
    obtain ⟨F3, o3, m3, mB3, hk3⟩ := step h' s'.toks s'.drawn hh
    refine wpAny_execs_nil (hend ok' _ hsub (fun k hk' => ?_) ⟨F3.okTo fun a o x _ => x.1, fun b e => ?_, mB3⟩ hk3)
    · obtain ⟨v, hv, hvk⟩ := (hmem k).mp hk'
      obtain ⟨t, rfl⟩ := Value.isStrOf_shape (show Value.isStrOf k v = true from hvk)
      exact hT k t (by rw [List.take_length]; exact hv)
    · by_cases ha : b ∈ [it]
      · exact okfp b (by simp at ha; simp [ha])
      · exact (o3 b ha e).1
/-! ## _law_mark -/
theorem bin_mul01 {C : Cx} {x : Str} {n : Int} (hn : n = 0 ∨ n = 1) : BinOk C .Mult (.str x) (.int n) (.str (if n = 1 then x else Str.empty)) := fun s v u k hv hu => by
  obtain ⟨t, rfl⟩ := Rd_str.mp hv; obtain ⟨t', rfl⟩ := Rd_int.mp hu
  rcases hn with rfl | rfl
  · refine PySem.P.mul_str (by decide) (fun h => absurd (by decide) h) (fun h => absurd (by decide) h) ?_
    rw [if_pos (by decide)]
    exact ⟨by rw [sizeLine_eq]; decide, Kp.tok _ _, Rd_str.mpr ⟨_, rfl⟩⟩
  · refine PySem.P.mul_str (by decide) (fun _ h => nomatch h) (fun _ h => nomatch h) ?_
    rw [if_neg (by decide), if_pos rfl]
    exact ⟨Kp.refl _, Rd_str.mpr ⟨_, rfl⟩⟩
noncomputable def markOf (k : Nat) (toll ans : Int) : List Nat := if k % 3 = 0 then (if (ans * toll).fdiv 2 = 1 then [97 + k] else []) else if ans * toll = 2 then [103] else if ans * toll = 1 then [65 + k] else [97 + k]
theorem low_at {k : Nat} (hk : k < 6) : (seqIndex? (k : Int) ("abcdef" : Str).length).bind (("abcdef" : Str).cps[·]?) = some (97 + k) := by
  have : k = 0 ∨ k = 1 ∨ k = 2 ∨ k = 3 ∨ k = 4 ∨ k = 5 := by omega
  rcases this with rfl | rfl | rfl | rfl | rfl | rfl <;> decide
theorem upp_at {k : Nat} (hk : k < 6) : (seqIndex? (k : Int) ("ABCDEF" : Str).length).bind (("ABCDEF" : Str).cps[·]?) = some (65 + k) := by
  have : k = 0 ∨ k = 1 ∨ k = 2 ∨ k = 3 ∨ k = 4 ∨ k = 5 := by omega
  rcases this with rfl | rfl | rfl | rfl | rfl | rfl <;> decide
theorem fmod3 (k : Nat) : ((k : Int).fmod 3 == 0) = decide (k % 3 = 0) := by
  rw [Int.fmod_eq_emod_of_nonneg _ (by decide)]
  by_cases h : k % 3 = 0
  · rw [decide_eq_true h]; simp; omega
  · rw [decide_eq_false h]; simp; omega
theorem mark_ok {C : Cx} (hC : C.Ok) {n : Nat} (G : Gl C.prog C.mg C.mb (n + 1) C.A C.s) {a : Addr} {pm cd doc : Value} (hf : FnIs C.s.heap a (fnAt 18 pm cd doc)) {k : Nat} {toll ans : Int} (hk : k < 6) (h0 : 0 ≤ ans * toll) (h2 : ans * toll ≤ 2) (hm : IntMulOk ans toll) :
    CallD C (.ref a) [.int (k : Nat), .int toll, .int ans] (.str (S (markOf k toll ans))) := by
  refine CallOk.def hC G hf (names := ["k", "toll", "answer"]) (body := bodyAt 18) (defIs_of (by kernel_rfl)) rfl rfl rfl rfl (fun vs h => by obtain ⟨a, b, c, rfl⟩ := three_list h; rfl) fun s s₁ k₀ hX G' f => ?_
  have f := f.sub (ρ' := [("k", .dat (.int (k : Nat))), ("toll", .dat (.int toll)), ("answer", .dat (.int ans))]) (sub_cons rfl (sub_cons rfl (sub_cons rfl sub_nil)))
  have hC' := f.cx hX
  refine FS.seq (FS.iff f (b := (k : Int).fmod 3 == 0) (by walk_at "ts") (fun hb s₂ f₂ _ => ?_) fun hb s₂ f₂ _ => ?_)
  · have hC₂ := f₂.cx hX
    rw [fmod3] at hb
    have hb := of_decide_eq_true hb
    have hd : (ans * toll).fdiv 2 = 0 ∨ (ans * toll).fdiv 2 = 1 := by
      have : ans * toll = 0 ∨ ans * toll = 1 ∨ ans * toll = 2 := by omega
      rcases this with e | e | e <;> rw [e] <;> decide
    refine FS.seq (FS.retD f₂ (d := .str (if (ans * toll).fdiv 2 = 1 then ch (97 + k) else Str.empty)) (Ev.binop (Ev.itemS (by walk_at "ev") (by walk_at "ev") (by omega) (by omega) (low_at hk)) (by walk_at "ev") (bin_mul01 hd)) fun v s' k' h => ⟨Kp.trans f₂.F.keeps k', ?_⟩)
    unfold markOf; rw [if_pos hb]
    split at h
    · rename_i e; rw [if_pos e]; exact h
    · rename_i e; rw [if_neg e]; exact h
  · have hC₂ := f₂.cx hX
    rw [fmod3] at hb
    have hb := of_decide_eq_false hb
    refine wpAny_execs_nil (FS.seq (FS.iff f₂ (b := ans * toll == 2) (by walk_at "ts") (fun hb' s₃ f₃ _ => ?_) fun hb' s₃ f₃ _ => ?_))
    · have hC₃ := f₃.cx hX
      refine FS.seq (FS.retD f₃ (d := .str "g") (by walk_at "ev") fun v s' k' h => ⟨Kp.trans f₃.F.keeps k', ?_⟩)
      unfold markOf; rw [if_neg hb, if_pos (by simpa using hb')]; exact h
    · have hC₃ := f₃.cx hX
      have hb' : ¬ ans * toll = 2 := by simpa using hb'
      refine wpAny_execs_nil (FS.seq (FS.retD f₃ (d := .str (S (if ans * toll = 1 then [65 + k] else [97 + k]))) (Ev.ifExp (c := ans * toll == 1) (by walk_at "ts") (fun e => ?_) fun e => ?_) fun v s' k' h => ⟨Kp.trans f₃.F.keeps k', ?_⟩))
      · rw [if_pos (by simpa using e)]
        exact Ev.itemS (by walk_at "ev") (by walk_at "ev") (by omega) (by omega) (upp_at hk)
      · rw [if_neg (by simpa using e)]
        exact Ev.itemS (by walk_at "ev") (by walk_at "ev") (by omega) (by omega) (low_at hk)
      · unfold markOf; rw [if_neg hb, if_neg hb']; exact h
/-! ## comprehensions with something more to keep -/
theorem comp_loopK {α : Type} {prog : Program} {w : World} {A : Around} {R : Result → Shared → Prop} {e : Expr} {d : Nat} {I D : Addr} {env : Env} {target : Expr} {p : Pos} {ifs : List Expr} {emit : Sem Unit} {s₀ s : Shared} {N : List (Str × NameKind)} {ok : Addr → Prop} {ρ : List (Str × Sp)} {hB : Heap}
    {sK : Shared} {K : Nat → Heap → Prop} {fp wr : List Addr} {l : List α} {sp : α → Sp} {St : Nat → Heap → Prop} (hh : A.handled = none)
    (hc : (Code.compLoop e d (.ref I) (.ref D) env).isFrame = false)
    (hturn : compTurn e d (.ref I) (.ref D) env = turnOf e d (.ref I) (.ref D) env target p ifs emit)
    (hun : A.under (.compLoop e d (.ref I) (.ref D) env) = A)
    (S : Src prog w A target I fp wr ok hB l sp St)
    (bs : α → List (Str × Sp)) (hasg : ∀ x ∈ l, Asg target (sp x) (bs x)) (hown : ∀ x ∈ l, ∀ b ∈ bs x, Own N env b.1) (hsh : ∀ x ∈ l, ∀ y sp', ρ.lookup y = some sp' → (bs x).lookup y = none)
    (hw0 : ∀ b ∈ wr, s₀.heap.get? b = none) (hwok : ∀ b ∈ wr, ¬ ok b) (hDf : D ∉ fp)
    (hfresh : ∀ s i, Fst s₀ N env ok ρ s → (∃ vs, s.heap.PlainList D vs) → St i s.heap → (∃ j, K j s.heap) → ∀ a, s.heap.get? a = none → ok a)
    (q : α → Bool) (out : α → List PyData)
    (htest : ∀ x ∈ l, ∀ s, Fst s₀ N env ok (bs x ++ ρ) s → (∀ a, s.heap.get? a = none → ok a) → wpAny (model prog w) A (testsOf ifs env) (fun r s' => Keeps s s' ∧ r = q x) (fun _ _ => False) s)
    {ds₀ : List PyData} (hlen : (ds₀ ++ (l.filter q).flatMap out).length ≤ 1000000)
    (hemit : ∀ i x, l[i]? = some x → q x = true → ∀ ds s, (ds ++ out x).length ≤ 1000000 → LI s₀ N env ok (bs x ++ ρ) D hB ds s → St (i + 1) s.heap → K i s.heap → (∀ a, s.heap.get? a = none → ok a) →
      wpAny (model prog w) A emit (fun _ s' => LI s₀ N env ok (bs x ++ ρ) D hB (ds ++ out x) s' ∧ St (i + 1) s'.heap ∧ K (i + 1) s'.heap) (fun _ _ => False) s)
    (hK : ∀ i h h', K i h → (∀ b o, sK.heap.get? b ≠ none → (¬ frA env b ∨ (b ≠ env.locals ∧ ∀ v, o.data ≠ .cell v)) → h.get? b = some o → h'.get? b = some o) → K i h') (hwK : ∀ b ∈ wr, sK.heap.get? b = none) (hskip : ∀ i x h, l[i]? = some x → q x = false → K i h → K (i + 1) h)
    (hL : LI s₀ N env ok ρ D hB ds₀ s) (hst : St 0 s.heap) (hK0 : K 0 s.heap)
    (hR : ∀ s', LI s₀ N env ok ρ D hB (ds₀ ++ (l.filter q).flatMap out) s' → K l.length s'.heap → R (.ok .next) s') :
    codeAny (model prog w) A (.compLoop e d (.ref I) (.ref D) env) R s := by
  have stepK : ∀ i h h', K i h → (∀ b o, b ∉ wr → h.get? b = some o → h'.get? b = some o) → K i h' := fun i h h' x y => hK i h h' x fun b o hb _ e => y b o (fun hm => hb (hwK b hm)) e
  have storeK : ∀ i {ρ' : List (Str × Sp)} {s s' : Shared}, Fst s₀ N env ok ρ' s → Stored env s s' → K i s.heap → K i s'.heap := fun i {ρ' s s'} F st x => hK i _ _ x fun b o hb nf e => by
    rcases nf with nf | ⟨hbl, nc⟩
    · exact st.ch b o nf e
    · refine st.ch b o (fun hf => ?_) e
      rcases hf with h | ⟨y, hy⟩
      · exact hbl h
      · obtain ⟨u, o', e', d'⟩ := F.cell _ _ hy
        rw [e] at e'; cases e'
        exact nc _ d'
  have hDw : D ∉ wr := fun h => hDf (S.sub _ h)
  have hpre : ∀ i, (ds₀ ++ ((l.take i).filter q).flatMap out).length ≤ 1000000 := fun i => by
    have e : (l.filter q).flatMap out = ((l.take i).filter q).flatMap out ++ ((l.drop i).filter q).flatMap out := by
      rw [← List.flatMap_append, ← List.filter_append, List.take_append_drop]
    rw [e] at hlen
    simp only [List.length_append] at hlen ⊢
    omega
  refine codeAny_loop (by cases e <;> rfl) (fun k s' => ∃ i, i ≤ l.length ∧ k = l.length + 1 - i ∧ LI s₀ N env ok ρ D hB (ds₀ ++ ((l.take i).filter q).flatMap out) s' ∧ St i s'.heap ∧ K i s'.heap) (fun k s' hI => ?_) (l.length + 1) ⟨0, Nat.zero_le _, rfl, by simpa using hL, hst, hK0⟩
  obtain ⟨i, hi, rfl, L, st, hk0⟩ := hI
  rw [hun]
  show wpAny _ A (if (Code.compLoop e d (.ref I) (.ref D) env).isFrame then (compTurn e d (.ref I) (.ref D) env).onRaise (leaving env) else (compTurn e d (.ref I) (.ref D) env).onRaise (fun x => do noteFrame x env; theTreesLotGoes x)) _ _ s'
  rw [hc, hturn]
  refine wpAny_noted ?_
  suffices main : ∀ Qf : Fin → Shared → Prop, (∀ s₁, R (.ok .next) s₁ → Qf (.done .next) s₁) →
      (∀ s₁, (∃ j, j ≤ l.length ∧ i < j ∧ LI s₀ N env ok ρ D hB (ds₀ ++ ((l.take j).filter q).flatMap out) s₁ ∧ St j s₁.heap ∧ K j s₁.heap) → Qf (.again (.compLoop e d (.ref I) (.ref D) env)) s₁) →
      wpAny (model prog w) A (turnOf e d (.ref I) (.ref D) env target p ifs emit) Qf (fun _ _ => False) s' from
    wpAny_mono (main _ (fun s₁ h => h) fun s₁ ⟨j, h1, h2, h3, h4⟩ => ⟨rfl, l.length + 1 - j, by omega, j, h1, rfl, h3, h4⟩) (fun _ _ y => y) fun _ _ y => y.elim
  intro Qf hdone hagain
  unfold turnOf
  refine wpAny_bind (wpAny_standAt (wpAny_bind ?_))
  by_cases hlt : i < l.length
  · have hx : l[i]? = some l[i] := List.getElem?_eq_getElem hlt
    generalize hxe : l[i] = x at hx
    have hxm : x ∈ l := List.mem_of_getElem? hx
    refine wpAny_mono (S.next i x s' (fun v s₂ => wpAny (model prog w) A (assign target env v) (fun _ s₃ => wpAny (model prog w) A (do
        let ok ← testsOf ifs env
        if ok then emit
        again (.compLoop e d (.ref I) (.ref D) env)) Qf (fun _ _ => False) s₃) (fun _ _ => False) s₂) (fun _ _ => False) hx st L.mv (hfresh s' i L.F (L.acc.elim fun vs a => ⟨vs, a.1⟩) st ⟨i, hk0⟩) fun v h' tk hv st' hk => ?_) (fun r s₁ hr => ?_) fun _ _ y => y.elim
    rotate_left
    · obtain ⟨v, rfl, hg⟩ := hr
      exact wpAny_bind (wpAny_mono hg (fun _ s₂ h₂ => wpAny_bind h₂) fun _ _ y => y.elim)
    have L1 : LI s₀ N env ok ρ D hB (ds₀ ++ ((l.take i).filter q).flatMap out) { s' with heap := h', toks := tk } := L.but wr hw0 hwok (fun b hb o ho => S.plain i _ st b (S.sub b hb) o ho) hDw hk
    refine assign_ok hh (hasg x hxm) L1.F hv (hown x hxm) fun s₃ F₃ ms₃ => ?_
    have m₃ := ms₃.mv
    have K₃ : K i s₃.heap := storeK i L1.F ms₃ (stepK i _ _ hk0 hk)
    have st₃ : St (i + 1) s₃.heap := S.frame _ _ _ st' fun b hb o ho => m₃ b o trivial ho (S.plain _ _ st' b hb o ho).1 (S.plain _ _ st' b hb o ho).2
    have L3 : LI s₀ N env ok (bs x ++ ρ) D hB (ds₀ ++ ((l.take i).filter q).flatMap out) s₃ := by
      refine ⟨F₃, ?_, L1.mv.trans m₃.of_true⟩
      obtain ⟨vs, ⟨n, a⟩, b⟩ := L1.acc
      exact ⟨vs, ⟨n, m₃ _ _ trivial a (fun _ _ y => nomatch y) (fun _ y => nomatch y)⟩, RdAll.mv m₃.of_true (fun _ _ z _ => z) _ _ b⟩
    have back : ∀ y sp', ρ.lookup y = some sp' → (bs x ++ ρ).lookup y = some sp' := fun y sp' hy => by rw [lookup_append_none (hsh x hxm y sp' hy)]; exact hy
    have fr : ∀ {ds : List PyData} {s : Shared} {j : Nat}, LI s₀ N env ok (bs x ++ ρ) D hB ds s → St j s.heap → K i s.heap → ∀ a, s.heap.get? a = none → ok a := fun {ds s j} L st hk => hfresh s j (L.F.sub back) (L.acc.elim fun vs a => ⟨vs, a.1⟩) st ⟨i, hk⟩
    refine wpAny_bind (wpAny_mono (htest x hxm s₃ F₃ (fr L3 st₃ K₃)) (fun r s₄ hr => ?_) fun _ _ y => y.elim)
    obtain ⟨k₄, rfl⟩ := hr
    have L4 := L3.kp k₄
    have K₄ : K i s₄.heap := hK i _ _ K₃ fun b o _ _ e => Kp.get k₄ b o e
    have st₄ : St (i + 1) s₄.heap := S.frame _ _ _ st₃ fun b _ o ho => Kp.get k₄ b o ho
    have tk1 : l.take (i + 1) = l.take i ++ [x] := by rw [List.take_add_one, hx]; rfl
    cases hq : q x with
    | false =>
      simp only [Bool.false_eq_true, if_false]
      refine wpAny_pure (hagain _ ⟨i + 1, hlt, Nat.lt_succ_self _, ?_, st₄, hskip i x _ hx hq K₄⟩)
      rw [tk1, List.filter_append]
      simpa [hq] using L4.sub back
    | true =>
      simp only [if_true]
      refine wpAny_bind (wpAny_mono (hemit i x hx hq _ s₄ (by have := hpre (i + 1); rw [tk1, List.filter_append] at this; simpa [hq, Nat.add_assoc] using this) L4 st₄ K₄ (fr L4 st₄ K₄)) (fun _ s₅ h₅ => ?_) fun _ _ y => y.elim)
      refine wpAny_pure (hagain _ ⟨i + 1, hlt, Nat.lt_succ_self _, ?_, h₅.2.1, h₅.2.2⟩)
      rw [tk1, List.filter_append]
      have := h₅.1.sub back
      simpa [hq] using this
  · have hil : i = l.length := by omega
    subst hil
    refine wpAny_mono (S.done s' (fun s₁ => R (.ok .next) s₁) (fun _ _ => False) st fun h' tk hk => hR _ ?_ (stepK _ _ _ hk0 hk)) (fun r s₁ hr => ?_) fun _ _ y => y.elim
    · have := L.but (tk := tk) wr hw0 hwok (fun b hb o ho => S.plain _ _ st b (S.sub b hb) o ho) hDw hk
      simpa using this
    · obtain ⟨rfl, hr⟩ := hr
      exact wpAny_pure (hdone _ hr)


theorem comp_runK {α : Type} {C : Cx} (hC : C.Ok) {elt target iter : Expr} {ifs : List Expr} {gs : List Comprehension} {scope : Scope} {pos : Pos} {P : Heap → Heap → Value → Prop} {l : List α} {sp : α → Sp} {tn : List Str} (hs : ScopeIs scope C.ρ C.env.kindOf tn)
    (hiter : ∀ s, Keeps C.s s → Ev (C.at s) iter (P s.heap)) (hI : Iters C target P l sp) (bs : α → List (Str × Sp)) (hasg : ∀ x ∈ l, Asg target (sp x) (bs x)) (htn : ∀ x ∈ l, (bs x).map (·.1) = tn)
    {emit : Value → Env → Sem Unit} (hturn : ∀ it acc env, compTurn (.ListComp elt (⟨target, iter, ifs, 0⟩ :: gs) scope pos) 0 it acc env = turnOf (.ListComp elt (⟨target, iter, ifs, 0⟩ :: gs) scope pos) 0 it acc env target iter.pos ifs (emit acc env))
    (q : α → Bool) (out : α → List PyData) (hlen : ((l.filter q).flatMap out).length ≤ 1000000) {s₀ s : Shared} (k₀ : Keeps C.s s₀) (k : Keeps s₀ s)
    (htest : ∀ x ∈ l, ∀ cenv ok' s', (C.inner cenv ok' s' (bs x ++ freeOf scope C.ρ)).Ok → cenv.scope = relabel scope C.env → Keeps C.s s' → TestsOk (C.inner cenv ok' s' (bs x ++ freeOf scope C.ρ)) ifs (q x))
    {K : Nat → Heap → Prop} (hK : ∀ i h h', K i h → (∀ b o, s.heap.get? b ≠ none → ¬ frA C.env b → h.get? b = some o → h'.get? b = some o) → K i h') (hskip : ∀ i x h, l[i]? = some x → q x = false → K i h → K (i + 1) h) (hK0 : K 0 s.heap)
    (hemit : ∀ i x, l[i]? = some x → q x = true → ∀ cenv D ok' hB (fp : List Addr) (St : Heap → Prop) ds s', cenv.scope = relabel scope C.env → s.heap.get? D = none → s.heap.get? cenv.locals = none → (∀ b, s.heap.get? b ≠ none → ¬ frA C.env b → ¬ frA cenv b) → ¬ ok' D → (∀ a, ok' a → C.ok a) → D ∉ fp → cenv.locals ∉ fp → (∀ b ∈ fp, s'.heap.get? b ≠ none) → (∀ h h', St h → (∀ b ∈ fp, ∀ o, NotFrame o → h.get? b = some o → h'.get? b = some o) → St h') → (∀ s'', Fst s₀ scope.names cenv ok' (freeOf scope C.ρ) s'' → (∃ vs, s''.heap.PlainList D vs) → St s''.heap → ∀ a, s''.heap.get? a = none → ok' a) → (∀ s'' ok'' ρ'', Fst s₀ scope.names cenv ok'' ρ'' s'' → (∀ a, s''.heap.get? a = none → ok'' a) → (C.inner cenv ok'' s'' ρ'').Ok) → (ds ++ out x).length ≤ 1000000 →
      LI s₀ scope.names cenv ok' (bs x ++ freeOf scope C.ρ) D hB ds s' → St s'.heap → K i s'.heap → (C.inner cenv ok' s' (bs x ++ freeOf scope C.ρ)).Ok →
      wpAny (model C.prog C.w) C.A (emit (.ref D) cenv) (fun _ s'' => LI s₀ scope.names cenv ok' (bs x ++ freeOf scope C.ρ) D hB (ds ++ out x) s'' ∧ St s''.heap ∧ K (i + 1) s''.heap) (fun _ _ => False) s')
    {use : Option (Value → Sem Unit)} {Q : Value → Shared → Prop}
    (hfin : ∀ D L' s', Keeps s₀ s' → (∃ m, s'.heap.Ns L' m) → s.heap.get? L' = none → Rd C.ok s'.heap (.list ((l.filter q).flatMap out)) (.ref D) → K l.length s'.heap → compPost (model C.prog C.w) C.A (fun _ _ => False) use Q (.ref D) L' (.ok .next) s')
    (hset : ∀ x, foldedSetIterable iter C.env x = pure x := by intro _; rfl) :
    wpAny (model C.prog C.w) C.A (comprehension (.ListComp elt (⟨target, iter, ifs, 0⟩ :: gs) scope pos) scope C.env iter.pos (newList []) false (eval iter C.env) use) Q (fun _ _ => False) s := by
  have hcl : ∀ n, (n, NameKind.free) ∈ scope.names → ∃ c, C.env.cells.lookup n = some c := fun n hn => by
    obtain ⟨⟨sp, e⟩, h2, _⟩ := hs.free n hn
    obtain ⟨v, a, b⟩ := hC.names n sp e
    rcases a with ⟨a1, _⟩ | ⟨_, c, a2, a3⟩
    · exact absurd a1 h2
    · exact ⟨c, a2⟩
  refine wpAny_comprehension_free (g := ⟨target, iter, ifs, 0⟩) (gs := gs) rfl hset (closureFor_eq hcl) hs.kind (fun x hx hl => by
    obtain ⟨n, kk⟩ := x; dsimp only at hl ⊢; subst hl; exact lookup_of_nodup hs.nodup hx) ?_
  have kC : Keeps C.s s := Kp.trans k₀ k
  refine wpAny_mono (hiter s kC s (Kp.refl s)) (fun xv s₁ h₁ => ?_) fun _ _ y => y
  obtain ⟨k₁, hP⟩ := h₁
  refine wpAny_mono (hI s s₁ xv kC k₁ hP) (fun it s₂ h₂ => ?_) fun _ _ y => y
  obtain ⟨I, fp, wr, St, rfl, k₂, hw0, hfpok, hst, hfp, hS⟩ := h₂
  refine wpAny_newObj_type ?_
  refine newEnv_comp ?_
  -- the new list D, the frame L'
  generalize hD : s₂.heap.objs.size = D
  have hDn : s₂.heap.get? D = none := hD ▸ get_size _
  have k3 : Keeps s₂ { s₂ with heap := s₂.heap.push { cls := .type "list", data := .seq ([] : List Value).toArray } } := Kp.push _ _
  generalize hs3 : ({ s₂ with heap := s₂.heap.push { cls := .type "list", data := .seq ([] : List Value).toArray } } : Shared) = s₃ at k3
  have hp3 : s₃.heap.PlainList D #[] := by rw [← hs3, ← hD]; exact plain_push
  have k03 : Keeps s s₃ := Kp.trans (Kp.trans k₁ k₂) k3
  let ok' : Addr → Prop := fun a => C.ok a ∧ a ∉ wr ∧ a ≠ D
  have hs0D : s.heap.get? D = none := Kp.none (Kp.trans k₁ k₂) hDn
  have hDfp : D ∉ fp := fun hm => hfp D hm hDn
  have F := compE_fst hC hs k₀ (Kp.trans k k03) (ok' := ok') fun a o h1 h2 => ⟨h1, fun hm => (by have := hw0 a hm; rw [Kp.get kC a o h2] at this; cases this), fun e => (by rw [e] at h2; rw [Kp.get kC _ o h2] at hs0D; cases hs0D)⟩
  generalize hs4 : ({ s₃ with heap := pushCells (s₃.heap.push { cls := .type "dict", data := .dict #[] }) scope.names } : Shared) = s₄ at F
  have k4 : Keeps s₃ s₄ := by
    rw [← hs4]; exact Kp.of (fun b o e => pushCells_keeps _ _ _ _ (Heap.get?_push_of_some _ e)) s₃.toks
  have S := hS ok' (fun a ha h => h.2.1 ha) fun a o h1 h2 h3 => ⟨h1, h2, fun e => (by rw [e, hDn] at h3; cases h3)⟩
  have hst4 : St 0 s₄.heap := S.frame _ _ _ hst fun b _ o e => Kp.get (Kp.trans k3 k4) b o e
  have hL0 : s.heap.get? s₃.heap.objs.size = none := Kp.none k03 (get_size _)
  have hfrA : ∀ b, s.heap.get? b ≠ none → ¬ frA C.env b → ¬ frA (compE scope s₃.heap.objs.size C.env) b := fun b hb nf => by
    rintro (e | ⟨y, e⟩)
    · exact hb (by rw [e]; exact hL0)
    · rcases cellsFrom_mem _ _ _ _ _ (mem_of_lookup e) with hm | ⟨hge, _⟩
      · rcases clFrom_mem _ _ _ _ hm with hm | ⟨hfree, hc⟩
        · cases hm
        · obtain ⟨c, hl⟩ := hcl _ hfree
          rw [hl] at hc
          exact nf (.inr ⟨_, by rw [hc]; exact hl⟩)
      · exact hb (Kp.none k03 (get_ge (Nat.le_of_succ_le hge)))
  have hfin' : ∀ s', LI s₀ scope.names (compE scope s₃.heap.objs.size C.env) ok' (freeOf scope C.ρ) D s₂.heap ((l.filter q).flatMap out) s' → K l.length s'.heap →
      compPost (model C.prog C.w) C.A (fun _ _ => False) use Q (.ref D) s₃.heap.objs.size (.ok .next) s' := fun s' L hk => by
    refine hfin D _ s' L.F.keeps L.F.ns hL0 ?_ hk
    obtain ⟨vs, ⟨n, hp⟩, hr⟩ := L.acc
    exact Rd_list.mpr ⟨D, vs, rfl, hC.ok D (Kp.none kC hs0D), ⟨_, hp, rfl, n, rfl⟩, RdAll.mv (.refl _ _) (fun a o h1 _ => h1.1) _ _ hr⟩
  have loop : codeAny (model C.prog C.w) C.A (.compLoop (.ListComp elt (⟨target, iter, ifs, 0⟩ :: gs) scope pos) 0 (.ref I) (.ref D) (compE scope s₃.heap.objs.size C.env)) (compPost (model C.prog C.w) C.A (fun _ _ => False) use Q (.ref D) s₃.heap.objs.size) s₄ := by
    refine comp_loopK (s₀ := s₀) (sK := s) (K := K) (N := scope.names) (ok := ok') (ρ := freeOf scope C.ρ) (hB := s₂.heap) (ds₀ := []) hC.hand rfl (hturn ..) rfl S bs hasg (fun x hx b hb => ?_) (fun x hx y sp' hy => ?_) (fun b hb => Kp.none k (hw0 b hb)) (fun b hb h => h.2.1 hb) hDfp (fun s' i F' hp' st' _ a ha => ?_) q out (fun x hx s' F' hf' => ?_) (by simpa using hlen) (fun i x hx hq ds s' hds L' st' hk' hf' => ?_) (fun i h h' x y => hK i h h' x fun b o hb nf e => y b o hb (.inl (hfrA b hb nf)) e) hw0 hskip ?_ hst4 (hK 0 _ _ hK0 fun b o _ _ e => Kp.get (Kp.trans k03 k4) b o e) (fun s' L hk => hfin' s' (by simpa using L) hk)
    · refine compE_own hs ?_
      rw [← htn x hx]; exact List.mem_map_of_mem (f := (·.1)) hb
    · obtain ⟨_, h2⟩ := freeOf_lookup hy
      cases hl : (bs x).lookup y with
      | none => rfl
      | some sp'' =>
        have : y ∈ tn := by rw [← htn x hx]; exact List.mem_map_of_mem (f := (·.1)) (mem_of_lookup hl)
        rcases hs.tn y this with h | h <;> (rw [h] at h2; cases h2)
    · refine ⟨hC.ok a (Kp.none (Kp.trans k₀ F'.keeps) ha), fun hm => S.live i _ st' a hm ha, fun e => ?_⟩
      rw [e] at ha; obtain ⟨vs, n, e⟩ := hp'; rw [e] at ha; cases ha
    · exact htest x hx _ _ s' (inner_ok hC k₀ F' hf') rfl (Kp.trans k₀ F'.keeps) s' (Kp.refl _)
    · refine hemit i x hx hq _ D ok' _ fp (fun h => St (i + 1) h) ds s' rfl hs0D hL0 hfrA (fun h => h.2.2 rfl) (fun a h => h.1) hDfp (fun hm => hfp _ hm (Kp.none k3 (get_size _))) (fun b hb => ?_) (fun h h' st hh => S.frame _ _ _ st fun b hb o e => hh b hb o (S.plain _ _ st b hb o e) e) (fun s'' F'' hp'' st'' a ha => ⟨hC.ok a (Kp.none (Kp.trans k₀ F''.keeps) ha), fun hm => S.live _ _ st'' a hm ha, fun e => by rw [e] at ha; obtain ⟨vs, n, e⟩ := hp''; rw [e] at ha; cases ha⟩) (fun s'' ok'' ρ'' F'' hf'' => inner_ok hC k₀ F'' hf'') hds L' st' hk' (inner_ok hC k₀ L'.F hf')
      by_cases hbw : b ∈ wr
      · exact S.live _ _ st' b hbw
      · cases e : s₂.heap.get? b with
        | none => exact absurd e (hfp b hb)
        | some o =>
          have pl := S.plain _ _ hst b hb o e
          rw [L'.mv b o ⟨hfpok b hb, hbw, fun e' => hDfp (e' ▸ hb)⟩ e pl.1 pl.2]
          exact fun y => nomatch y
    · refine ⟨F, ⟨#[], ?_, by simp only [RdAll]⟩, .of_keep (Kp.get (Kp.trans k3 k4))⟩
      obtain ⟨n, e⟩ := hp3
      exact ⟨n, Kp.get k4 _ _ e⟩
  exact codeAny_compStart_list loop (S.self 0 _ _ _ hst4 loop)
/-! ## two generators -/
theorem codeAny_compStart_1 {prog : Program} {w : World} {A : Around} {R : Result → Shared → Prop} {s : Shared} {elt t1 i1 target iter : Expr} {f1 ifs : List Expr} {scope : Scope} {pos : Pos} {it acc : Value} {env : Env}
    (h0 : codeAny (model prog w) A (.compLoop (.ListComp elt [⟨t1, i1, f1, 0⟩, ⟨target, iter, ifs, 0⟩] scope pos) 1 it acc env) R s)
    (h : wpAny (model prog w) A (pyIter it) (fun it' s' => codeAny (model prog w) A (.compLoop (.ListComp elt [⟨t1, i1, f1, 0⟩, ⟨target, iter, ifs, 0⟩] scope pos) 1 it' acc env) R s')
      (notedBy (model prog w) A env fun x s' => R (.error x) s') s) :
    codeAny (model prog w) A (.compStart (.ListComp elt [⟨t1, i1, f1, 0⟩, ⟨target, iter, ifs, 0⟩] scope pos) 1 it acc env) R s := by
  refine codeAny_of_tree ?_
  show wpAny _ _ ((compStart (.ListComp elt [⟨t1, i1, f1, 0⟩, ⟨target, iter, ifs, 0⟩] scope pos) 1 it acc env).onRaise (fun x => do noteFrame x env; standAt theWindowsPlace)) _ _ s
  refine wpAny_notedAt ?_
  unfold compStart
  show wpAny _ _ (ask >>= _) _ _ s
  refine wpAny_bind (wpAny_askSetting (wpAny_ite ?_))
  split
  · first
      | exact wpAny_bind (wpAny_pure (wpAny_pure (And.intro rfl h0)))
      | exact wpAny_pure (And.intro rfl h0)
  · first
      | exact wpAny_bind (wpAny_rule (wpAny_bind (wpAny_standAt (wpAny_bind (wpAny_mono h (fun it' s' h' => wpAny_pure (And.intro rfl h')) fun _ _ x => x)))))
      | (refine wpAny_bind (wpAny_rule ?_); show wpAny _ _ (standAt iter.pos >>= _) _ _ s; exact wpAny_bind (wpAny_standAt (wpAny_bind (wpAny_mono h (fun it' s' h' => wpAny_pure (And.intro rfl h')) fun _ _ x => x))))

noncomputable def emit2 (e iter : Expr) (acc : Value) (env : Env) : Sem Unit := do
  let x ← eval iter env
  standAt iter.pos
  let x ← foldedSetIterable iter env x
  let _ ← runOwn (.compStart e 1 (← holding [x] (pyIter x)) acc env) env
theorem compTurn_two (elt t1 i1 target iter : Expr) (f1 ifs : List Expr) (scope : Scope) (pos : Pos) (it acc : Value) (env : Env) :
    compTurn (.ListComp elt [⟨t1, i1, f1, 0⟩, ⟨target, iter, ifs, 0⟩] scope pos) 0 it acc env = turnOf (.ListComp elt [⟨t1, i1, f1, 0⟩, ⟨target, iter, ifs, 0⟩] scope pos) 0 it acc env t1 i1.pos f1 (emit2 (.ListComp elt [⟨t1, i1, f1, 0⟩, ⟨target, iter, ifs, 0⟩] scope pos) iter acc env) := by
  unfold compTurn turnOf emit2 testsOf
  dsimp only
  simp only [bind_assoc]
  rfl
theorem compTurn_two1 (elt t1 i1 target iter : Expr) (f1 ifs : List Expr) (scope : Scope) (pos : Pos) (it acc : Value) (env : Env) :
    compTurn (.ListComp elt [⟨t1, i1, f1, 0⟩, ⟨target, iter, ifs, 0⟩] scope pos) 1 it acc env = turnOf (.ListComp elt [⟨t1, i1, f1, 0⟩, ⟨target, iter, ifs, 0⟩] scope pos) 1 it acc env target iter.pos ifs (eval elt env >>= fun x => call (.builtin "list.append") [acc, x] >>= fun _ => pure ()) := by rfl

theorem LI.okTo {s₀ s : Shared} {N : List (Str × NameKind)} {env : Env} {ok ok' : Addr → Prop} {ρ : List (Str × Sp)} {D : Addr} {hB hB' : Heap} {ds : List PyData} (L : LI s₀ N env ok ρ D hB ds s) (h : ∀ a o, ok a → s.heap.get? a = some o → ok' a) (m : Mv ok' hB' s.heap) : LI s₀ N env ok' ρ D hB' ds s :=
  ⟨L.F.okTo h, L.acc.elim fun vs y => ⟨vs, y.1, RdAll.mv (.refl _ _) h _ _ y.2⟩, m⟩

/-- the turns of the inner generator -/
theorem emit2_ok {β : Type} {Ci : Cx} (hCi : Ci.Ok) {elt t1 i1 target iter : Expr} {f1 : List Expr} {scope : Scope} {pos : Pos} {s₀ : Shared} {N : List (Str × NameKind)} {D : Addr} {hB : Heap} {St : Heap → Prop} {fp₀ : List Addr} {ds : List PyData} (ρ₀ : List (Str × Sp))
    (L : LI s₀ N Ci.env Ci.ok Ci.ρ D hB ds Ci.s) (hst : St Ci.s.heap) (hDfp₀ : D ∉ fp₀) (hfp₀ : ∀ b ∈ fp₀, Ci.s.heap.get? b ≠ none) (hSt : ∀ h h', St h → (∀ b ∈ fp₀, ∀ o, NotFrame o → h.get? b = some o → h'.get? b = some o) → St h')
    (hfr : ∀ s'', Fst s₀ N Ci.env Ci.ok ρ₀ s'' → (∃ vs, s''.heap.PlainList D vs) → St s''.heap → ∀ a, s''.heap.get? a = none → Ci.ok a) (hρ₀ : ∀ y sp, ρ₀.lookup y = some sp → Ci.ρ.lookup y = some sp)
    (hD0 : s₀.heap.get? D = none) (hDok : ¬ Ci.ok D) (hloc : Ci.env.locals ∉ fp₀)
    (hbase : ∀ s' ok' ρ', Fst s₀ N Ci.env ok' ρ' s' → (∀ a, s'.heap.get? a = none → ok' a) → ({ Ci with ok := ok', s := s', ρ := ρ' } : Cx).Ok)
    {P : Heap → Heap → Value → Prop} {l : List β} {sp : β → Sp} (hiter : Ev Ci iter (P Ci.s.heap)) (hI : Iters Ci target P l sp) (bs : β → List (Str × Sp)) (hasg : ∀ x ∈ l, Asg target (sp x) (bs x)) (hown : ∀ x ∈ l, ∀ b ∈ bs x, Own N Ci.env b.1) (hsh : ∀ x ∈ l, ∀ y sp', Ci.ρ.lookup y = some sp' → (bs x).lookup y = none)
    (f : β → PyData) (hlen : (ds ++ l.map f).length ≤ 1000000)
    (helt : ∀ x ∈ l, ∀ ok' s', ({ Ci with ok := ok', s := s', ρ := bs x ++ Ci.ρ } : Cx).Ok → EvD { Ci with ok := ok', s := s', ρ := bs x ++ Ci.ρ } elt (f x))
    (hset : ∀ x, foldedSetIterable iter Ci.env x = pure x := by intro _; rfl) :
    wpAny (model Ci.prog Ci.w) Ci.A (emit2 (.ListComp elt [⟨t1, i1, f1, 0⟩, ⟨target, iter, [], 0⟩] scope pos) iter (.ref D) Ci.env) (fun _ s'' => LI s₀ N Ci.env Ci.ok Ci.ρ D hB (ds ++ l.map f) s'' ∧ St s''.heap) (fun _ _ => False) Ci.s := by
  unfold emit2
  refine wpAny_bind (Ev.two hiter (Kp.refl _) fun xv s₁ k₁ hP => wpAny_bind (wpAny_standAt ?_))
  rw [hset]
  refine wpAny_bind (wpAny_pure (wpAny_bind (wpAny_holding (wpAny_mono (hI Ci.s s₁ xv (Kp.refl _) k₁ hP) (fun it s₂ h₂ => ?_) fun _ _ y => y))))
  obtain ⟨I, fp, wr, St2, rfl, k₂, hw0, hfpok, hst2, hfp, hS⟩ := h₂
  have k02 := Kp.trans k₁ k₂
  let ok2 : Addr → Prop := fun a => Ci.ok a ∧ a ∉ wr
  have S := hS ok2 (fun a ha h => h.2 ha) fun a o h1 h2 h3 => ⟨h1, h2⟩
  have L1 : LI s₀ N Ci.env ok2 Ci.ρ D Ci.s.heap ds s₂ := (L.okTo (ok' := ok2) (fun a o x e => ⟨x, fun hm => by rw [hw0 a hm] at e; cases e⟩) (.refl _ _)).kp k02
  have hst' : St s₂.heap := hSt _ _ hst fun b _ o _ e => Kp.get k02 b o e
  have hDfp : D ∉ fp := fun h => hDok (hfpok D h)
  have fin : ∀ s', LI s₀ N Ci.env ok2 Ci.ρ D s₂.heap (ds ++ (l.filter fun _ => true).flatMap fun x => [f x]) s' → St s'.heap → LI s₀ N Ci.env Ci.ok Ci.ρ D hB (ds ++ l.map f) s' ∧ St s'.heap := fun s' L' hk => by
    rw [List.filter_eq_self.mpr (fun _ _ => rfl), flat_one] at L'
    refine ⟨L'.okTo (fun a o x _ => x.1) fun b o kb e d c => ?_, hk⟩
    have e1 := L.mv b o kb e d c
    exact L'.mv b o ⟨kb, fun hm => by rw [hw0 b hm] at e1; cases e1⟩ (Kp.get k02 b o e1) d c
  have loop : codeAny (model Ci.prog Ci.w) Ci.A (.compLoop (.ListComp elt [⟨t1, i1, f1, 0⟩, ⟨target, iter, [], 0⟩] scope pos) 1 (.ref I) (.ref D) Ci.env) (fun r s' => match r with | .ok _ => LI s₀ N Ci.env Ci.ok Ci.ρ D hB (ds ++ l.map f) s' ∧ St s'.heap | .error _ => False) s₂ := by
    refine comp_loopK (s₀ := s₀) (sK := Ci.s) (K := fun _ h => St h) (N := N) (ok := ok2) (ρ := Ci.ρ) (hB := s₂.heap) (ds₀ := ds) hCi.hand rfl (compTurn_two1 ..) rfl S bs hasg hown hsh (fun b hb => Kp.none L.F.keeps (hw0 b hb)) (fun b hb h => h.2 hb) hDfp (fun s' i F' hp' st' hk a ha => ?_) (fun _ => true) (fun x => [f x]) (fun x hx s' F' hf' => wpAny_pure ⟨Kp.refl _, rfl⟩) (by rw [List.filter_eq_self.mpr (fun _ _ => rfl), flat_one]; exact hlen) (fun i x hx hq ds' s' hds L' st' hk' hf' => ?_) (fun i h h' x y => hSt h h' x fun b hb o nf e => y b o (hfp₀ b hb) (.inr ⟨fun e' => hloc (e' ▸ hb), nf.2⟩) e) hw0 (fun i x h _ e => nomatch e) ⟨L1.F, L1.acc, .refl _ _⟩ hst2 hst' fun s' L' hk => fin s' L' hk
    · obtain ⟨j, hk⟩ := hk
      exact ⟨hfr s' ((F'.okTo fun a o x _ => x.1).sub hρ₀) hp' hk a ha, fun hm => S.live i _ st' a hm ha⟩
    · refine wpAny_mono (emit_append (C := { Ci with ok := ok2, s := s', ρ := bs x ++ Ci.ρ }) (St := fun i h => St2 i h ∧ St h) (i := i + 1) (hbase s' _ _ L'.F hf') (by rw [List.length_append] at hds; omega) L' ⟨st', hk'⟩ (fun h h' x y => ⟨S.frame _ _ _ x.1 fun b hb o e => y b o (fun e' => hDfp (e' ▸ hb)) e, hSt h h' x.2 fun b hb o _ e => y b o (fun e' => hDfp₀ (e' ▸ hb)) e⟩) hD0 (fun h => hDok h.1) (helt x (List.mem_of_getElem? hx) _ _ (hbase s' _ _ L'.F hf'))) (fun _ s'' y => ⟨y.1, y.2.1, y.2.2⟩) fun _ _ y => y
  refine wpAny_bind (wpAny_runOwn ?_)
  refine codeAny_mono (codeAny_compStart_1 loop (S.self 0 _ _ _ hst2 loop)) fun r s' hr => ?_
  cases r with
  | ok _ => exact wpAny_pure hr
  | error _ => exact hr.elim

/-- a list comprehension of two generators, without tests -/
theorem Ev.comp2 {α β : Type} {C : Cx} (hC : C.Ok) {elt t1 i1 target iter : Expr} {scope : Scope} {pos : Pos} {P : Heap → Heap → Value → Prop} {l : List α} {sp : α → Sp} (tn : List Str)
    (hiter : ∀ s, Keeps C.s s → Ev (C.at s) i1 (P s.heap)) (hI : Iters C t1 P l sp) (bs : α → List (Str × Sp)) (hasg : ∀ x ∈ l, Asg t1 (sp x) (bs x)) (htn : ∀ x ∈ l, (bs x).map (·.1) = tn) (hs : scopeOk scope C.ρ C.env.kindOf tn = true)
    {P2 : α → (Addr → Prop) → Heap → Heap → Value → Prop} (l2 : α → List β) (sp2 : α → β → Sp) (bs2 : α → β → List (Str × Sp))
    (hiter2 : ∀ x ∈ l, ∀ cenv ok' s', (C.inner cenv ok' s' (bs x ++ freeOf scope C.ρ)).Ok → cenv.scope = relabel scope C.env → Ev (C.inner cenv ok' s' (bs x ++ freeOf scope C.ρ)) iter (P2 x ok' s'.heap))
    (hI2 : ∀ x ∈ l, ∀ cenv ok' s', (C.inner cenv ok' s' (bs x ++ freeOf scope C.ρ)).Ok → Iters (C.inner cenv ok' s' (bs x ++ freeOf scope C.ρ)) target (P2 x ok') (l2 x) (sp2 x))
    (hasg2 : ∀ x ∈ l, ∀ y ∈ l2 x, Asg target (sp2 x y) (bs2 x y)) (hown2 : ∀ x ∈ l, ∀ y ∈ l2 x, ∀ b ∈ bs2 x y, scope.names.lookup b.1 = some .local) (hsh2 : ∀ x ∈ l, ∀ y ∈ l2 x, ∀ z sp', (bs x ++ freeOf scope C.ρ).lookup z = some sp' → (bs2 x y).lookup z = none)
    (f : α → β → PyData) (hlen : (l.flatMap fun x => (l2 x).map (f x)).length ≤ 1000000)
    (helt : ∀ x ∈ l, ∀ y ∈ l2 x, ∀ cenv ok' s', (C.inner cenv ok' s' (bs2 x y ++ (bs x ++ freeOf scope C.ρ))).Ok → cenv.scope = relabel scope C.env → EvD (C.inner cenv ok' s' (bs2 x y ++ (bs x ++ freeOf scope C.ρ))) elt (f x y))
    (hset : ∀ x, foldedSetIterable i1 C.env x = pure x := by intro _; rfl) (hset2 : ∀ cenv x, foldedSetIterable iter cenv x = pure x := by intro _ _; rfl) :
    EvD C (.ListComp elt [⟨t1, i1, [], 0⟩, ⟨target, iter, [], 0⟩] scope pos) (.list (l.flatMap fun x => (l2 x).map (f x))) := fun s k => by
  rw [eval_ListComp]
  have hfl : (l.filter fun _ => true) = l := List.filter_eq_self.mpr fun _ _ => rfl
  refine comp_runK hC (scopeIs_of hs) hiter hI bs hasg htn (emit := fun acc env => emit2 (.ListComp elt [⟨t1, i1, [], 0⟩, ⟨target, iter, [], 0⟩] scope pos) iter acc env) (fun it acc env => compTurn_two ..) (fun _ => true) (fun x => (l2 x).map (f x)) (by rw [hfl]; exact hlen) k (Kp.refl s) (fun x _ cenv ok' s' _ _ _ => .nil) (K := fun _ _ => True) (fun _ _ _ _ _ => trivial) (fun _ _ _ _ _ _ => trivial) trivial
    (fun i x hx _ cenv D ok' hB fp St ds s' hsc hD hloc _ hDok hsub hDfp hlfp hfp hSt hfr hbase hds L st _ hCi => ?_) (use := none) (fun D L' s' k' hn hL hr _ => ?_) hset
  · have hxm := List.mem_of_getElem? hx
    refine wpAny_mono (emit2_ok (Ci := C.inner cenv ok' s' (bs x ++ freeOf scope C.ρ)) hCi (freeOf scope C.ρ) L st hDfp hfp hSt hfr ?_ hD hDok hlfp hbase (hiter2 x hxm cenv ok' s' hCi hsc) (hI2 x hxm cenv ok' s' hCi) (bs2 x) (hasg2 x hxm) (fun y hy b hb => .inl ?_) (hsh2 x hxm) (f x) ?_ (fun y hy ok'' s'' hC'' => helt x hxm y hy cenv ok'' s'' hC'' hsc) (hset2 cenv)) (fun _ s'' y => ⟨y.1, y.2, trivial⟩) fun _ _ y => y
    · intro y sp' hy
      obtain ⟨_, h2⟩ := freeOf_lookup hy
      show (bs x ++ freeOf scope C.ρ).lookup y = _
      rw [lookup_append_none ?_]; exact hy
      cases hl : (bs x).lookup y with
      | none => rfl
      | some sp'' =>
        have : y ∈ tn := by rw [← htn x hxm]; exact List.mem_map_of_mem (f := (·.1)) (mem_of_lookup hl)
        rcases (scopeIs_of hs).tn y this with h | h <;> (rw [h] at h2; cases h2)
    · show cenv.scope.names.lookup b.1 = _
      rw [hsc]; exact lookup_relabel_local (hown2 x hxm y hy b hb)
    · exact hds
  · obtain ⟨m, hn⟩ := hn
    rw [hfl] at hr
    refine ⟨m, hn, fun h' hs' => ⟨?_, Rd.mv (Mv.sameBut hs' fun o e => ?_) (fun _ _ z _ => z) _ _ hr⟩⟩
    · exact ⟨fun b o e => (hs'.2 b (ne_of_get e hL)).trans (k'.get b o e), k'.gens, k'.os⟩
    · obtain ⟨o', es, ep, e', d', _⟩ := hn
      rw [e] at e'; cases e'; exact .inl ⟨_, _, d'⟩
/-! ## tuples of three numbers, in order -/
noncomputable def lex3 (p q : Int × Int × Int) : Bool := if p.1 = q.1 then (if p.2.1 = q.2.1 then decide (p.2.2 < q.2.2) else decide (p.2.1 < q.2.1)) else decide (p.1 < q.1)
noncomputable def Tup3 (h : Heap) (p : Int × Int × Int) (v : Value) : Prop := ∃ a t1 t2 t3, v = .ref a ∧ h.IsTuple a #[.int p.1 t1, .int p.2.1 t2, .int p.2.2 t3]

section
variable {prog : Program} {w : World} {A : Around} {E : Value → Shared → Prop} {s : Shared}
theorem lt_tree3 {p q : Int × Int × Int} {a b : Addr} {t1 t2 t3 u1 u2 u3 : Tok} {P : Fin → Shared → Prop} (hx : s.heap.IsTuple a #[.int p.1 t1, .int p.2.1 t2, .int p.2.2 t3]) (hy : s.heap.IsTuple b #[.int q.1 u1, .int q.2.1 u2, .int q.2.2 u3]) (h : P (.done (.ret (.bool (lex3 p q)))) s) :
    wpAny (model prog w) A (Builtin.«tuple.__lt__» ⟨[.ref a, .ref b], []⟩) P E s := by
  have hTb := hy.typeIs
  obtain ⟨oa, hoa, _, na, hda⟩ := hx
  obtain ⟨ob, hob, _, nb, hdb⟩ := hy
  show wpAny _ _ (isInstance (.ref b) (.type "tuple") >>= _) _ _ s
  refine wpAny_bind (wpAny_isInstance hTb isSubtype_tuple_tuple ?_)
  simp only [Bool.not_true, Bool.false_eq_true, if_false]
  refine wpAny_bind (wpAny_tupleItemsOf hoa hda ?_)
  refine wpAny_bind (wpAny_tupleItemsOf hob hdb ?_)
  simp only [List.zip_cons_cons, List.zip_nil_right, List.forIn_cons, List.forIn_nil, bind_assoc]
  have go : ∀ (x y : Int) (u v : Tok), lex3 p q = decide (x < y) → wpAny (model prog w) A (richCompare .Lt (.int x u) (.int y v)) (fun r s' => r = .bool (lex3 p q) ∧ s' = s) E s := fun x y u v e => by
    show wpAny (model prog w) A (compareOp .Lt (.int x u) (.int y v)) _ _ _
    exact lt_int ⟨by rw [e], rfl⟩
  by_cases e1 : p.1 = q.1
  · refine wpAny_bind (wpAny_eqBool_int ?_)
    rw [show (p.1 == q.1) = true from by simpa using e1]
    simp only [Bool.not_true, Bool.false_eq_true, if_false, pure_bind, bind_assoc]
    by_cases e2 : p.2.1 = q.2.1
    · refine wpAny_bind (wpAny_eqBool_int ?_)
      rw [show (p.2.1 == q.2.1) = true from by simpa using e2]
      simp only [Bool.not_true, Bool.false_eq_true, if_false, pure_bind, bind_assoc]
      by_cases e3 : p.2.2 = q.2.2
      · refine wpAny_bind (wpAny_eqBool_int ?_)
        rw [show (p.2.2 == q.2.2) = true from by simpa using e3]
        simp only [Bool.not_true, Bool.false_eq_true, if_false, pure_bind, bind_assoc]
        have : lex3 p q = false := by unfold lex3; rw [if_pos e1, if_pos e2, e3]; simp
        rw [this] at h
        exact wpAny_pure h
      · refine wpAny_bind (wpAny_eqBool_int ?_)
        rw [show (p.2.2 == q.2.2) = false from by simpa using e3]
        simp only [Bool.not_false, if_true, bind_assoc, pure_bind]
        refine wpAny_bind (wpAny_rule (wpAny_bind (wpAny_mono (go _ _ _ _ (by unfold lex3; rw [if_pos e1, if_pos e2])) (fun r s' hr => ?_) fun _ _ y => y)))
        obtain ⟨rfl, rfl⟩ := hr
        exact wpAny_pure h
    · refine wpAny_bind (wpAny_eqBool_int ?_)
      rw [show (p.2.1 == q.2.1) = false from by simpa using e2]
      simp only [Bool.not_false, if_true, bind_assoc, pure_bind]
      refine wpAny_bind (wpAny_rule (wpAny_bind (wpAny_mono (go _ _ _ _ (by unfold lex3; rw [if_pos e1, if_neg e2])) (fun r s' hr => ?_) fun _ _ y => y)))
      obtain ⟨rfl, rfl⟩ := hr
      exact wpAny_pure h
  · refine wpAny_bind (wpAny_eqBool_int ?_)
    rw [show (p.1 == q.1) = false from by simpa using e1]
    simp only [Bool.not_false, if_true, bind_assoc, pure_bind]
    refine wpAny_bind (wpAny_rule (wpAny_bind (wpAny_mono (go _ _ _ _ (by unfold lex3; rw [if_neg e1])) (fun r s' hr => ?_) fun _ _ y => y)))
    obtain ⟨rfl, rfl⟩ := hr
    exact wpAny_pure h

theorem lt_tup3 {p q : Int × Int × Int} {v u : Value} {Q : Value → Shared → Prop} (hu : A.units < cLine) (hx : Tup3 s.heap p v) (hy : Tup3 s.heap q u) (h : Q (.bool (lex3 p q)) s) : wpAny (model prog w) A (richCompare .Lt v u) Q E s := by
  obtain ⟨a, t1, t2, t3, rfl, hx⟩ := hx
  obtain ⟨b, u1, u2, u3, rfl, hy⟩ := hy
  exact wpAny_richCompare_same_room hx.typeIs hy.typeIs F.slot_tuple_lt (wpAny_call_entry F.slot_tuple_lt hx.typeIs F.entry_tuple_lt (lt_tree3 hx hy ⟨_, rfl, fun e => (nomatch e), h⟩) (F.args_tuple_lt_2 _ _)) hu

/-- the first of the least -/
noncomputable def least3 (ps : List (Int × Int × Int)) : Nat → Nat
  | 0 => 0
  | k + 1 => if lex3 (ps[k + 1]?.getD (0, 0, 0)) (ps[least3 ps k]?.getD (0, 0, 0)) then k + 1 else least3 ps k
theorem least3_le (ps : List (Int × Int × Int)) : ∀ k, least3 ps k ≤ k
  | 0 => Nat.le_refl _
  | k + 1 => by
    unfold least3
    have := least3_le ps k
    split <;> omega
theorem min_loop3 {R : Result → Shared → Prop} {I ax S : Addr} {items : Array Value} {ps : List (Int × Int × Int)} {hB : Heap} (hh : A.handled = none) (hu : A.units + 1 < cLine) (hsz : items.size = ps.length) (haI : ax ≠ I) (haS : ax ≠ S) (hIS : I ≠ S)
    (hl : hB.IsList ax items) (hT : ∀ (i : Nat) (p : Int × Int × Int), ps[i]? = some p → ∃ v, items[i]? = some v ∧ Tup3 hB p v) (hTS : ∀ (i : Nat) (p : Int × Int × Int) (a : Addr), ps[i]? = some p → items[i]? = some (Value.ref a) → a ≠ I ∧ a ≠ S) :
    ∀ (k j : Nat) (s : Shared) (vb : Value) (c : Nat), ps.length - (j + 1) = k → j + 1 ≤ ps.length → s.heap.IsListIter I ax (j + 1) → items[least3 ps j]? = some vb → (∀ b o, b ≠ I → b ≠ S → hB.get? b = some o → s.heap.get? b = some o) →
    s.heap.get? S = some { cls := .type "list", dict := none, data := .seq #[vb, vb] c, slots := #[] } →
    (∀ v h' tk, items[least3 ps (ps.length - 1)]? = some v → (∀ b o, b ≠ I → b ≠ S → s.heap.get? b = some o → h'.get? b = some o) → R (.ok (.ret v)) { s with heap := h', toks := tk }) →
    codeAny (model prog w) A (.builtin "min.loop" ⟨[.ref I, .none, .ref S], []⟩) R s := by
  have hname : (toString "min" ++ toString ".loop" : String) = "min.loop" := by decide
  have tupAt : ∀ {h : Heap} {i : Nat} {v : Value}, (∀ b o, b ≠ I → b ≠ S → hB.get? b = some o → h.get? b = some o) → items[i]? = some v → i < ps.length → Tup3 h (ps[i]?.getD (0, 0, 0)) v := fun {h i v} hk hv hi => by
    have hp : ps[i]? = some ps[i] := List.getElem?_eq_getElem hi
    obtain ⟨v', e, a, t1, t2, t3, rfl, o, ho, r⟩ := hT i _ hp
    rw [hv] at e; cases e
    rw [hp]
    have := hTS i _ a hp hv
    exact ⟨a, t1, t2, t3, rfl, o, hk a o this.1 this.2 ho, r⟩
  intro k
  induction k with
  | zero =>
    intro j s vb c hk hj hit hb hkeep hS hR
    have hin : j + 1 = ps.length := by omega
    refine codeAny_builtin F.entry_min_loop ?_
    rw [Around.under_plainId F.plain_min_loop _]
    show wpAny _ A.in1 (seqItems? (.ref S) >>= _) _ _ s
    refine wpAny_bind (wpAny_seqItems hS rfl ?_)
    show wpAny _ A.in1 (tryCatch (pyNext (.ref I)) _ >>= _) _ _ s
    have hlS : s.heap.IsList ax items := by obtain ⟨o, e, r⟩ := hl; exact ⟨o, hkeep ax o haI haS e, r⟩
    refine wpAny_bind (wpAny_tryCatch (wpAny_pyNext_list_end hh hit hlS (by rw [Array.getElem?_eq_none]; omega) fun h' he' => ?_))
    have hS' := he' S _ hIS.symm hS
    show wpAny _ A.in1 (updateSeq S (fun _ => #[]) >>= _) _ _ _
    refine wpAny_bind (wpAny_updateSeq hS' rfl (wpAny_bind (wpAny_letGo (wpAny_pure ?_))))
    refine hR vb _ s.toks (by rw [show ps.length - 1 = j by omega]; exact hb) fun b o hbI hbS e => (Heap.get?_update_other _ _ (Ne.symm hbS)).trans (he' b o hbI e)
  | succ k ih =>
    intro j s vb c hk hj hit hb hkeep hS hR
    have hlt : j + 1 < ps.length := by omega
    refine codeAny_builtin F.entry_min_loop ?_
    rw [Around.under_plainId F.plain_min_loop _]
    show wpAny _ A.in1 (seqItems? (.ref S) >>= _) _ _ s
    refine wpAny_bind (wpAny_seqItems hS rfl ?_)
    show wpAny _ A.in1 (tryCatch (pyNext (.ref I)) _ >>= _) _ _ s
    have hlS : s.heap.IsList ax items := by obtain ⟨o, e, r⟩ := hl; exact ⟨o, hkeep ax o haI haS e, r⟩
    have hx : items[j + 1]? = some (items[j + 1]'(by omega)) := Array.getElem?_eq_getElem (by omega)
    generalize items[j + 1]'(by omega) = v at hx
    refine wpAny_bind (wpAny_tryCatch (wpAny_pyNext_list_item hit hlS hx fun h' hit' hs' => ?_))
    have hkeep' : ∀ b o, b ≠ I → b ≠ S → hB.get? b = some o → h'.get? b = some o := fun b o h1 h2 e => hs'.extBut b o h1 (hkeep b o h1 h2 e)
    have hS' := hs'.extBut S _ hIS.symm hS
    show wpAny _ A.in1 (tryCatch (holding [v, v] (richCompare .Lt v vb >>= _)) _ >>= _) _ _ _
    refine wpAny_bind (wpAny_tryCatch (wpAny_holding (wpAny_bind (lt_tup3 hu (tupAt hkeep' hx hlt) (tupAt hkeep' hb (by have := least3_le ps j; omega)) ?_))))
    refine wpAny_bind (wpAny_holding (wpAny_truthy_bool ?_))
    refine wpAny_bind (wpAny_letGo (wpAny_pure ?_))
    cases hbt : lex3 (ps[j + 1]?.getD (0, 0, 0)) (ps[least3 ps j]?.getD (0, 0, 0)) with
    | true =>
      simp only [if_true]
      refine wpAny_bind (wpAny_updateSeq hS' rfl (wpAny_bind (wpAny_letGo ?_)))
      rw [hname]
      refine wpAny_pure ⟨plainId_quiet F.plain_min_loop _, ih (j + 1) _ v _ (by omega) hlt ?_ (by simp only [least3, hbt, if_true]; exact hx) (fun b o h1 h2 e => (Heap.get?_update_other _ _ (Ne.symm h2)).trans (hkeep' b o h1 h2 e)) (Heap.get?_update_self _ hS' rfl) fun v' h'' tk'' hP' hk'' => ?_⟩
      · obtain ⟨o, e, r⟩ := hit'
        exact ⟨o, (Heap.get?_update_other _ _ (Ne.symm hIS)).trans e, r⟩
      · exact hR v' h'' tk'' hP' fun b o h1 h2 e => hk'' b o h1 h2 ((Heap.get?_update_other _ _ (Ne.symm h2)).trans (hs'.extBut b o h1 e))
    | false =>
      simp only [Bool.false_eq_true, if_false]
      refine wpAny_bind (wpAny_letGo ?_)
      rw [hname]
      refine wpAny_pure ⟨plainId_quiet F.plain_min_loop _, ih (j + 1) _ vb c (by omega) hlt hit' (by simp only [least3, hbt, Bool.false_eq_true, if_false]; exact hb) hkeep' hS' fun v' h'' tk'' hP' hk'' => ?_⟩
      exact hR v' h'' tk'' hP' fun b o h1 h2 e => hk'' b o h1 h2 (hs'.extBut b o h1 e)
end

noncomputable def tupD (p : Int × Int × Int) : PyData := .tuple [.int p.1, .int p.2.1, .int p.2.2]
theorem rd_tup3 {ok : Addr → Prop} {h : Heap} {p : Int × Int × Int} {v : Value} (x : Rd ok h (tupD p) v) : ∃ a, v = .ref a ∧ ok a ∧ Tup3 h p v := by
  obtain ⟨a, vs, rfl, oka, hT, hr⟩ := Rd_tuple.mp x
  obtain ⟨v1, v2, v3, e, r1, r2, r3⟩ := hr.three_
  obtain ⟨t1, rfl⟩ := Rd_int.mp r1
  obtain ⟨t2, rfl⟩ := Rd_int.mp r2
  obtain ⟨t3, rfl⟩ := Rd_int.mp r3
  have : vs = #[.int p.1 t1, .int p.2.1 t2, .int p.2.2 t3] := by rw [← Array.toList_inj]; exact e
  subst this
  exact ⟨a, rfl, oka, a, t1, t2, t3, rfl, hT⟩
theorem call_min3 {C : Cx} (hC : C.Ok) {ps : List (Int × Int × Int)} (hn : 0 < ps.length) (hn' : ps.length ≤ 1000000) : CallD C (.builtin "min") [.list (ps.map tupD)] (tupD (ps[least3 ps (ps.length - 1)]?.getD (0, 0, 0))) := fun s vs k x => by
  obtain ⟨v, rfl, ha⟩ := x.one_
  obtain ⟨ax, items, rfl, _, hl, hr⟩ := Rd_list.mp ha
  have hsz : items.size = ps.length := by rw [rdAll_size hr, List.length_map]
  have hlt : ax < s.heap.objs.size := lt_of_list hl
  have hname : (toString "min" ++ toString ".loop" : String) = "min.loop" := by decide
  refine call_function_tree F.kind_min F.plain_min F.entry_min (F.args_min1 _) ?_
  show wpAny _ C.A.in1 (Builtin.Builtins.bindParams "min" ["key", "default"] 0 ⟨[], []⟩ >>= _) _ _ s
  refine wpAny_bind (wpAny_of_eq (show Builtin.Builtins.bindParams "min" ["key", "default"] 0 ⟨[], []⟩ = pure [none, none] from rfl) ?_)
  refine wpAny_bind (wpAny_pure ?_)
  refine wpAny_bind (wpAny_pyIter_list hl ?_)
  refine wpAny_bind (wpAny_newObj_type ?_)
  rw [hname]
  have hgetT : ∀ (i : Nat) (p : Int × Int × Int), ps[i]? = some p → ∃ v, items[i]? = some v ∧ Rd C.ok s.heap (tupD p) v := fun i p hp => by
    obtain ⟨v, h1, h2⟩ := rdAll_map_get hr i p hp
    exact ⟨v, h1, h2⟩
  have hx0 : items[0]? = some (items[0]'(by omega)) := Array.getElem?_eq_getElem (by omega)
  generalize items[0]'(by omega) = v0 at hx0
  -- the two new objects: the iterator and the list of the best
  generalize hI : s.heap.objs.size = I
  have e1 : (s.heap.push { cls := .type "list_iterator", data := .fields #[.ref ax, .int 0 0] }).objs.size = I + 1 := by rw [Heap.size_push, hI]
  rw [e1]
  have hitI : ((s.heap.push { cls := .type "list_iterator", data := .fields #[.ref ax, .int 0 0] }).push { cls := .type "list", dict := none, data := .seq ([] : List Value).toArray }).IsListIter I ax 0 := ⟨_, Heap.get?_push_of_some _ (hI ▸ Heap.get?_push_size _ rfl), rfl, rfl⟩
  have hSS : ((s.heap.push { cls := .type "list_iterator", data := .fields #[.ref ax, .int 0 0] }).push { cls := .type "list", dict := none, data := .seq ([] : List Value).toArray }).get? (I + 1) = some { cls := .type "list", dict := none, data := .seq #[], slots := #[] } := by rw [← e1]; exact Heap.get?_push_size _ rfl
  have kk : ∀ b o, s.heap.get? b = some o → ((s.heap.push { cls := .type "list_iterator", data := .fields #[.ref ax, .int 0 0] }).push { cls := .type "list", dict := none, data := .seq ([] : List Value).toArray }).get? b = some o := fun b o e => Heap.get?_push_of_some _ (Heap.get?_push_of_some _ e)
  have hlS := (isList_kp (s' := { s with heap := (s.heap.push { cls := .type "list_iterator", data := .fields #[.ref ax, .int 0 0] }).push { cls := .type "list", dict := none, data := .seq ([] : List Value).toArray } }) hl (Kp.of kk s.toks))
  generalize ((s.heap.push { cls := .type "list_iterator", data := .fields #[.ref ax, .int 0 0] }).push { cls := .type "list", dict := none, data := .seq ([] : List Value).toArray }) = h2 at *
  have neI : ∀ {b : Addr} {o : Obj}, s.heap.get? b = some o → b ≠ I ∧ b ≠ I + 1 := fun {b o} e => by
    have := Heap.lt_size e
    rw [hI] at this
    exact ⟨Nat.ne_of_lt this, Nat.ne_of_lt (Nat.lt_succ_of_lt this)⟩
  have hax : ax ≠ I ∧ ax ≠ I + 1 := by obtain ⟨o, e, _⟩ := hl; exact neI e
  have hII : I ≠ I + 1 := Nat.ne_of_lt (Nat.lt_succ_self _)
  refine wpAny_pure ⟨plainId_quiet F.plain_min_loop _, codeAny_builtin F.entry_min_loop ?_⟩
  rw [Around.under_plainId F.plain_min_loop _]
  show wpAny _ C.A.in1 (seqItems? (.ref (I + 1)) >>= _) _ _ _
  refine wpAny_bind (wpAny_seqItems hSS rfl ?_)
  show wpAny _ C.A.in1 (tryCatch (pyNext (.ref I)) _ >>= _) _ _ _
  refine wpAny_bind (wpAny_tryCatch (wpAny_pyNext_list_item hitI hlS hx0 fun h' hit' hs' => ?_))
  have hS' := hs'.extBut (I + 1) _ hII.symm hSS
  show wpAny _ C.A.in1 (updateSeq (I + 1) (fun _ => #[v0, v0]) >>= _) _ _ _
  refine wpAny_bind (wpAny_updateSeq hS' rfl ?_)
  rw [hname]
  refine wpAny_pure ⟨plainId_quiet F.plain_min_loop _, min_loop3 (hB := s.heap) hC.hand (by have := hC.units; omega) hsz hax.1 hax.2 hII hl (fun i p hp => ?_) (fun i p a hp ha => ?_) _ 0 _ v0 _ rfl hn ?_ hx0 (fun b o h1 h2 e => (Heap.get?_update_other _ _ (Ne.symm h2)).trans (hs'.extBut b o h1 (kk b o e))) (Heap.get?_update_self _ hS' rfl) fun v h'' tk hv hk => ⟨?_, ?_⟩⟩
  · obtain ⟨v, h1, h3⟩ := hgetT i p hp
    obtain ⟨a, rfl, _, h4⟩ := rd_tup3 h3
    exact ⟨_, h1, h4⟩
  · obtain ⟨v, h1, h3⟩ := hgetT i p hp
    obtain ⟨a', rfl, _, h4⟩ := rd_tup3 h3
    rw [ha] at h1; cases h1
    obtain ⟨a'', _, _, _, e, o, ho, _⟩ := h4
    cases e
    exact neI ho
  · obtain ⟨o, e, r⟩ := hit'
    exact ⟨o, (Heap.get?_update_other _ _ hII.symm).trans e, r⟩
  · exact Kp.of (fun b o e => hk b o (neI e).1 (neI e).2 ((Heap.get?_update_other _ _ (Ne.symm (neI e).2)).trans (hs'.extBut b o (neI e).1 (kk b o e)))) tk
  · have hle := least3_le ps (ps.length - 1)
    have hp : ps[least3 ps (ps.length - 1)]? = some ps[least3 ps (ps.length - 1)] := List.getElem?_eq_getElem (by omega)
    obtain ⟨v', h1, h3⟩ := hgetT _ _ hp
    rw [hv] at h1; cases h1
    rw [hp]
    exact Rd.mv (.of_keep fun b o e => hk b o (neI e).1 (neI e).2 ((Heap.get?_update_other _ _ (Ne.symm (neI e).2)).trans (hs'.extBut b o (neI e).1 (kk b o e)))) (fun _ _ z _ => z) _ _ h3
/-! ## a statement that leaves the lists alone -/
noncomputable abbrev Fx.all (X : Fx) : Fx := { X with kp := fun _ => True }
theorem Fx.Gd.all {X : Fx} (hX : X.Gd) : X.all.Gd := ⟨hX.eg, hX.eb, hX.g, hX.b, hX.hand, hX.units, hX.pyl, fun _ _ => trivial⟩
theorem FS.full {X : Fx} {hB : Heap} {ρ : List (Str × Sp)} {s : Shared} (f : FS X hB ρ s) : FS X.all s.heap ρ s := ⟨f.F, f.ok, .refl _ _⟩
theorem FS.back {X : Fx} {hB : Heap} {ρ ρ' : List (Str × Sp)} {s s' : Shared} (f : FS X hB ρ s) (g : FS X.all s.heap ρ' s') : FS X hB ρ' s' := ⟨g.F, g.ok, f.mv.trans g.mv.of_true⟩

/-! ## neighbour joining, plainly -/
noncomputable def tget (t : List (List Int)) (i j : Nat) : Int := (t[i]?.getD [])[j]?.getD 0
noncomputable def sumsOf (t : List (List Int)) : List Int := t.map List.sum
noncomputable def cand (t : List (List Int)) (n : Nat) : List (Int × Int × Int) := (List.range n).flatMap fun j => (List.range j).map fun i => (((n : Int) - 2) * tget t i j - (sumsOf t)[i]?.getD 0 - (sumsOf t)[j]?.getD 0, (i : Int), (j : Int))
noncomputable def pickAB (t : List (List Int)) (n : Nat) : Int × Int × Int := (cand t n)[least3 (cand t n) ((cand t n).length - 1)]?.getD (0, 0, 0)
noncomputable def insI (x : Int) : List Int → List Int
  | [] => [x]
  | y :: r => if x ≤ y then x :: y :: r else y :: insI x r
noncomputable def sortI : List Int → List Int
  | [] => []
  | x :: r => insI x (sortI r)
structure JS where
  t : List (List Int)
  g : List (List Int)
  ls : List (List Int × Int)
noncomputable def JS.a (J : JS) : Nat := (pickAB J.t J.g.length).2.1.toNat
noncomputable def JS.b (J : JS) : Nat := (pickAB J.t J.g.length).2.2.toNat
noncomputable def JS.others (J : JS) : List Nat := (List.range J.g.length).filter fun k => decide (k ≠ J.a) && decide (k ≠ J.b)
noncomputable def JS.c (J : JS) : Nat := J.others[0]?.getD 0
noncomputable def JS.met (J : JS) : List Int := J.others.map fun k => (tget J.t J.a k + tget J.t J.b k - tget J.t J.a J.b).fdiv 2
noncomputable def JS.next (J : JS) : JS where
  t := (0 :: J.met) :: (J.met.zip J.others).map fun p => p.1 :: J.others.map fun j => tget J.t p.2 j
  g := sortI (J.g[J.a]?.getD [] ++ J.g[J.b]?.getD []) :: J.others.map fun k => J.g[k]?.getD []
  ls := J.ls ++ [(J.g[J.a]?.getD [], tget J.t J.a J.b + tget J.t J.a J.c - tget J.t J.b J.c), (J.g[J.b]?.getD [], tget J.t J.a J.b + tget J.t J.b J.c - tget J.t J.a J.c)]
noncomputable def JS.start (t : List (List Int)) : JS := ⟨t, (List.range t.length).map fun i : Nat => [(i : Int)], []⟩
noncomputable def JS.iter : Nat → JS → JS
  | 0, J => J
  | k + 1, J => (JS.iter k J).next
noncomputable def JS.fin (J : JS) : List (List Int × Int) := J.ls ++ [(0, 1, 2), (1, 2, 0), (2, 0, 1)].map fun (p : Nat × Nat × Nat) => (J.g[p.1]?.getD [], tget J.t p.1 p.2.1 + tget J.t p.1 p.2.2 - tget J.t p.2.1 p.2.2)
noncomputable def joined (t : List (List Int)) : List (List Int × Int) := (JS.iter (t.length - 3) (JS.start t)).fin
theorem least_mem {ps : List (Int × Int × Int)} (h : 0 < ps.length) : ps[least3 ps (ps.length - 1)]?.getD (0, 0, 0) ∈ ps := by
  have := least3_le ps (ps.length - 1)
  have hp : ps[least3 ps (ps.length - 1)]? = some ps[least3 ps (ps.length - 1)] := List.getElem?_eq_getElem (by omega)
  rw [hp]
  exact List.getElem_mem _
theorem cand_pos {t : List (List Int)} {n : Nat} (h : 2 ≤ n) : 0 < (cand t n).length := by
  refine List.length_pos_of_mem (a := (((n : Int) - 2) * tget t 0 1 - (sumsOf t)[0]?.getD 0 - (sumsOf t)[1]?.getD 0, ((0 : Nat) : Int), ((1 : Nat) : Int))) ?_
  exact List.mem_flatMap.mpr ⟨1, List.mem_range.mpr (by omega), List.mem_map.mpr ⟨0, List.mem_range.mpr (by omega), rfl⟩⟩
theorem pickAB_at {t : List (List Int)} {n : Nat} (h : 2 ≤ n) : ∃ i j : Nat, i < j ∧ j < n ∧ pickAB t n = (((n : Int) - 2) * tget t i j - (sumsOf t)[i]?.getD 0 - (sumsOf t)[j]?.getD 0, (i : Int), (j : Int)) := by
  have := least_mem (cand_pos (t := t) h)
  obtain ⟨j, hj, hm⟩ := List.mem_flatMap.mp this
  obtain ⟨i, hi, e⟩ := List.mem_map.mp hm
  exact ⟨i, j, List.mem_range.mp hi, List.mem_range.mp hj, e.symm⟩
structure JS.Sq (J : JS) : Prop where
  len : J.t.length = J.g.length
  row : ∀ r ∈ J.t, r.length = J.g.length
theorem JS.ab {J : JS} (h : 2 ≤ J.g.length) : J.a < J.b ∧ J.b < J.g.length ∧ pickAB J.t J.g.length = ((pickAB J.t J.g.length).1, (J.a : Int), (J.b : Int)) := by
  obtain ⟨i, j, h1, h2, e⟩ := pickAB_at (t := J.t) h
  unfold JS.a JS.b
  rw [e]
  simp only [Int.toNat_natCast]
  exact ⟨h1, h2, trivial⟩
theorem JS.others_len {J : JS} (h : 2 ≤ J.g.length) : J.others.length = J.g.length - 2 := by
  obtain ⟨h1, h2, _⟩ := JS.ab h
  unfold JS.others
  generalize J.a = a at *
  generalize J.b = b at *
  generalize J.g.length = n at *
  have key : ∀ n a b : Nat, a < b → b < n → ((List.range n).filter fun k => decide (k ≠ a) && decide (k ≠ b)).length = n - 2 := by
    intro n a b hab hbn
    have e1 : (List.range n).filter (fun k => decide (k ≠ a) && decide (k ≠ b)) = ((List.range n).filter fun k => decide (k ≠ b)).filter fun k => decide (k ≠ a) := by rw [List.filter_filter]
    have nd := List.nodup_range (n := n)
    have e2 : (List.range n).filter (fun k => decide (k ≠ b)) = (List.range n).erase b := by rw [nd.erase_eq_filter]; congr 1; funext k; simp [bne, BEq.beq]
    have nd2 := nd.erase b
    have e3 : ((List.range n).erase b).filter (fun k => decide (k ≠ a)) = ((List.range n).erase b).erase a := by rw [nd2.erase_eq_filter]; congr 1; funext k; simp [bne, BEq.beq]
    rw [e1, e2, e3, List.length_erase_of_mem, List.length_erase_of_mem (List.mem_range.mpr hbn), List.length_range]
    · omega
    · exact (List.mem_erase_of_ne (by omega)).mpr (List.mem_range.mpr (by omega))
  exact key n a b h1 h2
theorem JS.next_len {J : JS} (h : 2 ≤ J.g.length) : J.next.g.length = J.g.length - 1 := by
  show (_ :: J.others.map _).length = _
  rw [List.length_cons, List.length_map, JS.others_len h]; omega
theorem JS.next_sq {J : JS} (h : 2 ≤ J.g.length) : J.next.Sq := by
  have hl := JS.others_len h
  have hm : J.met.length = J.others.length := by unfold JS.met; simp
  refine ⟨?_, fun r hr => ?_⟩
  · rw [JS.next_len h]
    show (_ :: ((J.met.zip J.others).map _)).length = _
    simp only [List.length_cons, List.length_map, List.length_zip]
    omega
  · rw [JS.next_len h]
    rcases List.mem_cons.mp hr with rfl | hr
    · simp only [List.length_cons]; omega
    · obtain ⟨p, _, rfl⟩ := List.mem_map.mp hr
      simp only [List.length_cons, List.length_map]; omega
theorem JS.iter_len {t : List (List Int)} : ∀ k, k + 2 ≤ t.length → (JS.iter k (JS.start t)).g.length = t.length - k
  | 0, _ => by simp [JS.iter, JS.start]
  | k + 1, h => by
    show (JS.iter k (JS.start t)).next.g.length = _
    have ih := JS.iter_len (t := t) k (by omega)
    rw [JS.next_len (by omega), ih]; omega
theorem JS.iter_sq {t : List (List Int)} (hs : (JS.start t).Sq) : ∀ k, k + 2 ≤ t.length → (JS.iter k (JS.start t)).Sq
  | 0, _ => hs
  | k + 1, h => JS.next_sq (by rw [JS.iter_len k (by omega)]; omega)


/-! ## the groups: a partition all the way -/
theorem insI_perm (x : Int) : ∀ l, (insI x l).Perm (x :: l)
  | [] => .refl _
  | y :: r => by
    unfold insI
    split
    · exact .refl _
    · exact ((insI_perm x r).cons y).trans (.swap x y r)
theorem sortI_perm : ∀ l, (sortI l).Perm l
  | [] => .refl _
  | x :: r => (insI_perm x _).trans ((sortI_perm r).cons x)
theorem insI_sorted (x : Int) : ∀ l : List Int, l.Pairwise (· ≤ ·) → (insI x l).Pairwise (· ≤ ·)
  | [], _ => by simp [insI]
  | y :: r, h => by
    rw [List.pairwise_cons] at h
    unfold insI
    split
    · rename_i hxy
      rw [List.pairwise_cons, List.pairwise_cons]
      refine ⟨fun z hz => ?_, h⟩
      rcases List.mem_cons.mp hz with rfl | hz
      · exact hxy
      · exact Int.le_trans hxy (h.1 z hz)
    · rename_i hxy
      rw [List.pairwise_cons]
      refine ⟨fun z hz => ?_, insI_sorted x r h.2⟩
      rcases List.mem_cons.mp ((insI_perm x r).mem_iff.mp hz) with rfl | hz
      · omega
      · exact h.1 z hz
theorem sortI_sorted : ∀ l, (sortI l).Pairwise (· ≤ ·)
  | [] => .nil
  | x :: r => insI_sorted x _ (sortI_sorted r)
theorem sortI_unique {l l' : List Int} (p : l'.Perm l) (s : l'.Pairwise (· ≤ ·)) : l' = sortI l :=
  List.Perm.eq_of_pairwise (fun a b _ _ h h' => Int.le_antisymm h h') s (sortI_sorted l) (p.trans (sortI_perm l).symm)
noncomputable def JS.gat (J : JS) (i : Nat) : List Int := J.g[i]?.getD []
theorem JS.g_eq (J : JS) : J.g = (List.range J.g.length).map J.gat := by
  refine List.ext_getElem (by simp) fun i h1 h2 => ?_
  simp [JS.gat, h1]
theorem JS.others_mem {J : JS} {k : Nat} : k ∈ J.others ↔ k < J.g.length ∧ k ≠ J.a ∧ k ≠ J.b := by
  unfold JS.others
  rw [List.mem_filter, List.mem_range]
  simp
theorem JS.others_nodup {J : JS} : J.others.Nodup := List.nodup_range.sublist List.filter_sublist
theorem JS.ord {J : JS} (h : 2 ≤ J.g.length) : (J.a :: J.b :: J.others).Perm (List.range J.g.length) := by
  obtain ⟨h1, h2, _⟩ := JS.ab h
  refine (List.perm_ext_iff_of_nodup ?_ List.nodup_range).mpr fun k => ?_
  · rw [List.nodup_cons, List.nodup_cons]
    refine ⟨fun hm => ?_, fun hm => ?_, JS.others_nodup⟩
    · rcases List.mem_cons.mp hm with e | hm
      · omega
      · exact (JS.others_mem.mp hm).2.1 rfl
    · exact (JS.others_mem.mp hm).2.2 rfl
  · rw [List.mem_range, List.mem_cons, List.mem_cons, JS.others_mem]
    omega
theorem JS.flat {J : JS} : J.g.flatten = (List.range J.g.length).flatMap J.gat := by
  rw [List.flatMap_def, ← JS.g_eq]
theorem JS.next_flat {J : JS} (h : 2 ≤ J.g.length) : J.next.g.flatten.Perm J.g.flatten := by
  rw [JS.flat (J := J)]
  refine List.Perm.trans ?_ ((JS.ord h).flatMap_right J.gat)
  show (sortI (J.gat J.a ++ J.gat J.b) :: J.others.map J.gat).flatten.Perm _
  rw [List.flatten_cons, List.flatMap_cons, List.flatMap_cons, ← List.append_assoc, List.flatMap_def]
  exact (sortI_perm _).append_right _
theorem JS.iter_flat {t : List (List Int)} : ∀ k, k + 2 ≤ t.length → (JS.iter k (JS.start t)).g.flatten.Perm ((List.range t.length).map fun i : Nat => (i : Int))
  | 0, _ => by
    show (((List.range t.length).map fun i : Nat => [(i : Int)]).flatten).Perm _
    rw [← List.flatMap_def, flat_one]
  | k + 1, h => (JS.next_flat (by rw [JS.iter_len k (by omega)]; omega)).trans (JS.iter_flat k (by omega))
theorem JS.ab_len {J : JS} (h : 2 ≤ J.g.length) : (J.gat J.a ++ J.gat J.b).length ≤ J.g.flatten.length := by
  have := ((JS.ord h).flatMap_right J.gat).length_eq
  rw [List.flatMap_cons, List.flatMap_cons, List.length_append, List.length_append] at this
  rw [JS.flat, List.length_append]
  omega
/-! ## _law_joined -/
noncomputable def rowD (r : List Int) : PyData := .list (r.map .int)
noncomputable def tabD (t : List (List Int)) : PyData := .list (t.map rowD)
noncomputable def lenD (p : List Int × Int) : PyData := .tuple [rowD p.1, .int p.2]
noncomputable abbrev joX (prog : Program) (w : World) (A : Around) (a : Addr) (pm cd doc : Value) (ok : Addr → Prop) (s : Shared) (mg mb : Str → Option Value) : Fx := fxOf prog w A (fnAt 19 pm cd doc) a ok (fun _ => True) s mg mb

theorem Ev.emptyL {C : Cx} {pos : Pos} : Ev C (.List [] pos) (fun h v => ∃ D vs, v = .ref D ∧ C.s.heap.get? D = none ∧ PlainL h D vs ∧ RdAll (fun _ => False) h [] vs.toList) := fun s k =>
  wpAny_List (wpAny_items_nil ⟨by rw [sizeLine_eq]; decide, Kp.push _ _, _, #[], rfl, Kp.none k (get_size _), ⟨_, 0, Heap.get?_push_size _ rfl, rfl, rfl, rfl⟩, by simp only [RdAll]⟩)
noncomputable def whileBody : Option Stmt → List Stmt
  | some (.While _ b _ _) => b
  | _ => []
noncomputable def turnBody : List Stmt := whileBody (bodyAt 19)[2]?
theorem tget_row {t : List (List Int)} {n i : Nat} (hl : t.length = n) (hr : ∀ r ∈ t, r.length = n) (hi : i < n) : ∃ r, t[i]? = some r ∧ r.length = n := by
  have : i < t.length := by omega
  exact ⟨t[i], List.getElem?_eq_getElem this, hr _ (List.getElem_mem this)⟩
/-- table[i][j] -/
theorem Ev.tab {C : Cx} {e1 e2 e3 : Expr} {p p' : Pos} {t : List (List Int)} {n i j : Nat} (h1 : EvD C e1 (tabD t)) (h2 : EvD C e2 (.int (i : Nat))) (h3 : EvD C e3 (.int (j : Nat))) (hl : t.length = n) (hr : ∀ r ∈ t, r.length = n) (hi : i < n) (hj : j < n) (hn : n ≤ 1000)
    (hs : ∀ o i, subscripted e2 false o i = operate [o, i] (getItem o i) := by intro _ _; rfl) (hs' : ∀ o i, subscripted e3 false o i = operate [o, i] (getItem o i) := by intro _ _; rfl) : EvD C (.Subscript (.Subscript e1 e2 p) e3 p') (.int (tget t i j)) := by
  obtain ⟨r, e, hrl⟩ := tget_row hl hr hi
  refine Ev.item (ds := r.map .int) (Ev.item (ds := t.map rowD) (d := rowD r) h1 h2 (by omega) (by omega) (by simp [e]) hs) h3 (by omega) (by omega) ?_ hs'
  have : j < r.length := by omega
  simp [tget, e, this]
theorem mul_small {a : Int} (h0 : -1000 ≤ a) (h1 : a ≤ 1000) (b : Int) : IntMulOk a b := by
  exact IntMulOk.of_left (intBits_le_64 (by omega) (by omega))
theorem sh_one {scope : Scope} {ρ bs : List (Str × Sp)} {x z : Str} {sp0 sp' : Sp} (hl : scope.names.lookup x = some .local) (hn : bs.lookup x = none) (h : (bs ++ freeOf scope ρ).lookup z = some sp') : [(x, sp0)].lookup z = none := by
  rw [List.lookup_cons]
  by_cases e : z = x
  · subst e
    rw [lookup_append_none hn] at h
    obtain ⟨_, h2⟩ := freeOf_lookup h
    rw [hl] at h2; cases h2
  · rw [show (z == x) = false from by simpa using e]; rfl
theorem ints_at {l : List Int} {i : Nat} (h : i < l.length) : (l.map PyData.int)[((i : Nat) : Int).toNat]? = some (.int (l[i]?.getD 0)) := by
  rw [Int.toNat_natCast]; simp [h]
theorem ne_cast {i j : Nat} : (((i : Nat) : Int) != ((j : Nat) : Int)) = decide (i ≠ j) := by
  by_cases h : i = j
  · subst h; simp
  · rw [decide_eq_true h]; exact bne_iff_ne.mpr (by omega)
theorem call_sortedD {C : Cx} (hC : C.Ok) {ns : List Int} (hn : ns.length < 64) : CallD C (.builtin "sorted") [rowD ns] (rowD (sortI ns)) := fun s vs k x =>
  wpAny_mono (call_sortedL hC hn s vs k x) (fun r s' ⟨k', ns', p, q, h⟩ => ⟨k', by rw [sortI_unique p q] at h; exact h⟩) fun _ _ y => y
theorem JS.c_mem {J : JS} (h : 3 ≤ J.g.length) : J.c ∈ J.others := by
  have := JS.others_len (J := J) (by omega)
  have h0 : 0 < J.others.length := by omega
  unfold JS.c
  rw [List.getElem?_eq_getElem h0]
  exact List.getElem_mem h0
noncomputable def JS.metf (J : JS) (k : Nat) : Int := (tget J.t J.a k + tget J.t J.b k - tget J.t J.a J.b).fdiv 2
theorem zip_self_map {α β : Type} (f : α → β) : ∀ l : List α, (l.map f).zip l = l.map fun x => (f x, x)
  | [] => rfl
  | x :: r => by simp [zip_self_map f r]
theorem JS.next_t (J : JS) : J.next.t = (0 :: J.met) :: J.others.map fun k => J.metf k :: J.others.map fun j => tget J.t k j := by
  show (0 :: J.met) :: (((J.others.map J.metf).zip J.others).map _) = _
  rw [zip_self_map, List.map_map]; rfl
theorem flat_len {α β : Type} {f : α → List β} {k : Nat} : ∀ {l : List α}, (∀ x ∈ l, (f x).length ≤ k) → (l.flatMap f).length ≤ l.length * k
  | [], _ => by simp
  | x :: r, h => by
    have h1 := h x List.mem_cons_self
    have h2 := flat_len (l := r) fun y hy => h y (List.mem_cons_of_mem _ hy)
    rw [List.flatMap_cons, List.length_append, List.length_cons, Nat.succ_mul]; omega
theorem cand_len {t : List (List Int)} {n : Nat} (h : n ≤ 60) : (cand t n).length ≤ 3600 := by
  have := flat_len (f := fun j => (List.range j).map fun i => (((n : Int) - 2) * tget t i j - (sumsOf t)[i]?.getD 0 - (sumsOf t)[j]?.getD 0, (i : Int), (j : Int))) (k := 60) (l := List.range n) fun x hx => by have := List.mem_range.mp hx; simp; omega
  unfold cand
  rw [List.length_range] at this
  omega
theorem cand_map {t : List (List Int)} {n : Nat} : (cand t n).map tupD = (List.range n).flatMap fun j => (List.range j).map fun i : Nat => tupD (((n : Int) - 2) * tget t i j - (sumsOf t)[i]?.getD 0 - (sumsOf t)[j]?.getD 0, (i : Int), (j : Int)) := by
  unfold cand
  rw [List.map_flatMap]
  congr 1
  funext j
  rw [List.map_map]; rfl
set_option maxHeartbeats 4000000 in
theorem join_turn {prog : Program} {w : World} {A : Around} {a : Addr} {pm cd doc : Value} {ok : Addr → Prop} {s : Shared} {mg mb : Str → Option Value} (hX : (joX prog w A a pm cd doc ok s mg mb).Gd) (B : Bis mg mb) {J : JS} (hJ : J.Sq) (h4 : 4 ≤ J.g.length) (h6 : J.g.length ≤ 60) (hls : J.ls.length ≤ 1000) (hfl : J.g.flatten.length ≤ 60) {D : Addr} {hB : Heap} {s₁ : Shared}
    (hD0 : s.heap.get? D = none) (f : FS ((joX prog w A a pm cd doc ok s mg mb).hole D) hB [("lengths", .val (.ref D)), ("groups", .dat (tabD J.g)), ("table", .dat (tabD J.t))] s₁) (H : Hole (fun a => ok a ∧ a ≠ D) D (J.ls.map lenD) s₁.heap) {Q : Flow → Shared → Prop}
    (h : ∀ s', FS ((joX prog w A a pm cd doc ok s mg mb).hole D) hB [("lengths", .val (.ref D)), ("groups", .dat (tabD J.next.g)), ("table", .dat (tabD J.next.t))] s' → Hole (fun a => ok a ∧ a ≠ D) D (J.next.ls.map lenD) s'.heap → Q .next s') :
    wpAny (joX prog w A a pm cd doc ok s mg mb).m (joX prog w A a pm cd doc ok s mg mb).A (execs turnBody (joX prog w A a pm cd doc ok s mg mb).env) Q (fun _ _ => False) s₁ := by
  have hX₁ := hX.hole D
  have hC := f.cx hX₁
  refine FS.seq (FS.setM f (d := .int (J.g.length : Nat)) ?_ (.inr ⟨rfl, rfl, ⟨_, rfl⟩⟩) fun s₂ f₂ m₂ => ?_)
  · exact Ev.cast (Ev.callB (by walk_at "fn") (EvL.cons (Ev.nameD hC rfl) EvL.nil) (call_lenL (by rw [List.length_map]; omega))) (by rw [List.length_map])
  have H₂ := H.mv m₂ trivial fun _ _ => trivial
  have hC₂ := f₂.cx hX₁
  refine FS.seq (FS.setM f₂ (d := rowD (sumsOf J.t)) ?_ (.inr ⟨rfl, rfl, ⟨_, rfl⟩⟩) fun s₃ f₃ m₃ => ?_)
  · refine Ev.cast (Ev.comp hC₂ (P := fun _ h v => Rd (fun a => ok a ∧ a ≠ D) h (.list (J.t.map rowD)) v) ["row"] (fun s' k' => ?_) (Iters.list hC₂) (fun r => [("row", .dat (rowD r))]) (fun x _ => .name) (fun x _ => rfl) (by kernel_rfl) (fun _ => true) (fun r : List Int => PyData.int r.sum) (by rw [hJ.len]; omega) (fun x _ cenv ok' s' hC'' hsc k' => .nil) (fun x hx _ cenv ok' s' hC'' hsc k' => ?_)) ?_
    · have hC'' := hC₂.at k'
      exact Ev.nameD hC'' rfl
    · exact Ev.callB (by walk_at "fn") (EvL.cons (Ev.nameD hC'' rfl) EvL.nil) (call_sumL hC'')
    · rw [List.filter_eq_self.mpr (fun _ _ => rfl)]
      unfold rowD sumsOf
      rw [List.map_map]; rfl
  have H₃ := H₂.mv m₃ trivial fun _ _ => trivial
  have hC₃ := f₃.cx hX₁
  have hnm : IntMulOk ((J.g.length : Int) - 2) = IntMulOk ((J.g.length : Int) - 2) := rfl
  have hmul : ∀ z, IntMulOk ((J.g.length : Int) - 2) z := fun z => mul_small (by omega) (by omega) z
  obtain ⟨hab, hbn, hpick⟩ := JS.ab (J := J) (by omega)
  refine FS.seq (FS.setT hX₁.all f₃.full (d := tupD (pickAB J.t J.g.length)) ?_ .triple (own3 (.inr ⟨rfl, rfl, ⟨_, rfl⟩⟩) (.inr ⟨rfl, rfl, ⟨_, rfl⟩⟩) (.inl rfl)) fun s₄ g₄ => ?_)
  · refine Ev.cast (Ev.callB (by walk_at "fn") (EvL.cons (Ev.cast (d' := .list ((cand J.t J.g.length).map tupD)) (Ev.comp2 hC₃ (P := fun _ h v => RangeOf (fun a => ok a ∧ a ≠ D) 0 ((J.g.length : Nat) : Int) 1 h v) (l := List.range J.g.length) (sp := fun i : Nat => .dat (.int i)) ["j"] (fun s' k' => ?_) (Iters.range hC₃ (by omega)) (fun i => [("j", .dat (.int (i : Nat)))]) (fun x _ => .name) (fun x _ => rfl) (by kernel_rfl)
      (P2 := fun j ok' _ h v => RangeOf ok' 0 ((j : Nat) : Int) 1 h v) (fun j => List.range j) (fun _ i => .dat (.int (i : Nat))) (fun _ i => [("i", .dat (.int (i : Nat)))]) (fun j hj cenv ok' s' hC' hsc => ?_) (fun j hj cenv ok' s' hC' => Iters.range hC' (by have := List.mem_range.mp hj; omega)) (fun _ _ _ _ => .name) (fun _ _ _ _ b hb => ?_) (fun _ _ _ _ => ?_)
      (fun j i => tupD (((J.g.length : Int) - 2) * tget J.t i j - (sumsOf J.t)[i]?.getD 0 - (sumsOf J.t)[j]?.getD 0, (i : Int), (j : Int))) ?_ (fun j hj i hi cenv ok' s' hC' hsc => ?_)) ?_) EvL.nil) (call_min3 hC₃ (cand_pos (by omega)) ?_)) ?_
    · have hC'' := hC₃.at k'
      exact Ev.callT (T := "range") (ds := [.int (J.g.length : Nat)]) (by walk_at "fn") (EvL.cons (Ev.nameD hC'' rfl) EvL.nil) call_range1
    · exact Ev.callT (T := "range") (ds := [.int (j : Nat)]) (by walk_at "fn") (EvL.cons (Ev.nameD hC' rfl) EvL.nil) call_range1
    · obtain rfl := List.mem_singleton.mp hb
      rfl
    · exact fun z sp' h => sh_one rfl rfl h
    · rw [← cand_map, List.length_map]; have := cand_len (t := J.t) h6; omega
    · have hj' := List.mem_range.mp hj
      have hi' := List.mem_range.mp hi
      show EvD _ _ (.tuple [.int _, .int _, .int _])
      refine Ev.tuple hC' (EvL.cons (Ev.binop (Ev.binop (Ev.binop (Ev.binop (by walk_at "ev") (by walk_at "ev") bin_sub) (Ev.tab (by walk_at "ev") (by walk_at "ev") (by walk_at "ev") hJ.len hJ.row (by omega) (by omega) (by omega)) (bin_mul (hmul _))) (Ev.item (ds := (sumsOf J.t).map .int) (k := ((i : Nat) : Int)) (by walk_at "ev") (by walk_at "ev") (by omega) (by omega) ?_) bin_sub) (Ev.item (ds := (sumsOf J.t).map .int) (k := ((j : Nat) : Int)) (by walk_at "ev") (by walk_at "ev") (by omega) (by omega) ?_) bin_sub) (by walk_at "args")) (Nat.le_of_ble_eq_true rfl)
      · exact ints_at (by unfold sumsOf; rw [List.length_map, hJ.len]; omega)
      · exact ints_at (by unfold sumsOf; rw [List.length_map, hJ.len]; omega)
    · rw [cand_map]
    · have := cand_len (t := J.t) h6; omega
    · rfl
  have f₄ := f₃.back g₄
  have H₄ := H₃.mv g₄.mv trivial fun _ _ => trivial
  rw [hpick] at f₄ g₄
  have f₄ := f₄.sub (ρ' := [("a", .dat (.int (J.a : Nat))), ("b", .dat (.int (J.b : Nat))), ("n", .dat (.int (J.g.length : Nat))), ("lengths", .val (.ref D)), ("groups", .dat (tabD J.g)), ("table", .dat (tabD J.t))]) (sub_cons rfl (sub_cons rfl (sub_cons rfl (sub_cons rfl (sub_cons rfl (sub_cons rfl sub_nil))))))
  have hC₄ := f₄.cx hX₁
  refine FS.seq (FS.setM f₄ (d := .list (J.others.map fun k : Nat => .int k)) ?_ (.inr ⟨rfl, rfl, ⟨_, rfl⟩⟩) fun s₅ f₅ m₅ => ?_)
  · refine Ev.comp hC₄ (P := fun _ h v => RangeOf (fun a => ok a ∧ a ≠ D) 0 ((J.g.length : Nat) : Int) 1 h v) ["k"] (fun s' k' => ?_) (Iters.range hC₄ (by omega)) (fun i => [("k", .dat (.int (i : Nat)))]) (fun x _ => .name) (fun x _ => rfl) (by kernel_rfl) (fun k => decide (k ≠ J.a) && decide (k ≠ J.b)) (fun i : Nat => PyData.int i) (by simp; omega) (fun x _ cenv ok' s' hC'' hsc k' => .one ?_) (fun x hx _ cenv ok' s' hC'' hsc k' => ?_)
    · have hC'' := hC₄.at k'
      exact Ev.callT (T := "range") (ds := [.int (J.g.length : Nat)]) (by walk_at "fn") (EvL.cons (Ev.nameD hC'' rfl) EvL.nil) call_range1
    · refine Ts.cast (Ts.ops (TsA.and (by walk_at "ts") fun _ => TsA.and (by walk_at "ts") fun _ => TsA.and0)) ?_
      rw [ne_cast, ne_cast, Bool.and_true]
    · walk_at "ev"
  have H₅ := H₄.mv m₅ trivial fun _ _ => trivial
  have hC₅ := f₅.cx hX₁
  have hol := JS.others_len (J := J) (by omega)
  refine FS.seq (FS.setM f₅ (d := .int (J.c : Nat)) (Ev.item (k := 0) (ds := J.others.map fun k : Nat => .int k) (by walk_at "ev") (by walk_at "ev") (by omega) (by omega) ?_) (.inl rfl) fun s₆ f₆ m₆ => ?_)
  · have : 0 < J.others.length := by omega
    unfold JS.c; simp [this]
  have H₆ := H₅.mv m₆ trivial fun _ _ => trivial
  have hC₆ := f₆.cx hX₁
  obtain ⟨hcn, _, _⟩ := JS.others_mem.mp (JS.c_mem (J := J) (by omega))
  have gat : ∀ i, i < J.g.length → (J.g.map rowD)[((i : Nat) : Int).toNat]? = some (rowD (J.g[i]?.getD [])) := fun i hi => by rw [Int.toNat_natCast]; simp [hi]
  have han : J.a < J.g.length := by omega
  refine FS.seq (FS.append hX₁ f₆ (ds := J.ls.map lenD) (d := lenD (J.g[J.a]?.getD [], tget J.t J.a J.b + tget J.t J.a J.c - tget J.t J.b J.c)) rfl (fun h => h.2 rfl) hD0 H₆ (by rw [List.length_map]; omega) ?_ fun s₇ f₇ H₇ => ?_)
  · refine Ev.tuple hC₆ (EvL.cons (Ev.item (ds := J.g.map rowD) (k := (J.a : Nat)) (by walk_at "ev") (by walk_at "ev") (by omega) (by omega) (gat _ han)) (EvL.cons (Ev.binop (Ev.binop (Ev.tab (by walk_at "ev") (by walk_at "ev") (by walk_at "ev") hJ.len hJ.row han hbn (by omega)) (Ev.tab (by walk_at "ev") (by walk_at "ev") (by walk_at "ev") hJ.len hJ.row han hcn (by omega)) bin_add) (Ev.tab (by walk_at "ev") (by walk_at "ev") (by walk_at "ev") hJ.len hJ.row hbn hcn (by omega)) bin_sub) EvL.nil)) (Nat.le_of_ble_eq_true rfl)
  have hC₇ := f₇.cx hX₁
  refine FS.seq (FS.append hX₁ f₇ (ds := J.ls.map lenD ++ [lenD (J.g[J.a]?.getD [], tget J.t J.a J.b + tget J.t J.a J.c - tget J.t J.b J.c)]) (d := lenD (J.g[J.b]?.getD [], tget J.t J.a J.b + tget J.t J.b J.c - tget J.t J.a J.c)) rfl (fun h => h.2 rfl) hD0 H₇ (by simp; omega) ?_ fun s₈ f₈ H₈ => ?_)
  · refine Ev.tuple hC₇ (EvL.cons (Ev.item (ds := J.g.map rowD) (k := (J.b : Nat)) (by walk_at "ev") (by walk_at "ev") (by omega) (by omega) (gat _ hbn)) (EvL.cons (Ev.binop (Ev.binop (Ev.tab (by walk_at "ev") (by walk_at "ev") (by walk_at "ev") hJ.len hJ.row han hbn (by omega)) (Ev.tab (by walk_at "ev") (by walk_at "ev") (by walk_at "ev") hJ.len hJ.row hbn hcn (by omega)) bin_add) (Ev.tab (by walk_at "ev") (by walk_at "ev") (by walk_at "ev") hJ.len hJ.row han hcn (by omega)) bin_sub) EvL.nil)) (Nat.le_of_ble_eq_true rfl)
  have hC₈ := f₈.cx hX₁
  have hlsn : J.ls.map lenD ++ [lenD (J.g[J.a]?.getD [], tget J.t J.a J.b + tget J.t J.a J.c - tget J.t J.b J.c)] ++ [lenD (J.g[J.b]?.getD [], tget J.t J.a J.b + tget J.t J.b J.c - tget J.t J.a J.c)] = J.next.ls.map lenD := by
    show _ = (J.ls ++ [_, _]).map lenD
    rw [List.map_append]
    simp
  rw [hlsn] at H₈
  refine FS.seq (FS.setC hX₁.all f₈.full (P := fun _ h v => Rd (fun a => ok a ∧ a ≠ D) h (.list (J.others.map fun k : Nat => .int k)) v) ["k"] (fun s' k' => ?_) (Iters.list hC₈) (fun i : Nat => [("k", .dat (.int (i : Nat)))]) (fun x _ => .name) (fun x _ => rfl) (by kernel_rfl) (fun _ => true) (fun k : Nat => PyData.int ((tget J.t J.a k + tget J.t J.b k - tget J.t J.a J.b).fdiv 2)) (by omega) (fun x _ cenv ok' s' hC'' hsc k' => .nil) (fun x hx _ cenv ok' s' hC'' hsc k' => ?_) (.inl rfl) fun s₉ g₉ => ?_)
  · have hC'' := hC₈.at k'
    exact Ev.nameD hC'' rfl
  · obtain ⟨hxn, _, _⟩ := JS.others_mem.mp hx
    exact Ev.binop (Ev.binop (Ev.binop (Ev.tab (by walk_at "ev") (by walk_at "ev") (by walk_at "ev") hJ.len hJ.row han hxn (by omega)) (Ev.tab (by walk_at "ev") (by walk_at "ev") (by walk_at "ev") hJ.len hJ.row hbn hxn (by omega)) bin_add) (Ev.tab (by walk_at "ev") (by walk_at "ev") (by walk_at "ev") hJ.len hJ.row han hbn (by omega)) bin_sub) (by walk_at "ev") (bin_fdiv hC'' (by decide))
  have hmet : PyData.list ((J.others.filter fun _ => true).map fun k : Nat => PyData.int ((tget J.t J.a k + tget J.t J.b k - tget J.t J.a J.b).fdiv 2)) = rowD J.met := by
    rw [List.filter_eq_self.mpr (fun _ _ => rfl)]
    unfold rowD JS.met
    rw [List.map_map]; rfl
  rw [hmet] at g₉
  have f₉ := f₈.back g₉
  have H₉ := H₈.mv g₉.mv trivial fun _ _ => trivial
  have hC₉ := f₉.cx hX₁
  have hml : J.met.length = J.others.length := by unfold JS.met; simp
  have hok9 : ((joX prog w A a pm cd doc ok s mg mb).hole D).ok = fun a => ok a ∧ a ≠ D := rfl
  refine FS.seq (FS.setM f₉ (d := tabD J.next.t) ?_ (.inr ⟨rfl, rfl, ⟨_, rfl⟩⟩) fun s₁₀ f₁₀ m₁₀ => ?_)
  · refine Ev.cast (Ev.binop (Ev.list hC₉ (EvL.cons (Ev.binop (Ev.list hC₉ (EvL.cons Ev.int EvL.nil)) (Ev.nameD hC₉ (d := .list (J.met.map .int)) rfl) (bin_addL hC₉ (by simp; omega))) EvL.nil) (Nat.le_of_ble_eq_true rfl)) (Ev.comp hC₉ (P := fun h₀ h v => ZipOf (fun a => ok a ∧ a ≠ D) (J.others.map fun k => .int (J.metf k)) (J.others.map fun k : Nat => .int k) h₀ h v) ["k", "way"] (fun s' k' => ?_) (Iters.zip hC₉) (fun k : Nat => [("k", .dat (.int (k : Nat))), ("way", .dat (.int (J.metf k)))]) (fun x _ => .pair) (fun x _ => rfl) (by kernel_rfl) (fun _ => true) (fun k : Nat => rowD (J.metf k :: J.others.map fun j => tget J.t k j)) (by omega) (fun x _ cenv ok' s' hC'' hsc k' => .nil) (fun x hx _ cenv ok' s' hC'' hsc k' => ?_)) (bin_addL hC₉ (by have := List.length_filter_le (fun _ : Nat => true) J.others; simp only [List.length_map, List.length_cons, List.length_nil]; omega))) ?_
    · have hC'' := hC₉.at k'
      exact Ev.callT (T := "zip") (ds := [.list (J.others.map fun k => .int (J.metf k)), .list (J.others.map fun k : Nat => .int k)]) (by walk_at "fn") (EvL.cons (Ev.cast (Ev.nameD hC'' (d := .list (J.met.map .int)) rfl) (by unfold JS.met; rw [List.map_map]; rfl)) (EvL.cons (Ev.nameD hC'' rfl) EvL.nil)) call_zip
    · obtain ⟨hxn, _, _⟩ := JS.others_mem.mp hx
      refine Ev.cast (Ev.binop (Ev.list hC'' (ds := [.int (J.metf x)]) (EvL.cons (Ev.nameD hC'' rfl) EvL.nil) (Nat.le_of_ble_eq_true rfl)) (Ev.comp hC'' (P := fun _ h v => Rd ok' h (.list (J.others.map fun k : Nat => .int k)) v) ["j"] (fun s' k' => ?_) (Iters.list hC'') (fun i : Nat => [("j", .dat (.int (i : Nat)))]) (fun x _ => .name) (fun x _ => rfl) (by show scopeOk _ _ (fun z => cenv.scope.names.lookup z) _ = true; rw [hsc]; kernel_rfl) (fun _ => true) (fun j : Nat => PyData.int (tget J.t x j)) (by omega) (fun x _ cenv ok' s' hC'' hsc k' => .nil) (fun y hy _ cenv' ok'' s' hC₃ hsc' k' => ?_)) (bin_addL hC'' (by have := List.length_filter_le (fun _ : Nat => true) J.others; simp only [List.length_map, List.length_cons, List.length_nil]; omega))) ?_
      · have hC₃ := hC''.at k'
        exact Ev.nameD hC₃ rfl
      · obtain ⟨hyn, _, _⟩ := JS.others_mem.mp hy
        exact Ev.tab (by walk_at "ev") (by walk_at "ev") (by walk_at "ev") hJ.len hJ.row hxn hyn (by omega)
      · rw [List.filter_eq_self.mpr (fun _ _ => rfl)]
        unfold rowD
        simp [List.map_map]
    · rw [List.filter_eq_self.mpr (fun _ _ => rfl)]
      unfold tabD
      rw [JS.next_t]
      simp [List.map_map, rowD]
  have H₁₀ := H₉.mv m₁₀ trivial fun _ _ => trivial
  have hC₁₀ := f₁₀.cx hX₁
  have hgl := JS.ab_len (J := J) (by omega)
  refine FS.seq (FS.setM f₁₀ (d := tabD J.next.g) ?_ (.inr ⟨rfl, rfl, ⟨_, rfl⟩⟩) fun s₁₁ f₁₁ m₁₁ => ?_)
  · refine Ev.cast (Ev.binop (Ev.list hC₁₀ (EvL.cons (Ev.callB (by walk_at "fn") (EvL.cons (Ev.cast (d' := rowD (J.g[J.a]?.getD [] ++ J.g[J.b]?.getD [])) (Ev.binop (Ev.item (ds := J.g.map rowD) (k := (J.a : Nat)) (by walk_at "ev") (by walk_at "ev") (by omega) (by omega) (gat _ han)) (Ev.item (ds := J.g.map rowD) (k := (J.b : Nat)) (by walk_at "ev") (by walk_at "ev") (by omega) (by omega) (gat _ hbn)) (bin_addL hC₁₀ ?_)) ?_) EvL.nil) (call_sortedD hC₁₀ ?_)) EvL.nil) (Nat.le_of_ble_eq_true rfl)) (Ev.comp hC₁₀ (P := fun _ h v => Rd (fun a => ok a ∧ a ≠ D) h (.list (J.others.map fun k : Nat => .int k)) v) ["k"] (fun s' k' => ?_) (Iters.list hC₁₀) (fun i : Nat => [("k", .dat (.int (i : Nat)))]) (fun x _ => .name) (fun x _ => rfl) (by kernel_rfl) (fun _ => true) (fun k : Nat => rowD (J.g[k]?.getD [])) (by omega) (fun x _ cenv ok' s' hC'' hsc k' => .nil) (fun x hx _ cenv ok' s' hC'' hsc k' => ?_)) (bin_addL hC₁₀ (by have := List.length_filter_le (fun _ : Nat => true) J.others; simp only [List.length_map, List.length_cons, List.length_nil]; omega))) ?_
    · simp only [List.length_map]
      have : (J.g[J.a]?.getD []).length + (J.g[J.b]?.getD []).length = (J.gat J.a ++ J.gat J.b).length := by rw [List.length_append]; rfl
      omega
    · unfold rowD; rw [List.map_append]
    · show (J.gat J.a ++ J.gat J.b).length < 64; omega
    · have hC'' := hC₁₀.at k'
      exact Ev.nameD hC'' rfl
    · obtain ⟨hxn, _, _⟩ := JS.others_mem.mp hx
      exact Ev.item (ds := J.g.map rowD) (k := (x : Nat)) (by walk_at "ev") (by walk_at "ev") (by omega) (by omega) (gat _ hxn)
    · rw [List.filter_eq_self.mpr (fun _ _ => rfl)]
      unfold tabD
      simp [JS.next, List.map_map]
  have H₁₁ := H₁₀.mv m₁₁ trivial fun _ _ => trivial
  exact wpAny_execs_nil (h _ (f₁₁.sub (sub_cons rfl (sub_cons rfl (sub_cons rfl sub_nil)))) H₁₁)
theorem JS.iter_ls {t : List (List Int)} : ∀ k, (JS.iter k (JS.start t)).ls.length = 2 * k
  | 0 => rfl
  | k + 1 => by
    show ((JS.iter k (JS.start t)).ls ++ [_, _]).length = _
    rw [List.length_append, JS.iter_ls k]; rfl
noncomputable def tri3 : List (Nat × Nat × Nat) := [(0, 1, 2), (1, 2, 0), (2, 0, 1)]
noncomputable def JS.triv (J : JS) (p : Nat × Nat × Nat) : List Int × Int := (J.g[p.1]?.getD [], tget J.t p.1 p.2.1 + tget J.t p.1 p.2.2 - tget J.t p.2.1 p.2.2)
noncomputable def triD (p : Nat × Nat × Nat) : PyData := .tuple [.int (p.1 : Nat), .int (p.2.1 : Nat), .int (p.2.2 : Nat)]
theorem Ev.ofHole {C : Cx} {e : Expr} {D : Addr} {ok' ok'' : Addr → Prop} {ds : List PyData} (he : EvV C e (.ref D)) (H : Hole ok' D ds C.s.heap) (w : ∀ a, ok' a → ok'' a) (hD : ok'' D) : Ev C e (fun h v => Rd ok'' h (.list ds) v) := fun s k =>
  wpAny_mono (he s k) (fun v s' y => ⟨y.1, y.2 ▸ (H.kp (Kp.trans k y.1)).i.rd w hD⟩) fun _ _ y => y
noncomputable def forTarget : Option Stmt → Expr
  | some (.For t _ _ _ _) => t
  | _ => .Name "" ⟨0, 0, 0, 0⟩
set_option maxHeartbeats 4000000 in
theorem join_tail {prog : Program} {w : World} {A : Around} {a : Addr} {pm cd doc : Value} {ok : Addr → Prop} {s : Shared} {mg mb : Str → Option Value} (hX : (joX prog w A a pm cd doc ok s mg mb).Gd) {J : JS} (hsq' : J.Sq) (hl : J.g.length = 3) (hls : J.ls.length ≤ 1000) {D : Addr} {hB : Heap} {s₄ : Shared}
    (hD0 : s.heap.get? D = none) (okD : ok D) (f₄ : FS ((joX prog w A a pm cd doc ok s mg mb).hole D) hB [("lengths", .val (.ref D)), ("groups", .dat (tabD J.g)), ("table", .dat (tabD J.t))] s₄) (H₄ : Hole (fun a => ok a ∧ a ≠ D) D (J.ls.map lenD) s₄.heap) :
    wpAny (joX prog w A a pm cd doc ok s mg mb).m (joX prog w A a pm cd doc ok s mg mb).A (execs ((bodyAt 19).drop 3) (joX prog w A a pm cd doc ok s mg mb).env) (fun fl s' => Keeps s s' ∧ Rd ok s'.heap (.list (J.fin.map lenD)) (match fl with | .ret v => v | _ => .none)) (fun _ _ => False) s₄ := by
  have hX₃ := hX.hole D
  have hC₄ := f₄.cx hX₃
  have aD : s₄.heap.get? D ≠ none := by obtain ⟨vs, ⟨o, n, e, _⟩, _⟩ := H₄; rw [e]; exact fun y => nomatch y
  refine FS.seq ?_
  show wpAny _ _ (exec (.For _ _ _ _ _) _) _ _ _
  have hI := Iters.tuple (C := (Fx.hole (joX prog w A a pm cd doc ok s mg mb) D).cx s₄ [("lengths", .val (.ref D)), ("groups", .dat (tabD J.g)), ("table", .dat (tabD J.t))]) hC₄ (target := forTarget (bodyAt 19)[3]?) (l := tri3) (g := triD)
  refine FS.forL hX₃ f₄ (P := fun _ h v => Rd ((Fx.hole (joX prog w A a pm cd doc ok s mg mb) D)).ok h (.tuple (tri3.map triD)) v) (l := tri3) (sp := fun p => .dat (triD p)) ?_ hI (fun p => [("c", .dat (.int (p.2.2 : Nat))), ("b", .dat (.int (p.2.1 : Nat))), ("a", .dat (.int (p.1 : Nat)))]) ?_ ?_
      (fun _ => [("lengths", .val (.ref D)), ("groups", .dat (tabD J.g)), ("table", .dat (tabD J.t))]) ?_
      (fun ok' i h => Hole ok' D ((J.ls ++ (tri3.take i).map J.triv).map lenD) h) ?_ ?_ ?_ ?_ ?_
  · refine Ev.tuple hC₄ (ds := tri3.map triD) ?_ (Nat.le_of_ble_eq_true rfl)
    show EvL _ _ _ [.tuple [.int 0, .int 1, .int 2], .tuple [.int 1, .int 2, .int 0], .tuple [.int 2, .int 0, .int 1]]
    walk_at "args"
  · exact fun x _ => .triple
  · exact fun x _ => own3 (.inl rfl) (.inr ⟨rfl, rfl, ⟨_, rfl⟩⟩) (.inr ⟨rfl, rfl, ⟨_, rfl⟩⟩)
  · exact sub_cons rfl (sub_cons rfl (sub_cons rfl sub_nil))
  · exact fun ok' i h h' _ x t => x.tm t aD
  · intro ok' _ hal
    rw [List.take_zero, List.map_nil, List.append_nil]
    exact H₄.okTo fun a o x e => hal a x (by rw [e]; exact fun y => nomatch y)
  · intro ok' hsub' hal i x s₅ hx f₅ K₅
    have hX₅ := hX₃.withOk hsub'
    have hC₅ := f₅.cx hX₅
    have hxm : x ∈ tri3 := List.mem_of_getElem? hx
    have hb : x.1 < 3 ∧ x.2.1 < 3 ∧ x.2.2 < 3 := by
      have key : ∀ x ∈ tri3, x.1 < 3 ∧ x.2.1 < 3 ∧ x.2.2 < 3 := by decide
      exact key x hxm
    obtain ⟨h1, h2, h3⟩ := hb
    have hi : i < 3 := (List.getElem?_eq_some_iff.mp hx).1
    refine FS.seq (FS.append hX₅ f₅ (ds := (J.ls ++ (tri3.take i).map J.triv).map lenD) (d := lenD (J.triv x)) rfl (fun h => h.2 rfl) hD0 K₅ (by simp; omega) ?_ fun s₆ f₆ H₆ => wpAny_execs_nil ⟨f₆.sub (sub_cons rfl (sub_cons rfl (sub_cons rfl sub_nil))), ?_⟩)
    · refine Ev.tuple hC₅ (EvL.cons (Ev.item (ds := J.g.map rowD) (k := (x.1 : Nat)) (by walk_at "ev") (by walk_at "ev") (by omega) (by omega) ?_) (EvL.cons (Ev.binop (Ev.binop (Ev.tab (by walk_at "ev") (by walk_at "ev") (by walk_at "ev") hsq'.len hsq'.row (by omega) (by omega) (by omega)) (Ev.tab (by walk_at "ev") (by walk_at "ev") (by walk_at "ev") hsq'.len hsq'.row (by omega) (by omega) (by omega)) bin_add) (Ev.tab (by walk_at "ev") (by walk_at "ev") (by walk_at "ev") hsq'.len hsq'.row (by omega) (by omega) (by omega)) bin_sub) EvL.nil)) (Nat.le_of_ble_eq_true rfl)
      rw [Int.toNat_natCast]
      have : x.1 < J.g.length := by omega
      simp [this, JS.triv]
    · have e : (J.ls ++ (tri3.take (i + 1)).map J.triv).map lenD = (J.ls ++ (tri3.take i).map J.triv).map lenD ++ [lenD (J.triv x)] := by
        rw [List.take_add_one, hx]; simp
      rw [e]; exact H₆
  · intro ok' s₅ hsub' f₅ K₅
    have hC₅ := f₅.cx hX₃
    have e : J.ls ++ (tri3.take tri3.length).map J.triv = J.fin := by
      rw [List.take_length]; rfl
    rw [e] at K₅
    exact FS.seq (FS.ret f₅ (P := fun h v => Rd ok h (.list (J.fin.map lenD)) v) (Ev.ofHole (Ev.nameV hC₅ (u := .ref D) rfl) K₅ (fun a z => (hsub' a z).1) okD) fun v s' k' h => ⟨Kp.trans f₅.F.keeps k', h⟩)
  · exact fun _ => rfl
set_option maxHeartbeats 4000000 in
theorem joined_ok {C : Cx} (hC : C.Ok) {k : Nat} (G : Gl C.prog C.mg C.mb (k + 1) C.A C.s) (B : Bis C.mg C.mb) {a : Addr} {pm cd doc : Value} (hf : FnIs C.s.heap a (fnAt 19 pm cd doc)) {t : List (List Int)} (hsq : ∀ r ∈ t, r.length = t.length) (h3 : 3 ≤ t.length) (h6 : t.length ≤ 60) :
    CallD C (.ref a) [tabD t] (.list ((joined t).map lenD)) := by
  refine CallOk.def hC G hf (names := ["table"]) (body := bodyAt 19) (defIs_of (by kernel_rfl)) rfl rfl rfl rfl (fun vs h => by obtain ⟨a, rfl⟩ := one_list h; rfl) fun s s₁ k₀ hX G' f => ?_
  have f := f.sub (ρ' := [("table", .dat (tabD t))]) (sub_cons rfl sub_nil)
  have hC' := f.cx hX
  refine FS.seq (FS.setM f (d := tabD ((List.range t.length).map fun i : Nat => [(i : Int)])) ?_ (.inr ⟨rfl, rfl, ⟨_, rfl⟩⟩) fun s₂ f₂ _ => ?_)
  · have hn : ((t.map rowD).length : Int) = ((t.length : Nat) : Int) := by rw [List.length_map]
    refine Ev.cast (Ev.comp hC' (P := fun _ h v => RangeOf C.ok 0 ((t.length : Nat) : Int) 1 h v) ["at"] (fun s' k' => ?_) (Iters.range hC' (by omega)) (fun i => [("at", .dat (.int (i : Nat)))]) (fun x _ => .name) (fun x _ => rfl) (by kernel_rfl) (fun _ => true) (fun i : Nat => rowD [(i : Int)]) (by simp; omega) (fun x _ cenv ok' s' hC'' hsc k' => .nil) (fun x hx _ cenv ok' s' hC'' hsc k' => ?_)) ?_
    · have hC'' := hC'.at k'
      rw [← hn]
      exact Ev.callT (T := "range") (ds := [.int ((t.map rowD).length : Nat)]) (by walk_at "fn") (EvL.cons (Ev.callB (by walk_at "fn") (EvL.cons (Ev.nameD hC'' rfl) EvL.nil) (call_lenL (by rw [List.length_map]; omega))) EvL.nil) call_range1
    · show EvD _ _ (.list [.int (x : Nat)])
      walk_at "ev"
    · rw [List.filter_eq_self.mpr (fun _ _ => rfl)]
      unfold tabD
      rw [List.map_map]; rfl
  have hC₂ := f₂.cx hX
  refine FS.seq (FS.setHole f₂ (ds := []) Ev.emptyL (.inl rfl) fun D s₃ okD hD hD0 f₃ H₃ => ?_)
  have hX₃ := hX.hole D
  have hlen0 : (JS.start t).g.length = t.length := by simp [JS.start]
  have hs0 : (JS.start t).Sq := ⟨hlen0.symm, fun r hr => by rw [hlen0]; exact hsq r hr⟩
  refine FS.seq ?_
  show wpAny _ _ (exec (.While _ _ _ _) _) _ _ _
  refine FS.whileL f₃ (t.length - 3) (fun i => [("lengths", .val (.ref D)), ("groups", .dat (tabD (JS.iter i (JS.start t)).g)), ("table", .dat (tabD (JS.iter i (JS.start t)).t))]) ?_ (fun i h => Hole (fun a => C.ok a ∧ a ≠ D) D ((JS.iter i (JS.start t)).ls.map lenD) h) ?_ ?_ ?_ ?_ ?_
  · exact sub_cons rfl (sub_cons rfl (sub_cons rfl sub_nil))
  · exact fun i s s' x k => x.kp k
  · exact H₃
  · intro i s₄ hi f₄ H₄
    have hC₄ := f₄.cx hX₃
    have hl := JS.iter_len (t := t) i (by omega)
    refine Ts.cast (Ts.cmp (Ev.callB (by walk_at "fn") (EvL.cons (Ev.nameD hC₄ rfl) EvL.nil) (call_lenL (by rw [List.length_map]; omega))) (by walk_at "ev") cmp_gtI) ?_
    rw [List.length_map]
    exact decide_eq_decide.mpr (by omega)
  · intro i s₄ hi f₄ H₄
    have hl := JS.iter_len (t := t) i (by omega)
    have hsq' := JS.iter_sq hs0 i (by omega)
    have hfl := (JS.iter_flat (t := t) i (by omega)).length_eq
    rw [List.length_map, List.length_range] at hfl
    exact join_turn hX B hsq' (by omega) (by omega) (by rw [JS.iter_ls]; omega) (by omega) hD0 f₄ H₄ fun s' f' H' => ⟨f', H'⟩
  · intro s₄ f₄ H₄
    have hl := JS.iter_len (t := t) (t.length - 3) (by omega)
    have hsq' := JS.iter_sq hs0 (t.length - 3) (by omega)
    have hls := JS.iter_ls (t := t) (t.length - 3)
    have hjo : joined t = (JS.iter (t.length - 3) (JS.start t)).fin := rfl
    rw [hjo]
    have e3 : (JS.iter (t.length - 3) (JS.start t)).g.length = 3 := by omega
    have e4 : (JS.iter (t.length - 3) (JS.start t)).ls.length ≤ 1000 := by omega
    exact @join_tail C.prog C.w C.A a pm cd doc C.ok s C.mg C.mb hX (JS.iter (t.length - 3) (JS.start t)) hsq' e3 e4 D s₁.heap s₄ hD0 okD f₄ H₄
/-! ## a ghost: the state without one object -/
noncomputable def hid (s : Shared) (d : Addr) : Shared := { s with heap := s.heap.hide d }
theorem hid_kp (s : Shared) (d : Addr) : Keeps (hid s d) s := ⟨fun b o e => Heap.of_hide e, rfl, rfl⟩
theorem kp_hid {s s' : Shared} {d : Addr} (k : Keeps s s') (hd : s.heap.get? d = none) : Keeps s (hid s' d) :=
  ⟨fun b o e => (Heap.hide_ne _ (fun e' => by subst e'; rw [hd] at e; cases e)).trans (k.get b o e), k.gens, k.os⟩
theorem hid_get {s : Shared} {d b : Addr} {o : Obj} (e : s.heap.get? b = some o) (h : b ≠ d) : (hid s d).heap.get? b = some o := (Heap.hide_ne _ h).trans e
theorem hid_none (s : Shared) (d : Addr) : (hid s d).heap.get? d = none := Heap.hide_self _ _

/-! ## a def's call with a ghost as its ground -/
noncomputable def fxG (prog : Program) (w : World) (A : Around) (fd : FuncData) (a : Addr) (ok kp : Addr → Prop) (s s₀ : Shared) (mg mb : Str → Option Value) : Fx :=
  { prog, w, A := A.deeper (callEnvC fd s.heap.objs.size a), env := callEnvC fd s.heap.objs.size a, N := fd.scope.names, ok, kp, s₀, mg, mb }
theorem fxG_gd {prog : Program} {w : World} {mg mb : Str → Option Value} {k : Nat} {A : Around} {s s₀ : Shared} {fd : FuncData} {a : Addr} {names : List Str} (G : Gl prog mg mb (k + 1) A s₀) (D : DefIs fd names) (hg : fd.globals = mainGlobals) (hb : fd.builtins = builtinsNs) (ok kp : Addr → Prop) (hok : ∀ a, ok a → kp a) : (fxG prog w A fd a ok kp s s₀ mg mb).Gd where
  eg := hg
  eb := hb
  g := G.g
  b := G.b
  hand := G.hand
  units := by have := G.units; show A.units + 3 + 200 < _; omega
  pyl := fun s' k' => pylong_of (env := callEnvC fd s.heap.objs.size a) G D.gen D.co hb hg k'
  okkp := hok
theorem call_fnG {prog : Program} {w : World} {mg mb : Str → Option Value} {k : Nat} {A : Around} {s s₀ : Shared} (k₀ : Keeps s₀ s) {fd : FuncData} {a : Addr} {names : List Str} {body : List Stmt} {vals : List Value} {sps : List Sp} {ok : Addr → Prop} {P : Value → Shared → Prop}
    (G : Gl prog mg mb (k + 1) A s₀) (hf : FnIs s.heap a fd) (D : DefIs fd names) (hbody : fd.body = .stmts body) (hbind : bindArgs fd ⟨vals, []⟩ = pure (names.zip vals)) (hsp : SpAll ok s.heap sps vals) (hlen : vals.length ≤ names.length) (hok : ∀ a, s.heap.get? a = none → ok a)
    (h : ∀ s₁, Keeps s s₁ → FS (fxG prog w A fd a ok (fun _ => True) s s₀ mg mb) s₁.heap (names.zip sps) s₁ →
      wpAny (model prog w) (A.deeper (callEnvC fd s.heap.objs.size a)) (execs body (callEnvC fd s.heap.objs.size a)) (fun fl s' => P (match fl with | .ret v => v | _ => .none) s') (fun _ _ => False) s₁) :
    wpAny (model prog w) A (call (.ref a) vals) P (fun _ _ => False) s := by
  have Gs := G.kp k₀
  obtain ⟨o, ho, hd⟩ := hf.obj
  have hzn : (names.zip vals).map (·.1) = names.take vals.length := zip_fst _ _
  have hmem : ∀ x ∈ names.zip vals, x.1 ∈ names := fun x hx => by
    have : x.1 ∈ (names.zip vals).map (·.1) := List.mem_map_of_mem (f := (·.1)) hx
    rw [hzn] at this; exact List.mem_of_mem_take this
  refine wpAny_call (codeAny_call_cells (by have := Gs.depth; omega) ho hd Gs.nolim hf.code hbody hbind D.clo (fun x hx => ?_) (fun s₁ I => ?_) D.co D.gen D.kind)
  · rcases D.kinds x.1 (hmem x hx) with e | e
    · exact .inl e
    · exact .inr ⟨e, cellsFrom_some _ _ _ (.inl e)⟩
  · have hnd : ((names.zip vals).map (·.1)).Nodup := by rw [hzn]; exact D.nodup.sublist (List.take_sublist _ _)
    obtain ⟨h', tk, e, kk⟩ := I.done
    have ks : Keeps s s₁ := by subst e; exact ⟨kk, rfl, rfl⟩
    have new : ∀ b, @LE.le Nat _ s.heap.objs.size b → s₀.heap.get? b = none := fun b hb => Kp.none k₀ (get_ge hb)
    have F : Fst s₀ fd.scope.names (callEnvC fd s.heap.objs.size a) ok (names.zip sps) s₁ := by
      refine ⟨Kp.trans k₀ ks, D.kind, ⟨_, I.toInCall.ns⟩, new _ I.toInCall.fresh, fun x c e => ⟨_, I.cell x c e⟩, I.apart, fun x c _ e => new _ (Nat.le_of_lt (Nat.lt_of_le_of_lt I.toInCall.fresh (I.above x c (mem_of_lookup e)))), fun x sp e => ?_⟩
      obtain ⟨v, hv, hon⟩ := zip_lookup hsp e
      refine ⟨v, ?_, Sp.kp hon ks⟩
      rcases D.kinds x (hmem (x, v) hv) with hk | hk
      · exact .inl ⟨hk, _, I.toInCall.ns, bindL_get _ _ x v hnd hv hk⟩
      · have hc : ∃ c, (callEnvC fd s.heap.objs.size a).cells.lookup x = some c := Option.isSome_iff_exists.mp (cellsFrom_some fd.scope.names (s.heap.objs.size + 1) [] (.inl hk))
        obtain ⟨c, hc⟩ := hc
        refine .inr ⟨.inl hk, c, hc, ?_⟩
        have := I.cell x c hc
        rwa [bindC_get _ _ x v hnd hv (fun e => by rw [show (callEnvC fd s.heap.objs.size a).kindOf x = some .cell from hk] at e; cases e)] at this
    exact wpAny_mono (h s₁ ks ⟨F, fun b hb => hok b (Kp.none ks hb), .refl _ _⟩) (fun fl s' y => y) fun _ _ y => y.elim

/-- a dict that is none of the frame's is turned -/
theorem FS.butD {X : Fx} {hB : Heap} {ρ : List (Str × Sp)} {s : Shared} (f : FS X hB ρ s) {d : Addr} (hn : ∃ o es n, s.heap.get? d = some o ∧ o.data = .dict es n) (hd0 : X.s₀.heap.get? d = none) (hdl : d ≠ X.env.locals) {h' : Heap} {tk : Nat} (hs : Heap.SameBut d s.heap h') (hl : h'.get? d ≠ none) : FS X hB ρ { s with heap := h', toks := tk } := by
  obtain ⟨od, es, ep, hod, hdd⟩ := hn
  have mvT : Mv (fun _ => True) s.heap h' := Mv.sameBut hs fun o e => by
    rw [hod] at e; cases e; exact .inl ⟨_, _, hdd⟩
  have hNs : ∀ m', s.heap.Ns X.env.locals m' → h'.Ns X.env.locals m' := fun m' y => y.sameBut hs (fun e => hdl e.symm)
  have hCl : ∀ c v, s.heap.IsCell c v → h'.IsCell c v := fun c v y => y.sameBut hs fun e => by
    subst e
    obtain ⟨o', e', d'⟩ := y
    rw [hod] at e'; cases e'; rw [hdd] at d'; cases d'
  refine ⟨⟨?_, f.F.kind, f.F.ns.elim fun m' y => ⟨m', hNs m' y⟩, f.F.new, fun x c e => (f.F.cell x c e).elim fun v y => ⟨v, hCl c v y⟩, f.F.apart, f.F.own, fun x sp e => ?_⟩, fun a e => ?_, f.mv.trans mvT.of_true⟩
  · exact ⟨fun b o e => (hs.2 b (ne_of_get e hd0)).trans (f.F.keeps.get b o e), f.F.keeps.gens, f.F.keeps.os⟩
  · obtain ⟨v, a, b⟩ := f.F.names x sp e
    refine ⟨v, ?_, Sp.mv mvT.of_true (fun _ _ z _ => z) b⟩
    rcases a with ⟨a1, m1, a2, a3⟩ | ⟨a1, c1, a2, a3⟩
    · exact .inl ⟨a1, m1, hNs m1 a2, a3⟩
    · exact .inr ⟨a1, c1, a2, hCl _ _ a3⟩
  · by_cases ha : a = d
    · subst ha; exact absurd e hl
    · exact f.ok a (by rw [← hs.2 a ha]; exact e)

/-! ## a dict of ints under texts -/
noncomputable def Memo (prog : Program) (w : World) (h : Heap) (d : Addr) (M : Str → Option Int) (n : Nat) : Prop :=
  ∃ kvs, h.DictOf (strKind prog w) d kvs ∧ kvs.length ≤ n ∧ ∀ k, match M k with | none => valueAt kvs k = none | some i => ∃ t, valueAt kvs k = some (.int i t)
theorem Memo.at {prog : Program} {w : World} {h h' : Heap} {d : Addr} {M : Str → Option Int} {n : Nat} (x : Memo prog w h d M n) (k : ∀ o, h.get? d = some o → h'.get? d = some o) : Memo prog w h' d M n := by
  obtain ⟨kvs, ⟨o, es, ep, ho, r⟩, h2⟩ := x
  exact ⟨kvs, ⟨o, es, ep, k o ho, r⟩, h2⟩
theorem Memo.dict {prog : Program} {w : World} {h : Heap} {d : Addr} {M : Str → Option Int} {n : Nat} (x : Memo prog w h d M n) : ∃ o es ep, h.get? d = some o ∧ o.data = .dict es ep := by
  obtain ⟨kvs, ⟨o, es, ep, ho, _, hd, _⟩, _⟩ := x
  exact ⟨o, es, ep, ho, hd⟩
theorem stored_at {kvs : List (Str × Value)} {k : Str} {v : Value} (x : Str) : valueAt (stored kvs k v) x = if x = k then some v else valueAt kvs x := by
  unfold stored
  split
  · rename_i h
    induction kvs with
    | nil => simp at h
    | cons p r ih =>
      obtain ⟨y, u⟩ := p
      by_cases hyk : y = k
      · subst hyk
        by_cases hx : x = y
        · subst hx; simp [valueAt]
        · have hyx : ¬ y = x := fun e => hx e.symm
          simp only [List.map_cons, if_true, valueAt, List.find?_cons, hyx, decide_false, hx, if_false]
          have : ∀ l : List (Str × Value), (l.map fun kv => if kv.1 = y then (kv.1, v) else kv).find? (fun kv => decide (kv.1 = x)) = l.find? fun kv => decide (kv.1 = x) := by
            intro l
            induction l with
            | nil => rfl
            | cons q r ih =>
              simp only [List.map_cons, List.find?_cons]
              by_cases hq : q.1 = y
              · rw [if_pos hq]; simp only [hq, hyx, decide_false]; exact ih
              · rw [if_neg hq]
                by_cases hqx : q.1 = x
                · simp [hqx]
                · simp only [hqx, decide_false]; exact ih
          rw [this]
      · have h' : r.any (fun kv => decide (kv.1 = k)) = true := by simpa [hyk] using h
        simp only [List.map_cons, hyk, if_false, valueAt, List.find?_cons]
        by_cases hx : y = x
        · subst hx; simp [hyk]
        · simp only [hx, decide_false]; exact ih h'
  · rename_i h
    simp only [valueAt, List.find?_append]
    by_cases hx : x = k
    · subst hx
      have : kvs.find? (fun kv => decide (kv.1 = x)) = none := by
        rw [List.find?_eq_none]
        intro p hp
        have := h
        simp only [List.any_eq_true, not_exists] at this
        simpa using fun e => this p ⟨hp, by simpa using e⟩
      simp [this]
    · have hkx : ¬ k = x := fun e => hx e.symm
      simp [hx, hkx]
theorem strIs (prog : Program) (w : World) (x : Str) (t : Tok) : (strKind prog w).is x (.str x t) = true := by show Value.isStrOf x (.str x t) = true; simp [Value.isStrOf]

section
variable {prog : Program} {w : World} {A : Around} {E : Value → Shared → Prop} {s : Shared}
theorem memo_in {d : Addr} {M : Str → Option Int} {n : Nat} {x : Str} {t : Tok} {Q : Value → Shared → Prop} (hM : Memo prog w s.heap d M n) (hd : (d == sysModules) = false) (h : Q (.bool (M x).isSome) { s with toks := s.toks + 1 }) : wpAny (model prog w) A (compareOp .In (.str x t) (.ref d)) Q E s := by
  obtain ⟨kvs, hD, _, hv⟩ := hM
  refine wpAny_in_of (strIs prog w x t) hd hD.mapOf ?_
  have := hv x
  cases hx : M x with
  | none => rw [hx] at this h; simp only at this; rw [this]; exact h
  | some i => rw [hx] at this h; obtain ⟨t', e⟩ := this; rw [e]; exact h
theorem memo_get {d : Addr} {M : Str → Option Int} {n : Nat} {x : Str} {t : Tok} {i : Int} {Q : Value → Shared → Prop} (hM : Memo prog w s.heap d M n) (hi : M x = some i) (h : ∀ t', Q (.int i t') { s with toks := s.toks + 1 }) : wpAny (model prog w) A (getItem (.ref d) (.str x t)) Q E s := by
  obtain ⟨kvs, hD, _, hv⟩ := hM
  have := hv x
  rw [hi] at this
  obtain ⟨t', e⟩ := this
  exact wpAny_getItem_of (strIs prog w x t) hD.mapOf e (h t')
theorem memo_set {d : Addr} {M : Str → Option Int} {n : Nat} {x : Str} {t t' : Tok} {i : Int} {Q : Unit → Shared → Prop} (hM : Memo prog w s.heap d M n) (hn : n ≤ 1000) (h : ∀ h', Memo prog w h' d (fun y => if y = x then some i else M y) (n + 1) → Heap.SameBut d s.heap h' → Q () { s with heap := h', toks := s.toks + 1 }) : wpAny (model prog w) A (setItem (.ref d) (.str x t) (.int i t')) Q E s := by
  obtain ⟨kvs, hD, hl, hv⟩ := hM
  refine wpAny_setItem_pairs (strIs prog w x t) hD (fun h' hD' hs' => h h' ⟨_, hD', Nat.le_trans (stored_length_le ..) (Nat.succ_le_succ hl), fun y => ?_⟩ hs') (by rw [sizeLine_eq]; omega)
  rw [stored_at]
  by_cases hy : y = x
  · simp only [hy, if_true]; exact ⟨t', rfl⟩
  · simp only [hy, if_false]; exact hv y
end

/-! ## an object of the class -/
/-- the class C, its names' dict N -/
structure Cls (h : Heap) (C N : Addr) (mN : Str → Option Value) : Prop where
  at_ : ClsAt h C N mN
  ga : mN "__getattribute__" = none
  gh : mN "__getattr__" = none
  sa : mN "__setattr__" = none
  mods : mN "_mods" = none
  dirs : mN "_dirs" = none
  ign : mN "_ignore" = none
theorem Cls.keeps {h h' : Heap} {C N : Addr} {mN : Str → Option Value} (x : Cls h C N mN) (k : ∀ b o, h.get? b = some o → h'.get? b = some o) : Cls h' C N mN := ⟨x.at_.keeps k, x.ga, x.gh, x.sa, x.mods, x.dirs, x.ign⟩
noncomputable def rdNs (am ld di : Addr) : Str → Option Value := fun y => if y = "_ignore" then some (.ref di) else if y = "_dirs" then some (.ref ld) else if y = "_mods" then some (.ref am) else none
structure RdS (prog : Program) (w : World) (C : Addr) (h : Heap) (x dx am ld di : Addr) (mods : Str → Bool) (n : Nat) (dirs : List Str) : Prop where
  obj : ∃ o, h.get? x = some o ∧ o.cls = .ref C ∧ (∀ c, o.data ≠ .cls c) ∧ o.dict = some dx
  xd : dx ≠ x
  ns : h.Ns1 dx (rdNs am ld di)
  set : SetS prog w h am mods n
  list : Rd (fun _ => True) h (.list (dirs.map .str)) (.ref ld)
theorem RdS.inst {prog : Program} {w : World} {C : Addr} {h : Heap} {x dx am ld di : Addr} {mods : Str → Bool} {n : Nat} {dirs : List Str} (r : RdS prog w C h x dx am ld di mods n dirs) : h.Inst x C (rdNs am ld di) := by
  obtain ⟨o, h1, h2, h3, h4⟩ := r.obj
  exact ⟨o, h1, h2, h3, .inr ⟨dx, h4, r.xd, r.ns⟩⟩
theorem RdS.keeps {prog : Program} {w : World} {C : Addr} {h h' : Heap} {x dx am ld di : Addr} {mods : Str → Bool} {n : Nat} {dirs : List Str} (r : RdS prog w C h x dx am ld di mods n dirs) (k : ∀ b o, h.get? b = some o → h'.get? b = some o) : RdS prog w C h' x dx am ld di mods n dirs :=
  ⟨r.obj.elim fun o y => ⟨o, k _ _ y.1, y.2⟩, r.xd, r.ns.keeps k, r.set.at (k _), Rd.mv (.of_keep k) (fun _ _ _ _ => trivial) _ _ r.list⟩

theorem lk_mods : typeLookup (.type "object") "_mods" = pure none := by rw [typeLookup_type, builtinLookup_eq_fast]; kernel_rfl
theorem lk_dirs : typeLookup (.type "object") "_dirs" = pure none := by rw [typeLookup_type, builtinLookup_eq_fast]; kernel_rfl
theorem lk_ign : typeLookup (.type "object") "_ignore" = pure none := by rw [typeLookup_type, builtinLookup_eq_fast]; kernel_rfl
theorem Ev.attr {C : Cx} {e : Expr} {name : Str} {pos : Pos} {x Ca N : Addr} {mN mA : Str → Option Value} {a : Addr} (he : EvV C e (.ref x)) (K : Cls C.s.heap Ca N mN) (I : C.s.heap.Inst x Ca mA) (hv : mA name = some (.ref a)) (hna : mN name = none) (hB : typeLookup (.type "object") name = pure none)
    (heq : ∀ (env : Env), eval (.Attribute e name pos) env = (do
      let o ← eval e env
      standAt pos.atName
      let r ← holding [o] (getAttr o name true)
      letTemporaryGo e o r
      pure r) := by intro _; with_unfolding_all rfl) : EvV C (.Attribute e name pos) (.ref a) := fun s k =>
  Attribute_any_ (Ev.two he k fun v s₁ k₁ hv' => by
    subst hv'
    obtain ⟨hh, g, d, t, os⟩ := s₁
    have kk := Kp.trans k k₁
    obtain ⟨nm, q, bs, sn, sub, col, dd, k0, k1, k2, k3, k5, hC⟩ := (K.at_.keeps (Kp.get kk)).obj
    exact load_attr hC (K.at_.keeps (Kp.get kk)).ns K.ga hna hB (I.keeps (Kp.get kk)) hv rfl ⟨Kp.trans k₁ (Kp.tok _ _), rfl⟩) (heq _)
theorem Ts.cmpG {C : Cx} {l r : Expr} {op : CmpOp} {p : Pos} {P Q : Heap → Value → Prop} {b : Bool} (hl : Ev C l P) (hP : ∀ s s' v, Keeps s s' → P s.heap v → P s'.heap v) (hr : Ev C r Q) (hb : ∀ s v u, Keeps C.s s → P s.heap v → Q s.heap u → wpAny (model C.prog C.w) C.A (compareOp op v u) (fun c s' => Keeps s s' ∧ c = .bool b) (fun _ _ => False) s)
    (hm : behindInMarks op r = false := by with_unfolding_all rfl) : Ts C (.Compare l [op] [r] p) b := fun s k =>
  wpAny_isTrue_Compare1 (Ev.two hl k fun v s₁ k₁ hv => Ev.two hr (Kp.trans k k₁) fun u s₂ k₂ hu =>
    wpAny_mono (hb s₂ v u (Kp.trans (Kp.trans k k₁) k₂) (hP _ _ _ k₂ hv) hu) (fun c' s₃ x => by obtain ⟨x1, rfl⟩ := x; exact wpAny_truthy_bool ⟨Kp.trans (Kp.trans k₁ k₂) x1, rfl⟩) fun _ _ x => x) hm
/-- x in d -/
theorem Ts.inMemo {C : Cx} {l r : Expr} {p : Pos} {x : Str} {d : Addr} {M : Str → Option Int} {n : Nat} (hl : EvD C l (.str x)) (hr : EvV C r (.ref d)) (hM : Memo C.prog C.w C.s.heap d M n) (hd : (d == sysModules) = false) (hm : behindInMarks .In r = false := by with_unfolding_all rfl) : Ts C (.Compare l [.In] [r] p) (M x).isSome :=
  Ts.cmpG hl (fun s s' v k hv => hv.kp k) hr (fun s v u k hv hu => by
    subst hu
    obtain ⟨t, rfl⟩ := Rd_str.mp hv
    exact memo_in (hM.at (Kp.get k _)) hd ⟨Kp.tok _ _, rfl⟩) hm
/-- x in a set -/
theorem Ts.inSet {C : Cx} {l r : Expr} {p : Pos} {x : Str} {a : Addr} {S : Str → Bool} {n : Nat} (hl : EvD C l (.str x)) (hr : EvV C r (.ref a)) (hS : SetS C.prog C.w C.s.heap a S n) (hm : behindInMarks .In r = false := by with_unfolding_all rfl) : Ts C (.Compare l [.In] [r] p) (S x) :=
  Ts.cmpG hl (fun s s' v k hv => hv.kp k) hr (fun s v u k hv hu => by
    subst hu
    obtain ⟨t, rfl⟩ := Rd_str.mp hv
    exact wpAny_inSet_of (strIs _ _ x t) rfl (hS.at (Kp.get k _)).setOf ⟨Kp.tok _ _, rfl⟩) hm
/-- d[x] -/
theorem Ev.memo {C : Cx} {value slice : Expr} {pos : Pos} {x : Str} {d : Addr} {M : Str → Option Int} {n : Nat} {i : Int} (hv : EvV C value (.ref d)) (hi : EvD C slice (.str x)) (hM : Memo C.prog C.w C.s.heap d M n) (hx : M x = some i)
    (hs : ∀ o i, subscripted slice false o i = operate [o, i] (getItem o i) := by intro _ _; rfl) : EvD C (.Subscript value slice pos) (.int i) := fun s k₀ =>
  Subscript_ (Ev.two hv k₀ fun v s₁ k₁ hv => Ev.two hi (Kp.trans k₀ k₁) fun u s₂ k₂ hu => by
    subst hv
    obtain ⟨t, rfl⟩ := Rd_str.mp hu
    have hM' := hM.at (Kp.get (Kp.trans (Kp.trans k₀ k₁) k₂) _)
    obtain ⟨kvs, hD, _⟩ := id hM'
    exact tail_any hD.typeIs slot_dict_getitem.lookup (memo_get hM' hx fun t' => ⟨Kp.trans (Kp.trans k₁ k₂) (Kp.tok _ _), Rd_int.mpr ⟨_, rfl⟩⟩) (hs _ _))
/-- d[x] = i -/
theorem FS.setMemo {X : Fx} {hB : Heap} {ρ : List (Str × Sp)} {s : Shared} (f : FS X hB ρ s) {value o ix : Expr} {p' pos : Pos} {d : Addr} {x : Str} {M : Str → Option Int} {n : Nat} {i : Int} {Q : Flow → Shared → Prop} (hM : Memo X.prog X.w s.heap d M n) (hn : n ≤ 1000)
    (he : EvD (X.cx s ρ) value (.int i)) (ho : EvV (X.cx s ρ) o (.ref d)) (hix : EvD (X.cx s ρ) ix (.str x)) (hd0 : X.s₀.heap.get? d = none) (hdl : d ≠ X.env.locals)
    (h : ∀ s', FS X hB ρ s' → Memo X.prog X.w s'.heap d (fun y => if y = x then some i else M y) (n + 1) → Q .next s')
    (hs : swapsWith value (some (.Subscript o ix p')) pos.line X.env = pure false := by rfl) : wpAny X.m X.A (exec (.Assign [.Subscript o ix p'] value pos) X.env) Q (fun _ _ => False) s := by
  refine wpAny_Assign_Subscript (Ev.two he (Kp.refl _) fun v s₁ k₁ hv => Ev.two ho k₁ fun u s₂ k₂ hu => Ev.two hix (Kp.trans k₁ k₂) fun y s₃ k₃ hy => ?_) hs
  subst hu
  obtain ⟨t, rfl⟩ := Rd_str.mp hy
  obtain ⟨t', rfl⟩ := Rd_int.mp hv
  have k := Kp.trans (Kp.trans k₁ k₂) k₃
  have hM3 := hM.at (Kp.get k _)
  refine memo_set hM3 hn fun h' hM' hs' => h _ ((f.kp k).butD hM3.dict hd0 hdl hs' ?_) hM'
  obtain ⟨o, es, ep, e, _⟩ := hM'.dict
  rw [e]; exact fun y => nomatch y

noncomputable def clsBody : List Stmt := match stmtAt 15 with
  | .ClassDef _ _ _ body _ _ _ _ _ _ _ => body
  | _ => []
noncomputable def methAt (i : Nat) : Stmt := (clsBody[i]?).getD (.Pass ⟨0, 0, 0, 0⟩)
noncomputable def methFn (i : Nat) (qual : Str) (pm cd doc dV : Value) : FuncData := match methAt i with
  | .FunctionDef name params body _ _ _ scope _ _ _ => methDefD name qual params body scope pm cd doc dV
  | _ => methDefD "" "" { posonlyargs := [], args := [], vararg := none, kwonlyargs := [], kw_defaults := [], kwarg := none, defaults := [] } [] default pm cd doc dV
noncomputable def methBody (i : Nat) : List Stmt := match methAt i with
  | .FunctionDef _ _ body _ _ _ _ _ _ _ => body
  | _ => []
theorem call_starts {C : Cx} {x y : Str} : CallD C (.builtin "str.startswith") [.str x, .str y] (.bool (Txt.startswith x y)) := fun s vs k h => by
  obtain ⟨v, u, rfl, ha, hb⟩ := h.two_
  obtain ⟨t, rfl⟩ := Rd_str.mp ha
  obtain ⟨t', rfl⟩ := Rd_str.mp hb
  exact PySem.SC.startswith ⟨Kp.refl _, Rd_bool.mpr rfl⟩
theorem truth_bool {C : Cx} {b : Bool} : TruthOk C (fun h v => Rd C.ok h (.bool b) v) b := fun s v k hv => by
  have := Rd_bool.mp hv; subst this
  exact wpAny_truthy_bool ⟨Kp.refl _, rfl⟩

theorem rdNs_mods {am ld di : Addr} : rdNs am ld di "_mods" = some (.ref am) := by unfold rdNs; rw [if_neg (by decide), if_neg (by decide), if_pos rfl]
theorem rdNs_dirs {am ld di : Addr} : rdNs am ld di "_dirs" = some (.ref ld) := by unfold rdNs; rw [if_neg (by decide), if_pos rfl]
theorem rdNs_ign {am ld di : Addr} : rdNs am ld di "_ignore" = some (.ref di) := by unfold rdNs; rw [if_pos rfl]
theorem Ev.ofVal {C : Cx} {e : Expr} {u : Value} {P : Heap → Value → Prop} (he : EvV C e u) (h : ∀ s, Keeps C.s s → P s.heap u) : Ev C e P := fun s k =>
  wpAny_mono (he s k) (fun v s' y => ⟨y.1, y.2 ▸ h s' (Kp.trans k y.1)⟩) fun _ _ y => y
noncomputable def freshAns (xs dirs : List Str) (file : Option Str) (x : Str) : Int :=
  if xs.any (fun m => x == m) || xs.any (fun m => Txt.startswith x (m ++ ".")) then 1 else match file with
    | none => 1
    | some f => if dirs.any (fun d => Txt.startswith f (d ++ "/")) then 1 else 0
noncomputable def namesAns (xs dirs : List Str) (file : Option Str) (M : Str → Option Int) (x : Str) : Int := match M x with
  | some i => i
  | none => freshAns xs dirs file x
noncomputable def upd (M : Str → Option Int) (x : Str) (i : Int) : Str → Option Int := fun y => if y = x then some i else M y
theorem upd_same {M : Str → Option Int} {x : Str} {i : Int} (h : M x = some i) : upd M x i = M := by
  funext y
  unfold upd
  split
  · rename_i e; rw [e, h]
  · rfl
noncomputable def fileD : Option Str → PyData
  | none => .none
  | some f => .str f
noncomputable abbrev naX (prog : Program) (w : World) (A : Around) (a : Addr) (pm cd doc : Value) (s s₀ : Shared) (mg mb : Str → Option Value) : Fx := fxG prog w A (methFn 1 "_Ignore.names" pm cd doc .none) a (fun _ => True) (fun _ => True) s s₀ mg mb
theorem notFr_call {fd : FuncData} {a b : Addr} {s : Shared} (hb : s.heap.get? b ≠ none) (hc : fd.closure = []) : ¬ frA (callEnvC fd s.heap.objs.size a) b := by
  rintro (e | ⟨x, e⟩)
  · exact hb (by rw [e]; exact get_size _)
  · rcases cellsFrom_mem _ _ _ _ _ (mem_of_lookup e) with h | ⟨h, _⟩
    · first | (rw [hc] at h; cases h) | cases h
    · exact hb (get_ge (Nat.le_of_succ_le h))

section
variable {prog : Program} {w : World} {A : Around} {a : Addr} {pm cd doc : Value} {s : Shared} {mg mb : Str → Option Value}

/-- the end: the answer is kept and given back -/
theorem names_end {x dx am ld di Ca N : Addr} {mN : Str → Option Value} {xs dirs : List Str} {n m : Nat} {M : Str → Option Int} {mod : Str} {i : Int} (hX : (naX prog w A a pm cd doc s (hid s di) mg mb).Gd) (K : Cls s.heap Ca N mN) (R : RdS prog w Ca s.heap x dx am ld di (inS xs) n dirs) (hM : Memo prog w s.heap di M m) (hm : m ≤ 1000)
    {hB : Heap} {ρ : List (Str × Sp)} {s₁ : Shared} {ok' : Addr → Prop} (hok : ∀ a, ok' a → True) (f : FS ((naX prog w A a pm cd doc s (hid s di) mg mb).withOk ok') hB ρ s₁) (k : ∀ b o, s.heap.get? b = some o → s₁.heap.get? b = some o) (hself : ρ.lookup ("self" : Str) = some (.val (.ref x))) (hmod : ρ.lookup ("modulename" : Str) = some (.dat (.str mod)))
    {ep sp1 sp2 sp3 sp4 p1 p2 p3 : Pos} {kk kk' : Nat} {Q : Flow → Shared → Prop} (hQ : ∀ v s', Keeps (hid s di) s' → Memo prog w s'.heap di (upd M mod i) (m + 1) → (∃ t, v = .int i t) → Q (.ret v) s')
    (hs : swapsWith (.Constant (.int i) kk p1) (some (.Subscript (.Attribute (.Name "self" sp1) "_ignore" sp2) (.Name "modulename" sp3) sp4)) ep.line (naX prog w A a pm cd doc s (hid s di) mg mb).env = pure false) :
    wpAny (naX prog w A a pm cd doc s (hid s di) mg mb).m (naX prog w A a pm cd doc s (hid s di) mg mb).A
      (execs [.Assign [.Subscript (.Attribute (.Name "self" sp1) "_ignore" sp2) (.Name "modulename" sp3) sp4] (.Constant (.int i) kk p1) ep, .Return (some (.Constant (.int i) kk' p2)) p3] (naX prog w A a pm cd doc s (hid s di) mg mb).env) Q (fun _ _ => False) s₁ := by
  have hX' := hX.withOk (ok' := ok') hok
  have hC := f.cx hX'
  have di0 : s.heap.get? di ≠ none := by obtain ⟨o, es, ep, e, _⟩ := hM.dict; rw [e]; exact fun y => nomatch y
  refine FS.seq (FS.setMemo f (hM.at (k _)) hm Ev.int (Ev.attr (Ev.nameV hC hself) (K.keeps k) (R.keeps k).inst rdNs_ign K.ign lk_ign) (Ev.nameD hC hmod) (hid_none s di) (fun e => di0 ?_) (fun s₂ f₂ M₂ => ?_) hs)
  · rw [e]; exact get_size _
  · have hC₂ := f₂.cx hX'
    exact FS.seq (FS.retD f₂ (d := .int i) Ev.int fun v s' k' h => hQ v s' (Kp.trans f₂.F.keeps k') (M₂.at (Kp.get k' _)) (Rd_int.mp h))

set_option maxHeartbeats 4000000 in
theorem names_ok {k : Nat} {x dx am ld di Ca N : Addr} {mN : Str → Option Value} {xs dirs : List Str} {n m : Nat} {M : Str → Option Int} {mod : Str} {file : Option Str} (G : Gl prog mg mb (k + 1) A (hid s di)) (hf : FnIs s.heap a (methFn 1 "_Ignore.names" pm cd doc .none)) (hsep : ∃ t, mg "sep" = some (.str "/" t))
    (K : Cls s.heap Ca N mN) (R : RdS prog w Ca s.heap x dx am ld di (inS xs) n dirs) (hM : Memo prog w s.heap di M m) (hn : n ≠ 1) (hm : m ≤ 1000) (hdi : (di == sysModules) = false) (hmod : mod.length ≤ 1000) (hxs : ∀ y ∈ xs, y.length ≤ 1000) (hds : ∀ y ∈ dirs, y.length ≤ 1000) (hdl : dirs.length ≤ 1000) {vf : Value} {tm : Tok} (hvf : Rd (fun _ => True) s.heap (fileD file) vf) :
    wpAny (model prog w) A (call (.ref a) [.ref x, vf, .str mod tm]) (fun v s' => Keeps (hid s di) s' ∧ Memo prog w s'.heap di (upd M mod (namesAns xs dirs file M mod)) (m + 1) ∧ ∃ t, v = .int (namesAns xs dirs file M mod) t) (fun _ _ => False) s := by
  have hD : DefIs (methFn 1 "_Ignore.names" pm cd doc .none) ["self", "filename", "modulename"] := defIs_of (by kernel_rfl)
  have hvm : Rd (fun _ => True) s.heap (.str mod) (.str mod tm) := Rd_str.mpr ⟨_, rfl⟩
  have hsp : SpAll (fun _ => True) s.heap [.val (.ref x), .dat (fileD file), .dat (.str mod)] [.ref x, vf, .str mod tm] := ⟨_, _, rfl, rfl, _, _, rfl, hvf, _, _, rfl, hvm, rfl⟩
  refine call_fnG (hid_kp s di) G hf (names := ["self", "filename", "modulename"]) (body := methBody 1) (sps := [.val (.ref x), .dat (fileD file), .dat (.str mod)]) (ok := fun _ => True) hD rfl rfl hsp (Nat.le_refl _) (fun _ _ => trivial) fun s₁ k₁ f => ?_
  have hX : (naX prog w A a pm cd doc s (hid s di) mg mb).Gd := fxG_gd G hD rfl rfl _ _ fun _ _ => trivial
  have f : FS (naX prog w A a pm cd doc s (hid s di) mg mb) s₁.heap [("self", .val (.ref x)), ("filename", .dat (fileD file)), ("modulename", .dat (.str mod))] s₁ := f.sub (sub_cons rfl (sub_cons rfl (sub_cons rfl sub_nil)))
  show wpAny (naX prog w A a pm cd doc s (hid s di) mg mb).m (naX prog w A a pm cd doc s (hid s di) mg mb).A (execs (methBody 1) (naX prog w A a pm cd doc s (hid s di) mg mb).env) _ _ s₁
  have g₁ : ∀ b o, s.heap.get? b = some o → s₁.heap.get? b = some o := Kp.get k₁
  have ea : ∀ {s' : Shared} {ρ : List (Str × Sp)} {p q : Pos}, ((naX prog w A a pm cd doc s (hid s di) mg mb).cx s' ρ).Ok → (∀ b o, s.heap.get? b = some o → s'.heap.get? b = some o) → ρ.lookup ("self" : Str) = some (.val (.ref x)) → EvV ((naX prog w A a pm cd doc s (hid s di) mg mb).cx s' ρ) (.Attribute (.Name "self" p) "_ignore" q) (.ref di) := fun hC k h =>
    Ev.attr (Ev.nameV hC h) (K.keeps k) (R.keeps k).inst rdNs_ign K.ign lk_ign
  have eb : ∀ {s' : Shared} {ρ : List (Str × Sp)} {p q : Pos}, ((naX prog w A a pm cd doc s (hid s di) mg mb).cx s' ρ).Ok → (∀ b o, s.heap.get? b = some o → s'.heap.get? b = some o) → ρ.lookup ("self" : Str) = some (.val (.ref x)) → EvV ((naX prog w A a pm cd doc s (hid s di) mg mb).cx s' ρ) (.Attribute (.Name "self" p) "_mods" q) (.ref am) := fun hC k h =>
    Ev.attr (Ev.nameV hC h) (K.keeps k) (R.keeps k).inst rdNs_mods K.mods lk_mods
  have hC := f.cx hX
  refine FS.seq (FS.iff f (b := (M mod).isSome) (Ts.inMemo (Ev.nameD hC rfl) (ea hC g₁ rfl) (hM.at (g₁ _)) hdi) (fun hb s₂ f₂ k₂ => ?_) fun hb s₂ f₂ k₂ => ?_)
  · obtain ⟨i, hi⟩ := Option.isSome_iff_exists.mp hb
    have ei : namesAns xs dirs file M mod = i := by unfold namesAns; rw [hi]
    have g₂ : ∀ b o, s.heap.get? b = some o → s₂.heap.get? b = some o := Kp.get (Kp.trans k₁ k₂)
    have hC₂ := f₂.cx hX
    refine FS.seq (FS.retD f₂ (d := .int i) (Ev.memo (ea hC₂ g₂ rfl) (Ev.nameD hC₂ rfl) (hM.at (g₂ _)) hi) fun v s' k' h => ?_)
    rw [ei, upd_same hi]
    obtain ⟨kvs, q1, q2, q3⟩ := hM.at (Kp.get (Kp.trans (Kp.trans k₁ k₂) k') di)
    exact ⟨Kp.trans f₂.F.keeps k', ⟨kvs, q1, Nat.le_succ_of_le q2, q3⟩, Rd_int.mp h⟩
  have hno : M mod = none := by cases e : M mod with | none => rfl | some i => rw [e] at hb; cases hb
  have ei : namesAns xs dirs file M mod = freshAns xs dirs file mod := by unfold namesAns; rw [hno]
  rw [ei]
  have g₂ : ∀ b o, s.heap.get? b = some o → s₂.heap.get? b = some o := Kp.get (Kp.trans k₁ k₂)
  have hC₂ := f₂.cx hX
  refine wpAny_execs_nil (FS.seq (FS.iff f₂ (b := inS xs mod) (Ts.inSet (Ev.nameD hC₂ rfl) (eb hC₂ g₂ rfl) (R.set.at (g₂ _))) (fun hb s₃ f₃ k₃ => ?_) fun hb s₃ f₃ k₃ => ?_))
  · have e1 : freshAns xs dirs file mod = 1 := by
      have : xs.any (fun m => mod == m) = true := by
        unfold inS at hb
        rw [List.any_eq_true] at hb ⊢
        obtain ⟨y, hy, e⟩ := hb
        exact ⟨y, hy, by have := eq_of_beq e; subst this; exact beq_self_eq_true _⟩
      unfold freshAns; rw [this]; rfl
    rw [e1]
    exact names_end hX K R hM hm (fun _ _ => trivial) f₃ (fun b o e => Kp.get k₃ _ _ (g₂ b o e)) rfl rfl (fun v s' q1 q2 q3 => ⟨q1, q2, q3⟩) rfl
  have hnin : xs.any (fun m => mod == m) = false := by
    cases e : xs.any (fun m => mod == m) with
    | false => rfl
    | true =>
      have : inS xs mod = true := by
        unfold inS
        rw [List.any_eq_true] at e ⊢
        obtain ⟨y, hy, e⟩ := e
        exact ⟨y, hy, by have := eq_of_beq e; subst this; exact beq_self_eq_true _⟩
      rw [this] at hb; cases hb
  have g₃ : ∀ b o, s.heap.get? b = some o → s₃.heap.get? b = some o := fun b o e => Kp.get k₃ _ _ (g₂ b o e)
  have hC₃ := f₃.cx hX
  have nf : ∀ b o, s.heap.get? b = some o → ¬ frA (naX prog w A a pm cd doc s (hid s di) mg mb).env b := fun b o e => notFr_call (fd := methFn 1 "_Ignore.names" pm cd doc .none) (by rw [e]; exact fun y => nomatch y) rfl
  refine wpAny_execs_nil (FS.seq ?_)
  show wpAny _ _ (exec (.For _ _ _ _ _) _) _ _ _
  refine FS.forSet hX f₃ (eb hC₃ g₃ rfl) (R.set.at (g₃ _)) hn (.inl rfl) (fun _ _ => trivial) [("self", .val (.ref x)), ("filename", .dat (fileD file)), ("modulename", .dat (.str mod))] (sub_cons rfl (sub_cons rfl (sub_cons rfl sub_nil))) (fun h => ∀ b o, s.heap.get? b = some o → h.get? b = some o)
    (fun ok' h h' kh t b o e => t.ch b o (.inl (by rw [g₃ b o e]; exact fun y => nomatch y)) (nf b o e) (kh b o e)) g₃ (fun m => Txt.startswith mod (m ++ ".") = false) ?_ ?_
  · intro ok' hsub hal y s₄ hy f₄ g₄
    have hX₄ := hX.withOk hsub
    have hC₄ := f₄.cx hX₄
    have hy' : y ∈ xs := by
      unfold inS at hy
      rw [List.any_eq_true] at hy
      obtain ⟨z, hz, e⟩ := hy
      have := eq_of_beq e; subst this; exact hz
    have hyl := hxs y hy'
    refine FS.seq (FS.iff f₄ (b := Txt.startswith mod (y ++ ".")) (Ts.val (Ev.methS (name := "startswith") (ds := [.str (y ++ ".")]) (Ev.nameD hC₄ rfl) F.plainAttrs_str F.slot_str_startswith F.type_str_startswith (EvL.cons (Ev.binop (Ev.nameD hC₄ rfl) Ev.str (bin_addS (by show y.length + 1 ≤ _; omega))) EvL.nil) call_starts) truth_bool) (fun hb s₅ f₅ k₅ => ?_) fun hb s₅ f₅ k₅ => ?_)
    · have e1 : freshAns xs dirs file mod = 1 := by
        have : xs.any (fun m => Txt.startswith mod (m ++ ".")) = true := List.any_eq_true.mpr ⟨y, hy', hb⟩
        unfold freshAns; rw [this, Bool.or_true]; rfl
      rw [e1]
      exact names_end hX K R hM hm (fun _ _ => trivial) f₅ (fun b o e => Kp.get k₅ _ _ (g₄ b o e)) rfl rfl (fun v s' q1 q2 q3 => ⟨q1, q2, q3⟩) rfl
    · exact wpAny_execs_nil (wpAny_execs_nil ⟨f₅.sub (sub_cons rfl (sub_cons rfl (sub_cons rfl sub_nil))), fun b o e => Kp.get k₅ _ _ (g₄ b o e), hb⟩)
  intro ok' s₄ hsub hT f₄ g₄
  have hT' : xs.any (fun m => Txt.startswith mod (m ++ ".")) = false := by
    rw [List.any_eq_false]
    intro y hy
    have : inS xs y = true := List.any_eq_true.mpr ⟨y, hy, beq_self_eq_true _⟩
    rw [hT y this]; exact Bool.false_ne_true
  have hC₄ := f₄.cx hX
  refine FS.seq ?_
  cases file with
  | none =>
    have e1 : freshAns xs dirs none mod = 1 := by unfold freshAns; split <;> rfl
    rw [e1]
    refine FS.iff f₄ (b := true) (Ts.cmp (Ev.nameD hC₄ (d := .none) rfl) Ev.cNone cmp_noneIs) (fun _ s₅ f₅ k₅ => ?_) fun hb => nomatch hb
    exact names_end hX K R hM hm (fun _ _ => trivial) f₅ (fun b o e => Kp.get k₅ _ _ (g₄ b o e)) rfl rfl (fun v s' q1 q2 q3 => ⟨q1, q2, q3⟩) rfl
  | some f0 =>
  refine FS.iff f₄ (b := false) (Ts.cmp (Ev.nameD hC₄ (d := .str f0) rfl) Ev.cNone cmp_isNone) (fun hb => nomatch hb) fun _ s₅ f₅ k₅ => wpAny_execs_nil ?_
  have g₅ : ∀ b o, s.heap.get? b = some o → s₅.heap.get? b = some o := fun b o e => Kp.get k₅ _ _ (g₄ b o e)
  have hC₅ := f₅.cx hX
  obtain ⟨tsep, hsep⟩ := hsep
  refine FS.seq ?_
  show wpAny _ _ (exec (.For _ _ _ _ _) _) _ _ _
  refine FS.forL hX f₅ (P := fun _ h v => Rd (fun _ => True) h (.list (dirs.map .str)) v) (l := dirs) (sp := fun d => .dat (.str d)) ?_ (Iters.list hC₅) (fun d => [("d", .dat (.str d))]) (fun x _ => .name) (fun x _ => own1 (.inl rfl)) (fun _ => [("self", .val (.ref x)), ("filename", .dat (.str f0)), ("modulename", .dat (.str mod))]) (sub_cons rfl (sub_cons rfl (sub_cons rfl sub_nil)))
    (fun ok' i h => (∀ b o, s.heap.get? b = some o → h.get? b = some o) ∧ ∀ d ∈ dirs.take i, Txt.startswith f0 (d ++ "/") = false) (fun ok' i h h' _ kh t => ⟨fun b o e => t.ch b o (.inl (by rw [g₅ b o e]; exact fun y => nomatch y)) (nf b o e) (kh.1 b o e), kh.2⟩) (fun ok' _ _ => ⟨g₅, fun d hd => by simp at hd⟩) ?_ ?_
  · refine Ev.ofVal (u := .ref ld) (Ev.attr (Ev.nameV hC₅ rfl) (K.keeps g₅) (R.keeps g₅).inst rdNs_dirs K.dirs lk_dirs) fun s' k' => ((R.keeps g₅).keeps (Kp.get k')).list
  · intro ok' hsub hal i d s₆ hd f₆ K₆
    have hX₆ := hX.withOk hsub
    have hC₆ := f₆.cx hX₆
    have hdm : d ∈ dirs := List.mem_of_getElem? hd
    have hdl' := hds d hdm
    refine FS.seq (FS.iff f₆ (b := Txt.startswith f0 (d ++ "/")) (Ts.val (Ev.methS (name := "startswith") (ds := [.str (d ++ "/")]) (Ev.nameD hC₆ rfl) F.plainAttrs_str F.slot_str_startswith F.type_str_startswith (EvL.cons (Ev.binop (Ev.nameD hC₆ rfl) (Ev.globalS hC₆ hsep rfl) (bin_addS (by show d.length + 1 ≤ _; omega))) EvL.nil) call_starts) truth_bool) (fun hb s₇ f₇ k₇ => ?_) fun hb s₇ f₇ k₇ => ?_)
    · have e1 : freshAns xs dirs (some f0) mod = 1 := by
        have : dirs.any (fun d => Txt.startswith f0 (d ++ "/")) = true := List.any_eq_true.mpr ⟨d, hdm, hb⟩
        unfold freshAns; simp only [this, if_true]; split <;> rfl
      rw [e1]
      exact names_end hX K R hM hm (fun _ _ => trivial) f₇ (fun b o e => Kp.get k₇ _ _ (K₆.1 b o e)) rfl rfl (fun v s' q1 q2 q3 => ⟨q1, q2, q3⟩) rfl
    · refine wpAny_execs_nil (wpAny_execs_nil ⟨f₇.sub (sub_cons rfl (sub_cons rfl (sub_cons rfl sub_nil))), fun b o e => Kp.get k₇ _ _ (K₆.1 b o e), fun d' hd' => ?_⟩)
      rw [List.take_add_one, hd] at hd'
      rcases List.mem_append.mp hd' with hd' | hd'
      · exact K₆.2 d' hd'
      · have : d' = d := by simpa using hd'
        subst this; exact hb
  · intro ok' s₆ hsub f₆ K₆
    have e0 : freshAns xs dirs (some f0) mod = 0 := by
      have : dirs.any (fun d => Txt.startswith f0 (d ++ "/")) = false := by
        rw [List.any_eq_false]
        intro d hd
        rw [K₆.2 d (by rw [List.take_length]; exact hd)]; exact Bool.false_ne_true
      unfold freshAns; rw [hnin, hT']; simp [this]
    rw [e0]
    exact names_end hX K R hM hm (fun _ _ => trivial) f₆ K₆.1 rfl rfl (fun v s' q1 q2 q3 => ⟨q1, q2, q3⟩) rfl
end
/-! ## calls whose binding makes something -/
theorem call_fnB {prog : Program} {w : World} {mg mb : Str → Option Value} {k : Nat} {A : Around} {s s₀ : Shared} (k₀ : Keeps s₀ s) {fd : FuncData} {a : Addr} {names : List Str} {body : List Stmt} {args : List Value} {sps : List Sp} {ok : Addr → Prop} {P : Value → Shared → Prop}
    (G : Gl prog mg mb (k + 1) A s₀) (hf : FnIs s.heap a fd) (D : DefIs fd names) (hbody : fd.body = .stmts body) (hok : ∀ a, s.heap.get? a = none → ok a) (F₀ : Shared → Prop)
    (hbind : ∀ E, wpAny (model prog w) A.in1 (bindArgs fd ⟨args, []⟩) (fun binds s' => ∃ vals, binds = names.zip vals ∧ Keeps s s' ∧ SpAll ok s'.heap sps vals ∧ vals.length ≤ names.length ∧ F₀ s') E s)
    (h : ∀ s' s₁, Keeps s s' → Keeps s' s₁ → F₀ s' → FS (fxG prog w A fd a ok (fun _ => True) s' s₀ mg mb) s₁.heap (names.zip sps) s₁ →
      wpAny (model prog w) (A.deeper (callEnvC fd s'.heap.objs.size a)) (execs body (callEnvC fd s'.heap.objs.size a)) (fun fl s' => P (match fl with | .ret v => v | _ => .none) s') (fun _ _ => False) s₁) :
    wpAny (model prog w) A (call (.ref a) args) P (fun _ _ => False) s := by
  have Gs := G.kp k₀
  obtain ⟨o, ho, hd⟩ := hf.obj
  refine wpAny_call (codeAny_call_function (by have := Gs.depth; omega) ho hd D.co D.gen hbody hf.code ?_)
  rw [D.clo]
  refine wpAny_mono (hbind _) (fun binds s' hy => ?_) fun _ _ y => y
  obtain ⟨vals, rfl, ks', hsp, hlen, hF⟩ := hy
  have hzn : (names.zip vals).map (·.1) = names.take vals.length := zip_fst _ _
  have hmem : ∀ x ∈ names.zip vals, x.1 ∈ names := fun x hx => by
    have : x.1 ∈ (names.zip vals).map (·.1) := List.mem_map_of_mem (f := (·.1)) hx
    rw [hzn] at this; exact List.mem_of_mem_take this
  refine wpAny_newFunctionEnv_cells D.kind (fun x hx => ?_) fun env he s₁ I => ?_
  · rcases D.kinds x.1 (hmem x hx) with e | e
    · exact .inl e
    · exact .inr ⟨e, cellsFrom_some _ _ _ (.inl e)⟩
  · subst he
    refine ⟨(Gs.kp ks').nolim.keeps I.toInCall.keep, codeAny_func ?_⟩
    have I : InCallC s' (callEnvC fd s'.heap.objs.size a).locals (bindL (callEnvC fd s'.heap.objs.size a).kindOf (names.zip vals) fun _ => none) (callEnvC fd s'.heap.objs.size a).cells (bindC (callEnvC fd s'.heap.objs.size a).kindOf (names.zip vals) fun _ => none) s₁ := I
    have hnd : ((names.zip vals).map (·.1)).Nodup := by rw [hzn]; exact D.nodup.sublist (List.take_sublist _ _)
    obtain ⟨h', tk, e, kk⟩ := I.done
    have ks : Keeps s' s₁ := by subst e; exact ⟨kk, rfl, rfl⟩
    have k0' := Kp.trans k₀ ks'
    have new : ∀ b, @LE.le Nat _ s'.heap.objs.size b → s₀.heap.get? b = none := fun b hb => Kp.none k0' (get_ge hb)
    have F : Fst s₀ fd.scope.names (callEnvC fd s'.heap.objs.size a) ok (names.zip sps) s₁ := by
      refine ⟨Kp.trans k0' ks, D.kind, ⟨_, I.toInCall.ns⟩, new _ I.toInCall.fresh, fun x c e => ⟨_, I.cell x c e⟩, I.apart, fun x c _ e => new _ (Nat.le_of_lt (Nat.lt_of_le_of_lt I.toInCall.fresh (I.above x c (mem_of_lookup e)))), fun x sp e => ?_⟩
      obtain ⟨v, hv, hon⟩ := zip_lookup hsp e
      refine ⟨v, ?_, Sp.kp hon ks⟩
      rcases D.kinds x (hmem (x, v) hv) with hk | hk
      · exact .inl ⟨hk, _, I.toInCall.ns, bindL_get _ _ x v hnd hv hk⟩
      · have hc : ∃ c, (callEnvC fd s'.heap.objs.size a).cells.lookup x = some c := Option.isSome_iff_exists.mp (cellsFrom_some fd.scope.names (s'.heap.objs.size + 1) [] (.inl hk))
        obtain ⟨c, hc⟩ := hc
        refine .inr ⟨.inl hk, c, hc, ?_⟩
        have := I.cell x c hc
        rwa [bindC_get _ _ x v hnd hv (fun e => by rw [show (callEnvC fd s'.heap.objs.size a).kindOf x = some .cell from hk] at e; cases e)] at this
    exact wpAny_mono (h s' s₁ ks' ks hF ⟨F, fun b hb => hok b (Kp.none ks' (Kp.none ks hb)), .refl _ _⟩) (fun fl s' y => y) fun _ _ y => y.elim

/-! ## arguments that are no data -/
noncomputable def EvLS (C : Cx) (pos : Pos) (es : List Expr) (sps : List Sp) : Prop :=
  ∀ s, Keeps C.s s → wpAny (model C.prog C.w) C.A (spliced (backTo pos (starEach es C.env))) (fun vs s' => Keeps s s' ∧ SpAll C.ok s'.heap sps vs) (fun _ _ => False) s
theorem EvLS.nil {C : Cx} {pos : Pos} : EvLS C pos [] [] := fun s k => wpAny_items_nil ⟨Kp.refl _, rfl⟩
theorem EvLS.cons {C : Cx} {pos : Pos} {e : Expr} {es : List Expr} {sp : Sp} {sps : List Sp} (h : Ev C e (fun h v => sp.on C.ok h v)) (hs : EvLS C pos es sps)
    (he : starEach (e :: es) C.env = (false, eval e C.env) :: starEach es C.env := by rfl) : EvLS C pos (e :: es) (sp :: sps) := fun s k =>
  wpAny_items_cons (Ev.two h k fun v s₁ k₁ hv => wpAny_mono (hs s₁ (Kp.trans k k₁)) (fun vs s₂ x => ⟨Kp.trans k₁ x.1, ⟨v, vs, rfl, Sp.kp hv x.1, x.2⟩⟩) fun _ _ x => x) he
noncomputable def CallS (C : Cx) (f : Value) (sps : List Sp) (P : Heap → Value → Prop) : Prop :=
  ∀ s vs, Keeps C.s s → SpAll C.ok s.heap sps vs → wpAny (model C.prog C.w) C.A (call f vs) (fun r s' => Keeps s s' ∧ P s'.heap r) (fun _ _ => False) s
theorem Ev.callFS {C : Cx} {f : Str} {p pos : Pos} {a : Addr} {es : List Expr} {sps : List Sp} {P : Heap → Value → Prop} (hf : EvV C (.Name f p) (.ref a)) (ho : ∃ o fd, C.s.heap.get? a = some o ∧ o.data = .func fd) (ha : EvLS C pos es sps) (hc : CallS C (.ref a) sps P)
    (hp : (backTo pos (starEach es C.env)).any (·.1) = false := by rfl) : Ev C (.Call (.Name f p) es [] pos) P := fun s k =>
  wpAny_Call_NameR (Ev.two hf k fun v s₁ k₁ hv => by
    subst hv
    obtain ⟨o, fd, h1, h2⟩ := ho
    exact Calls.callWith_function (o := o) (fd := fd) (evalArgs_any hp (wpAny_mono (ha s₁ (Kp.trans k k₁)) (fun vs s₂ x => ⟨⟨Kp.get (Kp.trans (Kp.trans k k₁) x.1) _ _ h1, h2⟩, wkV (Kp.trans k₁ x.1) (hc s₂ vs (Kp.trans (Kp.trans k k₁) x.1) x.2)⟩) fun _ _ x => x)))
theorem CallS.def {C : Cx} (hC : C.Ok) {k : Nat} (G : Gl C.prog C.mg C.mb (k + 1) C.A C.s) {a : Addr} {fd : FuncData} (hf : FnIs C.s.heap a fd) {names : List Str} {body : List Stmt} {sps : List Sp} {P : Heap → Value → Prop} (D : DefIs fd names) (hbody : fd.body = .stmts body) (hg : fd.globals = mainGlobals) (hbi : fd.builtins = builtinsNs)
    (hn : sps.length = names.length) (hbind : ∀ vals : List Value, vals.length = names.length → bindArgs fd ⟨vals, []⟩ = pure (names.zip vals))
    (h : ∀ s s₁, Keeps C.s s → (fxOf C.prog C.w C.A fd a C.ok (fun _ => True) s C.mg C.mb).Gd → Gl C.prog C.mg C.mb k (fxOf C.prog C.w C.A fd a C.ok (fun _ => True) s C.mg C.mb).A s₁ → FS (fxOf C.prog C.w C.A fd a C.ok (fun _ => True) s C.mg C.mb) s₁.heap (names.zip sps) s₁ →
      wpAny (fxOf C.prog C.w C.A fd a C.ok (fun _ => True) s C.mg C.mb).m (fxOf C.prog C.w C.A fd a C.ok (fun _ => True) s C.mg C.mb).A (execs body (fxOf C.prog C.w C.A fd a C.ok (fun _ => True) s C.mg C.mb).env) (fun fl s' => Keeps s s' ∧ P s'.heap (match fl with | .ret v => v | _ => .none)) (fun _ _ => False) s₁) :
    CallS C (.ref a) sps P := fun s vs kk x => by
  have hl : vs.length = names.length := by
    have : ∀ {ok : Addr → Prop} {h : Heap} {sps : List Sp} {vs : List Value}, SpAll ok h sps vs → vs.length = sps.length := by
      intro ok h sps
      induction sps with
      | nil => intro vs x; have : vs = [] := x; subst this; rfl
      | cons sp r ih => intro vs x; obtain ⟨v, us, rfl, _, b⟩ := x; simp [ih b]
    rw [this x, hn]
  exact call_fn (G.kp kk) (hf.kp kk) D hbody (hbind vs hl) x (Nat.le_of_eq hl) (fun a h => hC.ok a (Kp.none kk h)) fun s₁ f => h s s₁ kk (fxOf_gd (G.kp kk) D hg hbi C.ok (fun _ => True) fun _ _ => trivial) (((G.kp kk).deeper _).kp f.F.keeps) f

/-! ## small rules -/
theorem cmp_neS {C : Cx} {a b : Str} : CmpOk C .NotEq (.str a) (.str b) (a != b) := fun s v u _ hv hu => by
  obtain ⟨t, rfl⟩ := Rd_str.mp hv; obtain ⟨t', rfl⟩ := Rd_str.mp hu
  exact ne_str ⟨Kp.refl _, rfl⟩
theorem call_lenT {C : Cx} {ds : List PyData} (hn : ds.length ≤ 1000000) : CallD C (.builtin "len") [.tuple ds] (.int ds.length) := fun s vs k x => by
  obtain ⟨v, rfl, a⟩ := x.one_
  obtain ⟨l, us, rfl, _, hl, hr⟩ := Rd_tuple.mp a
  have z := rdAll_size hr
  exact len_tuple hl (by omega) ⟨Kp.trans (Kp.tok _ _) (Kp.tok _ _), Rd_int.mpr ⟨_, by rw [z]⟩⟩
theorem Ev.itemT {C : Cx} {value slice : Expr} {pos : Pos} {ds : List PyData} {k : Nat} {d : PyData} (hv : EvD C value (.tuple ds)) (hi : EvD C slice (.int k)) (hfit : k < 2 ^ 60) (hd : ds[k]? = some d)
    (hs : ∀ o i, subscripted slice false o i = operate [o, i] (getItem o i) := by intro _ _; rfl) : EvD C (.Subscript value slice pos) d := fun s k₀ =>
  Subscript_ (Ev.two hv k₀ fun v s₁ k₁ hv => Ev.two hi (Kp.trans k₀ k₁) fun u s₂ k₂ hu => by
    obtain ⟨t, rfl⟩ := Rd_int.mp hu
    obtain ⟨a, vs, rfl, _, hl, hr⟩ := Rd_tuple.mp (hv.kp k₂)
    obtain ⟨x, hx, hdx⟩ := hr.get _ _ hd
    have hlt : k < vs.size := by
      have := (List.getElem?_eq_some_iff.mp hx).1; simpa using this
    have hsi : seqIndex? (k : Int) vs.size = some k := by
      unfold seqIndex?
      rw [if_neg (show ¬ ((k : Int) < 0) by omega)]
      have h1 : (decide (0 ≤ (k : Int)) && decide ((k : Int) < vs.size)) = true := by rw [decide_eq_true (by omega), decide_eq_true (by omega)]; rfl
      simp only [h1, if_true, Int.toNat_natCast]
    exact tail_any (T := "tuple") hl.typeIs slot_tuple_getitem.lookup (getItem_tuple hl (by omega) (by omega) hsi (by simpa using hx) ⟨Kp.trans k₁ k₂, hdx⟩) (hs _ _))
/-! ## the path functions -/
theorem kind_ok {C : Cx} (hC : C.Ok) {k : Nat} (G : Gl C.prog C.mg C.mb (k + 1) C.A C.s) (B : Bis C.mg C.mb) {a : Addr} {pm cd doc : Value} (hf : FnIs C.s.heap a (fnAt 9 pm cd doc)) {nm x : Str} : CallD C (.ref a) [.str nm, .str x] (.str "") := by
  refine CallOk.def hC G hf (names := ["name", "x"]) (body := bodyAt 9) (defIs_of (by kernel_rfl)) rfl rfl rfl rfl (fun vs h => by obtain ⟨a, b, rfl⟩ := two_list h; rfl) fun s s₁ k₀ hX G' f => ?_
  have hC' := f.cx hX
  refine FS.seq (FS.setN f (sp := .val (.type "str")) (Ev.callT (T := "type") (ds := [.str x]) (by walk_at "fn") (EvL.cons (Ev.nameD hC' rfl) EvL.nil) call_typeS) (.inl rfl) fun s₂ f₂ => ?_)
  have hC₂ := f₂.cx hX
  refine FS.seq (FS.iff f₂ (b := true) (Ts.cast (Ts.isV (Ev.nameV hC₂ (u := .type "str") rfl) (by walk_at "fn") rfl) (by decide)) (fun _ s₃ f₃ _ => ?_) fun hb => nomatch hb)
  exact FS.seq (FS.retD f₃ (d := .str "") Ev.str fun v s' k' h => ⟨Kp.trans f₃.F.keeps k', h⟩)

noncomputable def EmptyD (prog : Program) (w : World) (h : Heap) (d : Addr) : Prop := h.DictOf (strKind prog w) d []
theorem cpath_ok {C : Cx} (hC : C.Ok) {k : Nat} (G : Gl C.prog C.mg C.mb (k + 2) C.A C.s) (B : Bis C.mg C.mb) {a ak : Addr} {pm cd doc pm' cd' doc' : Value} (hf : FnIs C.s.heap a (fnAt 10 pm cd doc)) (hkn : C.mg "_kind" = some (.ref ak)) (hk : FnIs C.s.heap ak (fnAt 9 pm' cd' doc')) {n1 n2 n3 x : Str} {d : Addr} (hd : EmptyD C.prog C.w C.s.heap d) (hds : (d == sysModules) = false) :
    CallS C (.ref a) [.dat (.str n1), .dat (.str n2), .dat (.str n3), .dat (.tuple [.str x]), .val (.ref d)] (fun h v => Rd C.ok h (.str x) v) := by
  refine CallS.def hC G hf (names := ["name", "cname", "argname", "args", "kwargs"]) (body := bodyAt 10) (defIs_of (by kernel_rfl)) rfl rfl rfl rfl (fun vs h => by obtain ⟨a, b, c, d, e, rfl⟩ := five_list h; rfl) fun s s₁ k₀ hX G' f => ?_
  have f := f.sub (ρ' := [("name", .dat (.str n1)), ("args", .dat (.tuple [.str x])), ("kwargs", .val (.ref d))]) (sub_cons rfl (sub_cons rfl (sub_cons rfl sub_nil)))
  have hC' := f.cx hX
  have ks1 : Keeps s s₁ := f.F.keeps
  refine FS.seq (FS.iff f (b := true) (Ts.cast (Ts.ops (TsA.and (b := true) (Ts.cast (Ts.cmp (Ev.callB (by walk_at "fn") (EvL.cons (Ev.nameD hC' (d := .tuple [.str x]) rfl) EvL.nil) (call_lenT (Nat.le_of_ble_eq_true rfl))) Ev.int cmp_eqI) (by rfl)) fun _ => TsA.and (b := true) (Ts.cast (Ts.not (b := false) (Ts.val (Ev.nameV hC' (u := .ref d) rfl) fun s₂ v k₂ hv => ?_)) (by rfl)) fun _ => TsA.and0)) (by rfl)) (fun _ s₃ f₃ _ => ?_) fun hb => nomatch hb)
  · subst hv
    exact wpAny_truthy_dict hds (hd.keep (Kp.get (Kp.trans (Kp.trans k₀ ks1) k₂))) (by decide) ⟨Kp.trans (Kp.tok _ _) (Kp.tok _ _), rfl⟩
  have hC₃ := f₃.cx hX
  refine FS.seq (FS.setM f₃ (d := .str x) (Ev.itemT (k := 0) (Ev.nameD hC₃ (d := .tuple [.str x]) rfl) Ev.int (by decide) rfl) (.inl rfl) fun s₄ f₄ _ => wpAny_execs_nil ?_)
  have hC₄ := f₄.cx hX
  have G4 : Gl C.prog C.mg C.mb (k + 1) (fxOf C.prog C.w C.A (fnAt 10 pm cd doc) a C.ok (fun _ => True) s C.mg C.mb).A s₄ := ((G.kp k₀).deeper _).kp f₄.F.keeps
  refine FS.seq (FS.setM f₄ (d := .str "") (Ev.callF (a := ak) (ds := [.str n1, .str x]) (Ev.global hC₄ rfl hkn) ((hk.kp k₀).kp f₄.F.keeps).fn (EvL.cons (Ev.nameD hC₄ rfl) (EvL.cons (Ev.nameD hC₄ rfl) EvL.nil)) (kind_ok hC₄ G4 B ((hk.kp k₀).kp f₄.F.keeps))) (.inl rfl) fun s₅ f₅ _ => ?_)
  have hC₅ := f₅.cx hX
  refine FS.seq (FS.iff f₅ (b := false) (Ts.val (Ev.nameD hC₅ (d := .str "") rfl) (truth_str (by decide))) (fun hb => nomatch hb) fun _ s₆ f₆ _ => ?_)
  have hC₆ := f₆.cx hX
  exact wpAny_execs_nil (FS.seq (FS.retD f₆ (d := .str x) (Ev.nameD hC₆ rfl) fun v s' k' h => ⟨Kp.trans f₆.F.keeps k', h⟩))

theorem splitroot_ok {C : Cx} (hC : C.Ok) {k : Nat} (G : Gl C.prog C.mg C.mb (k + 1) C.A C.s) {a : Addr} {pm cd doc : Value} (hf : FnIs C.s.heap a (fnAt 11 pm cd doc)) {p : Str} (hp : p.length ≤ 1000) (h1 : Txt.slice p none (some 1) = "/") (h2 : Txt.slice p (some 1) (some 2) ≠ "/") :
    CallD C (.ref a) [.str p] (.tuple [.str "", .str "/", .str (Txt.slice p (some 1) none)]) := by
  refine CallOk.def hC G hf (names := ["p"]) (body := bodyAt 11) (defIs_of (by kernel_rfl)) rfl rfl rfl rfl (fun vs h => by obtain ⟨a, rfl⟩ := one_list h; rfl) fun s s₁ k₀ hX G' f => ?_
  have f := f.sub (ρ' := [("p", .dat (.str p))]) (sub_cons rfl sub_nil)
  have hC' := f.cx hX
  refine FS.seq (FS.setM f (d := .str "/") Ev.str (.inl rfl) fun s₂ f₂ _ => ?_)
  have hC₂ := f₂.cx hX
  refine FS.seq (FS.setM f₂ (d := .str "") Ev.str (.inl rfl) fun s₃ f₃ _ => ?_)
  have hC₃ := f₃.cx hX
  refine FS.seq (FS.iff f₃ (b := false) (Ts.cast (Ts.cmp (Ev.sliceS (x := p) (plo := none) (phi := some 1) (Ev.nameD hC₃ rfl) .no (.int Ev.int) (by omega)) (Ev.nameD hC₃ (d := .str "/") rfl) cmp_neS) (by rw [h1]; rfl)) (fun hb => nomatch hb) fun _ s₄ f₄ _ => ?_)
  have hC₄ := f₄.cx hX
  refine FS.seq (FS.iff f₄ (b := true) (Ts.cast (Ts.ops (TsA.or (b := true) (c := false) (Ts.cast (Ts.cmp (Ev.sliceS (x := p) (plo := some 1) (phi := some 2) (Ev.nameD hC₄ rfl) (.int Ev.int) (.int Ev.int) (by omega)) (Ev.nameD hC₄ (d := .str "/") rfl) cmp_neS) (bne_iff_ne.mpr h2)) fun hb => nomatch hb)) (by rfl)) (fun _ s₅ f₅ _ => ?_) fun hb => nomatch hb)
  have hC₅ := f₅.cx hX
  exact FS.seq (FS.retD f₅ (Ev.tuple hC₅ (EvL.cons (Ev.nameD hC₅ rfl) (EvL.cons (Ev.nameD hC₅ rfl) (EvL.cons (Ev.sliceS (x := p) (plo := some 1) (phi := none) (Ev.nameD hC₅ rfl) (.int Ev.int) .no (by omega)) EvL.nil))) (Nat.le_of_ble_eq_true rfl)) fun v s' k' h => ⟨Kp.trans f₅.F.keeps k', h⟩)

theorem strs_of {ok : Addr → Prop} {h : Heap} : ∀ {xs : List Str} {vs : List Value}, RdAll ok h (xs.map .str) vs → ∃ l : List (Str × Tok), vs = strValues l ∧ l.map (·.1) = xs
  | [], vs, x => ⟨[], x.nil_, rfl⟩
  | y :: r, vs, x => by
    obtain ⟨v, us, rfl, hv, hr⟩ := RdAll.cons_ (d := .str y) (ds := r.map .str) x
    obtain ⟨t, rfl⟩ := Rd_str.mp hv
    obtain ⟨l, rfl, rfl⟩ := strs_of hr
    exact ⟨(y, t) :: l, rfl, rfl⟩
theorem of_strs {ok : Addr → Prop} {h : Heap} : ∀ l : List (Str × Tok), RdAll ok h ((l.map (·.1)).map .str) (strValues l)
  | [] => by simp only [List.map_nil, RdAll]; rfl
  | (y, t) :: r => by
    simp only [List.map_cons, RdAll]
    exact ⟨_, _, rfl, Rd_str.mpr ⟨t, rfl⟩, of_strs r⟩
theorem call_split {C : Cx} (hC : ∀ a, C.ok a) {x y : Str} (hy : (y.length == 0) = false) (hx : x.length ≤ 1000000) (hp : (Builtin.Str.partsBetween x (Builtin.Str.occurrences x y 0 x.length (x.length + 1)) y.length).length ≤ 1000000) : CallOk C (.builtin "str.split") [.str x, .str y] (fun h v => Rd C.ok h (.list ((Txt.split x y).map .str)) v) := fun s vs k h => by
  obtain ⟨v, u, rfl, ha, hb⟩ := h.two_
  obtain ⟨t, rfl⟩ := Rd_str.mp ha
  obtain ⟨t', rfl⟩ := Rd_str.mp hb
  refine PySem.SCG.split1 (Fm := fun s' => Keeps s s') (fun s₁ ob k' z => ⟨fun b o e => Heap.get?_push_of_some _ (z.get b o e), z.gens, z.os⟩) (Kp.refl s) hy (fun D l s' e z hl => ⟨z, Rd_list.mpr ⟨D, _, rfl, hC D, hl, ?_⟩⟩) (by rw [sizeLine_eq]; omega) (by rw [sizeLine_eq]; omega)
  rw [← e]
  exact of_strs l
theorem call_joinL {C : Cx} {x : Str} {xs : List Str} (h : JoinOk x xs = true) : CallD C (.builtin "str.join") [.str x, .list (xs.map .str)] (.str (Txt.join x xs)) := fun s vs k y => by
  obtain ⟨v, u, rfl, ha, hb⟩ := y.two_
  obtain ⟨t, rfl⟩ := Rd_str.mp ha
  obtain ⟨l, us, rfl, _, hl, hr⟩ := Rd_list.mp hb
  obtain ⟨l', e1, e2⟩ := strs_of hr
  have : us = (strValues l').toArray := by rw [← e1]
  subst this
  exact PySem.SC.join hl e2 h fun t' k' => ⟨Kp.tok _ _, Rd_str.mpr ⟨_, rfl⟩⟩

theorem spAll_str1 {ok : Addr → Prop} {h : Heap} {x : Str} {t : Tok} : SpAll ok h [.dat (.str x)] [.str x t] := by
  have : Rd ok h (.str x) (.str x t) := Rd_str.mpr ⟨_, rfl⟩
  exact ⟨_, _, rfl, this, rfl⟩
noncomputable def keepC (c : Str) : Bool := decide (c.length ≠ 0) && !(c == ".")
noncomputable abbrev npX (prog : Program) (w : World) (A : Around) (a : Addr) (pm cd doc : Value) (s : Shared) (mg mb : Str → Option Value) : Fx := fxG prog w A (fnAt 12 pm cd doc) a (fun _ => True) (fun _ => True) s s mg mb
set_option maxHeartbeats 4000000 in
theorem normp_ok {C : Cx} {k : Nat} (G : Gl C.prog C.mg C.mb (k + 2) C.A C.s) {a as : Addr} {pm cd doc pm' cd' doc' : Value} (hf : FnIs C.s.heap a (fnAt 12 pm cd doc)) (hsn : C.mg "_splitroot" = some (.ref as)) (hs : FnIs C.s.heap as (fnAt 11 pm' cd' doc'))
    {p : Str} {comps : List Str} (hp : p.length ≤ 1000) (h0 : p.length ≠ 0) (h1 : Txt.slice p none (some 1) = "/") (h2 : Txt.slice p (some 1) (some 2) ≠ "/") (hq : (Txt.slice p (some 1) none).length ≤ 1000) (hsp : Txt.split (Txt.slice p (some 1) none) "/" = comps) (hparts : (Builtin.Str.partsBetween (Txt.slice p (some 1) none) (Builtin.Str.occurrences (Txt.slice p (some 1) none) "/" 0 (Txt.slice p (some 1) none).length ((Txt.slice p (some 1) none).length + 1)) ("/" : Str).length).length ≤ 1000)
    (hdd : ∀ c ∈ comps, (c == "..") = false) (hlen : comps.length ≤ 1000) (hcl : ∀ c ∈ comps, c.length ≤ 1000) (hj : JoinOk "/" (comps.filter keepC) = true) (hjl : (Txt.join "/" (comps.filter keepC)).length ≤ 1000) :
    CallD C (.ref a) [.str p] (.str ("/" ++ Txt.join "/" (comps.filter keepC))) := fun s vs kk x => by
  obtain ⟨v, rfl, hv⟩ := x.one_
  obtain ⟨t, rfl⟩ := Rd_str.mp hv
  have hD : DefIs (fnAt 12 pm cd doc) ["path"] := defIs_of (by kernel_rfl)
  have hsp1 : SpAll (fun _ => True) s.heap [.dat (.str p)] [.str p t] := spAll_str1
  have Gs := G.kp kk
  refine call_fnG (Kp.refl s) Gs (hf.kp kk) (names := ["path"]) (body := bodyAt 12) (sps := [.dat (.str p)]) (ok := fun _ => True) hD rfl rfl hsp1 (Nat.le_refl _) (fun _ _ => trivial) fun s₁ k₁ f => ?_
  have hX : (npX C.prog C.w C.A a pm cd doc s C.mg C.mb).Gd := fxG_gd Gs hD rfl rfl _ _ fun _ _ => trivial
  have f : FS (npX C.prog C.w C.A a pm cd doc s C.mg C.mb) s₁.heap [("path", .dat (.str p))] s₁ := f.sub (sub_cons rfl sub_nil)
  show wpAny (npX C.prog C.w C.A a pm cd doc s C.mg C.mb).m (npX C.prog C.w C.A a pm cd doc s C.mg C.mb).A (execs (bodyAt 12) (npX C.prog C.w C.A a pm cd doc s C.mg C.mb).env) _ _ s₁
  have hC := f.cx hX
  refine FS.seq (FS.setM f (d := .str "/") Ev.str (.inl rfl) fun s₂ f₂ _ => ?_)
  have hC₂ := f₂.cx hX
  refine FS.seq (FS.setM f₂ (d := .str ".") Ev.str (.inl rfl) fun s₃ f₃ _ => ?_)
  have hC₃ := f₃.cx hX
  refine FS.seq (FS.setM f₃ (d := .str "..") Ev.str (.inl rfl) fun s₄ f₄ _ => ?_)
  have hC₄ := f₄.cx hX
  refine FS.seq (FS.iff f₄ (b := false) (Ts.cast (Ts.not (Ts.val (Ev.nameD hC₄ (d := .str p) rfl) (truth_str (by omega)))) (by simp [h0])) (fun hb => nomatch hb) fun _ s₅ f₅ _ => wpAny_execs_nil ?_)
  have hC₅ := f₅.cx hX
  have G5 : Gl C.prog C.mg C.mb (k + 1) (npX C.prog C.w C.A a pm cd doc s C.mg C.mb).A s₅ := (Gs.deeper _).kp f₅.F.keeps
  refine FS.seq (FS.setT hX f₅ (Ev.callF (a := as) (ds := [.str p]) (Ev.global hC₅ rfl hsn) ((hs.kp kk).kp f₅.F.keeps).fn (EvL.cons (Ev.nameD hC₅ rfl) EvL.nil) (splitroot_ok hC₅ G5 ((hs.kp kk).kp f₅.F.keeps) hp h1 h2)) .triple (own3 (.inl rfl) (.inl rfl) (.inl rfl)) fun s₆ f₆ => ?_)
  have f₆ := f₆.sub (ρ' := [("path", .dat (.str (Txt.slice p (some 1) none))), ("initial_slashes", .dat (.str "/")), ("dotdot", .dat (.str "..")), ("dot", .dat (.str ".")), ("sep", .dat (.str "/"))]) (sub_cons rfl (sub_cons rfl (sub_cons rfl (sub_cons rfl (sub_cons rfl sub_nil)))))
  have hC₆ := f₆.cx hX
  refine FS.seq (FS.setM f₆ (d := .list (comps.map .str)) (Ev.cast (Ev.methS (name := "split") (ds := [.str "/"]) (Ev.nameD hC₆ rfl) F.plainAttrs_str F.slot_str_split F.type_str_split (EvL.cons (Ev.nameD hC₆ rfl) EvL.nil) (call_split (fun _ => trivial) (by decide) (by omega) (by omega))) (by rw [hsp])) (.inl rfl) fun s₇ f₇ _ => ?_)
  have f₇ := f₇.base
  have hC₇ := f₇.cx hX
  refine FS.seq (FS.setHole f₇ (ds := []) Ev.emptyL (.inl rfl) fun D s₈ okD hDn hD0 f₈ H₈ => ?_)
  have hX₈ := hX.hole D
  have hC₈ := f₈.cx hX₈
  have aD : s₈.heap.get? D ≠ none := by obtain ⟨vs, ⟨o, n, e, _⟩, _⟩ := H₈; rw [e]; exact fun y => nomatch y
  refine FS.seq ?_
  show wpAny _ _ (exec (.For _ _ _ _ _) _) _ _ _
  refine FS.forL hX₈ f₈ (P := fun _ h v => Rd ((npX C.prog C.w C.A a pm cd doc s C.mg C.mb).hole D).ok h (.list (comps.map .str)) v) (l := comps) (sp := fun c => .dat (.str c)) ?_ (Iters.list hC₈) (fun c => [("comp", .dat (.str c))]) (fun x _ => .name) (fun x _ => own1 (.inl rfl)) (fun _ => [("new_comps", .val (.ref D)), ("initial_slashes", .dat (.str "/")), ("dotdot", .dat (.str "..")), ("dot", .dat (.str ".")), ("sep", .dat (.str "/"))]) (sub_cons rfl (sub_cons rfl (sub_cons rfl (sub_cons rfl (sub_cons rfl sub_nil)))))
    (fun ok' i h => Hole ok' D (((comps.take i).filter keepC).map .str) h) (fun ok' i h h' _ x t => x.tm t aD) (fun ok' _ hal => by rw [List.take_zero]; exact H₈.okTo fun a o x e => hal a x (by rw [e]; exact fun y => nomatch y)) ?_ ?_
  · exact Ev.nameD hC₈ rfl
  · intro ok' hsub hal i c s₉ hc f₉ K₉
    have hX₉ := hX₈.withOk hsub
    have hC₉ := f₉.cx hX₉
    have hcm : c ∈ comps := List.mem_of_getElem? hc
    have hcl' := hcl c hcm
    have hi : i < comps.length := (List.getElem?_eq_some_iff.mp hc).1
    have etake : ((comps.take (i + 1)).filter keepC).map PyData.str = ((comps.take i).filter keepC).map PyData.str ++ (if keepC c = true then [.str c] else []) := by
      rw [List.take_add_one, hc, List.filter_append, List.map_append]
      congr 1
      show (List.filter keepC [c]).map PyData.str = _
      rw [List.filter_cons, List.filter_nil]
      split <;> rfl
    rw [etake]
    refine FS.seq (FS.iff f₉ (b := !keepC c) (Ts.cast (Ts.ops (TsA.or (Ts.not (Ts.val (Ev.nameD hC₉ (d := .str c) rfl) (truth_str (by omega)))) fun _ => TsA.or (Ts.cmp (Ev.nameD hC₉ (d := .str c) rfl) (Ev.nameD hC₉ (d := .str ".") rfl) cmp_eqS) fun _ => TsA.or0)) (by unfold keepC; rw [Bool.or_false]; cases decide (c.length ≠ 0) <;> cases c == "." <;> rfl)) (fun hb s₁₀ f₁₀ k₁₀ => ?_) fun hb s₁₀ f₁₀ k₁₀ => ?_)
    · have hk : keepC c = false := by simpa using hb
      rw [if_neg (by rw [hk]; exact Bool.false_ne_true), List.append_nil]
      exact FS.seq (wpAny_Continue ⟨f₁₀.sub (sub_cons rfl (sub_cons rfl (sub_cons rfl (sub_cons rfl (sub_cons rfl sub_nil))))), K₉.kp k₁₀⟩)
    · have hk : keepC c = true := by simpa using hb
      rw [if_pos hk]
      have hC₁₀ := f₁₀.cx hX₉
      refine wpAny_execs_nil (FS.seq (FS.iff f₁₀ (b := true) (Ts.cast (Ts.ops (TsA.or (b := true) (c := false) (Ts.cast (Ts.cmp (Ev.nameD hC₁₀ (d := .str c) rfl) (Ev.nameD hC₁₀ (d := .str "..") rfl) cmp_neS) (by have := hdd c hcm; simp only [bne, this]; rfl)) fun hb => nomatch hb)) (by rfl)) (fun _ s₁₁ f₁₁ k₁₁ => ?_) fun hb => nomatch hb))
      have hC₁₁ := f₁₁.cx hX₉
      have hfl := List.length_filter_le keepC (comps.take i)
      have htl : (comps.take i).length ≤ comps.length := by rw [List.length_take]; omega
      exact FS.seq (FS.append hX₉ f₁₁ (ds := ((comps.take i).filter keepC).map .str) (d := .str c) rfl (fun h => h.2 rfl) hD0 ((K₉.kp k₁₀).kp k₁₁) (by rw [List.length_map]; omega) (Ev.nameD hC₁₁ rfl) fun s₁₂ f₁₂ H₁₂ => wpAny_execs_nil (wpAny_execs_nil ⟨f₁₂.sub (sub_cons rfl (sub_cons rfl (sub_cons rfl (sub_cons rfl (sub_cons rfl sub_nil))))), H₁₂⟩))
  · intro ok' s₉ hsub f₉ K₉
    rw [List.take_length] at K₉
    have K₉ : HoleI ((npX C.prog C.w C.A a pm cd doc s C.mg C.mb).hole D).ok D ((comps.filter keepC).map .str) s₉.heap := K₉.i.okTo fun a o z _ => hsub a z
    have fv := f₉.view (x := "new_comps") rfl trivial K₉
    have hCv := fv.cx hX
    refine FS.seq (FS.setM fv (d := .list ((comps.filter keepC).map .str)) (Ev.nameD hCv rfl) (.inl rfl) fun s₁₀ f₁₀ _ => ?_)
    have hC₁₀ := f₁₀.cx hX
    refine FS.seq (FS.setM f₁₀ (d := .str ("/" ++ Txt.join "/" (comps.filter keepC))) (Ev.binop (Ev.nameD hC₁₀ rfl) (Ev.methS (name := "join") (ds := [.list ((comps.filter keepC).map .str)]) (Ev.nameD hC₁₀ rfl) F.plainAttrs_str F.slot_str_join F.type_str_join (EvL.cons (Ev.nameD hC₁₀ rfl) EvL.nil) (call_joinL hj)) (bin_addS (by show 1 + _ ≤ _; omega))) (.inl rfl) fun s₁₁ f₁₁ _ => ?_)
    have hC₁₁ := f₁₁.cx hX
    have hl2 : ("/" ++ Txt.join "/" (comps.filter keepC) : Str).length = 1 + (Txt.join "/" (comps.filter keepC)).length := Str.length_append _ _
    refine FS.seq (FS.ret f₁₁ (P := fun h v => Rd (fun _ => True) h (.str ("/" ++ Txt.join "/" (comps.filter keepC))) v) (Ev.or (b := true) (Ev.nameD hC₁₁ rfl) ?_ (fun s s' v k hv => hv.kp k) (fun _ h v hv => hv) fun e => nomatch e) fun v s' k' h => ⟨Kp.trans f₁₁.F.keeps k', Rd_str.mpr (Rd_str.mp h)⟩)
    have := truth_str (C := (npX C.prog C.w C.A a pm cd doc s C.mg C.mb).cx s₁₁ (("path", Sp.dat (PyData.str ("/" ++ Txt.join "/" (comps.filter keepC)))) :: ("comps", .dat (.list ((comps.filter keepC).map .str))) :: ("new_comps", .dat (.list ((comps.filter keepC).map .str))) :: [("new_comps", .val (.ref D)), ("initial_slashes", .dat (.str "/")), ("dotdot", .dat (.str "..")), ("dot", .dat (.str ".")), ("sep", .dat (.str "/"))])) (x := "/" ++ Txt.join "/" (comps.filter keepC)) (by omega)
    rwa [show decide (("/" ++ Txt.join "/" (comps.filter keepC) : Str).length ≠ 0) = true from by rw [hl2]; simp] at this

/-- the binding of normpath(*args, **kwargs) -/
theorem normpath_binds {M : Model} {A : Around} {E : Value → Shared → Prop} {s : Shared} {pm cd doc v : Value} {Q : List (Str × Value) → Shared → Prop}
    (h : Q [("args", .ref s.heap.objs.size), ("kwargs", .ref (s.heap.objs.size + 1))] { s with heap := (s.heap.push { cls := .type "tuple", data := .seq #[v] }).push { cls := .type "dict", data := .dict #[] } }) :
    wpAny M A (bindArgs (fnAt 13 pm cd doc) ⟨[v], []⟩) Q E s := by
  have e : bindArgs (fnAt 13 pm cd doc) ⟨[v], []⟩ = (do
    let t ← newTuple [v]
    let d ← alloc { cls := .type "dict", data := .dict #[] }
    pure [("args", t), ("kwargs", .ref d)]) := by rfl
  rw [e]
  refine wpAny_bind (wpAny_newTuple (wpAny_bind (wpAny_alloc (wpAny_pure ?_))) (by rw [sizeLine_eq]; exact Nat.le_of_ble_eq_true rfl))
  show Q [("args", .ref s.heap.objs.size), ("kwargs", .ref (s.heap.push { cls := .type "tuple", data := .seq #[v] }).objs.size)] _
  rw [Heap.size_push]
  exact h
noncomputable abbrev paX (prog : Program) (w : World) (A : Around) (a : Addr) (pm cd doc : Value) (s s₀ : Shared) (mg mb : Str → Option Value) : Fx := fxG prog w A (fnAt 13 pm cd doc) a (fun _ => True) (fun _ => True) s s₀ mg mb
/-- the functions that normpath reaches -/
structure Paths (mg : Str → Option Value) (h : Heap) (a : Addr) : Prop where
  me : ∃ pm cd doc, FnIs h a (fnAt 13 pm cd doc)
  kind : ∃ b pm cd doc, mg "_kind" = some (.ref b) ∧ FnIs h b (fnAt 9 pm cd doc)
  cpath : ∃ b pm cd doc, mg "_c_path" = some (.ref b) ∧ FnIs h b (fnAt 10 pm cd doc)
  root : ∃ b pm cd doc, mg "_splitroot" = some (.ref b) ∧ FnIs h b (fnAt 11 pm cd doc)
  norm : ∃ b pm cd doc, mg "_normpath" = some (.ref b) ∧ FnIs h b (fnAt 12 pm cd doc)
theorem Paths.kp {mg : Str → Option Value} {s s' : Shared} {a : Addr} (x : Paths mg s.heap a) (k : Keeps s s') : Paths mg s'.heap a :=
  ⟨x.me.elim fun pm y => y.elim fun cd y => y.elim fun doc y => ⟨pm, cd, doc, y.kp k⟩, x.kind.elim fun b y => y.elim fun pm y => y.elim fun cd y => y.elim fun doc y => ⟨b, pm, cd, doc, y.1, y.2.kp k⟩, x.cpath.elim fun b y => y.elim fun pm y => y.elim fun cd y => y.elim fun doc y => ⟨b, pm, cd, doc, y.1, y.2.kp k⟩,
   x.root.elim fun b y => y.elim fun pm y => y.elim fun cd y => y.elim fun doc y => ⟨b, pm, cd, doc, y.1, y.2.kp k⟩, x.norm.elim fun b y => y.elim fun pm y => y.elim fun cd y => y.elim fun doc y => ⟨b, pm, cd, doc, y.1, y.2.kp k⟩⟩
/-- a path that normpath is asked for -/
structure PathIs (p : Str) (comps : List Str) : Prop where
  hp : p.length ≤ 1000
  h0 : p.length ≠ 0
  h1 : Txt.slice p none (some 1) = "/"
  h2 : Txt.slice p (some 1) (some 2) ≠ "/"
  hq : (Txt.slice p (some 1) none).length ≤ 1000
  hsp : Txt.split (Txt.slice p (some 1) none) "/" = comps
  hparts : (Builtin.Str.partsBetween (Txt.slice p (some 1) none) (Builtin.Str.occurrences (Txt.slice p (some 1) none) "/" 0 (Txt.slice p (some 1) none).length ((Txt.slice p (some 1) none).length + 1)) ("/" : Str).length).length ≤ 1000
  hdd : ∀ c ∈ comps, (c == "..") = false
  hlen : comps.length ≤ 1000
  hcl : ∀ c ∈ comps, c.length ≤ 1000
  hj : JoinOk "/" (comps.filter keepC) = true
  hjl : (Txt.join "/" (comps.filter keepC)).length ≤ 1000
set_option maxHeartbeats 4000000 in
theorem path_ok {C : Cx} {k : Nat} (G : Gl C.prog C.mg C.mb (k + 3) C.A C.s) (B : Bis C.mg C.mb) {a : Addr} (P : Paths C.mg C.s.heap a) {p : Str} {comps : List Str} (hp : PathIs p comps) :
    CallD C (.ref a) [.str p] (.str ("/" ++ Txt.join "/" (comps.filter keepC))) := fun s vs kk x => by
  obtain ⟨v, rfl, hv⟩ := x.one_
  obtain ⟨t, rfl⟩ := Rd_str.mp hv
  obtain ⟨pm, cd, doc, hf⟩ := P.me
  have hD : DefIs (fnAt 13 pm cd doc) ["args", "kwargs"] := defIs_of (by kernel_rfl)
  have Gs := G.kp kk
  have P := P.kp kk
  have hsz : @LT.lt Nat _ 0 s.heap.objs.size := Gs.b.lt
  refine call_fnB (Kp.refl s) Gs (hf.kp kk) (names := ["args", "kwargs"]) (body := bodyAt 13) (sps := [.dat (.tuple [.str p]), .val (.ref (s.heap.objs.size + 1))]) (ok := fun _ => True) hD rfl (fun _ _ => trivial) (fun s' => EmptyD C.prog C.w s'.heap (s.heap.objs.size + 1)) (fun E => normpath_binds ?_) fun s' s₁ k' k₁ hE f => ?_
  · have kp : Keeps s { s with heap := (s.heap.push { cls := .type "tuple", data := .seq #[.str p t] }).push { cls := .type "dict", data := .dict #[] } } := Kp.trans (Kp.push s _) (Kp.push _ _)
    have hr : Rd (fun _ => True) s.heap (.str p) (.str p t) := Rd_str.mpr ⟨_, rfl⟩
    have hT : Rd (fun _ => True) (s.heap.push { cls := .type "tuple", data := .seq #[.str p t] }) (.tuple [.str p]) (.ref s.heap.objs.size) := Rd_tuple.mpr ⟨_, _, rfl, trivial, isTuple_new, (RdAll.one hr).kp (s := s) (Kp.push s _)⟩
    refine ⟨[.ref s.heap.objs.size, .ref (s.heap.objs.size + 1)], rfl, kp, ⟨_, _, rfl, ?_, _, _, rfl, rfl, rfl⟩, Nat.le_refl _, ?_⟩
    · exact hT.kp (s := { s with heap := s.heap.push { cls := .type "tuple", data := .seq #[.str p t] } }) (Kp.push _ _)
    · have := Heap.DictOf.new (knd := strKind C.prog C.w) (s.heap.push { cls := .type "tuple", data := .seq #[.str p t] })
      rw [Heap.size_push] at this
      exact this
  · have hX : (paX C.prog C.w C.A a pm cd doc s' s C.mg C.mb).Gd := fxG_gd Gs hD rfl rfl _ _ fun _ _ => trivial
    have f : FS (paX C.prog C.w C.A a pm cd doc s' s C.mg C.mb) s₁.heap [("args", .dat (.tuple [.str p])), ("kwargs", .val (.ref (s.heap.objs.size + 1)))] s₁ := f.sub (sub_cons rfl (sub_cons rfl sub_nil))
    show wpAny (paX C.prog C.w C.A a pm cd doc s' s C.mg C.mb).m (paX C.prog C.w C.A a pm cd doc s' s C.mg C.mb).A (execs (bodyAt 13) (paX C.prog C.w C.A a pm cd doc s' s C.mg C.mb).env) _ _ s₁
    have hC := f.cx hX
    have P := P.kp f.F.keeps
    obtain ⟨ak, pk, ck, dk, hkn, hk⟩ := P.kind
    obtain ⟨ac, pc, cc, dc, hcn, hc⟩ := P.cpath
    obtain ⟨ar, pr, cr, dr, hrn, hr⟩ := P.root
    obtain ⟨an, pn, cn, dn, hnn, hn⟩ := P.norm
    have G1 : Gl C.prog C.mg C.mb (k + 2) (paX C.prog C.w C.A a pm cd doc s' s C.mg C.mb).A s₁ := (Gs.deeper _).kp f.F.keeps
    have hE1 : EmptyD C.prog C.w s₁.heap (s.heap.objs.size + 1) := hE.keep (Kp.get k₁)
    refine FS.seq (FS.ret f (P := fun h v => Rd (fun _ => True) h (.str ("/" ++ Txt.join "/" (comps.filter keepC))) v) (Ev.callF (a := an) (ds := [.str p]) (Ev.global hC rfl hnn) hn.fn (EvL.cons (Ev.callFS (a := ac) (sps := [.dat (.str "normpath"), .dat (.str "_path_normpath"), .dat (.str "path"), .dat (.tuple [.str p]), .val (.ref (s.heap.objs.size + 1))]) (Ev.global hC rfl hcn) hc.fn (EvLS.cons Ev.str (EvLS.cons Ev.str (EvLS.cons Ev.str (EvLS.cons (Ev.name hC rfl) (EvLS.cons (Ev.name hC rfl) EvLS.nil))))) (cpath_ok hC G1 B hc hkn hk hE1 ?_)) EvL.nil)
      (normp_ok (C := (paX C.prog C.w C.A a pm cd doc s' s C.mg C.mb).cx s₁ [("args", .dat (.tuple [.str p])), ("kwargs", .val (.ref (s.heap.objs.size + 1)))]) G1 hn hrn hr hp.hp hp.h0 hp.h1 hp.h2 hp.hq hp.hsp hp.hparts hp.hdd hp.hlen hp.hcl hp.hj hp.hjl)) fun v s'' k'' h => ⟨Kp.trans f.F.keeps k'', Rd_str.mpr (Rd_str.mp h)⟩)
    refine beq_eq_false_iff_ne.mpr fun e => ?_
    have e : s.heap.objs.size + 1 = 1 := e
    omega
/-! ## an object is made -/
theorem Gl.make {prog : Program} {mg mb : Str → Option Value} {k : Nat} {A : Around} {s : Shared} (G : Gl prog mg mb (k + 1) A s) (C : Addr) (rest : List Value) : Gl prog mg mb k (A.under (.builtin "type.__call__" ⟨.ref C :: rest, []⟩)) s := by
  refine ⟨G.g, G.b, G.nolim, G.seer, G.tree, G.hand, ?_, ?_, ?_⟩
  · exact G.frames
  · have := G.depth
    show A.depth + 1 + k + 120 < _
    omega
  · have := G.units
    have : (A.under (.builtin "type.__call__" ⟨.ref C :: rest, []⟩)).units ≤ A.units + 5 := by
      show A.units + (Code.builtin "type.__call__" ⟨.ref C :: rest, []⟩).cUnits ≤ _
      exact Nat.add_le_add_left (Nat.le_of_ble_eq_true rfl) _
    omega
/-- a dict that is none of the frame's is turned; all else that stood stands -/
theorem FS.butE {X : Fx} {hB : Heap} {ρ : List (Str × Sp)} {s : Shared} (f : FS X hB ρ s) {d : Addr} (hn : ∃ o es n, s.heap.get? d = some o ∧ o.data = .dict es n) (hd0 : X.s₀.heap.get? d = none) (hdl : d ≠ X.env.locals) {h' : Heap} {tk : Nat} (hs : ∀ b o, b ≠ d → s.heap.get? b = some o → h'.get? b = some o) (hl : h'.get? d ≠ none) : FS X hB ρ { s with heap := h', toks := tk } := by
  obtain ⟨od, es, ep, hod, hdd⟩ := hn
  have mvT : Mv (fun _ => True) s.heap h' := fun b o _ e d₁ _ => by
    by_cases hb : b = d
    · subst hb; rw [hod] at e; cases e; exact absurd hdd (d₁ _ _)
    · exact hs b o hb e
  have hNs : ∀ m', s.heap.Ns X.env.locals m' → h'.Ns X.env.locals m' := fun m' y => y.at fun o e => hs _ o (fun e => hdl e.symm) e
  have hCl : ∀ c v, s.heap.IsCell c v → h'.IsCell c v := fun c v y => by
    obtain ⟨o', e', d'⟩ := y
    refine ⟨o', hs c o' (fun e => ?_) e', d'⟩
    subst e
    rw [hod] at e'; cases e'; rw [hdd] at d'; cases d'
  refine ⟨⟨?_, f.F.kind, f.F.ns.elim fun m' y => ⟨m', hNs m' y⟩, f.F.new, fun x c e => (f.F.cell x c e).elim fun v y => ⟨v, hCl c v y⟩, f.F.apart, f.F.own, fun x sp e => ?_⟩, fun a e => ?_, f.mv.trans mvT.of_true⟩
  · exact ⟨fun b o e => hs b o (ne_of_get e hd0) (f.F.keeps.get b o e), f.F.keeps.gens, f.F.keeps.os⟩
  · obtain ⟨v, a, b⟩ := f.F.names x sp e
    refine ⟨v, ?_, Sp.mv mvT.of_true (fun _ _ z _ => z) b⟩
    rcases a with ⟨a1, m1, a2, a3⟩ | ⟨a1, c1, a2, a3⟩
    · exact .inl ⟨a1, m1, hNs m1 a2, a3⟩
    · exact .inr ⟨a1, c1, a2, hCl _ _ a3⟩
  · cases e' : s.heap.get? a with
    | none => exact f.ok a e'
    | some o =>
      by_cases ha : a = d
      · subst ha; exact absurd e hl
      · rw [hs a o ha e'] at e; cases e
/-- an object with its dict -/
structure Ins (C : Addr) (h : Heap) (x dx : Addr) (mA : Str → Option Value) : Prop where
  obj : ∃ o, h.get? x = some o ∧ o.cls = .ref C ∧ (∀ c, o.data ≠ .cls c) ∧ o.dict = some dx
  xd : dx ≠ x
  ns : h.Ns1 dx mA
theorem Ins.inst {C : Addr} {h : Heap} {x dx : Addr} {mA : Str → Option Value} (r : Ins C h x dx mA) : h.Inst x C mA := by
  obtain ⟨o, h1, h2, h3, h4⟩ := r.obj
  exact ⟨o, h1, h2, h3, .inr ⟨dx, h4, r.xd, r.ns⟩⟩
theorem Ins.keeps {C : Addr} {h h' : Heap} {x dx : Addr} {mA : Str → Option Value} (r : Ins C h x dx mA) (k : ∀ b o, h.get? b = some o → h'.get? b = some o) : Ins C h' x dx mA := ⟨r.obj.elim fun o y => ⟨o, k _ _ y.1, y.2⟩, r.xd, r.ns.keeps k⟩
/-- o.name = e -/
theorem FS.setAttr {X : Fx} {hB : Heap} {ρ : List (Str × Sp)} {s : Shared} (f : FS X hB ρ s) {o value : Expr} {name : Str} {p' pos : Pos} {x dx Ca N : Addr} {mN mA : Str → Option Value} {P : Heap → Value → Prop} {ns : List Str} {Q : Flow → Shared → Prop} (K : Cls s.heap Ca N mN) (I : Ins Ca s.heap x dx mA)
    (hv : Ev (X.cx s ρ) value P) (ho : ∀ s', Keeps s s' → EvV (X.cx s' ρ) o (.ref x)) (hna : mN name = none) (hlk : typeLookup (.type "object") name = pure none) (hx0 : X.s₀.heap.get? x = none) (hd0 : X.s₀.heap.get? dx = none) (hxC : x ≠ Ca) (hdl : dx ≠ X.env.locals) (hw : Within mA ns) (hsz : ns.length ≤ 1000)
    (h : ∀ v s₁ s', Keeps s s₁ → P s₁.heap v → FS X hB ρ s' → (∀ b o, b ≠ dx → s₁.heap.get? b = some o → s'.heap.get? b = some o) → Ins Ca s'.heap x dx (fun y => if y = name then some v else mA y) → Q .next s')
    (hs : swapsWith value (some (.Attribute o name p')) pos.line X.env = pure false := by rfl) : wpAny X.m X.A (exec (.Assign [.Attribute o name p'] value pos) X.env) Q (fun _ _ => False) s := by
  refine plainObj_wpAny_Assign_Attribute (Ev.two hv (Kp.refl _) fun v s₁ k₁ hv => Ev.two (ho s₁ k₁) (Kp.refl _) fun u s₂ k₂ hu => ?_) hs
  subst hu
  have k := Kp.trans k₁ k₂
  have f₂ := f.kp k
  have I₂ := I.keeps (Kp.get k)
  have K₂ := K.keeps (Kp.get k)
  obtain ⟨hh, g, d, t, os⟩ := s₂
  obtain ⟨nm, q, bs, sn, sub, col, dd, k0, k1, k2, k3, k5, hC⟩ := K₂.at_.obj
  obtain ⟨o₀, h1, h2, h3, h4⟩ := I₂.obj
  refine store_attr PySem.F.store_object hC K₂.at_.ns K.sa hna hlk hxC I₂.inst (fun h' tk' I' hk hsame => ?_) hw (by rw [sizeLine_eq]; omega)
  obtain ⟨o₁, e₁, c₁, dt₁, sl₁, dk₁⟩ := hsame o₀ h1
  have hkk : ∀ b o, b ≠ dx → hh.get? b = some o → h'.get? b = some o := fun b o hb e => by
    by_cases hbx : b = x
    · subst hbx
      have : o = o₀ := Option.some.inj (e.symm.trans h1)
      subst this
      have : o₁ = o := by
        obtain ⟨a1, a2, a3, a4⟩ := o
        obtain ⟨b1, b2, b3, b4⟩ := o₁
        have : b2 = a2 := (dk₁ dx h4).trans h4.symm
        simp only at c₁ dt₁ sl₁ this
        subst c₁ dt₁ sl₁ this; rfl
      rw [← this]; exact e₁
    · exact hk b o hbx (fun o' d' e' ed => by
        have : o' = o₀ := Option.some.inj (e'.symm.trans h1)
        subst this
        rw [h4] at ed; cases ed; exact hb) e
  obtain ⟨o', e', c', nc', hd'⟩ := I'
  have : o' = o₁ := Option.some.inj (e'.symm.trans e₁)
  subst this
  have hns' : h'.Ns1 dx (fun y => if y = name then some v else mA y) := by
    rcases hd' with ⟨hn0, _⟩ | ⟨d', hd', _, hns'⟩
    · rw [dk₁ dx h4] at hn0; cases hn0
    · have : dx = d' := Option.some.inj ((dk₁ dx h4).symm.trans hd')
      subst this; exact hns'
  refine h v s₁ _ k₁ hv (f₂.butE (d := dx) ?_ hd0 hdl hkk ?_) (fun b o hb e => hkk b o hb (Kp.get k₂ b o e)) ⟨⟨o', e', c', nc', dk₁ dx h4⟩, I.xd, hns'⟩
  · obtain ⟨o, es, ep, e, d, _⟩ := I₂.ns; exact ⟨o, es, ep, e, d⟩
  · obtain ⟨o, es, ep, e, d, _⟩ := hns'; rw [e]; exact fun y => nomatch y
theorem init_binds1 {s : Shared} {pm cd doc a b : Value} {T : Addr} {o : Obj} {n : Nat} (ho : s.heap.get? T = some o) (hs : o.data = .seq #[.none, .none] n) :
    BindsTo s (methFn 0 "_Ignore.__init__" pm cd doc (.ref T)) ⟨[a, b], []⟩ [("self", a), ("modules", b), ("dirs", .none)] := .of_defaults rfl ho hs rfl rfl
theorem init_binds2 {s : Shared} {pm cd doc a b c : Value} {T : Addr} {o : Obj} {n : Nat} (ho : s.heap.get? T = some o) (hs : o.data = .seq #[.none, .none] n) :
    BindsTo s (methFn 0 "_Ignore.__init__" pm cd doc (.ref T)) ⟨[a, b, c], []⟩ [("self", a), ("modules", b), ("dirs", c)] := .of_defaults rfl ho hs rfl rfl

/-! ## set(), set(l), a dict's display -/
noncomputable def SetV (prog : Program) (w : World) (h₀ : Heap) (xs : List Str) (h : Heap) (v : Value) : Prop := ∃ am n, v = .ref am ∧ h₀.get? am = none ∧ SetS prog w h am (inS xs) n
theorem call_set0 {C : Cx} : CallOk C (.type "set") [] (SetV C.prog C.w C.s.heap []) := fun s vs k x => by
  have := x.nil_; subst this
  refine PySem.call_set_0 fun led => ⟨Kp.push _ _, s.heap.objs.size, 0, rfl, Kp.none k (get_size _), ?_⟩
  refine ⟨_, #[], 0, _, Heap.get?_push_size _ rfl, ⟨rfl, rfl, rfl⟩, rfl, fun e he => by simp at he, fun k => by simp [inS], by decide, rfl, rfl, fun x => absurd rfl x⟩
theorem call_setL {C : Cx} (hC : C.Ok) {xs : List Str} (hn : xs.length ≤ 1000) : CallOk C (.type "set") [.list (xs.map .str)] (SetV C.prog C.w C.s.heap xs) := fun s vs k x => by
  obtain ⟨v, rfl, ha⟩ := x.one_
  obtain ⟨l, us, rfl, _, hl, hr⟩ := Rd_list.mp ha
  have hz := rdAll_size hr
  rw [List.length_map] at hz
  exact setFrom hC.hand hl (fun i hi => rdAll_strs_get hr i hi) hz.symm (Nat.lt_of_le_of_lt (by omega : us.size + 1 ≤ 1001) (by decide)) fun h' tk n hS hk => ⟨Kp.of hk tk, _, n, rfl, Kp.none k (get_size _), hS⟩
theorem setS_two {prog : Program} {w : World} {h : Heap} {a : Addr} {S : Str → Bool} {n : Nat} (x : SetS prog w h a S n) {k k' : Str} (hk : S k = true) (hk' : S k' = true) (hne : k ≠ k') : n ≠ 1 := by
  obtain ⟨o, es, ep, t, _, _, _, _, hm, _, _, hn, _⟩ := x
  intro e
  obtain ⟨e1, m1, i1⟩ := (hm k).mp hk
  obtain ⟨e2, m2, i2⟩ := (hm k').mp hk'
  have hl : es.toList.length = 1 := by simpa using hn.trans e
  obtain ⟨z, hz⟩ := one_list hl
  rw [hz] at m1 m2
  have a1 : e1 = z := by simpa using m1
  have a2 : e2 = z := by simpa using m2
  subst a1 a2
  exact hne (Value.isStrOf_inj _ _ _ i1 i2)
theorem setS_none {prog : Program} {w : World} {h : Heap} {a : Addr} {n : Nat} (x : SetS prog w h a (inS []) n) : n ≠ 1 := by
  obtain ⟨o, es, ep, t, _, _, _, hel, hm, _, _, hn, _⟩ := x
  intro e
  have hl : es.toList.length = 1 := by simpa using hn.trans e
  obtain ⟨z, hz⟩ := one_list hl
  obtain ⟨⟨k, hk, _⟩, _⟩ := hel z (by rw [hz]; exact List.mem_singleton.mpr rfl)
  have := (hm k).mpr ⟨z, by rw [hz]; exact List.mem_singleton.mpr rfl, hk⟩
  simp [inS] at this
noncomputable def M0 : Str → Option Int := fun y => if y = "<string>" then some 1 else none
theorem Ev.dict1 {C : Cx} {k1 k2 : Nat} {p1 p2 pos : Pos} : Ev C (.Dict [some (.Constant (.str "<string>") k1 p1)] [.Constant (.int 1) k2 p2] pos) (fun h v => ∃ di, v = .ref di ∧ C.s.heap.get? di = none ∧ Memo C.prog C.w h di M0 1) := fun s k => by
  refine wpAny_Dict_pairs (knd := strKind C.prog C.w) (pairs := [(eval (.Constant (.str "<string>") k1 p1) C.env, do let x ← eval (.Constant (.int 1) k2 p2) C.env; standAt pos; pure x)]) rfl (by simp) (by simp) ?_
  refine evalPairs_cons (wpAny_Constant_str (wpAny_bind (wpAny_Constant_int (wpAny_bind (wpAny_standAt (wpAny_pure (evalPairs_nil ?_)))))))
  refine ⟨[("<string>", .int 1 (s.toks + 1))], ⟨strIs _ _ _ _, rfl, trivial⟩, Heap.DictOf.new s.heap, fun h' hD hs => ⟨?_, s.heap.objs.size, rfl, Kp.none k (get_size _), _, hD, Nat.le_refl _, fun y => ?_⟩⟩
  · refine ⟨fun b o e => ?_, rfl, rfl⟩
    have hb : b ≠ s.heap.objs.size := Nat.ne_of_lt (Heap.lt_size e)
    exact (hs.2 b hb).trans (Heap.get?_push_of_some _ e)
  · unfold M0
    by_cases hy : y = "<string>"
    · rw [if_pos hy]; subst hy; exact ⟨_, rfl⟩
    · rw [if_neg hy]
      show valueAt [(("<string>" : Str), _)] y = none
      have : ¬ ("<string>" : Str) = y := fun e => hy e.symm
      simp [valueAt, this]

theorem Ev.listF0 {C : Cx} (hC : C.Ok) {pos : Pos} : Ev C (.List [] pos) (fun h v => Rd C.ok h (.list []) v ∧ ∃ a, v = .ref a ∧ C.s.heap.get? a = none) := fun s k =>
  wpAny_List (wpAny_items_nil ⟨by rw [sizeLine_eq]; decide, Kp.push _ _, rd_newList hC k (by simp only [RdAll]), _, rfl, Kp.none k (get_size _)⟩)
noncomputable def modsD (xs : List Str) : PyData := if xs = [] then .none else .list (xs.map .str)
theorem ts_modsD {C : Cx} (hC : C.Ok) {x : Str} {p p' : Pos} {xs : List Str} (hx : C.ρ.lookup x = some (.dat (modsD xs))) (hd : (x == ("__debug__" : Str)) = false) (hn : xs.length ≤ 1000) : Ts C (.UnaryOp .Not (.Name x p) p') (decide (xs = [])) := by
  by_cases h : xs = []
  · subst h
    exact Ts.cast (Ts.not (Ts.val (Ev.nameD hC (d := .none) hx hd) truth_none)) (by decide)
  · have e : modsD xs = .list (xs.map .str) := by unfold modsD; rw [if_neg h]
    rw [e] at hx
    refine Ts.cast (Ts.not (Ts.val (Ev.nameD hC hx hd) (truth_list (by rw [List.length_map]; omega)))) ?_
    rw [decide_eq_false h]
    have : (xs.map PyData.str).length ≠ 0 := by rw [List.length_map]; exact fun e => h (List.length_eq_zero_iff.mp e)
    rw [decide_eq_true this]; rfl
theorem ev_mods {C : Cx} (hC : C.Ok) (B : Bis C.mg C.mb) {xs : List Str} (hm : C.ρ.lookup ("modules" : Str) = some (.dat (modsD xs))) (hk : C.env.kindOf ("set" : Str) = some .globalImplicit) (hn : xs.length ≤ 1000) {p1 p2 p3 p4 p5 p6 p7 p8 : Pos}
    (he : ∀ es pos, (backTo pos (starEach es C.env)).any (·.1) = false → True := by intro _ _ _; trivial) : Ev C (.IfExp (.UnaryOp .Not (.Name "modules" p1) p2) (.Call (.Name "set" p3) [] [] p4) (.Call (.Name "set" p5) [.Name "modules" p6] [] p7) p8) (SetV C.prog C.w C.s.heap xs) := by
  refine Ev.ifExp (c := decide (xs = [])) (ts_modsD hC hm (by decide) hn) (fun hc => ?_) fun hc => ?_
  · have := of_decide_eq_true hc; subst this
    exact Ev.callT (T := "set") (ds := []) (Ev.bi hC B rfl hk) EvL.nil call_set0
  · have h := of_decide_eq_false hc
    have e : modsD xs = .list (xs.map .str) := by unfold modsD; rw [if_neg h]
    rw [e] at hm
    exact Ev.callT (T := "set") (ds := [.list (xs.map .str)]) (Ev.bi hC B rfl hk) (EvL.cons (Ev.nameD hC hm) EvL.nil) (call_setL hC hn)
noncomputable def nrm (cs : Str → List Str) (d : Str) : Str := "/" ++ Txt.join "/" ((cs d).filter keepC)
noncomputable abbrev inX (prog : Program) (w : World) (A : Around) (a T : Addr) (pm cd doc : Value) (s s₀ : Shared) (mg mb : Str → Option Value) : Fx := fxG prog w A (methFn 0 "_Ignore.__init__" pm cd doc (.ref T)) a (fun _ => True) (fun _ => True) s s₀ mg mb
theorem within_one {m : Str → Option Value} {ns : List Str} {x : Str} {v : Value} (h : Within m ns) : Within (fun y => if y = x then some v else m y) (x :: ns) := fun y hy => by
  by_cases e : y = x
  · rw [e]; exact List.mem_cons_self
  · have hy : (if y = x then some v else m y) ≠ none := hy
    rw [if_neg e] at hy; exact List.mem_cons_of_mem _ (h y hy)
section
variable {prog : Program} {w : World} {A : Around} {a T : Addr} {pm cd doc : Value} {s s₀ : Shared} {mg mb : Str → Option Value}
set_option maxHeartbeats 4000000 in
theorem init_walk {k : Nat} {x dx Ca N an : Addr} {mN : Str → Option Value} {xs ds : List Str} {cs : Str → List Str} {s₁ : Shared} (hX : (inX prog w A a T pm cd doc s s₀ mg mb).Gd) (G : Gl prog mg mb (k + 3) (inX prog w A a T pm cd doc s s₀ mg mb).A s₀) (B : Bis mg mb) (hnp : mg "normpath" = some (.ref an)) (hP : Paths mg s₀.heap an)
    (K : Cls s₀.heap Ca N mN) (I : Ins Ca s₁.heap x dx (fun _ => none)) (hx0 : s₀.heap.get? x = none) (hd0 : s₀.heap.get? dx = none) (hdl : dx ≠ (inX prog w A a T pm cd doc s s₀ mg mb).env.locals) (hxs : xs.length ≤ 1000) (hxd : xs = [] ∨ ∃ a b, a ∈ xs ∧ b ∈ xs ∧ a ≠ b) (hds : ds.length ≤ 1000) (hcs : ∀ d ∈ ds, PathIs d (cs d))
    (f : FS (inX prog w A a T pm cd doc s s₀ mg mb) s₁.heap [("self", .val (.ref x)), ("modules", .dat (modsD xs)), ("dirs", .dat (modsD ds))] s₁) :
    wpAny (inX prog w A a T pm cd doc s s₀ mg mb).m (inX prog w A a T pm cd doc s s₀ mg mb).A (execs (methBody 0) (inX prog w A a T pm cd doc s s₀ mg mb).env)
      (fun fl s'' => (match fl with | .ret v => v | _ => .none) = .none ∧ Keeps s₀ s'' ∧ ∃ am ld di n, RdS prog w Ca s''.heap x dx am ld di (inS xs) n (ds.map (nrm cs)) ∧ n ≠ 1 ∧ Memo prog w s''.heap di M0 1 ∧ s₀.heap.get? di = none ∧ s₀.heap.get? am = none ∧ s₀.heap.get? ld = none ∧ di ≠ dx) (fun _ _ => False) s₁ := by
  have hxC : x ≠ Ca := fun e => by
    obtain ⟨nm, q, bs, sn, sub, col, dd, k0, k1, k2, k3, k5, hC⟩ := K.at_.obj
    rw [e, hC] at hx0; cases hx0
  have hC := f.cx hX
  have W0 : Within (fun _ => none : Str → Option Value) [] := Within.nil
  refine FS.seq ?_
  show wpAny _ _ (exec (.Assign [.Attribute _ _ _] _ _) _) _ _ _
  refine FS.setAttr f (K.keeps (Kp.get f.F.keeps)) I (ev_mods hC B rfl rfl hxs) (fun s' k' => Ev.nameV (hC.at k') rfl) K.mods lk_mods hx0 hd0 hxC hdl W0 (by decide) fun v s₂ s₃ k₂ hv f₃ g₃ I₃ => ?_
  obtain ⟨am, n, rfl, ham0, hS⟩ := hv
  have hdx : ∀ {h : Heap} {mA : Str → Option Value}, Ins Ca h x dx mA → ∃ o es ep, h.get? dx = some o ∧ o.data = .dict es ep := fun I => by obtain ⟨o, es, ep, e, d, _⟩ := I.ns; exact ⟨o, es, ep, e, d⟩
  have ham : ∀ {h : Heap} {mA : Str → Option Value}, SetS prog w h am (inS xs) n → Ins Ca h x dx mA → am ≠ dx := fun hS I e => by
    obtain ⟨o, es, ep, t, h1, _, h2, _⟩ := hS
    obtain ⟨o', es', ep', h1', h2'⟩ := hdx I
    subst e
    rw [h1] at h1'; cases h1'; rw [h2] at h2'; cases h2'
  have hS₃ : SetS prog w s₃.heap am (inS xs) n := hS.at (g₃ _ · (ham hS (I.keeps (Kp.get k₂))))
  have hn1 : n ≠ 1 := by
    rcases hxd with e | ⟨y, z, hy, hz, hne⟩
    · subst e; exact setS_none hS
    · exact setS_two hS (List.any_eq_true.mpr ⟨y, hy, beq_self_eq_true _⟩) (List.any_eq_true.mpr ⟨z, hz, beq_self_eq_true _⟩) hne
  have hC₃ := f₃.cx hX
  have lst : ∀ {h h' : Heap} {es : List PyData} {v : Value}, Rd (fun _ => True) h (.list es) v → (∀ b o, b ≠ dx → h.get? b = some o → h'.get? b = some o) → (∃ o es ep, h.get? dx = some o ∧ o.data = .dict es ep) → Rd (fun _ => True) h' (.list es) v := fun hr hk hd => Rd.mv (fun b o _ e d _ => by
    by_cases hb : b = dx
    · subst hb
      obtain ⟨o', es', ep', e', d'⟩ := hd
      rw [e] at e'; cases e'; exact absurd d' (d _ _)
    · exact hk b o hb e) (fun _ _ _ _ => trivial) _ _ hr
  refine FS.seq ?_
  show wpAny _ _ (exec (.Assign [.Attribute _ _ _] _ _) _) _ _ _
  refine FS.setAttr f₃ (K.keeps (Kp.get f₃.F.keeps)) I₃ (P := fun h v => Rd (fun _ => True) h (.list ((ds.map (nrm cs)).map .str)) v ∧ ∃ a, v = .ref a ∧ s₃.heap.get? a = none) (Ev.ifExp (c := decide (ds = [])) (ts_modsD hC₃ (x := "dirs") rfl (by decide) hds) (fun hc => ?_) fun hc => ?_) (fun s' k' => Ev.nameV (hC₃.at k') rfl) K.dirs lk_dirs hx0 hd0 hxC hdl (within_one W0) (by decide) fun v s₄ s₅ k₄ hv f₅ g₅ I₅ => ?_
  · have := of_decide_eq_true hc; subst this
    exact Ev.listF0 hC₃
  · have hne := of_decide_eq_false hc
    have em : modsD ds = .list (ds.map .str) := by unfold modsD; rw [if_neg hne]
    rw [em] at hC₃ ⊢
    refine Ev.mono (Ev.compF hC₃ (P := fun _ h v => Rd (fun _ => True) h (.list (ds.map .str)) v) ["d"] (fun s' k' => ?_) (Iters.list hC₃) (fun d => [("d", .dat (.str d))]) (fun x _ => .name) (fun x _ => rfl) (by kernel_rfl) (fun _ => true) (fun d => .str (nrm cs d)) (by omega) (fun x _ cenv ok' s' hC'' hsc k' => .nil) (fun d hd _ cenv ok' s' hC'' hsc k' => ?_)) fun h v hv => ?_
    · have hC'' := hC₃.at k'
      exact Ev.nameD hC'' rfl
    · have kk := Kp.trans f₃.F.keeps k'
      obtain ⟨pm', cd', doc', hf'⟩ := (hP.kp kk).me
      exact Ev.callF (a := an) (ds := [.str d]) (Ev.global hC'' (inner_kind hsc rfl) hnp) hf'.fn (EvL.cons (Ev.nameD hC'' rfl) EvL.nil) (path_ok (C := ((inX prog w A a T pm cd doc s s₀ mg mb).cx s₃ [("self", .val (.ref x)), ("modules", .dat (modsD xs)), ("dirs", .dat (.list (ds.map .str)))]).inner cenv ok' s' _) (G.kp kk) B (hP.kp kk) (hcs d hd))
    · rw [List.filter_eq_self.mpr (fun _ _ => rfl)] at hv
      rw [List.map_map]; exact hv
  have hC₅ := f₅.cx hX
  have hS₅ : SetS prog w s₅.heap am (inS xs) n := (hS₃.at (Kp.get k₄ _)).at (g₅ _ · (ham (hS₃.at (Kp.get k₄ _)) (I₃.keeps (Kp.get k₄))))
  obtain ⟨hv, al, eal, hal⟩ := hv
  have hv₅ := lst hv g₅ (hdx (I₃.keeps (Kp.get k₄)))
  obtain ⟨ld, vs, rfl, _, hl, _⟩ := Rd_list.mp hv
  have hal : s₃.heap.get? ld = none := by cases eal; exact hal
  refine FS.seq ?_
  show wpAny _ _ (exec (.Assign [.Attribute _ _ _] _ _) _) _ _ _
  refine FS.setAttr f₅ (K.keeps (Kp.get f₅.F.keeps)) I₅ Ev.dict1 (fun s' k' => Ev.nameV (hC₅.at k') rfl) K.ign lk_ign hx0 hd0 hxC hdl (within_one (within_one W0)) (by decide) fun v s₆ s₇ k₆ hv f₇ g₇ I₇ => ?_
  obtain ⟨di, rfl, hdi, hM⟩ := hv
  have hdd : di ≠ dx := fun e => by
    obtain ⟨o, es, ep, e1, _⟩ := hdx I₅
    rw [e] at hdi
    have hdi : s₅.heap.get? dx = none := hdi
    rw [e1] at hdi; cases hdi
  refine wpAny_execs_nil ⟨rfl, f₇.F.keeps, am, ld, di, n, ⟨I₇.obj, I₇.xd, I₇.ns, (hS₅.at (Kp.get k₆ _)).at (g₇ _ · (ham (hS₅.at (Kp.get k₆ _)) (I₅.keeps (Kp.get k₆)))), lst (hv₅.kp k₆) g₇ (hdx (I₅.keeps (Kp.get k₆)))⟩, hn1, hM.at (g₇ _ · hdd), Kp.none f₅.F.keeps hdi, Kp.none f.F.keeps ham0, Kp.none f₃.F.keeps hal, hdd⟩
end
/-- a reader, just made -/
structure Made (prog : Program) (w : World) (Ca : Addr) (h₀ h : Heap) (v : Value) (xs ds : List Str) : Prop where
  is : ∃ x dx am ld di n, v = .ref x ∧ RdS prog w Ca h x dx am ld di (inS xs) n ds ∧ n ≠ 1 ∧ Memo prog w h di M0 1 ∧ h₀.get? di = none ∧ h₀.get? x = none ∧ h₀.get? dx = none ∧ h₀.get? am = none ∧ h₀.get? ld = none ∧ di ≠ dx
/-- what is known of the class -/
structure OwnC (mg : Str → Option Value) (h : Heap) (Ca N T fI an : Addr) (mN : Str → Option Value) : Prop where
  cls : Cls h Ca N mN
  init : mN "__init__" = some (.ref fI)
  fn : ∃ pm cd doc, FnIs h fI (methFn 0 "_Ignore.__init__" pm cd doc (.ref T))
  fnc : ∃ o, h.get? fI = some o ∧ o.cls = .type "function"
  dfl : ∃ o n, h.get? T = some o ∧ o.data = .seq #[.none, .none] n
  np : mg "normpath" = some (.ref an)
  paths : Paths mg h an
section
variable {prog : Program} {w : World} {A : Around} {s : Shared} {mg mb : Str → Option Value}
set_option maxHeartbeats 4000000 in
theorem make_ok {k : Nat} {Ca N T fI an : Addr} {mN : Str → Option Value} {xs ds : List Str} {cs : Str → List Str} {rest : List Value} {vm vd : Value} (G : Gl prog mg mb (k + 5) A s) (B : Bis mg mb) (O : OwnC mg s.heap Ca N T fI an mN) (hxs : xs.length ≤ 1000) (hxd : xs = [] ∨ ∃ a b, a ∈ xs ∧ b ∈ xs ∧ a ≠ b) (hds : ds.length ≤ 1000) (hcs : ∀ d ∈ ds, PathIs d (cs d))
    (hvm : Rd (fun _ => True) s.heap (modsD xs) vm) (hvd : Rd (fun _ => True) s.heap (modsD ds) vd) (hr : rest = [vm] ∧ vd = .none ∨ rest = [vm, vd]) :
    wpAny (model prog w) A (call (.ref Ca) rest) (fun v s' => Keeps s s' ∧ Made prog w Ca s.heap s'.heap v xs (ds.map (nrm cs))) (fun _ _ => False) s := by
  obtain ⟨pm, cd, doc, hf⟩ := O.fn
  obtain ⟨oI, hoI, hcI⟩ := O.fnc
  obtain ⟨oT, nT, hoT, hdT⟩ := O.dfl
  obtain ⟨h, g, d, t, os⟩ := s
  obtain ⟨nm, q, bs, sn, sub, col, dd, k0, k1, k2, k3, k5, hC⟩ := O.cls.at_.obj
  refine wpAny_call_obj_init PySem.F.objNew hC O.cls.at_.ns O.init hoI hcI fun h' x dx Mk => ?_
  have k₀ : Keeps (⟨h, g, d, t, os⟩ : Shared) ⟨h', g, d, t, os⟩ := ⟨Mk.keeps, rfl, rfl⟩
  have G' := G.make Ca rest
  have hD : DefIs (methFn 0 "_Ignore.__init__" pm cd doc (.ref T)) ["self", "modules", "dirs"] := defIs_of (by kernel_rfl)
  obtain ⟨ox, hx, hcx, hncx, hdx⟩ := Mk.inst
  have hdd := Mk.dict ox hx
  have hnsd : h'.Ns1 dx fun _ => none := by
    rcases hdx with ⟨hn0, _⟩ | ⟨d', hd', _, hns'⟩
    · rw [hn0] at hdd; cases hdd
    · obtain rfl := Option.some.inj (hd'.symm.trans hdd); exact hns'
  have hne : dx ≠ x := by
    rcases hdx with ⟨hn0, _⟩ | ⟨d', hd', hne', _⟩
    · rw [hn0] at hdd; cases hdd
    · obtain rfl := Option.some.inj (hd'.symm.trans hdd); exact hne'
  have I : Ins Ca h' x dx fun _ => none := ⟨⟨ox, hx, hcx, hncx, hdd⟩, hne, hnsd⟩
  have hT' : h'.get? T = some oT := Mk.keeps _ _ hoT
  have hbinds : BindsTo (⟨h', g, d, t, os⟩ : Shared) (methFn 0 "_Ignore.__init__" pm cd doc (.ref T)) ⟨.ref x :: rest, []⟩ [("self", .ref x), ("modules", vm), ("dirs", vd)] := by
    rcases hr with ⟨rfl, rfl⟩ | rfl
    · exact init_binds1 hT' hdT
    · exact init_binds2 hT' hdT
  have hsp : SpAll (fun _ => True) h' [.val (.ref x), .dat (modsD xs), .dat (modsD ds)] [.ref x, vm, vd] := ⟨_, _, rfl, rfl, _, _, rfl, hvm.kp k₀, _, _, rfl, hvd.kp k₀, rfl⟩
  refine call_fnB (s := ⟨h', g, d, t, os⟩) (s₀ := ⟨h, g, d, t, os⟩) k₀ (fd := methFn 0 "_Ignore.__init__" pm cd doc (.ref T)) (names := ["self", "modules", "dirs"]) (body := methBody 0) (sps := [.val (.ref x), .dat (modsD xs), .dat (modsD ds)]) (ok := fun _ => True) G' (hf.kp k₀) hD rfl (fun _ _ => trivial) (fun _ => True)
    (fun E => hbinds _ _ _ _ ⟨[.ref x, vm, vd], rfl, Kp.refl _, hsp, Nat.le_refl _, trivial⟩) fun s' s₁ k' k₁ _ f => ?_
  have hX : (inX prog w (A.under (.builtin "type.__call__" ⟨.ref Ca :: rest, []⟩)) fI T pm cd doc s' ⟨h, g, d, t, os⟩ mg mb).Gd := fxG_gd G' hD rfl rfl _ _ fun _ _ => trivial
  have f : FS (inX prog w (A.under (.builtin "type.__call__" ⟨.ref Ca :: rest, []⟩)) fI T pm cd doc s' ⟨h, g, d, t, os⟩ mg mb) s₁.heap [("self", .val (.ref x)), ("modules", .dat (modsD xs)), ("dirs", .dat (modsD ds))] s₁ := f.sub (sub_cons rfl (sub_cons rfl (sub_cons rfl sub_nil)))
  have dl : s'.heap.get? dx ≠ none := by
    obtain ⟨o, es, ep, e, _⟩ := hnsd
    rw [Kp.get k' _ _ e]; exact fun y => nomatch y
  refine wpAny_mono (init_walk (k := k) hX (G'.deeper _) B O.np O.paths O.cls (I.keeps (Kp.get (Kp.trans k' k₁))) Mk.newX Mk.newD (fun e => dl (by rw [e]; exact get_size _)) hxs hxd hds hcs f) (fun fl s'' hy => ?_) fun _ _ y => y
  obtain ⟨h1, h2, am, ld, di, n, h3, h4, h5, h6, h7, h8, h9⟩ := hy
  exact ⟨h1, h2, ⟨x, dx, am, ld, di, n, rfl, h3, h4, h5, h6, Mk.newX, Mk.newD, h7, h8, h9⟩⟩
end
/-! ## the law: what it builds -/
theorem pick_map {α β : Type} (f : α → β) (l : List α) (lo hi st : Option Int) : pick (l.map f) lo hi st = (pick l lo hi st).map f := by
  unfold pick
  rw [List.length_map, List.map_filterMap]
  congr 1
  funext i
  rw [List.getElem?_map]
noncomputable def own12 : List Int := [15, 20, 21, 18, 25, 23, 56, 1, 10, 4, 8, 22]
noncomputable def numsOf (ns : List Int) : List Int := own12.zipIdx.map fun p => p.1 + (pick ns (some (p.2 : Nat)) none (some 12)).sum
theorem numsOf_len (ns : List Int) : (numsOf ns).length = 12 := by simp [numsOf, own12]
noncomputable def hiOf (ns : List Int) : Int := 11 + (if (1 : Int) < ((ns.length : Nat) : Int).fdiv 6 then 1 else ((ns.length : Nat) : Int).fdiv 6)
theorem hiOf_cases (ns : List Int) : hiOf ns = 11 ∨ hiOf ns = 12 := by
  unfold hiOf
  have : 0 ≤ ((ns.length : Nat) : Int).fdiv 6 := Int.fdiv_nonneg (by omega) (by omega)
  split <;> omega
noncomputable def rowNums (ns : List Int) : List Int := pick (numsOf ns) (some 6) (some (hiOf ns)) none
theorem fm_len {α : Type} {l : List α} : ∀ {idx : List Nat}, (∀ i ∈ idx, i < l.length) → (idx.filterMap (l[·]?)).length = idx.length
  | [], _ => rfl
  | i :: r, h => by
    rw [List.filterMap_cons, List.getElem?_eq_getElem (h i List.mem_cons_self)]
    exact congrArg Nat.succ (fm_len fun j hj => h j (List.mem_cons_of_mem _ hj))
theorem rowNums_len (ns : List Int) : (rowNums ns).length = 5 ∨ (rowNums ns).length = 6 := by
  have h12 := numsOf_len ns
  unfold rowNums pick
  rw [h12]
  rcases hiOf_cases ns with h | h
  · rw [h, show pickIdx (some 6) (some 11) none 12 = [6, 7, 8, 9, 10] by decide, fm_len (by rw [h12]; decide)]; exact .inl rfl
  · rw [h, show pickIdx (some 6) (some 12) none 12 = [6, 7, 8, 9, 10, 11] by decide, fm_len (by rw [h12]; decide)]; exact .inr rfl
noncomputable def headNums (ns : List Int) : List Int := pick (numsOf ns) none (some 6) none
theorem headNums_len (ns : List Int) : (headNums ns).length = 6 := by
  have h12 := numsOf_len ns
  unfold headNums pick
  rw [h12, show pickIdx none (some 6) none 12 = [0, 1, 2, 3, 4, 5] by decide, fm_len (by rw [h12]; decide)]; rfl
/-- the rows there are -/
noncomputable def allRows : List (List Str) := (partTab.map fun a => [a]) ++ (partTab.flatMap fun a => partTab.map fun b => [a, b]) ++ (partTab.flatMap fun a => partTab.flatMap fun b => partTab.map fun c => [a, b, c])
theorem tab_mem {z : Int} (h0 : 0 ≤ z) (h3 : z < 3) : (partTab[z.toNat]?).getD "" ∈ partTab := by
  have : z = 0 ∨ z = 1 ∨ z = 2 := by omega
  rcases this with rfl | rfl | rfl <;> decide
theorem partsOf_mem (n : Int) : partsOf n ∈ allRows := by
  have h1 := Int.fmod_nonneg_of_pos n (b := 3) (by decide)
  have h2 := Int.fmod_lt_of_pos n (b := 3) (by decide)
  have key : ∀ i : Nat, (fun place : Nat => (partTab[(((n.fdiv 3).fdiv (3 ^ place)).fmod 3).toNat]?).getD "") i ∈ partTab := fun i => tab_mem (Int.fmod_nonneg_of_pos _ (by decide)) (Int.fmod_lt_of_pos _ (by decide))
  unfold partsOf allRows
  generalize (fun place : Nat => (partTab[(((n.fdiv 3).fdiv (3 ^ place)).fmod 3).toNat]?).getD "") = g at *
  have hm : (n.fmod 3 + 1).toNat = 1 ∨ (n.fmod 3 + 1).toNat = 2 ∨ (n.fmod 3 + 1).toNat = 3 := by omega
  rcases hm with e | e | e <;> rw [e]
  · exact List.mem_append_left _ (List.mem_append_left _ (List.mem_map.mpr ⟨g 0, key 0, rfl⟩))
  · exact List.mem_append_left _ (List.mem_append_right _ (List.mem_flatMap.mpr ⟨g 0, key 0, List.mem_map.mpr ⟨g 1, key 1, rfl⟩⟩))
  · exact List.mem_append_right _ (List.mem_flatMap.mpr ⟨g 0, key 0, List.mem_flatMap.mpr ⟨g 1, key 1, List.mem_map.mpr ⟨g 2, key 2, rfl⟩⟩⟩)
noncomputable def RowIs (r : List Str) : Prop := r ∈ allRows
theorem row_len {r : List Str} (h : RowIs r) : 1 ≤ r.length ∧ r.length ≤ 3 := by
  have key : ∀ r ∈ allRows, 1 ≤ r.length ∧ r.length ≤ 3 := by decide
  exact key r h
theorem filter_range {α : Type} (l : List α) : ∀ k, (List.range k).filterMap (l[·]?) = l.take k
  | 0 => by simp
  | k + 1 => by
    rw [List.range_succ, List.filterMap_append, filter_range l k, List.take_add_one]
    cases h : l[k]? <;> simp [h]
theorem pick_take {α : Type} (l : List α) {m : Nat} : pick l none (some (m : Int)) none = l.take m := by
  unfold pick pickIdx
  rw [sliceBounds_plain]
  show (sliceRange ((0 : Nat) : Int) ((clipAt l.length (m : Int) : Nat) : Int) 1).filterMap _ = _
  rw [sliceRange_one]
  have : ((List.range (clipAt l.length (m : Int) - 0)).map (0 + ·)) = List.range (clipAt l.length (m : Int)) := by simp
  rw [this, filter_range]
  have hc : clipAt l.length (m : Int) = min m l.length := by
    unfold clipAt
    rw [if_neg (by omega)]
    omega
  rw [hc]
  by_cases h : m ≤ l.length
  · rw [Nat.min_eq_left h]
  · rw [Nat.min_eq_right (by omega), List.take_length, List.take_of_length_le (by omega)]
theorem row_take {r : List Str} (h : RowIs r) {m : Nat} (h1 : 1 ≤ m) (h3 : m ≤ 3) : RowIs (r.take m) := by
  have key : ∀ r ∈ allRows, ∀ m ∈ [1, 2, 3], r.take m ∈ allRows := by decide
  exact key r h m (by have : m = 1 ∨ m = 2 ∨ m = 3 := by omega
                      rcases this with rfl | rfl | rfl <;> decide)

noncomputable def rowsOf (ns : List Int) : List (List Str) := (rowNums ns).map partsOf
noncomputable def headsOf (ns : List Int) : List (List Str) := (headNums ns).map fun m => (((rowsOf ns)[(m.fmod ((rowsOf ns).length : Nat)).toNat]?).getD []).take ((m.fdiv ((rowsOf ns).length : Nat)).fmod 3 + 1).toNat
noncomputable def tollTab : List Int := [2, 1, 1, 2, 1, 2]
noncomputable def tollsOf (ns : List Int) : List Int := (headNums ns).zipIdx.map fun p => (((p.1.fdiv ((rowsOf ns).length : Nat)).fdiv 3).fmod 2) * (tollTab[p.2]?.getD 0)
noncomputable def strsD (r : List Str) : PyData := .list (r.map .str)
noncomputable def fileOf (r : List Str) : Str := "/" ++ Txt.join "/" r ++ "/f"
noncomputable def modOf (r : List Str) : Str := Txt.join "." r
noncomputable def askD (r : List Str) : PyData := .tuple [.str (fileOf r), .str (modOf r)]
theorem rowsOf_len (ns : List Int) : (rowsOf ns).length = 5 ∨ (rowsOf ns).length = 6 := by
  unfold rowsOf; rw [List.length_map]; exact rowNums_len ns
theorem rowsOf_row (ns : List Int) : ∀ r ∈ rowsOf ns, RowIs r := fun r hr => by
  obtain ⟨n, _, rfl⟩ := List.mem_map.mp hr
  exact partsOf_mem n
theorem row_facts {r : List Str} (h : RowIs r) : JoinOk "/" r = true ∧ JoinOk "." r = true ∧ (Txt.join "/" r).length ≤ 20 ∧ (Txt.join "." r).length ≤ 20 := by
  have key : ∀ r ∈ allRows, JoinOk "/" r = true ∧ JoinOk "." r = true ∧ (Txt.join "/" r).length ≤ 20 ∧ (Txt.join "." r).length ≤ 20 := by decide +kernel
  exact key r h
theorem head_idx {n : Nat} (hn : n = 5 ∨ n = 6) (m : Int) : 0 ≤ m.fmod (n : Int) ∧ m.fmod (n : Int) < n := by
  have h : (0 : Int) < n := by omega
  exact ⟨Int.fmod_nonneg_of_pos m h, Int.fmod_lt_of_pos m h⟩
theorem headsOf_row (ns : List Int) : ∀ r ∈ headsOf ns, RowIs r := fun r hr => by
  obtain ⟨m, _, rfl⟩ := List.mem_map.mp hr
  obtain ⟨h1, h2⟩ := head_idx (rowsOf_len ns) m
  have h3 := Int.fmod_nonneg_of_pos (m.fdiv ((rowsOf ns).length : Nat)) (b := 3) (by decide)
  have h4 := Int.fmod_lt_of_pos (m.fdiv ((rowsOf ns).length : Nat)) (b := 3) (by decide)
  have hlt : (m.fmod ((rowsOf ns).length : Nat)).toNat < (rowsOf ns).length := by omega
  rw [List.getElem?_eq_getElem hlt]
  exact row_take (rowsOf_row ns _ (List.getElem_mem hlt)) (by omega) (by omega)
theorem headsOf_len (ns : List Int) : (headsOf ns).length = 6 := by unfold headsOf; rw [List.length_map, headNums_len]
theorem tollsOf_len (ns : List Int) : (tollsOf ns).length = 6 := by unfold tollsOf; rw [List.length_map, List.length_zipIdx, headNums_len]

noncomputable abbrev lwX (prog : Program) (w : World) (A : Around) (a : Addr) (pm cd doc : Value) (s : Shared) (mg mb : Str → Option Value) : Fx := fxOf prog w A (fnAt 20 pm cd doc) a (fun _ => True) (fun _ => True) s mg mb
noncomputable def forElts : Option Stmt → List Expr
  | some (.Assign _ (.ListComp _ (⟨.Tuple es _ _, _, _, _⟩ :: _) _ _) _) => es
  | _ => []
section
variable {prog : Program} {w : World} {A : Around} {a : Addr} {pm cd doc : Value} {s : Shared} {mg mb : Str → Option Value}
set_option maxHeartbeats 8000000 in
theorem law_1b {k : Nat} (hX : (lwX prog w A a pm cd doc s mg mb).Gd) (G : Gl prog mg mb (k + 1) (lwX prog w A a pm cd doc s mg mb).A s) (B : Bis mg mb) {ap : Addr} {pm' cd' doc' : Value} (hpn : mg "_law_parts" = some (.ref ap)) (hp : FnIs s.heap ap (fnAt 17 pm' cd' doc')) {ns : List Int} (hns : ns.length ≤ 1000) {s₁ : Shared} {hB : Heap}
    (f : FS (lwX prog w A a pm cd doc s mg mb) hB [("numbers", .dat (.list ((numsOf ns).map .int))), ("script", .dat (.list (ns.map .int)))] s₁) {Q : Flow → Shared → Prop}
    (h : ∀ s', FS (lwX prog w A a pm cd doc s mg mb) hB [("asks", .dat (.list ((rowsOf ns).map askD))), ("tolls", .dat (.list ((tollsOf ns).map .int))), ("heads", .dat (.list ((headsOf ns).map strsD))), ("n", .dat (.int ((rowsOf ns).length : Nat))), ("rows", .dat (.list ((rowsOf ns).map strsD)))] s' →
      wpAny (lwX prog w A a pm cd doc s mg mb).m (lwX prog w A a pm cd doc s mg mb).A (execs ((bodyAt 20).drop 6) (lwX prog w A a pm cd doc s mg mb).env) Q (fun _ _ => False) s') :
    wpAny (lwX prog w A a pm cd doc s mg mb).m (lwX prog w A a pm cd doc s mg mb).A (execs ((bodyAt 20).drop 1) (lwX prog w A a pm cd doc s mg mb).env) Q (fun _ _ => False) s₁ := by
  have hC := f.cx hX
  have hnl := numsOf_len ns
  have hl6 : ((ns.map PyData.int).length : Int) = ((ns.length : Nat) : Int) := by rw [List.length_map]
  refine FS.seq ?_
  show wpAny _ _ (exec (.Assign _ _ _) _) _ _ _
  refine FS.setM f (d := .list ((rowsOf ns).map strsD)) ?_ (.inr ⟨rfl, rfl, ⟨_, rfl⟩⟩) fun s₂ f₂ _ => ?_
  · refine Ev.cast (Ev.comp hC (P := fun _ h v => Rd (fun _ => True) h (.list ((rowNums ns).map .int)) v) ["number"] (fun s' k' => ?_) (Iters.list hC) (fun m => [("number", .dat (.int m))]) (fun x _ => .name) (fun x _ => rfl) (by kernel_rfl) (fun _ => true) (fun m : Int => strsD (partsOf m)) (by have := rowNums_len ns; omega) (fun x _ cenv ok' s' hC'' hsc k' => .nil) (fun x hx _ cenv ok' s' hC'' hsc k' => ?_)) ?_
    · have hC'' := hC.at k'
      refine Ev.cast (Ev.slice hC'' (ds := (numsOf ns).map .int) (plo := some 6) (phi := some (hiOf ns)) (pst := none) (Ev.nameD hC'' rfl) (.int Ev.int) (.int (Ev.binop Ev.int (Ev.callB (by walk_at "fn") (EvL.cons (Ev.binop (Ev.cast (Ev.callB (by walk_at "fn") (EvL.cons (Ev.nameD hC'' rfl) EvL.nil) (call_lenL (by rw [List.length_map]; omega))) (by rw [hl6])) Ev.int (bin_fdiv hC'' (by decide))) (EvL.cons Ev.int EvL.nil)) (call_min2 hC'')) bin_add)) .no (by decide) (by rw [List.length_map]; omega)) (by rw [pick_map]; rfl)
    · have kk := Kp.trans f.F.keeps k'
      exact Ev.callF (a := ap) (ds := [.int x]) (Ev.global hC'' (inner_kind hsc rfl) hpn) (hp.kp kk).fn (EvL.cons (Ev.nameD hC'' rfl) EvL.nil) (parts_ok hC'' (G.kp kk) B (hp.kp kk) x)
    · rw [List.filter_eq_self.mpr (fun _ _ => rfl)]; unfold rowsOf; rw [List.map_map]; rfl
  have hC₂ := f₂.cx hX
  have hrl := rowsOf_len ns
  have hrln : ((rowsOf ns).map strsD).length = (rowsOf ns).length := by rw [List.length_map]
  refine FS.seq (FS.setM f₂ (d := .int ((rowsOf ns).length : Nat)) (Ev.cast (Ev.callB (by walk_at "fn") (EvL.cons (Ev.nameD hC₂ rfl) EvL.nil) (call_lenL (by rw [hrln]; omega))) (by rw [hrln])) (.inr ⟨rfl, rfl, ⟨_, rfl⟩⟩) fun s₃ f₃ _ => ?_)
  have hC₃ := f₃.cx hX
  have hl6' := headNums_len ns
  refine FS.seq ?_
  show wpAny _ _ (exec (.Assign _ _ _) _) _ _ _
  refine FS.setC hX f₃ (P := fun _ h v => Rd (fun _ => True) h (.list ((headNums ns).map .int)) v) (l := headNums ns) (sp := fun m => .dat (.int m)) ["number"] ?_ (Iters.list hC₃) (fun m => [("number", .dat (.int m))]) (fun x _ => .name) (fun x _ => rfl) (by kernel_rfl) (fun _ => true) (fun m : Int => strsD ((((rowsOf ns)[(m.fmod ((rowsOf ns).length : Nat)).toNat]?).getD []).take ((m.fdiv ((rowsOf ns).length : Nat)).fmod 3 + 1).toNat)) (by omega) (fun x _ cenv ok' s' hC'' hsc k' => .nil) ?_ (.inl rfl) ?_
  · intro s' k'
    have hC'' := hC₃.at k'
    exact Ev.cast (Ev.slice hC'' (ds := (numsOf ns).map .int) (plo := none) (phi := some 6) (pst := none) (Ev.nameD hC'' rfl) .no (.int Ev.int) .no (by decide) (by rw [List.length_map]; omega)) (by rw [pick_map]; rfl)
  · intro m hm _ cenv ok' s' hC'' hsc k'
    obtain ⟨h1, h2⟩ := head_idx hrl m
    have h3 := Int.fmod_nonneg_of_pos (m.fdiv ((rowsOf ns).length : Nat)) (b := 3) (by decide)
    have h4 := Int.fmod_lt_of_pos (m.fdiv ((rowsOf ns).length : Nat)) (b := 3) (by decide)
    have hlt : (m.fmod ((rowsOf ns).length : Nat)).toNat < (rowsOf ns).length := by omega
    have hne : (((rowsOf ns).length : Nat) : Int) ≠ 0 := by omega
    have hmt : (m.fdiv ((rowsOf ns).length : Nat)).fmod 3 + 1 = ((((m.fdiv ((rowsOf ns).length : Nat)).fmod 3 + 1).toNat : Nat) : Int) := by omega
    have hrw := row_len (rowsOf_row ns _ (List.getElem_mem hlt))
    refine Ev.cast (Ev.slice hC'' (ds := (((rowsOf ns)[(m.fmod ((rowsOf ns).length : Nat)).toNat]?).getD []).map .str) (plo := none) (phi := some ((m.fdiv ((rowsOf ns).length : Nat)).fmod 3 + 1)) (pst := none) (Ev.item (ds := (rowsOf ns).map strsD) (k := m.fmod ((rowsOf ns).length : Nat)) (Ev.nameD hC'' rfl) (Ev.binop (Ev.nameD hC'' rfl) (Ev.nameD hC'' rfl) (bin_mod hne)) h1 (by omega) ?_) .no (.int (Ev.binop (Ev.binop (Ev.binop (Ev.nameD hC'' rfl) (Ev.nameD hC'' rfl) (bin_fdiv hC'' hne)) Ev.int (bin_mod (by decide))) Ev.int bin_add)) .no (by decide) ?_) ?_
    · simp [hlt, strsD]
    · rw [List.length_map, List.getElem?_eq_getElem hlt]; exact Nat.le_trans hrw.2 (by decide)
    · rw [hmt, pick_map, pick_take, Int.toNat_natCast]; rfl
  · intro s₄ f₄
    have e0 : PyData.list (((headNums ns).filter fun _ => true).map fun m : Int => strsD ((((rowsOf ns)[(m.fmod ((rowsOf ns).length : Nat)).toNat]?).getD []).take ((m.fdiv ((rowsOf ns).length : Nat)).fmod 3 + 1).toNat)) = .list ((headsOf ns).map strsD) := by
      rw [List.filter_eq_self.mpr (fun _ _ => rfl)]; unfold headsOf; rw [List.map_map]; rfl
    rw [e0] at f₄
    have hC₄ := f₄.cx hX
    refine FS.seq ?_
    show wpAny _ _ (exec (.Assign _ _ _) _) _ _ _
    refine FS.setM f₄ (d := .list ((tollsOf ns).map .int)) ?_ (.inr ⟨rfl, rfl, ⟨_, rfl⟩⟩) fun s₅ f₅ _ => ?_
    · have hzl : (headNums ns).zipIdx.length = 6 := by rw [List.length_zipIdx]; exact hl6'
      refine Ev.cast (Ev.comp hC₄ (P := fun h₀ h v => EnumOf (fun _ => True) ((headNums ns).map .int) h₀ h v) ["number", "k"] (fun s' k' => ?_) (Iters.enum hC₄) (fun p : Int × Nat => [("number", .dat (.int p.1)), ("k", .dat (.int (p.2 : Nat)))]) (fun x _ => .pair) (fun x _ => rfl) (by kernel_rfl) (fun _ => true) (fun p : Int × Nat => PyData.int ((((p.1.fdiv ((rowsOf ns).length : Nat)).fdiv 3).fmod 2) * (tollTab[p.2]?.getD 0))) (by omega) (fun x _ cenv ok' s' hC'' hsc k' => .nil) (fun p hp _ cenv ok' s' hC'' hsc k' => ?_)) ?_
      · have hC'' := hC₄.at k'
        exact Ev.callT (T := "enumerate") (ds := [.list ((headNums ns).map .int)]) (by walk_at "fn") (EvL.cons (Ev.cast (Ev.slice hC'' (ds := (numsOf ns).map .int) (plo := none) (phi := some 6) (pst := none) (Ev.nameD hC'' rfl) .no (.int Ev.int) .no (by decide) (by rw [List.length_map]; omega)) (by rw [pick_map]; rfl)) EvL.nil) call_enum
      · have hne : (((rowsOf ns).length : Nat) : Int) ≠ 0 := by omega
        have hp6 : p.2 < 6 := by
          obtain ⟨y, i⟩ := p
          obtain ⟨i', hi'⟩ := List.getElem?_of_mem hp
          rw [List.getElem?_zipIdx] at hi'
          cases hy : (headNums ns)[i']? with
          | none => rw [hy] at hi'; cases hi'
          | some z =>
            rw [hy] at hi'
            have := (List.getElem?_eq_some_iff.mp hy).1
            simp at hi'
            show i < 6
            omega
        have h3 := Int.fmod_nonneg_of_pos ((p.1.fdiv ((rowsOf ns).length : Nat)).fdiv 3) (b := 2) (by decide)
        have h4 := Int.fmod_lt_of_pos ((p.1.fdiv ((rowsOf ns).length : Nat)).fdiv 3) (b := 2) (by decide)
        refine Ev.binop (Ev.binop (Ev.binop (Ev.binop (Ev.nameD hC'' rfl) (Ev.nameD hC'' rfl) (bin_fdiv hC'' hne)) Ev.int (bin_fdiv hC'' (by decide))) Ev.int (bin_mod (by decide))) (Ev.item (ds := tollTab.map .int) (k := (p.2 : Nat)) ?_ (Ev.nameD hC'' rfl) (by omega) (by omega) (ints_at (by show p.2 < 6; exact hp6))) (bin_mul (mul_small (by omega) (by omega) _))
        show EvD _ _ (.list [.int 2, .int 1, .int 1, .int 2, .int 1, .int 2])
        walk_at "ev"
      · rw [List.filter_eq_self.mpr (fun _ _ => rfl)]; unfold tollsOf; rw [List.map_map]; rfl
    have hC₅ := f₅.cx hX
    refine FS.seq ?_
    show wpAny _ _ (exec (.Assign _ _ _) _) _ _ _
    refine FS.setM f₅ (d := .list ((rowsOf ns).map askD)) ?_ (.inr ⟨rfl, rfl, ⟨_, rfl⟩⟩) fun s₆ f₆ _ => ?_
    · refine Ev.cast (Ev.comp hC₅ (P := fun _ h v => Rd (fun _ => True) h (.list ((rowsOf ns).map strsD)) v) ["row"] (fun s' k' => ?_) (Iters.list hC₅) (fun r => [("row", .dat (strsD r))]) (fun x _ => .name) (fun x _ => rfl) (by kernel_rfl) (fun _ => true) askD (by omega) (fun x _ cenv ok' s' hC'' hsc k' => .nil) (fun r hr _ cenv ok' s' hC'' hsc k' => ?_)) ?_
      · have hC'' := hC₅.at k'
        exact Ev.nameD hC'' rfl
      · obtain ⟨q1, q2, q3, q4⟩ := row_facts (rowsOf_row ns r hr)
        have e1 : ("/" ++ Txt.join "/" r : Str).length = 1 + (Txt.join "/" r).length := Str.length_append _ _
        exact Ev.tuple hC'' (ds := [.str (fileOf r), .str (modOf r)]) (EvL.cons (Ev.binop (Ev.binop Ev.str (Ev.methS (name := "join") (ds := [strsD r]) Ev.str F.plainAttrs_str F.slot_str_join F.type_str_join (EvL.cons (Ev.nameD hC'' rfl) EvL.nil) (call_joinL q1)) (bin_addS (by show 1 + _ ≤ _; omega))) Ev.str (bin_addS (by rw [e1]; show _ + 2 ≤ _; omega))) (EvL.cons (Ev.methS (name := "join") (ds := [strsD r]) Ev.str F.plainAttrs_str F.slot_str_join F.type_str_join (EvL.cons (Ev.nameD hC'' rfl) EvL.nil) (call_joinL q2)) EvL.nil)) (Nat.le_of_ble_eq_true rfl)
      · rw [List.filter_eq_self.mpr (fun _ _ => rfl)]
    exact h s₆ (f₆.sub (sub_cons rfl (sub_cons rfl (sub_cons rfl (sub_cons rfl (sub_cons rfl sub_nil))))))
set_option maxHeartbeats 8000000 in
theorem law_1 {k : Nat} (hX : (lwX prog w A a pm cd doc s mg mb).Gd) (G : Gl prog mg mb (k + 1) (lwX prog w A a pm cd doc s mg mb).A s) (B : Bis mg mb) {ap : Addr} {pm' cd' doc' : Value} (hpn : mg "_law_parts" = some (.ref ap)) (hp : FnIs s.heap ap (fnAt 17 pm' cd' doc')) {ns : List Int} (hns : ns.length ≤ 1000) {s₁ : Shared} {hB : Heap}
    (f : FS (lwX prog w A a pm cd doc s mg mb) hB [("script", .dat (.list (ns.map .int)))] s₁) {Q : Flow → Shared → Prop}
    (h : ∀ s', FS (lwX prog w A a pm cd doc s mg mb) hB [("asks", .dat (.list ((rowsOf ns).map askD))), ("tolls", .dat (.list ((tollsOf ns).map .int))), ("heads", .dat (.list ((headsOf ns).map strsD))), ("n", .dat (.int ((rowsOf ns).length : Nat))), ("rows", .dat (.list ((rowsOf ns).map strsD)))] s' →
      wpAny (lwX prog w A a pm cd doc s mg mb).m (lwX prog w A a pm cd doc s mg mb).A (execs ((bodyAt 20).drop 6) (lwX prog w A a pm cd doc s mg mb).env) Q (fun _ _ => False) s') :
    wpAny (lwX prog w A a pm cd doc s mg mb).m (lwX prog w A a pm cd doc s mg mb).A (execs (bodyAt 20) (lwX prog w A a pm cd doc s mg mb).env) Q (fun _ _ => False) s₁ := by
  have hC := f.cx hX
  refine FS.seq ?_
  show wpAny _ _ (exec (.Assign _ _ _) _) _ _ _
  have hI := Iters.enum (C := (lwX prog w A a pm cd doc s mg mb).cx s₁ [("script", .dat (.list (ns.map .int)))]) hC (l := own12) (g := PyData.int) (elts := forElts (bodyAt 20)[0]?) (j := 0) (pos := ⟨170, 44, 170, 50⟩)
  refine FS.setC hX f (P := fun h₀ h v => EnumOf (fun _ => True) (own12.map .int) h₀ h v) (l := own12.zipIdx) (sp := fun p => .dat (.tuple [.int (p.2 : Nat), .int p.1])) ["own", "k"] ?_ ?_ (fun p => [("own", .dat (.int p.1)), ("k", .dat (.int (p.2 : Nat)))]) ?_ ?_ ?_ (fun _ => true) (fun p : Int × Nat => PyData.int (p.1 + (pick ns (some (p.2 : Nat)) none (some 12)).sum)) ?_ ?_ ?_ ?_ ?_ ?_
  · intro s' k'
    have hC'' := hC.at k'
    refine Ev.callT (T := "enumerate") (ds := [.list (own12.map .int)]) ?_ ?_ ?_
    · walk_at "fn"
    · show EvL _ _ _ [.list [.int 15, .int 20, .int 21, .int 18, .int 25, .int 23, .int 56, .int 1, .int 10, .int 4, .int 8, .int 22]]
      walk_at "args"
    · exact call_enum
  · exact hI
  · exact fun x _ => .pair
  · exact fun x _ => rfl
  · kernel_rfl
  · simp [own12]
  · exact fun x _ cenv ok' s' hC'' hsc k' => .nil
  · intro x hx _ cenv ok' s' hC'' hsc k'
    refine Ev.binop (Ev.nameD hC'' rfl) (Ev.callB (by walk_at "fn") (EvL.cons (Ev.cast (Ev.slice hC'' (ds := ns.map .int) (plo := some ((x.2 : Nat) : Int)) (phi := none) (pst := some 12) (Ev.nameD hC'' rfl) (.int (Ev.nameD hC'' rfl)) .no (.int Ev.int) (by decide) (by rw [List.length_map]; omega)) (by rw [pick_map])) EvL.nil) (call_sumL hC'')) bin_add
  · exact .inl rfl
  · intro s₂ f₂
    have e0 : PyData.list ((own12.zipIdx.filter fun _ => true).map fun p : Int × Nat => PyData.int (p.1 + (pick ns (some (p.2 : Nat)) none (some 12)).sum)) = .list ((numsOf ns).map .int) := by
      rw [List.filter_eq_self.mpr (fun _ _ => rfl)]; unfold numsOf; rw [List.map_map]; rfl
    rw [e0] at f₂
    exact law_1b hX G B hpn hp hns f₂ h
  · rfl
end
/-! ## the readers -/
theorem Made.mono {prog : Program} {w : World} {Ca : Addr} {h₀ h₁ h : Heap} {v : Value} {xs ds : List Str} (x : Made prog w Ca h₁ h v xs ds) (k : ∀ a, h₁.get? a = none → h₀.get? a = none) : Made prog w Ca h₀ h v xs ds := by
  obtain ⟨x, dx, am, ld, di, n, e, h1, h2, h3, h4, h5, h6, h7, h8, h9⟩ := x.is
  exact ⟨x, dx, am, ld, di, n, e, h1, h2, h3, k _ h4, k _ h5, k _ h6, k _ h7, k _ h8, h9⟩
theorem rd_true {ok : Addr → Prop} {h : Heap} {d : PyData} {v : Value} (x : Rd ok h d v) : Rd (fun _ => True) h d v := Rd.mv (.refl _ _) (fun _ _ _ _ => trivial) _ _ x
theorem call_make1 {C : Cx} {k : Nat} {Ca N T fI an : Addr} {mN : Str → Option Value} {xs : List Str} (G : Gl C.prog C.mg C.mb (k + 5) C.A C.s) (B : Bis C.mg C.mb) (O : OwnC C.mg C.s.heap Ca N T fI an mN) (hxs : xs.length ≤ 1000) (hne : xs ≠ []) (hxd : ∃ a b, a ∈ xs ∧ b ∈ xs ∧ a ≠ b)
    (Ok : ∀ s, Keeps C.s s → OwnC C.mg s.heap Ca N T fI an mN) : CallOk C (.ref Ca) [.list (xs.map .str)] (fun h v => Made C.prog C.w Ca C.s.heap h v xs []) := fun s vs kk x => by
  obtain ⟨v, rfl, hv⟩ := x.one_
  have hm : modsD xs = .list (xs.map .str) := by unfold modsD; rw [if_neg hne]
  refine wpAny_mono (make_ok (ds := []) (cs := fun _ => []) (vm := v) (vd := .none) (rest := [v]) (G.kp kk) B (Ok s kk) hxs (.inr hxd) (by decide) (fun d hd => nomatch hd) (by rw [hm]; exact rd_true hv) (show Rd (fun _ => True) s.heap .none .none from Rd_none.mpr rfl) (.inl ⟨rfl, rfl⟩)) (fun r s' y => ⟨y.1, y.2.mono fun a e => Kp.none kk e⟩) fun _ _ y => y
theorem call_make2 {C : Cx} {k : Nat} {Ca N T fI an : Addr} {mN : Str → Option Value} {ds : List Str} {cs : Str → List Str} (G : Gl C.prog C.mg C.mb (k + 5) C.A C.s) (B : Bis C.mg C.mb) (hds : ds.length ≤ 1000) (hne : ds ≠ []) (hcs : ∀ d ∈ ds, PathIs d (cs d))
    (Ok : ∀ s, Keeps C.s s → OwnC C.mg s.heap Ca N T fI an mN) : CallOk C (.ref Ca) [.none, .list (ds.map .str)] (fun h v => Made C.prog C.w Ca C.s.heap h v [] (ds.map (nrm cs))) := fun s vs kk x => by
  obtain ⟨v, u, rfl, hv, hu⟩ := x.two_
  have hm : modsD ds = .list (ds.map .str) := by unfold modsD; rw [if_neg hne]
  refine wpAny_mono (make_ok (xs := []) (ds := ds) (cs := cs) (vm := v) (vd := u) (rest := [v, u]) (G.kp kk) B (Ok s kk) (by decide) (.inl rfl) hds hcs (rd_true hv) (by rw [hm]; exact rd_true hu) (.inr rfl)) (fun r s' y => ⟨y.1, y.2.mono fun a e => Kp.none kk e⟩) fun _ _ y => y
theorem OwnC.kp {mg : Str → Option Value} {s s' : Shared} {Ca N T fI an : Addr} {mN : Str → Option Value} (O : OwnC mg s.heap Ca N T fI an mN) (k : Keeps s s') : OwnC mg s'.heap Ca N T fI an mN :=
  ⟨O.cls.keeps (Kp.get k), O.init, O.fn.elim fun pm y => y.elim fun cd y => y.elim fun doc y => ⟨pm, cd, doc, y.kp k⟩, O.fnc.elim fun o y => ⟨o, Kp.get k _ _ y.1, y.2⟩, O.dfl.elim fun o y => y.elim fun n y => ⟨o, n, Kp.get k _ _ y.1, y.2⟩, O.np, O.paths.kp k⟩
theorem Ev.callC {C : Cx} {f : Str} {p pos : Pos} {Ca N : Addr} {mN : Str → Option Value} {e : Expr} {rest : List Expr} {ds : List PyData} {P : Heap → Value → Prop} (hf : EvV C (.Name f p) (.ref Ca)) (X : ClsAt C.s.heap Ca N mN) (ha : EvL C pos (e :: rest) ds) (hc : CallOk C (.ref Ca) ds P)
    (he : starEach (e :: rest) C.env = (false, eval e C.env) :: starEach rest C.env := by rfl) (hplain : (backTo pos (starEach rest C.env)).any (·.1) = false := by rfl) : Ev C (.Call (.Name f p) (e :: rest) [] pos) P := fun s k =>
  wpAny_Call_NameR (Ev.two hf k fun v s₁ k₁ hv => by
    subst hv
    refine callWith_cls (X.keeps (Kp.get (Kp.trans k k₁))) (wpAny_mono (ha s₁ (Kp.trans k k₁)) (fun vs s₂ x => ⟨Kp.get x.1, wkV (Kp.trans k₁ x.1) (hc s₂ vs (Kp.trans (Kp.trans k k₁) x.1) x.2)⟩) fun _ _ x => x) he hplain)
structure Rdr where
  x : Addr
  dx : Addr
  am : Addr
  ld : Addr
  di : Addr
  n : Nat
noncomputable def xsOf (hs : List (List Str)) (j : Nat) : List Str := if j % 2 = 0 then ["z.z", modOf (hs[j]?.getD [])] else []
noncomputable def dsOf (hs : List (List Str)) (j : Nat) : List Str := if j % 2 = 0 then [] else ["/z", "/" ++ Txt.join "/" (hs[j]?.getD [])]
theorem RdS.at {prog : Program} {w : World} {C : Addr} {h h' : Heap} {x dx am ld di : Addr} {mods : Str → Bool} {n : Nat} {dirs : List Str} (r : RdS prog w C h x dx am ld di mods n dirs) (k : ∀ b, b = x ∨ b = dx ∨ b = am ∨ b = ld → ∀ o, h.get? b = some o → h'.get? b = some o) : RdS prog w C h' x dx am ld di mods n dirs := by
  refine ⟨r.obj.elim fun o y => ⟨o, k _ (.inl rfl) _ y.1, y.2⟩, r.xd, r.ns.at (k _ (.inr (.inl rfl))), r.set.at (k _ (.inr (.inr (.inl rfl)))), ?_⟩
  obtain ⟨a, vs, e, _, hl, hr⟩ := Rd_list.mp r.list
  cases e
  obtain ⟨l, e1, e2⟩ := strs_of hr
  refine Rd_list.mpr ⟨ld, vs, rfl, trivial, hl.elim fun o y => ⟨o, k _ (.inr (.inr (.inr rfl))) _ y.1, y.2⟩, ?_⟩
  rw [e1, ← e2]; exact of_strs l
/-- the readers, so far made -/
structure Rdrs (prog : Program) (w : World) (Ca : Addr) (h : Heap) (P : Addr → Prop) (hs : List (List Str)) (M : Nat → Str → Option Int) (m : Nat) (rs : List Rdr) : Prop where
  each : ∀ j r, rs[j]? = some r → RdS prog w Ca h r.x r.dx r.am r.ld r.di (inS (xsOf hs j)) r.n (dsOf hs j) ∧ r.n ≠ 1 ∧ Memo prog w h r.di (M j) m
  at_ : ∀ r ∈ rs, P r.x ∧ P r.dx ∧ P r.am ∧ P r.ld ∧ P r.di
  apart : ∀ r ∈ rs, ∀ r' ∈ rs, r.di ≠ r'.dx
  own : ∀ (j j' : Nat) (r r' : Rdr), rs[j]? = some r → rs[j']? = some r' → j ≠ j' → r.di ≠ r'.di
theorem Rdrs.mv {prog : Program} {w : World} {Ca : Addr} {h h' : Heap} {P P' : Addr → Prop} {hs : List (List Str)} {M : Nat → Str → Option Int} {m : Nat} {rs : List Rdr} (R : Rdrs prog w Ca h P hs M m rs) (k : ∀ b o, P b → h.get? b = some o → h'.get? b = some o) (kp : ∀ b o, P b → h.get? b = some o → P' b) : Rdrs prog w Ca h' P' hs M m rs := by
  refine ⟨fun j r e => ?_, fun r hr => ?_, R.apart, R.own⟩
  · obtain ⟨a1, a2, a3⟩ := R.each j r e
    obtain ⟨p1, p2, p3, p4, p5⟩ := R.at_ r (List.mem_of_getElem? e)
    refine ⟨a1.at fun b hb o => ?_, a2, a3.at (k _ · p5)⟩
    rcases hb with rfl | rfl | rfl | rfl
    · exact k _ o p1
    · exact k _ o p2
    · exact k _ o p3
    · exact k _ o p4
  · obtain ⟨j, hj⟩ := List.getElem?_of_mem hr
    obtain ⟨a1, a2, a3⟩ := R.each j r hj
    obtain ⟨p1, p2, p3, p4, p5⟩ := R.at_ r hr
    obtain ⟨o1, q1, _⟩ := a1.obj
    obtain ⟨o2, _, _, q2, _⟩ := a1.ns
    obtain ⟨o3, _, _, _, q3, _⟩ := a1.set
    obtain ⟨a, vs, e, _, ⟨o4, q4, _⟩, _⟩ := Rd_list.mp a1.list
    cases e
    obtain ⟨o5, _, _, q5, _⟩ := a3.dict
    exact ⟨kp _ _ p1 q1, kp _ _ p2 q2, kp _ _ p3 q3, kp _ _ p4 q4, kp _ _ p5 q5⟩

theorem Rdrs.snoc {prog : Program} {w : World} {Ca D : Addr} {h₆ h₇ h₈ : Heap} {P : Addr → Prop} {hs : List (List Str)} {rs : List Rdr} {v : Value} (R : Rdrs prog w Ca h₆ P hs (fun _ => M0) 1 rs) (hm : Made prog w Ca h₆ h₇ v (xsOf hs rs.length) (dsOf hs rs.length)) (k : ∀ b o, h₆.get? b = some o → h₇.get? b = some o) (hs' : Heap.SameBut D h₇ h₈)
    (hP : ∀ b, h₆.get? b = none → P b) (hPD : ∀ b, P b → b ≠ D) : ∃ r : Rdr, v = .ref r.x ∧ Rdrs prog w Ca h₈ P hs (fun _ => M0) 1 (rs ++ [r]) := by
  obtain ⟨x, dx, am, ld, di, n, e, h1, h2, h3, h4, h5, h6, h7, h8, h9⟩ := hm.is
  have kk : ∀ b o, b ≠ D → h₇.get? b = some o → h₈.get? b = some o := fun b o hb e => (hs'.2 b hb).trans e
  have R' := R.mv (h' := h₈) (P' := P) (fun b o p e => kk b o (hPD b p) (k b o e)) fun b o p _ => p
  have old : ∀ r ∈ rs, h₆.get? r.dx ≠ none ∧ h₆.get? r.di ≠ none := fun r hr => by
    obtain ⟨j, hj⟩ := List.getElem?_of_mem hr
    obtain ⟨a1, _, a3⟩ := R.each j r hj
    obtain ⟨o2, _, _, q2, _⟩ := a1.ns
    obtain ⟨o5, _, _, q5, _⟩ := a3.dict
    exact ⟨by rw [q2]; exact fun y => (nomatch y), by rw [q5]; exact fun y => (nomatch y)⟩
  refine ⟨⟨x, dx, am, ld, di, n⟩, e, fun j r hj => ?_, fun r hr => ?_, fun r hr r' hr' => ?_, fun j j' r r' hj hj' hne => ?_⟩
  · by_cases hlt : j < rs.length
    · rw [List.getElem?_append_left hlt] at hj
      exact R'.each j r hj
    · rw [List.getElem?_append_right (by omega)] at hj
      have hj0 : j - rs.length = 0 := by
        have := (List.getElem?_eq_some_iff.mp hj).1
        simp at this; omega
      rw [hj0] at hj
      have : r = ⟨x, dx, am, ld, di, n⟩ := by simpa using hj.symm
      subst this
      have : j = rs.length := by omega
      subst this
      refine ⟨h1.at fun b hb o => kk b o ?_, h2, h3.at (kk _ · (hPD _ (hP _ h4)))⟩
      rcases hb with rfl | rfl | rfl | rfl
      · exact hPD _ (hP _ h5)
      · exact hPD _ (hP _ h6)
      · exact hPD _ (hP _ h7)
      · exact hPD _ (hP _ h8)
  · rcases List.mem_append.mp hr with h | h
    · exact R.at_ r h
    · have := List.mem_singleton.mp h
      subst this
      exact ⟨hP _ h5, hP _ h6, hP _ h7, hP _ h8, hP _ h4⟩
  · rcases List.mem_append.mp hr with h | h <;> rcases List.mem_append.mp hr' with h' | h'
    · exact R.apart r h r' h'
    · have := List.mem_singleton.mp h'
      subst this
      exact fun e => (old r h).2 (by rw [e]; exact h6)
    · have := List.mem_singleton.mp h
      subst this
      exact fun e => (old r' h').1 (by rw [← e]; exact h4)
    · have := List.mem_singleton.mp h
      subst this
      have := List.mem_singleton.mp h'
      subst this
      exact h9
  · have get : ∀ (j : Nat) (r : Rdr), (rs ++ [⟨x, dx, am, ld, di, n⟩])[j]? = some r → (rs[j]? = some r) ∨ (j = rs.length ∧ r = ⟨x, dx, am, ld, di, n⟩) := fun j r hj => by
      by_cases hlt : j < rs.length
      · rw [List.getElem?_append_left hlt] at hj; exact .inl hj
      · rw [List.getElem?_append_right (by omega)] at hj
        have hj0 : j - rs.length = 0 := by
          have := (List.getElem?_eq_some_iff.mp hj).1
          simp at this; omega
        rw [hj0] at hj
        exact .inr ⟨by omega, by simpa using hj.symm⟩
    rcases get j r hj with a | ⟨a, a'⟩ <;> rcases get j' r' hj' with b | ⟨b, b'⟩
    · exact R.own j j' r r' a b hne
    · subst b'
      exact fun e => (old r (List.mem_of_getElem? a)).2 (by rw [e]; exact h4)
    · subst a'
      exact fun e => (old r' (List.mem_of_getElem? b)).2 (by rw [← e]; exact h4)
    · omega
theorem fmod2 (k : Nat) : ((k : Int).fmod 2 == 0) = decide (k % 2 = 0) := by
  rw [Int.fmod_eq_emod_of_nonneg _ (by decide)]
  by_cases h : k % 2 = 0
  · rw [decide_eq_true h]; simp; omega
  · rw [decide_eq_false h]; simp; omega
noncomputable def pathCs (p : Str) : List Str := Txt.split (Txt.slice p (some 1) none) "/"
noncomputable def pathOk (p : Str) : Bool := decide (p.length ≤ 1000) && decide (p.length ≠ 0) && (Txt.slice p none (some 1) == "/") && !(Txt.slice p (some 1) (some 2) == "/") && decide ((Txt.slice p (some 1) none).length ≤ 1000) && decide ((Builtin.Str.partsBetween (Txt.slice p (some 1) none) (Builtin.Str.occurrences (Txt.slice p (some 1) none) "/" 0 (Txt.slice p (some 1) none).length ((Txt.slice p (some 1) none).length + 1)) ("/" : Str).length).length ≤ 1000) &&
  (pathCs p).all (fun c => !(c == "..")) && decide ((pathCs p).length ≤ 1000) && (pathCs p).all (fun c => decide (c.length ≤ 1000)) && JoinOk "/" ((pathCs p).filter keepC) && decide ((Txt.join "/" ((pathCs p).filter keepC)).length ≤ 1000)
theorem pathIs_of {p : Str} (h : pathOk p = true) : PathIs p (pathCs p) := by
  unfold pathOk at h
  simp only [Bool.and_eq_true, decide_eq_true_eq, beq_iff_eq, Bool.not_eq_true', List.all_eq_true, beq_eq_false_iff_ne] at h
  obtain ⟨⟨⟨⟨⟨⟨⟨⟨⟨⟨h1, h2⟩, h3⟩, h4⟩, h5⟩, h6⟩, h7⟩, h8⟩, h9⟩, h10⟩, h11⟩ := h
  exact ⟨h1, h2, h3, h4, h5, rfl, h6, fun c hc => beq_eq_false_iff_ne.mpr (h7 c hc), h8, h9, h10, h11⟩
theorem path_rows {r : List Str} (h : RowIs r) : pathOk ("/" ++ Txt.join "/" r ++ "/.") = true ∧ nrm pathCs ("/" ++ Txt.join "/" r ++ "/.") = "/" ++ Txt.join "/" r := by
  have key : ∀ r ∈ allRows, pathOk ("/" ++ Txt.join "/" r ++ "/.") = true ∧ nrm pathCs ("/" ++ Txt.join "/" r ++ "/.") = "/" ++ Txt.join "/" r := by decide +kernel
  exact key r h
theorem path_z : pathOk "/z/." = true ∧ nrm pathCs "/z/." = "/z" := by decide +kernel
theorem zz_ne {r : List Str} (h : RowIs r) : modOf r ≠ "z.z" := by
  have key : ∀ r ∈ allRows, modOf r ≠ "z.z" := by decide +kernel
  exact key r h

theorem FS.notFrD {X : Fx} {hB : Heap} {ρ : List (Str × Sp)} {s : Shared} (f : FS X hB ρ s) {b : Addr} (hb : s.heap.get? b = none) : ¬ frA X.env b := by
  rintro (e | ⟨x, e⟩)
  · obtain ⟨m, o, es, ep, e', _⟩ := f.F.ns
    rw [e, e'] at hb; cases hb
  · obtain ⟨u, o, e', _⟩ := f.F.cell x b e
    rw [e'] at hb; cases hb
section
variable {prog : Program} {w : World} {A : Around} {a : Addr} {pm cd doc : Value} {s : Shared} {mg mb : Str → Option Value}
set_option maxHeartbeats 8000000 in
theorem law_2 {k : Nat} (hX : (lwX prog w A a pm cd doc s mg mb).Gd) (G : Gl prog mg mb (k + 5) (lwX prog w A a pm cd doc s mg mb).A s) (B : Bis mg mb) {Ca N T fI an : Addr} {mN : Str → Option Value} (O : OwnC mg s.heap Ca N T fI an mN) (hig : mg "_Ignore" = some (.ref Ca)) {hs : List (List Str)} (hs6 : hs.length = 6) (hsr : ∀ r ∈ hs, RowIs r)
    {asksD tollsD nD rowsD : PyData} {s₁ : Shared} {hB : Heap} (f : FS (lwX prog w A a pm cd doc s mg mb) hB [("asks", .dat asksD), ("tolls", .dat tollsD), ("heads", .dat (.list (hs.map strsD))), ("n", .dat nD), ("rows", .dat rowsD)] s₁) {Q : Flow → Shared → Prop}
    (h : ∀ D rs s', s.heap.get? D = none → rs.length = 6 → FS (lwX prog w A a pm cd doc s mg mb) s₁.heap [("readers", .val (.ref D)), ("asks", .dat asksD), ("tolls", .dat tollsD), ("heads", .dat (.list (hs.map strsD))), ("n", .dat nD), ("rows", .dat rowsD)] s' → s'.heap.IsList D (rs.map fun r : Rdr => Value.ref r.x).toArray →
      Rdrs prog w Ca s'.heap (fun b => ¬ frA (lwX prog w A a pm cd doc s mg mb).env b ∧ s.heap.get? b = none) hs (fun _ => M0) 1 rs →
      wpAny (lwX prog w A a pm cd doc s mg mb).m (lwX prog w A a pm cd doc s mg mb).A (execs ((bodyAt 20).drop 8) (lwX prog w A a pm cd doc s mg mb).env) Q (fun _ _ => False) s') :
    wpAny (lwX prog w A a pm cd doc s mg mb).m (lwX prog w A a pm cd doc s mg mb).A (execs ((bodyAt 20).drop 6) (lwX prog w A a pm cd doc s mg mb).env) Q (fun _ _ => False) s₁ := by
  have f := f.base
  refine FS.seq ?_
  show wpAny _ _ (exec (.Assign _ _ _) _) _ _ _
  refine FS.setHole f (ds := []) Ev.emptyL (.inl rfl) fun D s₂ okD hDn hD0 f₂ H₂ => ?_
  have hX₂ := hX.hole D
  have hC₂ := f₂.cx hX₂
  have hp2 : PlainL s₂.heap D (([] : List Rdr).map fun r : Rdr => Value.ref r.x).toArray := by
    obtain ⟨vs, hp, hr⟩ := H₂
    have : vs = #[] := by have := hr.nil_; simpa using this
    subst this; exact hp
  have aD : s₂.heap.get? D ≠ none := by obtain ⟨o, n, e, _⟩ := hp2; rw [e]; exact fun y => nomatch y
  refine FS.seq ?_
  show wpAny _ _ (exec (.For _ _ _ _ _) _) _ _ _
  refine FS.forL hX₂ f₂ (P := fun _ h v => RangeOf ((lwX prog w A a pm cd doc s mg mb).hole D).ok 0 ((6 : Nat) : Int) 1 h v) (l := List.range 6) (sp := fun i : Nat => .dat (.int i)) ?_ (Iters.range hC₂ (by decide)) (fun i => [("k", .dat (.int (i : Nat)))]) (fun x _ => .name) (fun x _ => own1 (.inl rfl))
    (fun _ => [("readers", .val (.ref D)), ("asks", .dat asksD), ("tolls", .dat tollsD), ("heads", .dat (.list (hs.map strsD))), ("n", .dat nD), ("rows", .dat rowsD)]) (sub_cons rfl (sub_cons rfl (sub_cons rfl (sub_cons rfl (sub_cons rfl (sub_cons rfl sub_nil))))))
    (fun ok' i h => ∃ rs : List Rdr, rs.length = i ∧ PlainL h D (rs.map fun r : Rdr => Value.ref r.x).toArray ∧ Rdrs prog w Ca h (fun b => ok' b ∧ ¬ frA (lwX prog w A a pm cd doc s mg mb).env b ∧ s.heap.get? b = none ∧ b ≠ D) hs (fun _ => M0) 1 rs)
    (fun ok' i h h' _ ⟨rs, a1, a2, a3⟩ t => ⟨rs, a1, PlainL.mvD t.mv a2 (.inl aD), a3.mv (fun b o p e => t.ch b o (.inr p.1) p.2.1 e) fun b o p _ => p⟩)
    (fun ok' _ _ => ⟨[], rfl, hp2, ⟨fun j r e => by simp at e, fun r hr => (nomatch hr), fun r hr => (nomatch hr), fun j j' r r' e => by simp at e⟩⟩) ?_ ?_
  · exact Ev.callT (T := "range") (ds := [.int ((6 : Nat) : Int)]) (by walk_at "fn") (EvL.cons (Ev.cast Ev.int rfl) EvL.nil) call_range1
  · intro ok' hsub hal i x s₅ hx f₅ K₅
    obtain ⟨hi, rfl⟩ := range_at hx
    have hX₅ := hX₂.withOk hsub
    have hC₅ := f₅.cx hX₅
    obtain ⟨rs, hrl, hp, R⟩ := K₅
    have hlt : x < hs.length := by omega
    have hrow : RowIs (hs[x]?.getD []) := by rw [List.getElem?_eq_getElem hlt]; exact hsr _ (List.getElem_mem hlt)
    have hget : (hs.map strsD)[((x : Nat) : Int).toNat]? = some (strsD (hs[x]?.getD [])) := by rw [Int.toNat_natCast]; simp [hlt]
    obtain ⟨q1, q2, q3, q4⟩ := row_facts hrow
    have hsz : (rs.map fun r : Rdr => Value.ref r.x).toArray.size ≤ 1000000 := by simp; omega
    refine FS.seq (FS.iff f₅ (b := (x : Int).fmod 2 == 0) (by walk_at "ts") (fun hb s₆ f₆ k₆ => ?_) fun hb s₆ f₆ k₆ => ?_)
    all_goals
      have hC₆ := f₆.cx hX₅
      have R₆ := R.mv (h' := s₆.heap) (P' := fun b => ok' b ∧ ¬ frA (lwX prog w A a pm cd doc s mg mb).env b ∧ s.heap.get? b = none ∧ b ≠ D) (fun b o _ e => Kp.get k₆ b o e) fun b o p _ => p
      have hp₆ := hp.keeps (Kp.get k₆)
      have aD₆ : s₆.heap.get? D ≠ none := by obtain ⟨o, n, e, _⟩ := hp₆; rw [e]; exact fun y => nomatch y
      have Os : ∀ s', Keeps s₆ s' → OwnC mg s'.heap Ca N T fI an mN := fun s' k' => O.kp (Kp.trans f₆.F.keeps k')
      have G₆ := G.kp f₆.F.keeps
      have fin : ∀ (v : Value) (s₇ s₈ : Shared), Keeps s₆ s₇ → Made prog w Ca s₆.heap s₇.heap v (xsOf hs x) (dsOf hs x) → Heap.SameBut D s₇.heap s₈.heap → PlainL s₈.heap D ((rs.map fun r : Rdr => Value.ref r.x).toArray.push v) →
          ∃ rs' : List Rdr, rs'.length = x + 1 ∧ PlainL s₈.heap D (rs'.map fun r : Rdr => Value.ref r.x).toArray ∧ Rdrs prog w Ca s₈.heap (fun b => ok' b ∧ ¬ frA (lwX prog w A a pm cd doc s mg mb).env b ∧ s.heap.get? b = none ∧ b ≠ D) hs (fun _ => M0) 1 rs' := fun v s₇ s₈ k₇ hm hs' hp' => by
        rw [← hrl] at hm
        obtain ⟨r, rfl, R'⟩ := R₆.snoc hm (Kp.get k₇) hs' (fun b hb => ⟨f₆.ok b hb, f₆.notFrD hb, Kp.none f₆.F.keeps hb, fun e => aD₆ (e ▸ hb)⟩) (fun b p => p.2.2.2)
        refine ⟨rs ++ [r], by simp [hrl], ?_, R'⟩
        rw [List.map_append]
        have e : ((rs.map fun r : Rdr => Value.ref r.x) ++ [r].map fun r : Rdr => Value.ref r.x).toArray = (rs.map fun r : Rdr => Value.ref r.x).toArray.push (.ref r.x) := by simp
        rw [e]; exact hp'
    · have hx2 : x % 2 = 0 := by rw [fmod2] at hb; exact of_decide_eq_true hb
      have ex : xsOf hs x = (["z.z", modOf (hs[x]?.getD [])] : List Str) := by unfold xsOf; rw [if_pos hx2]
      have ed : dsOf hs x = [] := by unfold dsOf; rw [if_pos hx2]
      rw [ex, ed] at fin
      refine FS.seq (FS.appendG hX₅ f₆ (P := fun h v => Made prog w Ca s₆.heap h v (["z.z", modOf (hs[x]?.getD [])] : List Str) []) rfl (fun h => h.2 rfl) hD0 hp₆ hsz ?_ fun v s₇ s₈ k₇ hm hs' f₈ hp' => wpAny_execs_nil (wpAny_execs_nil ⟨f₈.sub (sub_cons rfl (sub_cons rfl (sub_cons rfl (sub_cons rfl (sub_cons rfl (sub_cons rfl sub_nil)))))), fin v s₇ s₈ k₇ hm hs' hp'⟩))
      refine Ev.callC (ds := [.list ((["z.z", modOf (hs[x]?.getD [])] : List Str).map .str)]) (Ev.global hC₆ rfl hig) (Os s₆ (Kp.refl _)).cls.at_ ?ha
        (call_make1 G₆ B (Os s₆ (Kp.refl _)) (Nat.le_of_ble_eq_true rfl) (fun e => nomatch e) ⟨"z.z", modOf (hs[x]?.getD []), by simp, by simp, fun e => zz_ne hrow e.symm⟩ Os)
      case ha =>
        show EvL _ _ [_] [.list [.str "z.z", .str (modOf (hs[x]?.getD []))]]
        with_reducible refine' EvL.cons ?e1 EvL.nil ?z1
        case z1 => rfl
        with_reducible refine' Ev.list hC₆ ?l2 (Nat.le_of_ble_eq_true rfl)
        with_reducible refine' EvL.cons Ev.str ?r3 ?z3
        case z3 => rfl
        with_reducible refine' EvL.cons ?e4 EvL.nil ?z4
        case z4 => rfl
        refine Ev.methS (name := "join") (ds := [strsD (hs[x]?.getD [])]) Ev.str F.plainAttrs_str F.slot_str_join F.type_str_join ?a5 (call_joinL q2)
        with_reducible refine' EvL.cons ?e6 EvL.nil ?z6
        case z6 => rfl
        exact (Ev.item (ds := hs.map strsD) (k := (x : Nat)) (Ev.nameD hC₆ rfl) (Ev.nameD hC₆ rfl) (by omega) (by omega) hget)
    · have hx2 : ¬ x % 2 = 0 := by rw [fmod2] at hb; exact of_decide_eq_false hb
      obtain ⟨z1, z2⟩ := path_z
      obtain ⟨r1, r2⟩ := path_rows hrow
      have ex : xsOf hs x = [] := by unfold xsOf; rw [if_neg hx2]
      have ed : dsOf hs x = (["/z/.", "/" ++ Txt.join "/" (hs[x]?.getD []) ++ "/."] : List Str).map (nrm pathCs) := by unfold dsOf; rw [if_neg hx2]; simp only [List.map_cons, List.map_nil, z2, r2]
      rw [ex, ed] at fin
      have e1 : ("/" ++ Txt.join "/" (hs[x]?.getD []) : Str).length = 1 + (Txt.join "/" (hs[x]?.getD [])).length := Str.length_append _ _
      refine FS.seq (FS.appendG hX₅ f₆ (P := fun h v => Made prog w Ca s₆.heap h v [] ((["/z/.", "/" ++ Txt.join "/" (hs[x]?.getD []) ++ "/."] : List Str).map (nrm pathCs))) rfl (fun h => h.2 rfl) hD0 hp₆ hsz ?_ fun v s₇ s₈ k₇ hm hs' f₈ hp' => wpAny_execs_nil (wpAny_execs_nil ⟨f₈.sub (sub_cons rfl (sub_cons rfl (sub_cons rfl (sub_cons rfl (sub_cons rfl (sub_cons rfl sub_nil)))))), fin v s₇ s₈ k₇ hm hs' hp'⟩))
      refine Ev.callC (ds := [.none, .list ((["/z/.", "/" ++ Txt.join "/" (hs[x]?.getD []) ++ "/."] : List Str).map .str)]) (Ev.global hC₆ rfl hig) (Os s₆ (Kp.refl _)).cls.at_ ?ha
        (call_make2 (cs := pathCs) G₆ B (Nat.le_of_ble_eq_true rfl) (fun e => nomatch e) (fun d hd => ?_) Os)
      case ha =>
        show EvL _ _ [_, _] [.none, .list [.str "/z/.", .str ("/" ++ Txt.join "/" (hs[x]?.getD []) ++ "/.")]]
        with_reducible refine' EvL.cons Ev.cNone ?r1 ?z1
        case z1 => rfl
        with_reducible refine' EvL.cons ?e2 EvL.nil ?z2
        case z2 => rfl
        with_reducible refine' Ev.list hC₆ ?l3 (Nat.le_of_ble_eq_true rfl)
        with_reducible refine' EvL.cons Ev.str ?r4 ?z4
        case z4 => rfl
        with_reducible refine' EvL.cons ?e5 EvL.nil ?z5
        case z5 => rfl
        with_reducible refine' Ev.binop ?a6 Ev.str (bin_addS ?s6)
        case s6 => rw [e1]; show _ + 2 ≤ _; omega
        with_reducible refine' Ev.binop Ev.str ?a7 (bin_addS ?s7)
        case s7 => show 1 + _ ≤ _; omega
        refine Ev.methS (name := "join") (ds := [strsD (hs[x]?.getD [])]) Ev.str F.plainAttrs_str F.slot_str_join F.type_str_join ?a8 (call_joinL q1)
        with_reducible refine' EvL.cons ?e9 EvL.nil ?z9
        case z9 => rfl
        exact (Ev.item (ds := hs.map strsD) (k := (x : Nat)) (Ev.nameD hC₆ rfl) (Ev.nameD hC₆ rfl) (by omega) (by omega) hget)
      rcases List.mem_cons.mp hd with rfl | hd
      · exact pathIs_of z1
      · have := List.mem_singleton.mp hd
        subst this
        exact pathIs_of r1
  · intro ok' s₅ hsub f₅ K₅
    obtain ⟨rs, hrl, hp, R⟩ := K₅
    have f₆ := FS.unhole f₅ hDn
    exact h D rs s₅ hD0 (by rw [hrl, List.length_range]) f₆ hp.isList (R.mv (fun b o _ e => e) fun b o p _ => ⟨p.2.1, p.2.2.1⟩)
end
/-! ## frames over a ghost -/
noncomputable def DictAt (h : Heap) (d : Addr) : Prop := ∃ o es n, h.get? d = some o ∧ o.data = .dict es n
theorem Memo.dictAt {prog : Program} {w : World} {h : Heap} {d : Addr} {M : Str → Option Int} {n : Nat} (x : Memo prog w h d M n) : DictAt h d := x.dict
theorem DictAt.at {h h' : Heap} {d : Addr} (x : DictAt h d) (k : ∀ o, h.get? d = some o → h'.get? d = some o) : DictAt h' d := x.elim fun o y => y.elim fun es y => y.elim fun n y => ⟨o, es, n, k o y.1, y.2⟩
theorem hid_mv {s : Shared} {d : Addr} (hd : DictAt s.heap d) : Mv (fun _ => True) s.heap (hid s d).heap := fun b o _ e d₁ _ => by
  by_cases hb : b = d
  · subst hb
    obtain ⟨o', es, n, e', h'⟩ := hd
    rw [e] at e'; cases e'; exact absurd h' (d₁ _ _)
  · exact hid_get e hb
theorem hid_mono {s s' : Shared} (k : Keeps s s') (d : Addr) : Keeps (hid s d) (hid s' d) := ⟨fun b o e => by
  have hb : b ≠ d := fun e' => by subst e'; rw [hid_none] at e; cases e
  exact hid_get (Kp.get k b o (Heap.of_hide e)) hb, k.gens, k.os⟩
theorem Fst.hid {s₀ s : Shared} {N : List (Str × NameKind)} {env : Env} {ok : Addr → Prop} {ρ : List (Str × Sp)} (F : Fst s₀ N env ok ρ s) {d : Addr} (hd : DictAt s.heap d) (hd0 : s₀.heap.get? d = none) (hl : d ≠ env.locals) : Fst s₀ N env ok ρ (hid s d) := by
  have hc : ∀ c v, s.heap.IsCell c v → (Mine.hid s d).heap.IsCell c v := fun c v y => by
    obtain ⟨o', e', d'⟩ := y
    refine ⟨o', hid_get e' fun e => ?_, d'⟩
    subst e
    obtain ⟨o, es, n, e, h⟩ := hd
    rw [e'] at e; cases e; rw [d'] at h; cases h
  have hn : ∀ m, s.heap.Ns env.locals m → (Mine.hid s d).heap.Ns env.locals m := fun m y => y.at fun o e => hid_get e fun e => hl e.symm
  refine ⟨kp_hid F.keeps hd0, F.kind, F.ns.elim fun m y => ⟨m, hn m y⟩, F.new, fun x c e => (F.cell x c e).elim fun v y => ⟨v, hc c v y⟩, F.apart, F.own, fun x sp e => ?_⟩
  obtain ⟨v, a, b⟩ := F.names x sp e
  refine ⟨v, ?_, Sp.mv (hid_mv hd).of_true (fun _ _ z _ => z) b⟩
  rcases a with ⟨a1, m1, a2, a3⟩ | ⟨a1, c1, a2, a3⟩
  · exact .inl ⟨a1, m1, hn m1 a2, a3⟩
  · exact .inr ⟨a1, c1, a2, hc _ _ a3⟩
theorem LI.hid {s₀ s : Shared} {N : List (Str × NameKind)} {env : Env} {ok : Addr → Prop} {ρ : List (Str × Sp)} {D : Addr} {hB : Heap} {ds : List PyData} (L : LI s₀ N env ok ρ D hB ds s) {d : Addr} (hd : DictAt s.heap d) (hd0 : s₀.heap.get? d = none) (hl : d ≠ env.locals) : LI s₀ N env ok ρ D hB ds (hid s d) := by
  refine ⟨L.F.hid hd hd0 hl, ?_, L.mv.trans (hid_mv hd).of_true⟩
  obtain ⟨vs, ⟨n, hp⟩, hr⟩ := L.acc
  refine ⟨vs, ⟨n, hid_get hp fun e => ?_⟩, RdAll.mv (hid_mv hd).of_true (fun _ _ z _ => z) _ _ hr⟩
  subst e
  obtain ⟨o, es, n', e, h⟩ := hd
  rw [hp] at e; cases e; cases h
theorem FS.hid {X : Fx} {hB : Heap} {ρ : List (Str × Sp)} {s : Shared} (f : FS X hB ρ s) {d : Addr} (hd : DictAt s.heap d) (hd0 : X.s₀.heap.get? d = none) (hl : d ≠ X.env.locals) (okA : ∀ a, X.ok a) : FS X hB ρ (hid s d) :=
  ⟨f.F.hid hd hd0 hl, fun a _ => okA a, f.mv.trans (hid_mv hd).of_true⟩
/-- many at once -/
noncomputable def hidL (s : Shared) : List Addr → Shared
  | [] => s
  | d :: r => hidL (hid s d) r
theorem hidL_kp : ∀ (ds : List Addr) (s : Shared), Keeps (hidL s ds) s
  | [], s => Kp.refl s
  | d :: r, s => Kp.trans (hidL_kp r (hid s d)) (hid_kp s d)
theorem hidL_get : ∀ {ds : List Addr} {s : Shared} {b : Addr} {o : Obj}, s.heap.get? b = some o → b ∉ ds → (hidL s ds).heap.get? b = some o
  | [], s, b, o, e, _ => e
  | d :: r, s, b, o, e, h => hidL_get (ds := r) (s := hid s d) (hid_get e fun e' => h (e' ▸ List.mem_cons_self)) fun h' => h (List.mem_cons_of_mem _ h')
theorem hidL_none : ∀ {ds : List Addr} {s : Shared} {b : Addr}, b ∈ ds → (hidL s ds).heap.get? b = none
  | d :: r, s, b, h => by
    rcases List.mem_cons.mp h with rfl | h
    · exact Kp.none (hidL_kp r (hid s b)) (hid_none s b)
    · exact hidL_none (ds := r) (s := hid s d) h
theorem FS.hidL {X : Fx} {hB : Heap} {ρ : List (Str × Sp)} (okA : ∀ a, X.ok a) : ∀ {ds : List Addr} {s : Shared}, FS X hB ρ s → ds.Nodup → (∀ d ∈ ds, DictAt s.heap d ∧ X.s₀.heap.get? d = none ∧ d ≠ X.env.locals) → FS X hB ρ (hidL s ds)
  | [], s, f, _, _ => f
  | d :: r, s, f, hn, h => by
    rw [List.nodup_cons] at hn
    obtain ⟨h1, h2, h3⟩ := h d List.mem_cons_self
    refine FS.hidL okA (ds := r) (f.hid h1 h2 h3 okA) hn.2 fun d' hd' => ?_
    obtain ⟨a1, a2, a3⟩ := h d' (List.mem_cons_of_mem _ hd')
    exact ⟨a1.at fun o e => hid_get e fun e' => hn.1 (e' ▸ hd'), a2, a3⟩

/-- an element that turns one dict, put behind the others -/
theorem emitE {prog : Program} {w : World} {A : Around} {s₀ s' : Shared} {N : List (Str × NameKind)} {cenv : Env} {ok' : Addr → Prop} {ρ' : List (Str × Sp)} {D di : Addr} {hB : Heap} {ds : List PyData} {d : PyData} {elt : Expr} {fp : List Addr} {St Kn : Heap → Prop}
    (L : LI s₀ N cenv ok' ρ' D hB ds s') (hds : (ds ++ [d]).length ≤ 1000000) (hst : St s'.heap) (hSt : ∀ h h', St h → (∀ b ∈ fp, ∀ o, NotFrame o → h.get? b = some o → h'.get? b = some o) → St h') (hDfp : D ∉ fp)
    (hdi : DictAt s'.heap di) (hdi0 : s₀.heap.get? di = none) (hdil : di ≠ cenv.locals) (hD0 : s₀.heap.get? D = none) (hDok : ¬ ok' D)
    (hKn : ∀ h h', Kn h → (∀ b o, b ≠ D → h.get? b = some o → h'.get? b = some o) → Kn h')
    (he : wpAny (model prog w) A (eval elt cenv) (fun v s₁ => Keeps (hid s' di) s₁ ∧ Rd ok' s₁.heap d v ∧ Kn s₁.heap) (fun _ _ => False) s') :
    wpAny (model prog w) A (eval elt cenv >>= fun x => call (.builtin "list.append") [.ref D, x] >>= fun _ => pure ()) (fun _ s'' => LI s₀ N cenv ok' ρ' D hB (ds ++ [d]) s'' ∧ St s''.heap ∧ Kn s''.heap) (fun _ _ => False) s' := by
  have L1 := L.hid hdi hdi0 hdil
  refine wpAny_bind (wpAny_mono he (fun y s₁ hy => ?_) fun _ _ y => y)
  obtain ⟨k₁, hv, hk⟩ := hy
  refine wpAny_bind ?_
  have L2 := L1.kp k₁
  obtain ⟨vs, hp, hr⟩ := L2.acc
  have hz := rdAll_size hr
  rw [List.length_append] at hds
  simp only [List.length_cons, List.length_nil] at hds
  refine wpAny_list_append_plain (hsz := by rw [sizeLine_eq, hz]; omega) hp fun h' hp' hs' => wpAny_pure ⟨?_, ?_, ?_⟩
  · have hkk : ∀ b o, b ∉ [D] → s₁.heap.get? b = some o → h'.get? b = some o := fun b o hb e => hs'.extBut b o (by simpa using hb) e
    have hw0 : ∀ b ∈ [D], s₀.heap.get? b = none := fun b hb => by
      have : b = D := by simpa using hb
      subst this; exact hD0
    have hwok : ∀ b ∈ [D], ¬ ok' b := fun b hb => by
      have : b = D := by simpa using hb
      subst this; exact hDok
    refine ⟨L2.F.but (tk := s₁.toks) [D] hw0 hwok (fun b hb o ho => ?_) hkk, ⟨_, hp', ?_⟩, L2.mv.trans (mv_but hwok hkk)⟩
    · have : b = D := by simpa using hb
      subst this
      obtain ⟨n, e⟩ := hp
      rw [e] at ho; cases ho; exact nf_seq rfl
    · rw [Array.toList_push]
      exact RdAll.append (RdAll.mv (mv_but hwok hkk) (fun _ _ z _ => z) _ _ hr) (.one (Rd.mv (mv_but hwok hkk) (fun _ _ z _ => z) _ _ hv))
  · refine hSt _ _ hst fun b hb o nf e => ?_
    have hbd : b ≠ di := fun e' => by
      subst e'
      obtain ⟨o', es, n, e2, h2⟩ := hdi
      rw [e] at e2; cases e2; exact nf.1 _ _ h2
    exact hs'.extBut b o (fun e' => hDfp (e' ▸ hb)) (Kp.get k₁ b o (hid_get e hbd))
  · exact hKn _ _ hk fun b o hb e => hs'.extBut b o hb e

/-! ## a method of an object -/
theorem wpAny_instCall {prog : Program} {w : World} {A : Around} {E : Value → Shared → Prop} {s : Shared} {env : Env} {o e : Expr} {rest : List Expr} {name : Str} {apos pos : Pos} {x Ca N f : Addr} {of : Obj} {fd : FuncData} {mN mA : Str → Option Value} {Q : Value → Shared → Prop}
    (hbase : attributeBase o name env (eval o env) = eval o env)
    (hfew : ((backTo pos (starEach (e :: rest) env)).all (fun x => !x.1) && (backToKw pos (keywordEach [] env)).all (fun x => x.1.isSome)
      && decide ((e :: rest).length + ([] : List Keyword).length + (if ([] : List Keyword).isEmpty then 0 else 1) < 30)) = true)
    (hline : (apos.endLine == pos.line) = true) (hlk : typeLookup (.type "object") name = pure none) (he : starEach (e :: rest) env = (false, eval e env) :: starEach rest env)
    (h : wpAny (model prog w) A (eval o env) (fun v s₁ => v = .ref x ∧ Cls s₁.heap Ca N mN ∧ s₁.heap.Inst x Ca mA ∧ mN name = some (.ref f) ∧ mA name = none ∧ s₁.heap.get? f = some of ∧ of.cls = .type "function" ∧ of.data = .func fd ∧
      wpAny (model prog w) A (spliced (backTo pos (starEach (e :: rest) env))) (fun vs s₂ => (∀ b o, s₁.heap.get? b = some o → s₂.heap.get? b = some o) ∧ wpAny (model prog w) A (call (.ref f) (.ref x :: vs)) Q E s₂) E s₁) E s) :
    wpAny (model prog w) A (eval (.Call (.Attribute o name apos) (e :: rest) [] pos) env) Q E s := by
  rw [arm_eval_Call, hbase]
  refine wpAny_bind (wpAny_mono h (fun ov s₁ h₁ => ?_) fun _ _ e => e)
  obtain ⟨rfl, K, I, hf, hsh, hof, hfc, hfd, hc⟩ := h₁
  refine wpAny_bind (wpAny_standAt ?_)
  have hform : methodCallForm ((e :: rest).length + ([] : List Keyword).length) (backTo pos (starEach (e :: rest) env)) (backToKw pos (keywordEach [] env)) = true := hfew
  have hpos : methodCallPos true o env apos pos = pure pos := by unfold methodCallPos; simp [hline]
  unfold methodCall
  rw [hform]
  refine wpAny_bind (wpAny_holding ?_)
  unfold calleeOf
  rw [if_pos rfl]
  obtain ⟨hh, g, d, t, os⟩ := s₁
  obtain ⟨nm, q, bs, sn, sub, col, dd, k0, k1, k2, k3, k5, hC⟩ := K.at_.obj
  refine method_of hC K.at_.ns K.ga K.gh hf hof hfc hlk I hsh ?_
  refine wpAny_bind (wpAny_of_eq hpos ?_)
  exact callWith_meth (h₀ := hh) hfd hof hc he
theorem lk_names : typeLookup (.type "object") "names" = pure none := by rw [typeLookup_type, builtinLookup_eq_fast]; kernel_rfl
theorem rdNs_names {am ld di : Addr} : rdNs am ld di "names" = none := by unfold rdNs; rw [if_neg (by decide), if_neg (by decide), if_neg (by decide)]

/-- what is known of the method -/
structure NmC (h : Heap) (Ca N fa : Addr) (mN : Str → Option Value) (pm cd doc : Value) : Prop where
  cls : Cls h Ca N mN
  name : mN "names" = some (.ref fa)
  fn : FnIs h fa (methFn 1 "_Ignore.names" pm cd doc .none)
  fnc : ∃ o, h.get? fa = some o ∧ o.cls = .type "function"
theorem NmC.kp {s s' : Shared} {Ca N fa : Addr} {mN : Str → Option Value} {pm cd doc : Value} (O : NmC s.heap Ca N fa mN pm cd doc) (k : Keeps s s') : NmC s'.heap Ca N fa mN pm cd doc :=
  ⟨O.cls.keeps (Kp.get k), O.name, O.fn.kp k, O.fnc.elim fun o y => ⟨o, Kp.get k _ _ y.1, y.2⟩⟩

/-- reader.names(e1, e2) -/
theorem names_ev {C : Cx} (hC : C.Ok) {k : Nat} {rd : Str} {x dx am ld di Ca N fa : Addr} {mN : Str → Option Value} {pm cd doc : Value} {xs dirs : List Str} {n m : Nat} {M : Str → Option Int} {mod : Str} {file : Option Str}
    (G : Gl C.prog C.mg C.mb (k + 1) C.A (hid C.s di)) (hsep : ∃ t, C.mg "sep" = some (.str "/" t)) (hrd : C.ρ.lookup rd = some (.val (.ref x))) (hrd' : (rd == ("__debug__" : Str)) = false) (O : NmC C.s.heap Ca N fa mN pm cd doc)
    (R : RdS C.prog C.w Ca C.s.heap x dx am ld di (inS xs) n dirs) (hM : Memo C.prog C.w C.s.heap di M m) (hn : n ≠ 1) (hm : m ≤ 1000) (hdi : (di == sysModules) = false) (hmod : mod.length ≤ 1000) (hxs : ∀ y ∈ xs, y.length ≤ 1000) (hds : ∀ y ∈ dirs, y.length ≤ 1000) (hdl : dirs.length ≤ 1000)
    {e1 e2 : Expr} {p ap pos : Pos} (ha : EvL C pos [e1, e2] [fileD file, .str mod])
    (hbase : attributeBase (.Name rd p) "names" C.env (eval (.Name rd p) C.env) = eval (.Name rd p) C.env := by rfl)
    (hfew : ((backTo pos (starEach [e1, e2] C.env)).all (fun x => !x.1) && (backToKw pos (keywordEach [] C.env)).all (fun x => x.1.isSome)
      && decide ([e1, e2].length + ([] : List Keyword).length + (if ([] : List Keyword).isEmpty then 0 else 1) < 30)) = true := by rfl)
    (hline : (ap.endLine == pos.line) = true := by rfl) (he : starEach [e1, e2] C.env = (false, eval e1 C.env) :: starEach [e2] C.env := by rfl) :
    wpAny (model C.prog C.w) C.A (eval (.Call (.Attribute (.Name rd p) "names" ap) [e1, e2] [] pos) C.env) (fun v s₁ => Keeps (hid C.s di) s₁ ∧ Memo C.prog C.w s₁.heap di (upd M mod (namesAns xs dirs file M mod)) (m + 1) ∧ ∃ t, v = .int (namesAns xs dirs file M mod) t) (fun _ _ => False) C.s := by
  obtain ⟨of, hof, hofc⟩ := O.fnc
  obtain ⟨of', hof', hofd⟩ := O.fn.obj
  rw [hof] at hof'; cases hof'
  refine wpAny_instCall (x := x) (Ca := Ca) (N := N) (f := fa) (mN := mN) (mA := rdNs am ld di) (of := of) (fd := methFn 1 "_Ignore.names" pm cd doc .none) hbase hfew hline lk_names he (Ev.two (Ev.nameV hC hrd hrd') (Kp.refl _) fun v s₁ k₁ hv => ?_)
  subst hv
  refine ⟨rfl, O.cls.keeps (Kp.get k₁), (R.keeps (Kp.get k₁)).inst, O.name, rdNs_names, Kp.get k₁ _ _ hof, hofc, hofd, wpAny_mono (ha s₁ k₁) (fun vs s₂ y => ?_) fun _ _ y => y⟩
  obtain ⟨k₂, hvs⟩ := y
  obtain ⟨vf, vm, rfl, hf, hm'⟩ := hvs.two_
  obtain ⟨tm, rfl⟩ := Rd_str.mp hm'
  have k02 := Kp.trans k₁ k₂
  refine ⟨fun b o e => Kp.get k₂ b o e, ?_⟩
  refine wpAny_mono (names_ok (k := k) (G.kp (hid_mono k02 di)) (O.fn.kp k02) hsep (O.cls.keeps (Kp.get k02)) (R.keeps (Kp.get k02)) (hM.at (Kp.get k02 _)) hn hm hdi hmod hxs hds hdl (file := file) (Rd.mv (.refl _ _) (fun _ _ _ _ => trivial) _ _ hf)) (fun v s₃ y => ⟨Kp.trans (hid_mono k02 di) y.1, y.2⟩) fun _ _ y => y

theorem RdS.ne {prog : Program} {w : World} {Ca : Addr} {h : Heap} {x dx am ld di : Addr} {mods : Str → Bool} {n : Nat} {dirs : List Str} {M : Str → Option Int} {m : Nat} {d : Addr} (R : RdS prog w Ca h x dx am ld di mods n dirs) (hM : Memo prog w h d M m) (hdx : d ≠ dx) : ∀ b, b = x ∨ b = dx ∨ b = am ∨ b = ld → b ≠ d := by
  obtain ⟨kvs, ⟨o, es, ep, ho, ⟨hc, hd, _⟩, hdata, _⟩, _⟩ := hM
  intro b hb e
  subst e
  rcases hb with rfl | rfl | rfl | rfl
  · obtain ⟨o', e', _, _, h4⟩ := R.obj
    rw [ho] at e'; cases e'; rw [hd] at h4; cases h4
  · exact hdx rfl
  · obtain ⟨o', es', ep', t, e', _, h3, _⟩ := R.set
    rw [ho] at e'; cases e'; rw [hdata] at h3; cases h3
  · obtain ⟨a, vs, e1, _, ⟨o', e', _, n', h3⟩, _⟩ := Rd_list.mp R.list
    cases e1
    rw [ho] at e'; cases e'; rw [hdata] at h3; cases h3

theorem mod_len {r : List Str} (h : RowIs r) : (modOf r).length ≤ 1000 := Nat.le_trans (row_facts h).2.2.2 (by decide)

set_option maxHeartbeats 2000000 in
/-- [reader.names(.., module) for path, module in asks] -/
theorem asks_ok {Ci : Cx} {k : Nat} {x dx am ld di Ca N fa : Addr} (hC : ({ Ci with s := hid Ci.s di } : Cx).Ok) {mN : Str → Option Value} {pm cd doc : Value} {xs dirs : List Str} {n m : Nat} {M₀ : Str → Option Int} {l : List (List Str)} {pick : List Str → Option Str} {f : List Str → Int} {I : Nat → (Str → Option Int) → Prop}
    (G : Gl Ci.prog Ci.mg Ci.mb (k + 1) Ci.A (hid Ci.s di)) (hsep : ∃ t, Ci.mg "sep" = some (.str "/" t)) (O : NmC (hid Ci.s di).heap Ca N fa mN pm cd doc)
    (hasks : Ci.ρ.lookup ("asks" : Str) = some (.dat (.list (l.map askD))))
    (R : RdS Ci.prog Ci.w Ca Ci.s.heap x dx am ld di (inS xs) n dirs) (hM : Memo Ci.prog Ci.w Ci.s.heap di M₀ m) (hn : n ≠ 1) (hm : m + l.length ≤ 1000) (hdi : (di == sysModules) = false) (hddx : di ≠ dx) (hxs : ∀ y ∈ xs, y.length ≤ 1000) (hdsl : ∀ y ∈ dirs, y.length ≤ 1000) (hdl : dirs.length ≤ 1000)
    (hal : ∀ b, b = x ∨ b = dx ∨ b = am ∨ b = ld ∨ b = di → Ci.s.heap.get? b ≠ none ∧ ¬ frA Ci.env b) (hl : ∀ r ∈ l, RowIs r) (hll : l.length ≤ 1000)
    (hI0 : I 0 M₀) (hstep : ∀ i r M, l[i]? = some r → I i M → namesAns xs dirs (pick r) M (modOf r) = f r ∧ I (i + 1) (upd M (modOf r) (f r)))
    {e1 : Expr} {p1 p2 p3 p4 p5 p6 p7 p8 : Pos} {pos : Pos} {j : Nat} {scope : Scope} (hs : scopeOk scope Ci.ρ Ci.env.kindOf ["module", "path"] = true) (hrd : (freeOf scope Ci.ρ).lookup ("reader" : Str) = some (.val (.ref x)))
    (he1 : (∃ q, e1 = .Name "path" q ∧ ∀ r, pick r = some (fileOf r)) ∨ (∃ kk q, e1 = .Constant .none kk q ∧ ∀ r, pick r = none))
    (hline : (p2.endLine == p3.line) = true := by rfl) :
    wpAny (model Ci.prog Ci.w) Ci.A (eval (.ListComp (.Call (.Attribute (.Name "reader" p1) "names" p2) [e1, .Name "module" p4] [] p3) [⟨.Tuple [.Name "path" p5, .Name "module" p6] j p7, .Name "asks" p8, [], 0⟩] scope pos) Ci.env)
      (fun v s₁ => Keeps (hid Ci.s di) s₁ ∧ Rd Ci.ok s₁.heap (.list (l.map fun r => .int (f r))) v ∧ ∃ M, Memo Ci.prog Ci.w s₁.heap di M (m + l.length) ∧ I l.length M) (fun _ _ => False) Ci.s := by
  have hdal := hal di (by simp)
  rw [eval_ListComp]
  refine comp_runK (C := { Ci with s := hid Ci.s di }) hC (scopeIs_of hs) (P := fun _ h v => Rd Ci.ok h (.list (l.map askD)) v) (fun s k' => Ev.nameD (hC.at k') hasks) (Iters.list hC) (fun r => [("module", .dat (.str (modOf r))), ("path", .dat (.str (fileOf r)))]) (fun x _ => .pair) (fun x _ => rfl)
    (emit := fun acc env => eval (.Call (.Attribute (.Name "reader" p1) "names" p2) [e1, .Name "module" p4] [] p3) env >>= fun x => call (.builtin "list.append") [acc, x] >>= fun _ => pure ()) (fun it acc env => compTurn_one ..) (fun _ => true) (fun r => [.int (f r)])
    (by rw [List.filter_eq_self.mpr (fun _ _ => rfl), flat_one, List.length_map]; omega) (Kp.refl _) (hid_kp Ci.s di) (fun x _ cenv ok' s' _ _ _ => .nil)
    (K := fun i h => ∃ M, RdS Ci.prog Ci.w Ca h x dx am ld di (inS xs) n dirs ∧ Memo Ci.prog Ci.w h di M (m + i) ∧ I i M)
    (fun i h h' ⟨M, a1, a2, a3⟩ y => ⟨M, a1.at fun b hb o e => y b o (hal b (by rcases hb with h | h | h | h <;> simp [h])).1 (hal b (by rcases hb with h | h | h | h <;> simp [h])).2 e, a2.at fun o e => y di o hdal.1 hdal.2 e, a3⟩)
    (fun i x h _ e => nomatch e) ⟨M₀, R, hM, hI0⟩ ?_ (use := none) ?_
  · intro i r hr _ cenv D ok' hB fp St ds s' hsc hD hloc hfrA hDok hsub hDfp hlfp hfp hSt hfr hbase hds L st hK hCi
    obtain ⟨M, a1, a2, a3⟩ := hK
    have hrm := List.mem_of_getElem? hr
    have hrow := hl r hrm
    have hi : i < l.length := (List.getElem?_eq_some_iff.mp hr).1
    obtain ⟨q1, q2⟩ := hstep i r M hr a3
    have hdD : di ≠ D := fun e => hdal.1 (e ▸ hD)
    have hdl' : di ≠ cenv.locals := fun e => hdal.1 (e ▸ hloc)
    have ha : ∀ {p : Pos}, EvL (({ Ci with s := hid Ci.s di } : Cx).inner cenv ok' s' (([("module", .dat (.str (modOf r))), ("path", .dat (.str (fileOf r)))] : List (Str × Sp)) ++ freeOf scope Ci.ρ)) p [e1, .Name "module" p4] [fileD (pick r), .str (modOf r)] := fun {p} => by
      rcases he1 with ⟨q, rfl, hp⟩ | ⟨kk, q, rfl, hp⟩
      · rw [hp r]
        exact EvL.cons (Ev.nameD hCi rfl) (EvL.cons (Ev.nameD hCi rfl) EvL.nil)
      · rw [hp r]
        exact EvL.cons Ev.cNone (EvL.cons (Ev.nameD hCi rfl) EvL.nil)
    have key := names_ev hCi (k := k) (rd := "reader") (G.kp (kp_hid L.F.keeps (hid_none _ _))) hsep (show _ = _ from hrd) (by decide) (O.kp L.F.keeps) a1 a2 hn (by omega) hdi (mod_len hrow) hxs hdsl hdl (p := p1) (ap := p2) (pos := p3) ha rfl (by rcases he1 with ⟨q, rfl, hp⟩ | ⟨kk, q, rfl, hp⟩ <;> rfl) hline (by rcases he1 with ⟨q, rfl, hp⟩ | ⟨kk, q, rfl, hp⟩ <;> rfl)
    rw [q1] at key
    refine emitE (d := .int (f r)) (Kn := fun h => ∃ M, RdS Ci.prog Ci.w Ca h x dx am ld di (inS xs) n dirs ∧ Memo Ci.prog Ci.w h di M (m + (i + 1)) ∧ I (i + 1) M) L hds st hSt hDfp a2.dictAt (hid_none _ _) hdl' (Kp.none (hid_kp _ _) hD) hDok ?_ (wpAny_mono key (fun v s₁ y => ?_) fun _ _ y => y)
    · intro h h' ⟨M, b1, b2, b3⟩ y
      exact ⟨M, b1.at fun b hb o e => y b o (fun e' => (hal b (by rcases hb with h | h | h | h <;> simp [h])).1 (e' ▸ hD)) e, b2.at fun o e => y di o hdD e, b3⟩
    · obtain ⟨k₁, m₁, t, rfl⟩ := y
      exact ⟨k₁, Rd_int.mpr ⟨_, rfl⟩, _, a1.at fun b hb o e => Kp.get k₁ b o (hid_get e (a1.ne a2 hddx b hb)), m₁, q2⟩
  · intro D L' s' k' hn' hL hr hK
    obtain ⟨M, a1, a2, a3⟩ := hK
    obtain ⟨m', hn'⟩ := hn'
    rw [List.filter_eq_self.mpr (fun _ _ => rfl), flat_one] at hr
    have hL' : (hid Ci.s di).heap.get? L' = none := Kp.none (hid_kp _ _) hL
    refine ⟨m', hn', fun h' hs' => ⟨?_, Rd.mv (Mv.sameBut hs' fun o e => ?_) (fun _ _ z _ => z) _ _ hr, M, a2.at fun o e => (hs'.2 di (fun e' => hdal.1 (e' ▸ hL))).trans e, a3⟩⟩
    · exact ⟨fun b o e => (hs'.2 b (ne_of_get e hL')).trans (k'.get b o e), k'.gens, k'.os⟩
    · obtain ⟨o', es, ep, e', d', _⟩ := hn'
      rw [e] at e'; cases e'; exact .inl ⟨_, _, d'⟩
theorem Src.map {α β : Type} {prog : Program} {w : World} {A : Around} {target : Expr} {I : Addr} {fp wr : List Addr} {ok : Addr → Prop} {hB : Heap} {l : List α} {g : α → β} {sp : β → Sp} {St : Nat → Heap → Prop} (S : Src prog w A target I fp wr ok hB (l.map g) sp St) : Src prog w A target I fp wr ok hB l (fun x => sp (g x)) St where
  sub := S.sub
  live := S.live
  plain := S.plain
  frame := S.frame
  next := fun i x s Q E hx => S.next i (g x) s Q E (by rw [List.getElem?_map, hx]; rfl)
  done := fun s Q E h => S.done s Q E (by rw [List.length_map]; exact h)
  self := S.self
theorem Iters.map {α β : Type} {C : Cx} {target : Expr} {P : Heap → Heap → Value → Prop} {l : List α} {g : α → β} {sp : β → Sp} (h : Iters C target P (l.map g) sp) : Iters C target P l (fun x => sp (g x)) := fun s₀ s v k₀ k hv =>
  wpAny_mono (h s₀ s v k₀ k hv) (fun it s₂ ⟨I, fp, wr, St, e, h1, h2, h3, h4, h5, h6⟩ => ⟨I, fp, wr, St, e, h1, h2, h3, h4, h5, fun ok' a b => (h6 ok' a b).map⟩) fun _ _ y => y

theorem Memo.le {prog : Program} {w : World} {h : Heap} {d : Addr} {M : Str → Option Int} {n m : Nat} (x : Memo prog w h d M n) (hm : n ≤ m) : Memo prog w h d M m := x.elim fun kvs y => ⟨kvs, y.1, Nat.le_trans y.2.1 hm, y.2.2⟩
theorem Rdrs.set {prog : Program} {w : World} {Ca : Addr} {h h' : Heap} {P : Addr → Prop} {hs : List (List Str)} {M : Nat → Str → Option Int} {ms : Nat} {rs : List Rdr} (R : Rdrs prog w Ca h P hs M ms rs) {j₀ : Nat} {r₀ : Rdr} (hr : rs[j₀]? = some r₀) {M' : Str → Option Int}
    (k : ∀ b o, b ≠ r₀.di → h.get? b = some o → h'.get? b = some o) (hM : Memo prog w h' r₀.di M' ms) : Rdrs prog w Ca h' P hs (fun j => if j = j₀ then M' else M j) ms rs := by
  refine ⟨fun j r e => ?_, R.at_, R.apart, R.own⟩
  obtain ⟨a1, a2, a3⟩ := R.each j r e
  obtain ⟨_, _, m0⟩ := R.each j₀ r₀ hr
  refine ⟨a1.at fun b hb o => k b o (a1.ne m0 (R.apart _ (List.mem_of_getElem? hr) _ (List.mem_of_getElem? e)) b hb), a2, ?_⟩
  by_cases hj : j = j₀
  · subst hj
    rw [hr] at e; cases e
    simp only [if_true]
    exact hM
  · simp only [hj, if_false]
    exact a3.at fun o => k _ o (R.own j j₀ r r₀ e hr hj)
theorem Rdrs.le {prog : Program} {w : World} {Ca : Addr} {h : Heap} {P : Addr → Prop} {hs : List (List Str)} {M : Nat → Str → Option Int} {m m' : Nat} {rs : List Rdr} (R : Rdrs prog w Ca h P hs M m rs) (hm : m ≤ m') : Rdrs prog w Ca h P hs M m' rs :=
  ⟨fun j r e => ⟨(R.each j r e).1, (R.each j r e).2.1, (R.each j r e).2.2.le hm⟩, R.at_, R.apart, R.own⟩
theorem Rdrs.nodup {prog : Program} {w : World} {Ca : Addr} {h : Heap} {P : Addr → Prop} {hs : List (List Str)} {M : Nat → Str → Option Int} {m : Nat} {rs : List Rdr} (R : Rdrs prog w Ca h P hs M m rs) : (rs.map (·.di)).Nodup := by
  rw [List.nodup_iff_pairwise_ne, List.pairwise_iff_getElem]
  intro i j hi hj hij
  rw [List.length_map] at hi hj
  rw [List.getElem_map, List.getElem_map]
  exact R.own i j _ _ (List.getElem?_eq_getElem hi) (List.getElem?_eq_getElem hj) (by omega)

/-- what a turn of the outer comprehension knows -/
structure Turn (X : Fx) (Ca : Addr) (xs dirs : List Str) (scope : Scope) (ρ : List (Str × Sp)) (cenv : Env) (ok' : Addr → Prop) (s' : Shared) (r : Rdr) (M : Str → Option Int) (m : Nat) : Prop where
  cx : ({ X.cx s' (("reader", .val (.ref r.x)) :: freeOf scope ρ) with env := cenv, ok := ok' } : Cx).Ok
  cxh : ({ X.cx (hid s' r.di) (("reader", .val (.ref r.x)) :: freeOf scope ρ) with env := cenv, ok := ok' } : Cx).Ok
  scope : cenv.scope = relabel scope X.env
  keeps : Keeps X.s₀ (hid s' r.di)
  rd : RdS X.prog X.w Ca s'.heap r.x r.dx r.am r.ld r.di (inS xs) r.n dirs
  n1 : r.n ≠ 1
  memo : Memo X.prog X.w s'.heap r.di M m
  ddx : r.di ≠ r.dx
  al : ∀ b, b = r.x ∨ b = r.dx ∨ b = r.am ∨ b = r.ld ∨ b = r.di → s'.heap.get? b ≠ none ∧ ¬ frA cenv b
  new : X.s₀.heap.get? r.di = none

theorem zipIdx_at {α : Type} {l : List α} {i : Nat} {x : α × Nat} (h : l.zipIdx[i]? = some x) : l[i]? = some x.1 ∧ x.2 = i := by
  rw [List.getElem?_zipIdx] at h
  cases e : l[i]? with
  | none => rw [e] at h; cases h
  | some y => rw [e] at h; cases h; exact ⟨rfl, by simp⟩
theorem Rdrs.live {prog : Program} {w : World} {Ca : Addr} {h : Heap} {P : Addr → Prop} {hs : List (List Str)} {M : Nat → Str → Option Int} {m : Nat} {rs : List Rdr} (R : Rdrs prog w Ca h P hs M m rs) {r : Rdr} (hr : r ∈ rs) : ∀ b, b = r.x ∨ b = r.dx ∨ b = r.am ∨ b = r.ld ∨ b = r.di → h.get? b ≠ none ∧ P b := by
  have R' := R.mv (h' := h) (P' := fun b => P b ∧ h.get? b ≠ none) (fun b o _ e => e) (fun b o p e => ⟨p, by rw [e]; exact fun y => nomatch y⟩)
  obtain ⟨a1, a2, a3, a4, a5⟩ := R'.at_ r hr
  intro b hb
  rcases hb with rfl | rfl | rfl | rfl | rfl
  · exact ⟨a1.2, a1.1⟩
  · exact ⟨a2.2, a2.1⟩
  · exact ⟨a3.2, a3.1⟩
  · exact ⟨a4.2, a4.1⟩
  · exact ⟨a5.2, a5.1⟩

set_option maxHeartbeats 2000000 in
/-- [elt for reader in readers] -/
theorem outer_ok {X : Fx} (hX : X.Gd) (okA : ∀ a, X.ok a) {Ca D : Addr} {hs : List (List Str)} {rs : List Rdr} {hB : Heap} {ρ : List (Str × Sp)} {s : Shared} (f : FS X hB ρ s) {M : Nat → Str → Option Int} {m m' : Nat} (hmm : m ≤ m')
    (R : Rdrs X.prog X.w Ca s.heap (fun b => ¬ frA X.env b ∧ X.s₀.heap.get? b = none) hs M m rs) (hrs : rs.length ≤ 1000) (hrd : ρ.lookup ("readers" : Str) = some (.val (.ref D))) (hD : s.heap.IsList D (rs.map fun r : Rdr => Value.ref r.x).toArray)
    {elt : Expr} {p1 p2 pos : Pos} {scope : Scope} (hsc : scopeOk scope ρ X.env.kindOf ["reader"] = true) (hback : (freeOf scope ρ).lookup ("reader" : Str) = none)
    {I J : Nat → (Str → Option Int) → Prop} (hI : ∀ i r, rs[i]? = some r → I i (M i)) (out : Nat → PyData)
    (helt : ∀ i r, rs[i]? = some r → ∀ cenv ok' s' Mr, Turn X Ca (xsOf hs i) (dsOf hs i) scope ρ cenv ok' s' r Mr m → I i Mr →
      wpAny (model X.prog X.w) X.A (eval elt cenv) (fun v s₁ => Keeps (hid s' r.di) s₁ ∧ Rd ok' s₁.heap (out i) v ∧ ∃ M', Memo X.prog X.w s₁.heap r.di M' m' ∧ J i M') (fun _ _ => False) s')
    {use : Option (Value → Sem Unit)} {Q : Value → Shared → Prop}
    (hfin : ∀ D' L' s', FS X hB ρ s' → Keeps (hidL s (rs.map (·.di))) s' → (∃ m, s'.heap.Ns L' m) → s.heap.get? L' = none → Rd X.ok s'.heap (.list ((List.range rs.length).map out)) (.ref D') →
      (∃ M', Rdrs X.prog X.w Ca s'.heap (fun b => ¬ frA X.env b ∧ X.s₀.heap.get? b = none ∧ s.heap.get? b ≠ none) hs M' m' rs ∧ ∀ i r, rs[i]? = some r → J i (M' i)) → compPost (model X.prog X.w) X.A (fun _ _ => False) use Q (.ref D') L' (.ok .next) s') :
    wpAny (model X.prog X.w) X.A (comprehension (.ListComp elt [⟨.Name "reader" p1, .Name "readers" p2, [], 0⟩] scope pos) scope X.env (Expr.pos (.Name "readers" p2)) (newList []) false (eval (.Name "readers" p2) X.env) use) Q (fun _ _ => False) s := by
  have hdi : ∀ d ∈ rs.map (·.di), DictAt s.heap d ∧ X.s₀.heap.get? d = none ∧ d ≠ X.env.locals := fun d hd => by
    obtain ⟨r, hr, rfl⟩ := List.mem_map.mp hd
    obtain ⟨j, hj⟩ := List.getElem?_of_mem hr
    exact ⟨(R.each j r hj).2.2.dictAt, (R.at_ r hr).2.2.2.2.2, fun e => (R.at_ r hr).2.2.2.2.1 (.inl e)⟩
  have fh := FS.hidL okA f R.nodup hdi
  generalize hds : rs.map (·.di) = dis at hdi fh
  have hC := fh.cx hX
  have R₀ : Rdrs X.prog X.w Ca s.heap (fun b => ¬ frA X.env b ∧ X.s₀.heap.get? b = none ∧ s.heap.get? b ≠ none) hs M m' rs := (R.mv (fun b o _ e => e) fun b o p e => ⟨p.1, p.2, by rw [e]; exact fun y => nomatch y⟩).le hmm
  have hDh : (hidL s dis).heap.IsList D (rs.map fun r : Rdr => Value.ref r.x).toArray := by
    obtain ⟨o, e1, e2, n, e3⟩ := hD
    refine ⟨o, hidL_get e1 fun hm => ?_, e2, n, e3⟩
    obtain ⟨⟨o', es, n', e', h'⟩, _⟩ := hdi D hm
    rw [e1] at e'; cases e'; rw [e3] at h'; cases h'
  have hzl : rs.zipIdx.length = rs.length := by rw [List.length_zipIdx]
  refine comp_runK (C := X.cx (hidL s dis) ρ) hC (scopeIs_of hsc) (α := Rdr × Nat) (l := rs.zipIdx) (sp := fun x => .val (.ref x.1.x)) (P := fun _ h v => ListOf X.ok (rs.zipIdx.map fun x : Rdr × Nat => Value.ref x.1.x) h v) (fun s' k' => ?_) (Iters.map (Iters.vals hC)) (fun x => [("reader", .val (.ref x.1.x))]) (fun x _ => .name) (fun x _ => rfl)
    (emit := fun acc env => eval elt env >>= fun x => call (.builtin "list.append") [acc, x] >>= fun _ => pure ()) (fun it acc env => compTurn_one ..) (fun _ => true) (fun x => [out x.2])
    (by rw [List.filter_eq_self.mpr (fun _ _ => rfl), flat_one, List.length_map]; omega) (Kp.refl _) (hidL_kp dis s) (fun x _ cenv ok' s' _ _ _ => .nil)
    (K := fun i h => ∃ M', Rdrs X.prog X.w Ca h (fun b => ¬ frA X.env b ∧ X.s₀.heap.get? b = none ∧ s.heap.get? b ≠ none) hs M' m' rs ∧ (∀ j r, rs[j]? = some r → j < i → J j (M' j)) ∧ ∀ j r, rs[j]? = some r → i ≤ j → I j (M' j) ∧ Memo X.prog X.w h r.di (M' j) m)
    (fun i h h' ⟨M', a1, a2, a3⟩ y => ⟨M', a1.mv (fun b o p e => y b o p.2.2 p.1 e) fun b o p _ => p, a2, fun j r hj hi => ⟨(a3 j r hj hi).1, (a3 j r hj hi).2.at fun o e => y r.di o (a1.at_ r (List.mem_of_getElem? hj)).2.2.2.2.2.2 (a1.at_ r (List.mem_of_getElem? hj)).2.2.2.2.1 e⟩⟩)
    (fun i x h _ e => nomatch e) ⟨M, R₀, fun j r _ h => (Nat.not_lt_zero _ h).elim, fun j r hj _ => ⟨hI j r hj, (R.each j r hj).2.2⟩⟩ ?_ (use := use) ?_
  · have hm : (rs.zipIdx.map fun x : Rdr × Nat => Value.ref x.1.x) = rs.map fun r : Rdr => Value.ref r.x := by
      rw [← List.zipIdx_map_fst 0 rs, List.map_map]
      simp [Function.comp_def]
    rw [hm]
    refine Ev.mono (Ev.ofVal (Ev.nameV (hC.at k') hrd) (P := fun h v => ListOf X.ok (rs.map fun r : Rdr => Value.ref r.x) h v) fun s'' k'' => ⟨D, rfl, okA D, ?_⟩) fun h v x => x
    obtain ⟨o, e1, e2⟩ := hDh
    exact ⟨o, Kp.get (Kp.trans k' k'') _ _ e1, e2⟩
  · intro i x hx _ cenv D' ok' hB' fp St ds s' hsce hD' hloc hfrA hDok hsub hDfp hlfp hfp hSt hfr hbase hlen L st hK hCi
    obtain ⟨hr, hxi⟩ := zipIdx_at hx
    obtain ⟨r, j⟩ := x
    dsimp only at hr hxi
    subst hxi
    obtain ⟨M', a1, a2, a3⟩ := hK
    have hrm := List.mem_of_getElem? hr
    obtain ⟨b1, b2, b3⟩ := a1.each _ r hr
    obtain ⟨c1, c2⟩ := a3 _ r hr (Nat.le_refl _)
    have hal : ∀ b, b = r.x ∨ b = r.dx ∨ b = r.am ∨ b = r.ld ∨ b = r.di → s'.heap.get? b ≠ none ∧ ¬ frA cenv b := fun b hb => by
      obtain ⟨d1, d2⟩ := a1.live hrm b hb
      exact ⟨d1, hfrA b d2.2.2 d2.1⟩
    have hdm : r.di ∈ dis := by rw [← hds]; exact List.mem_map_of_mem hrm
    have hd0 : (hidL s dis).heap.get? r.di = none := hidL_none hdm
    have sal := (a1.at_ r hrm).2.2.2.2.2.2
    have hdD : r.di ≠ D' := fun e => sal (e ▸ hD')
    have hdl : r.di ≠ cenv.locals := fun e => sal (e ▸ hloc)
    have kh : Keeps (hidL s dis) (hid s' r.di) := kp_hid L.F.keeps hd0
    have Lh := L.hid c2.dictAt hd0 hdl
    have back : ∀ y sp, (freeOf scope ρ).lookup y = some sp → (([("reader", Sp.val (.ref r.x))] : List (Str × Sp)) ++ freeOf scope ρ).lookup y = some sp := fun y sp hy => by
      show List.lookup y (("reader", Sp.val (.ref r.x)) :: freeOf scope ρ) = _
      rw [List.lookup_cons]
      by_cases e : y = "reader"
      · rw [e, hback] at hy; cases hy
      · rw [show (y == "reader") = false from by simpa using e]; exact hy
    have okh : ∀ a, (hid s' r.di).heap.get? a = none → ok' a := hfr _ (Lh.F.sub back) (Lh.acc.elim fun vs a => ⟨vs, a.1⟩) (hSt _ _ st fun b hb o nf e => hid_get e fun e' => by
      subst e'
      obtain ⟨o', es, n, e2, h2⟩ := c2.dictAt
      rw [e] at e2; cases e2; exact nf.1 _ _ h2)
    have T : Turn X Ca (xsOf hs j) (dsOf hs j) scope ρ cenv ok' s' r (M' j) m := ⟨hCi, hbase _ _ _ Lh.F okh, hsce, Kp.trans fh.F.keeps kh, b1, b2, c2, R.apart r hrm r hrm, hal, (a1.at_ r hrm).2.2.2.2.2.1⟩
    refine emitE (d := out j) (Kn := fun h => ∃ M', Rdrs X.prog X.w Ca h (fun b => ¬ frA X.env b ∧ X.s₀.heap.get? b = none ∧ s.heap.get? b ≠ none) hs M' m' rs ∧ (∀ j' r, rs[j']? = some r → j' < j + 1 → J j' (M' j')) ∧ ∀ j' r, rs[j']? = some r → j + 1 ≤ j' → I j' (M' j') ∧ Memo X.prog X.w h r.di (M' j') m) L hlen st hSt hDfp c2.dictAt hd0 hdl (Kp.none (hidL_kp dis s) hD') hDok ?_ (wpAny_mono (helt j r hr cenv ok' s' _ T c1) (fun v s₁ y => ?_) fun _ _ y => y)
    · intro h h' ⟨M'', e1, e2, e3⟩ y
      have ne : ∀ b, s.heap.get? b ≠ none → b ≠ D' := fun b hb e => hb (e ▸ hD')
      exact ⟨M'', e1.mv (fun b o p e => y b o (ne b p.2.2) e) fun b o p _ => p, e2, fun j' r' hj hi => ⟨(e3 j' r' hj hi).1, (e3 j' r' hj hi).2.at fun o e => y _ o (ne _ (e1.at_ r' (List.mem_of_getElem? hj)).2.2.2.2.2.2) e⟩⟩
    · obtain ⟨k₁, hv, Mn, m₁, jn⟩ := y
      have kk : ∀ b o, b ≠ r.di → s'.heap.get? b = some o → s₁.heap.get? b = some o := fun b o hb e => Kp.get k₁ b o (hid_get e hb)
      refine ⟨k₁, hv, _, a1.set hr kk m₁, fun j' r' hj' hlt => ?_, fun j' r' hj' hge => ?_⟩
      · by_cases e : j' = j
        · simp only [e, if_true]; exact jn
        · simp only [e, if_false]; exact a2 j' r' hj' (by omega)
      · have e : j' ≠ j := by omega
        simp only [e, if_false]
        obtain ⟨z1, z2⟩ := a3 j' r' hj' (by omega)
        exact ⟨z1, z2.at fun o => kk _ o (a1.own j' j r' r hj' hr e)⟩
  · intro D' L' s' k' hn hL hr hK
    rw [List.filter_eq_self.mpr (fun _ _ => rfl), flat_one] at hr
    obtain ⟨M', a1, a2, a3⟩ := hK
    have e : (rs.zipIdx.map fun x : Rdr × Nat => out x.2) = (List.range rs.length).map out := by
      rw [List.range_eq_range', ← List.zipIdx_map_snd 0 rs, List.map_map]
      simp [Function.comp_def]
    rw [e] at hr
    subst hds
    refine hfin D' L' s' (fh.kp k') k' hn hL hr ⟨M', a1, fun i r hi => a2 i r hi ?_⟩
    rw [hzl]; exact (List.getElem?_eq_some_iff.mp hi).1
/-! ## facts of the rows -/
noncomputable def ansOf (head row : List Str) : Int := if row.take head.length == head then 1 else 0
noncomputable def askA (hs : List (List Str)) (j : Nat) (r : List Str) : Int := freshAns (xsOf hs j) (dsOf hs j) (some (fileOf r)) (modOf r)
theorem mod_inj {r r' : List Str} (h : RowIs r) (h' : RowIs r') (e : modOf r = modOf r') : r = r' := by
  have key : ∀ r ∈ allRows, ∀ r' ∈ allRows, modOf r = modOf r' → r = r' := by decide +kernel
  exact key r h r' h' e
theorem mod_z {r : List Str} (h : RowIs r) : modOf r ≠ "z" ∧ modOf r ≠ "<string>" := by
  have key : ∀ r ∈ allRows, modOf r ≠ "z" ∧ modOf r ≠ "<string>" := by decide +kernel
  exact key r h
theorem ask_row1 {h r : List Str} (hh : RowIs h) (hr : RowIs r) : freshAns ["z.z", modOf h] [] (some (fileOf r)) (modOf r) = ansOf h r := by
  have key : ∀ h ∈ allRows, ∀ r ∈ allRows, freshAns ["z.z", modOf h] [] (some (fileOf r)) (modOf r) = ansOf h r := by decide +kernel
  exact key h hh r hr
theorem ask_row2 {h r : List Str} (hh : RowIs h) (hr : RowIs r) : freshAns [] ["/z", "/" ++ Txt.join "/" h] (some (fileOf r)) (modOf r) = ansOf h r := by
  have key : ∀ h ∈ allRows, ∀ r ∈ allRows, freshAns [] ["/z", "/" ++ Txt.join "/" h] (some (fileOf r)) (modOf r) = ansOf h r := by decide +kernel
  exact key h hh r hr
theorem ask_row {h r : List Str} (hh : RowIs h) (hr : RowIs r) : freshAns ["z.z", modOf h] [] (some (fileOf r)) (modOf r) = ansOf h r ∧ freshAns [] ["/z", "/" ++ Txt.join "/" h] (some (fileOf r)) (modOf r) = ansOf h r := ⟨ask_row1 hh hr, ask_row2 hh hr⟩
theorem askA_eq {hs : List (List Str)} (hsr : ∀ r ∈ hs, RowIs r) {j : Nat} (hj : j < hs.length) {r : List Str} (hr : RowIs r) : askA hs j r = ansOf (hs[j]?.getD []) r := by
  have hh : RowIs (hs[j]?.getD []) := by rw [List.getElem?_eq_getElem hj]; exact hsr _ (List.getElem_mem hj)
  unfold askA xsOf dsOf
  split
  · exact (ask_row hh hr).1
  · exact (ask_row hh hr).2
theorem row_lay {r : List Str} (h : RowIs r) : (strsD r).canLay0 = true ∧ (strsD r).depth ≤ 100 := by
  have key : ∀ r ∈ allRows, (strsD r).canLay0 = true ∧ (strsD r).depth ≤ 100 := by decide +kernel
  exact key r h
theorem row_eqv {h r : List Str} (hh : RowIs h) (hr : RowIs r) : (if PyData.eqv (strsD (r.take h.length)) (strsD h) = true then (1 : Int) else 0) = ansOf h r := by
  have key : ∀ h ∈ allRows, ∀ r ∈ allRows, (if PyData.eqv (strsD (r.take h.length)) (strsD h) = true then (1 : Int) else 0) = ansOf h r := by decide +kernel
  exact key h hh r hr

/-! ## what a memo holds -/
structure MI (A : List Str → Int) (R S : List (List Str)) (M : Str → Option Int) : Prop where
  any : ∀ r ∈ R, M (modOf r) = none ∨ M (modOf r) = some (A r)
  said : ∀ r ∈ S, M (modOf r) = some (A r)
  z : M "z" = none
theorem MI.zero {A : List Str → Int} {R : List (List Str)} (hR : ∀ r ∈ R, RowIs r) : MI A R [] M0 :=
  ⟨fun r hr => .inl (by unfold M0; rw [if_neg (mod_z (hR r hr)).2]), fun r hr => (nomatch hr), by unfold M0; rw [if_neg (by decide)]⟩
theorem MI.step {xs ds : List Str} {A : List Str → Int} (hA : ∀ r, A r = freshAns xs ds (some (fileOf r)) (modOf r)) {R : List (List Str)} (hR : ∀ r ∈ R, RowIs r) {i : Nat} {r : List Str} {M : Str → Option Int} (hr : R[i]? = some r) (m : MI A R (R.take i) M) :
    namesAns xs ds (some (fileOf r)) M (modOf r) = A r ∧ MI A R (R.take (i + 1)) (upd M (modOf r) (A r)) := by
  have hm := List.mem_of_getElem? hr
  refine ⟨?_, ?_, ?_, ?_⟩
  · unfold namesAns
    rcases m.any r hm with e | e <;> rw [e]
    exact (hA r).symm
  · intro r' hr'
    unfold upd
    by_cases e : modOf r' = modOf r
    · have := mod_inj (hR r' hr') (hR r hm) e
      subst this
      rw [if_pos rfl]; exact .inr rfl
    · rw [if_neg e]; exact m.any r' hr'
  · intro r' hr'
    unfold upd
    by_cases e : modOf r' = modOf r
    · have h' : r' ∈ R := List.mem_of_mem_take hr'
      have := mod_inj (hR r' h') (hR r hm) e
      subst this
      rw [if_pos rfl]
    · rw [if_neg e]
      rw [List.take_add_one, hr] at hr'
      rcases List.mem_append.mp hr' with h | h
      · exact m.said r' h
      · have : r' = r := by simpa using h
        exact absurd (by rw [this]) e
  · unfold upd
    rw [if_neg fun e => (mod_z (hR r hm)).1 e.symm]; exact m.z
theorem MI.step2 {xs ds : List Str} {A : List Str → Int} {R : List (List Str)} {i : Nat} {r : List Str} {M : Str → Option Int} (hr : R[i]? = some r) (m : MI A R R M) :
    namesAns xs ds none M (modOf r) = A r ∧ MI A R R (upd M (modOf r) (A r)) := by
  have e := m.said r (List.mem_of_getElem? hr)
  refine ⟨by unfold namesAns; rw [e], ?_⟩
  rw [upd_same e]; exact m
theorem names_z {xs ds : List Str} {M : Str → Option Int} (h : M "z" = none) : namesAns xs ds none M "z" = 1 := by
  unfold namesAns freshAns
  rw [h]
  dsimp only
  split <;> rfl

/-! ## lists of lists of numbers -/
noncomputable def listI (l : List Int) : PyData := .list (l.map .int)
noncomputable def listII (l : List (List Int)) : PyData := .list (l.map listI)
theorem lay_ints : ∀ l : List Int, PyData.canLayAll0 (l.map .int) = true
  | [] => rfl
  | _ :: r => by simp [PyData.canLayAll0, PyData.canLay0, lay_ints r]
theorem ints_lay (l : List Int) : (listI l).canLay0 = true := by simp [listI, PyData.canLay0, lay_ints]
theorem dep_ints : ∀ l : List Int, PyData.depthAll (l.map .int) = 0
  | [] => rfl
  | _ :: r => by simp [PyData.depthAll, PyData.depth, dep_ints r]
theorem ints_dep (l : List Int) : (listI l).depth ≤ 1 := by simp [listI, PyData.depth, dep_ints]
theorem lay_intss : ∀ l : List (List Int), PyData.canLayAll0 (l.map listI) = true
  | [] => rfl
  | x :: r => by simp [PyData.canLayAll0, ints_lay, lay_intss r]
theorem intss_lay (l : List (List Int)) : (listII l).canLay0 = true := by simp [listII, PyData.canLay0, lay_intss]
theorem dep_intss : ∀ l : List (List Int), PyData.depthAll (l.map listI) ≤ 1
  | [] => by simp [PyData.depthAll]
  | x :: r => by
    have h1 := ints_dep x
    have h2 := dep_intss r
    simp only [List.map_cons, PyData.depthAll]
    omega
theorem intss_dep (l : List (List Int)) : (listII l).depth ≤ 100 := by
  have := dep_intss l
  simp only [listII, PyData.depth]
  omega
theorem ne_intss {C : Cx} (hC : C.Ok) {l : List (List Int)} : CmpOk C .NotEq (listII l) (listII l) false := by
  have := cmp_neD hC (intss_lay l) (intss_lay l) (intss_dep l)
  rwa [SeqAt.eqv_refl _ (intss_lay l)] at this
theorem xs_len {hs : List (List Str)} (hsr : ∀ r ∈ hs, RowIs r) {j : Nat} (hj : j < hs.length) : (∀ y ∈ xsOf hs j, y.length ≤ 1000) ∧ (∀ y ∈ dsOf hs j, y.length ≤ 1000) ∧ (dsOf hs j).length ≤ 1000 := by
  have hh : RowIs (hs[j]?.getD []) := by rw [List.getElem?_eq_getElem hj]; exact hsr _ (List.getElem_mem hj)
  obtain ⟨q1, q2, q3, q4⟩ := row_facts hh
  unfold xsOf dsOf modOf
  have e1 : ("/" ++ Txt.join "/" (hs[j]?.getD []) : Str).length = 1 + (Txt.join "/" (hs[j]?.getD [])).length := Str.length_append _ _
  refine ⟨fun y hy => ?_, fun y hy => ?_, ?_⟩
  · split at hy
    · rcases List.mem_cons.mp hy with rfl | hy
      · decide
      · have := List.mem_singleton.mp hy
        subst this; omega
    · cases hy
  · split at hy
    · cases hy
    · rcases List.mem_cons.mp hy with rfl | hy
      · decide
      · have := List.mem_singleton.mp hy
        subst this; omega
  · split <;> simp
theorem FS.notSys {X : Fx} {d : Addr} (h : X.s₀.heap.get? d = none) (hsm : X.s₀.heap.get? sysModules ≠ none) : (d == sysModules) = false := by
  simp only [beq_eq_false_iff_ne]
  rintro rfl
  exact hsm h
noncomputable def answersOf (hs rw : List (List Str)) : List (List Int) := hs.map fun h => rw.map (ansOf h)
theorem range_map_at {α β : Type} (l : List α) (g : Nat → β) (k : α → β) (n : Nat) (hn : n = l.length) (h : ∀ i x, l[i]? = some x → g i = k x) : (List.range n).map g = l.map k := by
  subst hn
  apply List.ext_getElem?
  intro i
  by_cases hi : i < l.length
  · rw [List.getElem?_map, List.getElem?_map, List.getElem?_range hi, List.getElem?_eq_getElem hi]
    exact congrArg some (h i _ (List.getElem?_eq_getElem hi))
  · rw [List.getElem?_eq_none (by simpa using hi), List.getElem?_eq_none (by simpa using hi)]
section
variable {prog : Program} {w : World} {A : Around} {a : Addr} {pm cd doc : Value} {s : Shared} {mg mb : Str → Option Value}
set_option maxHeartbeats 8000000 in
theorem law_3a {k : Nat} (hX : (lwX prog w A a pm cd doc s mg mb).Gd) (G : Gl prog mg mb (k + 1) (lwX prog w A a pm cd doc s mg mb).A s) (hsep : ∃ t, mg "sep" = some (.str "/" t)) (hsm : s.heap.get? sysModules ≠ none) {Ca N fa : Addr} {mN : Str → Option Value} {pm' cd' doc' : Value} (O : NmC s.heap Ca N fa mN pm' cd' doc')
    {hs : List (List Str)} (hs6 : hs.length = 6) (hsr : ∀ r ∈ hs, RowIs r) {rw : List (List Str)} (hrl : rw.length ≤ 6) (hrr : ∀ r ∈ rw, RowIs r) {tollsD nD headsD rowsD : PyData} {rs : List Rdr} (hr6 : rs.length = 6) {D : Addr} {hB : Heap} {s₁ : Shared}
    (f : FS (lwX prog w A a pm cd doc s mg mb) hB [("readers", .val (.ref D)), ("asks", .dat (.list (rw.map askD))), ("tolls", .dat tollsD), ("heads", .dat headsD), ("n", .dat nD), ("rows", .dat rowsD)] s₁) (hD : s₁.heap.IsList D (rs.map fun r : Rdr => Value.ref r.x).toArray)
    (R : Rdrs prog w Ca s₁.heap (fun b => ¬ frA (lwX prog w A a pm cd doc s mg mb).env b ∧ s.heap.get? b = none) hs (fun _ => M0) 1 rs) {Q : Flow → Shared → Prop}
    (h : ∀ M' s', FS (lwX prog w A a pm cd doc s mg mb) hB [("answers", .dat (listII (answersOf hs rw))), ("readers", .val (.ref D)), ("asks", .dat (.list (rw.map askD))), ("tolls", .dat tollsD), ("heads", .dat headsD), ("n", .dat nD), ("rows", .dat rowsD)] s' →
      s'.heap.IsList D (rs.map fun r : Rdr => Value.ref r.x).toArray → Rdrs prog w Ca s'.heap (fun b => ¬ frA (lwX prog w A a pm cd doc s mg mb).env b ∧ s.heap.get? b = none) hs M' 100 rs → (∀ i r, rs[i]? = some r → MI (askA hs i) rw rw (M' i)) →
      wpAny (lwX prog w A a pm cd doc s mg mb).m (lwX prog w A a pm cd doc s mg mb).A (execs ((bodyAt 20).drop 9) (lwX prog w A a pm cd doc s mg mb).env) Q (fun _ _ => False) s') :
    wpAny (lwX prog w A a pm cd doc s mg mb).m (lwX prog w A a pm cd doc s mg mb).A (execs ((bodyAt 20).drop 8) (lwX prog w A a pm cd doc s mg mb).env) Q (fun _ _ => False) s₁ := by
  refine FS.seq ?_
  show wpAny _ _ (exec (.Assign _ _ _) _) _ _ _
  refine wpAny_Assign_Name (wpAny_mono (E := fun _ _ => False) (Q := fun v s₂ => FS (lwX prog w A a pm cd doc s mg mb) hB [("readers", .val (.ref D)), ("asks", .dat (.list (rw.map askD))), ("tolls", .dat tollsD), ("heads", .dat headsD), ("n", .dat nD), ("rows", .dat rowsD)] s₂ ∧ Rd (lwX prog w A a pm cd doc s mg mb).ok s₂.heap (listII (answersOf hs rw)) v ∧
    s₂.heap.IsList D (rs.map fun r : Rdr => Value.ref r.x).toArray ∧ ∃ M', Rdrs prog w Ca s₂.heap (fun b => ¬ frA (lwX prog w A a pm cd doc s mg mb).env b ∧ s.heap.get? b = none) hs M' 100 rs ∧ ∀ i r, rs[i]? = some r → MI (askA hs i) rw rw (M' i)) ?_ (fun v s₂ y => ?_) fun _ _ y => y) rfl
  · rw [eval_ListComp]
    refine outer_ok hX (fun _ => trivial) f (m' := 100) (by decide) R (by omega) rfl hD (by kernel_rfl) rfl (I := fun i M => MI (askA hs i) rw [] M) (J := fun i M => MI (askA hs i) rw rw M) (fun i r _ => MI.zero hrr) (fun i => listI (rw.map (askA hs i))) ?_ (use := none) ?_
    · intro i r hr cenv ok' s' Mr T hI
      have hi : i < hs.length := by have := (List.getElem?_eq_some_iff.mp hr).1; omega
      obtain ⟨l1, l2, l3⟩ := xs_len hsr hi
      refine wpAny_mono (asks_ok (Ci := { (lwX prog w A a pm cd doc s mg mb).cx s' _ with env := cenv, ok := ok' }) T.cxh (l := rw) (pick := fun r => some (fileOf r)) (f := askA hs i) (I := fun j M => MI (askA hs i) rw (rw.take j) M) (G.kp T.keeps) hsep (O.kp T.keeps) rfl T.rd T.memo T.n1 (by omega) (FS.notSys T.new hsm) T.ddx l1 l2 l3 T.al hrr (by omega)
        (by simpa using hI) (fun j r' M hr' m => MI.step (fun r => rfl) hrr hr' m) (by show scopeOk _ _ (fun z => cenv.scope.names.lookup z) _ = true; rw [T.scope]; kernel_rfl) rfl (.inl ⟨_, rfl, fun _ => rfl⟩)) (fun v s₂ y => ?_) fun _ _ y => y
      obtain ⟨y1, y2, M', y3, y4⟩ := y
      refine ⟨y1, ?_, M', y3.le (by omega), by simpa using y4⟩
      have e : PyData.list (rw.map fun r => PyData.int (askA hs i r)) = listI (rw.map (askA hs i)) := by unfold listI; rw [List.map_map]; rfl
      rw [← e]; exact y2
    · intro D' L' s' f' k' hn hL hr hK
      obtain ⟨m, hn⟩ := hn
      obtain ⟨M', R', hJ⟩ := hK
      have hL0 : s.heap.get? L' = none := Kp.none f.F.keeps hL
      have hLl : L' ≠ (lwX prog w A a pm cd doc s mg mb).env.locals := fun e => by
        obtain ⟨m', o, es, ep, e', _⟩ := f.F.ns
        rw [e, e'] at hL; cases hL
      refine ⟨m, hn, fun h' hs' => ⟨f'.butDict hn hL0 hLl hs' trivial, ?_, ?_, M', R'.mv (fun b o p e => (hs'.2 b fun e' => p.2.2 (e' ▸ hL)).trans e) (fun b o p _ => ⟨p.1, p.2.1⟩), hJ⟩⟩
      · have e : PyData.list ((List.range rs.length).map fun i => listI (rw.map (askA hs i))) = listII (answersOf hs rw) := by
          unfold listII answersOf
          rw [List.map_map, range_map_at hs _ _ _ (by omega) fun i x hx => ?_]
          have hi := (List.getElem?_eq_some_iff.mp hx).1
          show listI _ = listI _
          congr 1
          refine List.map_congr_left fun r hr => ?_
          rw [askA_eq hsr hi (hrr r hr), hx]; rfl
        rw [e] at hr
        exact Rd.mv (Mv.sameBut hs' fun o e => by
          obtain ⟨o', es, ep, e', d', _⟩ := hn
          rw [e] at e'; cases e'; exact .inl ⟨_, _, d'⟩) (fun _ _ z _ => z) _ _ hr
      · obtain ⟨o, e1, e2, n, e3⟩ := hD
        have nd : D ∉ rs.map (·.di) := fun hm => by
          obtain ⟨r, hr, e⟩ := List.mem_map.mp hm
          obtain ⟨j, hj⟩ := List.getElem?_of_mem hr
          obtain ⟨o', es, ep, e', d'⟩ := (R.each j r hj).2.2.dict
          rw [e, e1] at e'; cases e'; rw [e3] at d'; cases d'
        exact ⟨o, (hs'.2 D (ne_of_get e1 hL)).trans (Kp.get k' _ _ (hidL_get e1 nd)), e2, n, e3⟩
  · obtain ⟨f₂, hv, hD₂, M', R₂, hJ⟩ := y
    refine f₂.store (x := "answers") (sp := .dat (listII (answersOf hs rw))) hv (.inr ⟨rfl, rfl, ⟨_, rfl⟩⟩) fun s₃ f₃ st => h M' s₃ f₃ ?_ (R₂.mv (fun b o p e => st.ch b o p.1 e) fun b o p _ => p) hJ
    obtain ⟨o, e1, e2, n, e3⟩ := hD₂
    exact ⟨o, st.mv D o trivial e1 (fun _ _ y => by rw [e3] at y; cases y) (fun _ y => by rw [e3] at y; cases y), e2, n, e3⟩
end
section
variable {prog : Program} {w : World} {A : Around} {a : Addr} {pm cd doc : Value} {s : Shared} {mg mb : Str → Option Value}
set_option maxHeartbeats 8000000 in
theorem law_3b (hX : (lwX prog w A a pm cd doc s mg mb).Gd) (B : Bis mg mb)
    {hs : List (List Str)} (hs6 : hs.length = 6) (hsr : ∀ r ∈ hs, RowIs r) {rw : List (List Str)} (hrl : rw.length ≤ 6) (hrr : ∀ r ∈ rw, RowIs r) {tollsD nD asksD : PyData} {D : Addr} {hB : Heap} {s₁ : Shared}
    (f : FS (lwX prog w A a pm cd doc s mg mb) hB [("answers", .dat (listII (answersOf hs rw))), ("readers", .val (.ref D)), ("asks", .dat asksD), ("tolls", .dat tollsD), ("heads", .dat (.list (hs.map strsD))), ("n", .dat nD), ("rows", .dat (.list (rw.map strsD)))] s₁) {Q : Flow → Shared → Prop}
    (h : ∀ s', Keeps s₁ s' → FS (lwX prog w A a pm cd doc s mg mb) hB [("answers", .dat (listII (answersOf hs rw))), ("readers", .val (.ref D)), ("asks", .dat asksD), ("tolls", .dat tollsD), ("heads", .dat (.list (hs.map strsD))), ("n", .dat nD), ("rows", .dat (.list (rw.map strsD)))] s' →
      wpAny (lwX prog w A a pm cd doc s mg mb).m (lwX prog w A a pm cd doc s mg mb).A (execs ((bodyAt 20).drop 10) (lwX prog w A a pm cd doc s mg mb).env) Q (fun _ _ => False) s') :
    wpAny (lwX prog w A a pm cd doc s mg mb).m (lwX prog w A a pm cd doc s mg mb).A (execs ((bodyAt 20).drop 9) (lwX prog w A a pm cd doc s mg mb).env) Q (fun _ _ => False) s₁ := by
  have hC := f.cx hX
  refine FS.seq ?_
  show wpAny _ _ (exec (.If _ _ _ _) _) _ _ _
  refine FS.iff f (b := false) (Ts.cmp (b := listII (answersOf hs rw)) (Ev.nameD hC rfl) ?_ (ne_intss hC)) (fun hb => nomatch hb) fun _ s' f' k' => wpAny_execs_nil (h s' k' f')
  refine Ev.cast (Ev.comp hC (P := fun _ h v => Rd (fun _ => True) h (.list (hs.map strsD)) v) ["head"] (fun s' k' => Ev.nameD (hC.at k') rfl) (Iters.list hC) (fun r => [("head", .dat (strsD r))]) (fun x _ => .name) (fun x _ => rfl) (by kernel_rfl) (fun _ => true) (fun h => listI (rw.map (ansOf h))) (by omega) (fun x _ cenv ok' s' hC'' hsc k' => .nil) (fun hd hhd _ cenv ok' s' hC'' hsc k' => ?_)) ?_
  · refine Ev.cast (Ev.comp hC'' (P := fun _ h v => Rd ok' h (.list (rw.map strsD)) v) ["row"] (fun s' k' => Ev.nameD (hC''.at k') rfl) (Iters.list hC'') (fun r => [("row", .dat (strsD r))]) (fun x _ => .name) (fun x _ => rfl) (by show scopeOk _ _ (fun z => cenv.scope.names.lookup z) _ = true; rw [hsc]; kernel_rfl) (fun _ => true) (fun r => .int (ansOf hd r)) (by omega) (fun x _ cenv' ok'' s'' hC3 hsc3 k'' => .nil) (fun r hr _ cenv' ok'' s'' hC3 hsc3 k'' => ?_)) ?_
    · have hh := hsr hd hhd
      have hrow := hrr r hr
      have key := row_eqv hh hrow
      obtain ⟨u1, u2⟩ := row_len hrow
      obtain ⟨v1, v2⟩ := row_len hh
      refine Ev.ifExp (c := PyData.eqv (strsD (r.take hd.length)) (strsD hd)) (Ts.cmp (Ev.cast (Ev.slice hC3 (ds := r.map .str) (plo := none) (phi := some ((hd.length : Nat) : Int)) (pst := none) (Ev.nameD hC3 rfl) .no (.int (Ev.cast (Ev.callB (by walk_at "fn") (EvL.cons (Ev.nameD hC3 (d := .list (hd.map .str)) rfl) EvL.nil) (call_lenL (by rw [List.length_map]; omega))) (by rw [List.length_map]))) .no (by decide) (by rw [List.length_map]; omega)) (by rw [pick_map, pick_take]; rfl)) (Ev.nameD hC3 rfl) (cmp_eqD hC3 (row_lay (row_take hrow v1 v2)).1 (row_lay hh).1 (row_lay (row_take hrow v1 v2)).2)) (fun hb => ?_) fun hb => ?_
      · rw [hb, if_pos rfl] at key
        rw [← key]; exact Ev.int
      · rw [hb, if_neg Bool.false_ne_true] at key
        rw [← key]; exact Ev.int
    · rw [List.filter_eq_self.mpr (fun _ _ => rfl)]; unfold listI; rw [List.map_map]; rfl
  · rw [List.filter_eq_self.mpr (fun _ _ => rfl)]; unfold listII answersOf; rw [List.map_map]; rfl
set_option maxHeartbeats 8000000 in
/-- [said + [1] for said in answers] -/
theorem law_3d (hX : (lwX prog w A a pm cd doc s mg mb).Gd)
    {L : List (List Int)} (hL : L.length ≤ 6) (hLL : ∀ l ∈ L, l.length ≤ 6) {tollsD nD asksD headsD rowsD : PyData} {D : Addr} {hB : Heap} {s₁ : Shared}
    (f : FS (lwX prog w A a pm cd doc s mg mb) hB [("again", .dat (listII (L.map (· ++ [1])))), ("answers", .dat (listII L)), ("readers", .val (.ref D)), ("asks", .dat asksD), ("tolls", .dat tollsD), ("heads", .dat headsD), ("n", .dat nD), ("rows", .dat rowsD)] s₁) {Q : Flow → Shared → Prop}
    (h : ∀ s', FS (lwX prog w A a pm cd doc s mg mb) hB [("answers", .dat (listII L)), ("tolls", .dat tollsD), ("n", .dat nD)] s' →
      wpAny (lwX prog w A a pm cd doc s mg mb).m (lwX prog w A a pm cd doc s mg mb).A (execs ((bodyAt 20).drop 12) (lwX prog w A a pm cd doc s mg mb).env) Q (fun _ _ => False) s') :
    wpAny (lwX prog w A a pm cd doc s mg mb).m (lwX prog w A a pm cd doc s mg mb).A (execs ((bodyAt 20).drop 11) (lwX prog w A a pm cd doc s mg mb).env) Q (fun _ _ => False) s₁ := by
  have hC := f.cx hX
  refine FS.seq ?_
  show wpAny _ _ (exec (.If _ _ _ _) _) _ _ _
  refine FS.iff f (b := false) (Ts.cmp (b := listII (L.map (· ++ [1]))) (Ev.nameD hC rfl) ?_ (ne_intss hC)) (fun hb => nomatch hb) fun _ s' f' k' => wpAny_execs_nil (h s' (f'.sub (sub_cons rfl (sub_cons rfl (sub_cons rfl sub_nil)))))
  refine Ev.cast (Ev.comp hC (P := fun _ h v => Rd (fun _ => True) h (.list (L.map listI)) v) ["said"] (fun s' k' => Ev.nameD (hC.at k') rfl) (Iters.list hC) (fun r => [("said", .dat (listI r))]) (fun x _ => .name) (fun x _ => rfl) (by kernel_rfl) (fun _ => true) (fun l => listI (l ++ [1])) (by omega) (fun x _ cenv ok' s' hC'' hsc k' => .nil) (fun l hl _ cenv ok' s' hC'' hsc k' => ?_)) ?_
  · have := hLL l hl
    refine Ev.cast (Ev.binop (Ev.nameD hC'' (d := .list (l.map .int)) rfl) (Ev.list hC'' (ds := [.int 1]) (EvL.cons Ev.int EvL.nil) (Nat.le_of_ble_eq_true rfl)) (bin_addL hC'' (by rw [List.length_map]; show _ + 1 ≤ _; omega))) ?_
    unfold listI; rw [List.map_append]; rfl
  · rw [List.filter_eq_self.mpr (fun _ _ => rfl)]; unfold listII; rw [List.map_map]; rfl
end
section
variable {prog : Program} {w : World} {A : Around} {a : Addr} {pm cd doc : Value} {s : Shared} {mg mb : Str → Option Value}
set_option maxHeartbeats 8000000 in
/-- [reader.names(None, module) for path, module in asks] + [reader.names(None, 'z')] -/
theorem again_elt {X : Fx} {k : Nat} {Ca N fa : Addr} {mN : Str → Option Value} {pm' cd' doc' : Value} (G : Gl X.prog X.mg X.mb (k + 1) X.A X.s₀) (hsep : ∃ t, X.mg "sep" = some (.str "/" t)) (hsm : X.s₀.heap.get? sysModules ≠ none) (O : NmC X.s₀.heap Ca N fa mN pm' cd' doc')
    {xs dirs : List Str} {scope : Scope} {ρ : List (Str × Sp)} {cenv : Env} {ok' : Addr → Prop} {s' : Shared} {r : Rdr} {Mr : Str → Option Int} (T : Turn X Ca xs dirs scope ρ cenv ok' s' r Mr 100) {rw : List (List Str)} {A' : List Str → Int} (hI : MI A' rw rw Mr)
    (l1 : ∀ y ∈ xs, y.length ≤ 1000) (l2 : ∀ y ∈ dirs, y.length ≤ 1000) (l3 : dirs.length ≤ 1000) (hrl : rw.length ≤ 6) (hrr : ∀ r ∈ rw, RowIs r) (hasks : (freeOf scope ρ).lookup ("asks" : Str) = some (.dat (.list (rw.map askD))))
    {p1 p2 p3 p4 p5 p6 p7 p8 p9 p10 q1 q2 q3 q4 q5 q6 q7 : Pos} {j k1 k2 k3 : Nat} {sc : Scope} (hs : scopeOk sc (("reader", .val (.ref r.x)) :: freeOf scope ρ) cenv.kindOf ["module", "path"] = true) (hrd : (freeOf sc (("reader", .val (.ref r.x)) :: freeOf scope ρ)).lookup ("reader" : Str) = some (.val (.ref r.x)))
    (hline : (p2.endLine == p3.line) = true) (hline' : (q2.endLine == q3.line) = true) :
    wpAny (model X.prog X.w) X.A (eval (.BinOp (.ListComp (.Call (.Attribute (.Name "reader" p1) "names" p2) [.Constant .none k1 p9, .Name "module" p4] [] p3) [⟨.Tuple [.Name "path" p5, .Name "module" p6] j p7, .Name "asks" p8, [], 0⟩] sc q6) .Add (.List [.Call (.Attribute (.Name "reader" q1) "names" q2) [.Constant .none k2 q4, .Constant (.str "z") k3 q5] [] q3] q7) p10) cenv)
      (fun v s₁ => Keeps (hid s' r.di) s₁ ∧ Rd ok' s₁.heap (listI (rw.map A' ++ [1])) v ∧ ∃ M', Memo X.prog X.w s₁.heap r.di M' 200 ∧ True) (fun _ _ => False) s' := by
  refine wpAny_BinOp (wpAny_mono (asks_ok (Ci := { X.cx s' (("reader", .val (.ref r.x)) :: freeOf scope ρ) with env := cenv, ok := ok' }) T.cxh (l := rw) (pick := fun r => none) (f := A') (I := fun _ M => MI A' rw rw M) (G.kp T.keeps) hsep (O.kp T.keeps) ((List.lookup_cons ..).trans hasks) T.rd T.memo T.n1 (by omega) (FS.notSys T.new hsm) T.ddx l1 l2 l3 T.al hrr (by omega)
        hI (fun j r' M hr' m => MI.step2 hr' m) hs hrd (.inr ⟨_, _, rfl, fun _ => rfl⟩) hline) (fun v s₂ y => ?_) fun _ _ y => y)
  obtain ⟨k₂, hv, M', m₂, i₂⟩ := y
  have hC₂ := T.cxh.at k₂
  have rd₂ := T.rd.at (h' := s₂.heap) (fun b hb o e => Kp.get k₂ b o (hid_get e (T.rd.ne T.memo T.ddx b hb)))
  have kh : Keeps (hid s' r.di) (hid s₂ r.di) := kp_hid k₂ (hid_none _ _)
  have key := names_ev (k := k) (rd := "reader") (mod := "z") (file := none) hC₂ (G.kp (Kp.trans T.keeps kh)) hsep (List.lookup_cons_self ..) (by decide) (O.kp (Kp.trans T.keeps k₂)) rd₂ m₂ T.n1 (by omega) (FS.notSys T.new hsm) (by decide) l1 l2 l3 (p := q1) (ap := q2) (pos := q3) (e1 := .Constant .none k2 q4) (e2 := .Constant (.str "z") k3 q5) (EvL.cons Ev.cNone (EvL.cons Ev.str EvL.nil)) rfl rfl hline' rfl
  rw [names_z i₂.z] at key
  refine wpAny_List (wpAny_items_cons (wpAny_mono key (fun u s₃ y => wpAny_items_nil ?_) fun _ _ y => y) rfl)
  obtain ⟨k₃, m₃, t, rfl⟩ := y
  have kk := Kp.trans kh k₃
  refine ⟨by rw [sizeLine_eq]; show 1 ≤ _; omega, ?_⟩
  have hu := rd_newList T.cxh (ds := [.int 1]) (vs := #[.int 1 t]) kk (by simp only [RdAll]; exact ⟨_, _, rfl, Rd_int.mpr ⟨_, rfl⟩, rfl⟩)
  have hv₃ : Rd ok' s₃.heap (.list (rw.map fun r => .int (A' r))) v := Rd.kp (Rd.mv (hid_mv m₂.dictAt).of_true (fun _ _ z _ => z) _ _ hv) k₃
  refine wpAny_mono (bin_addL T.cxh (xs := rw.map fun r => .int (A' r)) (ys := [.int 1]) (by rw [List.length_map]; show _ + 1 ≤ _; omega) _ _ _ (Kp.trans kk (Kp.push _ _)) (hv₃.kp (Kp.push _ _)) hu) (fun z s₅ y => ⟨Kp.trans (Kp.trans kk (Kp.push _ _)) y.1, ?_, _, (m₃.at (Kp.get (Kp.trans (Kp.push _ _) y.1) _)).le (by omega), trivial⟩) fun _ _ y => y
  have e : PyData.list ((rw.map fun r => PyData.int (A' r)) ++ [.int 1]) = listI (rw.map A' ++ [1]) := by unfold listI; rw [List.map_append, List.map_map]; rfl
  rw [← e]; exact y.2
end
section
variable {prog : Program} {w : World} {A : Around} {a : Addr} {pm cd doc : Value} {s : Shared} {mg mb : Str → Option Value}
set_option maxHeartbeats 8000000 in
theorem law_3c {k : Nat} (hX : (lwX prog w A a pm cd doc s mg mb).Gd) (G : Gl prog mg mb (k + 1) (lwX prog w A a pm cd doc s mg mb).A s) (hsep : ∃ t, mg "sep" = some (.str "/" t)) (hsm : s.heap.get? sysModules ≠ none) {Ca N fa : Addr} {mN : Str → Option Value} {pm' cd' doc' : Value} (O : NmC s.heap Ca N fa mN pm' cd' doc')
    {hs : List (List Str)} (hs6 : hs.length = 6) (hsr : ∀ r ∈ hs, RowIs r) {rw : List (List Str)} (hrl : rw.length ≤ 6) (hrr : ∀ r ∈ rw, RowIs r) {tollsD nD headsD rowsD : PyData} {rs : List Rdr} (hr6 : rs.length = 6) {D : Addr} {hB : Heap} {s₁ : Shared}
    (f : FS (lwX prog w A a pm cd doc s mg mb) hB [("answers", .dat (listII (answersOf hs rw))), ("readers", .val (.ref D)), ("asks", .dat (.list (rw.map askD))), ("tolls", .dat tollsD), ("heads", .dat headsD), ("n", .dat nD), ("rows", .dat rowsD)] s₁) (hD : s₁.heap.IsList D (rs.map fun r : Rdr => Value.ref r.x).toArray)
    {M' : Nat → Str → Option Int} (R : Rdrs prog w Ca s₁.heap (fun b => ¬ frA (lwX prog w A a pm cd doc s mg mb).env b ∧ s.heap.get? b = none) hs M' 100 rs) (hM : ∀ i r, rs[i]? = some r → MI (askA hs i) rw rw (M' i)) {Q : Flow → Shared → Prop}
    (h : ∀ s', FS (lwX prog w A a pm cd doc s mg mb) hB [("again", .dat (listII ((answersOf hs rw).map (· ++ [1])))), ("answers", .dat (listII (answersOf hs rw))), ("readers", .val (.ref D)), ("asks", .dat (.list (rw.map askD))), ("tolls", .dat tollsD), ("heads", .dat headsD), ("n", .dat nD), ("rows", .dat rowsD)] s' →
      wpAny (lwX prog w A a pm cd doc s mg mb).m (lwX prog w A a pm cd doc s mg mb).A (execs ((bodyAt 20).drop 11) (lwX prog w A a pm cd doc s mg mb).env) Q (fun _ _ => False) s') :
    wpAny (lwX prog w A a pm cd doc s mg mb).m (lwX prog w A a pm cd doc s mg mb).A (execs ((bodyAt 20).drop 10) (lwX prog w A a pm cd doc s mg mb).env) Q (fun _ _ => False) s₁ := by
  refine FS.seq ?_
  show wpAny _ _ (exec (.Assign [.Name "again" _] (.ListComp _ _ _ _) _) _) _ _ _
  rw [exec_Assign_Name_used _ _ _ _ (by rfl)]
  refine wpAny_bind (wpAny_standAt (wpAny_bind ?_))
  show wpAny _ _ (do let _ ← comprehension _ _ (lwX prog w A a pm cd doc s mg mb).env _ (newList []) false (eval _ (lwX prog w A a pm cd doc s mg mb).env) (some (assign (.Name "again" _) (lwX prog w A a pm cd doc s mg mb).env))) _ _ s₁
  refine wpAny_bind (wpAny_mono (outer_ok hX (fun _ => trivial) f (m' := 200) (by decide) R (by omega) rfl hD (by kernel_rfl) rfl (I := fun i M => MI (askA hs i) rw rw M) (J := fun i M => True) hM (fun i => listI (rw.map (askA hs i) ++ [1])) ?_ (use := some (assign (.Name "again" _) (lwX prog w A a pm cd doc s mg mb).env)) (Q := fun _ s' => wpAny (lwX prog w A a pm cd doc s mg mb).m (lwX prog w A a pm cd doc s mg mb).A (execs ((bodyAt 20).drop 11) (lwX prog w A a pm cd doc s mg mb).env) Q (fun _ _ => False) s') ?_) (fun _ s' hq => wpAny_pure (wpAny_pure hq)) fun _ _ z => z)
  · intro i r hr cenv ok' s' Mr T hI
    have hi : i < hs.length := by have := (List.getElem?_eq_some_iff.mp hr).1; omega
    obtain ⟨l1, l2, l3⟩ := xs_len hsr hi
    exact again_elt (X := lwX prog w A a pm cd doc s mg mb) G hsep hsm O T hI l1 l2 l3 hrl hrr rfl (by show scopeOk _ _ (fun z => cenv.scope.names.lookup z) _ = true; rw [T.scope]; kernel_rfl) rfl rfl rfl
  · intro D' L' s' f' k' hn hL hr hK
    obtain ⟨m, hn⟩ := hn
    have hL0 : s.heap.get? L' = none := Kp.none f.F.keeps hL
    have hLl : L' ≠ (lwX prog w A a pm cd doc s mg mb).env.locals := fun e => by
      obtain ⟨m', o, es, ep, e', _⟩ := f.F.ns
      rw [e, e'] at hL; cases hL
    have hLc : ¬ frA (lwX prog w A a pm cd doc s mg mb).env L' := fun hm => by
      rcases hm with e | ⟨x, e⟩
      · exact hLl e
      · obtain ⟨u, hu⟩ := f'.F.cell x L' e
        exact cell_ne_ns hn hu rfl
    have e : PyData.list ((List.range rs.length).map fun i => listI (rw.map (askA hs i) ++ [1])) = listII ((answersOf hs rw).map (· ++ [1])) := by
      unfold listII answersOf
      rw [List.map_map, List.map_map, range_map_at hs _ _ _ (by omega) fun i x hx => ?_]
      have hi := (List.getElem?_eq_some_iff.mp hx).1
      show listI _ = listI _
      congr 2
      refine List.map_congr_left fun r hr => ?_
      rw [askA_eq hsr hi (hrr r hr), hx]; rfl
    rw [e] at hr
    refine wpAny_assign_Name (f'.store (x := "again") (sp := .dat (listII ((answersOf hs rw).map (· ++ [1])))) hr (.inl rfl) fun s'' f'' st => ?_)
    have hn'' : s''.heap.Ns L' m := hn.at fun o e => st.ch _ o hLc e
    exact ⟨m, hn'', fun h' hs' => h _ (f''.butDict hn'' hL0 hLl hs' trivial)⟩
end
/-! ## the distance with any cost; from what bound on it is exact -/
noncomputable def innG (cf : Nat → Nat → Int) (bc : Nat) (la : List Nat) (row : List Int) (d0 : Int) : Nat → Int × Int × Int × List Int
  | 0 => (d0, d0, 9223372036854775807, row)
  | i + 1 =>
    let p := innG cf bc la row d0 i
    let sb := p.1 + cf bc (la[i]?.getD 0)
    let dist := p.2.2.2[i]?.getD 0
    let t := (if dist < p.2.1 then dist else p.2.1) + 2
    let r := if sb < t then sb else t
    (dist, r, if r < p.2.2.1 then r else p.2.2.1, p.2.2.2.set i r)
noncomputable def outG (cf : Nat → Nat → Int) (la lb : List Nat) : Nat → Int × List Int
  | 0 => (0, row0 la)
  | j + 1 =>
    let q := innG cf (lb[j]?.getD 0) la (outG cf la lb j).2 ((j : Int) * 2) la.length
    (q.2.1, q.2.2.2)
noncomputable def minG (cf : Nat → Nat → Int) (la lb : List Nat) (j : Nat) : Int := (innG cf (lb[j]?.getD 0) la (outG cf la lb j).2 ((j : Int) * 2) la.length).2.2.1
/-- the distance is d, and so it is told from the bound d on -/
noncomputable def isD3 (cf : Nat → Nat → Int) (la lb : List Nat) (d : Int) : Bool := !decide (d < ((lb.length : Int) - la.length) * 2) && (List.range lb.length).all (fun j => !decide (d < minG cf la lb j)) && decide ((outG cf la lb lb.length).1 = d)
noncomputable def isD2 (cf : Nat → Nat → Int) (la lb : List Nat) (d : Int) : Bool := if la.length = 0 ∨ lb.length = 0 then decide (2 * ((la.length : Int) + lb.length) = d) else if lb.length < la.length then isD3 cf lb la d else isD3 cf la lb d
noncomputable def isD1 (cf : Nat → Nat → Int) (la lb : List Nat) (d : Int) : Bool := isD2 cf (cut (cpl la.reverse lb.reverse) la) (cut (cpl la.reverse lb.reverse) lb) d
noncomputable def isD (cf : Nat → Nat → Int) (la lb : List Nat) (d : Int) : Bool := if la = lb then decide (d = 0) else isD1 cf (la.drop (cpl la lb)) (lb.drop (cpl la lb)) d
noncomputable def cls (c : Nat) : Nat := if c = 66 then 98 else if c = 67 then 99 else if c = 69 then 101 else c
noncomputable def cost2 (c d : Nat) : Int := if c = d then 0 else if cls c = cls d then 1 else 2
noncomputable def lineB (b0 b1 b2 b3 b4 b5 : Bool) : List Nat := (if b0 then [97] else []) ++ [if b1 then 66 else 98] ++ [if b2 then 67 else 99] ++ (if b3 then [100] else []) ++ [if b4 then 69 else 101] ++ [if b5 then 103 else 102]
noncomputable def dB (x y : Bool) (w : Int) : Int := if x = y then 0 else w
noncomputable def bools : List Bool := [false, true]

noncomputable def alpha : List Nat := [0, 97, 98, 66, 99, 67, 100, 101, 69, 102, 103]
theorem cost_eq {c d : Nat} (hc : c ∈ alpha) (hd : d ∈ alpha) : cost c d = cost2 c d := by
  have key : ∀ c ∈ alpha, ∀ d ∈ alpha, cost c d = cost2 c d := by decide +kernel
  exact key c hc d hd
theorem getD_alpha {l : List Nat} (h : ∀ c ∈ l, c ∈ alpha) (i : Nat) : l[i]?.getD 0 ∈ alpha := by
  cases e : l[i]? with
  | none => simp [alpha]
  | some c => exact h c (List.mem_of_getElem? e)
section
variable {la lb : List Nat}
theorem inn_eq {bc : Nat} (hb : bc ∈ alpha) (ha : ∀ c ∈ la, c ∈ alpha) (row : List Int) (d0 : Int) : ∀ i, innS bc la row d0 i = innG cost2 bc la row d0 i
  | 0 => rfl
  | i + 1 => by
    have ih := inn_eq hb ha row d0 i
    simp only [innS, innG, ih, cost_eq hb (getD_alpha ha i)]
theorem out_eq (ha : ∀ c ∈ la, c ∈ alpha) (hb : ∀ c ∈ lb, c ∈ alpha) : ∀ j, outS la lb j = outG cost2 la lb j
  | 0 => rfl
  | j + 1 => by
    have ih := out_eq ha hb j
    simp only [outS, outG, ih, inn_eq (getD_alpha hb j) ha]
theorem min_eq (ha : ∀ c ∈ la, c ∈ alpha) (hb : ∀ c ∈ lb, c ∈ alpha) (j : Nat) : minS la lb j = minG cost2 la lb j := by
  unfold minS minG
  rw [out_eq ha hb, inn_eq (getD_alpha hb j) ha]
theorem isD3_lev {d M : Int} (ha : ∀ c ∈ la, c ∈ alpha) (hb : ∀ c ∈ lb, c ∈ alpha) (h : isD3 cost2 la lb d = true) (hM : d ≤ M) : lev3 la lb M = d := by
  unfold isD3 at h
  simp only [Bool.and_eq_true, Bool.not_eq_true', decide_eq_true_eq, decide_eq_false_iff_not, List.all_eq_true] at h
  obtain ⟨⟨h1, h2⟩, h3⟩ := h
  unfold lev3 dp
  rw [if_neg (by omega)]
  have : (List.range lb.length).any (fun j => decide (M < minS la lb j)) = false := by
    rw [List.any_eq_false]
    intro j hj
    have := h2 j hj
    rw [min_eq ha hb]
    simp; omega
  rw [this, if_neg Bool.false_ne_true, out_eq ha hb]
  exact h3
theorem isD2_lev {d M : Int} (ha : ∀ c ∈ la, c ∈ alpha) (hb : ∀ c ∈ lb, c ∈ alpha) (h : isD2 cost2 la lb d = true) (hM : d ≤ M) : lev2 la lb M = d := by
  unfold isD2 at h
  unfold lev2
  split at h
  · rename_i e; rw [if_pos e]; exact of_decide_eq_true h
  · rename_i e
    rw [if_neg e]
    split at h
    · rename_i e2; rw [if_pos e2]; exact isD3_lev hb ha h hM
    · rename_i e2; rw [if_neg e2]; exact isD3_lev ha hb h hM
theorem isD_lev {d M : Int} (ha : ∀ c ∈ la, c ∈ alpha) (hb : ∀ c ∈ lb, c ∈ alpha) (h : isD cost2 la lb d = true) (hM : d ≤ M) : lev la lb M = d := by
  unfold isD at h
  unfold lev
  split at h
  · rename_i e; rw [if_pos e]; exact (of_decide_eq_true h).symm
  · rename_i e
    rw [if_neg e]
    unfold isD1 at h
    unfold lev1
    exact isD2_lev (fun c hc => ha c (List.mem_of_mem_drop (List.mem_of_mem_take hc))) (fun c hc => hb c (List.mem_of_mem_drop (List.mem_of_mem_take hc))) h hM
/-! ## other letters of the same kinds -/
structure Ren (f : Nat → Nat) : Prop where
  zero : f 0 = 0
  cost : ∀ c ∈ alpha, ∀ d ∈ alpha, cost2 (f c) (f d) = cost2 c d
  inj : ∀ c ∈ alpha, ∀ d ∈ alpha, f c = f d → c = d
variable {f : Nat → Nat}
theorem getD_map (hf : Ren f) (l : List Nat) (i : Nat) : (l.map f)[i]?.getD 0 = f (l[i]?.getD 0) := by
  rw [List.getElem?_map]
  cases l[i]? with
  | none => exact hf.zero.symm
  | some c => rfl
theorem inn_map (hf : Ren f) {bc : Nat} (hb : bc ∈ alpha) (ha : ∀ c ∈ la, c ∈ alpha) (row : List Int) (d0 : Int) : ∀ i, innG cost2 (f bc) (la.map f) row d0 i = innG cost2 bc la row d0 i
  | 0 => rfl
  | i + 1 => by
    have ih := inn_map hf hb ha row d0 i
    simp only [innG, ih, getD_map hf, hf.cost _ hb _ (getD_alpha ha i)]
theorem out_map (hf : Ren f) (ha : ∀ c ∈ la, c ∈ alpha) (hb : ∀ c ∈ lb, c ∈ alpha) : ∀ j, outG cost2 (la.map f) (lb.map f) j = outG cost2 la lb j
  | 0 => by simp only [outG, row0, List.length_map]
  | j + 1 => by
    have ih := out_map hf ha hb j
    simp only [outG, ih, getD_map hf, inn_map hf (getD_alpha hb j) ha, List.length_map]
theorem isD3_map (hf : Ren f) (ha : ∀ c ∈ la, c ∈ alpha) (hb : ∀ c ∈ lb, c ∈ alpha) (d : Int) : isD3 cost2 (la.map f) (lb.map f) d = isD3 cost2 la lb d := by
  unfold isD3 minG
  simp only [out_map hf ha hb, getD_map hf, List.length_map]
  have : (fun j => !decide (d < (innG cost2 (f (lb[j]?.getD 0)) (la.map f) (outG cost2 la lb j).2 ((j : Int) * 2) la.length).2.2.1)) = fun j => !decide (d < (innG cost2 (lb[j]?.getD 0) la (outG cost2 la lb j).2 ((j : Int) * 2) la.length).2.2.1) := by
    funext j
    rw [inn_map hf (getD_alpha hb j) ha]
  rw [this]
theorem isD2_map (hf : Ren f) (ha : ∀ c ∈ la, c ∈ alpha) (hb : ∀ c ∈ lb, c ∈ alpha) (d : Int) : isD2 cost2 (la.map f) (lb.map f) d = isD2 cost2 la lb d := by
  unfold isD2
  simp only [List.length_map, isD3_map hf ha hb, isD3_map hf hb ha]
theorem cpl_map (hf : Ren f) : ∀ {la lb : List Nat}, (∀ c ∈ la, c ∈ alpha) → (∀ c ∈ lb, c ∈ alpha) → cpl (la.map f) (lb.map f) = cpl la lb
  | [], _, _, _ => by simp [cpl]
  | _ :: _, [], _, _ => by simp [cpl]
  | a :: l, b :: r, ha, hb => by
    have ih := cpl_map hf (la := l) (lb := r) (fun c hc => ha c (List.mem_cons_of_mem _ hc)) (fun c hc => hb c (List.mem_cons_of_mem _ hc))
    simp only [List.map_cons, cpl, ih]
    by_cases e : a = b
    · rw [if_pos e, if_pos (by rw [e])]
    · rw [if_neg e, if_neg fun e' => e (hf.inj a (ha a List.mem_cons_self) b (hb b List.mem_cons_self) e')]
theorem map_inj_alpha (hf : Ren f) : ∀ {la lb : List Nat}, (∀ c ∈ la, c ∈ alpha) → (∀ c ∈ lb, c ∈ alpha) → la.map f = lb.map f → la = lb
  | [], [], _, _, _ => rfl
  | [], _ :: _, _, _, h => by simp at h
  | _ :: _, [], _, _, h => by simp at h
  | a :: l, b :: r, ha, hb, h => by
    simp only [List.map_cons, List.cons.injEq] at h
    rw [hf.inj a (ha a List.mem_cons_self) b (hb b List.mem_cons_self) h.1, map_inj_alpha hf (fun c hc => ha c (List.mem_cons_of_mem _ hc)) (fun c hc => hb c (List.mem_cons_of_mem _ hc)) h.2]
theorem isD_map (hf : Ren f) (ha : ∀ c ∈ la, c ∈ alpha) (hb : ∀ c ∈ lb, c ∈ alpha) (d : Int) : isD cost2 (la.map f) (lb.map f) d = isD cost2 la lb d := by
  have hda : ∀ m, ∀ c ∈ la.drop m, c ∈ alpha := fun m c hc => ha c (List.mem_of_mem_drop hc)
  have hdb : ∀ m, ∀ c ∈ lb.drop m, c ∈ alpha := fun m c hc => hb c (List.mem_of_mem_drop hc)
  have e1 : ∀ (l r : List Nat), (∀ c ∈ l, c ∈ alpha) → (∀ c ∈ r, c ∈ alpha) → isD1 cost2 (l.map f) (r.map f) d = isD1 cost2 l r d := fun l r hl hr => by
    unfold isD1 cut
    rw [← List.map_reverse, ← List.map_reverse, cpl_map hf (fun c hc => hl c (List.mem_reverse.mp hc)) (fun c hc => hr c (List.mem_reverse.mp hc)), List.length_map, List.length_map, ← List.map_take, ← List.map_take]
    exact isD2_map hf (fun c hc => hl c (List.mem_of_mem_take hc)) (fun c hc => hr c (List.mem_of_mem_take hc)) d
  unfold isD
  rw [cpl_map hf ha hb, ← List.map_drop, ← List.map_drop, e1 _ _ (hda _) (hdb _)]
  by_cases e : la = lb
  · rw [if_pos e, if_pos (by rw [e])]
  · rw [if_neg e, if_neg fun e' => e (map_inj_alpha hf ha hb e')]
end
theorem base00 : (bools.all fun c0 => bools.all fun c1 => bools.all fun c2 => bools.all fun c3 => bools.all fun c4 => bools.all fun c5 =>
   isD cost2 (lineB false false false false false false) (lineB c0 c1 c2 c3 c4 c5) (dB false c0 2 + dB false c1 1 + dB false c2 1 + dB false c3 2 + dB false c4 1 + dB false c5 2)) = true := by decide +kernel
theorem base01 : (bools.all fun c0 => bools.all fun c1 => bools.all fun c2 => bools.all fun c3 => bools.all fun c4 => bools.all fun c5 =>
   isD cost2 (lineB false false false true false false) (lineB c0 c1 c2 c3 c4 c5) (dB false c0 2 + dB false c1 1 + dB false c2 1 + dB true c3 2 + dB false c4 1 + dB false c5 2)) = true := by decide +kernel
theorem base10 : (bools.all fun c0 => bools.all fun c1 => bools.all fun c2 => bools.all fun c3 => bools.all fun c4 => bools.all fun c5 =>
   isD cost2 (lineB true false false false false false) (lineB c0 c1 c2 c3 c4 c5) (dB true c0 2 + dB false c1 1 + dB false c2 1 + dB false c3 2 + dB false c4 1 + dB false c5 2)) = true := by decide +kernel
theorem base11 : (bools.all fun c0 => bools.all fun c1 => bools.all fun c2 => bools.all fun c3 => bools.all fun c4 => bools.all fun c5 =>
   isD cost2 (lineB true false false true false false) (lineB c0 c1 c2 c3 c4 c5) (dB true c0 2 + dB false c1 1 + dB false c2 1 + dB true c3 2 + dB false c4 1 + dB false c5 2)) = true := by decide +kernel
theorem all_bools {P : Bool → Bool} (h : bools.all P = true) (b : Bool) : P b = true := List.all_eq_true.mp h b (by cases b <;> decide)
theorem base (b0 b3 c0 c1 c2 c3 c4 c5 : Bool) : isD cost2 (lineB b0 false false b3 false false) (lineB c0 c1 c2 c3 c4 c5) (dB b0 c0 2 + dB false c1 1 + dB false c2 1 + dB b3 c3 2 + dB false c4 1 + dB false c5 2) = true := by
  cases b0 <;> cases b3
  · exact all_bools (all_bools (all_bools (all_bools (all_bools (all_bools base00 c0) c1) c2) c3) c4) c5
  · exact all_bools (all_bools (all_bools (all_bools (all_bools (all_bools base01 c0) c1) c2) c3) c4) c5
  · exact all_bools (all_bools (all_bools (all_bools (all_bools (all_bools base10 c0) c1) c2) c3) c4) c5
  · exact all_bools (all_bools (all_bools (all_bools (all_bools (all_bools base11 c0) c1) c2) c3) c4) c5
noncomputable def swp (x y c : Nat) : Nat := if c = x then y else if c = y then x else c
noncomputable def ren (b1 b2 b4 b5 : Bool) (c : Nat) : Nat := (if b1 then swp 98 66 else id) ((if b2 then swp 99 67 else id) ((if b4 then swp 101 69 else id) ((if b5 then swp 102 103 else id) c)))
theorem ren_ok (b1 b2 b4 b5 : Bool) : Ren (ren b1 b2 b4 b5) := by
  refine ⟨?_, ?_, ?_⟩
  · cases b1 <;> cases b2 <;> cases b4 <;> cases b5 <;> decide
  · cases b1 <;> cases b2 <;> cases b4 <;> cases b5 <;> decide +kernel
  · cases b1 <;> cases b2 <;> cases b4 <;> cases b5 <;> decide +kernel
theorem ren_line (b1 b2 b4 b5 c0 c1 c2 c3 c4 c5 : Bool) : (lineB c0 c1 c2 c3 c4 c5).map (ren b1 b2 b4 b5) = lineB c0 (xor c1 b1) (xor c2 b2) c3 (xor c4 b4) (xor c5 b5) := by
  have key : (bools.all fun b1 => bools.all fun b2 => bools.all fun b4 => bools.all fun b5 => bools.all fun c0 => bools.all fun c1 => bools.all fun c2 => bools.all fun c3 => bools.all fun c4 => bools.all fun c5 =>
    decide ((lineB c0 c1 c2 c3 c4 c5).map (ren b1 b2 b4 b5) = lineB c0 (xor c1 b1) (xor c2 b2) c3 (xor c4 b4) (xor c5 b5))) = true := by decide +kernel
  exact of_decide_eq_true (all_bools (all_bools (all_bools (all_bools (all_bools (all_bools (all_bools (all_bools (all_bools (all_bools key b1) b2) b4) b5) c0) c1) c2) c3) c4) c5)
theorem line_alpha (c0 c1 c2 c3 c4 c5 : Bool) : ∀ c ∈ lineB c0 c1 c2 c3 c4 c5, c ∈ alpha := by
  cases c0 <;> cases c1 <;> cases c2 <;> cases c3 <;> cases c4 <;> cases c5 <;> decide
theorem dB_xor (b c : Bool) (w : Int) : dB false (xor c b) w = dB b c w := by cases b <;> cases c <;> rfl
/-- how far two lines are apart -/
theorem lev_line (b0 b1 b2 b3 b4 b5 c0 c1 c2 c3 c4 c5 : Bool) {M : Int} (hM : dB b0 c0 2 + dB b1 c1 1 + dB b2 c2 1 + dB b3 c3 2 + dB b4 c4 1 + dB b5 c5 2 ≤ M) :
    lev (lineB b0 b1 b2 b3 b4 b5) (lineB c0 c1 c2 c3 c4 c5) M = dB b0 c0 2 + dB b1 c1 1 + dB b2 c2 1 + dB b3 c3 2 + dB b4 c4 1 + dB b5 c5 2 := by
  refine isD_lev (line_alpha _ _ _ _ _ _) (line_alpha _ _ _ _ _ _) ?_ hM
  rw [← isD_map (ren_ok b1 b2 b4 b5) (line_alpha _ _ _ _ _ _) (line_alpha _ _ _ _ _ _), ren_line, ren_line, Bool.xor_self, Bool.xor_self, Bool.xor_self, Bool.xor_self]
  have := base b0 b3 c0 (xor c1 b1) (xor c2 b2) c3 (xor c4 b4) (xor c5 b5)
  simp only [dB_xor] at this
  exact this
/-! ## counting, plainly -/
noncomputable def cnt (p : Nat → Bool) : Nat → Nat
  | 0 => 0
  | m + 1 => cnt p m + if p m = true then 1 else 0
theorem cnt_le (p : Nat → Bool) : ∀ m, cnt p m ≤ m
  | 0 => Nat.le_refl _
  | m + 1 => by have := cnt_le p m; unfold cnt; split <;> omega
theorem cnt_mono {p q : Nat → Bool} : ∀ {m : Nat}, (∀ i, i < m → p i = true → q i = true) → cnt p m ≤ cnt q m
  | 0, _ => Nat.le_refl _
  | m + 1, h => by
    have ih := cnt_mono (m := m) fun i hi => h i (by omega)
    have hm := h m (by omega)
    unfold cnt
    by_cases e : p m = true
    · rw [if_pos e, if_pos (hm e)]; omega
    · rw [if_neg e]; split <;> omega
theorem cnt_congr {p q : Nat → Bool} {m : Nat} (h : ∀ i, i < m → p i = q i) : cnt p m = cnt q m :=
  Nat.le_antisymm (cnt_mono fun i hi e => by rw [← h i hi]; exact e) (cnt_mono fun i hi e => by rw [h i hi]; exact e)
theorem cnt_lt {p q : Nat → Bool} : ∀ {m : Nat}, (∀ i, i < m → p i = true → q i = true) → ∀ j, j < m → q j = true → p j = false → cnt p m < cnt q m
  | 0, _, j, hj, _, _ => absurd hj (Nat.not_lt_zero _)
  | m + 1, h, j, hj, hq, hp => by
    unfold cnt
    by_cases e : j = m
    · subst e
      have := cnt_mono (m := j) fun i hi => h i (by omega)
      rw [hp, if_neg Bool.false_ne_true, if_pos hq]; omega
    · have ih := cnt_lt (m := m) (fun i hi => h i (by omega)) j (by omega) hq hp
      have hm := h m (by omega)
      by_cases e : p m = true
      · rw [if_pos e, if_pos (hm e)]; omega
      · rw [if_neg e]; split <;> omega
theorem cnt_pos {p : Nat → Bool} : ∀ {m : Nat}, 0 < cnt p m → ∃ i, i < m ∧ p i = true
  | 0, h => absurd h (Nat.lt_irrefl _)
  | m + 1, h => by
    by_cases e : p m = true
    · exact ⟨m, by omega, e⟩
    · unfold cnt at h
      rw [if_neg e] at h
      obtain ⟨i, hi, hp⟩ := cnt_pos (m := m) (by omega)
      exact ⟨i, by omega, hp⟩
theorem cnt_two {p : Nat → Bool} : ∀ {m : Nat}, 2 ≤ cnt p m → ∃ i j, i < j ∧ j < m ∧ p i = true ∧ p j = true
  | 0, h => absurd h (by unfold cnt; omega)
  | m + 1, h => by
    unfold cnt at h
    by_cases e : p m = true
    · rw [if_pos e] at h
      obtain ⟨i, hi, hp⟩ := cnt_pos (p := p) (m := m) (by omega)
      exact ⟨i, m, hi, by omega, hp, e⟩
    · rw [if_neg e] at h
      obtain ⟨i, j, h1, h2, h3⟩ := cnt_two (m := m) (by omega)
      exact ⟨i, j, h1, by omega, h3⟩
theorem cnt_one {p : Nat → Bool} {m i : Nat} (hi : i < m) (hp : p i = true) : 1 ≤ cnt p m := by
  have := cnt_lt (p := fun _ => false) (q := p) (m := m) (fun _ _ e => nomatch e) i hi hp rfl
  omega
theorem cnt_two' {p : Nat → Bool} {m i j : Nat} (hi : i < m) (hj : j < m) (hne : i ≠ j) (hpi : p i = true) (hpj : p j = true) : 2 ≤ cnt p m := by
  have h1 := cnt_lt (p := fun l => p l && decide (l ≠ i)) (q := p) (m := m) (fun l _ e => by simp at e; exact e.1) i hi hpi (by simp)
  have h2 := cnt_one (p := fun l => p l && decide (l ≠ i)) hj (by simp [hpj]; exact fun e => hne e.symm)
  omega
theorem cnt_not (p : Nat → Bool) : ∀ m, cnt p m + cnt (fun i => !p i) m = m
  | 0 => rfl
  | m + 1 => by
    have := cnt_not p m
    unfold cnt
    cases p m <;> simp <;> omega
noncomputable def side (p : Nat → Bool) (x : Bool) : Nat → Bool := fun i => p i == x
theorem side_iff {p : Nat → Bool} {x : Bool} {i : Nat} : side p x i = true ↔ p i = x := by unfold side; exact beq_iff_eq
theorem side_not (p : Nat → Bool) (x : Bool) (m : Nat) : cnt (side p x) m + cnt (side p (!x)) m = m := by
  have := cnt_not (side p x) m
  have e : cnt (fun i => !side p x i) m = cnt (side p (!x)) m := cnt_congr fun i _ => by unfold side; cases p i <;> cases x <;> rfl
  omega

/-! ## six splits -/
noncomputable def sumK (f : Nat → Int) : Int := f 0 + f 1 + f 2 + f 3 + f 4 + f 5
theorem sumK_congr {f g : Nat → Int} (h : ∀ k, k < 6 → f k = g k) : sumK f = sumK g := by
  unfold sumK; rw [h 0 (by omega), h 1 (by omega), h 2 (by omega), h 3 (by omega), h 4 (by omega), h 5 (by omega)]
theorem sumK_le {f g : Nat → Int} (h : ∀ k, k < 6 → f k ≤ g k) : sumK f ≤ sumK g := by
  unfold sumK
  have := h 0 (by omega); have := h 1 (by omega); have := h 2 (by omega); have := h 3 (by omega); have := h 4 (by omega); have := h 5 (by omega)
  omega
theorem sumK_lt {f g : Nat → Int} (h : ∀ k, k < 6 → f k ≤ g k) {s : Nat} (hs : s < 6) (hl : f s < g s) : sumK f < sumK g := by
  unfold sumK
  have h0 := h 0 (by omega); have h1 := h 1 (by omega); have h2 := h 2 (by omega); have h3 := h 3 (by omega); have h4 := h 4 (by omega); have h5 := h 5 (by omega)
  have : s = 0 ∨ s = 1 ∨ s = 2 ∨ s = 3 ∨ s = 4 ∨ s = 5 := by omega
  rcases this with rfl | rfl | rfl | rfl | rfl | rfl <;> omega
theorem sumK_add (f g : Nat → Int) : sumK f + sumK g = sumK fun k => f k + g k := by unfold sumK; dsimp only; omega
theorem sumK_sub (f g : Nat → Int) : sumK f - sumK g = sumK fun k => f k - g k := by unfold sumK; dsimp only; omega
theorem sumK_mul (c : Int) (f : Nat → Int) : c * sumK f = sumK fun k => c * f k := by unfold sumK; simp only [Int.mul_add]

/-- two splits that a tree can bear -/
noncomputable def Compat (m : Nat) (p q : Nat → Bool) : Prop := ∃ x y : Bool, ∀ i, i < m → p i = x → q i = y → False
noncomputable def Inner (m : Nat) (p : Nat → Bool) : Prop := ∀ x, 2 ≤ cnt (side p x) m
section
variable {m : Nat} {W : Nat → Int} {o : Nat → Nat → Bool}

/-- within any side of a split of weight there is a pair that no inner split of weight cuts -/
theorem find_pair (hc : ∀ k l, k < 6 → l < 6 → 0 < W k → 0 < W l → Compat m (o k) (o l)) : ∀ (N s : Nat) (x : Bool), s < 6 → 0 < W s → cnt (side (o s) x) m ≤ N → 2 ≤ cnt (side (o s) x) m →
    ∃ c d, c < d ∧ d < m ∧ o s c = x ∧ o s d = x ∧ ∀ k, k < 6 → 0 < W k → Inner m (o k) → o k c = o k d
  | 0, s, x, hs, hw, hN, h2 => by omega
  | N + 1, s, x, hs, hw, hN, h2 => by
    obtain ⟨c, d, hcd, hd, hpc, hpd⟩ := cnt_two h2
    have hpc := side_iff.mp hpc
    have hpd := side_iff.mp hpd
    by_cases hall : ∀ k, k < 6 → 0 < W k → Inner m (o k) → o k c = o k d
    · exact ⟨c, d, hcd, hd, hpc, hpd, hall⟩
    · have hex : ∃ k, k < 6 ∧ 0 < W k ∧ Inner m (o k) ∧ o k c ≠ o k d := by
        refine Classical.byContradiction fun hno => hall fun k h1 h2 h3 => Classical.byContradiction fun h4 => hno ⟨k, h1, h2, h3, h4⟩
      obtain ⟨k, hk, hwk, hin, hne⟩ := hex
      obtain ⟨u, v, huv⟩ := hc s k hs hk hw hwk
      by_cases hux : u = x
      · subst hux
        have h1 : o k c ≠ v := fun e => huv c (by omega) hpc e
        have h2 : o k d ≠ v := fun e => huv d hd hpd e
        exfalso
        apply hne
        revert h1 h2
        cases o k c <;> cases o k d <;> cases v <;> simp
      · have hsub : ∀ i, i < m → o k i = v → o s i = x := fun i hi e => by
          have : o s i ≠ u := fun e' => huv i hi e' e
          revert this hux
          cases o s i <;> cases u <;> cases x <;> simp
        have hlt : cnt (side (o k) v) m < cnt (side (o s) x) m := by
          by_cases hcv : o k c = v
          · have hdv : o k d ≠ v := fun e => hne (hcv.trans e.symm)
            exact cnt_lt (fun i hi e => side_iff.mpr (hsub i hi (side_iff.mp e))) d hd (side_iff.mpr hpd) (by unfold side; exact beq_eq_false_iff_ne.mpr hdv)
          · exact cnt_lt (fun i hi e => side_iff.mpr (hsub i hi (side_iff.mp e))) c (by omega) (side_iff.mpr hpc) (by unfold side; exact beq_eq_false_iff_ne.mpr hcv)
        obtain ⟨c', d', h1, h2, h3, h4, h5⟩ := find_pair hc N k v hk hwk (by omega) (hin v)
        exact ⟨c', d', h1, h2, hsub c' (by omega) h3, hsub d' h2 h4, h5⟩

/-- what a split adds to the pair's number, over its weight -/
noncomputable def qOf (m : Nat) (p : Nat → Bool) (i j : Nat) : Int := if p i = p j then -2 * (cnt (side p (!p i)) m : Nat) else -2
theorem q_outer {p : Nat → Bool} (hin : ¬ Inner m p) : ∃ z : Int, ∀ i j, i < m → j < m → i ≠ j → qOf m p i j = z := by
  have hex : ∃ x, cnt (side p x) m ≤ 1 := Classical.byContradiction fun h => hin fun x => by
    exact Nat.lt_of_not_le fun h' => h ⟨x, h'⟩
  obtain ⟨x, hx⟩ := hex
  by_cases h0 : cnt (side p x) m = 0
  · refine ⟨0, fun i j hi hj _ => ?_⟩
    have ne : ∀ i, i < m → p i ≠ x := fun i hi e => by have := cnt_one hi (side_iff.mpr e : side p x i = true); omega
    have hi' := ne i hi
    have hj' := ne j hj
    have e : p i = p j := by revert hi' hj'; cases p i <;> cases p j <;> cases x <;> simp
    have e2 : (!p i) = x := by revert hi'; cases p i <;> cases x <;> simp
    unfold qOf
    rw [if_pos e, e2, h0]; rfl
  · refine ⟨-2, fun i j hi hj hne => ?_⟩
    unfold qOf
    by_cases e : p i = p j
    · rw [if_pos e]
      have hi' : p i ≠ x := fun e' => by have := cnt_two' hi hj hne (side_iff.mpr e' : side p x i = true) (side_iff.mpr (e ▸ e') : side p x j = true); omega
      have e2 : (!p i) = x := by revert hi'; cases p i <;> cases x <;> simp
      rw [e2, show cnt (side p x) m = 1 by omega]; rfl
    · rw [if_neg e]

/-- the least pair: a split of weight that cuts it leaves one of the two alone -/
theorem cherry (hW : ∀ k, k < 6 → 0 ≤ W k) (hc : ∀ k l, k < 6 → l < 6 → 0 < W k → 0 < W l → Compat m (o k) (o l)) {a b : Nat} (ha : a < m) (hb : b < m) (hmin : ∀ c d, c < d → d < m → sumK (fun k => W k * qOf m (o k) a b) ≤ sumK (fun k => W k * qOf m (o k) c d))
    {s : Nat} (hs : s < 6) (hws : 0 < W s) (hab : o s a ≠ o s b) : (∀ i, i < m → i ≠ a → o s i = o s b) ∨ (∀ i, i < m → i ≠ b → o s i = o s a) := by
  refine Classical.byContradiction fun hno => ?_
  have hno1 : ¬ ∀ i, i < m → i ≠ a → o s i = o s b := fun h => hno (.inl h)
  have hno2 : ¬ ∀ i, i < m → i ≠ b → o s i = o s a := fun h => hno (.inr h)
  have hab' : ∀ y : Bool, y = o s a ∨ y = o s b := fun y => by revert hab; cases o s a <;> cases o s b <;> cases y <;> simp
  have ea : ∃ i, i < m ∧ i ≠ a ∧ o s i = o s a := Classical.byContradiction fun h => hno1 fun i hi hne => (hab' (o s i)).elim (fun e => absurd ⟨i, hi, hne, e⟩ h) id
  have eb : ∃ i, i < m ∧ i ≠ b ∧ o s i = o s b := Classical.byContradiction fun h => hno2 fun i hi hne => (hab' (o s i)).elim id (fun e => absurd ⟨i, hi, hne, e⟩ h)
  obtain ⟨i, hi, hia, ei⟩ := ea
  obtain ⟨j, hj, hjb, ej⟩ := eb
  have hin : Inner m (o s) := fun y => by
    rcases hab' y with rfl | rfl
    · exact cnt_two' hi ha hia (side_iff.mpr ei) (side_iff.mpr rfl)
    · exact cnt_two' hj hb hjb (side_iff.mpr ej) (side_iff.mpr rfl)
  -- the smaller side
  have hx : ∃ x, cnt (side (o s) x) m ≤ cnt (side (o s) (!x)) m := by
    by_cases h : cnt (side (o s) true) m ≤ cnt (side (o s) false) m
    · exact ⟨true, h⟩
    · exact ⟨false, by show cnt (side (o s) false) m ≤ cnt (side (o s) true) m; omega⟩
  obtain ⟨x, hx⟩ := hx
  obtain ⟨c, d, hcd, hd, hsc, hsd, hnone⟩ := find_pair hc _ s x hs hws (Nat.le_refl _) (hin x)
  have hcm : c < m := by omega
  have hne_ab : a ≠ b := fun e => hab (by rw [e])
  refine absurd (hmin c d hcd hd) (Int.not_le.mpr (sumK_lt (s := s) (fun k hk => ?_) hs ?_))
  · rcases Int.lt_or_eq_of_le (hW k hk) with hw | hw
    · refine Int.mul_le_mul_of_nonneg_left ?_ (Int.le_of_lt hw)
      by_cases hik : Inner m (o k)
      · have ecd := hnone k hk hw hik
        have hopp := hik (!o k c)
        unfold qOf
        rw [if_pos ecd]
        by_cases eab : o k a = o k b
        · rw [if_pos eab]
          by_cases eac : o k a = o k c
          · rw [eac]; exact Int.le_refl _
          · -- both pairs lie on different sides of k
            obtain ⟨u, v, huv⟩ := hc s k hs hk hws hw
            have hkc : (!o k c) = o k a := by revert eac; cases o k a <;> cases o k c <;> simp
            have hka : (!o k a) = o k c := by revert eac; cases o k a <;> cases o k c <;> simp
            rw [hkc, hka]
            -- one of a, b lies in the side x, the other beyond
            have hsx : ∃ g, g < m ∧ o s g = x ∧ o k g = o k a := by
              rcases hab' x with e | e
              · exact ⟨a, ha, e.symm, rfl⟩
              · exact ⟨b, hb, e.symm, eab.symm⟩
            have hsnx : ∃ g, g < m ∧ o s g = (!x) ∧ o k g = o k a := by
              rcases hab' (!x) with e | e
              · exact ⟨a, ha, e.symm, rfl⟩
              · exact ⟨b, hb, e.symm, eab.symm⟩
            obtain ⟨g, hg, hgs, hgk⟩ := hsx
            obtain ⟨g', hg', hgs', hgk'⟩ := hsnx
            have hv : v = o k c := by
              refine Classical.byContradiction fun hv => ?_
              have hva : v = o k a := by revert hv eac; cases v <;> cases o k c <;> cases o k a <;> simp
              by_cases hu : u = x
              · exact huv g hg (hgs.trans hu.symm) (hgk.trans hva.symm)
              · have hu : u = (!x) := by revert hu; cases u <;> cases x <;> simp
                exact huv g' hg' (hgs'.trans hu.symm) (hgk'.trans hva.symm)
            have hu : u = (!x) := by
              refine Classical.byContradiction fun hu => ?_
              have hu : u = x := by revert hu; cases u <;> cases x <;> simp
              exact huv c hcm (hsc.trans hu.symm) hv.symm
            have h1 : cnt (side (o s) (!x)) m ≤ cnt (side (o k) (o k a)) m := cnt_mono fun i hi e => side_iff.mpr (by
              have hs' := side_iff.mp e
              have : o k i ≠ o k c := fun e' => huv i hi (hs'.trans hu.symm) (e'.trans hv.symm)
              revert this eac; cases o k i <;> cases o k c <;> cases o k a <;> simp)
            have h2 : cnt (side (o k) (o k c)) m ≤ cnt (side (o s) x) m := cnt_mono fun i hi e => side_iff.mpr (by
              have hk' := side_iff.mp e
              have : o s i ≠ (!x) := fun e' => huv i hi (e'.trans hu.symm) (hk'.trans hv.symm)
              revert this; cases o s i <;> cases x <;> simp)
            omega
        · rw [if_neg eab]; omega
      · obtain ⟨z, hz⟩ := q_outer hik
        rw [hz c d hcm hd (by omega), hz a b ha hb hne_ab]; exact Int.le_refl _
    · rw [← hw, Int.zero_mul, Int.zero_mul]; exact Int.le_refl _
  · refine Int.mul_lt_mul_of_pos_left ?_ hws
    have hopp := hin (!o s c)
    unfold qOf
    rw [if_pos (hsc.trans hsd.symm), if_neg hab]
    omega
end
/-! ## the least pair -/
theorem lex3_le {p q : Int × Int × Int} (h : lex3 p q = true) : p.1 ≤ q.1 := by
  unfold lex3 at h
  split at h
  · omega
  · have := of_decide_eq_true h; omega
theorem lex3_ge {p q : Int × Int × Int} (h : lex3 p q = false) : q.1 ≤ p.1 := by
  unfold lex3 at h
  split at h
  · omega
  · have := of_decide_eq_false h; omega
theorem least3_min (ps : List (Int × Int × Int)) : ∀ k j, j ≤ k → (ps[least3 ps k]?.getD (0, 0, 0)).1 ≤ (ps[j]?.getD (0, 0, 0)).1
  | 0, j, h => by
    have : j = 0 := by omega
    subst this; exact Int.le_refl _
  | k + 1, j, h => by
    unfold least3
    by_cases hj : j ≤ k
    · have ih := least3_min ps k j hj
      split
      · rename_i e; exact Int.le_trans (lex3_le e) ih
      · exact ih
    · have : j = k + 1 := by omega
      subst this
      split
      · exact Int.le_refl _
      · rename_i e; exact lex3_ge (by simpa using e)
theorem pickAB_min {t : List (List Int)} {m c d : Nat} (hcd : c < d) (hd : d < m) : (pickAB t m).1 ≤ ((m : Int) - 2) * tget t c d - (sumsOf t)[c]?.getD 0 - (sumsOf t)[d]?.getD 0 := by
  have hm : (((m : Int) - 2) * tget t c d - (sumsOf t)[c]?.getD 0 - (sumsOf t)[d]?.getD 0, (c : Int), (d : Int)) ∈ cand t m :=
    List.mem_flatMap.mpr ⟨d, List.mem_range.mpr hd, List.mem_map.mpr ⟨c, List.mem_range.mpr hcd, rfl⟩⟩
  obtain ⟨j, hj⟩ := List.getElem?_of_mem hm
  have hlt := (List.getElem?_eq_some_iff.mp hj).1
  have := least3_min (cand t m) ((cand t m).length - 1) j (by omega)
  rw [hj] at this
  exact this

/-! ## sums of rows -/
noncomputable def sumTo (f : Nat → Int) : Nat → Int
  | 0 => 0
  | m + 1 => sumTo f m + f m
theorem sumTo_shift (f : Nat → Int) : ∀ m, sumTo f (m + 1) = f 0 + sumTo (fun i => f (i + 1)) m
  | 0 => by simp [sumTo]
  | m + 1 => by
    show sumTo f (m + 1) + f (m + 1) = _
    rw [sumTo_shift f m]
    show _ = f 0 + (sumTo (fun i => f (i + 1)) m + f (m + 1))
    omega
theorem sum_list : ∀ l : List Int, l.sum = sumTo (fun j => l[j]?.getD 0) l.length
  | [] => rfl
  | x :: r => by
    rw [List.sum_cons, List.length_cons, sumTo_shift, sum_list r]
    rfl
theorem sumTo_congr {f g : Nat → Int} : ∀ {m : Nat}, (∀ i, i < m → f i = g i) → sumTo f m = sumTo g m
  | 0, _ => rfl
  | m + 1, h => by
    show sumTo f m + f m = sumTo g m + g m
    rw [sumTo_congr fun i hi => h i (by omega), h m (by omega)]
theorem sumTo_split (W : Nat → Int) (o : Nat → Nat → Bool) (i : Nat) : ∀ m, sumTo (fun j => 8 * sumK fun k => if o k i = o k j then 0 else W k) m = 8 * sumK fun k => W k * (cnt (side (o k) (!o k i)) m : Nat)
  | 0 => by unfold sumTo sumK; simp [cnt]
  | m + 1 => by
    show sumTo _ m + 8 * sumK _ = _
    rw [sumTo_split W o i m, ← Int.mul_add, sumK_add]
    congr 1
    refine sumK_congr fun k _ => ?_
    have e : cnt (side (o k) (!o k i)) (m + 1) = cnt (side (o k) (!o k i)) m + if side (o k) (!o k i) m = true then 1 else 0 := rfl
    rw [e]
    by_cases h : o k i = o k m
    · rw [if_pos h, if_neg (by rw [side_iff, h]; cases o k m <;> simp)]; simp
    · rw [if_neg h, if_pos (by rw [side_iff]; revert h; cases o k i <;> cases o k m <;> simp)]
      push_cast
      rw [Int.mul_add, Int.mul_one]

/-! ## what the joining keeps -/
noncomputable def inL (l : List Int) (x : Nat) : Bool := l.contains (x : Int)
noncomputable def outL (n : Nat) (p : Nat → Bool) : List Int := ((List.range n).filter p).map fun i : Nat => (i : Int)
noncomputable def restL (n : Nat) (g : List Int) : List Int := outL n fun x => !inL g x
noncomputable def matchK (n : Nat) (p : Nat → Bool) (g : List Int) : Bool := decide (outL n p = g) || decide (outL n p = restL n g)
noncomputable def nontriv (n : Nat) (p : Nat → Bool) : Bool := decide (0 < (outL n p).length) && decide ((outL n p).length < n)
theorem mem_outL {n : Nat} {p : Nat → Bool} {x : Nat} : (x : Int) ∈ outL n p ↔ x < n ∧ p x = true := by
  unfold outL
  rw [List.mem_map]
  constructor
  · rintro ⟨y, hy, e⟩
    have : y = x := by omega
    subst this
    rw [List.mem_filter, List.mem_range] at hy
    exact hy
  · exact fun h => ⟨x, by rw [List.mem_filter, List.mem_range]; exact h, rfl⟩
theorem mem_outL' {n : Nat} {p : Nat → Bool} {x : Int} (h : x ∈ outL n p) : ∃ y : Nat, x = y ∧ y < n ∧ p y = true := by
  unfold outL at h
  rw [List.mem_map] at h
  obtain ⟨y, hy, rfl⟩ := h
  rw [List.mem_filter, List.mem_range] at hy
  exact ⟨y, rfl, hy⟩
theorem outL_sorted (n : Nat) (p : Nat → Bool) : (outL n p).Pairwise (· ≤ ·) := by
  unfold outL
  rw [List.pairwise_map]
  refine List.Pairwise.imp (R := fun a b : Nat => a < b) (fun h => by omega) ?_
  exact List.pairwise_lt_range.sublist List.filter_sublist
theorem outL_nodup (n : Nat) (p : Nat → Bool) : (outL n p).Nodup := by
  unfold outL
  show List.Pairwise (· ≠ ·) _
  rw [List.pairwise_map]
  exact List.Pairwise.imp (R := fun a b : Nat => a ≠ b) (fun h e => h (Int.ofNat_inj.mp e)) (List.nodup_range.sublist List.filter_sublist)
theorem outL_eq {n : Nat} {p : Nat → Bool} {g : List Int} (hs : g.Pairwise (· ≤ ·)) (hn : g.Nodup) (hr : ∀ x ∈ g, ∃ y : Nat, x = y ∧ y < n) : outL n p = g ↔ ∀ x, x < n → (p x = true ↔ (x : Int) ∈ g) := by
  constructor
  · rintro rfl x hx
    rw [mem_outL]
    exact ⟨fun h => ⟨hx, h⟩, fun h => h.2⟩
  · intro h
    refine List.Perm.eq_of_pairwise (fun a b _ _ h h' => Int.le_antisymm h h') (outL_sorted n p) hs ((List.perm_ext_iff_of_nodup (outL_nodup n p) hn).mpr fun x => ?_)
    constructor
    · intro hx
      obtain ⟨y, rfl, hy, hp⟩ := mem_outL' hx
      exact (h y hy).mp hp
    · intro hx
      obtain ⟨y, rfl, hy⟩ := hr x hx
      exact mem_outL.mpr ⟨hy, (h y hy).mpr hx⟩
theorem outL_congr {n : Nat} {p q : Nat → Bool} : outL n p = outL n q ↔ ∀ x, x < n → p x = q x := by
  constructor
  · intro h x hx
    have h1 : p x = true → q x = true := fun e => (mem_outL.mp (h ▸ mem_outL.mpr ⟨hx, e⟩ : (x : Int) ∈ outL n q)).2
    have h2 : q x = true → p x = true := fun e => (mem_outL.mp (h ▸ mem_outL.mpr ⟨hx, e⟩ : (x : Int) ∈ outL n p)).2
    cases hp : p x
    · cases hq : q x
      · rfl
      · exact absurd (h2 hq) (by rw [hp]; exact Bool.false_ne_true)
    · exact (h1 hp).symm
  · intro h
    unfold outL
    congr 1
    exact List.filter_congr fun x hx => h x (List.mem_range.mp hx)
theorem inL_iff {g : List Int} {x : Nat} : inL g x = true ↔ (x : Int) ∈ g := by unfold inL; exact List.contains_iff_mem

structure NJ (n : Nat) (toll : Nat → Int) (out : Nat → Nat → Bool) (J : JS) (W : Nat → Int) (o : Nat → Nat → Bool) : Prop where
  sq : J.Sq
  tab : ∀ i j, i < J.g.length → j < J.g.length → tget J.t i j = 8 * sumK fun k => if o k i = o k j then 0 else W k
  hW : ∀ k, k < 6 → 0 ≤ W k
  compat : ∀ k l, k < 6 → l < 6 → 0 < W k → 0 < W l → Compat J.g.length (o k) (o l)
  alive : ∀ k, k < 6 → 0 < W k → W k = toll k ∧ ∀ i, i < J.g.length → ∀ x : Nat, (x : Int) ∈ J.gat i → out k x = o k i
  dead : ∀ k, k < 6 → W k = 0 → 0 < toll k → ∃ i, i < J.g.length ∧ ∃ x y : Nat, (x : Int) ∈ J.gat i ∧ (y : Int) ∈ J.gat i ∧ out k x ≠ out k y
  flat : J.g.flatten.Perm ((List.range n).map fun i : Nat => (i : Int))
  ne : ∀ i, i < J.g.length → J.gat i ≠ []
  sorted : ∀ i, i < J.g.length → (J.gat i).Pairwise (· ≤ ·)
  ls : ∀ p ∈ J.ls, p.2 = 16 * sumK fun k => if matchK n (out k) p.1 = true then toll k else 0
  sum : (J.ls.map (·.2)).sum = 16 * sumK fun k => toll k - W k

section
variable {n : Nat} {toll : Nat → Int} {out : Nat → Nat → Bool} {J : JS} {W : Nat → Int} {o : Nat → Nat → Bool}
theorem NJ.range (H : NJ n toll out J W o) {i : Nat} (hi : i < J.g.length) : ∀ x ∈ J.gat i, ∃ y : Nat, x = y ∧ y < n := fun x hx => by
  have : x ∈ J.g.flatten := List.mem_flatten.mpr ⟨J.gat i, by unfold JS.gat; rw [List.getElem?_eq_getElem hi]; exact List.getElem_mem hi, hx⟩
  have := (H.flat.mem_iff).mp this
  obtain ⟨y, hy, rfl⟩ := List.mem_map.mp this
  exact ⟨y, rfl, List.mem_range.mp hy⟩
theorem NJ.where_ (H : NJ n toll out J W o) {x : Nat} (hx : x < n) : ∃ i, i < J.g.length ∧ (x : Int) ∈ J.gat i := by
  have : (x : Int) ∈ J.g.flatten := H.flat.mem_iff.mpr (List.mem_map.mpr ⟨x, List.mem_range.mpr hx, rfl⟩)
  obtain ⟨g, hg, hx⟩ := List.mem_flatten.mp this
  obtain ⟨i, hi, e⟩ := List.getElem_of_mem hg
  exact ⟨i, hi, by unfold JS.gat; rw [List.getElem?_eq_getElem hi, e]; exact hx⟩
theorem NJ.nodup (H : NJ n toll out J W o) : J.g.flatten.Nodup := by
  refine (H.flat.nodup_iff).mpr ?_
  show List.Pairwise (· ≠ ·) _
  rw [List.pairwise_map]
  exact List.Pairwise.imp (R := fun a b : Nat => a ≠ b) (fun h e => h (Int.ofNat_inj.mp e)) List.nodup_range
theorem NJ.gnodup (H : NJ n toll out J W o) {i : Nat} (hi : i < J.g.length) : (J.gat i).Nodup := by
  have := (List.pairwise_flatten.mp (show List.Pairwise (· ≠ ·) J.g.flatten from H.nodup)).1
  exact this _ (by unfold JS.gat; rw [List.getElem?_eq_getElem hi]; exact List.getElem_mem hi)
theorem NJ.apart (H : NJ n toll out J W o) {i j : Nat} (hi : i < J.g.length) (hj : j < J.g.length) {x : Int} (h1 : x ∈ J.gat i) (h2 : x ∈ J.gat j) : i = j := by
  have := (List.pairwise_flatten.mp (show List.Pairwise (· ≠ ·) J.g.flatten from H.nodup)).2
  rw [List.pairwise_iff_getElem] at this
  have e1 : J.gat i = J.g[i] := by unfold JS.gat; rw [List.getElem?_eq_getElem hi]; rfl
  have e2 : J.gat j = J.g[j] := by unfold JS.gat; rw [List.getElem?_eq_getElem hj]; rfl
  rw [e1] at h1; rw [e2] at h2
  rcases Nat.lt_trichotomy i j with h | h | h
  · exact absurd rfl (this i j hi hj h x h1 x h2)
  · exact h
  · exact absurd rfl (this j i hj hi h x h2 x h1)
theorem NJ.some (H : NJ n toll out J W o) {i : Nat} (hi : i < J.g.length) : ∃ x : Nat, x < n ∧ (x : Int) ∈ J.gat i := by
  obtain ⟨x, hx⟩ := List.exists_mem_of_ne_nil _ (H.ne i hi)
  obtain ⟨y, rfl, hy⟩ := H.range hi x hx
  exact ⟨y, hy, hx⟩
/-- what the law asks of a group -/
theorem NJ.match_iff (H : NJ n toll out J W o) {i : Nat} (hi : i < J.g.length) (p : Nat → Bool) : matchK n p (J.gat i) = true ↔ (∀ x, x < n → (p x = true ↔ (x : Int) ∈ J.gat i)) ∨ (∀ x, x < n → (p x = true ↔ (x : Int) ∉ J.gat i)) := by
  unfold matchK
  rw [Bool.or_eq_true, decide_eq_true_eq, decide_eq_true_eq, outL_eq (H.sorted i hi) (H.gnodup hi) (H.range hi)]
  refine or_congr_right ?_
  unfold restL
  rw [outL_congr]
  refine forall_congr' fun x => imp_congr_right fun hx => ?_
  rw [← inL_iff]
  cases p x <;> cases inL (J.gat i) x <;> simp
theorem NJ.match_alive (H : NJ n toll out J W o) {i k : Nat} (hi : i < J.g.length) (hk : k < 6) (hw : 0 < W k) : matchK n (out k) (J.gat i) = true ↔ ∀ j, j < J.g.length → j ≠ i → o k j ≠ o k i := by
  rw [H.match_iff hi]
  obtain ⟨_, hal⟩ := H.alive k hk hw
  constructor
  · intro h j hj hne e
    obtain ⟨x, hx, hxi⟩ := H.some hi
    obtain ⟨y, hy, hyj⟩ := H.some hj
    have hyi : (y : Int) ∉ J.gat i := fun h' => hne (H.apart hj hi hyj h')
    have e1 := hal i hi x hxi
    have e2 := hal j hj y hyj
    rcases h with h | h
    · have a1 := (h x hx).mpr hxi
      have a2 := h y hy
      rw [e2, e, ← e1, a1] at a2
      exact hyi (a2.mp rfl)
    · have a1 := (h y hy).mpr hyi
      have a2 := h x hx
      rw [e1, ← e, ← e2, a1] at a2
      exact (a2.mp rfl) hxi
  · intro h
    have key : ∀ x, x < n → (out k x = o k i ↔ (x : Int) ∈ J.gat i) := fun x hx => by
      obtain ⟨j, hj, hxj⟩ := H.where_ hx
      rw [hal j hj x hxj]
      constructor
      · intro e
        by_cases hji : j = i
        · subst hji; exact hxj
        · exact absurd e (h j hj hji)
      · intro hxi
        rw [H.apart hj hi hxj hxi]
    cases ho : o k i
    · refine .inr fun x hx => ?_
      rw [← key x hx, ho]; cases out k x <;> simp
    · refine .inl fun x hx => ?_
      rw [← key x hx, ho]
theorem NJ.match_dead (H : NJ n toll out J W o) {i k : Nat} (hi : i < J.g.length) (hk : k < 6) (hw : W k = 0) (ht : 0 < toll k) : matchK n (out k) (J.gat i) = false := by
  cases hm : matchK n (out k) (J.gat i) with
  | false => rfl
  | true =>
    rw [H.match_iff hi] at hm
    obtain ⟨j, hj, x, y, hx, hy, hne⟩ := H.dead k hk hw ht
    obtain ⟨x', ex, hxn⟩ := H.range hj x hx
    obtain ⟨y', ey, hyn⟩ := H.range hj y hy
    have hxn : x < n := by omega
    have hyn : y < n := by omega
    have hsame : (x : Int) ∈ J.gat i ↔ (y : Int) ∈ J.gat i := ⟨fun h => by rw [← H.apart hj hi hx h]; exact hy, fun h => by rw [← H.apart hj hi hy h]; exact hx⟩
    exfalso
    apply hne
    rcases hm with hm | hm
    · have := (hm x hxn).trans (hsame.trans (hm y hyn).symm)
      cases h1 : out k x <;> cases h2 : out k y <;> simp_all
    · have := (hm x hxn).trans ((not_congr hsame).trans (hm y hyn).symm)
      cases h1 : out k x <;> cases h2 : out k y <;> simp_all
end
theorem JS.c_mem' {J : JS} (h : 3 ≤ J.g.length) : J.c ∈ J.others := by
  have := JS.others_len (J := J) (by omega)
  have h0 : 0 < J.others.length := by omega
  unfold JS.c
  rw [List.getElem?_eq_getElem h0]
  exact List.getElem_mem h0
section
variable {n : Nat} {toll : Nat → Int} {out : Nat → Nat → Bool} {J : JS} {W : Nat → Int} {o : Nat → Nat → Bool}
theorem NJ.rows (H : NJ n toll out J W o) {i : Nat} (hi : i < J.g.length) : (sumsOf J.t)[i]?.getD 0 = 8 * sumK fun k => W k * (cnt (side (o k) (!o k i)) J.g.length : Nat) := by
  have hl : i < J.t.length := by rw [H.sq.len]; exact hi
  have e : (sumsOf J.t)[i]?.getD 0 = (J.t[i]).sum := by unfold sumsOf; simp [hl]
  rw [e, sum_list, H.sq.row _ (List.getElem_mem hl), ← sumTo_split W o i]
  refine sumTo_congr fun j hj => ?_
  rw [← H.tab i j hi hj]
  unfold tget
  rw [List.getElem?_eq_getElem hl]; rfl
theorem NJ.q (H : NJ n toll out J W o) {i j : Nat} (hi : i < J.g.length) (hj : j < J.g.length) : ((J.g.length : Int) - 2) * tget J.t i j - (sumsOf J.t)[i]?.getD 0 - (sumsOf J.t)[j]?.getD 0 = 8 * sumK fun k => W k * qOf J.g.length (o k) i j := by
  rw [H.rows hi, H.rows hj, H.tab i j hi hj]
  generalize J.g.length = m
  have e : ((m : Int) - 2) * (8 * sumK fun k => if o k i = o k j then 0 else W k) = 8 * sumK fun k => ((m : Int) - 2) * (if o k i = o k j then 0 else W k) := by
    rw [← sumK_mul, ← Int.mul_assoc, Int.mul_comm ((m : Int) - 2) 8, Int.mul_assoc]
  rw [e, ← Int.mul_sub, ← Int.mul_sub, sumK_sub, sumK_sub]
  congr 1
  refine sumK_congr fun k _ => ?_
  unfold qOf
  by_cases h : o k i = o k j
  · rw [if_pos h, if_pos h, h, Int.mul_zero, Int.zero_sub]
    generalize ((cnt (side (o k) (!o k j)) m : Nat) : Int) = N
    rw [show W k * (-2 * N) = -2 * (W k * N) by rw [← Int.mul_assoc, Int.mul_comm (W k) (-2), Int.mul_assoc]]
    omega
  · rw [if_neg h, if_neg h]
    have hs := side_not (o k) (o k i) m
    have hij : (!o k j) = o k i := by revert h; cases o k i <;> cases o k j <;> simp
    rw [hij]
    have e1 : W k * (cnt (side (o k) (!o k i)) m : Nat) + W k * (cnt (side (o k) (o k i)) m : Nat) = W k * m := by
      rw [← Int.mul_add]; congr 1; omega
    have e2 : ((m : Int) - 2) * W k = W k * m - 2 * W k := by rw [Int.sub_mul, Int.mul_comm (m : Int)]
    have e3 : W k * -2 = -(2 * W k) := by rw [Int.mul_neg, Int.mul_comm]
    omega
theorem NJ.least (H : NJ n toll out J W o) (h2 : 2 ≤ J.g.length) : ∀ c d, c < d → d < J.g.length → sumK (fun k => W k * qOf J.g.length (o k) J.a J.b) ≤ sumK (fun k => W k * qOf J.g.length (o k) c d) := fun c d hcd hd => by
  obtain ⟨hab, hb, _⟩ := JS.ab h2
  have h1 := pickAB_min (t := J.t) hcd hd
  rw [H.q (by omega) hd] at h1
  obtain ⟨i, j, _, _, e⟩ := pickAB_at (t := J.t) h2
  have ea : J.a = i := by unfold JS.a; rw [e]; simp
  have eb : J.b = j := by unfold JS.b; rw [e]; simp
  have h0 : (pickAB J.t J.g.length).1 = ((J.g.length : Int) - 2) * tget J.t J.a J.b - (sumsOf J.t)[J.a]?.getD 0 - (sumsOf J.t)[J.b]?.getD 0 := by rw [e, ea, eb]
  rw [h0, H.q (by omega) hb] at h1
  omega
/-- a split of weight that cuts the least pair leaves one of the two alone -/
theorem NJ.cut (H : NJ n toll out J W o) (h2 : 2 ≤ J.g.length) {k : Nat} (hk : k < 6) (hw : 0 < W k) (hab : o k J.a ≠ o k J.b) : (∀ i, i < J.g.length → i ≠ J.a → o k i = o k J.b) ∨ (∀ i, i < J.g.length → i ≠ J.b → o k i = o k J.a) := by
  obtain ⟨hlt, hb, _⟩ := JS.ab h2
  exact cherry H.hW H.compat (by omega) hb (H.least h2) hk hw hab

/-- how long a group is, by three groups -/
theorem NJ.three (H : NJ n toll out J W o) {a b c : Nat} (ha : a < J.g.length) (hb : b < J.g.length) (hc : c < J.g.length) : tget J.t a b + tget J.t a c - tget J.t b c = 16 * sumK fun k => if o k a ≠ o k b ∧ o k a ≠ o k c then W k else 0 := by
  rw [H.tab a b ha hb, H.tab a c ha hc, H.tab b c hb hc, ← Int.mul_add, ← Int.mul_sub, sumK_add, sumK_sub, show (16 : Int) = 8 * 2 from rfl, Int.mul_assoc, sumK_mul 2]
  congr 1
  refine sumK_congr fun k _ => ?_
  cases o k a <;> cases o k b <;> cases o k c <;> simp <;> omega
theorem NJ.length (H : NJ n toll out J W o) (ht : ∀ k, k < 6 → 0 ≤ toll k) {a b c : Nat} (ha : a < J.g.length) (hb : b < J.g.length) (hc : c < J.g.length) (hab : a ≠ b) (hac : a ≠ c) (halone : ∀ k, k < 6 → 0 < W k → o k a ≠ o k b → o k a ≠ o k c → ∀ i, i < J.g.length → i ≠ a → o k i ≠ o k a) :
    tget J.t a b + tget J.t a c - tget J.t b c = 16 * sumK fun k => if matchK n (out k) (J.gat a) = true then toll k else 0 := by
  rw [H.three ha hb hc]
  congr 1
  refine sumK_congr fun k hk => ?_
  rcases Int.lt_or_eq_of_le (H.hW k hk) with hw | hw
  · obtain ⟨e, _⟩ := H.alive k hk hw
    by_cases h : o k a ≠ o k b ∧ o k a ≠ o k c
    · rw [if_pos h, if_pos ((H.match_alive ha hk hw).mpr (halone k hk hw h.1 h.2)), e]
    · rw [if_neg h, if_neg fun hm => h ?_]
      have := (H.match_alive ha hk hw).mp hm
      exact ⟨fun e => this b hb (fun e' => hab e'.symm) e.symm, fun e => this c hc (fun e' => hac e'.symm) e.symm⟩
  · rw [← hw]
    rcases Int.lt_or_eq_of_le (ht k hk) with h | h
    · rw [H.match_dead ha hk hw.symm h]; simp
    · rw [← h]; simp

/-- from a new group's place to an old one -/
noncomputable def JS.idx (J : JS) : Nat → Nat
  | 0 => J.a
  | i + 1 => J.others[i]?.getD 0
theorem JS.idx_lt {J : JS} (h : 2 ≤ J.g.length) {i : Nat} (hi : i < J.g.length - 1) : J.idx i < J.g.length := by
  obtain ⟨h1, h2, _⟩ := JS.ab h
  cases i with
  | zero => show J.a < _; omega
  | succ i =>
    have hl := JS.others_len h
    have hlt : i < J.others.length := by omega
    show J.others[i]?.getD 0 < _
    rw [List.getElem?_eq_getElem hlt]
    exact (JS.others_mem.mp (List.getElem_mem hlt)).1
theorem JS.idx_succ {J : JS} (h : 2 ≤ J.g.length) {i : Nat} (hi : i < J.g.length - 2) : J.idx (i + 1) ≠ J.a ∧ J.idx (i + 1) ≠ J.b ∧ J.others[i]? = some (J.idx (i + 1)) := by
  have hl := JS.others_len h
  have hlt : i < J.others.length := by omega
  have e : J.others[i]? = some (J.others[i]) := List.getElem?_eq_getElem hlt
  have e2 : J.idx (i + 1) = J.others[i] := by show J.others[i]?.getD 0 = _; rw [e]; rfl
  obtain ⟨_, h1, h2⟩ := JS.others_mem.mp (List.getElem_mem hlt)
  rw [e2]
  exact ⟨h1, h2, e⟩
theorem JS.gat0 (J : JS) : J.next.gat 0 = sortI (J.gat J.a ++ J.gat J.b) := rfl
theorem JS.gat_succ {J : JS} (h : 2 ≤ J.g.length) {i : Nat} (hi : i < J.g.length - 2) : J.next.gat (i + 1) = J.gat (J.idx (i + 1)) := by
  obtain ⟨_, _, e⟩ := JS.idx_succ h hi
  show ((J.others.map fun k => J.g[k]?.getD [])[i]?).getD [] = _
  rw [List.getElem?_map, e]; rfl
theorem JS.t00 (J : JS) : tget J.next.t 0 0 = 0 := rfl
theorem JS.met_at {J : JS} (h : 2 ≤ J.g.length) {i : Nat} (hi : i < J.g.length - 2) : J.met[i]? = some ((tget J.t J.a (J.idx (i + 1)) + tget J.t J.b (J.idx (i + 1)) - tget J.t J.a J.b).fdiv 2) := by
  obtain ⟨_, _, e⟩ := JS.idx_succ h hi
  unfold JS.met
  rw [List.getElem?_map, e]; rfl
theorem JS.t0s {J : JS} (h : 2 ≤ J.g.length) {i : Nat} (hi : i < J.g.length - 2) : tget J.next.t 0 (i + 1) = (tget J.t J.a (J.idx (i + 1)) + tget J.t J.b (J.idx (i + 1)) - tget J.t J.a J.b).fdiv 2 := by
  show (J.met[i]?).getD 0 = _
  rw [JS.met_at h hi]; rfl
theorem JS.row_at {J : JS} (h : 2 ≤ J.g.length) {i : Nat} (hi : i < J.g.length - 2) : J.next.t[i + 1]? = some ((tget J.t J.a (J.idx (i + 1)) + tget J.t J.b (J.idx (i + 1)) - tget J.t J.a J.b).fdiv 2 :: J.others.map fun j => tget J.t (J.idx (i + 1)) j) := by
  obtain ⟨_, _, e⟩ := JS.idx_succ h hi
  show ((J.met.zip J.others).map _)[i]? = _
  have hz : (J.met.zip J.others)[i]? = some ((tget J.t J.a (J.idx (i + 1)) + tget J.t J.b (J.idx (i + 1)) - tget J.t J.a J.b).fdiv 2, J.idx (i + 1)) := List.getElem?_zip_eq_some.mpr ⟨JS.met_at h hi, e⟩
  rw [List.getElem?_map, hz]; rfl
theorem JS.ts0 {J : JS} (h : 2 ≤ J.g.length) {i : Nat} (hi : i < J.g.length - 2) : tget J.next.t (i + 1) 0 = (tget J.t J.a (J.idx (i + 1)) + tget J.t J.b (J.idx (i + 1)) - tget J.t J.a J.b).fdiv 2 := by
  unfold tget
  rw [JS.row_at h hi]; rfl
theorem JS.tss {J : JS} (h : 2 ≤ J.g.length) {i j : Nat} (hi : i < J.g.length - 2) (hj : j < J.g.length - 2) : tget J.next.t (i + 1) (j + 1) = tget J.t (J.idx (i + 1)) (J.idx (j + 1)) := by
  obtain ⟨_, _, e⟩ := JS.idx_succ h hj
  show ((J.next.t[i + 1]?.getD [])[j + 1]?).getD 0 = _
  rw [JS.row_at h hi]
  show ((J.others.map fun j => tget J.t (J.idx (i + 1)) j)[j]?).getD 0 = _
  rw [List.getElem?_map, e]; rfl
theorem JS.idx_of {J : JS} (h : 2 ≤ J.g.length) {i : Nat} (hi : i < J.g.length) (ha : i ≠ J.a) (hb : i ≠ J.b) : ∃ j, j < J.g.length - 2 ∧ J.idx (j + 1) = i := by
  have hm : i ∈ J.others := JS.others_mem.mpr ⟨hi, ha, hb⟩
  obtain ⟨j, hj⟩ := List.getElem?_of_mem hm
  have hl := JS.others_len h
  have := (List.getElem?_eq_some_iff.mp hj).1
  exact ⟨j, by omega, by show J.others[j]?.getD 0 = _; rw [hj]; rfl⟩

noncomputable def newW (J : JS) (W : Nat → Int) (o : Nat → Nat → Bool) : Nat → Int := fun k => if o k J.a = o k J.b then W k else 0
noncomputable def newO (J : JS) (o : Nat → Nat → Bool) : Nat → Nat → Bool := fun k i => o k (J.idx i)
theorem NJ.joinedAt (H : NJ n toll out J W o) (h4 : 4 ≤ J.g.length) {c : Nat} (hc : c < J.g.length) : (tget J.t J.a c + tget J.t J.b c - tget J.t J.a J.b).fdiv 2 = 8 * sumK fun k => if o k J.a = o k c then 0 else newW J W o k := by
  obtain ⟨hab, hb, _⟩ := JS.ab (J := J) (by omega)
  have ha : J.a < J.g.length := by omega
  rw [H.tab _ _ ha hc, H.tab _ _ hb hc, H.tab _ _ ha hb, ← Int.mul_add, ← Int.mul_sub, sumK_add, sumK_sub]
  have e : (sumK fun k => ((if o k J.a = o k c then 0 else W k) + if o k J.b = o k c then 0 else W k) - if o k J.a = o k J.b then 0 else W k) = 2 * sumK fun k => if o k J.a = o k c then 0 else newW J W o k := by
    rw [sumK_mul 2]
    refine sumK_congr fun k _ => ?_
    unfold newW
    cases o k J.a <;> cases o k J.b <;> cases o k c <;> simp <;> omega
  rw [e, ← Int.mul_assoc, Int.mul_comm 8 2, Int.mul_assoc]
  exact Int.mul_fdiv_cancel_left _ (by decide)
theorem NJ.step (H : NJ n toll out J W o) (ht : ∀ k, k < 6 → 0 ≤ toll k) (h4 : 4 ≤ J.g.length) : NJ n toll out J.next (newW J W o) (newO J o) := by
  have h2 : 2 ≤ J.g.length := by omega
  obtain ⟨hab, hb, _⟩ := JS.ab h2
  have ha : J.a < J.g.length := by omega
  have hm : J.next.g.length = J.g.length - 1 := JS.next_len h2
  obtain ⟨hcn, hca, hcb⟩ := JS.others_mem.mp (JS.c_mem' (J := J) (by omega))
  have hWle : ∀ k, k < 6 → 0 < newW J W o k → 0 < W k ∧ o k J.a = o k J.b ∧ newW J W o k = W k := fun k _ h => by
    unfold newW at h ⊢
    by_cases e : o k J.a = o k J.b
    · rw [if_pos e] at h ⊢; exact ⟨h, e, rfl⟩
    · rw [if_neg e] at h; omega
  -- the two lengths
  have cutA : ∀ k, k < 6 → 0 < W k → o k J.a ≠ o k J.b → o k J.a ≠ o k J.c → ∀ i, i < J.g.length → i ≠ J.a → o k i ≠ o k J.a := fun k hk hw h1 h3 i hi hia e => by
    rcases H.cut h2 hk hw h1 with h | h
    · exact h1 (e.symm.trans (h i hi hia))
    · exact h3 (h J.c hcn hcb).symm
  have cutB : ∀ k, k < 6 → 0 < W k → o k J.b ≠ o k J.a → o k J.b ≠ o k J.c → ∀ i, i < J.g.length → i ≠ J.b → o k i ≠ o k J.b := fun k hk hw h1 h3 i hi hib e => by
    rcases H.cut h2 hk hw (fun e => h1 e.symm) with h | h
    · exact h3 (h J.c hcn hca).symm
    · exact h1 (e.symm.trans (h i hi hib))
  have lenA := H.length ht ha hb hcn (by omega) (fun e => hca e.symm) cutA
  have lenB := H.length ht hb ha hcn (by omega) (fun e => hcb e.symm) cutB
  have threeA := H.three ha hb hcn
  have threeB := H.three hb ha hcn
  have hsymm : tget J.t J.b J.a = tget J.t J.a J.b := by
    rw [H.tab _ _ hb ha, H.tab _ _ ha hb]
    congr 1
    exact sumK_congr fun k _ => by cases o k J.a <;> cases o k J.b <;> rfl
  rw [hsymm] at lenB threeB
  constructor
  · exact JS.next_sq h2
  · intro i j hi hj
    rw [hm] at hi hj
    unfold newO
    cases i with
    | zero =>
      cases j with
      | zero => rw [JS.t00]; unfold sumK; simp
      | succ j =>
        rw [JS.t0s h2 (by omega)]
        exact H.joinedAt h4 (JS.idx_lt h2 hj)
    | succ i =>
      cases j with
      | zero =>
        rw [JS.ts0 h2 (by omega), H.joinedAt h4 (JS.idx_lt h2 hi)]
        congr 1
        exact sumK_congr fun k _ => by
          show (if o k J.a = o k (J.idx (i + 1)) then 0 else _) = if o k (J.idx (i + 1)) = o k J.a then 0 else _
          cases o k J.a <;> cases o k (J.idx (i + 1)) <;> rfl
      | succ j =>
        rw [JS.tss h2 (by omega) (by omega), H.tab _ _ (JS.idx_lt h2 hi) (JS.idx_lt h2 hj)]
        congr 1
        refine sumK_congr fun k hk => ?_
        obtain ⟨i1, i2, _⟩ := JS.idx_succ h2 (i := i) (by omega)
        obtain ⟨j1, j2, _⟩ := JS.idx_succ h2 (i := j) (by omega)
        unfold newW
        by_cases e : o k J.a = o k J.b
        · rw [if_pos e]
        · rw [if_neg e]
          rcases Int.lt_or_eq_of_le (H.hW k hk) with hw | hw
          · have : o k (J.idx (i + 1)) = o k (J.idx (j + 1)) := by
              rcases H.cut h2 hk hw e with h | h
              · rw [h _ (JS.idx_lt h2 hi) i1, h _ (JS.idx_lt h2 hj) j1]
              · rw [h _ (JS.idx_lt h2 hi) i2, h _ (JS.idx_lt h2 hj) j2]
            rw [if_pos this]; split <;> rfl
          · rw [← hw]
  · intro k hk
    unfold newW
    split
    · exact H.hW k hk
    · exact Int.le_refl _
  · intro k l hk hl hwk hwl
    obtain ⟨x, y, hxy⟩ := H.compat k l hk hl (hWle k hk hwk).1 (hWle l hl hwl).1
    exact ⟨x, y, fun i hi => hxy (J.idx i) (JS.idx_lt h2 (by omega))⟩
  · intro k hk hw
    obtain ⟨w1, w2, w3⟩ := hWle k hk hw
    obtain ⟨e, hal⟩ := H.alive k hk w1
    refine ⟨w3.trans e, fun i hi x hx => ?_⟩
    rw [hm] at hi
    unfold newO
    cases i with
    | zero =>
      rw [JS.gat0] at hx
      rcases List.mem_append.mp ((sortI_perm _).mem_iff.mp hx) with h | h
      · exact hal _ ha x h
      · rw [hal _ hb x h]; exact w2.symm
    | succ i =>
      rw [JS.gat_succ h2 (by omega)] at hx
      exact hal _ (JS.idx_lt h2 hi) x hx
  · intro k hk hw htk
    rcases Int.lt_or_eq_of_le (H.hW k hk) with hwk | hwk
    · have hne : o k J.a ≠ o k J.b := fun e => by unfold newW at hw; rw [if_pos e] at hw; omega
      obtain ⟨_, hal⟩ := H.alive k hk hwk
      obtain ⟨x, _, hx⟩ := H.some ha
      obtain ⟨y, _, hy⟩ := H.some hb
      refine ⟨0, by omega, x, y, ?_, ?_, ?_⟩
      · rw [JS.gat0]; exact (sortI_perm _).mem_iff.mpr (List.mem_append_left _ hx)
      · rw [JS.gat0]; exact (sortI_perm _).mem_iff.mpr (List.mem_append_right _ hy)
      · rw [hal _ ha x hx, hal _ hb y hy]; exact hne
    · obtain ⟨i, hi, x, y, hx, hy, hne⟩ := H.dead k hk hwk.symm htk
      by_cases hia : i = J.a
      · subst hia
        exact ⟨0, by omega, x, y, by rw [JS.gat0]; exact (sortI_perm _).mem_iff.mpr (List.mem_append_left _ hx), by rw [JS.gat0]; exact (sortI_perm _).mem_iff.mpr (List.mem_append_left _ hy), hne⟩
      · by_cases hib : i = J.b
        · subst hib
          exact ⟨0, by omega, x, y, by rw [JS.gat0]; exact (sortI_perm _).mem_iff.mpr (List.mem_append_right _ hx), by rw [JS.gat0]; exact (sortI_perm _).mem_iff.mpr (List.mem_append_right _ hy), hne⟩
        · obtain ⟨j, hj, e⟩ := JS.idx_of h2 hi hia hib
          exact ⟨j + 1, by omega, x, y, by rw [JS.gat_succ h2 hj, e]; exact hx, by rw [JS.gat_succ h2 hj, e]; exact hy, hne⟩
  · exact (JS.next_flat h2).trans H.flat
  · intro i hi
    rw [hm] at hi
    cases i with
    | zero =>
      rw [JS.gat0]
      intro e
      have := (sortI_perm (J.gat J.a ++ J.gat J.b)).length_eq
      rw [e, List.length_append] at this
      have := List.length_pos_iff.mpr (H.ne _ ha)
      simp only [List.length_nil] at *
      omega
    | succ i => rw [JS.gat_succ h2 (by omega)]; exact H.ne _ (JS.idx_lt h2 hi)
  · intro i hi
    rw [hm] at hi
    cases i with
    | zero => rw [JS.gat0]; exact sortI_sorted _
    | succ i => rw [JS.gat_succ h2 (by omega)]; exact H.sorted _ (JS.idx_lt h2 hi)
  · intro p hp
    rcases List.mem_append.mp (show p ∈ J.ls ++ [(J.gat J.a, tget J.t J.a J.b + tget J.t J.a J.c - tget J.t J.b J.c), (J.gat J.b, tget J.t J.a J.b + tget J.t J.b J.c - tget J.t J.a J.c)] from hp) with h | h
    · exact H.ls p h
    · rcases List.mem_cons.mp h with rfl | h
      · exact lenA
      · have := List.mem_singleton.mp h
        subst this
        exact lenB
  · show ((J.ls ++ [(J.gat J.a, tget J.t J.a J.b + tget J.t J.a J.c - tget J.t J.b J.c), (J.gat J.b, tget J.t J.a J.b + tget J.t J.b J.c - tget J.t J.a J.c)]).map (·.2)).sum = _
    rw [List.map_append, List.sum_append, H.sum]
    simp only [List.map_cons, List.map_nil, List.sum_cons, List.sum_nil, Int.add_zero]
    rw [threeA, threeB, ← Int.mul_add, ← Int.mul_add, sumK_add, sumK_add]
    congr 1
    refine sumK_congr fun k hk => ?_
    unfold newW
    cases o k J.a <;> cases o k J.b <;> cases o k J.c <;> simp <;> omega
end
section
variable {n : Nat} {toll : Nat → Int} {out : Nat → Nat → Bool} {t : List (List Int)}
theorem start_gat {i : Nat} (hi : i < t.length) : (JS.start t).gat i = [(i : Int)] := by
  unfold JS.gat JS.start
  simp [hi]
theorem NJ.start (hn : t.length = n) (h3 : 2 ≤ n) (hsq : ∀ r ∈ t, r.length = t.length) (htab : ∀ i j, i < n → j < n → tget t i j = 8 * sumK fun k => if out k i = out k j then 0 else toll k) (ht : ∀ k, k < 6 → 0 ≤ toll k)
    (hc : ∀ k l, k < 6 → l < 6 → 0 < toll k → 0 < toll l → Compat n (out k) (out l)) : NJ n toll out (JS.start t) toll out := by
  have hl : (JS.start t).g.length = n := by rw [← hn]; simp [JS.start]
  constructor
  · exact ⟨by rw [hl]; exact hn, fun r hr => by rw [hl, ← hn]; exact hsq r hr⟩
  · intro i j hi hj; rw [hl] at hi hj; exact htab i j hi hj
  · exact ht
  · rw [hl]; exact hc
  · intro k hk _
    refine ⟨rfl, fun i hi x hx => ?_⟩
    rw [hl, ← hn] at hi
    rw [start_gat hi] at hx
    have : (x : Int) = i := by simpa using hx
    have : x = i := by omega
    rw [this]
  · intro k _ h1 h2; omega
  · rw [← hn]; exact JS.iter_flat 0 (by omega)
  · intro i hi; rw [hl, ← hn] at hi; rw [start_gat hi]; exact fun e => nomatch e
  · intro i hi; rw [hl, ← hn] at hi; rw [start_gat hi]; simp
  · intro p hp; exact nomatch hp
  · show (0 : Int) = _
    unfold sumK; simp
theorem NJ.iter (H0 : NJ n toll out (JS.start t) toll out) (hn : t.length = n) (ht : ∀ k, k < 6 → 0 ≤ toll k) : ∀ i, i + 3 ≤ n → ∃ W o, NJ n toll out (JS.iter i (JS.start t)) W o
  | 0, _ => ⟨_, _, H0⟩
  | i + 1, h => by
    obtain ⟨W, o, H⟩ := NJ.iter H0 hn ht i (by omega)
    have hl := JS.iter_len (t := t) i (by omega)
    exact ⟨_, _, H.step ht (by omega)⟩
theorem nontriv_iff {p : Nat → Bool} : nontriv n p = true ↔ ∃ x y, x < n ∧ y < n ∧ p x = true ∧ p y = false := by
  have hlen : (outL n p).length = ((List.range n).filter p).length := by unfold outL; rw [List.length_map]
  have hle : ((List.range n).filter p).length ≤ n := by have := List.length_filter_le p (List.range n); rwa [List.length_range] at this
  unfold nontriv
  rw [Bool.and_eq_true, decide_eq_true_eq, decide_eq_true_eq, hlen]
  constructor
  · rintro ⟨h1, h2⟩
    obtain ⟨x, hx⟩ := List.exists_mem_of_length_pos h1
    rw [List.mem_filter, List.mem_range] at hx
    have : ∃ y, y < n ∧ p y = false := Classical.byContradiction fun hno => by
      have : (List.range n).filter p = List.range n := List.filter_eq_self.mpr fun y hy => by
        cases e : p y with
        | true => rfl
        | false => exact absurd ⟨y, List.mem_range.mp hy, e⟩ hno
      rw [this, List.length_range] at h2
      omega
    obtain ⟨y, hy, hpy⟩ := this
    exact ⟨x, y, hx.1, hy, hx.2, hpy⟩
  · rintro ⟨x, y, hx, hy, hpx, hpy⟩
    refine ⟨List.length_pos_of_mem (a := x) (List.mem_filter.mpr ⟨List.mem_range.mpr hx, hpx⟩), ?_⟩
    refine Nat.lt_of_le_of_ne hle fun e => ?_
    have e' : (List.range n).filter p = List.range n := by
      refine List.Sublist.eq_of_length List.filter_sublist ?_
      rw [e, List.length_range]
    have := List.filter_eq_self.mp e' y (List.mem_range.mpr hy)
    rw [hpy] at this; cases this
theorem NJ.triv {J : JS} {W : Nat → Int} {o : Nat → Nat → Bool} (H : NJ n toll out J W o) {k : Nat} (hk : k < 6) (hw : 0 < W k) : nontriv n (out k) = true ↔ ∃ i j, i < J.g.length ∧ j < J.g.length ∧ o k i ≠ o k j := by
  obtain ⟨_, hal⟩ := H.alive k hk hw
  rw [nontriv_iff]
  constructor
  · rintro ⟨x, y, hx, hy, hpx, hpy⟩
    obtain ⟨i, hi, hxi⟩ := H.where_ hx
    obtain ⟨j, hj, hyj⟩ := H.where_ hy
    refine ⟨i, j, hi, hj, ?_⟩
    rw [← hal i hi x hxi, ← hal j hj y hyj, hpx, hpy]
    exact fun e => nomatch e
  · rintro ⟨i, j, hi, hj, hne⟩
    obtain ⟨x, hx, hxi⟩ := H.some hi
    obtain ⟨y, hy, hyj⟩ := H.some hj
    have e1 := hal i hi x hxi
    have e2 := hal j hj y hyj
    cases h : o k i
    · refine ⟨y, x, hy, hx, ?_, by rw [e1, h]⟩
      rw [e2]; revert hne; rw [h]; cases o k j <;> simp
    · refine ⟨x, y, hx, hy, by rw [e1, h], ?_⟩
      rw [e2]; revert hne; rw [h]; cases o k j <;> simp
/-- the joining finds the very tree -/
theorem nj_main (hn : t.length = n) (h3 : 3 ≤ n) (hsq : ∀ r ∈ t, r.length = t.length) (htab : ∀ i j, i < n → j < n → tget t i j = 8 * sumK fun k => if out k i = out k j then 0 else toll k) (ht : ∀ k, k < 6 → 0 ≤ toll k)
    (hc : ∀ k l, k < 6 → l < 6 → 0 < toll k → 0 < toll l → Compat n (out k) (out l)) :
    (∀ p ∈ joined t, p.2 = 16 * sumK fun k => if matchK n (out k) p.1 = true then toll k else 0) ∧ ((joined t).map (·.2)).sum = 16 * sumK fun k => if nontriv n (out k) = true then toll k else 0 := by
  obtain ⟨W, o, H⟩ := NJ.iter (NJ.start hn (by omega) hsq htab ht hc) hn ht (t.length - 3) (by omega)
  have hl := JS.iter_len (t := t) (t.length - 3) (by omega)
  have hj : joined t = (JS.iter (t.length - 3) (JS.start t)).fin := rfl
  rw [hj]
  generalize JS.iter (t.length - 3) (JS.start t) = J at *
  have hl : J.g.length = 3 := by omega
  have h0 : 0 < J.g.length := by omega
  have h1 : 1 < J.g.length := by omega
  have h2 : 2 < J.g.length := by omega
  have al : ∀ k a b c : Nat, (∀ i, i < 3 → i = a ∨ i = b ∨ i = c) → o k a ≠ o k b → o k a ≠ o k c → ∀ i, i < J.g.length → i ≠ a → o k i ≠ o k a := fun k a b c hall hb hc i hi hia => by
    rw [hl] at hi
    rcases hall i hi with e | e | e
    · exact absurd e hia
    · rw [e]; exact fun e => hb e.symm
    · rw [e]; exact fun e => hc e.symm
  have fin3 : J.fin = J.ls ++ [(J.gat 0, tget J.t 0 1 + tget J.t 0 2 - tget J.t 1 2), (J.gat 1, tget J.t 1 2 + tget J.t 1 0 - tget J.t 2 0), (J.gat 2, tget J.t 2 0 + tget J.t 2 1 - tget J.t 0 1)] := rfl
  have l0 := H.length ht h0 h1 h2 (by decide) (by decide) fun k _ _ a b => al k 0 1 2 (fun i hi => by omega) a b
  have l1 := H.length ht h1 h2 h0 (by decide) (by decide) fun k _ _ a b => al k 1 2 0 (fun i hi => by omega) a b
  have l2 := H.length ht h2 h0 h1 (by decide) (by decide) fun k _ _ a b => al k 2 0 1 (fun i hi => by omega) a b
  refine ⟨fun p hp => ?_, ?_⟩
  · rw [fin3] at hp
    rcases List.mem_append.mp hp with h | h
    · exact H.ls p h
    · have : p = (J.gat 0, tget J.t 0 1 + tget J.t 0 2 - tget J.t 1 2) ∨ p = (J.gat 1, tget J.t 1 2 + tget J.t 1 0 - tget J.t 2 0) ∨ p = (J.gat 2, tget J.t 2 0 + tget J.t 2 1 - tget J.t 0 1) := by simpa using h
      rcases this with rfl | rfl | rfl
      · exact l0
      · exact l1
      · exact l2
  · rw [fin3, List.map_append, List.sum_append, H.sum]
    simp only [List.map_cons, List.map_nil, List.sum_cons, List.sum_nil, Int.add_zero]
    rw [H.three h0 h1 h2, H.three h1 h2 h0, H.three h2 h0 h1, ← Int.mul_add, ← Int.mul_add, ← Int.mul_add, sumK_add, sumK_add, sumK_add]
    congr 1
    refine sumK_congr fun k hk => ?_
    rcases Int.lt_or_eq_of_le (H.hW k hk) with hw | hw
    · obtain ⟨e, _⟩ := H.alive k hk hw
      have ht' := H.triv hk hw
      by_cases hc : nontriv n (out k) = true
      · rw [if_pos hc]
        obtain ⟨i, j, hi, hj, hne⟩ := ht'.mp hc
        rw [hl] at hi hj
        have : ¬ (o k 0 = o k 1 ∧ o k 1 = o k 2) := fun ⟨e1, e2⟩ => hne (by
          have hi' : i = 0 ∨ i = 1 ∨ i = 2 := by omega
          have hj' : j = 0 ∨ j = 1 ∨ j = 2 := by omega
          rcases hi' with rfl | rfl | rfl <;> rcases hj' with rfl | rfl | rfl <;> first | rfl | exact e1 | exact e2 | exact e1.symm | exact e2.symm | exact e1.trans e2 | exact (e1.trans e2).symm)
        revert this
        cases o k 0 <;> cases o k 1 <;> cases o k 2 <;> simp <;> omega
      · rw [if_neg hc]
        have e01 : o k 0 = o k 1 := Classical.byContradiction fun h => hc (ht'.mpr ⟨0, 1, h0, h1, h⟩)
        have e12 : o k 1 = o k 2 := Classical.byContradiction fun h => hc (ht'.mpr ⟨1, 2, h1, h2, h⟩)
        rw [e01, e12]; simp; omega
    · rw [← hw]
      rcases Int.lt_or_eq_of_le (ht k hk) with htk | htk
      · obtain ⟨i, hi, x, y, hx, hy, hne⟩ := H.dead k hk hw.symm htk
        obtain ⟨x', ex, hxn⟩ := H.range hi x hx
        obtain ⟨y', ey, hyn⟩ := H.range hi y hy
        have hc : nontriv n (out k) = true := by
          rw [nontriv_iff]
          cases h : out k x
          · exact ⟨y, x, by omega, by omega, by revert hne; rw [h]; cases out k y <;> simp, h⟩
          · exact ⟨x, y, by omega, by omega, h, by revert hne; rw [h]; cases out k y <;> simp⟩
        rw [if_pos hc]; simp
      · rw [← htk]; simp
end
/-! ## the lines, plainly -/
noncomputable def tolK (ts : List Int) (k : Nat) : Int := ts[k]?.getD 0
noncomputable def tabK (k : Nat) : Int := tollTab[k]?.getD 0
noncomputable def ansAt (L : List (List Int)) (k i : Nat) : Int := (L[k]?.getD [])[i]?.getD 0
noncomputable def bitK (L : List (List Int)) (ts : List Int) (k i : Nat) : Bool := decide (ansAt L k i * tolK ts k ≠ 0)
noncomputable def outK (L : List (List Int)) (k i : Nat) : Bool := decide (ansAt L k i = 1)
noncomputable def lineK (L : List (List Int)) (ts : List Int) (i : Nat) : List Nat := lineB (bitK L ts 0 i) (bitK L ts 1 i) (bitK L ts 2 i) (bitK L ts 3 i) (bitK L ts 4 i) (bitK L ts 5 i)
noncomputable def mkB (k : Nat) (b : Bool) : List Nat := markOf k (tabK k) (if b then 1 else 0)
noncomputable def dst (L : List (List Int)) (ts : List Int) (a b : Nat) : Int := sumK fun k => if outK L k a = outK L k b then 0 else tolK ts k
structure TollsIs (ts : List Int) : Prop where
  len : ts.length = 6
  val : ∀ k, k < 6 → tolK ts k = 0 ∨ tolK ts k = tabK k
structure AnsIs (L : List (List Int)) (n : Nat) : Prop where
  len : L.length = 6
  row : ∀ l ∈ L, l.length = n
  val : ∀ k i, ansAt L k i = 0 ∨ ansAt L k i = 1
theorem tab_pos {k : Nat} (hk : k < 6) : tabK k = 1 ∨ tabK k = 2 := by
  have : k = 0 ∨ k = 1 ∨ k = 2 ∨ k = 3 ∨ k = 4 ∨ k = 5 := by omega
  rcases this with rfl | rfl | rfl | rfl | rfl | rfl <;> decide
section
variable {L : List (List Int)} {ts : List Int} {n : Nat} (T : TollsIs ts) (H : AnsIs L n)
include T in
theorem TollsIs.pos {k : Nat} (hk : k < 6) : 0 ≤ tolK ts k ∧ tolK ts k ≤ 2 := by
  have := tab_pos hk
  rcases T.val k hk with h | h <;> omega
include T H
theorem prod_is {k : Nat} (hk : k < 6) (i : Nat) : ansAt L k i * tolK ts k = (if bitK L ts k i then 1 else 0) * tabK k := by
  have := tab_pos hk
  unfold bitK
  rcases H.val k i with h | h <;> rcases T.val k hk with h' | h' <;> rw [h, h']
  · simp
  · simp
  · simp
  · rw [decide_eq_true (by omega)]; simp
theorem mark_is {k : Nat} (hk : k < 6) (i : Nat) : markOf k (tolK ts k) (ansAt L k i) = mkB k (bitK L ts k i) := by
  unfold mkB markOf
  rw [prod_is T H hk i]
theorem bit_out {k : Nat} (hk : k < 6) (a b : Nat) : dB (bitK L ts k a) (bitK L ts k b) (tabK k) = if outK L k a = outK L k b then 0 else tolK ts k := by
  have := tab_pos hk
  unfold dB bitK outK
  rcases T.val k hk with h' | h' <;> rw [h']
  · simp
  · rcases H.val k a with h | h <;> rcases H.val k b with h2 | h2 <;> rw [h, h2]
    · simp
    · rw [show decide ((0 : Int) * tabK k ≠ 0) = false from by simp, show decide ((1 : Int) * tabK k ≠ 0) = true from by rw [Int.one_mul]; exact decide_eq_true (by omega)]; rfl
    · rw [show decide ((0 : Int) * tabK k ≠ 0) = false from by simp, show decide ((1 : Int) * tabK k ≠ 0) = true from by rw [Int.one_mul]; exact decide_eq_true (by omega)]; rfl
    · simp
omit H in
theorem sum_tolls : ts.sum = sumK (tolK ts) := by
  obtain ⟨a, b, c, d, e, f, h⟩ : ∃ a b c d e f, ts = [a, b, c, d, e, f] := by
    match ts, T.len with
    | [a, b, c, d, e, f], _ => exact ⟨a, b, c, d, e, f, rfl⟩
  subst h
  show _ = a + b + c + d + e + f
  simp; omega
theorem lev_dst (a b : Nat) : lev (lineK L ts a) (lineK L ts b) ts.sum = dst L ts a b := by
  have e : dB (bitK L ts 0 a) (bitK L ts 0 b) 2 + dB (bitK L ts 1 a) (bitK L ts 1 b) 1 + dB (bitK L ts 2 a) (bitK L ts 2 b) 1 + dB (bitK L ts 3 a) (bitK L ts 3 b) 2 + dB (bitK L ts 4 a) (bitK L ts 4 b) 1 + dB (bitK L ts 5 a) (bitK L ts 5 b) 2 = dst L ts a b := by
    have h0 := bit_out T H (k := 0) (by omega) a b
    have h1 := bit_out T H (k := 1) (by omega) a b
    have h2 := bit_out T H (k := 2) (by omega) a b
    have h3 := bit_out T H (k := 3) (by omega) a b
    have h4 := bit_out T H (k := 4) (by omega) a b
    have h5 := bit_out T H (k := 5) (by omega) a b
    rw [show tabK 0 = 2 by decide] at h0
    rw [show tabK 1 = 1 by decide] at h1
    rw [show tabK 2 = 1 by decide] at h2
    rw [show tabK 3 = 2 by decide] at h3
    rw [show tabK 4 = 1 by decide] at h4
    rw [show tabK 5 = 2 by decide] at h5
    rw [h0, h1, h2, h3, h4, h5]; rfl
  unfold lineK
  rw [lev_line, e]
  rw [e, sum_tolls T]
  unfold dst
  refine sumK_le fun k hk => ?_
  have := T.pos hk
  split <;> omega
end
theorem marks_ok (b0 b1 b2 b3 b4 b5 : Bool) : JoinOk "" [S (mkB 0 b0), S (mkB 1 b1), S (mkB 2 b2), S (mkB 3 b3), S (mkB 4 b4), S (mkB 5 b5)] = true ∧ Txt.join "" [S (mkB 0 b0), S (mkB 1 b1), S (mkB 2 b2), S (mkB 3 b3), S (mkB 4 b4), S (mkB 5 b5)] = S (lineB b0 b1 b2 b3 b4 b5) := by
  have key : (bools.all fun b0 => bools.all fun b1 => bools.all fun b2 => bools.all fun b3 => bools.all fun b4 => bools.all fun b5 =>
    decide (JoinOk "" [S (mkB 0 b0), S (mkB 1 b1), S (mkB 2 b2), S (mkB 3 b3), S (mkB 4 b4), S (mkB 5 b5)] = true ∧ Txt.join "" [S (mkB 0 b0), S (mkB 1 b1), S (mkB 2 b2), S (mkB 3 b3), S (mkB 4 b4), S (mkB 5 b5)] = S (lineB b0 b1 b2 b3 b4 b5))) = true := by decide +kernel
  exact of_decide_eq_true (all_bools (all_bools (all_bools (all_bools (all_bools (all_bools key b0) b1) b2) b3) b4) b5)
theorem line_low (b0 b1 b2 b3 b4 b5 : Bool) : ∀ c ∈ lineB b0 b1 b2 b3 b4 b5, Builtin.Str.tooLong (Txt.lower (ch c)).length = false := fun c hc => by
  have key : ∀ c ∈ alpha, Builtin.Str.tooLong (Txt.lower (ch c)).length = false := by decide +kernel
  exact key c (line_alpha _ _ _ _ _ _ c hc)
theorem line_len (b0 b1 b2 b3 b4 b5 : Bool) : (lineB b0 b1 b2 b3 b4 b5).length ≤ 40 := by
  cases b0 <;> cases b1 <;> cases b2 <;> cases b3 <;> cases b4 <;> cases b5 <;> decide
theorem L_at {L : List (List Int)} {n : Nat} (H : AnsIs L n) {k : Nat} (hk : k < 6) : (L.map listI)[k]? = some (.list ((L[k]?.getD []).map .int)) := by
  have hk' : k < L.length := by rw [H.len]; exact hk
  rw [List.getElem?_map, List.getElem?_eq_getElem hk']; rfl
theorem L_at2 {L : List (List Int)} {n : Nat} (H : AnsIs L n) {k i : Nat} (hk : k < 6) (hi : i < n) : ((L[k]?.getD []).map PyData.int)[i]? = some (.int (ansAt L k i)) := by
  have hk' : k < L.length := by rw [H.len]; exact hk
  have hl : i < (L[k]?.getD []).length := by rw [List.getElem?_eq_getElem hk', Option.getD_some, H.row _ (List.getElem_mem hk')]; exact hi
  unfold ansAt
  rw [List.getElem?_map, List.getElem?_eq_getElem hl]; rfl
theorem ts_at {ts : List Int} (T : TollsIs ts) {k : Nat} (hk : k < 6) : (ts.map PyData.int)[k]? = some (.int (tolK ts k)) := by
  have hk' : k < ts.length := by rw [T.len]; exact hk
  unfold tolK
  rw [List.getElem?_map, List.getElem?_eq_getElem hk']; rfl
theorem flt_all {α : Type} (l : List α) : (l.filter fun _ => true) = l := List.filter_eq_self.mpr fun _ _ => rfl
section
variable {prog : Program} {w : World} {A : Around} {a : Addr} {pm cd doc : Value} {s : Shared} {mg mb : Str → Option Value}
set_option maxHeartbeats 8000000 in
theorem law_4a {k : Nat} (hX : (lwX prog w A a pm cd doc s mg mb).Gd) (G : Gl prog mg mb (k + 1) (lwX prog w A a pm cd doc s mg mb).A s) (B : Bis mg mb) {am : Addr} {pm' cd' doc' : Value} (hmn : mg "_law_mark" = some (.ref am)) (hm : FnIs s.heap am (fnAt 18 pm' cd' doc'))
    {L : List (List Int)} {ts : List Int} {n : Nat} (T : TollsIs ts) (H : AnsIs L n) (hn : n ≤ 6) {hB : Heap} {s₁ : Shared}
    (f : FS (lwX prog w A a pm cd doc s mg mb) hB [("answers", .dat (listII L)), ("tolls", .dat (listI ts)), ("n", .dat (.int (n : Nat)))] s₁) {Q : Flow → Shared → Prop}
    (h : ∀ s', FS (lwX prog w A a pm cd doc s mg mb) hB [("lines", .dat (.list ((List.range n).map fun i => .str (S (lineK L ts i))))), ("answers", .dat (listII L)), ("tolls", .dat (listI ts)), ("n", .dat (.int (n : Nat)))] s' →
      wpAny (lwX prog w A a pm cd doc s mg mb).m (lwX prog w A a pm cd doc s mg mb).A (execs ((bodyAt 20).drop 13) (lwX prog w A a pm cd doc s mg mb).env) Q (fun _ _ => False) s') :
    wpAny (lwX prog w A a pm cd doc s mg mb).m (lwX prog w A a pm cd doc s mg mb).A (execs ((bodyAt 20).drop 12) (lwX prog w A a pm cd doc s mg mb).env) Q (fun _ _ => False) s₁ := by
  have hC := f.cx hX
  refine FS.seq ?_
  show wpAny _ _ (exec (.Assign _ _ _) _) _ _ _
  refine FS.setM f (d := .list ((List.range n).map fun i => .str (S (lineK L ts i)))) ?_ (.inr ⟨rfl, rfl, ⟨_, rfl⟩⟩) fun s₂ f₂ _ => h s₂ f₂
  refine Ev.cast (Ev.comp hC (P := fun _ h v => RangeOf (fun _ => True) 0 ((n : Nat) : Int) 1 h v) ["at"] (fun s' k' => ?_) (Iters.range hC (by omega)) (fun i => [("at", .dat (.int (i : Nat)))]) (fun x _ => .name) (fun x _ => rfl) (by kernel_rfl) (fun _ => true) (fun i : Nat => .str (S (lineK L ts i))) (by simp; omega) (fun x _ cenv ok' s' hC'' hsc k' => .nil) (fun i hi _ cenv ok' s' hC'' hsc k' => ?_)) (by rw [flt_all])
  · have hC' := hC.at k'
    exact Ev.callT (T := "range") (ds := [.int (n : Nat)]) (by walk_at "fn") (EvL.cons (Ev.nameD hC' rfl) EvL.nil) call_range1
  have hin : i < n := List.mem_range.mp hi
  have hj := marks_ok (bitK L ts 0 i) (bitK L ts 1 i) (bitK L ts 2 i) (bitK L ts 3 i) (bitK L ts 4 i) (bitK L ts 5 i)
  have e : ((List.range 6).map fun k => S (mkB k (bitK L ts k i))) = [S (mkB 0 (bitK L ts 0 i)), S (mkB 1 (bitK L ts 1 i)), S (mkB 2 (bitK L ts 2 i)), S (mkB 3 (bitK L ts 3 i)), S (mkB 4 (bitK L ts 4 i)), S (mkB 5 (bitK L ts 5 i))] := rfl
  rw [← e] at hj
  refine Ev.cast (Ev.methS (name := "join") (ds := [.list (((List.range 6).map fun k => S (mkB k (bitK L ts k i))).map .str)]) Ev.str F.plainAttrs_str F.slot_str_join F.type_str_join (EvL.cons ?_ EvL.nil) (call_joinL hj.1)) (by rw [hj.2]; rfl)
  refine Ev.cast (Ev.comp hC'' (P := fun _ h v => RangeOf ok' 0 ((6 : Nat) : Int) 1 h v) ["k"] (fun s'' k'' => ?_) (Iters.range hC'' (by decide)) (fun i => [("k", .dat (.int (i : Nat)))]) (fun x _ => .name) (fun x _ => rfl) (by show scopeOk _ _ (fun z => cenv.scope.names.lookup z) _ = true; rw [hsc]; kernel_rfl) (fun _ => true) (fun k : Nat => .str (S (mkB k (bitK L ts k i)))) (by decide) (fun x _ cenv' ok'' s'' hC3 hsc3 k'' => .nil) (fun k hk _ cenv' ok'' s'' hC3 hsc3 k'' => ?_)) (by rw [flt_all, List.map_map]; rfl)
  · have hC' := hC''.at k''
    exact Ev.callT (T := "range") (ds := [.int ((6 : Nat) : Int)]) (by walk_at "fn") (EvL.cons (Ev.cast Ev.int rfl) EvL.nil) call_range1
  have hk6 : k < 6 := List.mem_range.mp hk
  have kk := Kp.trans f.F.keeps (Kp.trans k' k'')
  have hp := prod_is T H hk6 i
  have ht := tab_pos hk6
  have hv := H.val k i
  have hpp : 0 ≤ ansAt L k i * tolK ts k ∧ ansAt L k i * tolK ts k ≤ 2 := by
    rw [hp]; cases bitK L ts k i <;> simp <;> omega
  refine Ev.cast (Ev.callF (a := am) (ds := [.int (k : Nat), .int (tolK ts k), .int (ansAt L k i)]) (Ev.global hC3 (inner_kind hsc3 rfl) hmn) (hm.kp kk).fn (EvL.cons (Ev.nameD hC3 rfl) (EvL.cons (Ev.item (ds := ts.map .int) (k := (k : Nat)) (Ev.nameD hC3 rfl) (Ev.nameD hC3 rfl) (by omega) (by omega) (by rw [Int.toNat_natCast]; exact ts_at T hk6))
    (EvL.cons (Ev.item (ds := (L[k]?.getD []).map .int) (k := (i : Nat)) (Ev.item (ds := L.map listI) (k := (k : Nat)) (Ev.nameD hC3 rfl) (Ev.nameD hC3 rfl) (by omega) (by omega) (by rw [Int.toNat_natCast]; exact L_at H hk6)) (Ev.nameD hC3 rfl) (by omega) (by omega) (by rw [Int.toNat_natCast]; exact L_at2 H hk6 hin)) EvL.nil)))
    (mark_ok hC3 (G.kp kk) (hm.kp kk) hk6 hpp.1 hpp.2 (mul_small (by omega) (by omega) _))) (by rw [mark_is T H hk6 i])
end
noncomputable def belowOf (L : List (List Int)) (ts : List Int) (n : Nat) : List (List Int) := (List.range n).map fun a => (List.range a).map fun b => dst L ts a b
noncomputable def tabOf (L : List (List Int)) (ts : List Int) (n : Nat) : List (List Int) := (List.range n).map fun a => (List.range n).map fun b => 8 * dst L ts a b
theorem dst_self (L : List (List Int)) (ts : List Int) (a : Nat) : dst L ts a a = 0 := by
  unfold dst sumK; simp
theorem dst_comm (L : List (List Int)) (ts : List Int) (a b : Nat) : dst L ts a b = dst L ts b a := by
  unfold dst
  refine sumK_congr fun k _ => ?_
  by_cases h : outK L k a = outK L k b
  · rw [if_pos h, if_pos h.symm]
  · rw [if_neg h, if_neg fun e => h e.symm]
theorem dst_mm (L : List (List Int)) (ts : List Int) (a b : Nat) : dst L ts (max a b) (min a b) = dst L ts a b := by
  by_cases h : a ≤ b
  · rw [Nat.max_eq_right h, Nat.min_eq_left h, dst_comm]
  · rw [Nat.max_eq_left (by omega), Nat.min_eq_right (by omega)]
theorem n63 {i n : Nat} (h : i < n) (hn : n ≤ 6) : ((i : Nat) : Int) < 2 ^ 63 := by omega
theorem mm_lt {i j : Nat} (h : i ≠ j) : min i j < max i j := by omega
theorem mx_is (i j : Nat) : (if ((j : Nat) : Int) > ((i : Nat) : Int) then ((j : Nat) : Int) else ((i : Nat) : Int)) = ((max i j : Nat) : Int) := by
  by_cases h : i < j
  · rw [if_pos (Int.ofNat_lt.mpr h), Nat.max_eq_right (Nat.le_of_lt h)]
  · rw [if_neg (fun h' => h (Int.ofNat_lt.mp h')), Nat.max_eq_left (Nat.le_of_not_lt h)]
theorem mn_is (i j : Nat) : (if ((j : Nat) : Int) < ((i : Nat) : Int) then ((j : Nat) : Int) else ((i : Nat) : Int)) = ((min i j : Nat) : Int) := by
  by_cases h : j < i
  · rw [if_pos (Int.ofNat_lt.mpr h), Nat.min_eq_right (Nat.le_of_lt h)]
  · rw [if_neg (fun h' => h (Int.ofNat_lt.mp h')), Nat.min_eq_left (Nat.le_of_not_lt h)]
theorem line_at {L : List (List Int)} {ts : List Int} {n i : Nat} (h : i < n) : ((List.range n).map fun i => PyData.str (S (lineK L ts i)))[((i : Nat) : Int).toNat]? = some (.str (S (lineK L ts i))) := by
  rw [Int.toNat_natCast, List.getElem?_map, List.getElem?_range h]; rfl
theorem lineK_low (L : List (List Int)) (ts : List Int) (a b : Nat) : ∀ c ∈ lineK L ts a ++ lineK L ts b, Builtin.Str.tooLong (Txt.lower (ch c)).length = false := fun c hc => by
  rcases List.mem_append.mp hc with h | h <;> exact line_low _ _ _ _ _ _ c h
theorem below_at {L : List (List Int)} {ts : List Int} {n a : Nat} (h : a < n) : ((belowOf L ts n).map listI)[((a : Nat) : Int).toNat]? = some (.list ((List.range a).map fun b => PyData.int (dst L ts a b))) := by
  rw [Int.toNat_natCast]; unfold belowOf
  rw [List.map_map, List.getElem?_map, List.getElem?_range h]
  show some (listI _) = _
  unfold listI; rw [List.map_map]; rfl
section
variable {prog : Program} {w : World} {A : Around} {a : Addr} {pm cd doc : Value} {s : Shared} {mg mb : Str → Option Value}
set_option maxHeartbeats 8000000 in
theorem law_4b {k : Nat} (hX : (lwX prog w A a pm cd doc s mg mb).Gd) (G : Gl prog mg mb (k + 2) (lwX prog w A a pm cd doc s mg mb).A s) (B : Bis mg mb) (K : Consts mg) {al af : Addr} {pm' cd' doc' pm'' cd'' doc'' : Value} (hln : mg "_levenshtein_distance" = some (.ref al)) (hl : FnIs s.heap al (fnAt 6 pm' cd' doc')) (hsn : mg "_substitution_cost" = some (.ref af)) (hs : FnIs s.heap af (fnAt 5 pm'' cd'' doc''))
    {L : List (List Int)} {ts : List Int} {n : Nat} (T : TollsIs ts) (H : AnsIs L n) (hn : n ≤ 6) {hB : Heap} {s₁ : Shared}
    (f : FS (lwX prog w A a pm cd doc s mg mb) hB [("lines", .dat (.list ((List.range n).map fun i => .str (S (lineK L ts i))))), ("answers", .dat (listII L)), ("tolls", .dat (listI ts)), ("n", .dat (.int (n : Nat)))] s₁) {Q : Flow → Shared → Prop}
    (h : ∀ s', FS (lwX prog w A a pm cd doc s mg mb) hB [("below", .dat (listII (belowOf L ts n))), ("answers", .dat (listII L)), ("tolls", .dat (listI ts)), ("n", .dat (.int (n : Nat)))] s' →
      wpAny (lwX prog w A a pm cd doc s mg mb).m (lwX prog w A a pm cd doc s mg mb).A (execs ((bodyAt 20).drop 14) (lwX prog w A a pm cd doc s mg mb).env) Q (fun _ _ => False) s') :
    wpAny (lwX prog w A a pm cd doc s mg mb).m (lwX prog w A a pm cd doc s mg mb).A (execs ((bodyAt 20).drop 13) (lwX prog w A a pm cd doc s mg mb).env) Q (fun _ _ => False) s₁ := by
  have hC := f.cx hX
  refine FS.seq ?_
  show wpAny _ _ (exec (.Assign _ _ _) _) _ _ _
  refine FS.setM f (d := listII (belowOf L ts n)) ?_ (.inr ⟨rfl, rfl, ⟨_, rfl⟩⟩) fun s₂ f₂ _ => h s₂ (f₂.sub (sub_cons rfl (sub_cons rfl (sub_cons rfl (sub_cons rfl sub_nil)))))
  refine Ev.cast (Ev.comp hC (P := fun _ h v => RangeOf (fun _ => True) 0 ((n : Nat) : Int) 1 h v) ["a"] (fun s' k' => ?_) (Iters.range hC (by omega)) (fun i => [("a", .dat (.int (i : Nat)))]) (fun x _ => .name) (fun x _ => rfl) (by kernel_rfl) (fun _ => true) (fun i : Nat => .list ((List.range i).map fun b => .int (dst L ts i b))) (by simp; omega) (fun x _ cenv ok' s' hC'' hsc k' => .nil) (fun i hi _ cenv ok' s' hC'' hsc k' => ?_)) (by rw [flt_all]; unfold listII belowOf; rw [List.map_map]; congr 1; refine List.map_congr_left fun i _ => ?_; show _ = listI _; unfold listI; rw [List.map_map]; rfl)
  · have hC' := hC.at k'
    exact Ev.callT (T := "range") (ds := [.int (n : Nat)]) (by walk_at "fn") (EvL.cons (Ev.nameD hC' rfl) EvL.nil) call_range1
  have hin : i < n := List.mem_range.mp hi
  refine Ev.cast (Ev.comp hC'' (P := fun _ h v => RangeOf ok' 0 ((i : Nat) : Int) 1 h v) ["b"] (fun s'' k'' => ?_) (Iters.range hC'' (by omega)) (fun j => [("b", .dat (.int (j : Nat)))]) (fun x _ => .name) (fun x _ => rfl) (by show scopeOk _ _ (fun z => cenv.scope.names.lookup z) _ = true; rw [hsc]; kernel_rfl) (fun _ => true) (fun j : Nat => .int (dst L ts i j)) (by simp; omega) (fun x _ cenv' ok'' s'' hC3 hsc3 k'' => .nil) (fun j hj _ cenv' ok'' s'' hC3 hsc3 k'' => ?_)) (by rw [flt_all])
  · have hC' := hC''.at k''
    exact Ev.callT (T := "range") (ds := [.int ((i : Nat) : Int)]) (by walk_at "fn") (EvL.cons (Ev.nameD hC' rfl) EvL.nil) call_range1
  have hji : j < i := List.mem_range.mp hj
  have kk := Kp.trans f.F.keeps (Kp.trans k' k'')
  refine Ev.cast (Ev.callF (a := al) (ds := [.str (S (lineK L ts i)), .str (S (lineK L ts j)), .int ts.sum]) (Ev.global hC3 (inner_kind hsc3 rfl) hln) (hl.kp kk).fn (EvL.cons (Ev.item (ds := (List.range n).map fun i => PyData.str (S (lineK L ts i))) (k := (i : Nat)) (Ev.nameD hC3 rfl) (Ev.nameD hC3 rfl) (by omega) (by omega) (line_at hin)) (EvL.cons (Ev.item (ds := (List.range n).map fun i => PyData.str (S (lineK L ts i))) (k := (j : Nat)) (Ev.nameD hC3 rfl) (Ev.nameD hC3 rfl) (by omega) (by omega) (line_at (by omega)))
    (EvL.cons (Ev.callB (by walk_at "fn") (EvL.cons (Ev.nameD hC3 (d := .list (ts.map .int)) rfl) EvL.nil) (call_sumL hC3)) EvL.nil)))
    (lev_ok hC3 (G.kp kk) B K (hl.kp kk) hsn (hs.kp kk) (line_len _ _ _ _ _ _) (line_len _ _ _ _ _ _) (lineK_low L ts i j))) (by rw [lev_dst T H])
set_option maxHeartbeats 8000000 in
theorem law_4c {k : Nat} (hX : (lwX prog w A a pm cd doc s mg mb).Gd) (G : Gl prog mg mb (k + 1) (lwX prog w A a pm cd doc s mg mb).A s) (B : Bis mg mb) {aj : Addr} {pm' cd' doc' : Value} (hjn : mg "_law_joined" = some (.ref aj)) (hj : FnIs s.heap aj (fnAt 19 pm' cd' doc'))
    {L : List (List Int)} {ts : List Int} {n : Nat} (h3 : 3 ≤ n) (hn : n ≤ 6) {hB : Heap} {s₁ : Shared}
    (f : FS (lwX prog w A a pm cd doc s mg mb) hB [("below", .dat (listII (belowOf L ts n))), ("answers", .dat (listII L)), ("tolls", .dat (listI ts)), ("n", .dat (.int (n : Nat)))] s₁) {Q : Flow → Shared → Prop}
    (h : ∀ s', FS (lwX prog w A a pm cd doc s mg mb) hB [("lengths", .dat (.list ((joined (tabOf L ts n)).map lenD))), ("answers", .dat (listII L)), ("tolls", .dat (listI ts)), ("n", .dat (.int (n : Nat)))] s' →
      wpAny (lwX prog w A a pm cd doc s mg mb).m (lwX prog w A a pm cd doc s mg mb).A (execs ((bodyAt 20).drop 15) (lwX prog w A a pm cd doc s mg mb).env) Q (fun _ _ => False) s') :
    wpAny (lwX prog w A a pm cd doc s mg mb).m (lwX prog w A a pm cd doc s mg mb).A (execs ((bodyAt 20).drop 14) (lwX prog w A a pm cd doc s mg mb).env) Q (fun _ _ => False) s₁ := by
  have hC := f.cx hX
  have htl : (tabOf L ts n).length = n := by unfold tabOf; rw [List.length_map, List.length_range]
  have hsq : ∀ r ∈ tabOf L ts n, r.length = (tabOf L ts n).length := fun r hr => by
    rw [htl]
    obtain ⟨x, _, rfl⟩ := List.mem_map.mp hr
    rw [List.length_map, List.length_range]
  refine FS.seq ?_
  show wpAny _ _ (exec (.Assign _ _ _) _) _ _ _
  refine FS.setM f (d := .list ((joined (tabOf L ts n)).map lenD)) ?_ (.inl rfl) fun s₂ f₂ _ => h s₂ (f₂.sub (sub_cons rfl (sub_cons rfl (sub_cons rfl (sub_cons rfl sub_nil)))))
  refine Ev.callF (a := aj) (ds := [tabD (tabOf L ts n)]) (Ev.global hC rfl hjn) (hj.kp f.F.keeps).fn (EvL.cons ?_ EvL.nil) (joined_ok hC (G.kp f.F.keeps) B (hj.kp f.F.keeps) hsq (by omega) (by omega))
  refine Ev.cast (Ev.comp hC (P := fun _ h v => RangeOf (fun _ => True) 0 ((n : Nat) : Int) 1 h v) ["a"] (fun s' k' => ?_) (Iters.range hC (by omega)) (fun i => [("a", .dat (.int (i : Nat)))]) (fun x _ => .name) (fun x _ => rfl) (by kernel_rfl) (fun _ => true) (fun i : Nat => .list ((List.range n).map fun b => .int (8 * dst L ts i b))) (by simp; omega) (fun x _ cenv ok' s' hC'' hsc k' => .nil) (fun i hi _ cenv ok' s' hC'' hsc k' => ?_)) (by rw [flt_all]; unfold tabD tabOf; rw [List.map_map]; congr 1; refine List.map_congr_left fun i _ => ?_; show _ = rowD _; unfold rowD; rw [List.map_map]; rfl)
  · have hC' := hC.at k'
    exact Ev.callT (T := "range") (ds := [.int (n : Nat)]) (by walk_at "fn") (EvL.cons (Ev.nameD hC' rfl) EvL.nil) call_range1
  have hin : i < n := List.mem_range.mp hi
  refine Ev.cast (Ev.comp hC'' (P := fun _ h v => RangeOf ok' 0 ((n : Nat) : Int) 1 h v) ["b"] (fun s'' k'' => ?_) (Iters.range hC'' (by omega)) (fun j => [("b", .dat (.int (j : Nat)))]) (fun x _ => .name) (fun x _ => rfl) (by show scopeOk _ _ (fun z => cenv.scope.names.lookup z) _ = true; rw [hsc]; kernel_rfl) (fun _ => true) (fun j : Nat => .int (8 * dst L ts i j)) (by simp; omega) (fun x _ cenv' ok'' s'' hC3 hsc3 k'' => .nil) (fun j hj _ cenv' ok'' s'' hC3 hsc3 k'' => ?_)) (by rw [flt_all])
  · have hC' := hC''.at k''
    exact Ev.callT (T := "range") (ds := [.int (n : Nat)]) (by walk_at "fn") (EvL.cons (Ev.nameD hC' rfl) EvL.nil) call_range1
  have hjn : j < n := List.mem_range.mp hj
  refine Ev.ifExp (c := ((i : Nat) : Int) != ((j : Nat) : Int)) (by walk_at "ts") (fun hb => ?_) fun hb => ?_
  · have hne : i ≠ j := fun e => by subst e; simp at hb
    have hlt := mm_lt hne
    have hmax : max i j < n := Nat.max_lt.mpr ⟨hin, hjn⟩
    refine Ev.cast (Ev.binop Ev.int (Ev.item (ds := (List.range (max i j)).map fun b => PyData.int (dst L ts (max i j) b)) (k := ((min i j : Nat) : Int)) (d := .int (dst L ts (max i j) (min i j))) (Ev.item (ds := (belowOf L ts n).map listI) (k := ((max i j : Nat) : Int)) (Ev.nameD hC3 rfl) (Ev.cast (Ev.callB (by walk_at "fn") (EvL.cons (Ev.nameD hC3 (d := .int (i : Nat)) rfl) (EvL.cons (Ev.nameD hC3 (d := .int (j : Nat)) rfl) EvL.nil)) (call_max2 hC3)) (congrArg PyData.int (mx_is i j))) (Int.natCast_nonneg _) (n63 hmax hn) (below_at hmax))
      (Ev.cast (Ev.callB (by walk_at "fn") (EvL.cons (Ev.nameD hC3 (d := .int (i : Nat)) rfl) (EvL.cons (Ev.nameD hC3 (d := .int (j : Nat)) rfl) EvL.nil)) (call_min2 hC3)) (congrArg PyData.int (mn_is i j))) (Int.natCast_nonneg _) (n63 (Nat.lt_trans hlt hmax) hn) (by rw [Int.toNat_natCast, List.getElem?_map, List.getElem?_range hlt]; rfl)) (bin_mul (IntMulOk.of_left (by decide)))) (by rw [dst_mm])
  · have he : i = j := by
      have : ((i : Nat) : Int) = j := by simpa using hb
      omega
    subst he
    exact Ev.cast Ev.int (by rw [dst_self]; rfl)
end
theorem eqv_rows (a b : List Int) : PyData.eqv (rowD a) (rowD b) = decide (a = b) := by
  unfold rowD
  simp only [PyData.eqv, ked_eqvAll]
theorem row_lay0 (l : List Int) : (rowD l).canLay0 = true := ints_lay l
theorem row_dep (l : List Int) : (rowD l).depth ≤ 100 := by
  have : (rowD l).depth ≤ 1 := ints_dep l
  omega
theorem in_ints (x : Int) : ∀ l : List Int, ((l.map PyData.int).any fun y => PyData.eqv y (.int x)) = l.contains x
  | [] => rfl
  | y :: l => by
    rw [List.map_cons, List.any_cons, in_ints x l, List.contains_cons]
    congr 1
    show (y == x) = (x == y)
    exact Bool.beq_comm
theorem sum_filter (q : Nat → Bool) (g : Nat → Int) : (((List.range 6).filter q).map g).sum = sumK fun k => if q k = true then g k else 0 := by
  have e : List.range 6 = [0, 1, 2, 3, 4, 5] := rfl
  have key : ∀ l : List Nat, ((l.filter q).map g).sum = (l.map fun k => if q k = true then g k else 0).sum := by
    intro l
    induction l with
    | nil => rfl
    | cons x l ih =>
      rw [List.map_cons, List.sum_cons, ← ih, List.filter_cons]
      by_cases h : q x = true
      · rw [if_pos h, if_pos h]; rfl
      · rw [if_neg h, if_neg h, Int.zero_add]
  rw [key, e]
  unfold sumK
  generalize (fun k => if q k = true then g k else 0) = f
  simp only [List.map_cons, List.map_nil, List.sum_cons, List.sum_nil]
  omega
theorem tolls_range {ts : List Int} (T : TollsIs ts) : ts = (List.range 6).map (tolK ts) := by
  refine List.ext_getElem? fun i => ?_
  by_cases h : i < 6
  · rw [List.getElem?_map, List.getElem?_range h]
    have hl : i < ts.length := by rw [T.len]; exact h
    show _ = some (tolK ts i)
    unfold tolK
    rw [List.getElem?_eq_getElem hl]; rfl
  · rw [List.getElem?_eq_none (by rw [T.len]; omega), List.getElem?_eq_none (by simp; omega)]
theorem tolls_data {ts : List Int} (T : TollsIs ts) : PyData.list (ts.map .int) = .list ((List.range 6).map fun k => .int (tolK ts k)) := by
  have e := congrArg (List.map PyData.int) (tolls_range T)
  rw [e, List.map_map]; rfl
noncomputable def outsOf (L : List (List Int)) (n : Nat) : List (List Int) := (List.range 6).map fun k => outL n (outK L k)
theorem outs_range {L : List (List Int)} {n : Nat} (H : AnsIs L n) : (L.map fun l => outL n fun i => l[i]?.getD 0 == 1) = outsOf L n := by
  unfold outsOf
  refine List.ext_getElem? fun k => ?_
  by_cases h : k < 6
  · have hl : k < L.length := by rw [H.len]; exact h
    rw [List.getElem?_map, List.getElem?_map, List.getElem?_range h, List.getElem?_eq_getElem hl]
    show some (outL n _) = some (outL n _)
    have : (fun i => (L[k])[i]?.getD 0 == 1) = outK L k := by
      funext i
      unfold outK ansAt
      rw [List.getElem?_eq_getElem hl]
      show _ = decide ((L[k])[i]?.getD 0 = 1)
      rw [Bool.eq_iff_iff, beq_iff_eq, decide_eq_true_eq]
    rw [this]
  · rw [List.getElem?_eq_none (by rw [List.length_map, H.len]; omega), List.getElem?_eq_none (by simp; omega)]
theorem outs_data (L : List (List Int)) (n : Nat) : tabD (outsOf L n) = .list ((List.range 6).map fun k => rowD (outL n (outK L k))) := by
  unfold tabD outsOf; rw [List.map_map]; rfl
theorem outL_len (n : Nat) (p : Nat → Bool) : (outL n p).length ≤ n := by
  unfold outL
  rw [List.length_map]
  have := List.length_filter_le p (List.range n)
  rwa [List.length_range] at this
section
variable {prog : Program} {w : World} {A : Around} {a : Addr} {pm cd doc : Value} {s : Shared} {mg mb : Str → Option Value}
set_option maxHeartbeats 8000000 in
theorem law_4d (hX : (lwX prog w A a pm cd doc s mg mb).Gd) (B : Bis mg mb)
    {L : List (List Int)} {tollsD lenD' : PyData} {n : Nat} (H : AnsIs L n) (hn : n ≤ 6) {hB : Heap} {s₁ : Shared}
    (f : FS (lwX prog w A a pm cd doc s mg mb) hB [("lengths", .dat lenD'), ("answers", .dat (listII L)), ("tolls", .dat tollsD), ("n", .dat (.int (n : Nat)))] s₁) {Q : Flow → Shared → Prop}
    (h : ∀ s', FS (lwX prog w A a pm cd doc s mg mb) hB [("outs", .dat (tabD (outsOf L n))), ("lengths", .dat lenD'), ("tolls", .dat tollsD), ("n", .dat (.int (n : Nat)))] s' →
      wpAny (lwX prog w A a pm cd doc s mg mb).m (lwX prog w A a pm cd doc s mg mb).A (execs ((bodyAt 20).drop 16) (lwX prog w A a pm cd doc s mg mb).env) Q (fun _ _ => False) s') :
    wpAny (lwX prog w A a pm cd doc s mg mb).m (lwX prog w A a pm cd doc s mg mb).A (execs ((bodyAt 20).drop 15) (lwX prog w A a pm cd doc s mg mb).env) Q (fun _ _ => False) s₁ := by
  have hC := f.cx hX
  have hL6 := H.len
  refine FS.seq ?_
  show wpAny _ _ (exec (.Assign _ _ _) _) _ _ _
  refine FS.setC hX f (P := fun _ h v => Rd (fun _ => True) h (.list (L.map listI)) v) (l := L) (sp := fun l => .dat (listI l)) ["said"] (fun s' k' => Ev.nameD (hC.at k') rfl) (Iters.list hC) (fun r => [("said", .dat (listI r))]) (fun x _ => .name) (fun x _ => rfl) (by kernel_rfl) (fun _ => true) (fun l => rowD (outL n fun i => l[i]?.getD 0 == 1)) (by omega) (fun x _ cenv ok' s' hC'' hsc k' => .nil) (fun l hl _ cenv ok' s' hC'' hsc k' => ?_) (.inl rfl) fun s₂ f₂ => h s₂ ?_
  · have hll := H.row l hl
    refine Ev.cast (Ev.comp hC'' (P := fun _ h v => RangeOf ok' 0 ((n : Nat) : Int) 1 h v) ["at"] (fun s'' k'' => ?_) (Iters.range hC'' (by omega)) (fun j => [("at", .dat (.int (j : Nat)))]) (fun x _ => .name) (fun x _ => rfl) (by show scopeOk _ _ (fun z => cenv.scope.names.lookup z) _ = true; rw [hsc]; kernel_rfl) (fun i => l[i]?.getD 0 == 1) (fun j : Nat => .int (j : Nat)) (by simp; omega) (fun j hj cenv' ok'' s'' hC3 hsc3 k'' => .one ?_) (fun j hj _ cenv' ok'' s'' hC3 hsc3 k'' => Ev.nameD hC3 rfl)) ?_
    · have hC' := hC''.at k''
      exact Ev.callT (T := "range") (ds := [.int (n : Nat)]) (by walk_at "fn") (EvL.cons (Ev.nameD hC' rfl) EvL.nil) call_range1
    · have hjn : j < l.length := by rw [hll]; exact List.mem_range.mp hj
      exact Ts.cmp (Ev.item (ds := l.map .int) (k := (j : Nat)) (d := .int (l[j]?.getD 0)) (Ev.nameD hC3 rfl) (Ev.nameD hC3 rfl) (by omega) (by omega) (by rw [Int.toNat_natCast, List.getElem?_map, List.getElem?_eq_getElem hjn]; rfl)) Ev.int cmp_eqI
    · unfold rowD outL; rw [List.map_map]; rfl
  · have e : PyData.list ((L.filter fun _ => true).map fun l => rowD (outL n fun i => l[i]?.getD 0 == 1)) = tabD (outsOf L n) := by
      rw [← outs_range H, List.filter_eq_self.mpr (fun _ _ => rfl)]; unfold tabD; rw [List.map_map]; rfl
    rw [e] at f₂
    exact f₂.sub (sub_cons rfl (sub_cons rfl (sub_cons rfl (sub_cons rfl sub_nil))))
set_option maxHeartbeats 8000000 in
theorem law_5a (hX : (lwX prog w A a pm cd doc s mg mb).Gd) (B : Bis mg mb)
    {L : List (List Int)} {ts : List Int} {n : Nat} (T : TollsIs ts) (hn : n ≤ 6) {J : List (List Int × Int)} (hJl : J.length ≤ 1000) (hJ : ∀ p ∈ J, p.2 = 16 * sumK fun k => if matchK n (outK L k) p.1 = true then tolK ts k else 0) {hB : Heap} {s₁ : Shared}
    (f : FS (lwX prog w A a pm cd doc s mg mb) hB [("outs", .dat (tabD (outsOf L n))), ("lengths", .dat (.list (J.map lenD))), ("tolls", .dat (listI ts)), ("n", .dat (.int (n : Nat)))] s₁) {Q : Flow → Shared → Prop}
    (h : ∀ s', FS (lwX prog w A a pm cd doc s mg mb) hB [("outs", .dat (tabD (outsOf L n))), ("lengths", .dat (.list (J.map lenD))), ("tolls", .dat (listI ts)), ("n", .dat (.int (n : Nat)))] s' →
      wpAny (lwX prog w A a pm cd doc s mg mb).m (lwX prog w A a pm cd doc s mg mb).A (execs ((bodyAt 20).drop 17) (lwX prog w A a pm cd doc s mg mb).env) Q (fun _ _ => False) s') :
    wpAny (lwX prog w A a pm cd doc s mg mb).m (lwX prog w A a pm cd doc s mg mb).A (execs ((bodyAt 20).drop 16) (lwX prog w A a pm cd doc s mg mb).env) Q (fun _ _ => False) s₁ := by
  have hC := f.cx hX
  refine FS.seq ?_
  show wpAny _ _ (exec (.For _ _ _ _ _) _) _ _ _
  refine FS.forL hX f (P := fun _ h v => Rd (fun _ => True) h (.list (J.map lenD)) v) (l := J) (sp := fun p => .dat (lenD p)) (Ev.nameD hC rfl) (Iters.list hC) (fun p => [("twice", .dat (.int p.2)), ("group", .dat (rowD p.1))]) (fun x _ => .pair) (fun x _ => own2 (.inl rfl) (.inr ⟨rfl, rfl, ⟨_, rfl⟩⟩))
    (fun _ => [("outs", .dat (tabD (outsOf L n))), ("lengths", .dat (.list (J.map lenD))), ("tolls", .dat (listI ts)), ("n", .dat (.int (n : Nat)))]) (sub_cons rfl (sub_cons rfl (sub_cons rfl (sub_cons rfl sub_nil))))
    (fun _ _ _ => True) (fun _ _ _ _ _ _ _ => trivial) (fun _ _ _ => trivial) ?_ fun ok' s₅ _ f₅ _ => h s₅ f₅
  intro ok' hsub hal i p s₅ hp f₅ _
  have hpm := List.mem_of_getElem? hp
  have hX₅ := hX.withOk hsub
  have hC₅ := f₅.cx hX₅
  refine FS.seq ?_
  show wpAny _ _ (exec (.Assign _ _ _) _) _ _ _
  refine FS.setM f₅ (d := rowD (restL n p.1)) ?_ (.inr ⟨rfl, rfl, ⟨_, rfl⟩⟩) fun s₆ f₆ _ => ?_
  · refine Ev.cast (Ev.comp hC₅ (P := fun _ h v => RangeOf ok' 0 ((n : Nat) : Int) 1 h v) ["at"] (fun s'' k'' => ?_) (Iters.range hC₅ (by omega)) (fun j => [("at", .dat (.int (j : Nat)))]) (fun x _ => .name) (fun x _ => rfl) (by kernel_rfl) (fun x => !inL p.1 x) (fun j : Nat => .int (j : Nat)) (by simp; omega) (fun j hj cenv' ok'' s'' hC3 hsc3 k'' => .one ?_) (fun j hj _ cenv' ok'' s'' hC3 hsc3 k'' => Ev.nameD hC3 rfl)) ?_
    · have hC' := hC₅.at k''
      exact Ev.callT (T := "range") (ds := [.int (n : Nat)]) (by walk_at "fn") (EvL.cons (Ev.nameD hC' rfl) EvL.nil) call_range1
    · refine Ts.cast (Ts.cmp (Ev.nameD hC3 rfl) (Ev.nameD hC3 (d := .list (p.1.map .int)) rfl) (cmp_notIn hC3 (lay_ints p.1) rfl (Nat.zero_le _))) ?_
      rw [in_ints]; rfl
    · unfold rowD restL outL; rw [List.map_map]; rfl
  have hC₆ := f₆.cx hX₅
  have hpe := hJ p hpm
  refine FS.seq (FS.iff f₆ (b := false) (Ts.cast (Ts.cmp (a := .int p.2) (b := .int (16 * sumK fun k => if matchK n (outK L k) p.1 = true then tolK ts k else 0)) (Ev.nameD hC₆ rfl) ?_ cmp_neI) (by rw [← hpe]; simp)) (fun hb => nomatch hb) fun _ s₇ f₇ _ => wpAny_execs_nil (wpAny_execs_nil ⟨f₇.sub (sub_cons rfl (sub_cons rfl (sub_cons rfl (sub_cons rfl sub_nil)))), trivial⟩))
  rw [← sum_filter]
  refine Ev.binop Ev.int (Ev.callB (by walk_at "fn") (EvL.cons (Ev.cast (d' := .list ((((List.range 6).filter fun k => matchK n (outK L k) p.1).map (tolK ts)).map .int)) (Ev.comp hC₆ (P := fun h₀ h v => ZipOf ok' ((List.range 6).map fun k => .int (tolK ts k)) ((List.range 6).map fun k => rowD (outL n (outK L k))) h₀ h v) ["out", "toll"] (fun s' k' => ?_) (Iters.zip hC₆) (fun k : Nat => [("out", .dat (rowD (outL n (outK L k)))), ("toll", .dat (.int (tolK ts k)))]) (fun x _ => .pair) (fun x _ => rfl) (by kernel_rfl) (fun k => matchK n (outK L k) p.1) (fun k : Nat => .int (tolK ts k)) (by decide) (fun x _ cenv ok' s' hC'' hsc k' => .one ?_) (fun x hx _ cenv ok' s' hC'' hsc k' => Ev.nameD hC'' rfl)) ?_) EvL.nil) (call_sumL hC₆)) (bin_mul (IntMulOk.of_left (by decide)))
  · have hC'' := hC₆.at k'
    exact Ev.callT (T := "zip") (ds := [.list ((List.range 6).map fun k => .int (tolK ts k)), .list ((List.range 6).map fun k => rowD (outL n (outK L k)))]) (by walk_at "fn") (EvL.cons (Ev.cast (Ev.nameD hC'' (d := .list (ts.map .int)) rfl) (tolls_data T)) (EvL.cons (Ev.cast (Ev.nameD hC'' (d := tabD (outsOf L n)) rfl) (outs_data L n)) EvL.nil)) call_zip
  · refine Ts.cast (Ts.ops (TsA.or (Ts.cmp (Ev.nameD hC'' rfl) (Ev.nameD hC'' rfl) (cmp_eqD hC'' (row_lay0 _) (row_lay0 _) (row_dep _))) fun _ => TsA.or (Ts.cmp (Ev.nameD hC'' rfl) (Ev.nameD hC'' rfl) (cmp_eqD hC'' (row_lay0 _) (row_lay0 _) (row_dep _))) fun _ => TsA.or0)) ?_
    rw [eqv_rows, eqv_rows, Bool.or_false]; rfl
  · rw [List.map_map]; rfl
set_option maxHeartbeats 8000000 in
theorem law_5b (hX : (lwX prog w A a pm cd doc s mg mb).Gd) (B : Bis mg mb)
    {L : List (List Int)} {ts : List Int} {n : Nat} (T : TollsIs ts) (hn : n ≤ 6) {J : List (List Int × Int)} (hJl : J.length ≤ 1000) (hJ : (J.map (·.2)).sum = 16 * sumK fun k => if nontriv n (outK L k) = true then tolK ts k else 0) {hB : Heap} {s₁ : Shared}
    (f : FS (lwX prog w A a pm cd doc s mg mb) hB [("outs", .dat (tabD (outsOf L n))), ("lengths", .dat (.list (J.map lenD))), ("tolls", .dat (listI ts)), ("n", .dat (.int (n : Nat)))] s₁) {Q : Flow → Shared → Prop}
    (h : ∀ s', Keeps s₁ s' → Q (.ret (.bool true)) s') :
    wpAny (lwX prog w A a pm cd doc s mg mb).m (lwX prog w A a pm cd doc s mg mb).A (execs ((bodyAt 20).drop 17) (lwX prog w A a pm cd doc s mg mb).env) Q (fun _ _ => False) s₁ := by
  have hC := f.cx hX
  refine FS.seq ?_
  show wpAny _ _ (exec (.Return _ _) _) _ _ _
  refine FS.retD f (d := .bool true) ?_ fun v s' k' hv => by rw [Rd_bool.mp hv]; exact h s' k'
  refine Ev.cast (Ev.cmp (a := .int ((J.map (·.2)).sum)) (b := .int (16 * sumK fun k => if nontriv n (outK L k) = true then tolK ts k else 0)) ?_ ?_ cmp_eqI) (by rw [← hJ]; simp)
  · refine Ev.callB (by walk_at "fn") (EvL.cons (Ev.cast (d' := .list ((J.map (·.2)).map .int)) (Ev.comp hC (P := fun _ h v => Rd (fun _ => True) h (.list (J.map lenD)) v) (l := J) (sp := fun p => .dat (lenD p)) ["twice", "group"] (fun s' k' => Ev.nameD (hC.at k') rfl) (Iters.list hC) (fun p => [("twice", .dat (.int p.2)), ("group", .dat (rowD p.1))]) (fun x _ => .pair) (fun x _ => rfl) (by kernel_rfl) (fun _ => true) (fun p => .int p.2) (by omega) (fun x _ cenv ok' s' hC'' hsc k' => .nil) (fun x hx _ cenv ok' s' hC'' hsc k' => Ev.nameD hC'' rfl)) (by rw [List.filter_eq_self.mpr (fun _ _ => rfl), List.map_map]; rfl)) EvL.nil) (call_sumL hC)
  rw [← sum_filter]
  refine Ev.binop Ev.int (Ev.callB (by walk_at "fn") (EvL.cons (Ev.cast (d' := .list ((((List.range 6).filter fun k => nontriv n (outK L k)).map (tolK ts)).map .int)) (Ev.comp hC (P := fun h₀ h v => ZipOf (fun _ => True) ((List.range 6).map fun k => .int (tolK ts k)) ((List.range 6).map fun k => rowD (outL n (outK L k))) h₀ h v) ["out", "toll"] (fun s' k' => ?_) (Iters.zip hC) (fun k : Nat => [("out", .dat (rowD (outL n (outK L k)))), ("toll", .dat (.int (tolK ts k)))]) (fun x _ => .pair) (fun x _ => rfl) (by kernel_rfl) (fun k => nontriv n (outK L k)) (fun k : Nat => .int (tolK ts k)) (by decide) (fun x _ cenv ok' s' hC'' hsc k' => .one ?_) (fun x hx _ cenv ok' s' hC'' hsc k' => Ev.nameD hC'' rfl)) ?_) EvL.nil) (call_sumL hC)) (bin_mul (IntMulOk.of_left (by decide)))
  · have hC'' := hC.at k'
    exact Ev.callT (T := "zip") (ds := [.list ((List.range 6).map fun k => .int (tolK ts k)), .list ((List.range 6).map fun k => rowD (outL n (outK L k)))]) (by walk_at "fn") (EvL.cons (Ev.cast (Ev.nameD hC'' (d := .list (ts.map .int)) rfl) (tolls_data T)) (EvL.cons (Ev.cast (Ev.nameD hC'' (d := tabD (outsOf L n)) rfl) (outs_data L n)) EvL.nil)) call_zip
  · have hol := outL_len n (outK L x)
    refine Ts.cast (Ts.cmp2 Ev.int (Ev.callB (by walk_at "fn") (EvL.cons (Ev.nameD hC'' (d := .list ((outL n (outK L x)).map .int)) rfl) EvL.nil) (call_lenL (by rw [List.length_map]; omega))) (Ev.nameD hC'' rfl) cmp_ltI cmp_ltI) ?_
    rw [List.length_map]
    unfold nontriv
    congr 1 <;> exact decide_eq_decide.mpr (by omega)
  · rw [List.map_map]; rfl
end
/-! ## the plain law, joined -/
theorem tolls_is (ns : List Int) : TollsIs (tollsOf ns) := ⟨tollsOf_len ns, fun k hk => by
  have hl : k < (headNums ns).length := by rw [headNums_len]; exact hk
  have e : tolK (tollsOf ns) k = ((((headNums ns)[k].fdiv ((rowsOf ns).length : Nat)).fdiv 3).fmod 2) * tabK k := by
    unfold tolK tollsOf tabK
    rw [List.getElem?_map, List.getElem?_zipIdx, List.getElem?_eq_getElem hl]
    simp
  rw [e]
  generalize (((headNums ns)[k].fdiv ((rowsOf ns).length : Nat)).fdiv 3) = x
  have h1 := Int.fmod_nonneg_of_pos x (b := 2) (by decide)
  have h2 := Int.fmod_lt_of_pos x (b := 2) (by decide)
  have : x.fmod 2 = 0 ∨ x.fmod 2 = 1 := by omega
  rcases this with h | h <;> rw [h] <;> simp⟩
theorem ans01 (h r : List Str) : ansOf h r = 0 ∨ ansOf h r = 1 := by
  unfold ansOf; split <;> simp
theorem ansAt_eq {hs rw : List (List Str)} {k i : Nat} (hk : k < hs.length) (hi : i < rw.length) : ansAt (answersOf hs rw) k i = ansOf hs[k] rw[i] := by
  unfold ansAt answersOf
  rw [List.getElem?_map, List.getElem?_eq_getElem hk]
  show (rw.map _)[i]?.getD 0 = _
  rw [List.getElem?_map, List.getElem?_eq_getElem hi]; rfl
theorem ans_is {hs rw : List (List Str)} (h6 : hs.length = 6) : AnsIs (answersOf hs rw) rw.length where
  len := by unfold answersOf; rw [List.length_map, h6]
  row := fun l hl => by
    obtain ⟨h, _, rfl⟩ := List.mem_map.mp hl
    rw [List.length_map]
  val := fun k i => by
    by_cases hk : k < hs.length
    · by_cases hi : i < rw.length
      · rw [ansAt_eq hk hi]; exact ans01 _ _
      · left
        unfold ansAt answersOf
        rw [List.getElem?_map, List.getElem?_eq_getElem hk]
        show (rw.map _)[i]?.getD 0 = _
        rw [List.getElem?_eq_none (by rw [List.length_map]; omega)]; rfl
    · left
      have e : (answersOf hs rw)[k]? = none := List.getElem?_eq_none (by unfold answersOf; rw [List.length_map]; omega)
      unfold ansAt
      rw [e]; rfl
theorem outK_eq {hs rw : List (List Str)} {k i : Nat} (hk : k < hs.length) (hi : i < rw.length) : outK (answersOf hs rw) k i = (rw[i].take hs[k].length == hs[k]) := by
  unfold outK
  rw [ansAt_eq hk hi]
  unfold ansOf
  cases h : (rw[i].take hs[k].length == hs[k]) <;> simp
theorem take_pre {g h r : List Str} (hl : h.length ≤ g.length) (hg : (r.take g.length == g) = true) (e : g.take h.length = h) : (r.take h.length == h) = true := by
  have hg' : r.take g.length = g := by simpa using hg
  have : r.take h.length = h := by
    have := List.take_take (i := h.length) (j := g.length) (l := r)
    rw [Nat.min_eq_left hl, hg', e] at this
    exact this.symm
  simpa using this
theorem pre_take {g h r : List Str} (hl : h.length ≤ g.length) (hg : (r.take g.length == g) = true) (hh : (r.take h.length == h) = true) : g.take h.length = h := by
  have hg' : r.take g.length = g := by simpa using hg
  have hh' : r.take h.length = h := by simpa using hh
  have := List.take_take (i := h.length) (j := g.length) (l := r)
  rw [Nat.min_eq_left hl, hg', hh'] at this
  exact this
theorem compat_is {hs rw : List (List Str)} {k l : Nat} (hk : k < hs.length) (hl : l < hs.length) : Compat rw.length (outK (answersOf hs rw) k) (outK (answersOf hs rw) l) := by
  rcases Nat.le_total (hs[k]).length (hs[l]).length with hle | hle
  · by_cases e : (hs[l]).take (hs[k]).length = hs[k]
    · refine ⟨false, true, fun i hi h1 h2 => ?_⟩
      rw [outK_eq hk hi] at h1; rw [outK_eq hl hi] at h2
      rw [take_pre hle h2 e] at h1; cases h1
    · refine ⟨true, true, fun i hi h1 h2 => ?_⟩
      rw [outK_eq hk hi] at h1; rw [outK_eq hl hi] at h2
      exact e (pre_take hle h2 h1)
  · by_cases e : (hs[k]).take (hs[l]).length = hs[l]
    · refine ⟨true, false, fun i hi h1 h2 => ?_⟩
      rw [outK_eq hk hi] at h1; rw [outK_eq hl hi] at h2
      rw [take_pre hle h1 e] at h2; cases h2
    · refine ⟨true, true, fun i hi h1 h2 => ?_⟩
      rw [outK_eq hk hi] at h1; rw [outK_eq hl hi] at h2
      exact e (pre_take hle h1 h2)
theorem tabOf_len (L : List (List Int)) (ts : List Int) (n : Nat) : (tabOf L ts n).length = n := by unfold tabOf; rw [List.length_map, List.length_range]
theorem tabOf_get (L : List (List Int)) (ts : List Int) {n i j : Nat} (hi : i < n) (hj : j < n) : tget (tabOf L ts n) i j = 8 * dst L ts i j := by
  unfold tget tabOf
  rw [List.getElem?_map, List.getElem?_range hi]
  show ((List.range n).map _)[j]?.getD 0 = _
  rw [List.getElem?_map, List.getElem?_range hj]; rfl
theorem law_plain {hs rw : List (List Str)} {ts : List Int} (h6 : hs.length = 6) (h3 : 3 ≤ rw.length) (T : TollsIs ts) :
    (∀ p ∈ joined (tabOf (answersOf hs rw) ts rw.length), p.2 = 16 * sumK fun k => if matchK rw.length (outK (answersOf hs rw) k) p.1 = true then tolK ts k else 0) ∧
    ((joined (tabOf (answersOf hs rw) ts rw.length)).map (·.2)).sum = 16 * sumK fun k => if nontriv rw.length (outK (answersOf hs rw) k) = true then tolK ts k else 0 :=
  nj_main (n := rw.length) (toll := tolK ts) (out := outK (answersOf hs rw)) (tabOf_len _ _ _) h3 (fun r hr => by
    rw [tabOf_len]
    obtain ⟨x, _, rfl⟩ := List.mem_map.mp hr
    rw [List.length_map, List.length_range]) (fun i j hi hj => by rw [tabOf_get _ _ hi hj]; rfl) (fun k hk => (T.pos hk).1) fun k l hk hl _ _ => compat_is (by omega) (by omega)
theorem joined_len {t : List (List Int)} (h : t.length ≤ 6) : (joined t).length ≤ 1000 := by
  have e : joined t = (JS.iter (t.length - 3) (JS.start t)).fin := rfl
  rw [e]
  have e2 : ∀ J : JS, J.fin.length = J.ls.length + 3 := fun J => by unfold JS.fin; rw [List.length_append]; rfl
  rw [e2, JS.iter_ls]
  omega
/-- what stands at the top -/
structure Ground0 (mg : Str → Option Value) (h : Heap) (Ca N T fI an fa : Addr) (mN : Str → Option Value) : Prop where
  parts : ∃ b pm cd doc, mg "_law_parts" = some (.ref b) ∧ FnIs h b (fnAt 17 pm cd doc)
  mark : ∃ b pm cd doc, mg "_law_mark" = some (.ref b) ∧ FnIs h b (fnAt 18 pm cd doc)
  joined : ∃ b pm cd doc, mg "_law_joined" = some (.ref b) ∧ FnIs h b (fnAt 19 pm cd doc)
  lev : ∃ b pm cd doc, mg "_levenshtein_distance" = some (.ref b) ∧ FnIs h b (fnAt 6 pm cd doc)
  sub : ∃ b pm cd doc, mg "_substitution_cost" = some (.ref b) ∧ FnIs h b (fnAt 5 pm cd doc)
  own : OwnC mg h Ca N T fI an mN
  nm : ∃ pm cd doc, NmC h Ca N fa mN pm cd doc
  ign : mg "_Ignore" = some (.ref Ca)
  consts : Consts mg
  sm : h.get? sysModules ≠ none
section
variable {prog : Program} {w : World} {A : Around} {s : Shared} {mg mb : Str → Option Value}
set_option maxHeartbeats 8000000 in
theorem law_ok {k : Nat} {Ca N T fI an fa : Addr} {mN : Str → Option Value} (G : Gl prog mg mb (k + 6) A s) (B : Bis mg mb) (E : Ground0 mg s.heap Ca N T fI an fa mN) {a : Addr} {pm cd doc : Value} (hf : FnIs s.heap a (fnAt 20 pm cd doc)) {ns : List Int} (hns : ns.length ≤ 1000) {v : Value} (hv : Rd (fun _ => True) s.heap (.list (ns.map .int)) v) :
    wpAny (model prog w) A (call (.ref a) [v]) (fun r s' => Keeps s s' ∧ r = .bool true) (fun _ _ => False) s := by
  have D : DefIs (fnAt 20 pm cd doc) ["script"] := defIs_of (by kernel_rfl)
  obtain ⟨ap, pm1, cd1, doc1, hpn, hp⟩ := E.parts
  obtain ⟨am, pm2, cd2, doc2, hmn, hm⟩ := E.mark
  obtain ⟨aj, pm3, cd3, doc3, hjn, hj⟩ := E.joined
  obtain ⟨al, pm4, cd4, doc4, hln, hl⟩ := E.lev
  obtain ⟨as, pm5, cd5, doc5, hsn, hs⟩ := E.sub
  obtain ⟨pm6, cd6, doc6, hnm⟩ := E.nm
  refine call_fn (k := k + 5) (ok := fun _ => True) (names := ["script"]) (body := bodyAt 20) (sps := [.dat (.list (ns.map .int))]) (P := fun _ r => r = .bool true) G hf D rfl rfl ⟨v, [], rfl, hv, rfl⟩ (Nat.le_refl _) (fun _ _ => trivial) fun s₁ f => ?_
  have hX : (lwX prog w A a pm cd doc s mg mb).Gd := fxOf_gd G D rfl rfl (fun _ => True) (fun _ => True) fun _ _ => trivial
  have G' : Gl prog mg mb (k + 5) (lwX prog w A a pm cd doc s mg mb).A s := G.deeper _
  have hs6 := headsOf_len ns
  have hsr := headsOf_row ns
  have hrl := rowsOf_len ns
  have hrr := rowsOf_row ns
  have Tl := tolls_is ns
  have H := ans_is (rw := rowsOf ns) hs6
  obtain ⟨P1, P2⟩ := law_plain (rw := rowsOf ns) hs6 (by omega) Tl
  have hJl : (joined (tabOf (answersOf (headsOf ns) (rowsOf ns)) (tollsOf ns) (rowsOf ns).length)).length ≤ 1000 := joined_len (by rw [tabOf_len]; omega)
  refine law_1 (k := 0) hX (G'.less (by omega)) B hpn hp hns f fun s₂ f₂ => ?_
  refine law_2 (k := k) hX G' B E.own E.ign hs6 hsr f₂ fun D' rs s₃ hD0 hr6 f₃ hD R => ?_
  refine law_3a (k := 0) hX (G'.less (by omega)) E.consts.sep E.sm hnm hs6 hsr (by omega) hrr hr6 f₃ hD R fun M' s₄ f₄ hD₄ R₄ hM => ?_
  refine law_3b hX B hs6 hsr (by omega) hrr f₄ fun s₅ k₅ f₅ => ?_
  refine law_3c (k := 0) hX (G'.less (by omega)) E.consts.sep E.sm hnm hs6 hsr (by omega) hrr hr6 f₅ (isList_kp hD₄ k₅) (R₄.mv (fun b o _ e => Kp.get k₅ b o e) fun b o p _ => p) hM fun s₆ f₆ => ?_
  refine law_3d hX (L := answersOf (headsOf ns) (rowsOf ns)) (by rw [H.len]; omega) (fun l hl => by rw [H.row l hl]; omega) f₆ fun s₇ f₇ => ?_
  refine law_4a (k := 0) hX (G'.less (by omega)) B hmn hm (ts := tollsOf ns) Tl H (by omega) f₇ fun s₈ f₈ => ?_
  refine law_4b (k := 0) hX (G'.less (by omega)) B E.consts hln hl hsn hs Tl H (by omega) f₈ fun s₉ f₉ => ?_
  refine law_4c (k := 0) hX (G'.less (by omega)) B hjn hj (by omega) (by omega) f₉ fun t₁ g₁ => ?_
  refine law_4d hX B H (by omega) g₁ fun t₂ g₂ => ?_
  refine law_5a hX B Tl (by omega) hJl P1 g₂ fun t₃ g₃ => ?_
  exact law_5b hX B Tl (by omega) hJl P2 g₃ fun t₄ k₄ => ⟨Kp.trans g₃.F.keeps k₄, rfl⟩
end
/-! ## the law is well said: looked at part by part -/
noncomputable abbrev lawL : OpenLaw := PySem.Challenge.rw_pw0012_01
noncomputable abbrev pw : Program := lawL.row.toRowW.prog
theorem said1 : sreFenced pw.main = true := by
  rw [PySem.W.Fast.te11788848310118352699]
  kernel_rfl
theorem said2 : ((moduleNames pw.main.body).isEmpty || lookedIntoSs (moduleNames pw.main.body) pw.main.body) = true := by kernel_rfl
theorem said3 : namesResolve pw = true := by kernel_rfl
theorem said4 : pw.boundNames.all (fun n => !worldNames.contains n) = true := by kernel_rfl
theorem said5 : noRoadLSs { strict := !(importedModules pw.main.body).all cThrough.contains, foot := none, bare := (["vars", "dir", "locals"] : List Str).filter (readsOut pw pw.main.body) } pw.main.body = true := by kernel_rfl
theorem said6 : (namesMeet pw pw.main.body fun _ n => attrL n) = true := by kernel_rfl
theorem saidLooks : looksOpen pw = true := by
  delta looksOpen
  exact look_both (look_both (look_both (look_both (look_both said1 said2) said3) said4) said5) said6
theorem saidPart : lawL.row.partSaid = true := by
  delta OpenRow.partSaid
  refine look_both (look_both (look_both (look_both (look_both (look_both (look_both (look_both (look_both (look_both (look_both (look_both (look_both saidLooks ?_) ?_) ?_) ?_) ?_) ?_) ?_) ?_) ?_) ?_) ?_) ?_) ?_ <;> kernel_rfl
theorem saidRow : lawL.row.wellSaid = true := by
  delta OpenRow.wellSaid
  exact look_both (look_both saidPart (by kernel_rfl)) (by kernel_rfl)
theorem saidLaw : lawL.wellSaid = true := by
  delta OpenLaw.wellSaid
  refine look_both (look_both (look_both (look_both (look_both (look_both (look_both (look_both (look_both (look_both (look_both (look_both (look_both (look_both (look_both (look_both (look_both (look_both saidRow ?_) ?_) ?_) ?_) ?_) ?_) ?_) ?_) ?_) ?_) ?_) ?_) ?_) ?_) ?_) ?_) ?_) ?_ <;> kernel_rfl
/-! ## the top: what stands when the text has been run -/
noncomputable def fnObj (fd : FuncData) : Obj := { cls := .type "function", data := .func fd }
noncomputable def tpl (fd : FuncData) : Obj := { cls := .none, data := .func { fd with globals := 0 } }
noncomputable def fld (c : Value) (l : List Value) : Obj := { cls := c, data := .fields l.toArray }
noncomputable def tup (l : List Value) : Obj := { cls := .type "tuple", data := .seq l.toArray }
noncomputable def dic (l : List DictEntry) (n : Nat) : Obj := { cls := .type "dict", data := .dict l.toArray n }
noncomputable def ent (P : Params) (n : Str) (t : Nat) (v : Value) : DictEntry := { hash := PyData.keyHash P n, key := .str n t, val := v }
/-- the names that the text binds, in their order -/
noncomputable def globs (P : Params) (nm : Value) : List DictEntry := [ent P "__name__" 165 nm, ent P "__doc__" 166 (.none), ent P "__package__" 167 (.none), ent P "__loader__" 168 (.builtin "__main__.__loader__#opaque"), ent P "__spec__" 169 (.none), ent P "__annotations__" 170 (.ref 6), ent P "__builtins__" 171 (.ref 4), ent P "__file__" 173 (.str "/claim/cut.py" 172), ent P "__cached__" 174 (.none), ent P "_wall" 193 (.ref 21), ent P "_MAX_STRING_SIZE" 197 (.int 40 196), ent P "_MOVE_COST" 199 (.int 2 198), ent P "_CASE_COST" 201 (.int 1 200), ent P "_substitution_cost" 209 (.ref 28), ent P "_levenshtein_distance" 229 (.ref 35), ent P "sep" 231 (.str "/" 230), ent P "_kind" 242 (.ref 42), ent P "_c_path" 255 (.ref 49), ent P "_splitroot" 264 (.ref 56), ent P "_normpath" 279 (.ref 63), ent P "normpath" 287 (.ref 70), ent P "_Ignore" 329 (.ref 93), ent P "_law_parts" 337 (.ref 102), ent P "_law_mark" 346 (.ref 109), ent P "_law_joined" 352 (.ref 114), ent P "law" 358 (.ref 119)]
noncomputable def lines : List Value := [.int 1 0, .int 0 0, .ref 20, .int 8 0, .int 0 0, .ref 27, .int 14 0, .int 0 0, .ref 34, .int 54 0, .int 0 0, .ref 41, .int 75 0, .int 0 0, .ref 48, .int 86 0, .int 0 0, .ref 55, .int 95 0, .int 0 0, .ref 62, .int 114 0, .int 0 0, .ref 69, .int 117 0, .int 0 0, .ref 76, .int 144 0, .int 0 0, .ref 101, .int 146 0, .int 0 0, .ref 108, .int 152 0, .int 0 0, .ref 113, .int 169 0, .int 0 0, .ref 118]
/-- what stands: nm the name of the text, k names bound, c lines told, n objects -/
noncomputable def objs (P : Params) (nm : Value) (k c : Nat) : List Obj := [
  boot_o_0 P,
  boot_o_1 P,
  boot_o_2 P,
  dic ((globs P nm).take k) k,
  boot_o_4 P,
  boot_o_5 P,
  boot_o_6 P,
  boot_o_7 P,
  boot_o_8 P,
  boot_o_9 P,
  boot_o_10 P,
  tup [],
  fld .none (lines.take c),
  fld (.type "code") [.str "<module>" 182, .str "<module>" 183, .str "/claim/cut.py" 184, .int 1 0, .int 0 0, .int 0 0, .int 0 0, .int 0 0, .ref 11, .bool false, .int 181 0, .ref 12, .none, .none, .none, .none, .int 185 0, .int 1 0, .str "/claim/cut.py" 186],
  { cls := Value.type "frame", slots := #[some (Value.ref 13), some (Value.ref 3), some (Value.ref 3), none, some (Value.str "__main__" 164), none, some (Value.ref 0)] },
  tup [],
  fld .none [],
  tup [.str "k" 190],
  tup [],
  tpl (fnAt 0 .none .none .none),
  fld (.type "code") [.str "_wall" 187, .str "_wall" 188, .str "/claim/cut.py" 189, .int 1 0, .int 1 0, .int 0 0, .int 0 0, .int 3 0, .ref 15, .bool true, .int 181 0, .ref 16, .none, .ref 17, .ref 18, .ref 19, .int 191 0, .int 1 0, .str "/claim/cut.py" 192],
  fnObj (fnAt 0 (.str "__main__" 164) (.ref 20) .none),
  tup [],
  fld .none [],
  tup [.str "ch_a" 205, .str "ch_b" 206],
  tup [],
  tpl (fnAt 5 .none .none .none),
  fld (.type "code") [.str "_substitution_cost" 202, .str "_substitution_cost" 203, .str "/claim/cut.py" 204, .int 8 0, .int 2 0, .int 0 0, .int 0 0, .int 3 0, .ref 22, .bool true, .int 181 0, .ref 23, .none, .ref 24, .ref 25, .ref 26, .int 207 0, .int 8 0, .str "/claim/cut.py" 208],
  fnObj (fnAt 5 (.str "cpy313.traceback" 194) (.ref 27) .none),
  tup [],
  fld .none [],
  tup [.str "a" 213, .str "b" 214, .str "max_cost" 215, .str "pre" 216, .str "post" 217, .str "row" 218, .str "result" 219, .str "bindex" 220, .str "bchar" 221, .str "distance" 222, .str "minimum" 223, .str "index" 224, .str "substitute" 225, .str "insert_delete" 226],
  tup [],
  tpl (fnAt 6 .none .none .none),
  fld (.type "code") [.str "_levenshtein_distance" 210, .str "_levenshtein_distance" 211, .str "/claim/cut.py" 212, .int 14 0, .int 3 0, .int 0 0, .int 0 0, .int 3 0, .ref 29, .bool true, .int 181 0, .ref 30, .none, .ref 31, .ref 32, .ref 33, .int 227 0, .int 14 0, .str "/claim/cut.py" 228],
  fnObj (fnAt 6 (.str "cpy313.traceback" 194) (.ref 34) .none),
  tup [],
  fld .none [],
  tup [.str "name" 237, .str "x" 238, .str "t" 239],
  tup [],
  tpl (fnAt 9 .none .none .none),
  fld (.type "code") [.str "_kind" 234, .str "_kind" 235, .str "/claim/cut.py" 236, .int 54 0, .int 2 0, .int 0 0, .int 0 0, .int 3 0, .ref 36, .bool true, .int 181 0, .ref 37, .none, .ref 38, .ref 39, .ref 40, .int 240 0, .int 54 0, .str "/claim/cut.py" 241],
  fnObj (fnAt 9 (.str "os.path" 232) (.ref 41) .none),
  tup [],
  fld .none [],
  tup [.str "name" 246, .str "cname" 247, .str "argname" 248, .str "args" 249, .str "kwargs" 250, .str "x" 251, .str "k" 252],
  tup [],
  tpl (fnAt 10 .none .none .none),
  fld (.type "code") [.str "_c_path" 243, .str "_c_path" 244, .str "/claim/cut.py" 245, .int 75 0, .int 5 0, .int 0 0, .int 0 0, .int 3 0, .ref 43, .bool true, .int 181 0, .ref 44, .none, .ref 45, .ref 46, .ref 47, .int 253 0, .int 75 0, .str "/claim/cut.py" 254],
  fnObj (fnAt 10 (.str "os.path" 232) (.ref 48) .none),
  tup [],
  fld .none [],
  tup [.str "p" 259, .str "sep" 260, .str "empty" 261],
  tup [],
  tpl (fnAt 11 .none .none .none),
  fld (.type "code") [.str "_splitroot" 256, .str "_splitroot" 257, .str "/claim/cut.py" 258, .int 86 0, .int 1 0, .int 0 0, .int 0 0, .int 3 0, .ref 50, .bool true, .int 181 0, .ref 51, .none, .ref 52, .ref 53, .ref 54, .int 262 0, .int 86 0, .str "/claim/cut.py" 263],
  fnObj (fnAt 11 (.str "os.path" 232) (.ref 55) .none),
  tup [],
  fld .none [],
  tup [.str "path" 268, .str "sep" 269, .str "dot" 270, .str "dotdot" 271, .str "_" 272, .str "initial_slashes" 273, .str "comps" 274, .str "new_comps" 275, .str "comp" 276],
  tup [],
  tpl (fnAt 12 .none .none .none),
  fld (.type "code") [.str "_normpath" 265, .str "_normpath" 266, .str "/claim/cut.py" 267, .int 95 0, .int 1 0, .int 0 0, .int 0 0, .int 3 0, .ref 57, .bool true, .int 181 0, .ref 58, .none, .ref 59, .ref 60, .ref 61, .int 277 0, .int 95 0, .str "/claim/cut.py" 278],
  fnObj (fnAt 12 (.str "os.path" 232) (.ref 62) .none),
  tup [],
  fld .none [],
  tup [.str "args" 283, .str "kwargs" 284],
  tup [],
  tpl (fnAt 13 .none .none .none),
  fld (.type "code") [.str "normpath" 280, .str "normpath" 281, .str "/claim/cut.py" 282, .int 114 0, .int 0 0, .int 0 0, .int 0 0, .int 15 0, .ref 64, .bool true, .int 181 0, .ref 65, .none, .ref 66, .ref 67, .ref 68, .int 285 0, .int 114 0, .str "/claim/cut.py" 286],
  fnObj (fnAt 13 (.str "os.path" 232) (.ref 69) .none),
  tup [],
  fld (.type "builtin_function_or_method") [.builtin "type.__prepare__", .type "type"],
  dic [ent P "__module__" 297 (.str "cpy313.trace" 288), ent P "__qualname__" 299 (.str "_Ignore" 298), ent P "__firstlineno__" 301 (.int 117 300), ent P "__init__" 307 (.ref 83), ent P "names" 318 (.ref 90), ent P "__static_attributes__" 322 (.ref 91)] 6,
  tup [],
  fld .none [.int 119 0, .int 4 0, .ref 82, .int 124 0, .int 4 0, .ref 89],
  fld (.type "code") [.str "_Ignore" 292, .str "_Ignore" 293, .str "/claim/cut.py" 294, .int 117 0, .int 0 0, .int 0 0, .int 0 0, .int 0 0, .ref 74, .bool false, .int 181 0, .ref 75, .none, .none, .none, .none, .int 295 0, .int 117 0, .str "/claim/cut.py" 296],
  { cls := Value.type "frame", slots := #[some (Value.ref 76), some (Value.ref 3), some (Value.ref 73), none, some (Value.str "cpy313.trace" 288), none, some (Value.ref 0)] },
  tup [.none, .none],
  tup [],
  fld .none [],
  tpl (methFn 0 "_Ignore.__init__" .none .none .none .none),
  fld (.type "code") [.str "__init__" 302, .str "_Ignore.__init__" 303, .str "/claim/cut.py" 304, .int 119 0, .int 3 0, .int 0 0, .int 0 0, .int 3 0, .ref 79, .bool true, .int 181 0, .ref 80, .none, .none, .none, .ref 81, .int 305 0, .int 119 0, .str "/claim/cut.py" 306],
  fnObj (methFn 0 "_Ignore.__init__" (.str "cpy313.trace" 288) (.ref 82) .none (.ref 78)),
  tup [],
  fld .none [],
  tup [.str "self" 311, .str "filename" 312, .str "modulename" 313, .str "mod" 314, .str "d" 315],
  tup [],
  tpl (methFn 1 "_Ignore.names" .none .none .none .none),
  fld (.type "code") [.str "names" 308, .str "_Ignore.names" 309, .str "/claim/cut.py" 310, .int 124 0, .int 3 0, .int 0 0, .int 0 0, .int 3 0, .ref 84, .bool true, .int 181 0, .ref 85, .none, .ref 86, .ref 87, .ref 88, .int 316 0, .int 124 0, .str "/claim/cut.py" 317],
  fnObj (methFn 1 "_Ignore.names" (.str "cpy313.trace" 288) (.ref 89) .none (.none)),
  tup [.str "_dirs" 319, .str "_ignore" 320, .str "_mods" 321],
  dic [ent P "__module__" 297 (.str "cpy313.trace" 288), ent P "__firstlineno__" 301 (.int 117 300), ent P "__init__" 307 (.ref 83), ent P "names" 318 (.ref 90), ent P "__static_attributes__" 322 (.ref 91), ent P "__dict__" 324 (.ref 94), ent P "__weakref__" 326 (.ref 95), ent P "__doc__" 327 (.none)] 4,
  { cls := Value.type "type", data := Data.cls { name := Str.ofString "_Ignore", bases := [Value.type "object"], mro := [Value.ref 93, Value.type "object"], ns := 92, qualname := Str.ofString "_Ignore" }, slots := #[none, none, some (Value.str "_Ignore" 290), some (Value.str "_Ignore" 298), some (Value.builtin "object.__new__"), some (Value.bool true)] },
  fld (.type "getset_descriptor") [.str "__dict__" 323, .ref 93, .builtin "function.__dict__", .builtin "function.__dict__#set"],
  fld (.type "getset_descriptor") [.str "__weakref__" 325, .ref 93, .builtin "ExceptionGroup.__weakref__", .none],
  fld (.type "super") [.ref 93, .ref 93, .ref 93],
  fld (.type "builtin_function_or_method") [.builtin "object.__init_subclass__", .ref 93],
  tup [],
  fld .none [],
  tpl (fnAt 17 .none .none .none),
  fld (.type "code") [.str "_law_parts" 332, .str "_law_parts" 333, .str "/claim/cut.py" 334, .int 144 0, .int 1 0, .int 0 0, .int 0 0, .int 3 0, .ref 98, .bool true, .int 181 0, .ref 99, .none, .none, .none, .ref 100, .int 335 0, .int 144 0, .str "/claim/cut.py" 336],
  fnObj (fnAt 17 (.str "law_pw0012_01" 330) (.ref 101) .none),
  tup [],
  fld .none [],
  tup [.str "k" 341, .str "toll" 342, .str "answer" 343],
  tup [],
  tpl (fnAt 18 .none .none .none),
  fld (.type "code") [.str "_law_mark" 338, .str "_law_mark" 339, .str "/claim/cut.py" 340, .int 146 0, .int 3 0, .int 0 0, .int 0 0, .int 3 0, .ref 103, .bool true, .int 181 0, .ref 104, .none, .ref 105, .ref 106, .ref 107, .int 344 0, .int 146 0, .str "/claim/cut.py" 345],
  fnObj (fnAt 18 (.str "law_pw0012_01" 330) (.ref 108) .none),
  tup [],
  fld .none [],
  tpl (fnAt 19 .none .none .none),
  fld (.type "code") [.str "_law_joined" 347, .str "_law_joined" 348, .str "/claim/cut.py" 349, .int 152 0, .int 1 0, .int 0 0, .int 0 0, .int 3 0, .ref 110, .bool true, .int 181 0, .ref 111, .none, .none, .none, .ref 112, .int 350 0, .int 152 0, .str "/claim/cut.py" 351],
  fnObj (fnAt 19 (.str "law_pw0012_01" 330) (.ref 113) .none),
  tup [],
  fld .none [],
  tpl (fnAt 20 .none .none .none),
  fld (.type "code") [.str "law" 353, .str "law" 354, .str "/claim/cut.py" 355, .int 169 0, .int 1 0, .int 0 0, .int 0 0, .int 3 0, .ref 115, .bool true, .int 181 0, .ref 116, .none, .none, .none, .ref 117, .int 356 0, .int 169 0, .str "/claim/cut.py" 357],
  fnObj (fnAt 20 (.str "law_pw0012_01" 330) (.ref 118) .none)]
noncomputable def heapAt (nm : Value) (k c n : Nat) (P : Params) : Heap := { objs := { toList := (objs P nm k c).take n } }
noncomputable def addrs : List Addr := [3, 27, 28, 34, 35, 41, 42, 48, 49, 55, 56, 62, 63, 69, 70, 78, 82, 83, 89, 90, 92, 93, 101, 102, 108, 109, 113, 114, 118, 119]
noncomputable def top (P : Params) : Frag := addrs.map fun a => (a, (objs P (.str "law_pw0012_01" 330) 26 39)[a]?.getD default)

noncomputable abbrev recs : WRecords := RowW.records PySem.Challenge.rw_pw0012_01.row.toRowW
noncomputable def low : List Str := ["_wall", "_MAX_STRING_SIZE", "_MOVE_COST", "_CASE_COST", "_substitution_cost", "_levenshtein_distance", "sep", "_kind", "_c_path", "_splitroot", "_normpath", "normpath", "_Ignore", "_law_parts", "_law_mark", "_law_joined"]
noncomputable def lawView : Program := view pw [20]
theorem top_addrs : ∀ P, addrs = (top P).map (·.1) := fun P => by kernel_rfl
noncomputable abbrev hk : Hook := kHook top addrs top_addrs
theorem booted (N : Nat) (hN : Nat.ble 600 N = true) : ∀ w : World, (fencedOpening treeTable pw w N).map (fun s => (s.heap, s.gens, s.drawn, s.toks)) = some (boot_heap w.params, Array.mk [], boot_drawn, boot_toks) :=
  boot_open (p := pw) (by kernel_rfl) hN (fun s => by kernel_rfl)
/-! the run, piece by piece -/
noncomputable def posAt (i : Nat) : Pos := match stmtAt i with
  | .FunctionDef _ _ _ _ _ _ _ _ _ p => p
  | _ => default
noncomputable def pos0 : Pos := { line := 0, col := 0, endLine := 0, endCol := 0 }
noncomputable def topBody : List Stmt := behindTheImports pw
noncomputable def topEnv : Env := { scope := pw.main.scope, locals := mainNs, globals := mainNs, cells := [], code := .ref 13, frame := some 14 }
noncomputable def topCode : Code := .body topBody topEnv
noncomputable def stAt (nm : Value) (k c n t : Nat) (w : World) (os : OsState) : Shared := { heap := heapAt nm k c n w.params, gens := Array.mk [], drawn := boot_drawn, toks := t, os := os }
noncomputable def part (i j : Nat) : List Stmt := (topBody.drop i).take (j - i)
theorem run0 (w : World) (os : OsState) : topGo treeTable pw w 11 (some (.ref 6)) 12 ⟨boot_heap w.params, Array.mk [], boot_drawn, boot_toks, os⟩ (topStub pw) = some (stAt (.str "__main__" 164) 9 0 15 187 w os, ⟨denote treeTable (.body topBody topEnv), topCode, pos0, [topFrame pos0]⟩) := by kernel_rfl
theorem run1 (w : World) (os : OsState) : segRun treeTable pw w 11 (some (.ref 6)) 1 2 (stAt (.str "__main__" 164) 9 0 15 187 w os) (blockOf topBody topEnv topCode pos0 [topFrame pos0]) = some (.next, stAt (.str "__main__" 164) 9 0 15 187 w os, topCode, pos0) := by kernel_rfl
theorem run2 (w : World) (os : OsState) : segRun treeTable pw w 11 (some (.ref 6)) 1 330 (stAt (.str "__main__" 164) 9 0 15 187 w os) (piecesOf (part 0 7) topEnv topCode pos0 [topFrame pos0]) = some (.next, stAt (.str "cpy313.traceback" 194) 15 9 36 230 w os, topCode, posAt 6) := by kernel_rfl
theorem run3 (w : World) (os : OsState) : segRun treeTable pw w 11 (some (.ref 6)) 1 330 (stAt (.str "cpy313.traceback" 194) 15 9 36 230 w os) (piecesOf (part 7 14) topEnv topCode (posAt 6) [topFrame pos0]) = some (.next, stAt (.str "os.path" 232) 21 24 71 288 w os, topCode, posAt 13) := by kernel_rfl
theorem run4 (w : World) (os : OsState) : segRun treeTable pw w 11 (some (.ref 6)) 1 330 (stAt (.str "os.path" 232) 21 24 71 288 w os) (piecesOf (part 14 18) topEnv topCode (posAt 13) [topFrame pos0]) = some (.next, stAt (.str "law_pw0012_01" 330) 23 30 103 338 w os, topCode, posAt 17) := by
  rw [PySem.W.Fast.te14374325043358763698, PySem.W.Fast.te14364793385576792824]
  kernel_rfl
theorem run5 (w : World) (os : OsState) : segRun treeTable pw w 11 (some (.ref 6)) 1 330 (stAt (.str "law_pw0012_01" 330) 23 30 103 338 w os) (piecesOf (part 18 21) topEnv topCode (posAt 17) [topFrame pos0]) = some (.next, stAt (.str "law_pw0012_01" 330) 26 39 120 359 w os, topCode, posAt 20) := by kernel_rfl
theorem run6 (w : World) (os : OsState) : topRun treeTable pw w 11 (some (.ref 6)) 2 (stAt (.str "law_pw0012_01" 330) 26 39 120 359 w os) ⟨doneF .next, topCode, posAt 20, [topFrame pos0]⟩ = some (stAt (.str "law_pw0012_01" 330) 26 39 120 359 w os) := by kernel_rfl
theorem parts : topBody = part 0 7 ++ (part 7 14 ++ (part 14 18 ++ (part 18 21 ++ []))) := by kernel_rfl
theorem run (w : World) (os : OsState) : topRun treeTable pw w 11 (some (.ref 6)) (12 + (2 + (330 + (330 + (330 + (330 + 2)))))) ⟨boot_heap w.params, Array.mk [], boot_drawn, boot_toks, os⟩ (topStub pw) = some (stAt (.str "law_pw0012_01" 330) 26 39 120 359 w os) := by
  refine go_top (run0 w os) (piece_block (run1 w os) ?_)
  rw [parts]
  exact piece_app (run2 w os) (piece_app (run3 w os) (piece_app (run4 w os) (piece_app (run5 w os) (piece_nil (run6 w os)))))
theorem looks1 (w : World) (os : OsState) : (staticsOk (importedModules pw.main.body) (boot_heap w.params) (heapAt (.str "law_pw0012_01" 330) 26 39 120 w.params) && namesBound pw (heapAt (.str "law_pw0012_01" 330) 26 39 120 w.params) && gensDone (stAt (.str "law_pw0012_01" 330) 26 39 120 359 w os) && laidKept (boot_heap w.params) (heapAt (.str "law_pw0012_01" 330) 26 39 120 w.params)) = true := by kernel_rfl
theorem looks2 (w : World) (os : OsState) : openSeen lawView low (importedModules pw.main.body) (fun s => xlAt lawView [] s && recOk recs s) true (stAt (.str "law_pw0012_01" 330) 26 39 120 359 w os) = openGood lawView low := by kernel_rfl
theorem looks3 (w : World) (os : OsState) : hk.obs (stAt (.str "law_pw0012_01" 330) 26 39 120 359 w os) = hk.val w := by kernel_rfl
theorem left : LeftO pw lawView low (fun s => xlAt lawView [] s && recOk recs s) hk.obs hk.val 1530 :=
  LeftO.of_pieces (H₀ := boot_heap) (H₁ := heapAt (.str "law_pw0012_01" 330) 26 39 120) (m₀ := 11) (ann := some (.ref 6)) (booted 1530 rfl) (fun w => by kernel_rfl) run rfl (fun w => funext fun os => Prod.ext (looks1 w os) (Prod.ext (looks2 w os) (looks3 w os)))
theorem fnIs_of {K : Frag} {h : Heap} (X : K.In h) {a : Addr} {fd : FuncData} (e : K.lookup a = some ⟨.type "function", none, .func fd, #[]⟩) (ec : codeIn K fd.code fd.qualname = true) : FnIs h a fd := ⟨⟨_, X _ _ e, rfl⟩, codeRec_of X ec⟩
theorem ns_some_of {K : Frag} {h : Heap} {N : Addr} {m : Str → Option Value} {n : Str} {v : Value} (X : K.In h) (G : h.Ns N m) (e : nsIn K N n = some (some v)) : m n = some v := by
  obtain ⟨o, es, ep, ho, hd, _, hf⟩ := G
  unfold nsIn at e
  split at e
  · rename_i c d es' n' sl q
    have hq := X _ _ q
    rw [ho] at hq
    cases hq
    cases hd
    split at e
    · rename_i en he
      cases e
      rw [← hf]
      unfold nsFind findBy
      rw [← Array.find?_toList, he]
      rfl
    · split at e <;> cases e
  · cases e
section
variable {P : Params} {h : Heap} {mg : Str → Option Value} (X : (top P).In h) (G : h.Ns mainGlobals mg) (sm : h.get? sysModules ≠ none)
include X
set_option maxHeartbeats 8000000 in
theorem g_fn {fd : FuncData} {a : Addr} (e : (top P).lookup a = some ⟨.type "function", none, .func fd, #[]⟩) (ec : codeIn (top P) fd.code fd.qualname = true) : FnIs h a fd := fnIs_of X e ec
set_option maxHeartbeats 8000000 in
theorem g_law : FnIs h 119 (fnAt 20 (.str "law_pw0012_01" 330) (.ref 118) .none) := g_fn X (by kernel_rfl) (by kernel_rfl)
set_option maxHeartbeats 8000000 in
theorem g_parts : FnIs h 102 (fnAt 17 (.str "law_pw0012_01" 330) (.ref 101) .none) := g_fn X (by kernel_rfl) (by kernel_rfl)
set_option maxHeartbeats 8000000 in
theorem g_mark : FnIs h 109 (fnAt 18 (.str "law_pw0012_01" 330) (.ref 108) .none) := g_fn X (by kernel_rfl) (by kernel_rfl)
set_option maxHeartbeats 8000000 in
theorem g_joined : FnIs h 114 (fnAt 19 (.str "law_pw0012_01" 330) (.ref 113) .none) := g_fn X (by kernel_rfl) (by kernel_rfl)
set_option maxHeartbeats 8000000 in
theorem g_sub : FnIs h 28 (fnAt 5 (.str "cpy313.traceback" 194) (.ref 27) .none) := g_fn X (by kernel_rfl) (by kernel_rfl)
set_option maxHeartbeats 8000000 in
theorem g_lev : FnIs h 35 (fnAt 6 (.str "cpy313.traceback" 194) (.ref 34) .none) := g_fn X (by kernel_rfl) (by kernel_rfl)
set_option maxHeartbeats 8000000 in
theorem g_kind : FnIs h 42 (fnAt 9 (.str "os.path" 232) (.ref 41) .none) := g_fn X (by kernel_rfl) (by kernel_rfl)
set_option maxHeartbeats 8000000 in
theorem g_cpath : FnIs h 49 (fnAt 10 (.str "os.path" 232) (.ref 48) .none) := g_fn X (by kernel_rfl) (by kernel_rfl)
set_option maxHeartbeats 8000000 in
theorem g_root : FnIs h 56 (fnAt 11 (.str "os.path" 232) (.ref 55) .none) := g_fn X (by kernel_rfl) (by kernel_rfl)
set_option maxHeartbeats 8000000 in
theorem g_norm : FnIs h 63 (fnAt 12 (.str "os.path" 232) (.ref 62) .none) := g_fn X (by kernel_rfl) (by kernel_rfl)
set_option maxHeartbeats 8000000 in
theorem g_npath : FnIs h 70 (fnAt 13 (.str "os.path" 232) (.ref 69) .none) := g_fn X (by kernel_rfl) (by kernel_rfl)
set_option maxHeartbeats 8000000 in
theorem g_init : FnIs h 83 (methFn 0 "_Ignore.__init__" (.str "cpy313.trace" 288) (.ref 82) .none (.ref 78)) := g_fn X (by kernel_rfl) (by kernel_rfl)
set_option maxHeartbeats 8000000 in
theorem g_names : FnIs h 90 (methFn 1 "_Ignore.names" (.str "cpy313.trace" 288) (.ref 89) .none .none) := g_fn X (by kernel_rfl) (by kernel_rfl)
theorem g_ns : h.Ns 92 (h.nsMap 92) := .of_isNs (isNs_of_in X (by kernel_rfl))
set_option maxHeartbeats 8000000 in
theorem g_cls : Cls h 93 92 (h.nsMap 92) where
  at_ := ⟨⟨"_Ignore", "_Ignore", [.type "object"], [], [], none, none, none, none, some (.str "_Ignore" 290), some (.str "_Ignore" 298), some (.bool true), X 93 _ (by kernel_rfl)⟩, g_ns X⟩
  ga := ns_none_of X (g_ns X) (by kernel_rfl)
  gh := ns_none_of X (g_ns X) (by kernel_rfl)
  sa := ns_none_of X (g_ns X) (by kernel_rfl)
  mods := ns_none_of X (g_ns X) (by kernel_rfl)
  dirs := ns_none_of X (g_ns X) (by kernel_rfl)
  ign := ns_none_of X (g_ns X) (by kernel_rfl)
include G
set_option maxHeartbeats 8000000 in
theorem g_paths : Paths mg h 70 where
  me := ⟨_, _, _, g_npath X⟩
  kind := ⟨42, _, _, _, mg_of X G (by kernel_rfl), g_kind X⟩
  cpath := ⟨49, _, _, _, mg_of X G (by kernel_rfl), g_cpath X⟩
  root := ⟨56, _, _, _, mg_of X G (by kernel_rfl), g_root X⟩
  norm := ⟨63, _, _, _, mg_of X G (by kernel_rfl), g_norm X⟩
set_option maxHeartbeats 8000000 in
theorem g_own : OwnC mg h 93 92 78 83 70 (h.nsMap 92) where
  cls := g_cls X
  init := ns_some_of X (g_ns X) (by kernel_rfl)
  fn := ⟨_, _, _, g_init X⟩
  fnc := ⟨_, X 83 ⟨.type "function", none, .func (methFn 0 "_Ignore.__init__" (.str "cpy313.trace" 288) (.ref 82) .none (.ref 78)), #[]⟩ (by kernel_rfl), rfl⟩
  dfl := ⟨⟨.type "tuple", none, .seq #[.none, .none] 0, #[]⟩, 0, X 78 _ (by kernel_rfl), rfl⟩
  np := mg_of X G (by kernel_rfl)
  paths := g_paths X G
set_option maxHeartbeats 8000000 in
theorem g_nm : NmC h 93 92 90 (h.nsMap 92) (.str "cpy313.trace" 288) (.ref 89) .none where
  cls := g_cls X
  name := ns_some_of X (g_ns X) (by kernel_rfl)
  fn := g_names X
  fnc := ⟨_, X 90 ⟨.type "function", none, .func (methFn 1 "_Ignore.names" (.str "cpy313.trace" 288) (.ref 89) .none .none), #[]⟩ (by kernel_rfl), rfl⟩
set_option maxHeartbeats 8000000 in
theorem g_consts : Consts mg where
  move := ⟨198, mg_of X G (by kernel_rfl)⟩
  case_ := ⟨200, mg_of X G (by kernel_rfl)⟩
  size := ⟨196, mg_of X G (by kernel_rfl)⟩
  sep := ⟨230, mg_of X G (by kernel_rfl)⟩
include sm
set_option maxHeartbeats 8000000 in
theorem g_ground : Ground0 mg h 93 92 78 83 70 90 (h.nsMap 92) where
  parts := ⟨102, _, _, _, mg_of X G (by kernel_rfl), g_parts X⟩
  mark := ⟨109, _, _, _, mg_of X G (by kernel_rfl), g_mark X⟩
  joined := ⟨114, _, _, _, mg_of X G (by kernel_rfl), g_joined X⟩
  lev := ⟨35, _, _, _, mg_of X G (by kernel_rfl), g_lev X⟩
  sub := ⟨28, _, _, _, mg_of X G (by kernel_rfl), g_sub X⟩
  own := g_own X G
  nm := ⟨_, _, _, g_nm X G⟩
  ign := mg_of X G (by kernel_rfl)
  consts := g_consts X G
  sm := sm
omit sm
set_option maxHeartbeats 8000000 in
theorem g_bis {mb : Str → Option Value} (hb : ∀ x : Str, x ≠ "__name__" → mb x = bootBuiltins x) : Bis mg mb where
  len := ⟨mg_none_of X G (by kernel_rfl), (hb _ (by decide)).trans (by kernel_rfl)⟩
  sum := ⟨mg_none_of X G (by kernel_rfl), (hb _ (by decide)).trans (by kernel_rfl)⟩
  min := ⟨mg_none_of X G (by kernel_rfl), (hb _ (by decide)).trans (by kernel_rfl)⟩
  max := ⟨mg_none_of X G (by kernel_rfl), (hb _ (by decide)).trans (by kernel_rfl)⟩
  sorted := ⟨mg_none_of X G (by kernel_rfl), (hb _ (by decide)).trans (by kernel_rfl)⟩
  range := ⟨mg_none_of X G (by kernel_rfl), (hb _ (by decide)).trans (by kernel_rfl)⟩
  enumerate := ⟨mg_none_of X G (by kernel_rfl), (hb _ (by decide)).trans (by kernel_rfl)⟩
  zip := ⟨mg_none_of X G (by kernel_rfl), (hb _ (by decide)).trans (by kernel_rfl)⟩
  list := ⟨mg_none_of X G (by kernel_rfl), (hb _ (by decide)).trans (by kernel_rfl)⟩
  set := ⟨mg_none_of X G (by kernel_rfl), (hb _ (by decide)).trans (by kernel_rfl)⟩
  str := ⟨mg_none_of X G (by kernel_rfl), (hb _ (by decide)).trans (by kernel_rfl)⟩
  type := ⟨mg_none_of X G (by kernel_rfl), (hb _ (by decide)).trans (by kernel_rfl)⟩
end
end Mine
set_option maxHeartbeats 8000000 in
theorem PySem.Challenge.cw_pw0012_01_holds : PySem.Challenge.rw_pw0012_01.Holds := by
  w_on
  refine holds_law Mine.saidLaw fun said => ?_
  refine holds_open (q := Mine.lawView) (loose := Mine.low) (Xt := fun s => xlAt Mine.lawView [] s && recOk Mine.recs s) (XP := XL Mine.lawView []) (Yf := Mine.hk.obs) (Ya := Mine.hk.val) (YP := Mine.hk.says) (N := 1530) Mine.left Mine.hk.of Mine.hk.keeps (fun s e => xl_of s (Bool.and_eq_true_iff.mp e).1) XL.keeps (by rfl) (by rfl) (by rfl) (fun s e => recFacts_of (Bool.and_eq_true_iff.mp e).2) (by rfl) said (by kernel_rfl) ⟨rfl, rfl, rfl, rfl, rfl, by decide +kernel⟩ ?hw ?hc
  case hw => w_witness2
  intro w s₀ s₁ mg mb G Y fa o pm cd doc dV kV ho hd hcd hD hmg hg args vals as hpre hlay hrd hwl hlo
  have KX : (Mine.top w.params).In s₁.heap := kIn_of Y
  have seer := G.T.seer (by kernel_rfl)
  have bis := Mine.g_bis KX G.T.g G.T.builtins
  have ground := Mine.g_ground KX G.T.g (by obtain ⟨_, ⟨o, _, _, e, _⟩, _⟩ := seer.mods; rw [e]; exact fun y => nomatch y)
  have hfa : fa = 119 := by
    have h1 : mg "law" = some (.ref 119) := mg_of KX G.T.g (by kernel_rfl)
    have h2 : mg "law" = some (.ref fa) := hmg
    rw [h1] at h2; cases h2; rfl
  refine Ground.open G ?_
  intro T B D TE TW
  wrow_args hpre hlay hrd hwl hlo
  clear hd hD hcd D TE TW B hmg
  subst hfa
  rename_i ns hs hlay0 hL1 hr1 hl2 a4 a3 da vals' was hIL ra w1 r0 hI hr hc1 hc2
  have gl : Mine.Gl PySem.Challenge.rw_pw0012_01.row.prog mg mb (0 + 6) callerA s₁ := ⟨T.g, T.b, T.nolimit, seer, rfl, rfl, ⟨[], rfl⟩, by decide +kernel, by decide +kernel⟩
  have hv : Mine.Rd (fun _ => True) s₁.heap (.list (ns.map .int)) (.ref da) := Mine.Rd_list.mpr ⟨da, vals'.toArray, rfl, trivial, hIL, Mine.RdAll.of_ints hI⟩
  refine wpAny_mono (Mine.law_ok (k := 0) gl bis ground (Mine.g_law KX) (by omega) hv) (fun v s' h => ?_) (fun _ _ h => h.elim)
  obtain ⟨k, rfl⟩ := h
  refine GoodW.toG ⟨.inl ⟨_, _, _, rfl, raisesW_false (by wrow_none_raised), ReadsW.bool _, (by wrow_post), fun _ => ⟨List.nodup_nil, fun a ha => (nomatch ha)⟩⟩, Mine.Kp.get k, k.os, k.gens.trans hg⟩
