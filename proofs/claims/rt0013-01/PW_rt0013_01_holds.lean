import PyProof.Rows.All
import Wide.All
import OpenK.AllK
import Wide.FinOn
import PySem.Challenge.RW_rt0013_01
open PySem PySem.W PyProof.Rows
set_option Elab.async false
set_option maxRecDepth 100000
set_option maxHeartbeats 0
set_option linter.unusedVariables false
set_option autoImplicit false
set_option linter.unusedSimpArgs false
section
open PySem.SeqAt
namespace Mine
theorem bindE {α β : Type} {o : Option α} {k : α → Option β} {r : β} {G : Prop} (h : o.bind k = some r) (g : ∀ a, o = some a → k a = some r → G) : G := let ⟨a, h1, h2⟩ := Option.bind_eq_some_iff.mp h; g a h1 h2
/-- pure values -/
inductive PV where
  | none
  | bool (b : Bool)
  | int (i : Int)
  | str (l : List Nat)
  | byt (l : List UInt8)
  | ty (n : String)
  | tup (l : List PV)
  | lst (l : List PV)
noncomputable abbrev S (l : List Nat) : Str := ⟨l.toArray⟩
noncomputable def Has (h : Heap) (a : Addr) : Prop := ∃ o, h.get? a = some o
noncomputable abbrev tupObj (vs : List Value) (n : Nat) : Obj := { cls := .type "tuple", dict := none, data := .seq vs.toArray n, slots := #[] }
noncomputable abbrev lstObj (vs : List Value) (n : Nat) : Obj := { cls := .type "list", dict := none, data := .seq vs.toArray n, slots := #[] }
mutual
noncomputable def RV (h : Heap) (V : Addr → Prop) : PV → Value → Prop
  | .none, v => v = .none
  | .bool b, v => v = .bool b
  | .int i, v => ∃ t, v = .int i t
  | .str l, v => ∃ t, v = .str (S l) t
  | .byt l, v => ∃ t, v = .bytes l.toArray t
  | .ty n, v => v = .type n
  | .tup l, v => ∃ a vs n, v = .ref a ∧ ¬ V a ∧ h.get? a = some (tupObj vs n) ∧ RVs h V l vs
  | .lst l, v => ∃ a vs n, v = .ref a ∧ ¬ V a ∧ h.get? a = some (lstObj vs n) ∧ RVs h V l vs
noncomputable def RVs (h : Heap) (V : Addr → Prop) : List PV → List Value → Prop
  | [], vs => vs = []
  | p :: ps, vs => ∃ v r, vs = v :: r ∧ RV h V p v ∧ RVs h V ps r
end
noncomputable def IsSeq (o : Obj) : Prop := ∃ xs n, o.data = .seq xs n
theorem nn {α : Type} {r : α} {G : Prop} (h : none = some r) : G := nomatch h
mutual
theorem RV.keep {h h' : Heap} {V V' : Addr → Prop} (hk : ∀ b o, ¬ V b → IsSeq o → h.get? b = some o → h'.get? b = some o ∧ ¬ V' b) : ∀ (p : PV) (v : Value), RV h V p v → RV h' V' p v
  | .none, _, x => x
  | .bool _, _, x => x
  | .int _, _, x => x
  | .str _, _, x => x
  | .byt _, _, x => x
  | .ty _, _, x => x
  | .tup l, v, ⟨a, vs, n, e, hV, hg, hr⟩ => let q := hk a _ hV ⟨_, _, rfl⟩ hg; ⟨a, vs, n, e, q.2, q.1, RVs.keep hk l vs hr⟩
  | .lst l, v, ⟨a, vs, n, e, hV, hg, hr⟩ => let q := hk a _ hV ⟨_, _, rfl⟩ hg; ⟨a, vs, n, e, q.2, q.1, RVs.keep hk l vs hr⟩
theorem RVs.keep {h h' : Heap} {V V' : Addr → Prop} (hk : ∀ b o, ¬ V b → IsSeq o → h.get? b = some o → h'.get? b = some o ∧ ¬ V' b) : ∀ (ps : List PV) (vs : List Value), RVs h V ps vs → RVs h' V' ps vs
  | [], _, x => x
  | p :: ps, vs, ⟨v, r, e, h1, h2⟩ => ⟨v, r, e, RV.keep hk p v h1, RVs.keep hk ps r h2⟩
end
theorem RVs.cons {h : Heap} {V : Addr → Prop} {p : PV} {ps : List PV} {v : Value} {vs : List Value} (x : RV h V p v) (y : RVs h V ps vs) : RVs h V (p :: ps) (v :: vs) :=
  (⟨v, vs, rfl, x, y⟩ : ∃ v' r, v :: vs = v' :: r ∧ RV h V p v' ∧ RVs h V ps r)
theorem RVs.nil {h : Heap} {V : Addr → Prop} : RVs h V [] [] := Eq.refl (α := List Value) []
@[elab_as_elim] theorem RVs.c {h : Heap} {V : Addr → Prop} {p : PV} {ps : List PV} {vs : List Value} {G : List Value → Prop} (x : RVs h V (p :: ps) vs) (k : ∀ v r, RV h V p v → RVs h V ps r → G (v :: r)) : G vs :=
  let ⟨v, r, e, h1, h2⟩ := x; e ▸ k v r h1 h2
theorem RVs.length {h : Heap} {V : Addr → Prop} {ps : List PV} : ∀ {vs : List Value}, RVs h V ps vs → vs.length = ps.length := by
  induction ps with
  | nil => exact fun x => congrArg List.length (show _ = [] from x)
  | cons p ps ih => exact fun x => x.c fun v r _ h => congrArg (· + 1) (ih h)
theorem RVs.get {h : Heap} {V : Addr → Prop} {ps : List PV} : ∀ {vs : List Value}, RVs h V ps vs → ∀ {i : Nat} {p : PV}, ps[i]? = some p → ∃ v, vs[i]? = some v ∧ RV h V p v := by
  induction ps with
  | nil => exact fun _ _ _ e => nn e
  | cons q ps ih => exact fun x i p => x.c fun v r h1 h2 e => match i with
    | 0 => ⟨v, rfl, Option.some.inj e ▸ h1⟩
    | _ + 1 => ih h2 e
theorem RVs.append {h : Heap} {V : Addr → Prop} {ps qs : List PV} {us : List Value} : ∀ {vs : List Value}, RVs h V ps vs → RVs h V qs us → RVs h V (ps ++ qs) (vs ++ us) := by
  induction ps with
  | nil => exact fun x y => (show _ = [] from x) ▸ y
  | cons p ps ih => exact fun x => x.c fun v r h1 h2 y => .cons h1 (ih h2 y)
theorem RVs.set {h : Heap} {V : Addr → Prop} {ps : List PV} : ∀ {vs : List Value}, RVs h V ps vs → ∀ (i : Nat) {p : PV} {v : Value}, RV h V p v → RVs h V (ps.set i p) (vs.set i v) := by
  induction ps with
  | nil => exact fun x _ _ _ _ => (show _ = [] from x) ▸ .nil
  | cons p ps ih => exact fun x i p v => x.c fun _ r h1 h2 y => match i with
    | 0 => .cons y h2
    | i + 1 => .cons h1 (ih h2 i y)
theorem RVs.of_get {h : Heap} {V : Addr → Prop} {ps : List PV} : ∀ {vs : List Value}, vs.length = ps.length → (∀ (i : Nat) (p : PV) (v : Value), ps[i]? = some p → vs[i]? = some v → RV h V p v) → RVs h V ps vs := by
  induction ps with
  | nil => exact fun e _ => List.length_eq_zero_iff.mp e
  | cons p ps ih => exact fun {vs} => match vs with
    | [] => fun e => nomatch e
    | v :: vs => fun e H => .cons (H 0 p v rfl rfl) (ih (Nat.succ.inj e) fun i q u => H (i + 1) q u)
theorem RV.i {h : Heap} {V : Addr → Prop} {a : Int} {t : Tok} : RV h V (.int a) (.int a t) := (⟨t, rfl⟩ : ∃ t', Value.int a t = .int a t')
theorem RV.s {h : Heap} {V : Addr → Prop} {a : List Nat} {t : Tok} : RV h V (.str a) (.str (S a) t) := (⟨t, rfl⟩ : ∃ t', Value.str (S a) t = .str (S a) t')
theorem RV.y {h : Heap} {V : Addr → Prop} {a : List UInt8} {t : Tok} : RV h V (.byt a) (.bytes a.toArray t) := (⟨t, rfl⟩ : ∃ t', Value.bytes a.toArray t = .bytes a.toArray t')
theorem RV.l {h : Heap} {V : Addr → Prop} {l : List PV} {a : Addr} {vs : List Value} {n : Nat} (h1 : ¬ V a) (h2 : h.get? a = some (lstObj vs n)) (h3 : RVs h V l vs) : RV h V (.lst l) (.ref a) := (⟨a, vs, n, rfl, h1, h2, h3⟩ : ∃ a' vs n, Value.ref a = .ref a' ∧ ¬ V a' ∧ h.get? a' = some (lstObj vs n) ∧ RVs h V l vs)
theorem RV.t {h : Heap} {V : Addr → Prop} {l : List PV} {a : Addr} {vs : List Value} {n : Nat} (h1 : ¬ V a) (h2 : h.get? a = some (tupObj vs n)) (h3 : RVs h V l vs) : RV h V (.tup l) (.ref a) := (⟨a, vs, n, rfl, h1, h2, h3⟩ : ∃ a' vs n, Value.ref a = .ref a' ∧ ¬ V a' ∧ h.get? a' = some (tupObj vs n) ∧ RVs h V l vs)
/-- what a piece of a run may change: objects of M, generators of G -/
structure Chg (M : Addr → Prop) (G : Nat → Prop) (s s' : Shared) : Prop where
  heap : ∀ b o, ¬ M b → s.heap.get? b = some o → s'.heap.get? b = some o
  ex : ∀ b, Has s.heap b → Has s'.heap b
  gens : ∀ i x, ¬ G i → s.gens[i]? = some x → s'.gens[i]? = some x
  gsz : s.gens.size ≤ s'.gens.size
  bare : (∀ x ∈ s.gens, x.bare = true) → ∀ x ∈ s'.gens, x.bare = true
  os : s'.os = s.os
noncomputable abbrev no {α : Type} : α → Prop := fun Z => False
noncomputable abbrev Ext (s s' : Shared) : Prop := Chg no no s s'
theorem Chg.refl {M : Addr → Prop} {G : Nat → Prop} (s : Shared) : Chg M G s s := ⟨fun Z Z Z h => h, fun Z h => h, fun Z Z Z h => h, Nat.le_refl _, fun h => h, rfl⟩
theorem Chg.trans {M : Addr → Prop} {G : Nat → Prop} {s s' s'' : Shared} (x : Chg M G s s') (y : Chg M G s' s'') : Chg M G s s'' :=
  ⟨fun b o hM h => y.heap b o hM (x.heap b o hM h), fun b h => y.ex b (x.ex b h), fun i z hG h => y.gens i z hG (x.gens i z hG h), Nat.le_trans x.gsz y.gsz, fun h => y.bare (x.bare h), y.os.trans x.os⟩
theorem Chg.mono {M M' : Addr → Prop} {G G' : Nat → Prop} {s s' : Shared} (x : Chg M G s s') (hM : ∀ b, M b → M' b) (hG : ∀ i, G i → G' i) : Chg M' G' s s' :=
  ⟨fun b o h e => x.heap b o (fun q => h (hM b q)) e, x.ex, fun i z h e => x.gens i z (fun q => h (hG i q)) e, x.gsz, x.bare, x.os⟩
theorem Ext.to {M : Addr → Prop} {G : Nat → Prop} {s s' : Shared} (x : Ext s s') : Chg M G s s' := x.mono (fun Z h => h.elim) fun Z h => h.elim
/-- only existing members count -/
theorem Chg.only {M M' : Addr → Prop} {G G' : Nat → Prop} {s s' : Shared} (x : Chg M G s s') (hM : ∀ b, M b → Has s.heap b → M' b) (hG : ∀ i, G i → i < s.gens.size → G' i) : Chg M' G' s s' :=
  ⟨fun b o h e => x.heap b o (fun q => h (hM b q ⟨o, e⟩)) e, x.ex, fun i z h e => x.gens i z (fun q => h (hG i q (by
    by_cases hh : i < s.gens.size
    · exact hh
    · rw [Array.getElem?_eq_none (Nat.not_lt.mp hh)] at e; cases e))) e, x.gsz, x.bare, x.os⟩
theorem ext_of_keep {s : Shared} {h' : Heap} {tk : Nat} (hk : ∀ b o, s.heap.get? b = some o → h'.get? b = some o) : Ext s { s with heap := h', toks := tk } :=
  ⟨fun b o Z e => hk b o e, fun b ⟨o, e⟩ => ⟨o, hk b o e⟩, fun Z Z Z h => h, Nat.le_refl _, fun h => h, rfl⟩
theorem ext_toks {s : Shared} {tk : Nat} : Ext s { s with toks := tk } := ext_of_keep (s := s) (h' := s.heap) fun Z Z e => e
theorem ext_push {s : Shared} {o : Obj} {tk : Nat} : Ext s { s with heap := s.heap.push o, toks := tk } := ext_of_keep fun Z Z e => Heap.get?_push_of_some _ e
theorem ext_push' {s : Shared} {o : Obj} : Ext s { s with heap := s.heap.push o } := ext_of_keep (s := s) (tk := s.toks) fun Z Z e => Heap.get?_push_of_some _ e
theorem RV.ext {s s' : Shared} {V : Addr → Prop} {p : PV} {v : Value} (x : RV s.heap V p v) (e : Ext s s') : RV s'.heap V p v :=
  RV.keep (fun b o hV Z h => ⟨e.heap b o (fun q => q) h, hV⟩) p v x
theorem RVs.ext {s s' : Shared} {V : Addr → Prop} {ps : List PV} {vs : List Value} (x : RVs s.heap V ps vs) (e : Ext s s') : RVs s'.heap V ps vs :=
  RVs.keep (fun b o hV Z h => ⟨e.heap b o (fun q => q) h, hV⟩) ps vs x
theorem RV.weak {h : Heap} {V V' : Addr → Prop} {p : PV} {v : Value} (x : RV h V p v) (hv : ∀ a, V' a → V a ∨ h.get? a = none) : RV h V' p v :=
  RV.keep (fun b o hV Z e => ⟨e, fun q => (hv b q).elim hV fun n => by rw [n] at e; cases e⟩) p v x
theorem RVs.weak {h : Heap} {V V' : Addr → Prop} {ps : List PV} {vs : List Value} (x : RVs h V ps vs) (hv : ∀ a, V' a → V a ∨ h.get? a = none) : RVs h V' ps vs :=
  RVs.keep (fun b o hV Z e => ⟨e, fun q => (hv b q).elim hV fun n => by rw [n] at e; cases e⟩) ps vs x
theorem fresh_none {h : Heap} : h.get? h.objs.size = none := by
  cases e : h.get? h.objs.size with
  | none => rfl
  | some o => exact absurd (Heap.lt_size e) (Nat.lt_irrefl _)
inductive Sl where
  | un
  | pv (p : PV)
  | own (l : List PV)
noncomputable def Owned (σ : List Sl) (val : Nat → Option Value) (a : Addr) : Prop := ∃ i l, σ[i]? = some (.own l) ∧ val i = some (.ref a)
noncomputable def Mut (env : Env) (σ : List Sl) (val : Nat → Option Value) (a : Addr) : Prop :=
  a = env.locals ∨ (∃ x, env.cells.lookup x = some a) ∨ Owned σ val a
noncomputable def Av (U : Addr → Prop) (σ : List Sl) (val : Nat → Option Value) (a : Addr) : Prop := U a ∨ Owned σ val a
noncomputable def SlotIs (h : Heap) (V : Addr → Prop) : Sl → Option Value → Prop
  | .un, _ => True
  | .pv p, v => ∃ x, v = some x ∧ RV h V p x
  | .own l, v => ∃ a vs n, v = some (.ref a) ∧ h.get? a = some (lstObj vs n) ∧ RVs h V l vs
structure SR (hb : Heap) (env : Env) (U : Addr → Prop) (σ : List Sl) (val : Nat → Option Value) (s : Shared) : Prop where
  nl : hb.NoLimit
  base : ∀ b o, hb.get? b = some o → s.heap.get? b = some o
  ns : ∃ m, s.heap.Ns env.locals m ∧ ∀ (i : Nat) x, env.scope.names[i]? = some (x, .local) → m x = val i
  cell : ∀ (i : Nat) x, env.scope.names[i]? = some (x, .cell) → ∃ c, env.cells.lookup x = some c ∧ s.heap.IsCell c (val i)
  cellOk : ∀ x c, env.cells.lookup x = some c → ∃ v, s.heap.IsCell c v
  slot : ∀ i, SlotIs s.heap (Av U σ val) (σ.getD i .un) (val i)
  apart : ∀ (i j : Nat) l l' a, σ[i]? = some (.own l) → σ[j]? = some (.own l') → val i = some (.ref a) → val j = some (.ref a) → i = j
  uex : ∀ a, U a → Has s.heap a ∧ hb.get? a = none
  un : ∀ a, Mut env σ val a → ¬ U a
  hbn : ∀ a, Mut env σ val a → hb.get? a = none
section
variable {hb : Heap} {env : Env} {U : Addr → Prop} {σ : List Sl} {val : Nat → Option Value} {s s' : Shared}
theorem SlotIs.keep {h h' : Heap} {V V' : Addr → Prop} {sl : Sl} {v : Option Value} (hk : ∀ b o, ¬ V b → IsSeq o → h.get? b = some o → h'.get? b = some o ∧ ¬ V' b) (x : SlotIs h V sl v) (ho : ∀ l a o, sl = .own l → v = some (.ref a) → IsSeq o → h.get? a = some o → h'.get? a = some o) : SlotIs h' V' sl v := by
  induction sl with
  | un => trivial
  | pv p => exact let ⟨y, e, hr⟩ := x; ⟨y, e, RV.keep hk p y hr⟩
  | own l => exact let ⟨a, vs, n, e, hg, hr⟩ := x; ⟨a, vs, n, e, ho l a _ rfl e ⟨_, _, rfl⟩ hg, RVs.keep hk l vs hr⟩
theorem SlotIs.ext {V : Addr → Prop} {sl : Sl} {v : Option Value} (x : SlotIs s.heap V sl v) (e : Ext s s') : SlotIs s'.heap V sl v :=
  x.keep (fun b o hV _ h => ⟨e.heap b o (fun q => q) h, hV⟩) fun _ a o _ _ _ h => e.heap a o (fun q => q) h
theorem getD_self {i : Nat} {sl : Sl} (hi : i < σ.length) : (σ.set i sl).getD i .un = sl := by rw [List.getD_eq_getElem?_getD, List.getElem?_set_self hi]; rfl
theorem getD_ne {i j : Nat} {sl : Sl} (e : j ≠ i) : (σ.set i sl).getD j .un = σ.getD j .un := by rw [List.getD_eq_getElem?_getD, List.getElem?_set_ne (Ne.symm e), List.getD_eq_getElem?_getD]
theorem getD_own {j : Nat} {l : List PV} (e : σ.getD j .un = .own l) : σ[j]? = some (.own l) := by
  rw [List.getD_eq_getElem?_getD] at e
  cases h : σ[j]? with
  | none => rw [h] at e; cases e
  | some x => rw [h] at e; exact congrArg some e
theorem SR.ext (x : SR hb env U σ val s) (e : Ext s s') : SR hb env U σ val s' where
  nl := x.nl
  base := fun b o h => e.heap b o (fun q => q) (x.base b o h)
  ns := let ⟨m, hn, hm⟩ := x.ns; ⟨m, hn.keeps fun b o h => e.heap b o (fun q => q) h, hm⟩
  cell := fun i y hy => let ⟨c, hc, hi⟩ := x.cell i y hy; ⟨c, hc, hi.keeps fun b o h => e.heap b o (fun q => q) h⟩
  cellOk := fun y c hc => let ⟨v, hv⟩ := x.cellOk y c hc; ⟨v, hv.keeps fun b o h => e.heap b o (fun q => q) h⟩
  slot := fun i => (x.slot i).ext e
  apart := x.apart
  uex := fun a h => ⟨e.ex a (x.uex a h).1, (x.uex a h).2⟩
  un := x.un
  hbn := x.hbn
theorem SR.owned_has (x : SR hb env U σ val s) {a : Addr} (h : Owned σ val a) : ∃ vs n, s.heap.get? a = some (lstObj vs n) := by
  obtain ⟨i, l, h1, h2⟩ := h
  have q := x.slot i
  rw [List.getD_eq_getElem?_getD, h1] at q
  obtain ⟨a', vs, n, e, hg, Z⟩ := q
  rw [h2] at e; cases e
  exact ⟨vs, n, hg⟩
theorem SR.av_has (x : SR hb env U σ val s) {a : Addr} (h : Av U σ val a) : Has s.heap a := by
  rcases h with h | h
  · exact (x.uex a h).1
  · obtain ⟨vs, n, e⟩ := x.owned_has h; exact ⟨_, e⟩
theorem SR.av_fresh (x : SR hb env U σ val s) {a : Addr} (h : s.heap.get? a = none) : ¬ Av U σ val a := fun q => by
  obtain ⟨o, e⟩ := x.av_has q; rw [h] at e; cases e
theorem SR.loc_has (x : SR hb env U σ val s) : ∃ o es ep, s.heap.get? env.locals = some o ∧ o.data = .dict es ep := let ⟨_, ⟨o, es, ep, h, hd, _⟩, _⟩ := x.ns; ⟨o, es, ep, h, hd⟩
end
noncomputable def nameAt : List (Str × NameKind) → Str → Option (Nat × NameKind)
  | [], _ => none
  | (y, k) :: r, x => if x == y then some (0, k) else (nameAt r x).map fun p => (p.1 + 1, p.2)
theorem nameAt_lookup {l : List (Str × NameKind)} {x : Str} : ∀ {i : Nat} {k : NameKind}, nameAt l x = some (i, k) → l.lookup x = some k ∧ l[i]? = some (x, k) := by
  induction l with
  | nil => exact fun h => nn h
  | cons y r ih =>
    intro i k h
    rw [List.lookup_cons]
    by_cases e : (x == y.1) = true
    · cases (if_pos e).symm.trans h
      rw [e]
      exact ⟨rfl, congrArg (fun z => some (z, y.2)) (eq_of_beq e).symm⟩
    · rw [eq_false_of_ne_true e]
      obtain ⟨p, q, h⟩ := Option.map_eq_some_iff.mp ((if_neg e).symm.trans h)
      cases h
      exact ih q
/-- the cells stand apart -/
noncomputable def CellsApart (env : Env) : Prop := ∀ x y c, env.cells.lookup x = some c → env.cells.lookup y = some c → x = y
structure EnvOk (sc : Scope) (env : Env) : Prop where
  apart : CellsApart env
  scope : env.scope = sc
  glob : env.globals = mainGlobals
  bui : env.builtins = builtinsNs
  kind : sc.kind = .function
  nodup : (sc.names.map (·.1)).Nodup
noncomputable def Room (lv : Nat) (A : Around) : Prop := A.handled = none ∧ A.depth + lv ≤ 900 ∧ A.units + 20 * lv ≤ 9000
theorem Room.le {lv lv' : Nat} {A : Around} (h : Room lv A) (e : lv' ≤ lv) : Room lv' A := ⟨h.1, by have := h.2.1; lia, by have := h.2.2; lia⟩
theorem Room.depth {lv : Nat} {A : Around} (h : Room lv A) : A.depth < recursionLimit := by
  have := h.2.1; show A.depth < 1000; lia
theorem Room.units {lv : Nat} {A : Around} (h : Room lv A) : A.units < cLine := by
  have := h.2.2; show A.units < 9900; lia
theorem Room.deeper {lv : Nat} {A : Around} {env : Env} (h : Room (lv + 1) A) : Room lv (A.deeper env) :=
  ⟨h.1, by have := h.2.1; show A.depth + 1 + lv ≤ 900; lia, by have := h.2.2; show A.units + 3 + 20 * lv ≤ 9000; lia⟩
/-- the name x of the module reads v, in every heap above hb -/
noncomputable def GlobIs (hb : Heap) (x : Str) (v : Value) : Prop :=
  ∀ (M : Model) (A : Around) (E : Value → Shared → Prop) (s : Shared) (Q : Value → Shared → Prop) (env : Env), env.globals = mainGlobals → env.builtins = builtinsNs →
    (∀ b o, hb.get? b = some o → s.heap.get? b = some o) → Q v s → wpAny M A (loadGlobal env x) Q E s
section
variable {prog : Program} {w : World} {hb : Heap}
/-- the expression's value is f of the frame -/
noncomputable def XE (prog : Program) (w : World) (hb : Heap) (sc : Scope) (lv : Nat) (e : Expr) (f : List Sl → Option PV) : Prop :=
  ∀ (env : Env) (A : Around) (E : Value → Shared → Prop) (s : Shared) (U : Addr → Prop) (σ : List Sl) (val : Nat → Option Value) (p : PV),
    EnvOk sc env → Room lv A → SR hb env U σ val s → f σ = some p →
    wpAny (model prog w) A (eval e env) (fun v s' => Ext s s' ∧ RV s'.heap (Av U σ val) p v) E s
/-- the test's truth is f of the frame -/
noncomputable def XT (prog : Program) (w : World) (hb : Heap) (sc : Scope) (lv : Nat) (e : Expr) (f : List Sl → Option Bool) : Prop :=
  ∀ (env : Env) (A : Around) (E : Value → Shared → Prop) (s : Shared) (U : Addr → Prop) (σ : List Sl) (val : Nat → Option Value) (p : Bool),
    EnvOk sc env → Room lv A → SR hb env U σ val s → f σ = some p →
    wpAny (model prog w) A (isTrue e env (eval e env)) (fun b s' => Ext s s' ∧ b = p) E s
inductive PF where
  | next
  | brk
  | cont
  | ret (p : PV)
noncomputable def FlowIs (h : Heap) (V : Addr → Prop) : PF → Flow → Prop
  | .next, f => f = .next
  | .brk, f => f = .brk
  | .cont, f => f = .cont
  | .ret p, f => ∃ v, f = .ret v ∧ RV h V p v
inductive PS (hb : Heap) (env : Env) (U : Addr → Prop) (σ : List Sl) (val : Nat → Option Value) (s : Shared) (fl : PF) (σ' : List Sl) (f : Flow) (s' : Shared) : Prop
  | mk (val' : Nat → Option Value) (sr : SR hb env U σ' val' s') (fi : FlowIs s'.heap U fl f) (chg : Chg (Mut env σ val) no s s') (own : ∀ a, Owned σ' val' a → Owned σ val a ∨ s.heap.get? a = none) : PS hb env U σ val s fl σ' f s'
noncomputable def XS (prog : Program) (w : World) (hb : Heap) (sc : Scope) (lv : Nat) (st : Stmt) (g : List Sl → Option (PF × List Sl)) : Prop :=
  ∀ (env : Env) (A : Around) (E : Value → Shared → Prop) (s : Shared) (U : Addr → Prop) (σ : List Sl) (val : Nat → Option Value) (fl : PF) (σ' : List Sl),
    EnvOk sc env → Room lv A → SR hb env U σ val s → g σ = some (fl, σ') →
    wpAny (model prog w) A (exec st env) (PS hb env U σ val s fl σ') E s
noncomputable def XSs (prog : Program) (w : World) (hb : Heap) (sc : Scope) (lv : Nat) (ss : List Stmt) (g : List Sl → Option (PF × List Sl)) : Prop :=
  ∀ (env : Env) (A : Around) (E : Value → Shared → Prop) (s : Shared) (U : Addr → Prop) (σ : List Sl) (val : Nat → Option Value) (fl : PF) (σ' : List Sl),
    EnvOk sc env → Room lv A → SR hb env U σ val s → g σ = some (fl, σ') →
    wpAny (model prog w) A (execs ss env) (PS hb env U σ val s fl σ') E s
theorem Mut.of_later {env : Env} {σ σ' : List Sl} {val val' : Nat → Option Value} {s : Shared} {b : Addr} {o : Obj} (h : ∀ a, Owned σ' val' a → Owned σ val a ∨ s.heap.get? a = none)
    (hb' : s.heap.get? b = some o) (m : Mut env σ' val' b) : Mut env σ val b := by
  rcases m with m | m | m
  · exact .inl m
  · exact .inr (.inl m)
  · rcases h b m with q | q
    · exact .inr (.inr q)
    · rw [q] at hb'; cases hb'
theorem PS.trans {env : Env} {U : Addr → Prop} {σ σ₁ σ₂ : List Sl} {val val₁ val₂ : Nat → Option Value} {s s₁ s₂ : Shared}
    (c₁ : Chg (Mut env σ val) no s s₁) (o₁ : ∀ a, Owned σ₁ val₁ a → Owned σ val a ∨ s.heap.get? a = none)
    (c₂ : Chg (Mut env σ₁ val₁) no s₁ s₂) (o₂ : ∀ a, Owned σ₂ val₂ a → Owned σ₁ val₁ a ∨ s₁.heap.get? a = none) :
    Chg (Mut env σ val) no s s₂ ∧ ∀ a, Owned σ₂ val₂ a → Owned σ val a ∨ s.heap.get? a = none := by
  refine ⟨⟨fun b o hM e => c₂.heap b o (fun m => hM (Mut.of_later o₁ e m)) (c₁.heap b o hM e), fun b h => c₂.ex b (c₁.ex b h), fun i z h e => c₂.gens i z h (c₁.gens i z h e), Nat.le_trans c₁.gsz c₂.gsz, fun h => c₂.bare (c₁.bare h), c₂.os.trans c₁.os⟩, fun a ha => ?_⟩
  rcases o₂ a ha with q | q
  · exact o₁ a q
  · right
    cases e : s.heap.get? a with
    | none => rfl
    | some o =>
      obtain ⟨o', e'⟩ := c₁.ex a ⟨o, e⟩
      rw [q] at e'; cases e'
section
variable {env : Env} {U : Addr → Prop} {σ σ₁ : List Sl} {val : Nat → Option Value} {s s₁ : Shared} {fl : PF} {f : Flow}
theorem PS.start (hs : SR hb env U σ val s) : PS hb env U σ val s .next σ .next s := ⟨val, hs, rfl, Chg.refl _, fun _ h => .inl h⟩
theorem PS.at (hs : SR hb env U σ val s) (h : FlowIs s.heap U fl f) : PS hb env U σ val s fl σ f s := ⟨val, hs, h, Chg.refl _, fun _ h => .inl h⟩
theorem PS.flow (h : PS hb env U σ val s fl σ₁ f s₁) : FlowIs s₁.heap U fl f := let ⟨_, _, h, _, _⟩ := h; h
/-- what follows -/
theorem PS.go {G : Prop} (h : PS hb env U σ val s fl σ₁ f s₁) (k : ∀ val₁, SR hb env U σ₁ val₁ s₁ → (∀ {fl σ₂ f s₂}, PS hb env U σ₁ val₁ s₁ fl σ₂ f s₂ → PS hb env U σ val s fl σ₂ f s₂) → G) : G :=
  let ⟨val₁, sr, _, c, o⟩ := h
  k val₁ sr fun q => let ⟨val₂, sr₂, fi₂, c₂, o₂⟩ := q; let r := PS.trans (U := U) c o c₂ o₂; ⟨val₂, sr₂, fi₂, r.1, r.2⟩
@[elab_as_elim] theorem flow_rv {H : Heap} {V : Addr → Prop} {G : PF → Flow → Prop} (h : FlowIs H V fl f) (kn : G .next .next) (kb : G .brk .brk) (kc : G .cont .cont) (kr : ∀ p v, RV H V p v → G (.ret p) (.ret v)) : G fl f := by
  induction fl with
  | next => exact (show f = .next from h) ▸ kn
  | brk => exact (show f = .brk from h) ▸ kb
  | cont => exact (show f = .cont from h) ▸ kc
  | ret p => exact let ⟨v, e, hv⟩ := h; e ▸ kr p v hv
end
theorem XSs.nil {sc : Scope} {lv : Nat} : XSs prog w hb sc lv [] fun σ => some (.next, σ) := by
  intro env A E s U σ val fl σ' he hr hs hg
  cases hg
  exact wpAny_execs_nil (.start hs)
noncomputable def seqP (g₁ g₂ : List Sl → Option (PF × List Sl)) (σ : List Sl) : Option (PF × List Sl) :=
  (g₁ σ).bind fun r => match r with
    | (.next, σ') => g₂ σ'
    | r => some r
theorem XSs.cons {sc : Scope} {lv : Nat} {st : Stmt} {rest : List Stmt} {g₁ g₂ : List Sl → Option (PF × List Sl)} (h₁ : XS prog w hb sc lv st g₁) (h₂ : XSs prog w hb sc lv rest g₂) :
    XSs prog w hb sc lv (st :: rest) (seqP g₁ g₂) := by
  intro env A E s U σ val fl σ' he hr hs hg
  refine bindE hg fun ⟨fl₁, σ₁⟩ e₁ e₂ => ?_
  refine wpAny_execs_cons (wpAny_mono (h₁ env A E s U σ val fl₁ σ₁ he hr hs e₁) (fun f s₁ q => ?_) fun Z Z x => x)
  induction fl₁ with
  | next => exact (show f = .next from q.flow) ▸ q.go fun val₁ hs₁ up => wpAny_mono (h₂ env A E s₁ U σ₁ val₁ fl σ' he hr hs₁ e₂) (fun _ _ => up) fun Z Z x => x
  | brk => cases e₂; obtain rfl : f = .brk := q.flow; exact q
  | cont => cases e₂; obtain rfl : f = .cont := q.flow; exact q
  | ret p => cases e₂; obtain ⟨v, rfl, _⟩ := q.flow; exact q
noncomputable def Sl.v? : Sl → Option PV
  | .un => none
  | .pv p => some p
  | .own _ => none
noncomputable def getS (i : Nat) (σ : List Sl) : Option PV := σ[i]?.bind Sl.v?
theorem getS_eq {i : Nat} {σ : List Sl} {p : PV} (h : getS i σ = some p) : σ.getD i .un = .pv p := by
  rw [List.getD_eq_getElem?_getD]
  refine bindE h fun x e h => ?_
  rw [e]
  induction x with
  | pv q => exact congrArg Sl.pv (Option.some.inj h)
  | _ => exact nn h
theorem XE.loc {sc : Scope} {lv : Nat} {x : Str} {pos : Pos} {i : Nat} (hn : nameAt sc.names x = some (i, .local)) (hd : (x == ("__debug__" : Str)) = false) :
    XE prog w hb sc lv (.Name x pos) (getS i) := by
  intro env A E s U σ val p he hr hs hf
  obtain ⟨h1, h2⟩ := nameAt_lookup hn
  have q := hs.slot i
  rw [getS_eq hf] at q
  obtain ⟨v, hv, hrv⟩ := q
  obtain ⟨m, hns, hm⟩ := hs.ns
  have hm' := hm i x (by rw [he.scope]; exact h2)
  exact wpAny_Name (wpAny_loadName_local (by rw [he.scope]; exact he.kind) (by unfold Env.kindOf; rw [he.scope]; exact h1) hns (hm'.trans hv) ⟨Chg.refl _, hrv⟩) hd
theorem XE.cel {sc : Scope} {lv : Nat} {x : Str} {pos : Pos} {i : Nat} (hn : nameAt sc.names x = some (i, .cell)) (hd : (x == ("__debug__" : Str)) = false) :
    XE prog w hb sc lv (.Name x pos) (getS i) := by
  intro env A E s U σ val p he hr hs hf
  obtain ⟨h1, h2⟩ := nameAt_lookup hn
  have q := hs.slot i
  rw [getS_eq hf] at q
  obtain ⟨v, hv, hrv⟩ := q
  obtain ⟨c, hc, hi⟩ := hs.cell i x (by rw [he.scope]; exact h2)
  exact wpAny_Name (wpAny_loadName_cell (by rw [he.scope]; exact he.kind) (by unfold Env.kindOf; rw [he.scope]; exact h1) hc (hv ▸ hi) ⟨Chg.refl _, hrv⟩) hd
theorem loadName_glob {M : Model} {A : Around} {E : Value → Shared → Prop} {s : Shared} {env : Env} {sc : Scope} {x : Str} {v : Value} {Q : Value → Shared → Prop} (he : EnvOk sc env)
    (hn : sc.names.lookup x = some .globalImplicit) (hg : GlobIs hb x v) (hb' : ∀ b o, hb.get? b = some o → s.heap.get? b = some o) (h : Q v s) : wpAny M A (loadName env x) Q E s := by
  rw [loadName_read (he.scope ▸ he.kind) (by unfold Env.kindOf; rw [he.scope]; exact hn)]
  exact hg M A E s Q env he.glob he.bui hb' h
theorem SR.rv_base {env : Env} {U : Addr → Prop} {σ : List Sl} {val : Nat → Option Value} {s : Shared} (hs : SR hb env U σ val s) {p : PV} {v : Value} (h : RV hb no p v) : RV s.heap (Av U σ val) p v :=
  RV.keep (fun b o Z Z e => ⟨hs.base b o e, fun q => by
    rcases q with q | q
    · have := (hs.uex b q).2; rw [this] at e; cases e
    · have := hs.hbn b (.inr (.inr q)); rw [this] at e; cases e⟩) p v h
theorem XE.glob {sc : Scope} {lv : Nat} {x : Str} {pos : Pos} {v : Value} {p : PV} (hn : sc.names.lookup x = some .globalImplicit) (hg : GlobIs hb x v) (hp : RV hb no p v) (hd : (x == ("__debug__" : Str)) = false) :
    XE prog w hb sc lv (.Name x pos) (fun Z => some p) := by
  intro env A E s U σ val q he hr hs hf
  cases hf
  exact wpAny_Name (loadName_glob he hn hg hs.base ⟨Chg.refl _, hs.rv_base hp⟩) hd
theorem XE.int {sc : Scope} {lv : Nat} {i : Int} {k : Nat} {pos : Pos} : XE prog w hb sc lv (.Constant (.int i) k pos) (fun Z => some (.int i)) := by
  intro env A E s U σ val q he hr hs hf
  cases hf
  exact wpAny_Constant_int ⟨ext_toks, RV.i⟩
theorem XE.str {sc : Scope} {lv : Nat} {x : Str} {k : Nat} {pos : Pos} : XE prog w hb sc lv (.Constant (.str x) k pos) (fun Z => some (.str x.cps.toList)) := by
  intro env A E s U σ val q he hr hs hf
  cases hf
  exact Calls.Constant_str ⟨ext_toks, RV.s⟩
theorem XE.bool {sc : Scope} {lv : Nat} {b : Bool} {k : Nat} {pos : Pos} : XE prog w hb sc lv (.Constant (.bool b) k pos) (fun Z => some (.bool b)) := by
  intro env A E s U σ val q he hr hs hf
  cases hf
  exact wpAny_Constant_bool ⟨Chg.refl _, rfl⟩
theorem XE.non {sc : Scope} {lv : Nat} {k : Nat} {pos : Pos} : XE prog w hb sc lv (.Constant .none k pos) (fun Z => some .none) := by
  intro env A E s U σ val q he hr hs hf
  cases hf
  exact wpAny_Constant_none ⟨Chg.refl _, rfl⟩
section
variable {sc : Scope} {lv : Nat} {env : Env} {A : Around} {E : Value → Shared → Prop} {s : Shared} {U : Addr → Prop} {σ : List Sl} {val : Nat → Option Value}
noncomputable abbrev Got (s : Shared) (V : Addr → Prop) (r : PV) (x : Value) (s' : Shared) : Prop := Ext s s' ∧ RV s'.heap V r x
theorem XE.to {e : Expr} {f : List Sl → Option PV} {p : PV} {Q : Value → Shared → Prop} (h : XE prog w hb sc lv e f) (he : EnvOk sc env) (hr : Room lv A) (hs : SR hb env U σ val s) (hf : f σ = some p)
    (k : ∀ v s', Ext s s' → RV s'.heap (Av U σ val) p v → SR hb env U σ val s' → Q v s') : wpAny (model prog w) A (eval e env) Q E s :=
  wpAny_mono (h env A E s U σ val p he hr hs hf) (fun v s' q => k v s' q.1 q.2 (hs.ext q.1)) fun _ _ x => x
theorem XT.to {e : Expr} {f : List Sl → Option Bool} {p : Bool} {Q : Bool → Shared → Prop} (h : XT prog w hb sc lv e f) (he : EnvOk sc env) (hr : Room lv A) (hs : SR hb env U σ val s) (hf : f σ = some p)
    (k : ∀ s', Ext s s' → SR hb env U σ val s' → Q p s') : wpAny (model prog w) A (isTrue e env (eval e env)) Q E s :=
  wpAny_mono (h env A E s U σ val p he hr hs hf) (fun v s' q => q.2 ▸ k s' q.1 (hs.ext q.1)) fun _ _ x => x
theorem XSs.to {ss : List Stmt} {g : List Sl → Option (PF × List Sl)} {fl : PF} {σ' : List Sl} {Q : Flow → Shared → Prop} (h : XSs prog w hb sc lv ss g) (he : EnvOk sc env) (hr : Room lv A) (hs : SR hb env U σ val s) (hf : g σ = some (fl, σ'))
    (k : ∀ f s', PS hb env U σ val s fl σ' f s' → Q f s') : wpAny (model prog w) A (execs ss env) Q E s :=
  wpAny_mono (h env A E s U σ val fl σ' he hr hs hf) k fun _ _ x => x
theorem got_to {M : Model} {m : Sem Value} {s' : Shared} {V : Addr → Prop} {r : PV} (x : Ext s s') (h : wpAny M A m (Got s' V r) E s') : wpAny M A m (Got s V r) E s' :=
  wpAny_mono h (fun _ _ q => ⟨x.trans q.1, q.2⟩) fun _ _ x => x
theorem gotb_to {M : Model} {m : Sem Bool} {s' : Shared} {r : Bool} (x : Ext s s') (h : wpAny M A m (fun b t => Ext s' t ∧ b = r) E s') : wpAny M A m (fun b t => Ext s t ∧ b = r) E s' :=
  wpAny_mono h (fun _ _ q => ⟨x.trans q.1, q.2⟩) fun _ _ x => x
end
end
noncomputable def LIM : Nat := 16777216
theorem LIM_eq : sizeLine = LIM := sizeLine_eq
noncomputable def PV.on {α : Type} (n : Option α) (b : Bool → Option α) (i : Int → Option α) (s : List Nat → Option α) (y : List UInt8 → Option α) (c : String → Option α) (t l : List PV → Option α) : PV → Option α
  | .none => n
  | .bool a => b a
  | .int a => i a
  | .str a => s a
  | .byt a => y a
  | .ty a => c a
  | .tup a => t a
  | .lst a => l a
noncomputable abbrev nO {α β : Type} : α → Option β := fun _ => none
@[elab_as_elim] theorem PV.on_rv {α : Type} {n : Option α} {b : Bool → Option α} {i : Int → Option α} {s : List Nat → Option α} {y : List UInt8 → Option α} {c : String → Option α} {t l : List PV → Option α} {r : α} {H : Heap} {V : Addr → Prop} {p : PV} {v : Value} {G : Value → Prop}
    (h : PV.on n b i s y c t l p = some r) (hp : RV H V p v) (hn : n = some r → G .none) (hb : ∀ a, b a = some r → G (.bool a)) (hi : ∀ a t, i a = some r → G (.int a t)) (hs : ∀ a t, s a = some r → G (.str (S a) t)) (hy : ∀ a t, y a = some r → G (.bytes a.toArray t)) (hc : ∀ a, c a = some r → G (.type a))
    (ht : ∀ a x vs n, ¬ V x → H.get? x = some (tupObj vs n) → RVs H V a vs → t a = some r → G (.ref x)) (hl : ∀ a x vs n, ¬ V x → H.get? x = some (lstObj vs n) → RVs H V a vs → l a = some r → G (.ref x)) : G v :=
  match p, h, hp with
  | .none, h, e => (show v = _ from e) ▸ hn h
  | .bool a, h, e => (show v = _ from e) ▸ hb a h
  | .int a, h, ⟨t, e⟩ => e ▸ hi a t h
  | .str a, h, ⟨t, e⟩ => e ▸ hs a t h
  | .byt a, h, ⟨t, e⟩ => e ▸ hy a t h
  | .ty a, h, e => (show v = _ from e) ▸ hc a h
  | .tup a, h, ⟨x, vs, n, e, h1, h2, h3⟩ => e ▸ ht a x vs n h1 h2 h3 h
  | .lst a, h, ⟨x, vs, n, e, h1, h2, h3⟩ => e ▸ hl a x vs n h1 h2 h3 h
/-- an operation of an int, a str, bytes, a list, a tuple alone -/
noncomputable def PV.oi {α : Type} (f : Int → Option α) : PV → Option α := PV.on .none nO f nO nO nO nO nO
noncomputable def PV.os {α : Type} (f : List Nat → Option α) : PV → Option α := PV.on .none nO nO f nO nO nO nO
noncomputable def PV.oy {α : Type} (f : List UInt8 → Option α) : PV → Option α := PV.on .none nO nO nO f nO nO nO
noncomputable def PV.ol {α : Type} (f : List PV → Option α) : PV → Option α := PV.on .none nO nO nO nO nO nO f
noncomputable def PV.ot {α : Type} (f : List PV → Option α) : PV → Option α := PV.on .none nO nO nO nO nO f nO
section
variable {α : Type} {r : α} {H : Heap} {V : Addr → Prop} {p : PV} {v : Value} {G : Value → Prop}
@[elab_as_elim] theorem oi_rv {f : Int → Option α} (h : PV.oi f p = some r) (hp : RV H V p v) (k : ∀ a t, f a = some r → G (.int a t)) : G v := PV.on_rv h hp nn (fun _ => nn) k (fun _ _ => nn) (fun _ _ => nn) (fun _ => nn) (fun _ _ _ _ _ _ _ => nn) (fun _ _ _ _ _ _ _ => nn)
@[elab_as_elim] theorem os_rv {f : List Nat → Option α} (h : PV.os f p = some r) (hp : RV H V p v) (k : ∀ a t, f a = some r → G (.str (S a) t)) : G v := PV.on_rv h hp nn (fun _ => nn) (fun _ _ => nn) k (fun _ _ => nn) (fun _ => nn) (fun _ _ _ _ _ _ _ => nn) (fun _ _ _ _ _ _ _ => nn)
@[elab_as_elim] theorem oy_rv {f : List UInt8 → Option α} (h : PV.oy f p = some r) (hp : RV H V p v) (k : ∀ a t, f a = some r → G (.bytes a.toArray t)) : G v := PV.on_rv h hp nn (fun _ => nn) (fun _ _ => nn) (fun _ _ => nn) k (fun _ => nn) (fun _ _ _ _ _ _ _ => nn) (fun _ _ _ _ _ _ _ => nn)
@[elab_as_elim] theorem ol_rv {f : List PV → Option α} (h : PV.ol f p = some r) (hp : RV H V p v) (k : ∀ a x vs n, ¬ V x → H.get? x = some (lstObj vs n) → RVs H V a vs → f a = some r → G (.ref x)) : G v := PV.on_rv h hp nn (fun _ => nn) (fun _ _ => nn) (fun _ _ => nn) (fun _ _ => nn) (fun _ => nn) (fun _ _ _ _ _ _ _ => nn) k
@[elab_as_elim] theorem ot_rv {f : List PV → Option α} (h : PV.ot f p = some r) (hp : RV H V p v) (k : ∀ a x vs n, ¬ V x → H.get? x = some (tupObj vs n) → RVs H V a vs → f a = some r → G (.ref x)) : G v := PV.on_rv h hp nn (fun _ => nn) (fun _ _ => nn) (fun _ _ => nn) (fun _ _ => nn) (fun _ => nn) k (fun _ _ _ _ _ _ _ => nn)
end
noncomputable def immEq (p q : PV) : Option Bool := p.on (q.on (some true) nO nO nO nO nO nO nO) (fun a => q.on none (fun b => some (a == b)) nO nO nO nO nO nO) (fun a => q.oi fun b => some (a == b)) (fun a => q.os fun b => some (a == b)) (fun a => q.oy fun b => some (a == b)) nO nO nO
noncomputable def immEqs : List PV → List PV → Option Bool
  | [], q => (match q with
    | [] => some true
    | _ :: _ => none)
  | p :: ps, q => (match q with
    | [] => none
    | q :: qs => (immEq p q).bind fun a => (immEqs ps qs).bind fun b => some (a && b))
noncomputable def eqP (p q : PV) : Option Bool := p.on (immEq p q) (fun _ => immEq p q) (fun _ => immEq p q) (fun _ => immEq p q) (fun _ => immEq p q) nO (fun a => q.ot fun b => immEqs a b) (fun a => q.ol fun b => if a.length = b.length then immEqs a b else some false)
theorem S_beq (a b : List Nat) : (S a == S b) = (a == b) := by
  by_cases h : a = b
  · subst h; simp
  · have : S a ≠ S b := fun e => h (by have := congrArg (fun x : Str => x.cps.toList) e; simpa [S] using this)
    rw [beq_false_of_ne this, beq_false_of_ne h]
section
variable {prog : Program} {w : World} {A : Around} {E : Value → Shared → Prop} {s : Shared} {V : Addr → Prop}
theorem EqAt.bytes_bytes (a : List UInt8) (t : Tok) (b : List UInt8) (u : Tok) : EqAt A s (.bytes a.toArray t) (.bytes b.toArray u) (a == b) := fun prog w E Q h => by
  unfold eqBool
  refine wpAny_holding ?_
  refine wpAny_ite_split (fun hab => ?_) (fun Z => ?_)
  · have e : a.toArray = b.toArray := by have := eq_of_beq hab; injection this
    have e' : a = b := by simpa using e
    subst e'
    have h' : Q true s := by simpa using h
    exact wpAny_pure (M := model prog w) (E := E) h'
  · exact wpAny_bind (eq_bytes (wpAny_truthy_bool (by simpa using h)))
theorem immEq_rv {G : Value → Value → Bool → Prop} {p q : PV} {v u : Value} {b : Bool} (h : immEq p q = some b) (hp : RV s.heap V p v) (hq : RV s.heap V q u) (hn : G .none .none true) (hb : ∀ a c, G (.bool a) (.bool c) (a == c)) (hi : ∀ a c t t', G (.int a t) (.int c t') (a == c))
    (hs : ∀ a c t t', G (.str (S a) t) (.str (S c) t') (a == c)) (hy : ∀ (a c : List UInt8) t t', G (.bytes a.toArray t) (.bytes c.toArray t') (a == c)) : G v u b := by
  have g {x y : Bool} {v u : Value} (h : G v u x) (e : some x = some y) : G v u y := Option.some.inj e ▸ h
  exact PV.on_rv (G := fun v => G v u b) h hp (fun h => PV.on_rv (G := fun u => G .none u b) h hq (g hn) (fun _ => nn) (fun _ _ => nn) (fun _ _ => nn) (fun _ _ => nn) (fun _ => nn) (fun _ _ _ _ _ _ _ => nn) (fun _ _ _ _ _ _ _ => nn))
    (fun a h => PV.on_rv (G := fun u => G (.bool a) u b) h hq nn (fun c => g (hb a c)) (fun _ _ => nn) (fun _ _ => nn) (fun _ _ => nn) (fun _ => nn) (fun _ _ _ _ _ _ _ => nn) (fun _ _ _ _ _ _ _ => nn))
    (fun a t h => oi_rv (G := fun u => G (.int a t) u b) h hq fun c t' => g (hi a c t t')) (fun a t h => os_rv (G := fun u => G (.str (S a) t) u b) h hq fun c t' => g (hs a c t t'))
    (fun a t h => oy_rv (G := fun u => G (.bytes a.toArray t) u b) h hq fun c t' => g (hy a c t t')) (fun _ => nn) (fun _ _ _ _ _ _ _ => nn) (fun _ _ _ _ _ _ _ => nn)
theorem immEq_at {p q : PV} {v u : Value} {b : Bool} (h : immEq p q = some b) (hp : RV s.heap V p v) (hq : RV s.heap V q u) : EqAt A s v u b :=
  immEq_rv (G := EqAt A s) h hp hq (.same _) .bool_bool (fun a c t => .int_int a t c) (fun a c t t' => S_beq a c ▸ .str_str _ t _ t') fun a c t => Mine.EqAt.bytes_bytes a t c
theorem immEqs_len {ps : List PV} : ∀ {qs : List PV} {b : Bool}, immEqs ps qs = some b → ps.length = qs.length := by
  induction ps with
  | nil => exact fun {q} => match q with
    | [] => fun _ => rfl
    | _ :: _ => nn
  | cons p ps ih => exact fun {q} => match q with
    | [] => nn
    | _ :: _ => fun h => bindE h fun a Z h => bindE h fun c hc Z => congrArg (· + 1) (ih hc)
theorem all_range_succ (n : Nat) (f : Nat → Bool) : (List.range (n + 1)).all f = (f 0 && (List.range n).all fun i => f (i + 1)) := by
  rw [List.range_succ_eq_map, List.all_cons, List.all_map]; rfl
theorem immEqs_at {ps : List PV} : ∀ {qs : List PV} {vs us : List Value} {b : Bool}, immEqs ps qs = some b → RVs s.heap V ps vs → RVs s.heap V qs us →
    ∃ e : Nat → Bool, (∀ j (h1 : j < vs.length) (h2 : j < us.length), EqAt A s vs[j] us[j] (e j)) ∧ (List.range vs.length).all e = b := by
  induction ps with
  | nil => exact fun {q vs us b} => match q with
    | [] => fun h hp _ => ⟨fun _ => true, fun j h1 => absurd h1 ((show vs = [] from hp) ▸ Nat.not_lt_zero _), by rw [show vs = [] from hp]; exact Option.some.inj h⟩
    | _ :: _ => fun h => nn h
  | cons p ps ih => exact fun {q vs us b} => match q with
    | [] => fun h => nn h
    | q :: qs => fun h hp hq => by
      refine RVs.c hp fun v r h1 h2 => ?_
      refine RVs.c hq fun u r' h3 h4 => ?_
      refine bindE h fun a ha h => ?_
      refine bindE h fun c hc h => ?_
      obtain ⟨e, he, hall⟩ := ih hc h2 h4
      refine ⟨fun j => Nat.casesOn (motive := fun _ => Bool) j a e, fun j => match j with
        | 0 => fun _ _ => immEq_at ha h1 h3
        | j + 1 => fun h1' h2' => he j (Nat.lt_of_succ_lt_succ h1') (Nat.lt_of_succ_lt_succ h2'), ?_⟩
      rw [List.length_cons, all_range_succ]
      exact (congrArg (a && ·) hall).trans (Option.some.inj h)
theorem isList_of {h : Heap} {a : Addr} {vs : List Value} {n : Nat} (e : h.get? a = some (lstObj vs n)) : h.IsList a vs.toArray := ⟨_, e, rfl, n, rfl⟩
theorem isTuple_of {h : Heap} {a : Addr} {vs : List Value} {n : Nat} (e : h.get? a = some (tupObj vs n)) : h.IsTuple a vs.toArray := ⟨_, e, rfl, n, rfl⟩
theorem eqP_rv {G : Value → Value → Bool → Prop} {p q : PV} {v u : Value} {b : Bool} (h : eqP p q = some b) (hp : RV s.heap V p v) (hq : RV s.heap V q u) (hi : immEq p q = some b → G v u b)
    (ht : ∀ (x y : Addr) (vs us : Array Value) (e : Nat → Bool), s.heap.IsTuple x vs → s.heap.IsTuple y us → (∀ j (h1 : j < vs.size) (h2 : j < us.size), EqAt A s vs[j] us[j] (e j)) → G (.ref x) (.ref y) ((List.range (min vs.size us.size)).all e && vs.size == us.size))
    (hl : ∀ (x y : Addr) (vs us : Array Value) (e : Nat → Bool), s.heap.IsList x vs → s.heap.IsList y us → vs.size = us.size → (∀ j (h1 : j < vs.size) (h2 : j < us.size), EqAt A s vs[j] us[j] (e j)) → G (.ref x) (.ref y) ((List.range vs.size).all e))
    (hd : ∀ (x y : Addr) (vs us : Array Value), s.heap.IsList x vs → s.heap.IsList y us → (vs.size != us.size) = true → G (.ref x) (.ref y) false) : G v u b := by
  refine PV.on_rv (G := fun x => x = v → G v u b) h hp (fun h _ => hi h) (fun _ h _ => hi h) (fun _ _ h _ => hi h) (fun _ _ h _ => hi h) (fun _ _ h _ => hi h) (fun _ => nn) (fun l x vs n Z ha h1 h => ?_) (fun l x vs n Z ha h1 h => ?_) rfl
  · refine ot_rv (G := fun u => Value.ref x = v → G v u b) h hq fun l' y us n' Z ha' h2 h ev => ev ▸ ?_
    have e3 : us.length = vs.length := by rw [h1.length, h2.length, immEqs_len h]
    obtain ⟨f, hf, hall⟩ := immEqs_at (A := A) h h1 h2
    have q := ht x y _ _ f (isTuple_of ha) (isTuple_of ha') hf
    rw [List.size_toArray, List.size_toArray, e3, Nat.min_self, hall, beq_self_eq_true, Bool.and_true] at q
    exact q
  · refine ol_rv (G := fun u => Value.ref x = v → G v u b) h hq fun l' y us n' Z ha' h2 h ev => ev ▸ ?_
    rw [← h1.length, ← h2.length] at h
    by_cases e : vs.length = us.length
    · rw [if_pos e] at h
      obtain ⟨f, hf, hall⟩ := immEqs_at (A := A) h h1 h2
      exact hall ▸ hl x y _ _ f (isList_of ha) (isList_of ha') e hf
    · rw [if_neg e] at h
      exact Option.some.inj h ▸ hd x y _ _ (isList_of ha) (isList_of ha') (bne_iff_ne.mpr e)
theorem eqP_ok {p q : PV} {v u : Value} {b : Bool} {Q : Value → Shared → Prop} {lv : Nat} (hr : Room lv A) (h : eqP p q = some b) (hp : RV s.heap V p v) (hq : RV s.heap V q u) (hQ : Q (.bool b) s) :
    wpAny (model prog w) A (richCompare .Eq v u) Q E s :=
  eqP_rv (A := A.in1) (G := RcAt A s) h hp hq (fun h => immEq_rv (G := RcAt A s) h hp hq .none_none .bool_bool (fun a c t => .int_int a t c) (fun a c t t' => S_beq a c ▸ .str_str _ t _ t') fun a c t t' prog w E Q hQ => eq_bytes (by simpa using hQ))
    (fun x y vs us e h1 h2 => .tuples h1 h2 hr.units) (fun x y vs us e h1 h2 hs => .lists h1 h2 hs hr.units) (fun x y vs us h1 h2 hs => .lists_lengths h1 h2 hs hr.units) prog w E Q hQ
theorem neP_ok {p q : PV} {v u : Value} {b : Bool} {Q : Value → Shared → Prop} {lv : Nat} (hr : Room lv A) (h : eqP p q = some b) (hp : RV s.heap V p v) (hq : RV s.heap V q u) (hQ : Q (.bool (!b)) s) :
    wpAny (model prog w) A (richCompare .NotEq v u) Q E s :=
  eqP_rv (A := A.in1) (G := fun v u b => RcNeAt A s v u !b) h hp hq (fun h => immEq_rv (G := fun v u b => RcNeAt A s v u !b) h hp hq .none_none (fun a c prog w E Q hQ => RcNeAt.bool_bool a c prog w E Q hQ) (fun a c t t' prog w E Q hQ => ne_int hQ) (fun a c t t' prog w E Q hQ => ne_str (by rw [bne, S_beq]; exact hQ)) fun a c t t' prog w E Q hQ => ne_bytes (by simpa [bne] using hQ))
    (fun x y vs us e h1 h2 => .tuples h1 h2 hr.units) (fun x y vs us e h1 h2 hs => .lists h1 h2 hs hr.units) (fun x y vs us h1 h2 hs => .lists_lengths h1 h2 hs hr.units) prog w E Q hQ
end
noncomputable def addP (p q : PV) : Option PV := p.on none nO (fun a => q.oi fun b => some (.int (a + b))) (fun a => q.os fun b => if a.length + b.length ≤ LIM then some (.str (a ++ b)) else none) nO nO nO (fun a => q.ol fun b => if a.length + b.length ≤ LIM then some (.lst (a ++ b)) else none)
noncomputable def repP (l : List PV) (n : Int) : Option PV := match l with
  | [] => none
  | p :: t => (match t with
    | [] => if 0 ≤ n ∧ n ≤ 1000 then some (.lst (List.replicate n.toNat p)) else none
    | _ :: _ => none)
noncomputable def mulP (p q : PV) : Option PV := p.on none nO (fun a => q.oi fun b => if a.natAbs < 2 ^ 60 then some (.int (a * b)) else none)
  (fun a => q.oi fun n => if 0 ≤ n ∧ n ≤ 1000 ∧ a.length ≤ 1000 then some (.str (List.replicate n.toNat a).flatten) else none) nO nO nO fun l => q.oi fun n => repP l n
theorem ite_inv {α : Type} {c : Prop} [Decidable c] {v r : α} {G : Prop} (h : (if c then some v else none) = some r) (k : c → v = r → G) : G :=
  if e : c then k e (Option.some.inj ((if_pos e).symm.trans h)) else nn ((if_neg e).symm.trans h)
theorem ite_o {α : Type} {c : Prop} [Decidable c] {o : Option α} {r : α} {G : Prop} (h : (if c then o else none) = some r) (k : c → o = some r → G) : G :=
  if e : c then k e ((if_pos e).symm.trans h) else nn ((if_neg e).symm.trans h)
theorem ite_inv' {α : Type} {c : Prop} [Decidable c] {v r : α} {G : Prop} (h : (if c then none else some v) = some r) (k : ¬ c → v = r → G) : G :=
  if e : c then nn ((if_pos e).symm.trans h) else k e (Option.some.inj ((if_neg e).symm.trans h))
/-- an operation of two ints -/
noncomputable def intsP {α : Type} (f : Int → Int → Option α) (p q : PV) : Option α := p.oi fun a => q.oi fun b => f a b
theorem ints_rv {α : Type} {f : Int → Int → Option α} {p q : PV} {r : α} {H : Heap} {V : Addr → Prop} {v u : Value} {G : Value → Value → Prop} (h : intsP f p q = some r) (hp : RV H V p v) (hq : RV H V q u) (k : ∀ a b t t', f a b = some r → G (.int a t) (.int b t')) : G v u :=
  oi_rv (G := fun v => G v u) h hp fun a t h => oi_rv (G := fun u => G (.int a t) u) h hq fun b t' => k a b t t'
noncomputable def binP : Operator → PV → PV → Option PV
  | .Add => addP
  | .Sub => intsP fun a b => some (.int (a - b))
  | .Mult => mulP
  | .FloorDiv => intsP fun a b => if b = 0 ∨ 2 ^ 60 ≤ b.natAbs then none else some (.int (a.fdiv b))
  | .Mod => intsP fun a b => if b = 0 then none else some (.int (a.fmod b))
  | .Pow => intsP fun a n => if 0 ≤ n ∧ n ≤ 100 ∧ a.natAbs < 2 ^ 60 then some (.int (a ^ n.toNat)) else none
  | .LShift => intsP fun a n => if 0 ≤ n ∧ n ≤ 100 ∧ a.natAbs < 2 ^ 60 then some (.int (a * 2 ^ n.toNat)) else none
  | .RShift => intsP fun a n => if 0 ≤ n then some (.int (a.fdiv (2 ^ n.toNat))) else none
  | .BitAnd => intsP fun a b => some (.int (Builtin.bitAnd a b))
  | .BitOr => intsP fun a b => some (.int (Builtin.bitOr a b))
  | _ => fun Z Z => none
section
variable {prog : Program} {w : World} {A : Around} {E : Value → Shared → Prop} {s : Shared} {V : Addr → Prop}
theorem S_len (l : List Nat) : (S l).length = l.length := by simp [Str.length]
theorem S_append (a b : List Nat) : S a ++ S b = S (a ++ b) := by
  apply Str.ext'
  simp [S, Str.cps_append]
theorem foldl_rep (n : Nat) (v : Value) : ∀ acc : Array Value, (List.replicate n #[v]).foldl (fun x1 x2 => x1 ++ x2) acc = acc ++ (List.replicate n v).toArray := by
  induction n with
  | zero => intro acc; simp
  | succ n ih => intro acc; rw [List.replicate_succ, List.foldl_cons, ih, List.replicate_succ]; apply Array.ext'; simp
theorem foldl_repS (n : Nat) (l : List Nat) : ∀ acc : Array Nat, (List.replicate n l.toArray).foldl (· ++ ·) acc = acc ++ (List.replicate n l).flatten.toArray := by
  induction n with
  | zero => intro acc; simp
  | succ n ih => intro acc; rw [List.replicate_succ, List.foldl_cons, ih]; simp [List.replicate_succ]
theorem sum_rep (n k : Nat) : (List.replicate n k).sum = n * k := by
  induction n with
  | zero => simp
  | succ n ih => rw [List.replicate_succ, List.sum_cons, ih, Nat.succ_mul, Nat.add_comm]
theorem RVs.rep {h : Heap} {p : PV} {v : Value} (hp : RV h V p v) : ∀ n, RVs h V (List.replicate n p) (List.replicate n v)
  | 0 => by simp [RVs]
  | n + 1 => by rw [List.replicate_succ, List.replicate_succ]; exact RVs.cons hp (RVs.rep hp n)
theorem rv_new_list {ps : List PV} {vs : List Value} (hV : ∀ a, V a → Has s.heap a) (h : RVs s.heap V ps vs) :
    Ext s { s with heap := s.heap.push { cls := .type "list", data := .seq vs.toArray } } ∧ RV (s.heap.push { cls := .type "list", data := .seq vs.toArray }) V (.lst ps) (.ref s.heap.objs.size) :=
  ⟨ext_push', .l (fun q => let ⟨o, e⟩ := hV _ q; nn (fresh_none.symm.trans e)) (Heap.get?_push_size _ rfl) (RVs.ext (s := s) (s' := { s with heap := s.heap.push { cls := .type "list", data := .seq vs.toArray } }) h ext_push')⟩
theorem rv_new_tuple {ps : List PV} {vs : List Value} (hV : ∀ a, V a → Has s.heap a) (h : RVs s.heap V ps vs) :
    Ext s { s with heap := s.heap.push { cls := .type "tuple", data := .seq vs.toArray } } ∧ RV (s.heap.push { cls := .type "tuple", data := .seq vs.toArray }) V (.tup ps) (.ref s.heap.objs.size) :=
  ⟨ext_push', .t (fun q => let ⟨o, e⟩ := hV _ q; nn (fresh_none.symm.trans e)) (Heap.get?_push_size _ rfl) (RVs.ext (s := s) (s' := { s with heap := s.heap.push { cls := .type "tuple", data := .seq vs.toArray } }) h ext_push')⟩
theorem bits_small {a : Int} (h : a.natAbs < 2 ^ 60) : Builtin.Int.intBits a ≤ 64 := intBits_le_64 (by lia) (by lia)
theorem list_mul_raw {x : Addr} {v : Value} {k : Nat} {n : Int} {t' : Tok} {Q : Value → Shared → Prop} (hx : s.heap.get? x = some (lstObj [v] k)) (hl : 0 ≤ n ∧ n ≤ 1000)
    (h : Q (.ref s.heap.objs.size) { s with heap := s.heap.push { cls := .type "list", data := .seq (List.replicate n.toNat v).toArray } }) : wpAny (model prog w) A (binaryOp .Mult (.ref x) (.int n t')) Q E s := by
  have hk : n.toNat ≤ 1000 := by lia
  have e0 : (List.replicate (if (#[v] : Array Value).isEmpty = true then 0 else n.toNat) #[v]).foldl (fun x1 x2 => x1 ++ x2) #[] = (List.replicate n.toNat v).toArray := by
    have := foldl_rep n.toNat v #[]
    simpa using this
  refine wpAny_binaryOp_repeat_ref (T := "list") (U := "int") (by decide) ⟨_, hx, rfl⟩ (fun s' => typeIs_int s' n t') noFill_list_mul F.fills_int_mul F.slot_int_rmul repeat_list F.slot_int_index.lookup
    (call_meets F.slot_int_rmul (typeIs_int s n t') F.entry_int_rmul (F.args_int_rmul_2 _ _) (int___rmul___int_list n t' x #[v] k)
      ⟨hx, rfl, ⟨_, hx, rfl⟩, call_meets F.slot_list_mul ⟨_, hx, rfl⟩ F.entry_list_mul (F.args_list_mul_2 _ _)
        (AutoListH.list___mul___list_int_3 x #[v] k n t' (by simp [Builtin.List.listFitsIndex]; lia) (by simp; lia) (by simp [Builtin.List.listTooLong, sizeLine]; lia)) ⟨hx, ?_⟩⟩)
  rw [e0]
  exact h
theorem got_int {n : Int} {t : Tok} {tk : Nat} : Got s V (.int n) (.int n t) { s with toks := tk } := ⟨ext_toks, .i⟩
theorem addP_ok {p q r : PV} {v u : Value} (h : addP p q = some r) (hp : RV s.heap V p v) (hq : RV s.heap V q u) (hV : ∀ a, V a → Has s.heap a) (hn : s.heap.NoLimit) :
    wpAny (model prog w) A (binaryOp .Add v u) (Got s V r) E s := by
  refine PV.on_rv (G := fun v => wpAny (model prog w) A (binaryOp .Add v u) (Got s V r) E s) h hp nn (fun _ => nn) (fun a t h => ?_) (fun a t h => ?_) (fun _ _ => nn) (fun _ => nn) (fun _ _ _ _ _ _ _ => nn) fun a x vs n _ hx h1 h => ?_
  · refine oi_rv h hq fun b t' h => ?_
    cases h
    exact add_int got_int
  · refine os_rv h hq fun b t' h => ite_inv h fun hl h => ?_
    subst h
    exact add_str (fun t' tk => ⟨ext_toks, S_append a b ▸ .s⟩) (by rw [S_len, S_len, LIM_eq]; exact hl)
  · refine ol_rv h hq fun b y us n' _ hy h2 h => ite_inv h fun hl h => ?_
    subst h
    refine P.add_list hx hy ((List.append_toArray vs us).symm ▸ rv_new_list hV (h1.append h2)) ?_
    rw [LIM_eq, List.size_toArray, List.size_toArray, h1.length, h2.length]
    exact hl
theorem mulP_ok {p q r : PV} {v u : Value} (h : mulP p q = some r) (hp : RV s.heap V p v) (hq : RV s.heap V q u) (hV : ∀ a, V a → Has s.heap a) (hn : s.heap.NoLimit) :
    wpAny (model prog w) A (binaryOp .Mult v u) (Got s V r) E s := by
  refine PV.on_rv (G := fun v => wpAny (model prog w) A (binaryOp .Mult v u) (Got s V r) E s) h hp nn (fun _ => nn) (fun a t h => ?_) (fun a t h => ?_) (fun _ _ => nn) (fun _ => nn) (fun _ _ _ _ _ _ _ => nn) fun a x vs n _ hx h1 h => ?_ <;>
    refine oi_rv h hq fun n t' h => ?_
  · refine ite_inv h fun hl h => ?_
    subst h
    exact mul_int got_int (IntMulOk.of_left (bits_small hl))
  · refine ite_inv h fun ⟨h0, h1, h2⟩ h => ?_
    subst h
    have hbig : (S a).length * n.toNat ≤ 1000000 := by
      rw [S_len]
      exact Nat.mul_le_mul (m₂ := 1000) h2 (Int.toNat_le.mpr h1)
    have e0 : ∀ m : Nat, (List.replicate m (S a).cps).foldl (· ++ ·) #[] = (List.replicate m a).flatten.toArray := fun m => (foldl_repS m a #[]).trans (Array.empty_append ..)
    refine P.mul_str (by rw [decide_eq_false (by lia), decide_eq_false (by lia)]; rfl) (fun hn1 Z => ?_) (fun Z Z => ?_) ?_
    · rw [S_len]
      exact Int.not_lt.mpr (Int.le_trans (Int.ofNat_le.mpr h2) ((Int.le_ediv_iff_mul_le (by lia)).mpr (Int.le_trans (Int.mul_le_mul_of_nonneg_left h1 (by decide)) (show (1000 : Int) * 1000 ≤ 2 ^ 63 - 1 by decide))))
    · exact decide_eq_false (by rw [LIM_eq]; exact Nat.not_lt.mpr (Nat.le_trans hbig (by decide)))
    · split
      · rename_i hlt
        rw [Int.toNat_eq_zero.mpr (Int.le_of_lt_add_one hlt)]
        exact ⟨by decide, ext_toks, .s⟩
      · split
        · rename_i hc
          refine ⟨Chg.refl _, ?_⟩
          rcases (Bool.or_eq_true _ _).mp hc with hc | hc
          · have : n = 1 := of_decide_eq_true hc
            subst this
            rw [show List.replicate (1 : Int).toNat a = [a] from rfl, List.flatten_singleton]
            exact .s
          · have : a = [] := List.length_eq_zero_iff.mp ((S_len a).symm.trans (eq_of_beq hc))
            subst this
            rw [List.flatten_replicate_nil]
            exact .s
        · rw [e0]
          refine ⟨?_, ext_toks, .s⟩
          show (S _).length ≤ sizeLine
          rw [S_len, LIM_eq, List.length_flatten, List.map_replicate, sum_rep, Nat.mul_comm, ← S_len]
          exact Nat.le_trans hbig (by decide)
  · cases a with
    | nil => exact nn h
    | cons p t => cases t with
      | nil =>
        refine ite_inv h fun hl h => ?_
        subst h
        obtain ⟨v, r, rfl, h3, rfl⟩ := h1
        exact list_mul_raw hx hl (rv_new_list hV (RVs.rep h3 _))
      | cons _ _ => exact nn h
theorem binP_ok {op : Operator} {p q r : PV} {v u : Value} (h : binP op p q = some r) (hp : RV s.heap V p v) (hq : RV s.heap V q u) (hV : ∀ a, V a → Has s.heap a) (hn : s.heap.NoLimit) :
    wpAny (model prog w) A (binaryOp op v u) (Got s V r) E s := by
  have ii {op : Operator} {f : Int → Int → Option PV} (h : intsP f p q = some r) (k : ∀ a b t t', f a b = some r → wpAny (model prog w) A (binaryOp op (.int a t) (.int b t')) (Got s V r) E s) : wpAny (model prog w) A (binaryOp op v u) (Got s V r) E s := ints_rv (G := fun v u => wpAny (model prog w) A (binaryOp op v u) (Got s V r) E s) h hp hq k
  induction op with
  | Add => exact addP_ok h hp hq hV hn
  | Mult => exact mulP_ok h hp hq hV hn
  | Sub => exact ii h fun a b t t' h => Option.some.inj h ▸ sub_int got_int
  | FloorDiv =>
    refine ii h fun a b t t' h => ite_inv' h fun hl h => h ▸ floordiv_int (fun e => hl (.inl e)) got_int (.inl (PyProof.noPylong_of_log2 ?_))
    exact Nat.lt_trans ((Nat.log2_lt fun e => hl (.inl (Int.natAbs_eq_zero.mp e))).mpr (Nat.not_le.mp fun e => hl (.inr e))) (by decide)
  | Mod => exact ii h fun a b t t' h => ite_inv' h fun hl h => h ▸ mod_int hl got_int
  | Pow =>
    refine ii h fun a b t t' h => ite_inv h fun hl h => h ▸ pow_int hl.1 ?_ got_int
    exact Int.le_trans (Int.mul_le_mul (Int.ofNat_le.mpr (bits_small hl.2.2)) hl.2.1 hl.1 (by decide)) (by decide)
  | LShift => exact ii h fun a b t t' h => ite_inv h fun hl h => h ▸ lshift_int_small hl.1 (by have := hl.2.1; lia) (by have := hl.2.2; lia) got_int
  | RShift => exact ii h fun a b t t' h => ite_inv h fun hl h => h ▸ rshift_int hl got_int
  | BitAnd => exact ii h fun a b t t' h => Option.some.inj h ▸ and_int got_int
  | BitOr => exact ii h fun a b t t' h => Option.some.inj h ▸ or_int got_int
  | _ => exact nn h
noncomputable def apartP : PV → Option Bool := PV.on (some true) (fun _ => some false) (fun _ => some false) (fun _ => some false) (fun _ => some false) nO (fun _ => some false) fun _ => some false
noncomputable def isP (p q : PV) : Option Bool := q.on (apartP p) (fun b => p.on none (fun a => some (a == b)) nO nO nO nO nO nO) nO nO nO (fun b => p.on none nO nO nO nO (fun a => some (a == b)) nO nO) nO nO
theorem isP_ok {p q : PV} {v u : Value} {b : Bool} {M : Model} {Q : Bool → Shared → Prop} (h : isP p q = some b) (hp : RV s.heap V p v) (hq : RV s.heap V q u) (hQ : Q b s) :
    wpAny M A (isSame v u) Q E s := by
  have key : plainIs v u = true ∧ (v == u) = b := by
    refine PV.on_rv h hq (fun h => ?_) (fun c h => ?_) (fun _ _ => nn) (fun _ _ => nn) (fun _ _ => nn) (fun c h => ?_) (fun _ _ _ _ _ _ _ => nn) (fun _ _ _ _ _ _ _ => nn)
    · exact PV.on_rv h hp (fun h => ⟨rfl, Option.some.inj h⟩) (fun _ h => ⟨rfl, Option.some.inj h⟩) (fun _ _ h => ⟨rfl, Option.some.inj h⟩) (fun _ _ h => ⟨rfl, Option.some.inj h⟩) (fun _ _ h => ⟨rfl, Option.some.inj h⟩) (fun _ => nn) (fun _ _ _ _ _ _ _ h => ⟨rfl, Option.some.inj h⟩) fun _ _ _ _ _ _ _ h => ⟨rfl, Option.some.inj h⟩
    · refine PV.on_rv h hp nn (fun a h => ⟨rfl, ?_⟩) (fun _ _ => nn) (fun _ _ => nn) (fun _ _ => nn) (fun _ => nn) (fun _ _ _ _ _ _ _ => nn) (fun _ _ _ _ _ _ _ => nn)
      rw [← Option.some.inj h]
      cases a <;> cases c <;> rfl
    · refine PV.on_rv h hp nn (fun _ => nn) (fun _ _ => nn) (fun _ _ => nn) (fun _ _ => nn) (fun a h => ⟨rfl, ?_⟩) (fun _ _ _ _ _ _ _ => nn) (fun _ _ _ _ _ _ _ => nn)
      rw [← Option.some.inj h]
      by_cases e : a = c
      · subst e; rw [beq_self_eq_true, beq_self_eq_true]
      · rw [beq_false_of_ne e, beq_false_of_ne (fun x => e (Value.type.inj x))]
  exact wpAny_isSame_plain key.1 (by rw [key.2]; exact hQ)
noncomputable def inStrP (f : Bool → Bool) (p q : PV) : Option Bool := p.os fun y => q.os fun x => some (f (Txt.contains (S x) (S y)))
theorem inStr_rv {f : Bool → Bool} {p q : PV} {v u : Value} {b : Bool} {G : Value → Value → Prop} (h : inStrP f p q = some b) (hp : RV s.heap V p v) (hq : RV s.heap V q u) (k : ∀ y x t t', f (Txt.contains (S x) (S y)) = b → G (.str (S y) t) (.str (S x) t')) : G v u :=
  os_rv (G := fun v => G v u) h hp fun y t h => os_rv (G := fun u => G (.str (S y) t) u) h hq fun x t' h => k y x t t' (Option.some.inj h)
noncomputable def cmpP : CmpOp → PV → PV → Option Bool
  | .Eq => eqP
  | .NotEq => fun a b => (eqP a b).map (!·)
  | .Lt => intsP fun a b => some (decide (a < b))
  | .LtE => intsP fun a b => some (decide (a ≤ b))
  | .Gt => intsP fun a b => some (decide (b < a))
  | .GtE => intsP fun a b => some (decide (b ≤ a))
  | .Is => isP
  | .IsNot => fun a b => (isP a b).map (!·)
  | .In => inStrP id
  | .NotIn => inStrP fun b => !b
theorem cmpP_ok {op : CmpOp} {p q : PV} {b : Bool} {v u : Value} {Q : Value → Shared → Prop} {lv : Nat} (hr : Room lv A) (h : cmpP op p q = some b) (hp : RV s.heap V p v) (hq : RV s.heap V q u)
    (hQ : ∀ tk, Q (.bool b) { s with toks := tk }) : wpAny (model prog w) A (compareOp op v u) Q E s := by
  have hQ0 : Q (.bool b) s := hQ s.toks
  have ii {op : CmpOp} {f : Int → Int → Option Bool} (h : intsP f p q = some b) (k : ∀ a c t t', f a c = some b → Q (.bool b) s → wpAny (model prog w) A (compareOp op (.int a t) (.int c t')) Q E s) : wpAny (model prog w) A (compareOp op v u) Q E s := ints_rv (G := fun v u => wpAny (model prog w) A (compareOp op v u) Q E s) h hp hq fun a c t t' h => k a c t t' h hQ0
  induction op with
  | Eq => exact eqP_ok hr h hp hq hQ0
  | NotEq =>
    obtain ⟨c, hc, rfl⟩ := Option.map_eq_some_iff.mp h
    exact neP_ok hr hc hp hq hQ0
  | Lt => exact ii h fun a b t t' h => Option.some.inj h ▸ lt_int
  | LtE => exact ii h fun a b t t' h => Option.some.inj h ▸ le_int
  | Gt => exact ii h fun a b t t' h => Option.some.inj h ▸ gt_int
  | GtE => exact ii h fun a b t t' h => Option.some.inj h ▸ ge_int
  | Is =>
    show wpAny _ A (do return .bool (← isSame v u)) Q E s
    exact wpAny_bind (isP_ok h hp hq (wpAny_pure hQ0))
  | IsNot =>
    obtain ⟨c, hc, rfl⟩ := Option.map_eq_some_iff.mp h
    show wpAny _ A (do return .bool (!(← isSame v u))) Q E s
    exact wpAny_bind (isP_ok hc hp hq (wpAny_pure hQ0))
  | In => exact inStr_rv (G := fun v u => wpAny (model prog w) A (compareOp .In v u) Q E s) h hp hq fun y x t t' h => SB.contains (show Q (.bool (Txt.contains (S x) (S y))) s from (show Txt.contains (S x) (S y) = b from h) ▸ hQ0)
  | NotIn => exact inStr_rv (G := fun v u => wpAny (model prog w) A (compareOp .NotIn v u) Q E s) h hp hq fun y x t t' h => SB.notContains (h ▸ hQ0)
noncomputable def truthP : PV → Option Bool := PV.on (some false) (fun b => some b) (fun a => some (a != 0)) nO nO nO nO nO
theorem truthP_ok {p : PV} {b : Bool} {v : Value} {Q : Bool → Shared → Prop} (h : truthP p = some b) (hp : RV s.heap V p v) (hQ : Q b s) : wpAny (model prog w) A (truthy v) Q E s :=
  PV.on_rv (G := fun v => wpAny (model prog w) A (truthy v) Q E s) h hp (fun h => truthy_none (Option.some.inj h ▸ hQ)) (fun _ h => wpAny_truthy_bool (Option.some.inj h ▸ hQ)) (fun _ _ h => truthy_int (Option.some.inj h ▸ hQ)) (fun _ _ => nn) (fun _ _ => nn) (fun _ => nn) (fun _ _ _ _ _ _ _ => nn) (fun _ _ _ _ _ _ _ => nn)
noncomputable def unP (op : UnaryOp) (p : PV) : Option PV := match op with
  | .USub => p.oi fun a => some (.int (-a))
  | .Not => (truthP p).map fun b => .bool (!b)
  | .Invert => none
  | .UAdd => none
theorem unP_ok {op : UnaryOp} {p r : PV} {v : Value} (h : unP op p = some r) (hp : RV s.heap V p v) :
    wpAny (model prog w) A (unaryOp op v) (Got s V r) E s := by
  induction op with
  | USub => exact oi_rv (G := fun v => wpAny (model prog w) A (unaryOp .USub v) (Got s V r) E s) h hp fun a t h => Option.some.inj h ▸ neg_int got_int
  | Not =>
    obtain ⟨b, hb, rfl⟩ := Option.map_eq_some_iff.mp h
    exact not_of (truthP_ok hb hp ⟨Chg.refl _, rfl⟩)
  | _ => exact nn h
end
section
variable {prog : Program} {w : World} {hb : Heap} {sc : Scope} {lv : Nat}
theorem XE.bin {l r : Expr} {op : Operator} {pos : Pos} {f g : List Sl → Option PV} (h₁ : XE prog w hb sc lv l f) (h₂ : XE prog w hb sc lv r g) :
    XE prog w hb sc lv (.BinOp l op r pos) (fun σ => (f σ).bind fun a => (g σ).bind fun b => binP op a b) :=
  fun _ _ _ _ _ _ _ _ he hr hs hf => bindE hf fun _ ha hf => bindE hf fun _ hb' hf => wpAny_BinOp (h₁.to he hr hs ha fun _ _ x₁ r₁ hs₁ => h₂.to he hr hs₁ hb' fun _ _ x₂ r₂ hs₂ =>
    got_to (x₁.trans x₂) (binP_ok hf (r₁.ext x₂) r₂ (fun _ ha => hs₂.av_has ha) (hs₂.nl.keeps hs₂.base)))
theorem XE.un {x : Expr} {op : UnaryOp} {pos : Pos} {f : List Sl → Option PV} (h : XE prog w hb sc lv x f) :
    XE prog w hb sc lv (.UnaryOp op x pos) (fun σ => (f σ).bind fun a => unP op a) :=
  fun _ _ _ _ _ _ _ _ he hr hs hf => bindE hf fun _ ha hf => wpAny_UnaryOp (h.to he hr hs ha fun _ _ x₁ r₁ _ => got_to x₁ (unP_ok hf r₁))
theorem XE.cmp {l r : Expr} {op : CmpOp} {pos : Pos} {f g : List Sl → Option PV} (h₁ : XE prog w hb sc lv l f) (h₂ : XE prog w hb sc lv r g) (hm : behindInMarks op r = false) :
    XE prog w hb sc lv (.Compare l [op] [r] pos) (fun σ => (f σ).bind fun a => (g σ).bind fun b => (cmpP op a b).map .bool) := by
  intro env A E s U σ val p he hr hs hf
  refine bindE hf fun a ha hf => bindE hf fun b hb' hf => ?_
  obtain ⟨c, hc, rfl⟩ := Option.map_eq_some_iff.mp hf
  exact wpAny_Compare1 (h₁.to he hr hs ha fun _ _ x₁ r₁ hs₁ => h₂.to he hr hs₁ hb' fun _ _ x₂ r₂ _ => cmpP_ok hr hc (r₁.ext x₂) r₂ fun _ => ⟨x₁.trans (x₂.trans ext_toks), rfl⟩) hm
theorem XT.cmp {l r : Expr} {op : CmpOp} {pos : Pos} {f g : List Sl → Option PV} (h₁ : XE prog w hb sc lv l f) (h₂ : XE prog w hb sc lv r g) (hm : behindInMarks op r = false) :
    XT prog w hb sc lv (.Compare l [op] [r] pos) (fun σ => (f σ).bind fun a => (g σ).bind fun b => cmpP op a b) :=
  fun _ _ _ _ _ _ _ _ he hr hs hf => bindE hf fun _ ha hf => bindE hf fun _ hb' hc => wpAny_isTrue_Compare1 (h₁.to he hr hs ha fun _ _ x₁ r₁ hs₁ => h₂.to he hr hs₁ hb' fun _ _ x₂ r₂ _ =>
    cmpP_ok hr hc (r₁.ext x₂) r₂ fun _ => wpAny_truthy_bool ⟨x₁.trans (x₂.trans ext_toks), rfl⟩) hm
theorem XT.val {e : Expr} {f : List Sl → Option PV} (h : XE prog w hb sc lv e f) (hp : ∀ env whole, isTrue e env whole = (do let v ← whole; standAt e.pos; holding [v] (truthy v))) :
    XT prog w hb sc lv e (fun σ => (f σ).bind truthP) :=
  fun env _ _ _ _ _ _ _ he hr hs hf => bindE hf fun _ ha hc => isTrue_plain (h.to he hr hs ha fun _ _ x r _ => truthP_ok hc r ⟨x, rfl⟩) (hp env _)
theorem XT.not {e : Expr} {pos : Pos} {f : List Sl → Option Bool} (h : XT prog w hb sc lv e f) : XT prog w hb sc lv (.UnaryOp .Not e pos) (fun σ => (f σ).map (!·)) := by
  intro env A E s U σ val c he hr hs hf
  obtain ⟨a, ha, rfl⟩ := Option.map_eq_some_iff.mp hf
  exact wpAny_isTrue_Not (h.to he hr hs ha fun _ x _ => ⟨x, rfl⟩)
noncomputable def XAll (prog : Program) (w : World) (hb : Heap) (sc : Scope) (lv : Nat) (op : BoolOp) (es : List Expr) (f : List Sl → Option Bool) : Prop :=
  ∀ (env : Env) (A : Around) (E : Value → Shared → Prop) (s : Shared) (U : Addr → Prop) (σ : List Sl) (val : Nat → Option Value) (p : Bool),
    EnvOk sc env → Room lv A → SR hb env U σ val s → f σ = some p → wpAny (model prog w) A (allTrue op es env) (fun b s' => Ext s s' ∧ b = p) E s
theorem XAll.andNil : XAll prog w hb sc lv .And [] (fun Z => some true) :=
  fun _ _ _ _ _ _ _ _ he hr hs hf => wpAny_allTrue_And_nil ⟨Chg.refl _, Option.some.inj hf⟩
theorem XAll.orNil : XAll prog w hb sc lv .Or [] (fun Z => some false) :=
  fun _ _ _ _ _ _ _ _ he hr hs hf => wpAny_allTrue_Or_nil ⟨Chg.refl _, Option.some.inj hf⟩
theorem XAll.andCons {e : Expr} {es : List Expr} {f g : List Sl → Option Bool} (h₁ : XT prog w hb sc lv e f) (h₂ : XAll prog w hb sc lv .And es g) :
    XAll prog w hb sc lv .And (e :: es) (fun σ => (f σ).bind fun b => if b = true then g σ else some false) :=
  fun _ _ _ _ _ _ _ _ he hr hs hf => bindE hf fun b hb' hf => wpAny_allTrue_And_cons (h₁.to he hr hs hb' fun _ x hs₁ => match b, hf with
    | true, hf => gotb_to x (h₂ _ _ _ _ _ _ _ _ he hr hs₁ hf)
    | false, hf => ⟨x, Option.some.inj hf⟩)
theorem XAll.orCons {e : Expr} {es : List Expr} {f g : List Sl → Option Bool} (h₁ : XT prog w hb sc lv e f) (h₂ : XAll prog w hb sc lv .Or es g) :
    XAll prog w hb sc lv .Or (e :: es) (fun σ => (f σ).bind fun b => if b = true then some true else g σ) :=
  fun _ _ _ _ _ _ _ _ he hr hs hf => bindE hf fun b hb' hf => wpAny_allTrue_Or_cons (h₁.to he hr hs hb' fun _ x hs₁ => match b, hf with
    | false, hf => gotb_to x (h₂ _ _ _ _ _ _ _ _ he hr hs₁ hf)
    | true, hf => ⟨x, Option.some.inj hf⟩)
theorem XT.all {op : BoolOp} {es : List Expr} {pos : Pos} {f : List Sl → Option Bool} (h : XAll prog w hb sc lv op es f) : XT prog w hb sc lv (.BoolOp op es pos) f :=
  fun _ _ _ _ _ _ _ _ he hr hs hf => wpAny_isTrue_BoolOp (h _ _ _ _ _ _ _ _ he hr hs hf)
theorem XE.ife {t b o : Expr} {pos : Pos} {ft : List Sl → Option Bool} {f g : List Sl → Option PV} (ht : XT prog w hb sc lv t ft) (h₁ : XE prog w hb sc lv b f) (h₂ : XE prog w hb sc lv o g) :
    XE prog w hb sc lv (.IfExp t b o pos) (fun σ => (ft σ).bind fun c => if c = true then f σ else g σ) :=
  fun _ _ _ _ _ _ _ _ he hr hs hf => bindE hf fun c hc hf => wpAny_IfExp (ht.to he hr hs hc fun _ x hs₁ => match c, hf with
    | true, hf => got_to x (h₁ _ _ _ _ _ _ _ _ he hr hs₁ hf)
    | false, hf => got_to x (h₂ _ _ _ _ _ _ _ _ he hr hs₁ hf))
/-- x or y, x and y, as values; x a bool -/
theorem XE.or2 {x y : Expr} {pos : Pos} {f g : List Sl → Option PV} (h₁ : XE prog w hb sc lv x f) (h₂ : XE prog w hb sc lv y g) :
    XE prog w hb sc lv (.BoolOp .Or [x, y] pos) (fun σ => (f σ).bind fun a => (truthP a).bind fun t => if t = true then some a else g σ) :=
  fun _ _ _ _ _ _ _ _ he hr hs hf => bindE hf fun _ ha hf => bindE hf fun t ht hf => wpAny_Or2 (h₁.to he hr hs ha fun _ _ x r hs₁ => truthP_ok ht r (match t, hf with
    | true, hf => ⟨x, Option.some.inj hf ▸ r⟩
    | false, hf => got_to x (h₂ _ _ _ _ _ _ _ _ he hr hs₁ hf)))
theorem XE.and2 {x y : Expr} {pos : Pos} {f g : List Sl → Option PV} (h₁ : XE prog w hb sc lv x f) (h₂ : XE prog w hb sc lv y g) :
    XE prog w hb sc lv (.BoolOp .And [x, y] pos) (fun σ => (f σ).bind fun a => (truthP a).bind fun t => if t = true then g σ else some a) :=
  fun _ _ _ _ _ _ _ _ he hr hs hf => bindE hf fun _ ha hf => bindE hf fun t ht hf => wpAny_And2 (h₁.to he hr hs ha fun _ _ x r hs₁ => truthP_ok ht r (match t, hf with
    | false, hf => ⟨x, Option.some.inj hf ▸ r⟩
    | true, hf => got_to x (h₂ _ _ _ _ _ _ _ _ he hr hs₁ hf)))
noncomputable def XEs (prog : Program) (w : World) (hb : Heap) (sc : Scope) (lv : Nat) (es : List Expr) (f : List Sl → Option (List PV)) : Prop :=
  ∀ (pos : Pos) (env : Env) (A : Around) (E : Value → Shared → Prop) (s : Shared) (U : Addr → Prop) (σ : List Sl) (val : Nat → Option Value) (ps : List PV),
    EnvOk sc env → Room lv A → SR hb env U σ val s → f σ = some ps →
    wpAny (model prog w) A (spliced (backTo pos (starEach es env))) (fun vs s' => Ext s s' ∧ RVs s'.heap (Av U σ val) ps vs) E s
theorem XEs.to {es : List Expr} {f : List Sl → Option (List PV)} {pos : Pos} {env : Env} {A : Around} {E : Value → Shared → Prop} {s : Shared} {U : Addr → Prop} {σ : List Sl} {val : Nat → Option Value} {ps : List PV} {Q : List Value → Shared → Prop} (h : XEs prog w hb sc lv es f)
    (he : EnvOk sc env) (hr : Room lv A) (hs : SR hb env U σ val s) (hf : f σ = some ps) (k : ∀ vs s', Ext s s' → RVs s'.heap (Av U σ val) ps vs → SR hb env U σ val s' → Q vs s') :
    wpAny (model prog w) A (spliced (backTo pos (starEach es env))) Q E s :=
  wpAny_mono (h pos env A E s U σ val ps he hr hs hf) (fun v s' q => k v s' q.1 q.2 (hs.ext q.1)) fun _ _ x => x
theorem XEs.nil : XEs prog w hb sc lv [] (fun Z => some []) :=
  fun _ _ _ _ _ _ _ _ _ he hr hs hf => Option.some.inj hf ▸ Calls.spliced_nil ⟨Chg.refl _, RVs.nil⟩
theorem XEs.cons {e : Expr} {es : List Expr} {f : List Sl → Option PV} {g : List Sl → Option (List PV)} (h₁ : XE prog w hb sc lv e f) (h₂ : XEs prog w hb sc lv es g)
    (hst : ∀ pos env, backTo pos (starEach (e :: es) env) = (false, eval e env) :: backTo pos (starEach es env)) :
    XEs prog w hb sc lv (e :: es) (fun σ => (f σ).bind fun a => (g σ).bind fun r => some (a :: r)) := by
  intro pos env A E s U σ val ps he hr hs hf
  refine bindE hf fun a ha hf => bindE hf fun r hr' hf => ?_
  rw [hst, ← Option.some.inj hf]
  exact Calls.spliced_cons (h₁.to he hr hs ha fun _ _ x₁ r₁ hs₁ => h₂.to he hr hs₁ hr' fun _ _ x₂ r₂ _ => ⟨x₁.trans x₂, RVs.cons (r₁.ext x₂) r₂⟩)
theorem XE.tup {es : List Expr} {k : Nat} {pos : Pos} {f : List Sl → Option (List PV)} (h : XEs prog w hb sc lv es f) (hl : es.length ≤ 1000) :
    XE prog w hb sc lv (.Tuple es k pos) (fun σ => (f σ).bind fun l => if l.length ≤ 1000 then some (.tup l) else none) :=
  fun _ _ _ _ _ _ _ _ he hr hs hf => bindE hf fun l hl' hf => ite_inv hf fun hn hf => hf ▸ wpAny_Tuple_spliced (h.to he hr hs hl' fun vs s₁ x r hs₁ =>
    ⟨by rw [r.length, LIM_eq]; exact Nat.le_trans hn (by decide), let q := rv_new_tuple (s := s₁) (fun _ ha => hs₁.av_has ha) r; ⟨x.trans q.1, q.2⟩⟩)
/-- a fresh list: its address is new, it stands in nothing -/
noncomputable def XL (prog : Program) (w : World) (hb : Heap) (sc : Scope) (lv : Nat) (e : Expr) (f : List Sl → Option (List PV)) : Prop :=
  ∀ (env : Env) (A : Around) (E : Value → Shared → Prop) (s : Shared) (U : Addr → Prop) (σ : List Sl) (val : Nat → Option Value) (l : List PV),
    EnvOk sc env → Room lv A → SR hb env U σ val s → f σ = some l →
    wpAny (model prog w) A (eval e env) (fun v s' => Ext s s' ∧ ∃ a vs n, v = .ref a ∧ s.heap.get? a = none ∧ s'.heap.get? a = some (lstObj vs n) ∧ RVs s'.heap (fun b => Av U σ val b ∨ b = a) l vs) E s
theorem XE.ofL {e : Expr} {f : List Sl → Option (List PV)} (h : XL prog w hb sc lv e f) : XE prog w hb sc lv e (fun σ => (f σ).map .lst) := by
  intro env A E s U σ val p he hr hs hf
  obtain ⟨l, hl, rfl⟩ := Option.map_eq_some_iff.mp hf
  exact wpAny_mono (h env A E s U σ val l he hr hs hl) (fun v s' ⟨hx, a, vs, n, e, h0, h1, h2⟩ => ⟨hx, e ▸ .l (hs.av_fresh h0) h1 (h2.weak fun b q => .inl (.inl q))⟩) fun Z Z x => x
theorem fresh_later {s s' : Shared} (x : Ext s s') : s.heap.get? s'.heap.objs.size = none := by
  cases e : s.heap.get? s'.heap.objs.size with
  | none => rfl
  | some o => exact nn (fresh_none.symm.trans (x.heap _ o (fun q => q) e))
theorem XL.lst {es : List Expr} {pos : Pos} {f : List Sl → Option (List PV)} (h : XEs prog w hb sc lv es f) :
    XL prog w hb sc lv (.List es pos) (fun σ => (f σ).bind fun l => if l.length ≤ 1000 then some l else none) :=
  fun _ _ _ _ _ _ _ _ he hr hs hf => bindE hf fun l hl' hf => ite_inv hf fun hn hf => hf ▸ wpAny_List_spliced (h.to he hr hs hl' fun vs s₁ x r hs₁ =>
    ⟨by rw [r.length, LIM_eq]; exact Nat.le_trans hn (by decide), let q := rv_new_list (s := s₁) (fun _ ha => hs₁.av_has ha) r;
      ⟨x.trans q.1, _, vs, 0, rfl, fresh_later x, Heap.get?_push_size _ rfl, RVs.ext (r.weak fun b h => h.imp id fun e => (show b = s₁.heap.objs.size from e).symm ▸ fresh_none) q.1⟩⟩)
end
section
variable {prog : Program} {w : World} {hb : Heap} {sc : Scope} {lv : Nat}
/-- item i of l, i small -/
noncomputable def nth? {α : Type} (l : List α) (i : Int) : Option α := if i.natAbs < 2 ^ 60 then (seqIndex? i l.length).bind (l[·]?) else none
noncomputable def itemP (p q : PV) : Option PV := q.oi fun i => p.on none nO nO (fun l => (nth? l i).map fun c => .str [c])
  (fun l => if l.length ≤ 1000 then if 0 ≤ i ∧ i < l.length then some (.int (l.getD i.toNat 0).toNat) else none else none) nO (fun l => nth? l i) fun l => nth? l i
theorem seqIndex_cases {i : Int} {n k : Nat} (h : seqIndex? i n = some k) : (0 ≤ i ∧ i.toNat = k ∧ k < n) ∨ (i < 0 ∧ -(n : Int) ≤ i ∧ (i + n).toNat = k ∧ k < n) := by
  have key {j : Int} (h : (if (decide (0 ≤ j) && decide (j < n)) = true then some j.toNat else none) = some k) : 0 ≤ j ∧ j.toNat = k ∧ k < n := ite_inv h fun c e => by
    have c := (Bool.and_eq_true ..).mp c
    have c2 := of_decide_eq_true c.2
    exact ⟨of_decide_eq_true c.1, e, by lia⟩
  have q := key (j := if i < 0 then i + n else i) h
  by_cases h0 : i < 0
  · rw [if_pos h0] at q; exact .inr ⟨h0, by have := q.1; lia, q.2⟩
  · rw [if_neg h0] at q; exact .inl q
section
variable {A : Around} {E : Value → Shared → Prop} {s : Shared} {V : Addr → Prop} {r : PV} {value slice : Expr}
theorem item_list {l : List PV} {i : Int} {t : Tok} {a : Addr} {vs : List Value} {n : Nat} (h : nth? l i = some r) (hg : s.heap.get? a = some (lstObj vs n)) (hr : RVs s.heap V l vs)
    (hs : ∀ o i, subscripted slice false o i = operate [o, i] (getItem o i)) : wpAny (model prog w) A (subscriptTail value slice (.ref a) (.int i t)) (Got s V r) E s := by
  refine ite_o h fun hi h => bindE h fun k hk hx => ?_
  obtain ⟨x, hx', hrv⟩ := hr.get hx
  have hl := isList_of hg
  have hlen := hr.length
  refine tail_any hl.typeIs slot_list_getitem.lookup ?_ (hs _ _)
  rcases seqIndex_cases hk with ⟨h0, h1, h2⟩ | ⟨h0, h1, h2, h3⟩
  · exact wpAny_getItem_list hl h0 (by lia) (h1 ▸ List.getElem?_toArray.trans hx') ⟨Chg.refl _, hrv⟩
  · rw [← hlen] at h1 h2
    exact wpAny_getItem_list_neg hl h0 h1 (by lia) (h2 ▸ List.getElem?_toArray.trans hx') ⟨Chg.refl _, hrv⟩
theorem itemP_ok {p q : PV} {v u : Value} (h : itemP p q = some r) (hp : RV s.heap V p v) (hq : RV s.heap V q u)
    (hs : ∀ o i, subscripted slice false o i = operate [o, i] (getItem o i)) :
    wpAny (model prog w) A (subscriptTail value slice v u) (Got s V r) E s := by
  refine oi_rv (G := fun u => wpAny (model prog w) A (subscriptTail value slice v u) (Got s V r) E s) h hq fun i t h => ?_
  refine PV.on_rv (G := fun v => wpAny (model prog w) A (subscriptTail value slice v (.int i t)) (Got s V r) E s) h hp nn (fun _ => nn) (fun _ _ => nn) (fun l t' h => ?_) (fun l t' h => ?_) (fun _ => nn) (fun l a vs n _ hg hr h => ?_) fun l a vs n _ hg hr h => item_list h hg hr hs
  · obtain ⟨c, hc, rfl⟩ := Option.map_eq_some_iff.mp h
    exact ite_o hc fun hi h => tail_any (typeIs_str _ _ _) slot_str_getitem.lookup (getItem_str (c := c) (by rw [decide_eq_false (by lia), decide_eq_false (by lia)]; rfl) (by rw [S_len]; simpa using h) ⟨ext_toks, .s⟩) (hs _ _)
  · exact ite_o h fun hl h => ite_inv h fun hb' h => h ▸ tail_any (typeIs_bytes _ _ _) FB.slot_bytes_getitem.lookup (getItem_bytes (Nat.le_trans hl (by decide)) hb'.1 hb'.2 ⟨ext_toks, .i⟩) (hs _ _)
  · refine ite_o h fun hi h => bindE h fun k hk hx => ?_
    obtain ⟨x, hx', hrv⟩ := hr.get hx
    have hl : IsTup s.heap a vs.toArray := ⟨_, hg, rfl, n, rfl⟩
    exact tail_any hl.typeIs slot_tuple_getitem.lookup (getItem_tuple hl (by lia) (by lia) (show seqIndex? i vs.length = some k from hr.length.symm ▸ hk) (List.getElem?_toArray.trans hx') ⟨Chg.refl _, hrv⟩) (hs _ _)
end
theorem XE.idx {value slice : Expr} {pos : Pos} {f g : List Sl → Option PV} (h₁ : XE prog w hb sc lv value f) (h₂ : XE prog w hb sc lv slice g)
    (hs : ∀ o i, subscripted slice false o i = operate [o, i] (getItem o i)) :
    XE prog w hb sc lv (.Subscript value slice pos) (fun σ => (f σ).bind fun a => (g σ).bind fun b => itemP a b) :=
  fun _ _ _ _ _ _ _ _ he hr hs' hf => bindE hf fun _ ha hf => bindE hf fun _ hb' hf => Subscript_ (h₁.to he hr hs' ha fun _ _ x₁ r₁ hs₁ => h₂.to he hr hs₁ hb' fun _ _ x₂ r₂ _ => got_to (x₁.trans x₂) (itemP_ok hf (r₁.ext x₂) r₂ hs))
/-- an item of an owned list -/
noncomputable def Sl.o? : Sl → Option (List PV)
  | .un => none
  | .pv _ => none
  | .own l => some l
noncomputable def getO (i : Nat) (σ : List Sl) : Option (List PV) := σ[i]?.bind Sl.o?
theorem getO_eq {i : Nat} {σ : List Sl} {l : List PV} (h : getO i σ = some l) : σ[i]? = some (.own l) :=
  bindE h fun x e h => match x, h with
    | .own _, h => Option.some.inj h ▸ e
    | .un, h => nn h
    | .pv _, h => nn h
theorem own_load {env : Env} {A : Around} {E : Value → Shared → Prop} {s : Shared} {U : Addr → Prop} {σ : List Sl} {val : Nat → Option Value} {x : Str} {i : Nat} {l : List PV} {Q : Value → Shared → Prop} {M : Model}
    (hn : nameAt sc.names x = some (i, .local)) (he : EnvOk sc env) (hs : SR hb env U σ val s) (hl : getO i σ = some l)
    (h : ∀ a vs n, val i = some (.ref a) → s.heap.get? a = some (lstObj vs n) → RVs s.heap (Av U σ val) l vs → Q (.ref a) s) : wpAny M A (loadName env x) Q E s := by
  obtain ⟨h1, h2⟩ := nameAt_lookup hn
  have q := hs.slot i
  rw [List.getD_eq_getElem?_getD, getO_eq hl] at q
  obtain ⟨a, vs, n, hv, hg, hrv⟩ := q
  obtain ⟨m, hns, hm⟩ := hs.ns
  have hm' := hm i x (by rw [he.scope]; exact h2)
  exact wpAny_loadName_local (by rw [he.scope]; exact he.kind) (by unfold Env.kindOf; rw [he.scope]; exact h1) hns (hm'.trans hv) (h a vs n hv hg hrv)
theorem XE.idxO {x : Str} {xp pos : Pos} {slice : Expr} {i : Nat} {g : List Sl → Option PV} (hn : nameAt sc.names x = some (i, .local)) (h₂ : XE prog w hb sc lv slice g) (hd : (x == ("__debug__" : Str)) = false)
    (hsb : ∀ o i, subscripted slice false o i = operate [o, i] (getItem o i)) :
    XE prog w hb sc lv (.Subscript (.Name x xp) slice pos) (fun σ => (getO i σ).bind fun l => (g σ).bind fun b => itemP (.lst l) b) :=
  fun _ A E _ U σ val p he hr hs hf => bindE hf fun l ha hf => bindE hf fun _ hb' hf => Subscript_ (wpAny_Name (own_load hn he hs ha fun a vs n hv hg hrv => h₂.to he hr hs hb' fun u s₂ x₂ r₂ _ =>
    oi_rv (f := fun i => nth? l i) (G := fun u => wpAny (model prog w) A (subscriptTail (.Name x xp) slice (.ref a) u) (Got _ (Av U σ val) p) E s₂) hf r₂ fun k t hf => got_to x₂ (item_list hf (x₂.heap a _ (fun q => q) hg) (hrv.ext x₂) hsb)) hd)
noncomputable def sliceL {α : Type} (l : List α) (lo hi st : Option Int) : List α :=
  (sliceRange (sliceBounds lo hi st l.length).1 (sliceBounds lo hi st l.length).2.1 (sliceBounds lo hi st l.length).2.2).filterMap (l[·]?)
noncomputable def sliceP (p : PV) (lo hi : Option Int) : Option PV := p.on none nO nO (fun l => if l.length ≤ LIM then some (.str (Txt.slice (S l) lo hi).cps.toList) else none) nO nO nO
  fun l => if l.length ≤ LIM then some (.lst (sliceL l lo hi none)) else none
theorem RVs.pick {h : Heap} {V : Addr → Prop} {ps : List PV} {vs : List Value} (x : RVs h V ps vs) (idx : List Nat) : RVs h V (idx.filterMap (ps[·]?)) (idx.filterMap (vs[·]?)) := by
  induction idx with
  | nil => exact .nil
  | cons i r ih =>
    rw [List.filterMap_cons, List.filterMap_cons]
    cases e : ps[i]? with
    | none => rw [List.getElem?_eq_none_iff.mpr (x.length ▸ List.getElem?_eq_none_iff.mp e)]; exact ih
    | some p =>
      obtain ⟨v, hv, hr⟩ := x.get e
      rw [hv]
      exact .cons hr ih
noncomputable def XO (prog : Program) (w : World) (hb : Heap) (sc : Scope) (lv : Nat) (x : Option Expr) (f : List Sl → Option (Option Int)) : Prop :=
  ∀ (env : Env) (A : Around) (E : Value → Shared → Prop) (s : Shared) (U : Addr → Prop) (σ : List Sl) (val : Nat → Option Value) (p : Option Int),
    EnvOk sc env → Room lv A → SR hb env U σ val s → f σ = some p → wpAny (model prog w) A (evalPart x env) (fun v s' => Ext s s' ∧ IsPart v p) E s
theorem XO.to {x : Option Expr} {f : List Sl → Option (Option Int)} {env : Env} {A : Around} {E : Value → Shared → Prop} {s : Shared} {U : Addr → Prop} {σ : List Sl} {val : Nat → Option Value} {p : Option Int} {Q : Value → Shared → Prop} (h : XO prog w hb sc lv x f)
    (he : EnvOk sc env) (hr : Room lv A) (hs : SR hb env U σ val s) (hf : f σ = some p) (k : ∀ v s', Ext s s' → IsPart v p → SR hb env U σ val s' → Q v s') : wpAny (model prog w) A (evalPart x env) Q E s :=
  wpAny_mono (h env A E s U σ val p he hr hs hf) (fun v s' q => k v s' q.1 q.2 (hs.ext q.1)) fun _ _ x => x
theorem XO.none : XO prog w hb sc lv none (fun Z => some none) :=
  fun _ _ _ _ _ _ _ _ he hr hs hf => Option.some.inj hf ▸ wpAny_pure ⟨Chg.refl _, .none⟩
noncomputable def partP : PV → Option (Option Int) := PV.on (some none) nO (fun i => some (some i)) nO nO nO nO nO
theorem XO.some {e : Expr} {f : List Sl → Option PV} (h : XE prog w hb sc lv e f) : XO prog w hb sc lv (some e) (fun σ => (f σ).bind partP) :=
  fun _ _ _ _ _ _ _ p he hr hs hf => bindE hf fun _ ha hf => h.to he hr hs ha fun _ _ x r _ => ⟨x, PV.on_rv (G := fun v => IsPart v p) hf r (fun h => Option.some.inj h ▸ .none) (fun _ => nn) (fun _ t h => Option.some.inj h ▸ .int _ t) (fun _ _ => nn) (fun _ _ => nn) (fun _ => nn) (fun _ _ _ _ _ _ _ => nn) fun _ _ _ _ _ _ _ => nn⟩
theorem isPart_val {v : Value} {p : Option Int} (h : IsPart v p) : ∃ q : Option (Int × Tok), v = partValue q ∧ q.map (·.1) = p := match h with
  | .none => ⟨.none, rfl, rfl⟩
  | .int i t => ⟨.some (i, t), rfl, rfl⟩
section
variable {A : Around} {E : Value → Shared → Prop} {s : Shared} {V : Addr → Prop} {value slice : Expr} {ops : List Value} {b c st : Option Int} {vl vu vst : Value} {i : Addr}
theorem list_slice {l : List PV} {a : Addr} {vs : List Value} {n : Nat} (hV : ∀ a, V a → Has s.heap a) (hl : l.length ≤ LIM) (hg : s.heap.get? a = some (lstObj vs n)) (hr : RVs s.heap V l vs) (hsl : s.heap.IsSliceOf i vl vu vst)
    (hb' : IsPart vl b) (hc : IsPart vu c) (hd : IsPart vst st) (h0 : st ≠ some 0) (hs : subscripted slice false (.ref a) (.ref i) = operate ops (getItem (.ref a) (.ref i))) :
    wpAny (model prog w) A (subscriptTail value slice (.ref a) (.ref i)) (Got s V (.lst (sliceL l b c st))) E s := by
  refine tail_any (isList_of hg).typeIs slot_list_getitem.lookup (wpAny_getItem_list_slice (isList_of hg) hsl hb' hc hd h0 ?_ ?_) hs
  · rw [show slicePick vs.toArray b c st = (sliceL vs b c st).toArray by unfold slicePick sliceL; simp]
    exact rv_new_list hV (by unfold sliceL; rw [hr.length]; exact hr.pick _)
  · rw [LIM_eq, List.size_toArray, hr.length]; exact hl
theorem slc_ok {p r : PV} {v : Value} (h : sliceP p b c = some r) (hp : RV s.heap V p v) (hV : ∀ a, V a → Has s.heap a) (hsl : s.heap.IsSliceOf i vl vu .none) (hb' : IsPart vl b) (hc : IsPart vu c)
    (h1 : ∀ x t, subscripted slice false (.str x t) (.ref i) = operate [.ref i, .str x t] (getItem (.str x t) (.ref i))) (h2 : ∀ a, subscripted slice false (.ref a) (.ref i) = operate [.ref i, .ref a] (getItem (.ref a) (.ref i))) :
    wpAny (model prog w) A (subscriptTail value slice v (.ref i)) (Got s V r) E s := by
  refine PV.on_rv (G := fun v => wpAny (model prog w) A (subscriptTail value slice v (.ref i)) (Got s V r) E s) h hp nn (fun _ => nn) (fun _ _ => nn) (fun l t h => ite_inv h fun hl h => h ▸ ?_) (fun _ _ => nn) (fun _ => nn) (fun _ _ _ _ _ _ _ => nn)
    fun l a vs n _ hg hr h => ite_inv h fun hl h => h ▸ list_slice hV hl hg hr hsl hb' hc .none nofun (h2 _)
  obtain ⟨ql, rfl, el⟩ := isPart_val hb'
  obtain ⟨qu, rfl, eu⟩ := isPart_val hc
  refine tail_any (typeIs_str _ _ _) slot_str_getitem.lookup (wpAny_getItem_str_slice (l := ql) (u := qu) (st := none) hsl rfl (post_val_or_str ?_)) (h1 _ _)
  rw [show (if (((none : Option (Int × Tok)).map (·.1)).getD 1 == 1 && (slicePicked (S l) ql qu none).length == (S l).length) = true then S l else ⟨((slicePicked (S l) ql qu none).filterMap ((S l).cps[·]?)).toArray⟩) = Txt.slice (S l) b c by
    unfold slicePicked Txt.slice; rw [el, eu]; rfl]
  exact ⟨Nat.le_trans (Txt.slice_le _ _ _) (by rw [S_len, LIM_eq]; exact hl), fun t' k => ⟨ext_toks, .s⟩⟩
end
theorem XE.slc {value : Expr} {lo hi : Option Expr} {p' pos : Pos} {f : List Sl → Option PV} {g₁ g₂ : List Sl → Option (Option Int)} (h : XE prog w hb sc lv value f) (h₁ : XO prog w hb sc lv lo g₁) (h₂ : XO prog w hb sc lv hi g₂) :
    XE prog w hb sc lv (.Subscript value (.Slice lo hi .none p') pos) (fun σ => (f σ).bind fun a => (g₁ σ).bind fun b => (g₂ σ).bind fun c => sliceP a b c) := by
  intro env A E s U σ val p he hr hs hf
  refine bindE hf fun a ha hf => bindE hf fun b hb' hf => bindE hf fun c hc hf => ?_
  refine Subscript_ (h.to he hr hs ha fun v _ x₁ r₁ hs₁ => wpAny_Slice (h₁.to he hr hs₁ hb' fun _ _ x₂ r₂ hs₂ => h₂.to he hr hs₂ hc fun _ s₃ x₃ r₃ hs₃ => wpAny_pure ?_))
  exact got_to ((x₁.trans (x₂.trans x₃)).trans ext_push') (slc_ok hf ((r₁.ext (x₂.trans x₃)).ext ext_push') (fun _ ha => (hs₃.ext ext_push').av_has ha) (Heap.IsSliceOf.new _ _ _ _) r₂ r₃ (fun _ _ => rfl) fun _ => rfl)
noncomputable def stepP (a : PV) (b c : Option Int) (d : PV) : Option PV := d.oi fun k => a.ol fun l => if l.length ≤ LIM ∧ k ≠ 0 then some (.lst (sliceL l b c (some k))) else none
/-- l[lo::st] of a list -/
theorem XE.slcStep {value st : Expr} {lo hi : Option Expr} {p' pos : Pos} {f g₃ : List Sl → Option PV} {g₁ g₂ : List Sl → Option (Option Int)} (h : XE prog w hb sc lv value f) (h₁ : XO prog w hb sc lv lo g₁) (h₂ : XO prog w hb sc lv hi g₂) (h₃ : XE prog w hb sc lv st g₃) :
    XE prog w hb sc lv (.Subscript value (.Slice lo hi (.some st) p') pos) (fun σ => (f σ).bind fun a => (g₁ σ).bind fun b => (g₂ σ).bind fun c => (g₃ σ).bind fun d => stepP a b c d) := by
  intro env A E s U σ val p he hr hs hf
  refine bindE hf fun a ha hf => bindE hf fun b hb' hf => bindE hf fun c hc hf => bindE hf fun d hd hf => ?_
  refine Subscript_ (h.to he hr hs ha fun v _ x₁ r₁ hs₁ => wpAny_Slice (h₁.to he hr hs₁ hb' fun vl _ x₂ r₂ hs₂ => h₂.to he hr hs₂ hc fun vu _ x₃ r₃ hs₃ => h₃.to he hr hs₃ hd fun vd s₄ x₄ r₄ hs₄ => ?_))
  refine got_to ((x₁.trans (x₂.trans (x₃.trans x₄))).trans ext_push') ?_
  have hv := (r₁.ext (x₂.trans (x₃.trans x₄))).ext (ext_push' (o := { cls := .type "slice", data := .fields #[vl, vu, vd] }))
  have hsl : ({ s₄ with heap := s₄.heap.push { cls := .type "slice", data := .fields #[vl, vu, vd] } } : Shared).heap.IsSliceOf s₄.heap.objs.size vl vu vd := Heap.IsSliceOf.new _ _ _ _
  have hV := fun a => (hs₄.ext (ext_push' (o := { cls := .type "slice", data := .fields #[vl, vu, vd] }))).av_has (a := a)
  generalize ({ s₄ with heap := s₄.heap.push { cls := .type "slice", data := .fields #[vl, vu, vd] } } : Shared) = s₅ at hv hsl hV ⊢
  refine oi_rv (G := fun vd => s₅.heap.IsSliceOf s₄.heap.objs.size vl vu vd → wpAny (model prog w) A (subscriptTail value _ v (.ref s₄.heap.objs.size)) (Got s₅ (Av U σ val) p) E s₅) hf r₄ (fun k t hf hsl => ?_) hsl
  exact ol_rv (G := fun v => wpAny (model prog w) A (subscriptTail value _ v (.ref s₄.heap.objs.size)) (Got s₅ (Av U σ val) p) E s₅) hf hv fun l a vs n _ hg hr' hf => ite_inv hf fun hl hf => hf ▸ list_slice (ops := [.ref a, .ref s₄.heap.objs.size]) hV hl.1 hg hr' hsl r₂ r₃ (.int k t) (fun e => hl.2 (Option.some.inj e)) rfl
end
section
variable {prog : Program} {w : World} {hb : Heap} {sc : Scope} {lv : Nat}
/-- what a call of f does: a pure value -/
noncomputable def CB (prog : Program) (w : World) (hb : Heap) (lv : Nat) (f : Value) (pf : List PV → Option PV) : Prop :=
  ∀ (A : Around) (E : Value → Shared → Prop) (s : Shared) (V : Addr → Prop) (vs : List Value) (ps : List PV) (r : PV),
    Room lv A → (∀ a, V a → Has s.heap a ∧ hb.get? a = none) → hb.NoLimit → (∀ b o, hb.get? b = some o → s.heap.get? b = some o) → RVs s.heap V ps vs → pf ps = some r →
    wpAny (model prog w) A (PySem.call f vs) (fun v s' => Ext s s' ∧ RV s'.heap V r v) E s
/-- a thing whose call goes by callWith plainly -/
inductive Callee (hb : Heap) : Value → Prop where
  | builtin (id : String) : Callee hb (.builtin id)
  | type (T : String) : Callee hb (.type T)
  | func {a : Addr} {o : Obj} {fd : FuncData} (h : hb.get? a = some o) (hd : o.data = .func fd) : Callee hb (.ref a)
theorem callWith_c {A : Around} {E : Value → Shared → Prop} {s : Shared} {pos : Pos} {f : Value} {first : List Value} {args : List (Bool × Sem Value)} {Q : Value → Shared → Prop} (hc : Callee hb f) (hplain : args.any (·.1) = false)
    (h : wpAny (model prog w) A (evalArgs f true args []) (fun a s₁ => (∀ b o, hb.get? b = some o → s₁.heap.get? b = some o) ∧ wpAny (model prog w) A (PySem.call f (first ++ a.pos) a.kw) Q E s₁) E s) :
    wpAny (model prog w) A (callWith pos f first args []) Q E s := by
  cases hc with
  | builtin id => exact Calls.callWith_builtin hplain (wpAny_mono h (fun Z Z q => q.2) fun Z Z x => x)
  | type T => exact PySem.callWith_type hplain (wpAny_mono h (fun Z Z q => q.2) fun Z Z x => x)
  | func ho hd => exact Calls.callWith_function (wpAny_mono h (fun Z Z q => ⟨⟨q.1 _ _ ho, hd⟩, q.2⟩) fun Z Z x => x)
theorem XE.call {x : Str} {xp pos : Pos} {e : Expr} {es : List Expr} {fv : Value} {g : List Sl → Option (List PV)} {pf : List PV → Option PV} {lv' : Nat}
    (hn : sc.names.lookup x = some .globalImplicit) (hg : GlobIs hb x fv) (hc : Callee hb fv) (hf : CB prog w hb lv' fv pf) (ha : XEs prog w hb sc lv (e :: es) g) (hlv : lv' ≤ lv)
    (hd : (x == ("__debug__" : Str)) = false) (hplain : ∀ env, (backTo pos (starEach (e :: es) env)).any (·.1) = false)
    (hst : ∀ env, backTo pos (starEach (e :: es) env) = (false, eval e env) :: backTo pos (starEach es env)) :
    XE prog w hb sc lv (.Call (.Name x xp) (e :: es) [] pos) (fun σ => (g σ).bind pf) := by
  intro env A E s U σ val p he hr hs hf'
  refine bindE hf' fun ps hps hp => wpAny_Call_Name_kw (wpAny_Name (loadName_glob he hn hg hs.base (callWith_c hc (hplain env) ?_)) hd)
  rw [hst env]
  exact Calls.evalArgs_plain (hst env ▸ ha.to (pos := pos) he hr hs hps fun vs s₁ x r hs₁ => ⟨hs₁.base, got_to x (hf A E s₁ (Av U σ val) vs ps p (hr.le hlv) (fun a ha => ⟨hs₁.av_has ha, ha.elim (fun h => (hs₁.uex a h).2) fun h => hs₁.hbn a (.inr (.inr h))⟩) hs₁.nl hs₁.base r hp)⟩)
theorem rvs1 {h : Heap} {V : Addr → Prop} {p : PV} {vs : List Value} (x : RVs h V [p] vs) : ∃ v, vs = [v] ∧ RV h V p v := x.c fun v r h e => (show r = [] from e) ▸ ⟨v, rfl, h⟩
theorem rvs2 {h : Heap} {V : Addr → Prop} {p q : PV} {vs : List Value} (x : RVs h V [p, q] vs) : ∃ v u, vs = [v, u] ∧ RV h V p v ∧ RV h V q u := x.c fun v r h y => let ⟨u, e, h'⟩ := rvs1 y; ⟨v, u, e ▸ rfl, h, h'⟩
/-- by the number of arguments -/
noncomputable def onL {α : Type} (f : PV → Option α) (g : PV → PV → Option α) (ps : List PV) : Option α := match ps with
  | [] => none
  | p :: r => (match r with
    | [] => f p
    | q :: t => (match t with
      | [] => g p q
      | _ :: _ => none))
noncomputable abbrev nO2 {α : Type} : PV → PV → Option α := fun _ _ => none
@[elab_as_elim] theorem onL_rv {α : Type} {f : PV → Option α} {g : PV → PV → Option α} {ps : List PV} {r : α} {H : Heap} {V : Addr → Prop} {vs : List Value} {G : List Value → Prop} (h : onL f g ps = some r) (hp : RVs H V ps vs)
    (k1 : ∀ p v, f p = some r → RV H V p v → G [v]) (k2 : ∀ p q v u, g p q = some r → RV H V p v → RV H V q u → G [v, u]) : G vs :=
  match ps, h, hp with
  | [p], h, hp => let ⟨v, e, h1⟩ := rvs1 hp; e ▸ k1 p v h h1
  | [p, q], h, hp => let ⟨v, u, e, h1, h2⟩ := rvs2 hp; e ▸ k2 p q v u h h1 h2
theorem CB.of {f : Value} {g : PV → Option PV} {g' : PV → PV → Option PV} (k : ∀ (A : Around) (E : Value → Shared → Prop) (s : Shared) (V : Addr → Prop) (p : PV) (v : Value) (r : PV), A.handled = none → (∀ a, V a → Has s.heap a) → g p = some r → RV s.heap V p v → wpAny (model prog w) A (PySem.call f [v]) (Got s V r) E s)
    (k' : ∀ (A : Around) (E : Value → Shared → Prop) (s : Shared) (V : Addr → Prop) (p q : PV) (v u : Value) (r : PV), A.handled = none → (∀ a, V a → Has s.heap a) → g' p q = some r → RV s.heap V p v → RV s.heap V q u → wpAny (model prog w) A (PySem.call f [v, u]) (Got s V r) E s) : CB prog w hb 0 f (onL g g') :=
  fun A E s V _ _ r hr hV _ _ hrv hp => onL_rv (G := fun vs => wpAny (model prog w) A (PySem.call f vs) (Got s V r) E s) hp hrv (fun p v => k A E s V p v r hr.1 fun a h => (hV a h).1) fun p q v u => k' A E s V p q v u r hr.1 fun a h => (hV a h).1
noncomputable def lenN {α : Type} (l : List α) : Option PV := if l.length ≤ LIM then some (.int l.length) else none
noncomputable def lenP : List PV → Option PV := onL (PV.on none nO nO lenN lenN nO nO lenN) nO2
theorem LIM_63 {n : Nat} (h : n ≤ LIM) : (n : Int) < 2 ^ 63 := Int.lt_of_le_of_lt (Int.ofNat_le.mpr h) (by decide)
theorem CB.len : CB prog w hb 0 (.builtin "len") lenP := .of (fun A E s V p v r hr _ hp h => by
  refine PV.on_rv (G := fun v => wpAny (model prog w) A (PySem.call (.builtin "len") [v]) (Got s V r) E s) hp h nn (fun _ => nn) (fun _ _ => nn) (fun l t h => ite_inv h fun hl h => h ▸ ?_) (fun l t h => ite_inv h fun hl h => h ▸ ?_) (fun _ => nn) (fun _ _ _ _ _ _ _ => nn) fun l a us n _ hg hr' h => ite_inv h fun hl h => h ▸ ?_
  · exact len_str (Int.not_le.mpr (LIM_63 hl)) ⟨ext_toks, .i⟩
  · exact len_bytes (Nat.le_trans hl (by decide)) ⟨ext_toks, .i⟩
  · rw [← hr'.length] at hl ⊢
    exact Calls.call_len_list (isList_of hg) (LIM_63 hl) ⟨ext_toks, .i⟩) fun _ _ _ _ _ _ _ _ _ _ _ => nn
noncomputable def chrP : List PV → Option PV := onL (PV.oi fun i => if 0 ≤ i ∧ i ≤ 1114111 then some (.str [i.toNat]) else none) nO2
theorem CB.chr : CB prog w hb 0 (.builtin "chr") chrP := .of (fun A E s V p v r hr _ hp h => oi_rv (G := fun v => wpAny (model prog w) A (PySem.call (.builtin "chr") [v]) (Got s V r) E s) hp h fun i t h => ite_inv h fun hi h => h ▸ chr_of_range hi.1 hi.2 ⟨ext_toks, .s⟩) fun _ _ _ _ _ _ _ _ _ _ _ => nn
noncomputable def intsOf : List PV → Option (List Int)
  | [] => some []
  | p :: r => p.oi fun i => (intsOf r).map (i :: ·)
theorem intsOf_Ints {h : Heap} {V : Addr → Prop} {ps : List PV} : ∀ {ns : List Int} {vs : List Value}, intsOf ps = some ns → RVs h V ps vs → IntsAre vs ns := by
  induction ps with
  | nil => exact fun e hr => (show _ = [] from hr) ▸ Option.some.inj e ▸ .nil
  | cons p ps ih => exact fun {ns vs} e hr => hr.c fun v r h1 h2 => oi_rv (f := fun i => (intsOf ps).map (i :: ·)) (G := fun v => IntsAre (v :: r) ns) e h1 fun i t e =>
      let ⟨ms, hm, e⟩ := Option.map_eq_some_iff.mp e
      e ▸ IntsAre.cons i t (ih hm h2)
theorem ints_items {vs : List Value} {ns : List Int} (h : IntsAre vs ns) : ∃ xs : Array (Int × Tok), vs.toArray = intItems xs ∧ xs.toList.map (·.1) = ns := by
  suffices q : ∃ l : List (Int × Tok), vs = l.map (fun p => Value.int p.1 p.2) ∧ l.map (·.1) = ns from let ⟨l, e, e'⟩ := q; ⟨l.toArray, by rw [e, intItems, List.map_toArray], e'⟩
  induction h with
  | nil => exact ⟨[], rfl, rfl⟩
  | cons n t _ ih => obtain ⟨l, rfl, rfl⟩ := ih; exact ⟨(n, t) :: l, rfl, rfl⟩
theorem intsOf_are {h : Heap} {V : Addr → Prop} {ps : List PV} {ns : List Int} {vs : List Value} (e : intsOf ps = some ns) (hr : RVs h V ps vs) : ∃ xs : Array (Int × Tok), vs.toArray = intItems xs ∧ xs.toList.map (·.1) = ns := ints_items (intsOf_Ints e hr)
noncomputable def sumP : List PV → Option PV := onL (PV.ol fun l => (intsOf l).map fun ns => .int ns.sum) nO2
theorem CB.sum : CB prog w hb 0 (.builtin "sum") sumP := .of (fun A E s V p v r hr _ hp h => ol_rv (G := fun v => wpAny (model prog w) A (PySem.call (.builtin "sum") [v]) (Got s V r) E s) hp h fun l a us n _ hg hr' h => by
  obtain ⟨ns, hns, rfl⟩ := Option.map_eq_some_iff.mp h
  obtain ⟨xs, hx, rfl⟩ := intsOf_are hns hr'
  refine sum_intListG hr (hx ▸ isList_of hg) fun h' tk t' hk => ⟨ext_of_keep hk, ?_⟩
  rw [preSum_eq, List.take_of_length_le (by rw [List.length_map]; exact Nat.le_refl _)]
  exact .i) fun _ _ _ _ _ _ _ _ _ _ _ => nn
noncomputable def maxL : List Int → Int
  | [] => 0
  | a :: r => (match r with
    | [] => a
    | _ :: _ => max a (maxL r))
theorem maxL_all {ns : List Int} : ns ≠ [] → maxL ns ∈ ns ∧ ∀ a ∈ ns, a ≤ maxL ns := by
  induction ns with
  | nil => exact fun h => absurd rfl h
  | cons a r ih =>
    intro _
    cases r with
    | nil => exact ⟨List.mem_cons_self .., fun b hb => Int.le_of_eq (List.mem_singleton.mp hb)⟩
    | cons b r =>
      have ⟨h1, h2⟩ := ih nofun
      show max a (maxL (b :: r)) ∈ _ ∧ ∀ c ∈ _, c ≤ max a (maxL (b :: r))
      refine ⟨?_, fun c hc => (List.mem_cons.mp hc).elim (fun e => by lia) fun h => by have := h2 c h; lia⟩
      by_cases q : a ≤ maxL (b :: r)
      · rw [Int.max_eq_right q]; exact List.mem_cons_of_mem _ h1
      · rw [Int.max_eq_left (by lia)]; exact List.mem_cons_self ..
theorem maxL_of {M : Int} {ns : List Int} (h : M ∈ ns) (hle : ∀ a, a ∈ ns → a ≤ M) : maxL ns = M :=
  have q := maxL_all (List.ne_nil_of_mem h)
  Int.le_antisymm (hle _ q.1) (q.2 _ h)
noncomputable def maxP : List PV → Option PV := onL (PV.ol fun l => (intsOf l).bind fun ns => if ns = [] then none else some (.int (maxL ns))) (intsP fun a b => some (.int (if b > a then b else a)))
theorem CB.max : CB prog w hb 0 (.builtin "max") maxP := .of (fun A E s V p v r hr _ hp h => ol_rv (G := fun v => wpAny (model prog w) A (PySem.call (.builtin "max") [v]) (Got s V r) E s) hp h fun l a us n _ hg hr' h => bindE h fun ns hns h => ite_inv' h fun hne h => by
    obtain ⟨xs, hx, rfl⟩ := intsOf_are hns hr'
    have hsz : 0 < xs.size := Nat.pos_of_ne_zero fun e => hne (by rw [Array.eq_empty_of_size_eq_zero e]; rfl)
    refine max_intList hr (hx ▸ isList_of hg) hsz fun v h' tk hv hk => ⟨ext_of_keep hk, ?_⟩
    obtain ⟨t, rfl⟩ := intItems_at hv
    have ⟨h1, h2⟩ := argBest_gt (numAt xs) (xs.size - 1)
    rw [← h, maxL_of (M := numAt xs (argBest (fun i j => decide (numAt xs i > numAt xs j)) (xs.size - 1)))]
    · exact .i
    · rw [numAt_eq xs (argBest _ _)]; exact getD_mem (by rw [List.length_map, Array.length_toList]; lia)
    · intro a ha
      obtain ⟨j, hj, rfl⟩ := mem_getD ha
      rw [List.length_map, Array.length_toList] at hj
      rw [← numAt_eq]; exact h2 j (by lia))
  fun A E s V p q v u r hr _ hp h h' => ints_rv (G := fun v u => wpAny (model prog w) A (PySem.call (.builtin "max") [v, u]) (Got s V r) E s) hp h h' fun a b t t' e => Option.some.inj e ▸ max_two_ints hr fun h' tk hk => ⟨ext_of_keep hk, by split <;> exact .i⟩
noncomputable def bytesP : List PV → Option PV := onL (PV.ol fun l => (intsOf l).bind fun ns => if (∀ n ∈ ns, 0 ≤ n ∧ n < 256) ∧ ns.length ≤ LIM then some (.byt (ns.map fun n => n.toNat.toUInt8)) else none) nO2
theorem CB.bytes : CB prog w hb 0 (.type "bytes") bytesP := .of (fun A E s V p v r hr _ hp h => ol_rv (G := fun v => wpAny (model prog w) A (PySem.call (.type "bytes") [v]) (Got s V r) E s) hp h fun l a us n _ hg hr' h => bindE h fun ns hns h => ite_inv h fun hc h => h ▸
  have hi := intsOf_Ints hns hr'
  call_bytes_ints (isList_of hg) hi hc.1 (by rw [hi.length, LIM_eq]; exact hc.2) hr fun h' t k hk => ⟨ext_of_keep hk, .y⟩) fun _ _ _ _ _ _ _ _ _ _ _ => nn
noncomputable def typeP : List PV → Option PV := onL (PV.on none (fun _ => some (.ty "bool")) nO (fun _ => some (.ty "str")) (fun _ => some (.ty "bytes")) nO nO nO) nO2
theorem CB.type : CB prog w hb 0 (.type "type") typeP := .of (fun A E s V p v r hr _ hp h => PV.on_rv (G := fun v => wpAny (model prog w) A (PySem.call (.type "type") [v]) (Got s V r) E s) hp h nn (fun _ h => Option.some.inj h ▸ call_type_of (Tx := "bool") rfl (by decide) ⟨Chg.refl _, rfl⟩) (fun _ _ => nn)
  (fun _ _ h => Option.some.inj h ▸ call_type_of (typeIs_str _ _ _) (by decide) ⟨Chg.refl _, rfl⟩) (fun _ _ h => Option.some.inj h ▸ call_type_of (typeIs_bytes _ _ _) (by decide) ⟨Chg.refl _, rfl⟩) (fun _ => nn) (fun _ _ _ _ _ _ _ => nn) fun _ _ _ _ _ _ _ => nn) fun _ _ _ _ _ _ _ _ _ _ _ => nn
end
section
variable {prog : Program} {w : World} {hb : Heap} {sc : Scope} {lv : Nat}
noncomputable def tyOf : PV → Option String := PV.on none nO nO (fun _ => some "str") nO nO nO fun _ => some "list"
theorem tyOf_ok {s : Shared} {V : Addr → Prop} {p : PV} {v : Value} {T : String} (h : tyOf p = some T) (hp : RV s.heap V p v) : s.TypeIs v T ∧ ∀ a, v = .ref a → ∃ ob, s.heap.get? a = some ob ∧ ob.dict = none :=
  PV.on_rv (G := fun v => s.TypeIs v T ∧ ∀ a, v = .ref a → ∃ ob, s.heap.get? a = some ob ∧ ob.dict = none) h hp nn (fun _ => nn) (fun _ _ => nn) (fun _ _ h => Option.some.inj h ▸ ⟨typeIs_str _ _ _, nofun⟩) (fun _ _ => nn) (fun _ => nn) (fun _ _ _ _ _ _ _ => nn)
    fun _ _ _ _ _ hg _ h => Option.some.inj h ▸ ⟨(isList_of hg).typeIs, fun b e => ⟨_, Value.ref.inj e ▸ hg, rfl⟩⟩
theorem XE.meth {o e : Expr} {es : List Expr} {name : Str} {apos pos : Pos} {T id : String} {f : List Sl → Option PV} {g : List Sl → Option (List PV)} {pf : List PV → Option PV} {lv' : Nat}
    (ho : XE prog w hb sc lv o f) (ha : XEs prog w hb sc lv (e :: es) g) (pa : PlainAttrs T) (slot : Slot T name id) (hty : typeOf (.builtin id) = pure (.type "method_descriptor")) (hf : CB prog w hb lv' (.builtin id) pf)
    (hlv : lv' ≤ lv) (hbase : ∀ env, attributeBase o name env (eval o env) = eval o env)
    (hfew : ∀ env, ((backTo pos (starEach (e :: es) env)).all (fun x => !x.1) && (backToKw pos (keywordEach [] env)).all (fun x => x.1.isSome) && decide ((e :: es).length + ([] : List Keyword).length + (if ([] : List Keyword).isEmpty then 0 else 1) < 30)) = true)
    (hline : (apos.endLine == pos.line) = true) (hplain : ∀ env, (backTo pos (starEach (e :: es) env)).any (·.1) = false)
    (hst : ∀ env, backTo pos (starEach (e :: es) env) = (false, eval e env) :: backTo pos (starEach es env)) :
    XE prog w hb sc lv (.Call (.Attribute o name apos) (e :: es) [] pos) (fun σ => (f σ).bind fun a => if tyOf a = some T then (g σ).bind fun as => pf (a :: as) else none) := by
  intro env A E s U σ val p he hr hs hf'
  refine bindE hf' fun a ha' hf' => ite_o hf' fun hT hf' => bindE hf' fun ps hps hp => wpAny_Call_method (hbase env) (hfew env) hline pa slot hty (ho.to he hr hs ha' fun v s₁ x₁ r₁ hs₁ => ?_)
  obtain ⟨t1, t2⟩ := tyOf_ok hT r₁
  refine ⟨t1, t2, callWith_c (hb := hb) (.builtin id) (hplain env) ?_⟩
  rw [hst env]
  exact Calls.evalArgs_plain (hst env ▸ ha.to (pos := pos) he hr hs₁ hps fun vs s₂ x₂ r₂ hs₂ => ⟨hs₂.base, got_to (x₁.trans x₂) (hf A E s₂ (Av U σ val) (v :: vs) (a :: ps) p (hr.le hlv) (fun b hb => ⟨hs₂.av_has hb, hb.elim (fun h => (hs₂.uex b h).2) fun h => hs₂.hbn b (.inr (.inr h))⟩)
    hs₂.nl hs₂.base (RVs.cons (r₁.ext x₂) r₂) hp)⟩)
noncomputable def strsOf : List PV → Option (List (List Nat))
  | [] => some []
  | p :: r => p.os fun l => (strsOf r).map (l :: ·)
theorem strsOf_are {h : Heap} {V : Addr → Prop} {ps : List PV} : ∀ {ns : List (List Nat)} {vs : List Value}, strsOf ps = some ns → RVs h V ps vs → StrsAre vs (ns.map S) := by
  induction ps with
  | nil => exact fun e hr => (show _ = [] from hr) ▸ Option.some.inj e ▸ .nil
  | cons p ps ih => exact fun {ns vs} e hr => hr.c fun v r h1 h2 => os_rv (f := fun l => (strsOf ps).map (l :: ·)) (G := fun v => StrsAre (v :: r) (ns.map S)) e h1 fun l t e =>
      let ⟨ms, hm, e⟩ := Option.map_eq_some_iff.mp e
      e ▸ StrsAre.cons (S l) t (ih hm h2)
noncomputable def joinL (x : List Nat) : List (List Nat) → List Nat
  | [] => []
  | y :: r => (match r with
    | [] => y
    | _ :: _ => y ++ x ++ joinL x r)
theorem foldl_join (x : List Nat) (r : List (List Nat)) : ∀ (acc : List Nat), ((r.map S).foldl (fun acc p => acc ++ (S x).cps ++ p.cps) acc.toArray) = (acc ++ (r.map fun y => x ++ y).flatten).toArray := by
  induction r with
  | nil => exact fun acc => congrArg List.toArray (List.append_nil acc).symm
  | cons y r ih =>
    intro acc
    rw [List.map_cons, List.foldl_cons, show acc.toArray ++ (S x).cps ++ (S y).cps = (acc ++ x ++ y).toArray by rw [List.append_toArray, List.append_toArray], ih, List.map_cons, List.flatten_cons, ← List.append_assoc, ← List.append_assoc]
theorem joinL_flat (x : List Nat) (r : List (List Nat)) : ∀ (y : List Nat), joinL x (y :: r) = y ++ (r.map fun y => x ++ y).flatten := by
  induction r with
  | nil => exact fun y => (List.append_nil y).symm
  | cons z r ih => exact fun y => (congrArg (y ++ x ++ ·) (ih z)).trans (by rw [List.map_cons, List.flatten_cons, List.append_assoc, List.append_assoc])
theorem join_S (x : List Nat) (ys : List (List Nat)) : Txt.join (S x) (ys.map S) = S (joinL x ys) := match ys with
  | [] => rfl
  | y :: r => congrArg Str.mk ((foldl_join x r y).trans (congrArg List.toArray (joinL_flat x r y).symm))
noncomputable def joinP : List PV → Option PV := onL nO fun a b => a.os fun x => b.ol fun l => (strsOf l).bind fun ys => if (ys.map (·.length)).sum + ys.length * x.length ≤ 16777216 then some (.str (joinL x ys)) else none
theorem CB.join : CB prog w hb 0 (.builtin "str.join") joinP := .of (fun _ _ _ _ _ _ _ _ _ => nn) fun A E s V p q v u r hr _ hp h h' => os_rv (G := fun v => wpAny (model prog w) A (PySem.call (.builtin "str.join") [v, u]) (Got s V r) E s) hp h fun x t hp =>
  ol_rv (G := fun u => wpAny (model prog w) A (PySem.call (.builtin "str.join") [.str (S x) t, u]) (Got s V r) E s) hp h' fun l a us n _ hg hr' hp => bindE hp fun ys hys hp => ite_inv hp fun hc hp => hp ▸ by
    refine join_list (isList_of hg) (strsOf_are hys hr') ?_ fun t' k => ⟨ext_toks, join_S x ys ▸ .s⟩
    rw [List.map_map, List.length_map, S_len, show (ys.map ((fun x => x.length) ∘ S)) = ys.map (·.length) from List.map_congr_left fun y _ => S_len y]
    exact hc
noncomputable def splitK (x : List Nat) (b c : PV) : Option PV := b.os fun y => c.oi fun k => if y ≠ [] ∧ 0 ≤ k ∧ k ≤ 1000 ∧ x.length ≤ 1000000 then some (.lst ((Txt.splitMax (S x) (S y) k).map fun z => .str z.cps.toList)) else none
noncomputable def splitP (ps : List PV) : Option PV := match ps with
  | [] => none
  | a :: ps => a.os fun x => onL nO (splitK x) ps
theorem rvs_strs {h : Heap} {V : Addr → Prop} (l : List (Str × Tok)) : RVs h V ((l.map (·.1)).map fun z => PV.str z.cps.toList) (strValues l) := by
  induction l with
  | nil => exact .nil
  | cons x r ih => exact .cons .s ih
theorem CB.split : CB prog w hb 0 (.builtin "str.split") splitP := by
  intro A E s V vs ps r hr hV hnl hb' hrv hp
  cases ps with
  | nil => exact nn hp
  | cons p ps =>
  refine hrv.c fun v vs h1 hrv => ?_
  refine os_rv (f := fun x => onL nO (splitK x) ps) (G := fun v => wpAny (model prog w) A (PySem.call (.builtin "str.split") (v :: vs)) (Got s V r) E s) hp h1 fun x t hp => ?_
  refine onL_rv (G := fun vs => wpAny (model prog w) A (PySem.call (.builtin "str.split") (.str (S x) t :: vs)) (Got s V r) E s) hp hrv (fun _ _ => nn) fun b c u z hp h2 h3 => ?_
  refine os_rv (G := fun u => wpAny (model prog w) A (PySem.call (.builtin "str.split") [.str (S x) t, u, z]) (Got s V r) E s) hp h2 fun y t' hp => ?_
  refine oi_rv (G := fun z => wpAny (model prog w) A (PySem.call (.builtin "str.split") [.str (S x) t, .str (S y) t', z]) (Got s V r) E s) hp h3 fun k t'' hp => ite_inv hp fun hc hp => hp ▸ ?_
  have hk : (decide (k < -(2 ^ 63 : Int)) || decide (k ≥ 2 ^ 63)) = false := by rw [decide_eq_false (by lia), decide_eq_false (by lia)]; rfl
  have hy : ((S y).length == 0) = false := by rw [S_len]; exact beq_false_of_ne fun e => hc.1 (List.length_eq_zero_iff.mp e)
  have hx : (S x).length ≤ 1000000 := (S_len x).symm ▸ hc.2.2.2
  have hsz : (S x).length ≤ sizeLine := Nat.le_trans hx (by decide)
  have hn : (Builtin.Str.partsBetween (S x) (Builtin.Str.occurrences (S x) (S y) 0 (S x).length (limitOf (S x) k)) (S y).length).length ≤ sizeLine := by
    have e1 := StrLaws.occ_length_le_len (S x) (S y) 0 (S x).length (limitOf (S x) k)
    rw [length_partsBetween, LIM_eq]
    unfold LIM
    lia
  have fin : ∀ (l : List (Str × Tok)) tk, l.map (·.1) = Txt.splitMax (S x) (S y) k →
      Ext s { s with heap := s.heap.push { cls := .type "list", data := .seq (strValues l).toArray }, toks := tk } ∧
      RV (s.heap.push { cls := .type "list", data := .seq (strValues l).toArray }) V (.lst ((Txt.splitMax (S x) (S y) k).map fun z => .str z.cps.toList)) (.ref s.heap.objs.size) := fun l tk e => e ▸ ⟨ext_push, (rv_new_list (s := s) (fun a ha => (hV a ha).1) (rvs_strs l)).2⟩
  cases h1 : (decide ((S x).length < (S y).length) || decide (Builtin.Str.strKind (S x) < Builtin.Str.strKind (S y)))
  · cases hf : (Builtin.Str.occurrences (S x) (S y) 0 (S x).length (limitOf (S x) k)).isEmpty
    · refine call_meets F.slot_str_split (typeIs_str _ _ _) F.entry_str_split (F.args_str_split_3 _ _ _) (meets_str_split_sep_max (S x) (S y) k t t' t'' hk h1 hy hf hsz hn) ?_
      rw [strsFrom_eq]
      exact fin (numbered s.toks _) _ ((numbered_texts _ _).trans ((if_neg (ne_true_of_eq_false h1)).trans (if_neg (ne_true_of_eq_false hf))).symm)
    · exact call_meets F.slot_str_split (typeIs_str _ _ _) F.entry_str_split (F.args_str_split_3 _ _ _) (meets_str_split_max_not_found (S x) (S y) k t t' t'' hk h1 hy hf)
        (fin [(S x, t)] s.toks ((if_neg (ne_true_of_eq_false h1)).trans (if_pos hf)).symm)
  · exact call_meets F.slot_str_split (typeIs_str _ _ _) F.entry_str_split (F.args_str_split_3 _ _ _) (meets_str_split_max_cannot_occur (S x) (S y) k t t' t'' hk h1) (fin [(S x, t)] s.toks (if_pos h1).symm)
end
noncomputable def upd (val : Nat → Option Value) (i : Nat) (v : Value) : Nat → Option Value := fun j => if j = i then some v else val j
theorem names_inj {l : List (Str × NameKind)} (h : (l.map (·.1)).Nodup) {i j : Nat} {x : Str} {k k' : NameKind} (hi : l[i]? = some (x, k)) (hj : l[j]? = some (x, k')) : i = j := by
  obtain ⟨hi1, hi2⟩ := List.getElem?_eq_some_iff.mp hi
  obtain ⟨hj1, hj2⟩ := List.getElem?_eq_some_iff.mp hj
  have key := List.getElem_inj (h₀ := by simpa using hi1) (h₁ := by simpa using hj1) h
  exact key.mp (by simp [hi2, hj2])
section
variable {prog : Program} {w : World} {hb : Heap} {sc : Scope} {lv : Nat} {env : Env} {U : Addr → Prop} {σ : List Sl} {val : Nat → Option Value} {s : Shared}
theorem set_own_inv {i j : Nat} {sl : Sl} {l : List PV} (hno : ∀ l, sl ≠ .own l) (h : (σ.set i sl)[j]? = some (.own l)) : j ≠ i ∧ σ[j]? = some (.own l) := by
  by_cases e : i = j
  · subst e
    by_cases hi : i < σ.length
    · rw [List.getElem?_set_self hi] at h
      exact absurd (Option.some.inj h) (hno l)
    · rw [List.getElem?_eq_none (by simpa using hi)] at h; cases h
  · rw [List.getElem?_set_ne e] at h
    exact ⟨Ne.symm e, h⟩
theorem owned_setS {i : Nat} {sl : Sl} {v : Value} {a : Addr} (hno : ∀ l, sl ≠ .own l) (h : Owned (σ.set i sl) (upd val i v) a) : Owned σ val a := by
  obtain ⟨j, l, h1, h2⟩ := h
  obtain ⟨n1, g1⟩ := set_own_inv hno h1
  refine ⟨j, l, g1, ?_⟩
  unfold upd at h2
  rwa [if_neg n1] at h2
theorem owned_set {i : Nat} {p : PV} {v : Value} {a : Addr} (h : Owned (σ.set i (.pv p)) (upd val i v) a) : Owned σ val a := owned_setS (sl := .pv p) (fun Z e => nomatch e) h
theorem mut_setS {i : Nat} {sl : Sl} {v : Value} {a : Addr} (hno : ∀ l, sl ≠ .own l) (h : Mut env (σ.set i sl) (upd val i v) a) : Mut env σ val a :=
  h.imp id (Or.imp id (owned_setS hno))
theorem SR.setAt {c0 : Addr} {h' : Heap} {tk i : Nat} {sl : Sl} {v : Value} (hs : SR hb env U σ val s) (hM : Mut env σ val c0) (nseq : ∀ o, s.heap.get? c0 = some o → ¬ IsSeq o) (hsame : ∀ b, b ≠ c0 → h'.get? b = s.heap.get? b) (has : Has h' c0)
    (ns' : ∃ m, h'.Ns env.locals m ∧ ∀ (j : Nat) x, env.scope.names[j]? = some (x, .local) → m x = upd val i v j)
    (cell' : ∀ (j : Nat) x, env.scope.names[j]? = some (x, .cell) → ∃ c, env.cells.lookup x = some c ∧ h'.IsCell c (upd val i v j))
    (cellOk' : ∀ x c, env.cells.lookup x = some c → ∃ v, h'.IsCell c v)
    (hno : ∀ l, sl ≠ .own l) (hv : SlotIs s.heap (Av U σ val) sl (some v)) (hi : i < σ.length) : SR hb env U (σ.set i sl) (upd val i v) { s with heap := h', toks := tk } := by
  have avle : ∀ a, Av U (σ.set i sl) (upd val i v) a → Av U σ val a := fun a h => h.imp id (owned_setS hno)
  have keep : ∀ b o, ¬ Av U σ val b → IsSeq o → s.heap.get? b = some o → h'.get? b = some o ∧ ¬ Av U (σ.set i sl) (upd val i v) b := fun b o hV hq e => by
    have hne : b ≠ c0 := fun q => nseq o (q ▸ e) hq
    exact ⟨(hsame b hne).trans e, fun q => hV (avle b q)⟩
  refine ⟨hs.nl, fun b o e => ?_, ns', cell', cellOk', fun j => ?_, ?_, fun a h => ⟨?_, (hs.uex a h).2⟩, fun a h => hs.un a (mut_setS hno h), fun a h => hs.hbn a (mut_setS hno h)⟩
  · have hne : b ≠ c0 := fun q => by have := hs.hbn c0 hM; rw [q, this] at e; cases e
    exact (hsame b hne).trans (hs.base b o e)
  · by_cases e : j = i
    · rw [e, getD_self hi]
      exact (show upd val i v i = some v from if_pos rfl) ▸ hv.keep keep fun l _ _ q => (hno l q).elim
    · rw [getD_ne e]
      exact (show upd val i v j = val j from if_neg e) ▸ (hs.slot j).keep keep fun _ a o _ _ hq e => (hsame a fun q => nseq o (q ▸ e) hq).trans e
  · intro j k l l' a h1 h2 h3 h4
    obtain ⟨n1, g1⟩ := set_own_inv hno h1
    obtain ⟨n2, g2⟩ := set_own_inv hno h2
    simp only [upd, n1, n2, if_false] at h3 h4
    exact hs.apart j k l l' a g1 g2 h3 h4
  · obtain ⟨o, e⟩ := (hs.uex a h).1
    by_cases q : a = c0
    · rw [q]; exact has
    · exact ⟨o, (hsame a q).trans e⟩
theorem isCell_nseq {h : Heap} {c : Addr} {v : Option Value} (x : h.IsCell c v) : ∀ o, h.get? c = some o → ¬ IsSeq o := fun o e ⟨xs, n, hd⟩ => by
  obtain ⟨o', e', hd'⟩ := x
  rw [e] at e'; cases e'
  rw [hd] at hd'; cases hd'
theorem ns_nseq {h : Heap} {c : Addr} {m : Str → Option Value} (x : h.Ns c m) : ∀ o, h.get? c = some o → ¬ IsSeq o := fun o e ⟨xs, n, hd⟩ => by
  obtain ⟨o', es, ep, e', hd', Z⟩ := x
  rw [e] at e'; cases e'
  rw [hd] at hd'; cases hd'
theorem cell_ne_ns {h : Heap} {c a : Addr} {v : Option Value} {m : Str → Option Value} (x : h.IsCell c v) (y : h.Ns a m) : c ≠ a := fun q => by
  subst q
  obtain ⟨o, e, hd⟩ := x
  obtain ⟨o', es, ep, e', hd', Z⟩ := y
  rw [e] at e'; cases e'
  rw [hd] at hd'; cases hd'
/-- the store of a local name -/
theorem st_locS {M : Model} {A : Around} {E : Value → Shared → Prop} {Q : Unit → Shared → Prop} {x : Str} {i : Nat} {sl : Sl} {v : Value} (he : EnvOk sc env) (hs : SR hb env U σ val s) (hn : nameAt sc.names x = some (i, .local))
    (hno : ∀ l, sl ≠ .own l) (hv : SlotIs s.heap (Av U σ val) sl (some v)) (hi : i < σ.length)
    (h : ∀ s', SR hb env U (σ.set i sl) (upd val i v) s' → Chg (fun b => b = env.locals) no s s' → Q () s') : wpAny M A (storeName env x v) Q E s := by
  obtain ⟨h1, h2⟩ := nameAt_lookup hn
  obtain ⟨m, hns, hm⟩ := hs.ns
  refine wpAny_storeName_local (by unfold Env.kindOf; rw [he.scope]; exact h1) hns (fun h' hn' hsb => ?_) (by rw [he.scope, he.kind]; rfl)
  have hL : Has h' env.locals := let ⟨o, _, _, e, _⟩ := hn'; ⟨o, e⟩
  refine h _ (hs.setAt (.inl rfl) (ns_nseq hns) (fun b hb' => hsb.2 b hb') hL ⟨_, hn', fun j y hj => ?_⟩ (fun j y hj => ?_) (fun y c hc => ?_) hno hv hi) ⟨fun b o hM e => (hsb.2 b hM).trans e, fun b ⟨o, e⟩ => ?_, fun Z Z Z e => e, Nat.le_refl _, fun h => h, rfl⟩
  · by_cases e : y = x
    · subst e
      have : j = i := by rw [he.scope] at hj; exact names_inj he.nodup hj h2
      subst this
      simp [upd]
    · have : j ≠ i := fun q => by subst q; rw [he.scope] at hj; rw [h2] at hj; cases hj; exact e rfl
      simp only [e, if_false, upd, this]
      exact hm j y hj
  · obtain ⟨c, hc, hi'⟩ := hs.cell j y hj
    have : j ≠ i := fun q => by subst q; rw [he.scope] at hj; rw [h2] at hj; cases hj
    refine ⟨c, hc, ?_⟩
    simp only [upd, this, if_false]
    exact hi'.sameBut hsb (cell_ne_ns hi' hns)
  · obtain ⟨v', hv'⟩ := hs.cellOk y c hc
    exact ⟨v', hv'.sameBut hsb (cell_ne_ns hv' hns)⟩
  · by_cases q : b = env.locals
    · rw [q]; exact hL
    · exact ⟨o, (hsb.2 b q).trans e⟩
theorem st_loc {M : Model} {A : Around} {E : Value → Shared → Prop} {Q : Unit → Shared → Prop} {x : Str} {i : Nat} {p : PV} {v : Value} (he : EnvOk sc env) (hs : SR hb env U σ val s) (hn : nameAt sc.names x = some (i, .local))
    (hv : RV s.heap (Av U σ val) p v) (hi : i < σ.length)
    (h : ∀ s', SR hb env U (σ.set i (.pv p)) (upd val i v) s' → Chg (fun b => b = env.locals) no s s' → Q () s') : wpAny M A (storeName env x v) Q E s :=
  st_locS (sl := .pv p) he hs hn (fun Z e => nomatch e) ⟨v, rfl, hv⟩ hi h
theorem st_cel {M : Model} {A : Around} {E : Value → Shared → Prop} {Q : Unit → Shared → Prop} {x : Str} {i : Nat} {p : PV} {v : Value} (he : EnvOk sc env) (hs : SR hb env U σ val s) (hn : nameAt sc.names x = some (i, .cell))
    (hv : RV s.heap (Av U σ val) p v) (hi : i < σ.length)
    (h : ∀ s', SR hb env U (σ.set i (.pv p)) (upd val i v) s' → Chg (Mut env σ val) no s s' → Q () s') : wpAny M A (storeName env x v) Q E s := by
  obtain ⟨h1, h2⟩ := nameAt_lookup hn
  obtain ⟨m, hns, hm⟩ := hs.ns
  obtain ⟨c, hc, hcv⟩ := hs.cell i x (by rw [he.scope]; exact h2)
  refine wpAny_storeName_cell (by rw [he.scope]; exact he.kind) (by unfold Env.kindOf; rw [he.scope]; exact h1) hc hcv (fun h' hn' hsb => ?_)
  have hL : Has h' c := let ⟨o, e, _⟩ := hn'; ⟨o, e⟩
  have hM : Mut env σ val c := .inr (.inl ⟨x, hc⟩)
  have hcL : c ≠ env.locals := cell_ne_ns hcv hns
  refine h _ (hs.setAt (sl := .pv p) (tk := s.toks) hM (isCell_nseq hcv) (fun b hb' => hsb.2 b hb') hL ⟨m, hns.sameBut hsb (Ne.symm hcL), fun j y hj => ?_⟩ (fun j y hj => ?_) (fun y c' hc' => ?_) (fun Z e => nomatch e) ⟨v, rfl, hv⟩ hi) ⟨fun b o hM' e => (hsb.2 b (fun q => hM' (q ▸ hM))).trans e, fun b ⟨o, e⟩ => ?_, fun Z Z Z e => e, Nat.le_refl _, fun h => h, rfl⟩
  · have : j ≠ i := fun q => by subst q; rw [he.scope] at hj; rw [h2] at hj; cases hj
    simp only [upd, this, if_false]
    exact hm j y hj
  · obtain ⟨c', hc', hi'⟩ := hs.cell j y hj
    by_cases e : j = i
    · subst e
      have : y = x := by rw [he.scope] at hj; rw [h2] at hj; cases hj; rfl
      subst this
      exact ⟨c, hc, by simpa [upd] using hn'⟩
    · refine ⟨c', hc', ?_⟩
      simp only [upd, e, if_false]
      refine hi'.sameBut hsb fun q => ?_
      subst q
      have : y = x := he.apart y x c' hc' hc
      subst this
      rw [he.scope] at hj
      exact e (names_inj he.nodup hj h2)
  · obtain ⟨v', hv'⟩ := hs.cellOk y c' hc'
    by_cases e : c' = c
    · subst e; exact ⟨_, hn'⟩
    · exact ⟨v', hv'.sameBut hsb e⟩
  · by_cases q : b = c
    · rw [q]; exact hL
    · exact ⟨o, (hsb.2 b q).trans e⟩
theorem Chg.locMut {s' : Shared} (x : Chg (fun b => b = env.locals) no s s') : Chg (Mut env σ val) no s s' := x.mono (fun Z h => .inl h) fun Z h => h
noncomputable def setS : Nat → PV → List Sl → Option (List Sl)
  | _, _, [] => none
  | 0, p, _ :: σ => some (.pv p :: σ)
  | i + 1, p, x :: σ => (setS i p σ).map (x :: ·)
theorem setS_eq : ∀ (i : Nat) (p : PV) (σ : List Sl), setS i p σ = if i < σ.length then some (σ.set i (.pv p)) else none
  | 0, p, [] => rfl
  | i + 1, p, [] => rfl
  | 0, p, x :: σ => by rw [if_pos (by simp)]; rfl
  | i + 1, p, x :: σ => by
    show (setS i p σ).map (x :: ·) = _
    rw [setS_eq i p σ]
    by_cases h : i < σ.length
    · rw [if_pos h, if_pos (by simp; exact h)]; rfl
    · rw [if_neg h, if_neg (by simp; omega)]; rfl
theorem setS_rv {i : Nat} {p : PV} {σ' : List Sl} {G : Prop} (h : setS i p σ = some σ') (k : i < σ.length → σ.set i (.pv p) = σ' → G) : G := ite_inv ((setS_eq i p σ).symm.trans h) k
theorem XS.assign {x : Str} {xp pos : Pos} {e : Expr} {i : Nat} {f : List Sl → Option PV} (hn : nameAt sc.names x = some (i, .local)) (h : XE prog w hb sc lv e f)
    (hsw : ∀ env, EnvOk sc env → swapsWith e (some (.Name x xp)) pos.line env = pure false) :
    XS prog w hb sc lv (.Assign [.Name x xp] e pos) (fun σ => (f σ).bind fun p => (setS i p σ).map fun σ' => (.next, σ')) := by
  intro env A E s U σ val fl σ' he hr hs hg
  refine bindE hg fun p hp hg => ?_
  obtain ⟨σ₁, hσ, hg⟩ := Option.map_eq_some_iff.mp hg
  cases hg
  exact setS_rv hσ fun hi hσ => wpAny_Assign_Name (h.to he hr hs hp fun v s₁ x₁ r₁ hs₁ => st_loc he hs₁ hn r₁ hi fun s₂ hs₂ c₂ => ⟨_, hσ ▸ hs₂, rfl, (x₁.to).trans c₂.locMut, fun a ha => .inl (owned_set (hσ.symm ▸ ha))⟩) (hsw env he)
theorem XS.assignC {x : Str} {xp pos : Pos} {e : Expr} {i : Nat} {f : List Sl → Option PV} (hn : nameAt sc.names x = some (i, .cell)) (h : XE prog w hb sc lv e f)
    (hsw : ∀ env, EnvOk sc env → swapsWith e (some (.Name x xp)) pos.line env = pure false) :
    XS prog w hb sc lv (.Assign [.Name x xp] e pos) (fun σ => (f σ).bind fun p => (setS i p σ).map fun σ' => (.next, σ')) := by
  intro env A E s U σ val fl σ' he hr hs hg
  refine bindE hg fun p hp hg => ?_
  obtain ⟨σ₁, hσ, hg⟩ := Option.map_eq_some_iff.mp hg
  cases hg
  exact setS_rv hσ fun hi hσ => wpAny_Assign_Name (h.to he hr hs hp fun v s₁ x₁ r₁ hs₁ => st_cel he hs₁ hn r₁ hi fun s₂ hs₂ c₂ => ⟨_, hσ ▸ hs₂, rfl, (x₁.to).trans c₂, fun a ha => .inl (owned_set (hσ.symm ▸ ha))⟩) (hsw env he)
end
section
variable {prog : Program} {w : World} {A : Around} {E : Value → Shared → Prop} {s : Shared}
theorem lst_upd {l : Addr} {vs us : List Value} {n : Nat} {f : Array Value → Array Value} (h : s.heap.get? l = some (lstObj vs n)) (hf : f vs.toArray = us.toArray) :
    ∃ n', (s.heap.update l (Obj.mapSeq f)).get? l = some (lstObj us n') := by
  have := Heap.get?_update_self (h := s.heap) (a := l) (Obj.mapSeq f) h (by rfl)
  rw [this]
  refine ⟨if us.toArray.size == vs.toArray.size then n else n + 1, ?_⟩
  simp only [Obj.mapSeq, hf]
theorem setItem_plain {l : Addr} {vs : List Value} {n : Nat} {k : Int} {t : Tok} {v : Value} {j : Nat} {Q : Unit → Shared → Prop} (hl : s.heap.get? l = some (lstObj vs n)) (hk : k.natAbs < 2 ^ 60) (hj : seqIndex? k vs.length = some j)
    (hQ : ∀ h' n', h'.get? l = some (lstObj (vs.set j v) n') → Heap.SameBut l s.heap h' → Q () { s with heap := h' }) :
    wpAny (model prog w) A (setItem (.ref l) (.int k t) v) Q E s := by
  have hIs := isList_of hl
  obtain ⟨o, ho, hc, ne, hd⟩ := id hIs
  unfold setItem
  try with_reducible refine wpAny_holding ?_
  first | refine wpAny_bind (wpAny_pure ?_) | skip
  refine wpAny_bind (wpAny_sequenceKey hIs.typeIs (by decide) ?_)
  refine wpAny_bind (wpAny_callSpecial?_slot (name := Str.ofString "__setitem__") hIs.typeIs slot_list_setitem
    (wpAny_call_entry slot_list_setitem hIs.typeIs entry_list_setitem ?_ (args_list_setitem _ _ _)))
  show wpAny _ _ (Builtin.List.listSubscript? (.int k t) >>= _) _ _ s
  have hfit : Builtin.List.listFitsIndex k = true := by
    rcases Int.lt_or_le k 0 with h | h
    · exact fitsIndex_neg h (by omega)
    · exact fitsIndex_of h (by omega)
  refine wpAny_bind (wpAny_listSubscript_int hfit ?_)
  clear hfit
  have hjl : j < vs.length := by rcases seqIndex_cases hj with h | h <;> omega
  have hx' : vs.toArray[j]? = some vs[j] := by simp [hjl]
  have fin : wpAny (model prog w) A.in1 (setSeqItemAt l j v) (fun Z s' => s'.toks = s.toks ∧ Q () s') (fun Z Z => False) s := by
    refine wpAny_setSeqItemAt ho hd ?_
    obtain ⟨n', hn'⟩ := lst_upd (s := s) (f := fun x => x.setIfInBounds j v) (us := vs.set j v) hl (by simp)
    exact ⟨rfl, hQ _ n' hn' (Heap.SameBut.update ..)⟩
  rcases Int.lt_or_le k 0 with h | h
  · obtain ⟨j', rfl⟩ : ∃ j : Nat, k = Int.negSucc j := by
      cases k with
      | ofNat n => exact absurd h (Int.not_lt.mpr (Int.natCast_nonneg n))
      | negSucc n => exact ⟨n, rfl⟩
    show wpAny _ _ ((Builtin.List.listItems (.ref l) >>= fun xs => pure ((seqIndex? (Int.negSucc j') xs.size).bind fun i => xs[i]?.map (i, ·))) >>= _) _ _ s
    refine wpAny_bind (wpAny_bind ?_)
    show wpAny _ _ (seqItems? (.ref l) >>= _) _ _ s
    refine wpAny_bind (wpAny_seqItems ho hd (wpAny_pure (wpAny_pure ?_)))
    rw [List.size_toArray, hj]
    simp only [Option.bind_some, hx', Option.map_some]
    show wpAny _ _ (setSeqItemAt l j v >>= _) _ _ s
    refine wpAny_bind (wpAny_mono fin (fun Z s' q => ?_) fun Z Z x => x.elim)
    first
      | exact wpAny_bind (wpAny_pure (wpAny_pure ⟨.none, rfl, wpAny_pure q.2⟩))
      | exact wpAny_pure ⟨.none, rfl, wpAny_pure q.2⟩
  · obtain ⟨j', rfl⟩ := Int.eq_ofNat_of_zero_le h
    have : j' = j := by rcases seqIndex_cases hj with h | h <;> omega
    subst this
    show wpAny _ _ ((seqItemAt l j' >>= fun r => pure (r.map (j', ·))) >>= _) _ _ s
    refine wpAny_bind (wpAny_bind (wpAny_seqItemAt ho hd (wpAny_pure ?_)))
    rw [hx']
    show wpAny _ _ (setSeqItemAt l j' v >>= _) _ _ s
    refine wpAny_bind (wpAny_mono fin (fun Z s' q => ?_) fun Z Z x => x.elim)
    first
      | exact wpAny_bind (wpAny_pure (wpAny_pure ⟨.none, rfl, wpAny_pure q.2⟩))
      | exact wpAny_pure ⟨.none, rfl, wpAny_pure q.2⟩
end
section
variable {prog : Program} {w : World} {hb : Heap} {sc : Scope} {lv : Nat} {env : Env} {U : Addr → Prop} {σ : List Sl} {val : Nat → Option Value} {s : Shared}
/-- the list that slot i owns is stored into -/
theorem SR.setO {i : Nat} {l l' : List PV} {a : Addr} {us : List Value} {n' tk : Nat} {h' : Heap} (hs : SR hb env U σ val s) (hl : σ[i]? = some (.own l)) (hv : val i = some (.ref a)) (hg : h'.get? a = some (lstObj us n')) (hr : RVs s.heap (Av U σ val) l' us)
    (hsb : Heap.SameBut a s.heap h') : SR hb env U (σ.set i (.own l')) val { s with heap := h', toks := tk } ∧ Chg (Mut env σ val) no s { s with heap := h', toks := tk } ∧ ∀ b, Owned (σ.set i (.own l')) val b → Owned σ val b := by
  have hOa : Owned σ val a := ⟨i, l, hl, hv⟩
  have hi : i < σ.length := (List.getElem?_eq_some_iff.mp hl).1
  have ow : ∀ b, Owned (σ.set i (.own l')) val b → Owned σ val b := fun b ⟨j, k, h1, h2⟩ => by
    rw [List.getElem?_set] at h1
    by_cases e : i = j
    · subst e; exact ⟨i, l, hl, h2⟩
    · rw [if_neg e] at h1; exact ⟨j, k, h1, h2⟩
  have ow' : ∀ b, Owned σ val b → Owned (σ.set i (.own l')) val b := fun b ⟨j, k, h1, h2⟩ => by
    by_cases e : i = j
    · subst e; exact ⟨i, l', by rw [List.getElem?_set_self hi], h2⟩
    · exact ⟨j, k, by rw [List.getElem?_set_ne e]; exact h1, h2⟩
  have mt : ∀ b, Mut env (σ.set i (.own l')) val b → Mut env σ val b := fun b h => h.imp id (Or.imp id (ow b))
  have keep : ∀ b o, ¬ Av U σ val b → IsSeq o → s.heap.get? b = some o → h'.get? b = some o ∧ ¬ Av U (σ.set i (.own l')) val b := fun b o hV hq e =>
    ⟨(hsb.2 b fun q => hV (q ▸ .inr hOa)).trans e, fun q => hV (q.imp id (ow b))⟩
  obtain ⟨vs₀, n₀, ha₀⟩ := hs.owned_has hOa
  have hasAll : ∀ b, Has s.heap b → Has h' b := fun b ⟨o, e⟩ => by
    by_cases q : b = a
    · rw [q]; exact ⟨_, hg⟩
    · exact ⟨o, (hsb.2 b q).trans e⟩
  have cellne : ∀ c v, s.heap.IsCell c v → c ≠ a := fun c v hc q => isCell_nseq hc _ (q ▸ ha₀) ⟨_, _, rfl⟩
  obtain ⟨m, hns, hm⟩ := hs.ns
  have hLa : env.locals ≠ a := fun q => ns_nseq hns _ (q ▸ ha₀) ⟨_, _, rfl⟩
  refine ⟨⟨hs.nl, fun b o e => ?_, ⟨m, hns.sameBut hsb hLa, hm⟩, fun j x hj => ?_, fun x c hc => ?_, fun j => ?_, ?_, fun b h => ⟨hasAll b (hs.uex b h).1, (hs.uex b h).2⟩, fun b h => hs.un b (mt b h), fun b h => hs.hbn b (mt b h)⟩, ⟨fun b o hM e => ?_, hasAll, fun Z Z Z e => e, Nat.le_refl _, fun h => h, rfl⟩, ow⟩
  · have hne : b ≠ a := fun q => by have := hs.hbn a (.inr (.inr hOa)); rw [q, this] at e; cases e
    exact (hsb.2 b hne).trans (hs.base b o e)
  · obtain ⟨c, hc, hi'⟩ := hs.cell j x hj
    exact ⟨c, hc, hi'.sameBut hsb (cellne c _ hi')⟩
  · obtain ⟨v, hv'⟩ := hs.cellOk x c hc
    exact ⟨v, hv'.sameBut hsb (cellne c _ hv')⟩
  · by_cases e : j = i
    · rw [e, getD_self hi]
      exact ⟨a, us, n', hv, hg, RVs.keep keep _ _ hr⟩
    · rw [getD_ne e]
      exact (hs.slot j).keep keep fun l₂ a₂ o hsl hy _ e' => (hsb.2 a₂ fun q => e (hs.apart j i l₂ l a (getD_own hsl) hl (q ▸ hy) hv)).trans e'
  · intro j k l₁ l₂ b h1 h2 h3 h4
    have g : ∀ {j : Nat} {l₁ : List PV}, (σ.set i (.own l'))[j]? = some (.own l₁) → ∃ l₃, σ[j]? = some (.own l₃) := fun {j l₁} h => by
      rw [List.getElem?_set] at h
      by_cases e : i = j
      · subst e; exact ⟨l, hl⟩
      · rw [if_neg e] at h; exact ⟨l₁, h⟩
    obtain ⟨Z, g1⟩ := g h1
    obtain ⟨Z, g2⟩ := g h2
    exact hs.apart j k _ _ b g1 g2 h3 h4
  · exact (hsb.2 b fun q => hM (q ▸ .inr (.inr hOa))).trans e
/-- x[e₁] = e₂ -/
theorem XS.setO {x : Str} {xp pos' pos : Pos} {e₁ e₂ : Expr} {i : Nat} {f g : List Sl → Option PV} (hn : nameAt sc.names x = some (i, .local)) (h₂ : XE prog w hb sc lv e₂ f) (h₁ : XE prog w hb sc lv e₁ g)
    (hsw : ∀ env, swapsWith e₂ (some (.Subscript (.Name x xp) e₁ pos')) pos.line env = pure false) (hd : (x == ("__debug__" : Str)) = false) :
    XS prog w hb sc lv (.Assign [.Subscript (.Name x xp) e₁ pos'] e₂ pos) (fun σ => (f σ).bind fun p => (getO i σ).bind fun l => (g σ).bind fun q => q.oi fun k => if k.natAbs < 2 ^ 60 then (seqIndex? k l.length).map fun j => (.next, σ.set i (.own (l.set j p))) else none) := by
  intro env A E s U σ val fl σ' he hr hs hg
  refine bindE hg fun p hp hg => bindE hg fun l hl hg => bindE hg fun q hq hg => ?_
  refine wpAny_Assign_Subscript (h₂.to he hr hs hp fun v s₁ x₁ r₁ hs₁ => wpAny_Name (own_load hn he hs₁ hl fun a vs n hv hga hra => h₁.to he hr hs₁ hq fun u s₂ x₂ r₂ hs₂ => ?_) hd) (hsw env)
  refine oi_rv (f := fun k => if k.natAbs < 2 ^ 60 then (seqIndex? k l.length).map fun j => (PF.next, σ.set i (.own (l.set j p))) else none) (G := fun u => wpAny (model prog w) A (setItem (.ref a) u v) _ E s₂) hg r₂ fun k t hg => ite_o hg fun hk hg => ?_
  obtain ⟨j, hj, hg⟩ := Option.map_eq_some_iff.mp hg
  cases hg
  have hra₂ := hra.ext x₂
  refine setItem_plain (x₂.heap a _ (fun q => q) hga) hk (hra₂.length.symm ▸ hj) fun h' n' hg' hsb => ?_
  obtain ⟨c1, c2, c3⟩ := hs₂.setO (tk := s₂.toks) (getO_eq hl) hv hg' (hra₂.set j (r₁.ext x₂)) hsb
  exact ⟨val, c1, rfl, (Ext.to (x₁.trans x₂)).trans c2, fun b hb' => .inl (c3 b hb')⟩
/-- x.append(e) -/
theorem XS.append {x : Str} {xp apos cpos pos : Pos} {e : Expr} {i : Nat} {f : List Sl → Option PV} (hn : nameAt sc.names x = some (i, .local)) (h : XE prog w hb sc lv e f)
    (hline : (apos.endLine == cpos.line) = true) (hst : ∀ env, backTo cpos (starEach [e] env) = [(false, eval e env)]) (hd : (x == ("__debug__" : Str)) = false) :
    XS prog w hb sc lv (.Expr (.Call (.Attribute (.Name x xp) "append" apos) [e] [] cpos) pos) (fun σ => (getO i σ).bind fun l => (f σ).bind fun p => if l.length ≤ LIM then some (.next, σ.set i (.own (l ++ [p]))) else none) := by
  intro env A E s U σ val fl σ' he hr hs hg
  refine bindE hg fun l hl hg => bindE hg fun p hp hg => ite_inv hg fun hlen hg => ?_
  cases hg
  refine wpAny_Expr_any ?_ (by unfold interactive; rw [he.scope, he.kind]; rfl) rfl
  refine wpAny_Call_method (T := "list") (id := "list.append") rfl (by rw [hst]; rfl) hline F.plainAttrs_list F.slot_list_append F.type_list_append (wpAny_Name (own_load hn he hs hl fun a vs n hv hga hra => ?_) hd)
  refine ⟨(isList_of hga).typeIs, fun b e => ⟨_, Value.ref.inj e ▸ hga, rfl⟩, ?_⟩
  rw [hst]
  refine P.append_list (h.to he hr hs hp fun v s₁ x₁ r₁ hs₁ => ?_)
  have hga₁ := x₁.heap a _ (fun q => q) hga
  have hra₁ := hra.ext x₁
  refine ⟨vs.toArray, n, by rw [LIM_eq, List.size_toArray, hra₁.length]; exact hlen, hga₁, ?_⟩
  obtain ⟨n', hn'⟩ := lst_upd (s := s₁) (f := fun xs => xs.push v) (us := vs ++ [v]) hga₁ (List.push_toArray ..)
  obtain ⟨c1, c2, c3⟩ := hs₁.setO (tk := s₁.toks) (getO_eq hl) hv hn' (hra₁.append (RVs.cons r₁ RVs.nil)) (Heap.SameBut.update ..)
  exact ⟨val, c1, rfl, (Ext.to x₁).trans c2, fun b hb' => .inl (c3 b hb')⟩
theorem SR.addU {a : Addr} {s₁ : Shared} (hs : SR hb env U σ val s) (hx : Ext s s₁) (hf : s.heap.get? a = none) (hh : Has s₁.heap a) : SR hb env (fun b => U b ∨ b = a) σ val s₁ := by
  have hs₁ := hs.ext hx
  have hbn : hb.get? a = none := by
    cases e : hb.get? a with
    | none => rfl
    | some o => have := hs.base a o e; rw [hf] at this; cases this
  have nM : ∀ b, Mut env σ val b → b ≠ a := fun b h q => by
    subst q
    rcases h with h | ⟨x, h⟩ | h
    · obtain ⟨o, es, ep, e, Z⟩ := hs.loc_has; rw [← h, hf] at e; cases e
    · obtain ⟨v, o, e, Z⟩ := hs.cellOk x b h; rw [hf] at e; cases e
    · obtain ⟨vs, n, e⟩ := hs.owned_has h; rw [hf] at e; cases e
  have keep : ∀ b o, ¬ Av U σ val b → IsSeq o → s.heap.get? b = some o → s₁.heap.get? b = some o ∧ ¬ Av (fun b => U b ∨ b = a) σ val b := fun b o hV hq e =>
    ⟨hx.heap b o (fun q => q) e, fun q => by
      rcases q with (q | q) | q
      · exact hV (.inl q)
      · subst q; rw [hf] at e; cases e
      · exact hV (.inr q)⟩
  refine ⟨hs₁.nl, hs₁.base, hs₁.ns, hs₁.cell, hs₁.cellOk, fun j => ?_, hs₁.apart, fun b h => ?_, fun b h q => ?_, hs₁.hbn⟩
  · exact (hs.slot j).keep keep fun _ a o _ _ _ h => hx.heap a o (fun q => q) h
  · rcases h with h | h
    · exact hs₁.uex b h
    · subst h; exact ⟨hh, hbn⟩
  · rcases q with q | q
    · exact hs₁.un b h q
    · exact nM b h q
theorem SR.subU {U' : Addr → Prop} (hs : SR hb env U' σ val s) (h : ∀ b, U b → U' b) : SR hb env U σ val s := by
  have keep : ∀ b o, ¬ Av U' σ val b → IsSeq o → s.heap.get? b = some o → s.heap.get? b = some o ∧ ¬ Av U σ val b := fun b o hV hq e => ⟨e, fun q => hV (q.imp (h b) id)⟩
  refine ⟨hs.nl, hs.base, hs.ns, hs.cell, hs.cellOk, fun j => ?_, hs.apart, fun b q => hs.uex b (h b q), fun b q r => hs.un b q (h b r), hs.hbn⟩
  exact (hs.slot j).keep keep fun _ _ _ _ _ _ h => h
theorem SR.take {a : Addr} {i : Nat} {l : List PV} {vs : List Value} {n : Nat} (hs : SR hb env (fun b => U b ∨ b = a) σ val s) (hi : i < σ.length) (hu : σ[i]? = some .un) (hv : val i = some (.ref a)) (hg : s.heap.get? a = some (lstObj vs n))
    (hr : RVs s.heap (Av (fun b => U b ∨ b = a) σ val) l vs) (hU : ¬ U a) : SR hb env U (σ.set i (.own l)) val s ∧ ∀ b, Owned (σ.set i (.own l)) val b → Owned σ val b ∨ b = a := by
  have ow : ∀ b, Owned (σ.set i (.own l)) val b → Owned σ val b ∨ b = a := fun b ⟨j, k, h1, h2⟩ => by
    rw [List.getElem?_set] at h1
    by_cases e : i = j
    · subst e; rw [hv] at h2; cases h2; exact .inr rfl
    · rw [if_neg e] at h1; exact .inl ⟨j, k, h1, h2⟩
  have av : ∀ b, Av U (σ.set i (.own l)) val b → Av (fun b => U b ∨ b = a) σ val b := fun b h => by
    rcases h with h | h
    · exact .inl (.inl h)
    · rcases ow b h with h | h
      · exact .inr h
      · exact .inl (.inr h)
  have keep : ∀ b o, ¬ Av (fun b => U b ∨ b = a) σ val b → IsSeq o → s.heap.get? b = some o → s.heap.get? b = some o ∧ ¬ Av U (σ.set i (.own l)) val b := fun b o hV hq e => ⟨e, fun q => hV (av b q)⟩
  refine ⟨⟨hs.nl, hs.base, hs.ns, hs.cell, hs.cellOk, fun j => ?_, ?_, fun b q => hs.uex b (.inl q), fun b q r => ?_, fun b q => ?_⟩, ow⟩
  · by_cases e : j = i
    · rw [e, getD_self hi]
      exact ⟨a, vs, n, hv, hg, RVs.keep keep _ _ hr⟩
    · rw [getD_ne e]
      exact (hs.slot j).keep keep fun _ _ _ _ _ _ h => h
  · intro j k l₁ l₂ b h1 h2 h3 h4
    have g : ∀ {j : Nat} {l₁ : List PV}, (σ.set i (.own l))[j]? = some (.own l₁) → val j = some (.ref b) → (j = i ∧ b = a) ∨ (j ≠ i ∧ σ[j]? = some (.own l₁)) := fun {j l₁} h h' => by
      rw [List.getElem?_set] at h
      by_cases e : i = j
      · subst e; rw [hv] at h'; cases h'; exact .inl ⟨rfl, rfl⟩
      · rw [if_neg e] at h; exact .inr ⟨Ne.symm e, h⟩
    have nO : ¬ Owned σ val a := fun q => hs.un a (.inr (.inr q)) (.inr rfl)
    rcases g h1 h3 with ⟨e1, rfl⟩ | ⟨n1, g1⟩ <;> rcases g h2 h4 with ⟨e2, e3⟩ | ⟨n2, g2⟩
    · exact e1.trans e2.symm
    · exact absurd ⟨k, l₂, g2, h4⟩ nO
    · subst e3; exact absurd ⟨j, l₁, g1, h3⟩ nO
    · exact hs.apart j k _ _ b g1 g2 h3 h4
  · rcases q with q | q | q
    · exact hs.un b (.inl q) (.inl r)
    · exact hs.un b (.inr (.inl q)) (.inl r)
    · rcases ow b q with q | q
      · exact hs.un b (.inr (.inr q)) (.inl r)
      · subst q; exact hU r
  · rcases q with q | q | q
    · exact hs.hbn b (.inl q)
    · exact hs.hbn b (.inr (.inl q))
    · rcases ow b q with q | q
      · exact hs.hbn b (.inr (.inr q))
      · subst q; exact (hs.uex b (.inr rfl)).2
/-- the store of a fresh list -/
theorem st_own {M : Model} {A : Around} {E : Value → Shared → Prop} {Q : Unit → Shared → Prop} {x : Str} {i : Nat} {l : List PV} {a : Addr} {vs : List Value} {n : Nat} {s₁ : Shared} (he : EnvOk sc env) (hs : SR hb env U σ val s) (hn : nameAt sc.names x = some (i, .local))
    (hf : s.heap.get? a = none) (hx : Ext s s₁) (hg : s₁.heap.get? a = some (lstObj vs n)) (hr : RVs s₁.heap (fun b => Av U σ val b ∨ b = a) l vs) (hi : i < σ.length)
    (h : ∀ s₂, SR hb env U (σ.set i (.own l)) (upd val i (.ref a)) s₂ → Chg (fun b => b = env.locals) no s₁ s₂ → (∀ b, Owned (σ.set i (.own l)) (upd val i (.ref a)) b → Owned σ val b ∨ b = a) → Q () s₂) : wpAny M A (storeName env x (.ref a)) Q E s₁ := by
  have hU := hs.addU hx hf ⟨_, hg⟩
  refine st_locS he hU hn (sl := .un) (fun Z e => nomatch e) trivial hi (fun s₂ hs₂ c₂ => ?_)
  have haL : a ≠ env.locals := fun q => by obtain ⟨o, es, ep, e, Z⟩ := hs.loc_has; rw [← q, hf] at e; cases e
  have nU : ¬ U a := fun q => by obtain ⟨o, e⟩ := (hs.uex a q).1; rw [hf] at e; cases e
  obtain ⟨m, hns, Z⟩ := hU.ns
  have ow : ∀ b, Owned (σ.set i .un) (upd val i (.ref a)) b → Owned σ val b := fun b q => owned_setS (sl := .un) (fun Z e => nomatch e) q
  obtain ⟨c1, c2⟩ := hs₂.take (i := i) (l := l) (vs := vs) (n := n) (by simpa using hi) (by rw [List.getElem?_set_self hi]) (by simp [upd]) (c₂.heap a _ haL hg)
    (RVs.keep (fun b o hV hq e => ⟨c₂.heap b o (fun q => ns_nseq hns o (q ▸ e) hq) e, fun q => hV (by
      rcases q with (q | q) | q
      · exact .inl (.inl q)
      · exact .inr q
      · exact .inl (.inr (ow b q)))⟩) _ _ hr) nU
  rw [List.set_set] at c1 c2
  exact h s₂ c1 c₂ fun b q => (c2 b q).imp (ow b) id
theorem XS.own {x : Str} {xp pos : Pos} {e : Expr} {i : Nat} {f : List Sl → Option (List PV)} (hn : nameAt sc.names x = some (i, .local)) (h : XL prog w hb sc lv e f)
    (hsw : ∀ env, EnvOk sc env → swapsWith e (some (.Name x xp)) pos.line env = pure false) :
    XS prog w hb sc lv (.Assign [.Name x xp] e pos) (fun σ => (f σ).bind fun l => if i < σ.length then some (.next, σ.set i (.own l)) else none) := by
  intro env A E s U σ val fl σ' he hr hs hg
  refine bindE hg fun l hl hg => ite_inv hg fun hi hg => ?_
  cases hg
  refine wpAny_Assign_Name (wpAny_mono (h env A E s U σ val l he hr hs hl) (fun v s₁ q => ?_) fun Z Z x => x) (hsw env he)
  obtain ⟨hx, a, vs, n, rfl, hf, hga, hra⟩ := q
  exact st_own he hs hn hf hx hga hra hi fun s₂ hs₂ c₂ o₂ => ⟨_, hs₂, rfl, (Ext.to hx).trans c₂.locMut, fun b q => (o₂ b q).imp id fun e => by rw [e]; exact hf⟩
noncomputable def mulL (a b : PV) : Option (List PV) := b.oi fun n => a.ol fun l => match l with
  | [] => none
  | p :: r => (match r with
    | [] => if 0 ≤ n ∧ n ≤ 1000 then some (List.replicate n.toNat p) else none
    | _ :: _ => none)
theorem XL.mul {e n : Expr} {pos : Pos} {f g : List Sl → Option PV} (h₁ : XE prog w hb sc lv e f) (h₂ : XE prog w hb sc lv n g) :
    XL prog w hb sc lv (.BinOp e .Mult n pos) (fun σ => (f σ).bind fun a => (g σ).bind fun b => mulL a b) := by
  intro env A E s U σ val l he hr hs hf
  refine bindE hf fun a ha hf => bindE hf fun b hb' hf => wpAny_BinOp (h₁.to he hr hs ha fun v s₁ x₁ r₁ hs₁ => h₂.to he hr hs₁ hb' fun u s₂ x₂ r₂ hs₂ => ?_)
  refine oi_rv (G := fun u => wpAny (model prog w) A (binaryOp .Mult v u) _ E s₂) hf r₂ fun n t hf => ?_
  refine ol_rv (G := fun v => wpAny (model prog w) A (binaryOp .Mult v (.int n t)) _ E s₂) hf (r₁.ext x₂) fun a x vs m _ hg hr' hf => ?_
  match a, hf, hr' with
  | [p], hf, hr' =>
    obtain ⟨v, rfl, h3⟩ := rvs1 hr'
    exact ite_inv hf fun hc hf => hf ▸ list_mul_raw hg hc ⟨(x₁.trans x₂).trans ext_push', _, _, 0, rfl, fresh_later (x₁.trans x₂), Heap.get?_push_size _ rfl, RVs.ext (s := s₂) ((RVs.rep h3 _).weak fun b h => h.imp id fun e => (show b = s₂.heap.objs.size from e).symm ▸ fresh_none) ext_push'⟩
end
section
variable {prog : Program} {w : World} {hb : Heap} {sc : Scope} {lv : Nat}
theorem XSs.dead {ss : List Stmt} : XSs prog w hb sc lv ss (fun Z => none) := fun _ _ _ _ _ _ _ _ _ _ _ _ hg => nn hg
theorem XS.dead {st : Stmt} : XS prog w hb sc lv st (fun Z => none) := fun _ _ _ _ _ _ _ _ _ _ _ _ hg => nn hg
theorem XE.dead {e : Expr} : XE prog w hb sc lv e (fun Z => none) := fun _ _ _ _ _ _ _ _ _ _ _ hg => nn hg
theorem XEs.dead {e : List Expr} : XEs prog w hb sc lv e (fun Z => none) := fun _ _ _ _ _ _ _ _ _ _ _ _ hg => nn hg
theorem XT.dead {e : Expr} : XT prog w hb sc lv e (fun Z => none) := fun _ _ _ _ _ _ _ _ _ _ _ hg => nn hg
theorem PS.after {env : Env} {U : Addr → Prop} {σ σ' : List Sl} {val : Nat → Option Value} {s s₁ : Shared} {fl : PF} {f : Flow} {s' : Shared} (x : Ext s s₁) (h : PS hb env U σ val s₁ fl σ' f s') : PS hb env U σ val s fl σ' f s' :=
  let ⟨val', a, b, c, d⟩ := h
  let q := PS.trans (U := U) (Ext.to x) (fun _ h => .inl h) c d
  ⟨val', a, b, q.1, q.2⟩
theorem XS.ite {t : Expr} {b o : List Stmt} {pos : Pos} {ft : List Sl → Option Bool} {f g : List Sl → Option (PF × List Sl)} (ht : XT prog w hb sc lv t ft) (h₁ : XSs prog w hb sc lv b f) (h₂ : XSs prog w hb sc lv o g) :
    XS prog w hb sc lv (.If t b o pos) (fun σ => (ft σ).bind fun c => if c = true then f σ else g σ) :=
  fun _ _ _ _ _ _ _ _ _ he hr hs hg => bindE hg fun c hc hg => wpAny_If (ht.to he hr hs hc fun _ x hs₁ => match c, hg with
    | true, hg => h₁.to he hr hs₁ hg fun _ _ q => q.after x
    | false, hg => h₂.to he hr hs₁ hg fun _ _ q => q.after x)
theorem XS.brk {pos : Pos} : XS prog w hb sc lv (.Break pos) (fun σ => some (.brk, σ)) := by
  intro env A E s U σ val fl σ' he hr hs hg; cases hg
  exact wpAny_Break (.at hs rfl)
theorem XS.cont {pos : Pos} : XS prog w hb sc lv (.Continue pos) (fun σ => some (.cont, σ)) := by
  intro env A E s U σ val fl σ' he hr hs hg; cases hg
  exact wpAny_Continue (.at hs rfl)
noncomputable def frz : Sl → Sl
  | .un => .un
  | .pv p => .pv p
  | .own l => .pv (.lst l)
noncomputable def frzS (σ : List Sl) : List Sl := σ.map frz
theorem frz_not {σ : List Sl} {i : Nat} {l : List PV} (h : (frzS σ)[i]? = some (.own l)) : False :=
  let ⟨x, _, e⟩ := Option.map_eq_some_iff.mp (List.getElem?_map.symm.trans h)
  match x, e with
  | .un, e => nomatch (show Sl.un = .own l from e)
  | .pv p, e => nomatch (show Sl.pv p = .own l from e)
  | .own k, e => nomatch (show Sl.pv (.lst k) = .own l from e)
theorem owned_frz {σ : List Sl} {val : Nat → Option Value} {a : Addr} (h : Owned (frzS σ) val a) : False := let ⟨_, _, h, _⟩ := h; frz_not h
theorem SR.frz {env : Env} {U : Addr → Prop} {σ : List Sl} {val : Nat → Option Value} {s : Shared} (hs : SR hb env U σ val s) : SR hb env U (frzS σ) val s := by
  have av : ∀ b, Av U (frzS σ) val b → U b := fun b h => h.elim id fun q => (owned_frz q).elim
  have keep : ∀ b o, ¬ Av U σ val b → IsSeq o → s.heap.get? b = some o → s.heap.get? b = some o ∧ ¬ Av U (frzS σ) val b := fun b o hV hq e => ⟨e, fun q => hV (.inl (av b q))⟩
  refine ⟨hs.nl, hs.base, hs.ns, hs.cell, hs.cellOk, fun j => ?_, fun i j l l' a h => (frz_not h).elim, hs.uex, fun b q => hs.un b (q.imp id (Or.imp id fun q => (owned_frz q).elim)), fun b q => hs.hbn b (q.imp id (Or.imp id fun q => (owned_frz q).elim))⟩
  rw [show (frzS σ).getD j .un = Mine.frz (σ.getD j .un) by
    rw [List.getD_eq_getElem?_getD, List.getD_eq_getElem?_getD, frzS, List.getElem?_map]
    exact Option.getD_map Mine.frz Sl.un _]
  have q := (hs.slot j).keep keep fun _ _ _ _ _ _ h => h
  cases hsl : σ.getD j .un with
  | own l => rw [hsl] at q; exact let ⟨a, vs, n, hy, hg, hr⟩ := q; ⟨.ref a, hy, .l (fun q => hs.un a (.inr (.inr ⟨j, l, getD_own hsl, hy⟩)) (av _ q)) hg hr⟩
  | _ => rw [hsl] at q; exact q
theorem XS.ret {e : Expr} {pos : Pos} {f : List Sl → Option PV} (h : XE prog w hb sc lv e f) : XS prog w hb sc lv (.Return (some e) pos) (fun σ => (f (frzS σ)).map fun p => (.ret p, frzS σ)) := by
  intro env A E s U σ val fl σ' he hr hs hg
  obtain ⟨p, hp, hg⟩ := Option.map_eq_some_iff.mp hg
  cases hg
  exact wpAny_Return_some (h.to he hr hs.frz hp fun v s₁ x r hs₁ => ⟨val, hs₁, ⟨v, rfl, r.weak fun b h => .inl (.inl h)⟩, Ext.to x, fun a h => (owned_frz h).elim⟩)
noncomputable def inP (op : Operator) (p q : PV) : Option PV := match op with
  | .Add => p.on none nO (fun a => q.oi fun b => some (.int (a + b))) (fun a => q.os fun b => if a.length + b.length ≤ LIM then some (.str (a ++ b)) else none) nO nO nO nO
  | .Sub => intsP (fun a b => some (.int (a - b))) p q
  | _ => none
theorem inP_ok {A : Around} {E : Value → Shared → Prop} {s : Shared} {V : Addr → Prop} {op : Operator} {p q r : PV} {v u : Value} (h : inP op p q = some r) (hp : RV s.heap V p v) (hq : RV s.heap V q u) :
    wpAny (model prog w) A (inplaceOp op v u) (Got s V r) E s := by
  induction op with
  | Add =>
    exact PV.on_rv (G := fun v => wpAny (model prog w) A (inplaceOp .Add v u) (Got s V r) E s) h hp nn (fun _ => nn)
      (fun a t h => oi_rv (G := fun u => wpAny (model prog w) A (inplaceOp .Add (.int a t) u) (Got s V r) E s) h hq fun b t' h => Option.some.inj h ▸ iadd_int got_int)
      (fun a t h => os_rv (G := fun u => wpAny (model prog w) A (inplaceOp .Add (.str (S a) t) u) (Got s V r) E s) h hq fun b t' h => ite_inv h fun hl h => h ▸ SB.iadd (fun t' tk => ⟨ext_toks, S_append a b ▸ .s⟩) (by rw [S_len, S_len, LIM_eq]; exact hl))
      (fun _ _ => nn) (fun _ => nn) (fun _ _ _ _ _ _ _ => nn) fun _ _ _ _ _ _ _ => nn
  | Sub => exact ints_rv (G := fun v u => wpAny (model prog w) A (inplaceOp .Sub v u) (Got s V r) E s) h hp hq fun a b t t' h => Option.some.inj h ▸ P.isub_int got_int
  | _ => exact nn h
theorem XS.aug {x : Str} {xp pos : Pos} {e : Expr} {op : Operator} {i : Nat} {f : List Sl → Option PV} (hn : nameAt sc.names x = some (i, .local)) (h : XE prog w hb sc lv e f) :
    XS prog w hb sc lv (.AugAssign (.Name x xp) op e pos) (fun σ => (getS i σ).bind fun a => (f σ).bind fun b => (inP op a b).bind fun p => (setS i p σ).map fun σ' => (.next, σ')) := by
  intro env A E s U σ val fl σ' he hr hs hg
  refine bindE hg fun a ha hg => bindE hg fun b hb' hg => bindE hg fun p hp hg => ?_
  obtain ⟨σ₁, hσ, hg⟩ := Option.map_eq_some_iff.mp hg
  cases hg
  refine setS_rv hσ fun hi hσ => ?_
  obtain ⟨h1, h2⟩ := nameAt_lookup hn
  have q := hs.slot i
  rw [getS_eq ha] at q
  obtain ⟨v, hv, hrv⟩ := q
  obtain ⟨m, hns, hm⟩ := hs.ns
  refine wpAny_AugAssign_Name (wpAny_loadName_local (by rw [he.scope]; exact he.kind) (by unfold Env.kindOf; rw [he.scope]; exact h1) hns ((hm i x (by rw [he.scope]; exact h2)).trans hv) (h.to he hr hs hb' fun u s₁ x₁ r₁ hs₁ => ?_))
  exact wpAny_mono (inP_ok hp (hrv.ext x₁) r₁) (fun r s₂ q₂ => st_loc he (hs₁.ext q₂.1) hn q₂.2 hi fun s₃ hs₃ c₃ => ⟨_, hσ ▸ hs₃, rfl, (Ext.to (x₁.trans q₂.1)).trans c₃.locMut, fun a ha => .inl (owned_set (hσ.symm ▸ ha))⟩) fun Z Z x => x
noncomputable def whileP (ft : List Sl → Option Bool) (g : List Sl → Option (PF × List Sl)) : Nat → List Sl → Option (PF × List Sl)
  | 0, _ => none
  | n + 1, σ => (ft σ).bind fun c => if c = true then (g σ).bind fun r => match r with
      | (.next, σ') => whileP ft g n σ'
      | (.cont, σ') => whileP ft g n σ'
      | (.brk, σ') => some (.next, σ')
      | (.ret p, σ') => some (.ret p, σ')
    else some (.next, σ)
theorem XS.whil (n : Nat) {t : Expr} {b : List Stmt} {pos : Pos} {ft : List Sl → Option Bool} {g : List Sl → Option (PF × List Sl)} (ht : XT prog w hb sc lv t ft) (h : XSs prog w hb sc lv b g) :
    XS prog w hb sc lv (.While t b [] pos) (whileP ft g n) := by
  intro env A E s U σ val fl σ' he hr hs hg
  refine wpAny_While (codeAny_whileLoop (fun k s' => ∃ σ₁, PS hb env U σ val s .next σ₁ .next s' ∧ whileP ft g k σ₁ = some (fl, σ')) ?_ n ⟨σ, .start hs, hg⟩)
  intro k s₁ q
  obtain ⟨σ₁, P, hg₁⟩ := q
  cases k with
  | zero => exact nn hg₁
  | succ k =>
    refine P.go fun val₁ hs₁ up => bindE (show Option.bind _ _ = some _ from hg₁) fun c hc hg₁ => ht.to he hr hs₁ hc fun s₂ x hs₂ => ?_
    cases c with
    | false =>
      cases hg₁
      exact wpAny_execs_nil (up (.after x (.start hs₂)))
    | true =>
      refine bindE (show Option.bind _ _ = some _ from hg₁) fun r hg₂ hg₁ => ?_
      obtain ⟨fl₁, σ₂⟩ := r
      refine h.to he hr hs₂ hg₂ fun f s₃ q => ?_
      have q := up (q.after x)
      induction fl₁ with
      | next => obtain rfl : f = .next := q.flow; exact ⟨k, Nat.lt_succ_self _, σ₂, q, hg₁⟩
      | cont => obtain rfl : f = .cont := q.flow; exact ⟨k, Nat.lt_succ_self _, σ₂, q.go fun _ hs _ => let ⟨v, a, _, c, d⟩ := q; ⟨v, a, rfl, c, d⟩, hg₁⟩
      | brk => obtain rfl : f = .brk := q.flow; cases hg₁; exact let ⟨v, a, _, c, d⟩ := q; ⟨v, a, rfl, c, d⟩
      | ret p => obtain ⟨v, rfl, _⟩ := q.flow; cases hg₁; exact q
/-- the store into one target -/
noncomputable def TG (prog : Program) (w : World) (hb : Heap) (sc : Scope) (t : Expr) (i : Nat) : Prop :=
  ∀ (env : Env) (A : Around) (E : Value → Shared → Prop) (s : Shared) (U : Addr → Prop) (σ : List Sl) (val : Nat → Option Value) (p : PV) (v : Value) (Q : Unit → Shared → Prop),
    EnvOk sc env → SR hb env U σ val s → RV s.heap (Av U σ val) p v → i < σ.length →
    (∀ s', SR hb env U (σ.set i (.pv p)) (upd val i v) s' → Chg (Mut env σ val) no s s' → Q () s') → wpAny (model prog w) A (assign t env v) Q E s
theorem TG.loc {x : Str} {xp : Pos} {i : Nat} (hn : nameAt sc.names x = some (i, .local)) : TG prog w hb sc (.Name x xp) i :=
  fun env A E s U σ val p v Q he hs hv hi h => wpAny_assign_Name (st_loc he hs hn hv hi fun s' a b => h s' a b.locMut)
theorem TG.cel {x : Str} {xp : Pos} {i : Nat} (hn : nameAt sc.names x = some (i, .cell)) : TG prog w hb sc (.Name x xp) i :=
  fun env A E s U σ val p v Q he hs hv hi h => wpAny_assign_Name (st_cel he hs hn hv hi h)
noncomputable def setMany : List Nat → List PV → List Sl → Option (List Sl)
  | [], ps, σ => (match ps with
    | [] => some σ
    | _ :: _ => none)
  | i :: is, ps, σ => (match ps with
    | [] => none
    | p :: ps => (setS i p σ).bind (setMany is ps))
noncomputable def TGs (prog : Program) (w : World) (hb : Heap) (sc : Scope) (ts : List Expr) (is : List Nat) : Prop :=
  ts.length = is.length ∧ ∀ (env : Env) (A : Around) (E : Value → Shared → Prop) (s : Shared) (U : Addr → Prop) (σ σ' : List Sl) (val : Nat → Option Value) (ps : List PV) (vs : List Value) (Q : Unit → Shared → Prop),
    EnvOk sc env → SR hb env U σ val s → RVs s.heap (Av U σ val) ps vs → setMany is ps σ = some σ' →
    (∀ s' val', SR hb env U σ' val' s' → Chg (Mut env σ val) no s s' → (∀ a, Owned σ' val' a → Owned σ val a) → Q () s') → wpAny (model prog w) A (assignInOrder ((assignEach ts env).map (·.2)) vs) Q E s
theorem TGs.nil : TGs prog w hb sc [] [] := ⟨rfl, fun env A E s U σ σ' val ps vs Q he hs hv hm h => by
  cases ps with
  | nil => cases hm; exact wpAny_pure (h s val hs (Chg.refl _) fun a h => h)
  | cons p ps => exact nn hm⟩
/-- what a store into the frame leaves alone -/
theorem SR.notSeq {env : Env} {U : Addr → Prop} {σ : List Sl} {val : Nat → Option Value} {s : Shared} (hs : SR hb env U σ val s) {b : Addr} {o : Obj} (hV : ¬ Av U σ val b) (hq : IsSeq o) (e : s.heap.get? b = some o) : ¬ Mut env σ val b := fun q => by
  rcases q with q | ⟨x, q⟩ | q
  · obtain ⟨m, hns, _⟩ := hs.ns; exact ns_nseq hns o (q ▸ e) hq
  · obtain ⟨v', hv'⟩ := hs.cellOk x b q; exact isCell_nseq hv' o e hq
  · exact hV (.inr q)
theorem TGs.cons {t : Expr} {ts : List Expr} {i : Nat} {is : List Nat} (h₁ : TG prog w hb sc t i) (h₂ : TGs prog w hb sc ts is) (hst : ∀ env, assignEach (t :: ts) env = (false, assign t env) :: assignEach ts env) :
    TGs prog w hb sc (t :: ts) (i :: is) := ⟨congrArg (· + 1) h₂.1, fun env A E s U σ σ' val ps vs Q he hs hv hm h => by
  cases ps with
  | nil => exact nn hm
  | cons p ps =>
    refine hv.c fun v r hv1 hv2 => bindE (show Option.bind _ _ = some _ from hm) fun σ₁ hσ hm => setS_rv hσ fun hi hσ => ?_
    rw [hst]
    refine wpAny_bind (wpAny_holding (h₁ env A E s U σ val p v _ he hs hv1 hi fun s₁ hs₁ c₁ => ?_))
    rw [hσ] at hs₁
    have ow : ∀ a, Owned σ₁ (upd val i v) a → Owned σ val a := fun a h => owned_set (hσ.symm ▸ h)
    refine h₂.2 env A E s₁ U _ σ' _ ps r Q he hs₁ (RVs.keep (fun b o hV hq e => ⟨c₁.heap b o (hs.notSeq hV hq e) e, fun q => hV (q.imp id (ow b))⟩) _ _ hv2) hm fun s₂ val₂ hs₂ c₂ o₂ => ?_
    exact h s₂ val₂ hs₂ (PS.trans (U := U) c₁ (fun a h => .inl (ow a h)) c₂ fun a h => .inl (o₂ a h)).1 fun a ha => ow a (o₂ a ha)⟩
/-- what a loop hands to its target -/
inductive Itm where
  | one (p : PV)
  | two (p q : PV)
noncomputable def ItmIs (h : Heap) (V : Addr → Prop) : Itm → Value → Prop
  | .one p, v => RV h V p v
  | .two p q, v => ∃ T x y, v = .ref T ∧ h.IsTuple T #[x, y] ∧ RV h V p x ∧ RV h V q y
/-- a target: a name, or names in a tuple -/
noncomputable def TT (prog : Program) (w : World) (hb : Heap) (sc : Scope) (t : Expr) (tp : Itm → List Sl → Option (List Sl)) : Prop :=
  ∀ (env : Env) (A : Around) (E : Value → Shared → Prop) (s : Shared) (U : Addr → Prop) (σ σ' : List Sl) (val : Nat → Option Value) (p : Itm) (v : Value) (Q : Unit → Shared → Prop),
    EnvOk sc env → A.handled = none → SR hb env U σ val s → ItmIs s.heap (Av U σ val) p v → tp p σ = some σ' →
    (∀ s' val', SR hb env U σ' val' s' → Chg (Mut env σ val) no s s' → (∀ a, Owned σ' val' a → Owned σ val a) → Q () s') → wpAny (model prog w) A (assign t env v) Q E s
noncomputable def oneP (i : Nat) (x : Itm) (σ : List Sl) : Option (List Sl) := match x with
  | .one p => setS i p σ
  | .two _ _ => none
theorem TT.one {t : Expr} {i : Nat} (h : TG prog w hb sc t i) : TT prog w hb sc t (oneP i) :=
  fun env A E s U σ σ' val p v Q he hh hs hv hm hQ => match p, hv, hm with
    | .one p, hv, hm => setS_rv hm fun hi hm => h env A E s U σ val p v Q he hs hv hi fun s' a b => hQ s' _ (hm ▸ a) b fun a h => owned_set (hm.symm ▸ h)
    | .two _ _, _, hm => nn hm
noncomputable def manyP (is : List Nat) (x : Itm) (σ : List Sl) : Option (List Sl) := match x with
  | .one p => p.ot fun l => setMany is l σ
  | .two p q => setMany is [p, q] σ
theorem setMany_len {is : List Nat} : ∀ {ps : List PV} {σ σ' : List Sl}, setMany is ps σ = some σ' → is.length = ps.length := by
  induction is with
  | nil => exact fun {ps _ _} => match ps with
    | [] => fun _ => rfl
    | _ :: _ => nn
  | cons i is ih => exact fun {ps _ _} => match ps with
    | [] => nn
    | _ :: _ => fun h => bindE (show Option.bind _ _ = some _ from h) fun _ _ h => congrArg (· + 1) (ih h)
theorem TT.many {ts : List Expr} {is : List Nat} {k : Nat} {pos : Pos} (h : TGs prog w hb sc ts is) (hlen : ∀ env, (assignEach ts env).length = ts.length) (hstar : ∀ env, (assignEach ts env).findIdx? (·.1) = none) :
    TT prog w hb sc (.Tuple ts k pos) (manyP is) := by
  intro env A E s U σ σ' val p v Q he hh hs hv hm hQ
  have main : ∀ (ps : List PV) (vs : List Value) (T : Addr), s.heap.IsTuple T vs.toArray → RVs s.heap (Av U σ val) ps vs → setMany is ps σ = some σ' → wpAny (model prog w) A (assign (.Tuple ts k pos) env (.ref T)) Q E s := by
    intro ps vs T hT hps hm
    refine wpAny_assign_Tuple hh hT (by rw [hlen, h.1, setMany_len hm, List.size_toArray, hps.length]) (hstar env) fun h' hx => ?_
    have x : Ext s { s with heap := h' } := ext_of_keep (tk := s.toks) fun b o e => hx b o (fun q => nn (fresh_none.symm.trans (q ▸ e))) e
    exact h.2 env A E _ U σ σ' val ps vs Q he (hs.ext x) (hps.ext x) hm fun s' val' a b c => hQ s' val' a ((Ext.to x).trans b) c
  induction p with
  | one p => exact ot_rv (f := fun l => setMany is l σ) (G := fun v => wpAny (model prog w) A (assign (.Tuple ts k pos) env v) Q E s) hm hv fun l a vs n _ hg hr hm => main l vs a (isTuple_of hg) hr hm
  | two p q =>
    obtain ⟨T, x, y, rfl, hT, h1, h2⟩ := hv
    exact main [p, q] [x, y] T hT (RVs.cons h1 (RVs.cons h2 RVs.nil)) hm
/-- a, b, .. = a tuple or a list -/
theorem XS.unpack {ts : List Expr} {is : List Nat} {k : Nat} {tpos pos : Pos} {e : Expr} {f : List Sl → Option PV} (ht : TGs prog w hb sc ts is) (h : XE prog w hb sc lv e f)
    (hlen : ∀ env, (assignEach ts env).length = ts.length) (hstar : ∀ env, (assignEach ts env).findIdx? (·.1) = none)
    (hsw : ∀ env, swapsWithSole [.Tuple ts k tpos] e pos.line env = pure false) (hsp : ∀ env, swappedStores [.Tuple ts k tpos] e env = pure none) :
    XS prog w hb sc lv (.Assign [.Tuple ts k tpos] e pos) (fun σ => (f σ).bind fun p => (manyP is (.one p) σ).map fun σ' => (.next, σ')) := by
  intro env A E s U σ val fl σ' he hr hs hg
  refine bindE hg fun p hp hg => ?_
  obtain ⟨σ₁, hσ, hg⟩ := Option.map_eq_some_iff.mp hg
  cases hg
  refine wpAny_Assign_stores (h.to he hr hs hp fun v s₁ x₁ r₁ hs₁ => ?_) (hsw env) (hsp env)
  exact TT.many (k := k) (pos := tpos) ht hlen hstar env A E s₁ U σ σ' val (.one p) v _ he hr.1 hs₁ r₁ hσ fun s₂ val₂ hs₂ c₂ o₂ => ⟨val₂, hs₂, rfl, (Ext.to x₁).trans c₂, fun a h => .inl (o₂ a h)⟩
/-- try: body except ..: the body ends without an exception -/
theorem XS.tri {b : List Stmt} {h₀ : ExceptHandler} {hs' : List ExceptHandler} {pos : Pos} {g : List Sl → Option (PF × List Sl)} (h : XSs prog w hb sc lv b g) :
    XS prog w hb sc lv (.Try b (h₀ :: hs') [] [] pos) g :=
  fun env A E s U σ val fl σ' he hr hs hg => wpAny_Try_except (wpAny_mono (h env A _ s U σ val fl σ' he hr hs hg) (fun f s₁ => match f with
    | .next => wpAny_execs_nil
    | .brk => id
    | .cont => id
    | .ret _ => id) fun Z Z x => x)
end
/-- a change that may let go of what it owns -/
structure ChgW (M : Addr → Prop) (G : Nat → Prop) (s s' : Shared) : Prop where
  heap : ∀ b o, ¬ M b → s.heap.get? b = some o → s'.heap.get? b = some o
  gens : ∀ i x, ¬ G i → s.gens[i]? = some x → s'.gens[i]? = some x
  gsz : s.gens.size ≤ s'.gens.size
  bare : (∀ x ∈ s.gens, x.bare = true) → ∀ x ∈ s'.gens, x.bare = true
  os : s'.os = s.os
theorem Chg.toW {M : Addr → Prop} {G : Nat → Prop} {s s' : Shared} (c : Chg M G s s') : ChgW M G s s' := ⟨c.heap, c.gens, c.gsz, c.bare, c.os⟩
theorem Chg.afterW {M T : Addr → Prop} {G : Nat → Prop} {s s₁ s₂ : Shared} (c : Chg M no s s₁) (d : ChgW T G s₁ s₂) (hT : ∀ b, T b → s.heap.get? b = none) (hG : ∀ i, G i → s.gens.size ≤ i) : Chg M no s s₂ where
  heap := fun b o hM e => d.heap b o (fun q => by rw [hT b q] at e; cases e) (c.heap b o hM e)
  ex := fun b ⟨o, e⟩ => by
    obtain ⟨o', e'⟩ := c.ex b ⟨o, e⟩
    exact ⟨o', d.heap b o' (fun q => by rw [hT b q] at e; cases e) e'⟩
  gens := fun i x hG' e => d.gens i x (fun q => by
    have h1 := hG i q
    have h2 := (Array.getElem?_eq_some_iff.mp e).1
    omega) (c.gens i x hG' e)
  gsz := Nat.le_trans c.gsz d.gsz
  bare := fun h => d.bare (c.bare h)
  os := d.os.trans c.os
structure Stands (D : Addr → Prop) (G : Nat → Prop) (s s' : Shared) : Prop where
  heap : ∀ b o, D b → s.heap.get? b = some o → s'.heap.get? b = some o
  gens : ∀ i x, G i → s.gens[i]? = some x → s'.gens[i]? = some x
theorem Stands.refl {D : Addr → Prop} {G : Nat → Prop} (s : Shared) : Stands D G s s := ⟨fun Z Z Z e => e, fun Z Z Z e => e⟩
theorem Stands.trans {D : Addr → Prop} {G : Nat → Prop} {s s₁ s₂ : Shared} (a : Stands D G s s₁) (b : Stands D G s₁ s₂) : Stands D G s s₂ :=
  ⟨fun c o h e => b.heap c o h (a.heap c o h e), fun i x h e => b.gens i x h (a.gens i x h e)⟩
theorem Chg.stands {D M : Addr → Prop} {G G' : Nat → Prop} {s s' : Shared} (c : Chg M G' s s') (h : ∀ b, D b → ¬ M b) (hg : ∀ i, G i → ¬ G' i) : Stands D G s s' :=
  ⟨fun b o hb e => c.heap b o (h b hb) e, fun i x hi e => c.gens i x (hg i hi) e⟩
section
variable {prog : Program} {w : World} {hb : Heap} {sc : Scope} {lv : Nat} {env : Env} {U : Addr → Prop} {σ : List Sl} {val : Nat → Option Value} {s s' : Shared}
theorem SR.mut_has (hs : SR hb env U σ val s) {b : Addr} (h : Mut env σ val b) : Has s.heap b := by
  rcases h with h | ⟨x, h⟩ | h
  · obtain ⟨o, es, ep, e, Z⟩ := hs.loc_has; exact ⟨o, h ▸ e⟩
  · obtain ⟨v, o, e, Z⟩ := hs.cellOk x b h; exact ⟨o, e⟩
  · obtain ⟨vs, n, e⟩ := hs.owned_has h; exact ⟨_, e⟩
theorem SR.hb_none (hs : SR hb env U σ val s) {b : Addr} (h : s.heap.get? b = none) : hb.get? b = none := by
  cases e : hb.get? b with
  | none => rfl
  | some o => have := hs.base b o e; rw [h] at this; cases this
theorem SR.moved {U' T : Addr → Prop} (hs : SR hb env U σ val s) (hT : ∀ b, T b → U b) (hk : ∀ b o, ¬ T b → s.heap.get? b = some o → s'.heap.get? b = some o)
    (hU : ∀ b, U' b → U b ∨ s.heap.get? b = none) (hex : ∀ b, U' b → Has s'.heap b) : SR hb env U' σ val s' := by
  have nM : ∀ b, Mut env σ val b → ¬ T b := fun b m q => hs.un b m (hT b q)
  have keep : ∀ b o, ¬ Av U σ val b → IsSeq o → s.heap.get? b = some o → s'.heap.get? b = some o ∧ ¬ Av U' σ val b := fun b o hV hq e =>
    ⟨hk b o (fun q => hV (.inl (hT b q))) e, fun q => by
      rcases q with q | q
      · rcases hU b q with q | q
        · exact hV (.inl q)
        · rw [q] at e; cases e
      · exact hV (.inr q)⟩
  refine ⟨hs.nl, fun b o e => hk b o (fun q => by have := (hs.uex b (hT b q)).2; rw [this] at e; cases e) (hs.base b o e), ?_, fun i y hy => ?_, fun y c hc => ?_, fun j => ?_, hs.apart, fun b q => ⟨hex b q, ?_⟩, fun b m q => ?_, hs.hbn⟩
  · obtain ⟨m, hn, hm⟩ := hs.ns
    exact ⟨m, hn.at' fun o e => hk _ o (nM _ (.inl rfl)) e, hm⟩
  · obtain ⟨c, hc, ⟨o, e, r⟩⟩ := hs.cell i y hy
    exact ⟨c, hc, ⟨o, hk c o (nM _ (.inr (.inl ⟨y, hc⟩))) e, r⟩⟩
  · obtain ⟨v, ⟨o, e, r⟩⟩ := hs.cellOk y c hc
    exact ⟨v, ⟨o, hk c o (nM _ (.inr (.inl ⟨y, hc⟩))) e, r⟩⟩
  · have q := hs.slot j
    cases hsl : σ.getD j .un with
    | un => trivial
    | pv p' => rw [hsl] at q; obtain ⟨y, hy, hr'⟩ := q; exact ⟨y, hy, RV.keep keep _ _ hr'⟩
    | own l₂ =>
      rw [hsl] at q
      obtain ⟨a₂, vs₂, n₂, hy, hg₂, hr₂⟩ := q
      have hl₂ : σ[j]? = some (.own l₂) := by
        rw [List.getD_eq_getElem?_getD] at hsl
        cases h : σ[j]? with
        | none => rw [h] at hsl; cases hsl
        | some x => rw [h] at hsl; simp only [Option.getD_some] at hsl; rw [hsl]
      exact ⟨a₂, vs₂, n₂, hy, hk a₂ _ (nM _ (.inr (.inr ⟨j, l₂, hl₂, hy⟩))) hg₂, RVs.keep keep _ _ hr₂⟩
  · rcases hU b q with q | q
    · exact (hs.uex b q).2
    · exact hs.hb_none q
  · rcases hU b q with q | q
    · exact hs.un b m q
    · obtain ⟨o, e⟩ := hs.mut_has m; rw [q] at e; cases e
/-- what the loop does with the next item -/
noncomputable def nextQ (prog : Program) (w : World) (A : Around) (t : Expr) (it : Value) (E : Value → Shared → Prop) (Q : Option Value → Shared → Prop) : Option Value → Shared → Prop
  | none, s => Q none s
  | some v, s => wpAny (model prog w) A (letOwnedTupleGo t it v) (fun Z s' => Q (some v) s') E s
/-- the iterator will hand out these items -/
noncomputable def Itr (prog : Program) (w : World) (hb : Heap) (lv : Nat) (A : Around) (t : Expr) (V : Addr → Prop) (it : Value) (D : Addr → Prop) (G : Nat → Prop) : List Itm → (Addr → Prop) → Shared → Prop
  | [], T, s => ∀ (E : Value → Shared → Prop) (s' : Shared) (Q : Option Value → Shared → Prop), (∀ b o, hb.get? b = some o → s'.heap.get? b = some o) → Stands (fun b => D b ∨ T b) G s s' →
      (∀ s'', ChgW T G s' s'' → Q none s'') → wpAny (model prog w) A (pyNext it) (nextQ prog w A t it E Q) E s'
  | x :: xs, T, s => ∀ (E : Value → Shared → Prop) (s' : Shared) (Q : Option Value → Shared → Prop), (∀ b o, hb.get? b = some o → s'.heap.get? b = some o) → Stands (fun b => D b ∨ T b) G s s' →
      (∀ v s'' T', Chg T G s' s'' → (∀ b, T b → T' b) → (∀ b, T' b → T b ∨ s'.heap.get? b = none) → (∀ b, T' b → Has s''.heap b) → ItmIs s''.heap V x v → Itr prog w hb lv A t V it D G xs T' s'' → Q (some v) s'') →
      wpAny (model prog w) A (pyNext it) (nextQ prog w A t it E Q) E s'
theorem Itr.stands {A : Around} {t : Expr} {V D T : Addr → Prop} {it : Value} {G : Nat → Prop} {xs : List Itm} (h : Itr prog w hb lv A t V it D G xs T s) (c : Stands (fun b => D b ∨ T b) G s s') : Itr prog w hb lv A t V it D G xs T s' := by
  cases xs with
  | nil => exact fun E s₁ Q hb' c' hQ => h E s₁ Q hb' (c.trans c') hQ
  | cons x xs => exact fun E s₁ Q hb' c' hQ => h E s₁ Q hb' (c.trans c') hQ
/-- iter(it) is it -/
noncomputable def Selfed (prog : Program) (w : World) (it : Value) (D : Addr → Prop) (s : Shared) : Prop :=
  ∀ (A : Around) (E : Value → Shared → Prop) (s' : Shared) (Q : Value → Shared → Prop), (∀ b o, D b → s.heap.get? b = some o → s'.heap.get? b = some o) → Q it s' → wpAny (model prog w) A (pyIter it) Q E s'
inductive IterOk (prog : Program) (w : World) (hb : Heap) (lv : Nat) (A : Around) (env : Env) (U : Addr → Prop) (σ : List Sl) (val : Nat → Option Value) (t : Expr) (s : Shared) (items : List Itm) (it : Value) (s₂ : Shared) : Prop
  | mk (x : Ext s s₂) (D T : Addr → Prop) (G : Nat → Prop) (hD : ∀ b, D b → Has s₂.heap b ∧ ¬ Mut env σ val b ∧ ¬ U b) (hT : ∀ b, T b → s.heap.get? b = none ∧ Has s₂.heap b) (hG : ∀ i, G i → s.gens.size ≤ i)
    (hI : Itr prog w hb lv A t (fun a => Av U σ val a ∨ T a ∨ s₂.heap.get? a = none) it D G items T s₂) (hS : Selfed prog w it T s₂) : IterOk prog w hb lv A env U σ val t s items it s₂
/-- the iterable: its items are f of the frame -/
noncomputable def XI (prog : Program) (w : World) (hb : Heap) (sc : Scope) (lv : Nat) (t e : Expr) (f : List Sl → Option (List Itm)) : Prop :=
  ∀ (env : Env) (A : Around) (E : Value → Shared → Prop) (s : Shared) (U : Addr → Prop) (σ : List Sl) (val : Nat → Option Value) (items : List Itm),
    EnvOk sc env → Room lv A → SR hb env U σ val s → f σ = some items →
    wpAny (model prog w) A (eval e env) (fun x s₁ => wpAny (model prog w) A (pyIter x) (IterOk prog w hb lv A env U σ val t s items) E s₁) E s
noncomputable def forP (tp : Itm → List Sl → Option (List Sl)) (g gE : List Sl → Option (PF × List Sl)) : List Itm → List Sl → Option (PF × List Sl)
  | [], σ => gE σ
  | x :: xs, σ => (tp x σ).bind fun σ₁ => (g σ₁).bind fun r => match r with
    | (.next, σ') => forP tp g gE xs σ'
    | (.cont, σ') => forP tp g gE xs σ'
    | (.brk, σ') => some (.next, σ')
    | (.ret p, σ') => some (.ret p, σ')
theorem ItmIs.weak {h : Heap} {V V' : Addr → Prop} {x : Itm} {v : Value} (y : ItmIs h V x v) (hv : ∀ a, V' a → V a ∨ h.get? a = none) : ItmIs h V' x v := by
  cases x with
  | one p => exact RV.weak y hv
  | two p q => obtain ⟨T, a, b, rfl, hT, h1, h2⟩ := y; exact ⟨T, a, b, rfl, hT, h1.weak hv, h2.weak hv⟩
theorem FlowIs.weak {h : Heap} {V V' : Addr → Prop} {fl : PF} {f : Flow} (y : FlowIs h V fl f) (hv : ∀ a, V' a → V a ∨ h.get? a = none) : FlowIs h V' fl f := by
  cases fl with
  | ret p => obtain ⟨v, rfl, hr⟩ := y; exact ⟨v, rfl, hr.weak hv⟩
  | _ => exact y
theorem Itr.useNil {A : Around} {E : Value → Shared → Prop} {t : Expr} {V D T : Addr → Prop} {it : Value} {G : Nat → Prop} {N : Shared → Prop} {S : Value → Shared → Prop} (h : Itr prog w hb lv A t V it D G [] T s) (hb' : ∀ b o, hb.get? b = some o → s.heap.get? b = some o)
    (hQ : ∀ s'', ChgW T G s s'' → N s'') : wpAny (model prog w) A (pyNext it) (fun r s₁ => match r with | none => N s₁ | some v => wpAny (model prog w) A (letOwnedTupleGo t it v) (fun Z s₂ => S v s₂) E s₁) E s := by
  refine wpAny_mono (h E s (fun r s => match r with | none => N s | some v => S v s) hb' (Stands.refl _) hQ) (fun r s q => ?_) fun Z Z x => x
  cases r <;> exact q
theorem Itr.useCons {A : Around} {E : Value → Shared → Prop} {t : Expr} {V D T : Addr → Prop} {it : Value} {G : Nat → Prop} {x : Itm} {xs : List Itm} {N : Shared → Prop} {S : Value → Shared → Prop} (h : Itr prog w hb lv A t V it D G (x :: xs) T s) (hb' : ∀ b o, hb.get? b = some o → s.heap.get? b = some o)
    (hQ : ∀ v s'' T', Chg T G s s'' → (∀ b, T b → T' b) → (∀ b, T' b → T b ∨ s.heap.get? b = none) → (∀ b, T' b → Has s''.heap b) → ItmIs s''.heap V x v → Itr prog w hb lv A t V it D G xs T' s'' → S v s'') :
    wpAny (model prog w) A (pyNext it) (fun r s₁ => match r with | none => N s₁ | some v => wpAny (model prog w) A (letOwnedTupleGo t it v) (fun Z s₂ => S v s₂) E s₁) E s := by
  refine wpAny_mono (h E s (fun r s => match r with | none => N s | some v => S v s) hb' (Stands.refl _) hQ) (fun r s q => ?_) fun Z Z x => x
  cases r <;> exact q
theorem Ext.none {s s' : Shared} (x : Ext s s') {b : Addr} (h : s'.heap.get? b = none) : s.heap.get? b = none := by
  cases e : s.heap.get? b with
  | none => rfl
  | some o => have := x.heap b o (fun q => q) e; rw [h] at this; cases this
theorem Chg.none {M : Addr → Prop} {G : Nat → Prop} {s s' : Shared} (x : Chg M G s s') {b : Addr} (h : s'.heap.get? b = none) : s.heap.get? b = none := by
  cases e : s.heap.get? b with
  | none => rfl
  | some o => obtain ⟨o', e'⟩ := x.ex b ⟨o, e⟩; rw [h] at e'; cases e'
theorem XS.for {t iter : Expr} {body orelse : List Stmt} {pos : Pos} {fi : List Sl → Option (List Itm)} {tp : Itm → List Sl → Option (List Sl)} {g gE : List Sl → Option (PF × List Sl)}
    (hi : XI prog w hb sc lv t iter fi) (ht : TT prog w hb sc t tp) (h : XSs prog w hb sc lv body g) (hE : XSs prog w hb sc lv orelse gE) (hset : ∀ env x, foldedSetIterable iter env x = pure x) :
    XS prog w hb sc lv (.For t iter body orelse pos) (fun σ => (fi σ).bind fun xs => forP tp g gE xs σ) := by
  intro env A E s U σ val fl σ' he hr hs hg
  refine bindE hg fun xs hxs hg => ?_
  refine wpAny_For (wpAny_mono (hi env A E s U σ val xs he hr hs hxs) (fun x s₁ q => wpAny_mono q (fun it s₂ q₂ => ?_) fun Z Z x => x) fun Z Z x => x) (hset env)
  obtain ⟨x₂, D, T, G, hD, hT, hG, hI, Z⟩ := q₂
  have UT : ∀ b, U b → ¬ T b := fun b h q => by obtain ⟨o, e⟩ := (hs.uex b h).1; rw [(hT b q).1] at e; cases e
  have fresh₂ : ∀ b, s₂.heap.get? b = none → s.heap.get? b = none := fun b h => x₂.none h
  refine codeAny_forLoop_any (fun n s₁ => ∃ xs σ₁ val₁ T₁, n = xs.length ∧ SR hb env (fun b => U b ∨ T₁ b) σ₁ val₁ s₁ ∧ forP tp g gE xs σ₁ = some (fl, σ') ∧
      Itr prog w hb lv A t (fun a => Av U σ val a ∨ T a ∨ s₂.heap.get? a = none) it D G xs T₁ s₁ ∧ (∀ b, T₁ b → T b ∨ s₂.heap.get? b = none) ∧ (∀ b, s₁.heap.get? b = none → s₂.heap.get? b = none) ∧
      Chg (Mut env σ val) no s s₁ ∧ ∀ a, Owned σ₁ val₁ a → Owned σ val a ∨ s₂.heap.get? a = none) ?_ xs.length ⟨xs, σ, val, T, rfl, ?_, hg, hI, fun b h => .inl h, fun b h => h, Ext.to x₂, fun a h => .inl h⟩
  · rintro n s₃ ⟨xs₃, σ₃, val₃, T₃, rfl, hs₃, hg₃, hI₃, hT₃, hf₃, c₃, o₃⟩
    have T₃s : ∀ b, T₃ b → s.heap.get? b = none := fun b h => (hT₃ b h).elim (fun h => (hT b h).1) (fresh₂ b)
    have UT₃ : ∀ b, U b → ¬ T₃ b := fun b h q => by obtain ⟨o, e⟩ := (hs.uex b h).1; rw [T₃s b q] at e; cases e
    have o₃s : ∀ a, Owned σ₃ val₃ a → Owned σ val a ∨ s.heap.get? a = none := fun a h => (o₃ a h).imp id (fresh₂ a)
    have DM : ∀ b, D b → ∀ σ₄ val₄, (∀ a, Owned σ₄ val₄ a → Owned σ₃ val₃ a) → ¬ Mut env σ₄ val₄ b := fun b hb₁ σ₄ val₄ ho m => by
      obtain ⟨⟨o, e⟩, nm, Z⟩ := hD b hb₁
      rcases m with m | m | m
      · exact nm (.inl m)
      · exact nm (.inr (.inl m))
      · rcases o₃ b (ho b m) with q | q
        · exact nm (.inr (.inr q))
        · rw [q] at e; cases e
    cases xs₃ with
    | nil =>
      refine hI₃.useNil hs₃.base fun s₄ c₄ => ?_
      have hs₄ : SR hb env U σ₃ val₃ s₄ := hs₃.moved (T := T₃) (fun b h => .inr h) (fun b o h e => c₄.heap b o h e) (fun b h => .inl (.inl h)) fun b h => by
        obtain ⟨o, e⟩ := (hs₃.uex b (.inl h)).1
        exact ⟨o, c₄.heap b o (UT₃ b h) e⟩
      have c₅ := c₃.afterW c₄ T₃s hG
      refine wpAny_mono (hE env A _ s₄ U σ₃ val₃ fl σ' he hr hs₄ hg₃) (fun f s₅ q => ?_) fun Z Z x => x
      obtain ⟨val', a, b, c, d⟩ := q
      obtain ⟨c', d'⟩ := PS.trans (U := U) c₅ o₃s c d
      exact ⟨val', a, b, c', d'⟩
    | cons x xs₃ =>
      simp only [forP] at hg₃
      refine bindE hg₃ fun σ₄ hσ₄ hg₃ => ?_
      obtain ⟨⟨fl₅, σ₅⟩, hg₅, hg₃⟩ := Option.bind_eq_some_iff.mp hg₃
      refine hI₃.useCons hs₃.base fun v s₄ T₄ c₄ hTT hT₄ hT₄x hv hI₄ => ?_
      have hs₄ : SR hb env (fun b => U b ∨ T₄ b) σ₃ val₃ s₄ := hs₃.moved (T := T₃) (fun b h => .inr h) (fun b o h e => c₄.heap b o h e) (fun b h => by
        rcases h with h | h
        · exact .inl (.inl h)
        · exact (hT₄ b h).imp .inr id) fun b h => by
        rcases h with h | h
        · exact c₄.ex b (hs₃.uex b (.inl h)).1
        · exact hT₄x b h
      have hT₄' : ∀ b, T₄ b → T b ∨ s₂.heap.get? b = none := fun b h => (hT₄ b h).elim (hT₃ b) fun q => .inr (hf₃ b q)
      have c₅ := c₃.afterW c₄.toW T₃s hG
      refine ht env A _ s₄ (fun b => U b ∨ T₄ b) σ₃ σ₄ val₃ x v _ he hr.1 hs₄ (hv.weak fun a h => .inl ?_) hσ₄ fun s₅ val₅ hs₅ c₆ o₅ => ?_
      · rcases h with (h | h) | h
        · exact .inl (.inl h)
        · exact .inr (hT₄' a h)
        · rcases o₃ a h with q | q
          · exact .inl (.inr q)
          · exact .inr (.inr q)
      have nD : ∀ b, D b ∨ T₄ b → ∀ σ₆ val₆ s₆, SR hb env (fun b => U b ∨ T₄ b) σ₆ val₆ s₆ → (∀ a, Owned σ₆ val₆ a → Owned σ₃ val₃ a) → ¬ Mut env σ₆ val₆ b := fun b h σ₆ val₆ s₆ hs₆ ho m => by
        rcases h with h | h
        · exact DM b h σ₆ val₆ ho m
        · exact hs₆.un b m (.inr h)
      have hI₅ := hI₄.stands (c₆.stands (fun b h => nD b h _ _ _ hs₄ fun a h => h) fun Z Z h => h.elim)
      refine wpAny_mono (h env A _ s₅ (fun b => U b ∨ T₄ b) σ₄ val₅ fl₅ σ₅ he hr hs₅ hg₅) (fun f s₆ q => ?_) fun Z Z x => x
      obtain ⟨val₆, hs₆, hf₆, c₇, o₆⟩ := q
      have hI₆ := hI₅.stands (c₇.stands (fun b h => nD b h _ _ _ hs₅ o₅) fun Z Z h => h.elim)
      obtain ⟨c₈, o₈⟩ := PS.trans (U := U) c₅ o₃s c₆ fun a h => .inl (o₅ a h)
      obtain ⟨c₉, o₉⟩ := PS.trans (U := U) c₈ o₈ c₇ o₆
      have o₁₀ : ∀ a, Owned σ₅ val₆ a → Owned σ val a ∨ s₂.heap.get? a = none := fun a h => (o₆ a h).elim (fun q => o₃ a (o₅ a q)) fun q => .inr (hf₃ a (c₄.none (c₆.none q)))
      have done : SR hb env U σ₅ val₆ s₆ := hs₆.subU fun b h => .inl h
      have again : forP tp g gE xs₃ σ₅ = some (fl, σ') → ∃ m, m < (x :: xs₃).length ∧ ∃ xs σ₁ val₁ T₁, m = xs.length ∧ SR hb env (fun b => U b ∨ T₁ b) σ₁ val₁ s₆ ∧ forP tp g gE xs σ₁ = some (fl, σ') ∧
          Itr prog w hb lv A t (fun a => Av U σ val a ∨ T a ∨ s₂.heap.get? a = none) it D G xs T₁ s₆ ∧ (∀ b, T₁ b → T b ∨ s₂.heap.get? b = none) ∧ (∀ b, s₆.heap.get? b = none → s₂.heap.get? b = none) ∧
          Chg (Mut env σ val) no s s₆ ∧ ∀ a, Owned σ₁ val₁ a → Owned σ val a ∨ s₂.heap.get? a = none := fun hg₃ =>
        ⟨xs₃.length, Nat.lt_succ_self _, xs₃, σ₅, val₆, T₄, rfl, hs₆, hg₃, hI₆, hT₄', fun b q => hf₃ b (c₄.none (c₆.none (c₇.none q))), c₉, o₁₀⟩
      cases fl₅ with
      | next => have : f = .next := hf₆; subst this; exact again hg₃
      | cont => have : f = .cont := hf₆; subst this; exact again hg₃
      | brk => have : f = .brk := hf₆; subst this; cases hg₃; exact ⟨val₆, done, rfl, c₉, o₉⟩
      | ret p => obtain ⟨v', rfl, hv'⟩ := hf₆; cases hg₃; exact ⟨val₆, done, ⟨v', rfl, hv'.weak fun b h => .inl (.inl h)⟩, c₉, o₉⟩
  · exact hs.moved (T := no) (fun Z h => h.elim) (fun b o Z e => x₂.heap b o (fun q => q) e) (fun b h => h.imp id fun h => (hT b h).1) (fun b h => h.elim (fun h => x₂.ex b (hs.uex b h).1) fun h => (hT b h).2)
end
section
variable {prog : Program} {w : World} {hb : Heap} {sc : Scope} {lv : Nat}
noncomputable def plainIter (h : Heap) (I : Addr) : Prop := ∃ o n, h.get? I = some o ∧ o.cls = .type n ∧ (["enumerate", "zip", "dict_itemiterator", "dict_reverseitemiterator", "odict_iterator", "itertools.zip_longest", "itertools.pairwise"].contains n) = false
theorem go_plain {A : Around} {E : Value → Shared → Prop} {s : Shared} {t : Expr} {I : Addr} {v : Value} {Q : Unit → Shared → Prop} (h : plainIter s.heap I) (hQ : Q () s) :
    wpAny (model prog w) A (letOwnedTupleGo t (.ref I) v) Q E s := by
  obtain ⟨o, n, ho, hc, hn⟩ := h
  have main : ∀ a : Addr, wpAny (model prog w) A (do
      let o ← load I
      match o.cls, o.data with
      | .type n, .fields vs =>
        if ["enumerate", "zip", "dict_itemiterator", "dict_reverseitemiterator", "odict_iterator", "itertools.zip_longest", "itertools.pairwise"].contains n && vs[0]? == some (rawInt a) then
          rule "for.unpacks-the-owned-tuple"
          updateField I 0 .none
      | _, _ => pure ()) Q E s := fun a => by
    refine wpAny_bind (wpAny_load ho ?_)
    rw [hc]
    induction o.data with
    | fields vs => exact wpAny_of_eq (if_neg (by rw [hn]; exact Bool.false_ne_true)) hQ
    | _ => exact wpAny_pure hQ
  unfold letOwnedTupleGo
  cases t with
  | Tuple elts k pos => cases v with
    | ref a => exact main a
    | _ => exact wpAny_pure hQ
  | List elts k => cases v with
    | ref a => exact main a
    | _ => exact wpAny_pure hQ
  | _ => exact wpAny_pure hQ
theorem chg_wr {wr : List Addr} {s : Shared} {h' : Heap} {tk : Nat} {G : Nat → Prop} (hk : ∀ b o, b ∉ wr → s.heap.get? b = some o → h'.get? b = some o) (hx : ∀ b ∈ wr, Has h' b) : Chg (fun b => b ∈ wr) G s { s with heap := h', toks := tk } :=
  ⟨fun b o h e => hk b o h e, fun b ⟨o, e⟩ => by
    by_cases h : b ∈ wr
    · exact hx b h
    · exact ⟨o, hk b o h e⟩, fun Z Z Z e => e, Nat.le_refl _, fun h => h, rfl⟩
theorem chgW_wr {wr : List Addr} {s : Shared} {h' : Heap} {tk : Nat} {G : Nat → Prop} (hk : ∀ b o, b ∉ wr → s.heap.get? b = some o → h'.get? b = some o) : ChgW (fun b => b ∈ wr) G s { s with heap := h', toks := tk } :=
  ⟨fun b o h e => hk b o h e, fun Z Z Z e => e, Nat.le_refl _, fun h => h, rfl⟩
noncomputable abbrev seqD (h : Heap) (V : Addr → Prop) (b : Addr) : Prop := ¬ V b ∧ ∃ o, h.get? b = some o ∧ IsSeq o
/-- the same data in a later heap -/
noncomputable abbrev Later (h h' : Heap) (V V' : Addr → Prop) : Prop := ∀ b o, ¬ V b → IsSeq o → h.get? b = some o → h'.get? b = some o ∧ ¬ V' b
noncomputable def ItmAre (h : Heap) (V : Addr → Prop) (x : Itm) (vs : Array Value) : Prop := match x with
  | .one _ => False
  | .two p q => ∃ a b, vs = #[a, b] ∧ RV h V p a ∧ RV h V q b
/-- an iterator got from a value that avoids V -/
inductive IterAt (prog : Program) (w : World) (hb : Heap) (lv : Nat) (A : Around) (V : Addr → Prop) (t : Expr) (s : Shared) (items : List Itm) (it : Value) (s₂ : Shared) : Prop
  | mk (x : Ext s s₂) (D T : Addr → Prop) (G : Nat → Prop) (hD : ∀ b, D b → ¬ V b ∧ ∃ o, s₂.heap.get? b = some o ∧ IsSeq o) (hT : ∀ b, T b → s.heap.get? b = none ∧ Has s₂.heap b) (hG : ∀ i, G i → s.gens.size ≤ i)
    (hI : Itr prog w hb lv A t (fun a => V a ∨ T a ∨ s₂.heap.get? a = none) it D G items T s₂) (hS : Selfed prog w it T s₂) : IterAt prog w hb lv A V t s items it s₂
section
variable {A : Around} {V : Addr → Prop} {I : Addr} {fp wr : List Addr} {n : Nat} {St : Nat → Heap → Prop} {s₂ : Shared}
/-- what the walker's objects leave alone -/
theorem later_of (hN : ∀ b ∈ wr, ∀ o, s₂.heap.get? b = some o → ¬ IsSeq o) {h' : Heap} (h : ∀ b o, seqD s₂.heap V b → s₂.heap.get? b = some o → h'.get? b = some o) : Later s₂.heap h' V (fun a => V a ∨ a ∈ wr ∨ s₂.heap.get? a = none) :=
  fun b o hV hq e => ⟨h b o ⟨hV, o, e, hq⟩ e, fun q => q.elim hV fun q => q.elim (fun q => hN b q o e hq) fun q => nn (q.symm.trans e)⟩
theorem not_wr (hN : ∀ b ∈ wr, ∀ o, s₂.heap.get? b = some o → ¬ IsSeq o) {b : Addr} (h : seqD s₂.heap V b) : b ∉ wr := fun q => let ⟨_, o, e, hq⟩ := h; hN b q o e hq
theorem Itr.ofWalks (hh : A.handled = none) {t : Expr} {P : Nat → Value → Prop} (W : ∀ A : Around, A.handled = none → Walks prog w A I fp wr n P St)
    (hfp : ∀ b ∈ fp, b ∈ wr ∨ seqD s₂.heap V b) (hN : ∀ b ∈ wr, ∀ o, s₂.heap.get? b = some o → ¬ IsSeq o) (hex : ∀ i h, St i h → ∀ b ∈ wr, Has h b) (hgo : ∀ i h, St i h → plainIter h I) (xs : List Itm) :
    ∀ (i : Nat) (s : Shared), i + xs.length = n → (∀ j x v h' V', xs[j]? = some x → Later s₂.heap h' V V' → P (i + j) v → ItmIs h' V' x v) →
      (∀ b o, seqD s₂.heap V b → s₂.heap.get? b = some o → s.heap.get? b = some o) → St i s.heap → Itr prog w hb lv A t (fun a => V a ∨ a ∈ wr ∨ s₂.heap.get? a = none) (.ref I) (seqD s₂.heap V) no xs (fun b => b ∈ wr) s := by
  induction xs with
  | nil => exact fun i s hn hP h₀ hst E s' Q hb' c hQ => (W A hh).done s' _ E ((W A hh).frame _ _ _ ((show i = n from hn) ▸ hst) fun b hb₁ o e => c.heap b o (hfp b hb₁).symm e) fun h' tk hk => hQ _ (chgW_wr hk)
  | cons x xs ih =>
    intro i s hn hP h₀ hst E s' Q hb' c hQ
    rw [List.length_cons] at hn
    refine (W A hh).item i s' _ E (by lia) ((W A hh).frame _ _ _ hst fun b hb₁ o e => c.heap b o (hfp b hb₁).symm e) fun v h' tk hv hst'' hk => ?_
    have h₁ : ∀ b o, seqD s₂.heap V b → s₂.heap.get? b = some o → h'.get? b = some o := fun b o hd e => hk b o (not_wr hN hd) (c.heap b o (.inl hd) (h₀ b o hd e))
    exact go_plain (hgo _ _ hst'') (hQ v _ (fun b => b ∈ wr) (chg_wr hk (hex _ _ hst'')) (fun Z h => h) (fun Z h => .inl h) (fun b h => hex _ _ hst'' b h) (hP 0 x v h' _ rfl (later_of hN h₁) hv)
      (ih (i + 1) _ (by lia) (fun j y u h'' V' hj hd hp => hP (j + 1) y u h'' V' hj hd (by rw [show i + (j + 1) = i + 1 + j by lia]; exact hp)) h₁ hst''))
theorem Itr.ofWalksT (hh : A.handled = none) {elts : List Expr} {k : Nat} {pos : Pos} {P : Nat → Array Value → Prop} {Mid : Nat → Addr → Heap → Prop} {D V₂ : Addr → Prop} (W : ∀ A : Around, A.handled = none → WalksT prog w A I fp wr n P St Mid)
    (hfp : ∀ b ∈ fp, D b ∨ b ∈ wr) (hD : ∀ b, D b → b ∉ wr) (hex : ∀ i h, St i h → ∀ b ∈ wr, Has h b) (xs : List Itm) :
    ∀ (i : Nat) (s : Shared), i + xs.length = n → (∀ j x v h', xs[j]? = some x → (∀ b o, D b → s₂.heap.get? b = some o → h'.get? b = some o) → P (i + j) v → ItmAre h' V₂ x v) →
      (∀ b o, D b → s₂.heap.get? b = some o → s.heap.get? b = some o) → St i s.heap → Itr prog w hb lv A (.Tuple elts k pos) V₂ (.ref I) D no xs (fun b => b ∈ wr) s := by
  induction xs with
  | nil => exact fun i s hn hP h₀ hst E s' Q hb' c hQ => (W A hh).done s' _ E ((W A hh).frame _ _ _ ((show i = n from hn) ▸ hst) fun b hb₁ o e => c.heap b o (hfp b hb₁) e) fun h' tk hk => hQ _ (chgW_wr hk)
  | cons x xs ih =>
    intro i s hn hP h₀ hst E s' Q hb' c hQ
    rw [List.length_cons] at hn
    refine (W A hh).item i s' _ E (by lia) ((W A hh).frame _ _ _ hst fun b hb₁ o e => c.heap b o (hfp b hb₁) e) fun T vals h' tk hv _ hT hm hk => (W A hh).go elts k pos i T _ _ E hm fun h'' hst'' hk' => ?_
    have hk₂ : ∀ b o, b ∉ wr → s'.heap.get? b = some o → h''.get? b = some o := fun b o h e => hk' b o h (hk b o h e)
    have h₁ : ∀ b o, D b → s₂.heap.get? b = some o → h''.get? b = some o := fun b o hd e => hk₂ b o (hD b hd) (c.heap b o (.inl hd) (h₀ b o hd e))
    refine hQ (.ref T) _ (fun b => b ∈ wr) (chg_wr (tk := tk) hk₂ (hex _ _ hst'')) (fun Z h => h) (fun Z h => .inl h) (fun b h => hex _ _ hst'' b h) ?_
      (ih (i + 1) _ (by lia) (fun j y u h'' hj hd hp => hP (j + 1) y u h'' hj hd (by rw [show i + (j + 1) = i + 1 + j by lia]; exact hp)) h₁ hst'')
    have q := hP 0 x vals h'' rfl h₁ hv
    induction x with
    | one p => exact q.elim
    | two p q' => exact let ⟨a, b, e, h1, h2⟩ := q; ⟨T, a, b, rfl, e ▸ hT.at fun o e => hk' T o ((W A hh).apart i T _ hm) e, h1, h2⟩
/-- an iterator of pairs; K: a sequence of its own -/
theorem IterAt.pairs (hh : A.handled = none) {elts : List Expr} {k : Nat} {pos : Pos} {P : Nat → Array Value → Prop} {Mid : Nat → Addr → Heap → Prop} {K : Addr → Prop} {s : Shared} {h₂ : Heap} {xs : List Itm} (W : ∀ A : Around, A.handled = none → WalksT prog w A I fp wr n P St Mid)
    (hk : ∀ b o, s.heap.get? b = some o → h₂.get? b = some o) (hwr : ∀ b ∈ wr, s.heap.get? b = none) (hK : ∀ b, K b → ¬ V b ∧ (∃ o, h₂.get? b = some o ∧ IsSeq o) ∧ b ∉ wr) (hfp : ∀ b ∈ fp, (seqD s.heap V b ∨ K b) ∨ b ∈ wr)
    (hex : ∀ i h, St i h → ∀ b ∈ wr, Has h b) (h0 : St 0 h₂) (hn : xs.length = n) (hP : ∀ j x v h' V', xs[j]? = some x → Later s.heap h' V V' → P j v → ItmAre h' V' x v) (hS : Selfed prog w (.ref I) (fun b => b ∈ wr) { s with heap := h₂ }) :
    IterAt prog w hb lv A V (.Tuple elts k pos) s xs (.ref I) { s with heap := h₂ } := by
  refine ⟨ext_of_keep (tk := s.toks) hk, fun b => seqD s.heap V b ∨ K b, fun b => b ∈ wr, no, fun b h => h.elim (fun ⟨h1, o, e, q⟩ => ⟨h1, o, hk b o e, q⟩) fun h => ⟨(hK b h).1, (hK b h).2.1⟩, fun b h => ⟨hwr b h, hex 0 h₂ h0 b h⟩, fun i h => h.elim, ?_, hS⟩
  exact Itr.ofWalksT (s₂ := { s with heap := h₂ }) hh W hfp (fun b h q => h.elim (fun ⟨_, o, e, _⟩ => nn ((hwr b q).symm.trans e)) fun h => (hK b h).2.2 q) hex xs 0 _ ((Nat.zero_add _).trans hn)
    (fun j x v h' hj hd hp => hP j x v h' _ hj (fun b o hV hq e => ⟨hd b o (.inl ⟨hV, o, e, hq⟩) (hk b o e), fun q => q.elim hV fun q => q.elim (fun q => nn ((hwr b q).symm.trans e)) fun q => nn (q.symm.trans (hk b o e))⟩) (Nat.zero_add j ▸ hp)) (fun _ _ _ e => e) h0
/-- an iterator over one thing: one object more -/
theorem IterAt.push (hh : A.handled = none) {t : Expr} {s : Shared} {o : Obj} {P : Nat → Value → Prop} {xs : List Itm} (W : ∀ A : Around, A.handled = none → Walks prog w A s.heap.objs.size fp [s.heap.objs.size] n P St) (hN : ¬ IsSeq o) (hp : (s.heap.push o).get? s.heap.objs.size = some o)
    (hfp : ∀ b ∈ fp, b = s.heap.objs.size ∨ seqD s.heap V b) (hgo : ∀ i h, St i h → plainIter h s.heap.objs.size) (h0 : St 0 (s.heap.push o)) (hn : xs.length = n)
    (hP : ∀ j x v h' V', xs[j]? = some x → Later s.heap h' V V' → P j v → ItmIs h' V' x v)
    (hS : ∀ (A : Around) (E : Value → Shared → Prop) (s' : Shared) (Q : Value → Shared → Prop), s'.heap.get? s.heap.objs.size = some o → Q (.ref s.heap.objs.size) s' → wpAny (model prog w) A (pyIter (.ref s.heap.objs.size)) Q E s') :
    IterAt prog w hb lv A V t s xs (.ref s.heap.objs.size) { s with heap := s.heap.push o } := by
  have x : Ext s { s with heap := s.heap.push o } := ext_push'
  have one {b : Addr} (h : b ∈ [s.heap.objs.size]) : b = s.heap.objs.size := List.mem_singleton.mp h
  refine ⟨x, seqD (s.heap.push o) V, fun b => b ∈ [s.heap.objs.size], no, fun b h => h, fun b h => one h ▸ ⟨fresh_none, o, hp⟩, fun i h => h.elim, ?_, fun A E s' Q h hQ => hS A E s' Q (h _ o (List.mem_singleton_self _) hp) hQ⟩
  exact Itr.ofWalks (s₂ := { s with heap := s.heap.push o }) hh W (fun b h => (hfp b h).imp List.mem_singleton.mpr fun ⟨h1, o, e, q⟩ => ⟨h1, o, x.heap b o (fun q => q) e, q⟩) (fun b h o' e => Option.some.inj (hp.symm.trans (one h ▸ e)) ▸ hN)
    (fun i h st b q => let ⟨o, _, e, _⟩ := hgo i h st; one q ▸ ⟨o, e⟩) hgo xs 0 _ ((Nat.zero_add _).trans hn) (fun j y v h' V' hj hd hp => hP j y v h' V' hj (fun b o hV hq e => hd b o hV hq (x.heap b o (fun q => q) e)) (Nat.zero_add j ▸ hp)) (fun b o _ e => e) h0
end
/-- a value's items -/
noncomputable def itemsP : PV → Option (List Itm) := PV.on none nO nO nO (fun l => some (l.map fun b => .one (.int b.toNat))) nO (fun l => some (l.map .one)) fun l => some (l.map .one)
theorem one_item {h h' : Heap} {V V' : Addr → Prop} {l : List PV} {vs : List Value} (hr : RVs h V l vs) {j : Nat} {x : Itm} {v : Value} (hj : (l.map Itm.one)[j]? = some x) (hd : Later h h' V V') (hp : vs.toArray[j]? = some v) : ItmIs h' V' x v := by
  obtain ⟨p, hp', rfl⟩ := Option.map_eq_some_iff.mp (List.getElem?_map.symm.trans hj)
  obtain ⟨u, hu, hru⟩ := hr.get hp'
  exact Option.some.inj (hu.symm.trans (List.getElem?_toArray.symm.trans hp)) ▸ RV.keep hd p u hru
theorem seq_fp {h : Heap} {V : Addr → Prop} {a I : Addr} {o : Obj} (hna : ¬ V a) (hg : h.get? a = some o) (hq : IsSeq o) : ∀ b ∈ [I, a], b = I ∨ seqD h V b := fun b h' => (List.mem_cons.mp h').imp id fun h' => by rw [List.mem_singleton.mp h']; exact ⟨hna, o, hg, hq⟩
theorem fields_nseq {o : Obj} {vs : Array Value} (h : o.data = .fields vs) : ¬ IsSeq o := fun ⟨_, _, e⟩ => nomatch (h.symm.trans e)
theorem ne_fresh {h : Heap} {a : Addr} {o : Obj} (hg : h.get? a = some o) : a ≠ h.objs.size := fun q => nn (fresh_none.symm.trans (q ▸ hg))
theorem iter_val {A : Around} (hh : A.handled = none) {E : Value → Shared → Prop} {s : Shared} {V : Addr → Prop} {t : Expr} {p : PV} {v : Value} {items : List Itm} (hr : RV s.heap V p v) (hp : itemsP p = some items) :
    wpAny (model prog w) A (pyIter v) (IterAt prog w hb lv A V t s items) E s := by
  refine PV.on_rv (G := fun v => wpAny (model prog w) A (pyIter v) (IterAt prog w hb lv A V t s items) E s) hp hr nn (fun _ => nn) (fun _ _ => nn) (fun _ _ => nn) (fun l tk h => Option.some.inj h ▸ ?_) (fun _ => nn) (fun l a vs n hna hg hr h => Option.some.inj h ▸ ?_) fun l a vs n hna hg hr h => Option.some.inj h ▸ ?_
  · exact KBw.pyIter_bytes (.push hh (fun A' h => KBw.walks h s.heap.objs.size l.toArray tk) (fields_nseq rfl) (Heap.get?_push_size _ rfl) (fun b h => .inl (List.mem_singleton.mp h)) (fun i h st => let ⟨o, e, hc, _⟩ := st; ⟨o, _, e, hc, by decide⟩) ⟨_, Heap.get?_push_size _ rfl, rfl, rfl⟩
      (List.length_map ..) (fun j x v h' V' hj _ hp => by
        obtain ⟨c, hc, rfl⟩ := Option.map_eq_some_iff.mp (List.getElem?_map.symm.trans hj)
        obtain ⟨c', u, hc', rfl⟩ := hp
        obtain rfl : c = c' := Option.some.inj (hc.symm.trans (List.getElem?_toArray.symm.trans hc'))
        exact RV.i (h := h') (V := V')) fun A E s' Q hs hQ => KBw.pyIter_self ⟨_, hs, rfl, rfl⟩ hQ)
  · exact wpAny_pyIter_tuple (isTuple_of hg) (.push hh (fun A' h => Walks.tuple h s.heap.objs.size a (ne_fresh hg) vs.toArray) (fields_nseq rfl) (Heap.get?_push_size _ rfl) (seq_fp hna hg ⟨_, _, rfl⟩) (fun i h st => let ⟨⟨o, e, hc, _⟩, _⟩ := st; ⟨o, _, e, hc, by decide⟩)
      ⟨⟨_, Heap.get?_push_size _ rfl, rfl, rfl⟩, (isTuple_of hg).at fun o e => Heap.get?_push_of_some _ e⟩ (by rw [List.length_map, List.size_toArray, hr.length]) (fun j x v h' V' hj hd hp => one_item hr hj hd hp) fun A E s' Q hs hQ => wpAny_pyIter_tupleiter ⟨_, hs, rfl, rfl⟩ hQ)
  · exact wpAny_pyIter_list (isList_of hg) (.push hh (fun A' h => Walks.list h s.heap.objs.size a (ne_fresh hg) vs.toArray) (fields_nseq rfl) (Heap.get?_push_size _ rfl) (seq_fp hna hg ⟨_, _, rfl⟩) (fun i h st => let ⟨⟨o, e, hc, _⟩, _⟩ := st; ⟨o, _, e, hc, by decide⟩)
      ⟨⟨_, Heap.get?_push_size _ rfl, rfl, rfl⟩, (isList_of hg).push _⟩ (by rw [List.length_map, List.size_toArray, hr.length]) (fun j x v h' V' hj hd hp => one_item hr hj hd hp) fun A E s' Q hs hQ => wpAny_pyIter_listiter ⟨_, hs, rfl, rfl⟩ hQ)
theorem IterAt.ok {A : Around} {env : Env} {U : Addr → Prop} {σ : List Sl} {val : Nat → Option Value} {t : Expr} {s : Shared} {items : List Itm} {it : Value} {s₂ : Shared} (hs : SR hb env U σ val s) (h : IterAt prog w hb lv A (Av U σ val) t s items it s₂) :
    IterOk prog w hb lv A env U σ val t s items it s₂ :=
  let ⟨x, D, T, G, hD, hT, hG, hI, hS⟩ := h
  ⟨x, D, T, G, fun b hb₁ => let ⟨hV, o, e, hq⟩ := hD b hb₁; ⟨⟨o, e⟩, (hs.ext x).notSeq hV hq e, fun q => hV (.inl q)⟩, hT, hG, hI, hS⟩
theorem IterAt.after {A : Around} {V : Addr → Prop} {t : Expr} {s s₁ s₂ : Shared} {items : List Itm} {it : Value} (x : Ext s s₁) (h : IterAt prog w hb lv A V t s₁ items it s₂) : IterAt prog w hb lv A V t s items it s₂ :=
  let ⟨x₂, D, T, G, hD, hT, hG, r, q⟩ := h
  ⟨x.trans x₂, D, T, G, hD, fun b h => ⟨x.none (hT b h).1, (hT b h).2⟩, fun i h => Nat.le_trans x.gsz (hG i h), r, q⟩
theorem XI.val {t e : Expr} {f : List Sl → Option PV} (h : XE prog w hb sc lv e f) : XI prog w hb sc lv t e (fun σ => (f σ).bind itemsP) :=
  fun _ _ _ _ _ _ _ _ he hr hs hf => bindE hf fun p hp hi => h.to he hr hs hp fun v s₁ x₁ r₁ _ => wpAny_mono (iter_val hr.1 r₁ hi) (fun it s₂ q₂ => (q₂.after x₁).ok hs) fun Z Z x => x
/-- the call of f gives a thing whose items are those of pf -/
noncomputable def CI (prog : Program) (w : World) (hb : Heap) (lv : Nat) (t : Expr) (f : Value) (pf : List PV → Option (List Itm)) : Prop :=
  ∀ (A : Around) (E : Value → Shared → Prop) (s : Shared) (V : Addr → Prop) (vs : List Value) (ps : List PV) (r : List Itm),
    Room lv A → (∀ a, V a → Has s.heap a ∧ hb.get? a = none) → hb.NoLimit → (∀ b o, hb.get? b = some o → s.heap.get? b = some o) → RVs s.heap V ps vs → pf ps = some r →
    wpAny (model prog w) A (PySem.call f vs) (fun x s₁ => wpAny (model prog w) A (pyIter x) (IterAt prog w hb lv A V t s r) E s₁) E s
theorem XI.call {t : Expr} {x : Str} {xp pos : Pos} {e : Expr} {es : List Expr} {fv : Value} {g : List Sl → Option (List PV)} {pf : List PV → Option (List Itm)}
    (hn : sc.names.lookup x = some .globalImplicit) (hg : GlobIs hb x fv) (hc : Callee hb fv) (hf : CI prog w hb lv t fv pf) (ha : XEs prog w hb sc lv (e :: es) g)
    (hd : (x == ("__debug__" : Str)) = false) (hplain : ∀ env, (backTo pos (starEach (e :: es) env)).any (·.1) = false)
    (hst : ∀ env, backTo pos (starEach (e :: es) env) = (false, eval e env) :: backTo pos (starEach es env)) :
    XI prog w hb sc lv t (.Call (.Name x xp) (e :: es) [] pos) (fun σ => (g σ).bind pf) := by
  intro env A E s U σ val p he hr hs hf'
  refine bindE hf' fun ps hps hp => wpAny_Call_Name_kw (wpAny_Name (loadName_glob he hn hg hs.base (callWith_c hc (hplain env) ?_)) hd)
  rw [hst env]
  exact Calls.evalArgs_plain (hst env ▸ ha.to (pos := pos) he hr hs hps fun vs s₁ x r hs₁ => ⟨hs₁.base, wpAny_mono (hf A E s₁ (Av U σ val) vs ps p hr (fun a ha => ⟨hs₁.av_has ha, ha.elim (fun h => (hs₁.uex a h).2) fun h => hs₁.hbn a (.inr (.inr h))⟩) hs₁.nl hs₁.base r hp)
    (fun v s₂ q₂ => wpAny_mono q₂ (fun it s₃ q₃ => (q₃.after x).ok hs) fun Z Z x => x) fun Z Z x => x⟩)
noncomputable def rangeP : List PV → Option (List Itm) := onL (PV.oi fun n => if n ≤ 1000000 ∧ -1000000 ≤ n then some ((List.range n.toNat).map fun (i : Nat) => .one (.int (i : Int))) else none) nO2
theorem CI.range {t : Expr} : CI prog w hb lv t (.type "range") rangeP := by
  intro A E s V vs ps r hr hV hnl hb' hrv hp
  refine onL_rv (G := fun vs => wpAny (model prog w) A (PySem.call (.type "range") vs) (fun x s₁ => wpAny (model prog w) A (pyIter x) (IterAt prog w hb lv A V t s r) E s₁) E s) hp hrv (fun p v hp h => ?_) fun _ _ _ _ => nn
  refine oi_rv (G := fun v => wpAny (model prog w) A (PySem.call (.type "range") [v]) (fun x s₁ => wpAny (model prog w) A (pyIter x) (IterAt prog w hb lv A V t s r) E s₁) E s) hp h fun n tk h => ite_inv h fun hn h => h ▸ call_range_1 ?_
  have x₁ : Ext s { s with heap := s.heap.push { cls := .type "range", data := .fields #[.int 0 s.toks, .int n tk, .int 1 (s.toks + 1)] }, toks := s.toks + 1 + 1 } := ext_push
  have hR : IsRange ({ s with heap := s.heap.push { cls := .type "range", data := .fields #[.int 0 s.toks, .int n tk, .int 1 (s.toks + 1)] }, toks := s.toks + 1 + 1 } : Shared).heap s.heap.objs.size 0 n 1 s.toks tk (s.toks + 1) := IsRange.new ..
  generalize ({ s with heap := s.heap.push { cls := .type "range", data := .fields #[.int 0 s.toks, .int n tk, .int 1 (s.toks + 1)] }, toks := s.toks + 1 + 1 } : Shared) = s₁ at x₁ hR
  refine wpAny_pyIter_range hR (small_one (by lia) (by lia) (by lia) (by lia)) ?_
  rw [show Builtin.Range.rangeSize 0 n 1 = (n.toNat : Int) by rw [rangeSize_one]; split <;> lia]
  exact .after x₁ (.push hr.1 (fun A' h => Walks.range h s₁.heap.objs.size 0 1 n.toNat) (fields_nseq rfl) (Heap.get?_push_size _ rfl) (fun b h => .inl (List.mem_singleton.mp h)) (fun i h st => ⟨_, _, st, rfl, by decide⟩) (show IsRangeIter _ _ 0 ((n.toNat : Nat) : Int) 1 from Heap.get?_push_size _ rfl) (by rw [List.length_map, List.length_range])
    (fun j x v h' V' hj _ hp => by
      obtain ⟨i, hi, rfl⟩ := Option.map_eq_some_iff.mp (List.getElem?_map.symm.trans hj)
      obtain ⟨u, rfl⟩ := hp
      obtain rfl : i = j := by have := (List.getElem?_eq_some_iff.mp hi).2; rw [List.getElem_range] at this; exact this.symm
      rw [Int.mul_one, Int.zero_add]
      exact RV.i (h := h') (V := V')) fun A E s' Q hs hQ => wpAny_pyIter_rangeiter hs hQ)
end
open Sem (wp)
open AutoSeq1 (wpAny_loadPart')
section
variable {prog : Program} {w : World} {A : Around} {E : Value → Shared → Prop} {s : Shared}
theorem nextOf_tuple_item {it l : Addr} {i : Nat} {items} {x : Value} {Q : Value → Shared → Prop} (hit : s.heap.IsTupleIter it l i)
    (hl : s.heap.IsTuple l items) (hx : items[i]? = some x)
    (hQ : ∀ h', h'.IsTupleIter it l (i + 1) → Heap.SameBut it s.heap h' → Q x { s with heap := h' }) :
    wpAny (model prog w) A (Builtin.SmallTypes.nextOf (.ref it)) Q E s := by
  obtain ⟨o, ho, hc, hd⟩ := id hit
  obtain ⟨ol, hol, Z, nl, hdl⟩ := hl
  unfold Builtin.SmallTypes.nextOf
  refine wpAny_bind (wpAny_callSpecial?_slot (name := Str.ofString "__next__") hit.typeIs F.slot_tuple_iterator_next
    (wpAny_call_entry F.slot_tuple_iterator_next hit.typeIs F.entry_tuple_iterator_next ?_ (F.args_tuple_iterator_next_1 _)))
  show wpAny _ _ (field (.ref it) 0 >>= _) _ _ s
  refine wpAny_bind (wpAny_field ho hd (x := .ref l) rfl ?_)
  show wpAny _ _ (if (Value.ref l == Value.none) = true then _ else _) _ _ s
  rw [if_neg (show ¬ ((Value.ref l == Value.none) = true) from Bool.false_ne_true)]
  show wpAny _ _ (field (.ref it) 1 >>= _) _ _ s
  refine wpAny_bind (wpAny_field ho hd (x := .int i 0) rfl ?_)
  show wpAny _ _ (seqItems? (.ref l) >>= _) _ _ s
  refine wpAny_bind (wpAny_seqItems hol hdl ?_)
  simp only [Int.toNat_natCast, hx]
  refine wpAny_bind (wpAny_setField ho hd (by simp) (wpAny_pure ⟨x, rfl, wpAny_pure (hQ _ ?_ (Heap.SameBut.update ..))⟩))
  exact ⟨_, Heap.get?_update_self _ ho (Obj.isFreed_of_fields (Obj.data_mapFields hd _)), (Obj.cls_mapFields ..).trans hc, by
    rw [Obj.data_mapFields hd]; simp [rawInt]⟩
theorem nextOf_tuple_end {it l : Addr} {i : Nat} {items} {Q : Value → Shared → Prop} (hh : A.handled = none)
    (hit : s.heap.IsTupleIter it l i) (hl : s.heap.IsTuple l items) (hx : items[i]? = none)
    (hE : ∀ h' e, Heap.ExtBut it s.heap h' → (∃ o, h'.get? e = some o ∧ o.cls = .type "StopIteration") → E (.ref e) { s with heap := h' }) :
    wpAny (model prog w) A (Builtin.SmallTypes.nextOf (.ref it)) Q E s := by
  obtain ⟨o, ho, hc, hd⟩ := id hit
  obtain ⟨ol, hol, Z, nl, hdl⟩ := hl
  unfold Builtin.SmallTypes.nextOf
  refine wpAny_bind (wpAny_callSpecial?_slot (name := Str.ofString "__next__") hit.typeIs F.slot_tuple_iterator_next
    (wpAny_call_entry F.slot_tuple_iterator_next hit.typeIs F.entry_tuple_iterator_next ?_ (F.args_tuple_iterator_next_1 _)))
  show wpAny _ _ (field (.ref it) 0 >>= _) _ _ s
  refine wpAny_bind (wpAny_field ho hd (x := .ref l) rfl ?_)
  show wpAny _ _ (if (Value.ref l == Value.none) = true then _ else _) _ _ s
  rw [if_neg (show ¬ ((Value.ref l == Value.none) = true) from Bool.false_ne_true)]
  show wpAny _ _ (field (.ref it) 1 >>= _) _ _ s
  refine wpAny_bind (wpAny_field ho hd (x := .int i 0) rfl ?_)
  show wpAny _ _ (seqItems? (.ref l) >>= _) _ _ s
  refine wpAny_bind (wpAny_seqItems hol hdl ?_)
  simp only [Int.toNat_natCast, hx]
  refine wpAny_bind (wpAny_rule (wpAny_bind (wpAny_setField ho hd (by simp) ?_)))
  show wpAny _ _ (newExc (.type "StopIteration") [] >>= _) _ _ _
  refine wpAny_bind ?_
  simp only [newExc, newTuple]
  refine wpAny_bind (wpAny_newObj_type ?_ (by size_fits))
  refine wpAny_bind (m := firstArgMember _ _) (wpAny_of_eq (a := Value.none) (by first | rfl | (simp only [firstArgMember]; rfl)) ?_)
  refine wpAny_newObj_type ?_ (by size_fits)
  simp only [raiseNew]
  refine wpAny_bind (wpAny_handled ?_)
  first | rw [show A.in1.handled = none from hh] | rw [hh]
  refine wpAny_bind (wpAny_pure (wpAny_throw ?_))
  exact hE _ _ (((Heap.SameBut.update ..).extBut.push _).push _) ⟨_, Heap.get?_push_size _ rfl, rfl⟩
theorem drawsTuple (hh : A.handled = none) (it l : Addr) (hne : l ≠ it) (items : Array Value) :
    Draws prog w A it [it, l] items.size (fun i v => items[i]? = some v) (fun i h => h.IsTupleIter it l i ∧ h.IsTuple l items) where
  live := fun Z Z st => let ⟨o, ho, _⟩ := st.1; ⟨o, ho⟩
  frame := fun Z Z Z st hk => ⟨st.1.at fun o e => hk it (by simp) o e, st.2.at fun o e => hk l (by simp) o e⟩
  item := fun i s Q E hi st hQ => by
    refine nextOf_tuple_item st.1 st.2 (x := items[i]) (by simp [hi]) fun h' hit' hs' => ?_
    exact hQ _ h' s.toks (by simp [hi]) ⟨hit', st.2.at fun o e => hs'.extBut l o hne e⟩ hs'
  done := fun s Q E st hE => nextOf_tuple_end hh st.1 st.2 (by simp) hE
theorem meets_enumerate_newT (l : Addr) (items : Array Value) (n : Nat) (dct : Option Addr) (sl : Array (Option Value)) :
    Meets (Builtin.«enumerate.__new__» ⟨[.type "enumerate", .ref l], []⟩) (fun Z R s => s.heap.get? l = some { cls := .type "tuple", dict := dct, data := .seq items n, slots := sl } ∧
      R (.ok (.ret (.ref (s.heap.push { cls := .type "tuple_iterator", data := .fields #[.ref l, .int 0 0] }).objs.size)))
        { s with heap := (s.heap.push { cls := .type "tuple_iterator", data := .fields #[.ref l, .int 0 0] }).push { cls := .type "enumerate", data := .fields #[.none, .bool false, .ref s.heap.objs.size, rawInt 0, .none, .none] } }) :=
  .of_wp fun prog w A R s h => by
    obtain ⟨hp, g, d, tk, os⟩ := s; obtain ⟨hl, h⟩ := h
    have hsub := sub_enumerate
    have hL : Heap.IsTuple (Shared.heap ⟨hp, g, d, tk, os⟩) l items := ⟨_, hl, rfl, n, rfl⟩
    wp_walk using wpAny_loadPart' hl
    refine wpAny_stack_any fun st => wpAny_pure ?_
    split
    · rename_i c _ _ _ _ _
      cases (c == Value.type "enumerate")
      · wp_walk using wpAny_loadPart' hl, wpAny_pyIter_tuple hL
        exact ⟨_, rfl, h⟩
      · wp_walk using wpAny_loadPart' hl, wpAny_pyIter_tuple hL
        exact ⟨_, rfl, h⟩
    · wp_walk using wpAny_loadPart' hl, wpAny_pyIter_tuple hL
      exact ⟨_, rfl, h⟩
theorem call_enumerate_tuple {l : Addr} {items : Array Value} {Q : Value → Shared → Prop} (hL : s.heap.IsTuple l items)
    (h : ∀ h', IsEnum h' (s.heap.objs.size + 1) s.heap.objs.size 0 .none → h'.IsTupleIter s.heap.objs.size l 0 → h'.objs.size = s.heap.objs.size + 2 →
      (∀ b o, s.heap.get? b = some o → h'.get? b = some o) → Q (.ref (s.heap.objs.size + 1)) { s with heap := h' }) :
    wpAny (model prog w) A (PySem.call (.type "enumerate") [.ref l]) Q E s := by
  obtain ⟨⟨c, dct, dt, sl⟩, hl, hc, n, hd⟩ := hL
  replace hc : c = .type "tuple" := hc
  replace hd : dt = .seq items n := hd
  subst hc hd
  refine callType_new F.called_enumerate (by decide) (F.typeCall_enumerate_1 _) (F.newCall_enumerate_1 _) (fun obj => F.args_object_init_2 obj _) F.entry_enumerate_new
    (meets_enumerate_newT l items n dct sl) ⟨hl, ?_⟩
  have hz : (s.heap.push { cls := .type "tuple_iterator", data := .fields #[.ref l, .int 0 0] }).objs.size = s.heap.objs.size + 1 := Heap.size_push ..
  show _ ∧ _
  rw [hz]
  have he : IsEnum ((s.heap.push { cls := .type "tuple_iterator", data := .fields #[.ref l, .int 0 0] }).push
      { cls := .type "enumerate", data := .fields #[.none, .bool false, .ref s.heap.objs.size, rawInt 0, .none, .none] }) (s.heap.objs.size + 1) s.heap.objs.size 0 .none := by
    have := Heap.get?_push_size (s.heap.push { cls := .type "tuple_iterator", data := .fields #[.ref l, .int 0 0] })
      (o := { cls := .type "enumerate", data := .fields #[.none, .bool false, .ref s.heap.objs.size, rawInt 0, .none, .none] }) rfl
    rw [hz] at this; exact this
  refine ⟨⟨_, he, rfl⟩, h _ he ⟨_, Heap.get?_push_of_some _ (Heap.get?_push_size _ rfl), rfl, rfl⟩ (by rw [Heap.size_push, hz]) fun b o x => Heap.get?_push_of_some _ (Heap.get?_push_of_some _ x)⟩
end
section
variable {prog : Program} {w : World} {hb : Heap} {sc : Scope} {lv : Nat}
noncomputable def enumItems : Nat → List PV → List Itm
  | _, [] => []
  | i, p :: ps => .two (.int (i : Int)) p :: enumItems (i + 1) ps
theorem enumItems_len {ps : List PV} : ∀ (i : Nat), (enumItems i ps).length = ps.length := by
  induction ps with
  | nil => exact fun _ => rfl
  | cons p ps ih => exact fun i => congrArg (· + 1) (ih (i + 1))
theorem enumItems_get {ps : List PV} : ∀ {i j : Nat} {x : Itm}, (enumItems i ps)[j]? = some x → ∃ p, ps[j]? = some p ∧ x = .two (.int ((i + j : Nat) : Int)) p := by
  induction ps with
  | nil => exact fun h => nn h
  | cons p ps ih => exact fun {i j x} => match j with
    | 0 => fun h => ⟨p, rfl, (Option.some.inj h).symm⟩
    | j + 1 => fun h => let ⟨q, h1, h2⟩ := ih (i := i + 1) (j := j) h; ⟨q, h1, by rw [h2, show i + 1 + j = i + (j + 1) by lia]⟩
noncomputable def enumP : List PV → Option (List Itm) := onL (PV.ot fun l => some (enumItems 0 l)) nO2
theorem later_none {h : Heap} {b : Nat} (hb' : h.objs.size ≤ b) : h.get? b = none := by
  cases e : h.get? b with
  | none => rfl
  | some o => exact absurd (Heap.lt_size e) (Nat.not_lt.mpr hb')
theorem CI.enumerate {elts : List Expr} {k : Nat} {pos : Pos} : CI prog w hb lv (.Tuple elts k pos) (.type "enumerate") enumP := by
  intro A E s V vs ps r hr hV hnl hb' hrv hp
  refine onL_rv (G := fun vs => wpAny (model prog w) A (PySem.call (.type "enumerate") vs) (fun x s₁ => wpAny (model prog w) A (pyIter x) (IterAt prog w hb lv A V (.Tuple elts k pos) s r) E s₁) E s) hp hrv (fun p v hp h => ?_) fun _ _ _ _ => nn
  refine ot_rv (G := fun v => wpAny (model prog w) A (PySem.call (.type "enumerate") [v]) (fun x s₁ => wpAny (model prog w) A (pyIter x) (IterAt prog w hb lv A V (.Tuple elts k pos) s r) E s₁) E s) hp h fun l a us n hna hg hru h => Option.some.inj h ▸ ?_
  refine call_enumerate_tuple (isTuple_of hg) fun h' he hit hsz hk => wpAny_pyIter_enum he ?_
  have hlt : @LT.lt Nat _ a s.heap.objs.size := Heap.lt_size hg
  refine .pairs (K := no) hr.1 (fun A' h => WalksT.enumerateD (drawsTuple (A := A'.in1) h s.heap.objs.size a (Nat.ne_of_lt hlt) us.toArray) (s.heap.objs.size + 1) (Nat.succ_ne_self _) ?_ (List.mem_cons_self ..)) hk (fun b h => ?_) (fun b h => h.elim) (fun b h => ?_) (fun i h st b q => ?_)
    ⟨⟨_, he⟩, hit, (isTuple_of hg).at fun o e => hk a o e⟩ (by rw [enumItems_len, List.size_toArray, hru.length]) (fun j y vs' h'' V' hj hd hp => ?_) fun A' E' s' Q hst hQ => wpAny_pyIter_enum (hst _ _ (List.mem_cons_self ..) he) hQ
  · intro q
    rcases List.mem_cons.mp q with q | q
    · exact Nat.succ_ne_self _ q
    · have q : s.heap.objs.size + 1 = a := List.mem_singleton.mp q
      rw [← q] at hlt
      exact Nat.not_succ_lt_self hlt
  · rcases List.mem_cons.mp h with h | h
    · rw [h]; exact later_none (Nat.le_succ _)
    · rw [List.mem_singleton.mp h]; exact fresh_none
  · rcases List.mem_cons.mp h with h | h
    · exact .inr (h ▸ List.mem_cons_self ..)
    · rcases List.mem_cons.mp h with h | h
      · exact .inr (h ▸ List.mem_cons_of_mem _ (List.mem_cons_self ..))
      · rw [List.mem_singleton.mp h]; exact .inl (.inl ⟨hna, _, hg, _, _, rfl⟩)
  · obtain ⟨⟨old, e1⟩, ⟨o, e2, _⟩, _⟩ := st
    rcases List.mem_cons.mp q with q | q
    · rw [q]; exact ⟨_, e1⟩
    · rw [List.mem_singleton.mp q]; exact ⟨o, e2⟩
  · obtain ⟨p, hp', rfl⟩ := enumItems_get hj
    obtain ⟨tk, z, hz, rfl⟩ := hp
    obtain ⟨u, hu, hru'⟩ := hru.get hp'
    obtain rfl : u = z := Option.some.inj (hu.symm.trans (List.getElem?_toArray.symm.trans hz))
    rw [Nat.zero_add]
    exact ⟨_, _, rfl, .i, RV.keep hd p u hru'⟩
noncomputable def zipItems : List PV → List PV → List Itm
  | [], _ => []
  | p :: ps, qs => (match qs with
    | [] => []
    | q :: qs => .two p q :: zipItems ps qs)
theorem zipItems_len {ps : List PV} : ∀ (qs : List PV), (zipItems ps qs).length = min ps.length qs.length := by
  induction ps with
  | nil => exact fun _ => (Nat.zero_min _).symm
  | cons p ps ih => exact fun qs => match qs with
    | [] => (Nat.min_zero _).symm
    | q :: qs => (congrArg (· + 1) (ih qs)).trans (Nat.succ_min_succ ..).symm
theorem zipItems_get {ps : List PV} : ∀ {qs : List PV} {j : Nat} {x : Itm}, (zipItems ps qs)[j]? = some x → ∃ p q, ps[j]? = some p ∧ qs[j]? = some q ∧ x = .two p q := by
  induction ps with
  | nil => exact fun h => nn h
  | cons p ps ih => exact fun {qs j x} => match qs with
    | [] => fun h => nn h
    | q :: qs => match j with
      | 0 => fun h => ⟨p, q, rfl, rfl, (Option.some.inj h).symm⟩
      | j + 1 => fun h => ih (qs := qs) (j := j) h
noncomputable def zipP : List PV → Option (List Itm) := onL nO fun p q => p.ol fun l => q.ol fun l' => some (zipItems l l')
theorem CI.zip {elts : List Expr} {k : Nat} {pos : Pos} : CI prog w hb lv (.Tuple elts k pos) (.type "zip") zipP := by
  intro A E s V vs ps r hr hV hnl hb' hrv hp
  refine onL_rv (G := fun vs => wpAny (model prog w) A (PySem.call (.type "zip") vs) (fun x s₁ => wpAny (model prog w) A (pyIter x) (IterAt prog w hb lv A V (.Tuple elts k pos) s r) E s₁) E s) hp hrv (fun _ _ => nn) fun p q v v' hp h h' => ?_
  refine ol_rv (G := fun v => wpAny (model prog w) A (PySem.call (.type "zip") [v, v']) (fun x s₁ => wpAny (model prog w) A (pyIter x) (IterAt prog w hb lv A V (.Tuple elts k pos) s r) E s₁) E s) hp h fun l a us n hna hg hru hp => ?_
  refine ol_rv (G := fun v' => wpAny (model prog w) A (PySem.call (.type "zip") [.ref a, v']) (fun x s₁ => wpAny (model prog w) A (pyIter x) (IterAt prog w hb lv A V (.Tuple elts k pos) s r) E s₁) E s) hp h' fun l' a' us' n' hna' hg' hru' h => Option.some.inj h ▸ ?_
  refine call_zip_2 (isList_of hg) (isList_of hg') fun h' hz hTI hTO hi1 hi2 hsz hk => wpAny_pyIter_zip hz ?_
  have hlt : @LT.lt Nat _ a s.heap.objs.size := Heap.lt_size hg
  have hlt' : @LT.lt Nat _ a' s.heap.objs.size := Heap.lt_size hg'
  have Z : ZipApart (s.heap.objs.size + 4) (s.heap.objs.size + 2) (s.heap.objs.size + 3) s.heap.objs.size (s.heap.objs.size + 1) a a' := by
    constructor <;> (intro q; replace q : @Eq Nat _ _ := q; lia)
  have four {b : Addr} {G : Addr → Prop} (h : b ∈ [s.heap.objs.size + 4, s.heap.objs.size + 3, s.heap.objs.size, s.heap.objs.size + 1]) (h4 : G (s.heap.objs.size + 4 : Nat)) (h3 : G (s.heap.objs.size + 3 : Nat)) (h0 : G s.heap.objs.size) (h1 : G (s.heap.objs.size + 1 : Nat)) : G b :=
    (List.mem_cons.mp h).elim (fun e => e ▸ h4) fun h => (List.mem_cons.mp h).elim (fun e => e ▸ h3) fun h => (List.mem_cons.mp h).elim (fun e => e ▸ h0) fun h => List.mem_singleton.mp h ▸ h1
  have nV2 : ¬ V (s.heap.objs.size + 2 : Nat) := fun q => let ⟨o, e⟩ := (hV _ q).1; nn ((later_none (Nat.le_add_right _ 2)).symm.trans e)
  refine .pairs (K := fun b => b = (s.heap.objs.size + 2 : Nat)) hr.1 (fun A' h => WalksT.zip2 (A := A') h (s.heap.objs.size + 4) (s.heap.objs.size + 2) (s.heap.objs.size + 3) s.heap.objs.size (s.heap.objs.size + 1) a a' Z us.toArray us'.toArray) hk (fun b h => ?_) (fun b h => ?_) (fun b h => ?_) (fun i h st b q => ?_)
    ⟨hz, hTI, ⟨_, _, hTO⟩, hi1, hi2, (isList_of hg).at fun o e => hk a o e, (isList_of hg').at fun o e => hk a' o e⟩ (by rw [zipItems_len, List.size_toArray, List.size_toArray, hru.length, hru'.length]) (fun j y vs' h'' V' hj hd hp => ?_) fun A' E' s' Q hst hQ => wpAny_pyIter_zip (hst _ _ (List.mem_cons_self ..) hz) hQ
  · exact four (G := fun b => s.heap.get? b = none) h (later_none (Nat.le_add_right _ 4)) (later_none (Nat.le_add_right _ 3)) fresh_none (later_none (Nat.le_add_right _ 1))
  · refine h ▸ ⟨nV2, ⟨_, hTI, _, _, rfl⟩, fun q => ?_⟩
    exact four (G := fun b => b ≠ (s.heap.objs.size + 2 : Nat)) q (fun e => by replace e : @Eq Nat _ _ := e; lia) (fun e => by replace e : @Eq Nat _ _ := e; lia) (fun e => by replace e : @Eq Nat _ _ := e; lia) (fun e => by replace e : @Eq Nat _ _ := e; lia) rfl
  · simp only [List.mem_cons, List.not_mem_nil, or_false] at h ⊢
    rcases h with h | h | h | h | h | h | h
    · exact .inr (.inl h)
    · exact .inl (.inr h)
    · exact .inr (.inr (.inl h))
    · exact .inr (.inr (.inr (.inl h)))
    · exact .inr (.inr (.inr (.inr h)))
    · exact .inl (.inl (h ▸ ⟨hna, _, hg, _, _, rfl⟩))
    · exact .inl (.inl (h ▸ ⟨hna', _, hg', _, _, rfl⟩))
  · obtain ⟨e1, _, ⟨_, _, e2⟩, ⟨o, e3, _⟩, ⟨o', e4, _⟩, _⟩ := st
    exact four (G := Has h) q ⟨_, e1⟩ ⟨_, e2⟩ ⟨o, e3⟩ ⟨o', e4⟩
  · obtain ⟨p, q, hp', hq', rfl⟩ := zipItems_get hj
    obtain ⟨z, z', hz1, hz2, rfl⟩ := hp
    obtain ⟨u, hu, hru₁⟩ := hru.get hp'
    obtain ⟨u', hu', hru₂⟩ := hru'.get hq'
    obtain rfl : u = z := Option.some.inj (hu.symm.trans (List.getElem?_toArray.symm.trans hz1))
    obtain rfl : u' = z' := Option.some.inj (hu'.symm.trans (List.getElem?_toArray.symm.trans hz2))
    exact ⟨_, _, rfl, RV.keep hd p u hru₁, RV.keep hd q u' hru₂⟩
end
section
variable {prog : Program} {w : World} {hb : Heap} {sc : Scope} {lv : Nat}
noncomputable def LG (prog : Program) (w : World) (hb : Heap) (sc : Scope) (t : Expr) (i : Nat) : Prop :=
  ∀ (env : Env) (A : Around) (E : Value → Shared → Prop) (s : Shared) (U : Addr → Prop) (σ : List Sl) (val : Nat → Option Value) (p : PV) (v : Value) (Q : Unit → Shared → Prop),
    EnvOk sc env → SR hb env U σ val s → RV s.heap (Av U σ val) p v → i < σ.length →
    (∀ s', SR hb env U (σ.set i (.pv p)) (upd val i v) s' → Chg (fun b => b = env.locals) no s s' → Q () s') → wpAny (model prog w) A (assign t env v) Q E s
theorem LG.loc {x : Str} {xp : Pos} {i : Nat} (hn : nameAt sc.names x = some (i, .local)) : LG prog w hb sc (.Name x xp) i :=
  fun env A E s U σ val p v Q he hs hv hi h => wpAny_assign_Name (st_loc he hs hn hv hi fun s' a b => h s' a b)
noncomputable def LGs (prog : Program) (w : World) (hb : Heap) (sc : Scope) (ts : List Expr) (is : List Nat) : Prop :=
  ts.length = is.length ∧ ∀ (env : Env) (A : Around) (E : Value → Shared → Prop) (s : Shared) (U : Addr → Prop) (σ σ' : List Sl) (val : Nat → Option Value) (ps : List PV) (vs : List Value) (Q : Unit → Shared → Prop),
    EnvOk sc env → SR hb env U σ val s → RVs s.heap (Av U σ val) ps vs → setMany is ps σ = some σ' →
    (∀ s' val', SR hb env U σ' val' s' → Chg (fun b => b = env.locals) no s s' → (∀ a, Owned σ' val' a → Owned σ val a) → Q () s') → wpAny (model prog w) A (assignInOrder ((assignEach ts env).map (·.2)) vs) Q E s
theorem LGs.nil : LGs prog w hb sc [] [] := ⟨rfl, fun env A E s U σ σ' val ps vs Q he hs hv hm h => by
  cases ps with
  | nil => cases hm; exact wpAny_pure (h s val hs (Chg.refl _) fun a h => h)
  | cons p ps => exact nn hm⟩
theorem LGs.cons {t : Expr} {ts : List Expr} {i : Nat} {is : List Nat} (h₁ : LG prog w hb sc t i) (h₂ : LGs prog w hb sc ts is) (hst : ∀ env, assignEach (t :: ts) env = (false, assign t env) :: assignEach ts env) :
    LGs prog w hb sc (t :: ts) (i :: is) := ⟨congrArg (· + 1) h₂.1, fun env A E s U σ σ' val ps vs Q he hs hv hm h => by
  cases ps with
  | nil => exact nn hm
  | cons p ps =>
    refine hv.c fun v r hv1 hv2 => bindE (show Option.bind _ _ = some _ from hm) fun σ₁ hσ hm => setS_rv hσ fun hi hσ => ?_
    rw [hst]
    refine wpAny_bind (wpAny_holding (h₁ env A E s U σ val p v _ he hs hv1 hi fun s₁ hs₁ c₁ => ?_))
    rw [hσ] at hs₁
    have ow : ∀ a, Owned σ₁ (upd val i v) a → Owned σ val a := fun a h => owned_set (hσ.symm ▸ h)
    exact h₂.2 env A E s₁ U _ σ' _ ps r Q he hs₁ (RVs.keep (fun b o hV hq e => ⟨c₁.locMut.heap b o (hs.notSeq hV hq e) e, fun q => hV (q.imp id (ow b))⟩) _ _ hv2) hm fun s₂ val₂ hs₂ c₂ o₂ => h s₂ val₂ hs₂ (c₁.trans c₂) fun a ha => ow a (o₂ a ha)⟩
noncomputable def LT (prog : Program) (w : World) (hb : Heap) (sc : Scope) (t : Expr) (tp : Itm → List Sl → Option (List Sl)) : Prop :=
  ∀ (env : Env) (A : Around) (E : Value → Shared → Prop) (s : Shared) (U : Addr → Prop) (σ σ' : List Sl) (val : Nat → Option Value) (p : Itm) (v : Value) (Q : Unit → Shared → Prop),
    EnvOk sc env → A.handled = none → SR hb env U σ val s → ItmIs s.heap (Av U σ val) p v → tp p σ = some σ' →
    (∀ s' val', SR hb env U σ' val' s' → Chg (fun b => b = env.locals) no s s' → (∀ a, Owned σ' val' a → Owned σ val a) → Q () s') → wpAny (model prog w) A (assign t env v) Q E s
theorem LT.one {t : Expr} {i : Nat} (h : LG prog w hb sc t i) : LT prog w hb sc t (oneP i) :=
  fun env A E s U σ σ' val p v Q he hh hs hv hm hQ => match p, hv, hm with
    | .one p, hv, hm => setS_rv hm fun hi hm => h env A E s U σ val p v Q he hs hv hi fun s' a b => hQ s' _ (hm ▸ a) b fun a h => owned_set (hm.symm ▸ h)
    | .two _ _, _, hm => nn hm
theorem LT.many {ts : List Expr} {is : List Nat} {k : Nat} {pos : Pos} (h : LGs prog w hb sc ts is) (hlen : ∀ env, (assignEach ts env).length = ts.length) (hstar : ∀ env, (assignEach ts env).findIdx? (·.1) = none) :
    LT prog w hb sc (.Tuple ts k pos) (manyP is) := by
  intro env A E s U σ σ' val p v Q he hh hs hv hm hQ
  have main : ∀ (ps : List PV) (vs : List Value) (T : Addr), s.heap.IsTuple T vs.toArray → RVs s.heap (Av U σ val) ps vs → setMany is ps σ = some σ' → wpAny (model prog w) A (assign (.Tuple ts k pos) env (.ref T)) Q E s := by
    intro ps vs T hT hps hm
    refine wpAny_assign_Tuple hh hT (by rw [hlen, h.1, setMany_len hm, List.size_toArray, hps.length]) (hstar env) fun h' hx => ?_
    have x : Ext s { s with heap := h' } := ext_of_keep (tk := s.toks) fun b o e => hx b o (fun q => nn (fresh_none.symm.trans (q ▸ e))) e
    exact h.2 env A E _ U σ σ' val ps vs Q he (hs.ext x) (hps.ext x) hm fun s' val' a b c => hQ s' val' a ((Ext.to x).trans b) c
  induction p with
  | one p => exact ot_rv (f := fun l => setMany is l σ) (G := fun v => wpAny (model prog w) A (assign (.Tuple ts k pos) env v) Q E s) hm hv fun l a vs n _ hg hr hm => main l vs a (isTuple_of hg) hr hm
  | two p q =>
    obtain ⟨T, x, y, rfl, hT, h1, h2⟩ := hv
    exact main [p, q] [x, y] T hT (RVs.cons h1 (RVs.cons h2 RVs.nil)) hm
noncomputable def XTs (prog : Program) (w : World) (hb : Heap) (sc : Scope) (lv : Nat) (ifs : List Expr) (ft : List Sl → Option Bool) : Prop :=
  ∀ (env : Env) (A : Around) (E : Value → Shared → Prop) (s : Shared) (U : Addr → Prop) (σ : List Sl) (val : Nat → Option Value) (p : Bool),
    EnvOk sc env → Room lv A → SR hb env U σ val s → ft σ = some p →
    wpAny (model prog w) A (forIn ifs true fun c r => if r = true then do let ok ← isTrue c env (eval c env); pure (ForInStep.yield ok) else pure (ForInStep.yield r)) (fun ok s' => Ext s s' ∧ ok = p) E s
theorem XTs.nil : XTs prog w hb sc lv [] (fun Z => some true) := fun _ _ _ _ _ _ _ _ he hr hs h => Option.some.inj h ▸ wpAny_tests_nil ⟨Chg.refl _, rfl⟩
theorem XTs.one {c : Expr} {f : List Sl → Option Bool} (h : XT prog w hb sc lv c f) : XTs prog w hb sc lv [c] f := fun _ _ _ _ _ _ _ _ he hr hs hf => wpAny_tests_one (h _ _ _ _ _ _ _ _ he hr hs hf)
theorem XTs.to {ifs : List Expr} {ft : List Sl → Option Bool} {env : Env} {A : Around} {E : Value → Shared → Prop} {s : Shared} {U : Addr → Prop} {σ : List Sl} {val : Nat → Option Value} {p : Bool} {Q : Bool → Shared → Prop} (h : XTs prog w hb sc lv ifs ft)
    (he : EnvOk sc env) (hr : Room lv A) (hs : SR hb env U σ val s) (hf : ft σ = some p) (k : ∀ s', Ext s s' → Q p s') :
    wpAny (model prog w) A (forIn ifs true fun c r => if r = true then do let ok ← isTrue c env (eval c env); pure (ForInStep.yield ok) else pure (ForInStep.yield r)) Q E s :=
  wpAny_mono (h env A E s U σ val p he hr hs hf) (fun v s' q => q.2 ▸ k s' q.1) fun _ _ x => x
structure CS (hb : Heap) (env : Env) (U : Addr → Prop) (D : Addr) (σ : List Sl) (val : Nat → Option Value) (ps : List PV) (s : Shared) : Prop where
  sr : SR hb env (fun b => U b ∨ b = D) σ val s
  nown : ∀ a, ¬ Owned σ val a
  nd : ¬ U D
  acc : ∃ vs n, s.heap.get? D = some (lstObj vs n) ∧ RVs s.heap (fun b => U b ∨ b = D) ps vs
noncomputable def XM (prog : Program) (w : World) (hb : Heap) (sc : Scope) (lv : Nat) (emit : Value → Env → Sem Unit) (fe : List PV → List Sl → Option (List PV × List Sl)) : Prop :=
  ∀ (env : Env) (A : Around) (E : Value → Shared → Prop) (s : Shared) (U : Addr → Prop) (D : Addr) (σ σ' : List Sl) (val : Nat → Option Value) (ps qs : List PV),
    EnvOk sc env → Room lv A → CS hb env U D σ val ps s → fe ps σ = some (qs, σ') →
    wpAny (model prog w) A (emit (.ref D) env) (fun Z s' => ∃ val', CS hb env U D σ' val' qs s' ∧ Chg (fun b => b = env.locals ∨ b = D) no s s') E s
noncomputable def compP (tp : Itm → List Sl → Option (List Sl)) (ft : List Sl → Option Bool) (fe : List PV → List Sl → Option (List PV × List Sl)) : List Itm → List PV → List Sl → Option (List PV × List Sl)
  | [], ps, σ => some (ps, σ)
  | x :: xs, ps, σ => (tp x σ).bind fun σ₁ => (ft σ₁).bind fun c => if c = true then (fe ps σ₁).bind fun r => compP tp ft fe xs r.1 r.2 else compP tp ft fe xs ps σ₁
noncomputable def emitP (f : List Sl → Option PV) (ps : List PV) (σ : List Sl) : Option (List PV × List Sl) :=
  if ps.length ≤ LIM then (f σ).map fun p => (ps ++ [p], σ) else none
theorem CS.ext {env : Env} {U : Addr → Prop} {D : Addr} {σ : List Sl} {val : Nat → Option Value} {ps : List PV} {s s' : Shared} (h : CS hb env U D σ val ps s) (x : Ext s s') : CS hb env U D σ val ps s' :=
  let ⟨vs, n, h1, h2⟩ := h.acc
  ⟨h.sr.ext x, h.nown, h.nd, vs, n, x.heap D _ (fun q => q) h1, h2.ext x⟩
theorem XM.elt {elt : Expr} {f : List Sl → Option PV} (h : XE prog w hb sc lv elt f) : XM prog w hb sc lv (fun acc env => do let _ ← PySem.call (.builtin "list.append") [acc, ← eval elt env]) (emitP f) := by
  intro env A E s U D σ σ' val ps qs he hr hc hf
  refine ite_o hf fun hlen hf => ?_
  obtain ⟨p, hp, hf⟩ := Option.map_eq_some_iff.mp hf
  cases hf
  refine wpAny_bind (h.to he hr hc.sr hp fun v s₁ x r hs₁ => ?_)
  obtain ⟨vs, n, hg, hrs⟩ := (hc.ext x).acc
  refine wpAny_bind (wpAny_list_append_plain (items := vs.toArray) ⟨n, hg⟩ (fun h' hl hsb => wpAny_pure ?_) (by rw [LIM_eq, List.size_toArray, hrs.length]; exact hlen))
  obtain ⟨n', hl⟩ := hl
  have c₁ : Chg (fun b => b = D) no s₁ { s₁ with heap := h' } := ⟨fun b o hM e => (hsb.2 b hM).trans e, fun b ⟨o, e⟩ => by
    by_cases q : b = D
    · exact ⟨_, q ▸ hl⟩
    · exact ⟨o, (hsb.2 b q).trans e⟩, fun Z Z Z e => e, Nat.le_refl _, fun h => h, rfl⟩
  have keep : ∀ b o, ¬ (U b ∨ b = D) → IsSeq o → s₁.heap.get? b = some o → h'.get? b = some o ∧ ¬ (U b ∨ b = D) := fun b o hV Z e => ⟨(hsb.2 b fun q => hV (.inr q)).trans e, hV⟩
  rw [List.push_toArray] at hl
  exact ⟨val, ⟨hs₁.moved (T := fun b => b = D) (fun b h => .inr h) (fun b o h e => (hsb.2 b h).trans e) (fun b h => .inl h) fun b h => c₁.ex b (hs₁.uex b h).1, hc.nown, hc.nd, vs ++ [v], n', hl, (RVs.keep keep _ _ hrs).append (RVs.cons (RV.keep keep _ _ (r.weak fun b h => .inl (.inl h))) RVs.nil)⟩,
    (Ext.to x).trans (c₁.mono (fun b h => .inr h) fun Z h => h)⟩
noncomputable def turnOf (e : Expr) (d : Nat) (target : Expr) (ipos : Pos) (ifs : List Expr) (emit : Value → Env → Sem Unit) (it acc : Value) (env : Env) : Sem Fin := do
  standAt ipos
  match ← pyNext it with
  | none => pure (.done .next)
  | some v =>
    letOwnedTupleGo target it v
    assign target env v
    let mut ok := true
    for c in ifs do
      if ok then ok ← isTrue c env (eval c env)
    if ok then
      emit acc env
    again (.compLoop e d it acc env)
theorem codeAny_turn {A : Around} {s : Shared} {elt : Expr} {gens : List Comprehension} {scope : Scope} {pos : Pos} {d : Nat} {target : Expr} {ipos : Pos} {ifs : List Expr} {emit : Value → Env → Sem Unit} {it acc : Value} {env : Env} {R : Result → Shared → Prop}
    (hturn : compTurn (.ListComp elt gens scope pos) d it acc env = turnOf (.ListComp elt gens scope pos) d target ipos ifs emit it acc env) (I : Nat → Shared → Prop)
    (turn : ∀ n s, I n s → wpAny (model prog w) A (pyNext it) (fun r s₁ => match r with
      | none => R (.ok .next) s₁
      | some v => wpAny (model prog w) A (letOwnedTupleGo target it v) (fun Z s₁' => wpAny (model prog w) A (assign target env v) (fun Z s₂ =>
          wpAny (model prog w) A (forIn ifs true fun c r => if r = true then do let ok ← isTrue c env (eval c env); pure (ForInStep.yield ok) else pure (ForInStep.yield r)) (fun ok s₃ =>
            if ok = true then wpAny (model prog w) A (emit acc env) (fun Z s₅ => ∃ m, m < n ∧ I m s₅) (notedBy (model prog w) A env fun e s' => R (.error e) s') s₃
            else ∃ m, m < n ∧ I m s₃) (notedBy (model prog w) A env fun e s' => R (.error e) s') s₂)
          (notedBy (model prog w) A env fun e s' => R (.error e) s') s₁') (notedBy (model prog w) A env fun e s' => R (.error e) s') s₁) (notedBy (model prog w) A env fun e s' => R (.error e) s') s)
    (n : Nat) (h : I n s) : codeAny (model prog w) A (.compLoop (.ListComp elt gens scope pos) d it acc env) R s := by
  refine codeAny_loop rfl I (fun n s hI => ?_) n h
  show wpAny _ A ((compTurn (.ListComp elt gens scope pos) d it acc env).onRaise (fun x => do noteFrame x env; theTreesLotGoes x)) _ _ s
  refine wpAny_noted ?_
  rw [hturn]
  unfold turnOf
  refine wpAny_bind (wpAny_standAt (wpAny_bind (wpAny_mono (turn n s hI) (fun r s₁ h₁ => ?_) fun Z Z h' => h')))
  cases r with
  | none => exact wpAny_pure h₁
  | some v =>
    refine wpAny_bind (wpAny_mono h₁ (fun Z s₁' h₁' => ?_) fun Z Z h' => h')
    refine wpAny_bind (wpAny_mono h₁' (fun Z s₂ h₂ => wpAny_bind (wpAny_mono h₂ (fun ok s₃ h₃ => ?_) fun Z Z h' => h')) fun Z Z h' => h')
    cases ok with
    | false => exact wpAny_pure ⟨rfl, h₃⟩
    | true => exact wpAny_bind (wpAny_mono h₃ (fun Z s₅ h₅ => wpAny_pure ⟨rfl, h₅⟩) fun Z Z h' => h')
theorem comp_loop {A : Around} {s₀ s : Shared} {elt : Expr} {gens : List Comprehension} {scope : Scope} {pos : Pos} {d : Nat} {target : Expr} {ipos : Pos} {ifs : List Expr} {emit : Value → Env → Sem Unit} {it : Value} {D : Addr} {env : Env} {R : Result → Shared → Prop}
    {U T V D' : Addr → Prop} {G : Nat → Prop} {σ σ' : List Sl} {val : Nat → Option Value} {ps qs : List PV} {xs : List Itm} {tp : Itm → List Sl → Option (List Sl)} {ft : List Sl → Option Bool} {fe : List PV → List Sl → Option (List PV × List Sl)}
    (hturn : compTurn (.ListComp elt gens scope pos) d it (.ref D) env = turnOf (.ListComp elt gens scope pos) d target ipos ifs emit it (.ref D) env)
    (ht : LT prog w hb sc target tp) (hts : XTs prog w hb sc lv ifs ft) (hm : XM prog w hb sc lv emit fe) (he : EnvOk sc env) (hr : Room lv A)
    (hc : CS hb env (fun b => U b ∨ T b) D σ val ps s) (hI : Itr prog w hb lv A target V it D' G xs T s) (hg : compP tp ft fe xs ps σ = some (qs, σ'))
    (hD' : ∀ b, D' b → b ≠ env.locals ∧ b ≠ D) (hV : ∀ b, U b ∨ T b ∨ b = D ∨ s.heap.get? b = none → V b)
    (c₀ : Chg (fun b => b = env.locals ∨ b = D) no s₀ s) (hT : ∀ b, T b → s₀.heap.get? b = none) (hG : ∀ i, G i → s₀.gens.size ≤ i) (hU : ∀ b, U b → Has s₀.heap b)
    (hR : ∀ s' val', CS hb env U D σ' val' qs s' → Chg (fun b => b = env.locals ∨ b = D) no s₀ s' → R (.ok .next) s') :
    codeAny (model prog w) A (.compLoop (.ListComp elt gens scope pos) d it (.ref D) env) R s := by
  refine codeAny_turn hturn (fun n s₁ => ∃ xs ps σ₁ val₁ T₁, n = xs.length ∧ CS hb env (fun b => U b ∨ T₁ b) D σ₁ val₁ ps s₁ ∧ compP tp ft fe xs ps σ₁ = some (qs, σ') ∧ Itr prog w hb lv A target V it D' G xs T₁ s₁ ∧ (∀ b, T₁ b → T b ∨ s.heap.get? b = none) ∧
      (∀ b, s₁.heap.get? b = none → s.heap.get? b = none) ∧ Chg (fun b => b = env.locals ∨ b = D) no s₀ s₁) ?_ xs.length ⟨xs, ps, σ, val, T, rfl, hc, hg, hI, fun b h => .inl h, fun b h => h, c₀⟩
  rintro n s₁ ⟨xs₁, ps₁, σ₁, val₁, T₁, rfl, hc₁, hg₁, hI₁, hT₁, hf₁, c₁⟩
  have T₁s : ∀ b, T₁ b → s₀.heap.get? b = none := fun b h => (hT₁ b h).elim (hT b) fun q => c₀.none q
  have UT : ∀ b, U b → ¬ T₁ b := fun b h q => by obtain ⟨o, e⟩ := hU b h; rw [T₁s b q] at e; cases e
  have T₁D : ∀ b, T₁ b → b ≠ D := fun b h q => hc₁.nd (q ▸ .inr h)
  cases xs₁ with
  | nil =>
    refine hI₁.useNil hc₁.sr.base fun s₂ c₂ => ?_
    cases hg₁
    refine hR s₂ val₁ ⟨?_, hc₁.nown, fun q => hc₁.nd (.inl q), ?_⟩ (c₁.afterW c₂ T₁s hG)
    · refine hc₁.sr.moved (T := T₁) (fun b h => .inl (.inr h)) (fun b o h e => c₂.heap b o h e) (fun b h => .inl (h.imp .inl id)) fun b h => ?_
      obtain ⟨o, e⟩ := (hc₁.sr.uex b (h.imp .inl id)).1
      exact ⟨o, c₂.heap b o (fun q => h.elim (fun h => UT b h q) fun h => T₁D b q h) e⟩
    · obtain ⟨vs, k, h1, h2⟩ := hc₁.acc
      refine ⟨vs, k, c₂.heap D _ (fun q => T₁D D q rfl) h1, RVs.keep (fun b o hV Z e => ⟨c₂.heap b o (fun q => hV (.inl (.inr q))) e, fun q => hV (q.imp .inl id)⟩) _ _ h2⟩
  | cons x xs₁ =>
    simp only [compP] at hg₁
    refine bindE hg₁ fun σ₂ hσ₂ hg₁ => ?_
    refine bindE hg₁ fun c hc' hg₁ => ?_
    refine hI₁.useCons hc₁.sr.base fun v s₂ T₂ c₂ hTT hT₂ hT₂x hv hI₂ => ?_
    have hT₂' : ∀ b, T₂ b → T b ∨ s.heap.get? b = none := fun b h => (hT₂ b h).elim (hT₁ b) fun q => .inr (hf₁ b q)
    have T₂D : ∀ b, T₂ b → b ≠ D := fun b h q => by
      rcases hT₂ b h with h | h
      · exact T₁D b h q
      · obtain ⟨vs, k, h1, Z⟩ := hc₁.acc; rw [← q, h] at h1; cases h1
    have hs₂ : SR hb env (fun b => (U b ∨ T₂ b) ∨ b = D) σ₁ val₁ s₂ := hc₁.sr.moved (T := T₁) (fun b h => .inl (.inr h)) (fun b o h e => c₂.heap b o h e) (fun b h => by
      rcases h with (h | h) | h
      · exact .inl (.inl (.inl h))
      · exact (hT₂ b h).imp (fun h => .inl (.inr h)) id
      · exact .inl (.inr h)) fun b h => by
      rcases h with (h | h) | h
      · exact c₂.ex b (hc₁.sr.uex b (.inl (.inl h))).1
      · exact hT₂x b h
      · exact c₂.ex b (hc₁.sr.uex b (.inr h)).1
    have acc₂ : ∃ vs k, s₂.heap.get? D = some (lstObj vs k) ∧ RVs s₂.heap (fun b => (U b ∨ T₂ b) ∨ b = D) ps₁ vs := by
      obtain ⟨vs, k, h1, h2⟩ := hc₁.acc
      exact ⟨vs, k, c₂.heap D _ (fun q => T₁D D q rfl) h1, RVs.keep (fun b o hV Z e => ⟨c₂.heap b o (fun q => hV (.inl (.inr q))) e, fun q => by
        rcases q with (q | q) | q
        · exact hV (.inl (.inl q))
        · rcases hT₂ b q with q | q
          · exact hV (.inl (.inr q))
          · rw [q] at e; cases e
        · exact hV (.inr q)⟩) _ _ h2⟩
    have c₃ := c₁.afterW c₂.toW T₁s hG
    refine ht env A _ s₂ _ σ₁ σ₂ val₁ x v _ he hr.1 hs₂ (hv.weak fun a h => .inl ?_) hσ₂ fun s₃ val₃ hs₃ c₄ o₄ => ?_
    · rcases h with ((h | h) | h) | h
      · exact hV a (.inl h)
      · exact hV a ((hT₂' a h).elim (fun h => .inr (.inl h)) fun h => .inr (.inr (.inr h)))
      · exact hV a (.inr (.inr (.inl h)))
      · exact (hc₁.nown a h).elim
    have no₃ : ∀ a, ¬ Owned σ₂ val₃ a := fun a h => hc₁.nown a (o₄ a h)
    have nL : ∀ b, D' b ∨ T₂ b → b ≠ env.locals ∧ b ≠ D := fun b h => h.elim (hD' b) fun h => ⟨fun q => hs₂.un b (.inl q) (.inl (.inr h)), T₂D b h⟩
    have hI₃ := hI₂.stands (c₄.stands (fun b h => (nL b h).1) fun Z Z h => h.elim)
    have nD3 : ¬ (U D ∨ T₂ D) := fun q => q.elim (fun q => hc₁.nd (.inl q)) fun q => T₂D D q rfl
    have DL : D ≠ env.locals := fun q => hs₂.un D (.inl q) (.inr rfl)
    have hc₃ : CS hb env (fun b => U b ∨ T₂ b) D σ₂ val₃ ps₁ s₃ := ⟨hs₃, no₃, nD3, by
      obtain ⟨vs, k, h1, h2⟩ := acc₂
      refine ⟨vs, k, c₄.heap D _ DL h1, RVs.keep (fun b o hV hq e => ⟨c₄.heap b o (fun q => ?_) e, hV⟩) _ _ h2⟩
      obtain ⟨m, hns, Z⟩ := hs₂.ns; exact ns_nseq hns o (q ▸ e) hq⟩
    refine wpAny_mono (hts env A _ s₃ _ σ₂ val₃ c he hr hs₃ hc') (fun ok s₄ q => ?_) fun Z Z x => x
    obtain ⟨x₄, rfl⟩ := q
    have hI₄ := hI₃.stands (x₄.stands (fun Z Z h => h) fun Z Z h => h)
    have hc₄ : CS hb env (fun b => U b ∨ T₂ b) D σ₂ val₃ ps₁ s₄ := ⟨hs₃.ext x₄, no₃, nD3, by
      obtain ⟨vs, k, h1, h2⟩ := hc₃.acc
      exact ⟨vs, k, x₄.heap D _ (fun q => q) h1, h2.ext x₄⟩⟩
    have c₅ : Chg (fun b => b = env.locals ∨ b = D) no s₀ s₄ := (c₃.trans (c₄.mono (fun b h => .inl h) fun Z h => h)).trans (Ext.to x₄)
    have f₄ : ∀ b, s₄.heap.get? b = none → s.heap.get? b = none := fun b q => hf₁ b (c₂.none (c₄.none (x₄.none q)))
    cases ok with
    | false =>
      rw [if_neg Bool.false_ne_true] at hg₁ ⊢
      exact ⟨xs₁.length, Nat.lt_succ_self _, xs₁, ps₁, σ₂, val₃, T₂, rfl, hc₄, hg₁, hI₄, hT₂', f₄, c₅⟩
    | true =>
      rw [if_pos rfl] at hg₁ ⊢
      obtain ⟨⟨qs₁, σ₅⟩, hr₅, hg₁⟩ := Option.bind_eq_some_iff.mp hg₁
      refine wpAny_mono (hm env A _ s₄ _ D σ₂ σ₅ val₃ ps₁ qs₁ he hr hc₄ hr₅) (fun Z s₅ q => ?_) fun Z Z x => x
      obtain ⟨val₅, hc₅, c₆⟩ := q
      have hI₅ := hI₄.stands (c₆.stands (fun b h => fun q => q.elim (nL b h).1 (nL b h).2) fun Z Z h => h)
      exact ⟨xs₁.length, Nat.lt_succ_self _, xs₁, qs₁, σ₅, val₅, T₂, rfl, hc₅, hg₁, hI₅, hT₂', fun b q => f₄ b (c₆.none q), c₅.trans c₆⟩
end
section
variable {prog : Program} {w : World} {hb : Heap} {sc : Scope} {lv : Nat}
noncomputable def relab (scope sc : Scope) : Scope :=
  { scope with names := scope.names.map fun (n, k) => if (k == .free && sc.kind == .function && sc.names.lookup n == some .cell) then (n, .cell) else (n, k) }
theorem relab_eq {env : Env} {scope : Scope} (h : env.scope = sc) : relabel scope env = relab scope sc := by
  subst h; rfl
noncomputable def closL (cells : List (Str × Addr)) : List (Str × NameKind) → List (Str × Addr) → List (Str × Addr)
  | [], cs => cs
  | (n, k) :: r, cs => closL cells r (if k == .free then (n, (cells.lookup n).getD 0) :: cs else cs)
theorem closure_go {env : Env} : ∀ (names : List (Str × NameKind)) (cs : List (Str × Addr)), (∀ x ∈ names, x.2 = .free → ∃ c, env.cells.lookup x.1 = some c) →
    (forIn names cs fun x r => match x with | (name, kind) => if (kind == NameKind.free) = true then do let a ← cellOf env name; pure (ForInStep.yield ((name, a) :: r)) else pure (ForInStep.yield r)) = (pure (closL env.cells names cs) : Sem _)
  | [], cs, _ => rfl
  | (n, k) :: r, cs, h => by
    have ih := fun cs => closure_go (env := env) r cs fun x hx => h x (List.mem_cons_of_mem _ hx)
    rw [List.forIn_cons]
    by_cases hk : (k == NameKind.free) = true
    · have hk' : k = .free := by simpa using hk
      obtain ⟨c, hc⟩ := h (n, k) List.mem_cons_self hk'
      have hco : cellOf env n = pure c := by unfold cellOf; rw [show env.cells.lookup n = some c from hc]
      simp only [hk, if_true, hco, pure_bind, closL]
      have hc' : (env.cells.lookup n).getD 0 = c := by rw [show env.cells.lookup n = some c from hc]; rfl
      rw [hc']
      exact ih _
    · simp only [hk, if_false, pure_bind, closL]
      exact ih _
theorem closureFor_eq {env : Env} {scope : Scope} (h : ∀ x ∈ scope.names, x.2 = .free → ∃ c, env.cells.lookup x.1 = some c) : closureFor scope env = pure (closL env.cells scope.names []) := by
  unfold closureFor
  have := closure_go (env := env) scope.names [] h
  simp only [this]
  rfl
theorem closL_sub {cells : List (Str × Addr)} : ∀ (names : List (Str × NameKind)) (cs : List (Str × Addr)), (∀ x ∈ names, x.2 = .free → ∃ c, cells.lookup x.1 = some c) → (∀ x c, cs.lookup x = some c → cells.lookup x = some c) →
    ∀ x c, (closL cells names cs).lookup x = some c → cells.lookup x = some c
  | [], cs, _, hcs, x, c, h => hcs x c h
  | (n, k) :: r, cs, hn, hcs, x, c, h => by
    refine closL_sub r _ (fun y hy => hn y (List.mem_cons_of_mem _ hy)) (fun y d hd => ?_) x c h
    by_cases hk : (k == NameKind.free) = true
    · rw [if_pos hk, List.lookup_cons] at hd
      obtain ⟨e, he⟩ := hn (n, k) List.mem_cons_self (by simpa using hk)
      split at hd
      · rename_i hy
        have hy' : y = n := by simpa using hy
        subst hy'
        cases hd
        have he' : cells.lookup y = some e := he
        rw [he']; rfl
      · exact hcs y d hd
    · rw [if_neg hk] at hd; exact hcs y d hd
theorem closL_has {cells : List (Str × Addr)} : ∀ (names : List (Str × NameKind)) (cs : List (Str × Addr)) (x : Str), ((x, NameKind.free) ∈ names ∨ ∃ c, cs.lookup x = some c) → ∃ c, (closL cells names cs).lookup x = some c
  | [], cs, x, h => by
    rcases h with h | h
    · cases h
    · exact h
  | (n, k) :: r, cs, x, h => by
    refine closL_has r _ x ?_
    by_cases hk : (k == NameKind.free) = true
    · rw [if_pos hk]
      rcases h with h | ⟨c, h⟩
      · rcases List.mem_cons.mp h with h | h
        · cases h; exact .inr ⟨(cells.lookup n).getD 0, by rw [List.lookup_cons]; simp⟩
        · exact .inl h
      · right
        rw [List.lookup_cons]
        split
        · exact ⟨_, rfl⟩
        · exact ⟨c, h⟩
    · rw [if_neg hk]
      rcases h with h | h
      · rcases List.mem_cons.mp h with h | h
        · cases h; simp at hk
        · exact .inl h
      · exact .inr h
noncomputable def pvOnly : Sl → Sl
  | .pv p => .pv p
  | _ => .un
/-- the frame inside a comprehension -/
noncomputable def inSl (inner outer : List (Str × NameKind)) (σ : List Sl) : List Sl :=
  inner.map fun (n, k) => match k with
    | .free => match nameAt outer n with
      | some (j, _) => pvOnly (σ.getD j .un)
      | none => .un
    | _ => .un
noncomputable def inVal (inner outer : List (Str × NameKind)) (val : Nat → Option Value) (i : Nat) : Option Value :=
  match inner[i]? with
  | some (n, .free) => match nameAt outer n with
    | some (j, _) => val j
    | none => none
  | _ => none
theorem nameAt_of_get : ∀ {l : List (Str × NameKind)} {i : Nat} {x : Str} {k : NameKind}, l.lookup x = some k → ∃ i, nameAt l x = some (i, k)
  | [], _, _, _, h => by cases h
  | (y, k') :: r, i, x, k, h => by
    rw [List.lookup_cons] at h
    unfold nameAt
    split at h
    · rename_i hy; cases h; exact ⟨0, by simp [hy]⟩
    · rename_i hy
      obtain ⟨j, hj⟩ := nameAt_of_get (i := i) h
      exact ⟨j + 1, by simp [hy, hj]⟩
structure CompOk (scope sc : Scope) : Prop where
  kind : scope.kind = .function
  nodup : (scope.names.map (·.1)).Nodup
  ncell : ∀ x ∈ scope.names, x.2 ≠ .cell
  free : ∀ x ∈ scope.names, x.2 = .free → sc.names.lookup x.1 = some .cell
  hsc : sc.kind = .function
theorem relab_names {scope : Scope} : (relab scope sc).names.map (·.1) = scope.names.map (·.1) := by
  unfold relab
  simp only [List.map_map]
  apply List.map_congr_left
  rintro ⟨n, k⟩ Z
  simp only [Function.comp]
  split <;> rfl
theorem relab_get {scope : Scope} (ok : CompOk scope sc) {i : Nat} {x : Str} {k : NameKind} (h : (relab scope sc).names[i]? = some (x, k)) :
    (k = .cell → scope.names[i]? = some (x, .free)) ∧ (k ≠ .cell → scope.names[i]? = some (x, k)) := by
  unfold relab at h
  rw [List.getElem?_map] at h
  obtain ⟨⟨n, k'⟩, h1, h2⟩ := Option.map_eq_some_iff.mp h
  have hm : (n, k') ∈ scope.names := List.mem_of_getElem? h1
  simp only at h2
  by_cases hc : (k' == NameKind.free && sc.kind == .function && sc.names.lookup n == some .cell) = true
  · rw [if_pos hc] at h2
    cases h2
    have : k' = .free := by simp at hc; exact hc.1.1
    subst this
    exact ⟨fun Z => h1, fun q => absurd rfl q⟩
  · rw [if_neg hc] at h2
    cases h2
    refine ⟨fun q => absurd q (ok.ncell _ hm), fun Z => h1⟩
theorem CompOk.names {scope : Scope} (ok : CompOk scope sc) : ∀ x ∈ scope.names, x.2 = .local → scope.names.lookup x.1 = some .local := by
  have key : ∀ (l : List (Str × NameKind)), (l.map (·.1)).Nodup → ∀ x ∈ l, l.lookup x.1 = some x.2 := by
    intro l
    induction l with
    | nil => intro Z x h; cases h
    | cons y r ih =>
      intro hn x h
      obtain ⟨h1, h2⟩ := List.nodup_cons.mp hn
      rw [List.lookup_cons]
      rcases List.mem_cons.mp h with h | h
      · subst h; simp
      · have : (x.1 == y.1) = false := by
          rw [beq_eq_false_iff_ne]
          intro q
          exact h1 (List.mem_map.mpr ⟨x, h, q⟩)
        rw [this]
        exact ih h2 x h
  intro x hx hl
  rw [key _ ok.nodup x hx, hl]
theorem comp_main {A : Around} {E : Value → Shared → Prop} {s : Shared} {env : Env} {U : Addr → Prop} {σ σ' : List Sl} {val : Nat → Option Value} {elt target iter : Expr} {ifs : List Expr} {rest : List Comprehension} {scope : Scope} {pos ipos : Pos} {emit : Value → Env → Sem Unit}
    {fi : List Sl → Option (List Itm)} {tp : Itm → List Sl → Option (List Sl)} {ft : List Sl → Option Bool} {fe : List PV → List Sl → Option (List PV × List Sl)} {xs : List Itm} {qs : List PV} {RR : Value → Addr → Result → Shared → Prop}
    (hturn : ∀ it acc env, compTurn (.ListComp elt (⟨target, iter, ifs, 0⟩ :: rest) scope pos) 0 it acc env = turnOf (.ListComp elt (⟨target, iter, ifs, 0⟩ :: rest) scope pos) 0 target ipos ifs emit it acc env)
    (ok : CompOk scope sc) (hi : XI prog w hb sc lv target iter fi) (ht : LT prog w hb (relab scope sc) target tp) (hts : XTs prog w hb (relab scope sc) lv ifs ft) (hm : XM prog w hb (relab scope sc) lv emit fe)
    (he : EnvOk sc env) (hr : Room lv A) (hs : SR hb env U σ val s) (hxs : fi σ = some xs) (hg : compP tp ft fe xs [] (inSl scope.names sc.names σ) = some (qs, σ'))
    (hRR : ∀ D C s', Ext s s' → s.heap.get? C = none → (∃ m, s'.heap.Ns C m) → RV s'.heap (Av U σ val) (.lst qs) (.ref D) → RR (.ref D) C (.ok .next) s') :
    wpAny (model prog w) A (eval iter env) (fun x s₁ => wpAny (model prog w) A (pyIter x) (fun it s₂ => wpAny (model prog w) A (newList []) (fun acc s₃ =>
      wpAny (model prog w) A (newFunctionEnv scope env.globals (closL env.cells scope.names []) [] env.qual none .none (some env)) (fun cenv s₄ =>
        codeAny (model prog w) A (.compStart (.ListComp elt (⟨target, iter, ifs, 0⟩ :: rest) scope pos) 0 it acc { cenv with scope := relabel scope env }) (RR acc cenv.locals) s₄) E s₃) E s₂) E s₁) E s := by
  refine wpAny_mono (hi env A E s U σ val xs he hr hs hxs) (fun x s₁ q => wpAny_mono q (fun it s₂ q₂ => ?_) fun Z Z x => x) fun Z Z x => x
  obtain ⟨x₂, D', T, G, hD', hT, hG, hI, hSelf⟩ := q₂
  have hs₂ := hs.ext x₂
  have hcl : ∀ x ∈ scope.names, x.2 = .free → ∃ c, env.cells.lookup x.1 = some c := fun x hx hf => by
    obtain ⟨j, hj⟩ := nameAt_of_get (i := 0) (ok.free x hx hf)
    obtain ⟨h1, h2⟩ := nameAt_lookup hj
    obtain ⟨c, hc, Z⟩ := hs.cell j x.1 (by rw [he.scope]; exact h2)
    exact ⟨c, hc⟩
  refine wpAny_newObj_type (wpAny_newFunctionEnv ok.ncell (by intro y hy; simp at hy) (fun h₁ hns₁ hsb₁ => ?_) ok.kind)
  dsimp only at hns₁ hsb₁ ⊢
  generalize hH2 : s₂.heap.push { cls := .type "list", dict := none, data := .seq ([] : List Value).toArray } = H2 at hns₁ hsb₁ ⊢
  have hC : H2.objs.size = s₂.heap.objs.size + 1 := by rw [← hH2, Heap.size_push]
  have hDC : s₂.heap.objs.size ≠ H2.objs.size := by rw [hC]; exact Nat.ne_of_lt (Nat.lt_succ_self _)
  have below : ∀ b, b < s₂.heap.objs.size → b ≠ H2.objs.size ∧ b ≠ s₂.heap.objs.size := fun b hb => ⟨by rw [hC]; exact Nat.ne_of_lt (Nat.lt_succ_of_lt hb), Nat.ne_of_lt hb⟩
  have old : ∀ b o, s₂.heap.get? b = some o → h₁.get? b = some o := fun b o e => hsb₁.extBut b o (below b (Heap.lt_size e)).1 (Heap.get?_push_of_some _ (hH2 ▸ Heap.get?_push_of_some _ e))
  have hacc : h₁.get? s₂.heap.objs.size = some (lstObj [] 0) := hsb₁.extBut _ _ hDC (Heap.get?_push_of_some _ (hH2 ▸ Heap.get?_push_size _ rfl))
  have hCn : s₂.heap.get? H2.objs.size = none := by
    cases e : s₂.heap.get? H2.objs.size with
    | none => rfl
    | some o => have := Heap.lt_size e; rw [hC] at this; exact absurd this (Nat.not_lt.mpr (Nat.le_succ _))
  rw [relab_eq he.scope]
  have x₃ : Ext s₂ { s₂ with heap := h₁, toks := s₂.toks + ([] : List (Str × Value)).length } := ext_of_keep old
  have e₃ : ({ s₂ with heap := h₁, toks := s₂.toks + ([] : List (Str × Value)).length } : Shared).heap = h₁ := rfl
  generalize ({ s₂ with heap := h₁, toks := s₂.toks + ([] : List (Str × Value)).length } : Shared) = s₃ at x₃ e₃ ⊢
  have hs₃ : SR hb env U σ val s₃ := hs₂.ext x₃
  generalize hDD : s₂.heap.objs.size = D at hacc hDC ⊢
  have hDn : s₂.heap.get? D = none := hDD ▸ fresh_none
  generalize H2.objs.size = C at hns₁ hDC hCn ⊢
  show codeAny _ _ (.compStart _ 0 it (.ref D) { scope := relab scope sc, locals := C, globals := env.globals, cells := closL env.cells scope.names [], qual := env.qual, func := none, code := env.code, frame := env.frame, builtins := env.builtins }) (RR (.ref D) C) s₃
  generalize hce : ({ scope := relab scope sc, locals := C, globals := env.globals, cells := closL env.cells scope.names [], qual := env.qual, func := none, code := env.code, frame := env.frame, builtins := env.builtins } : Env) = cenv
  have cl : cenv.locals = C := by rw [← hce]
  have cc : cenv.cells = closL env.cells scope.names [] := by rw [← hce]
  have csub : ∀ x c, cenv.cells.lookup x = some c → env.cells.lookup x = some c := fun x c h => closL_sub scope.names [] hcl (fun y d hd => by cases hd) x c (cc ▸ h)
  have hce' : EnvOk (relab scope sc) cenv := by
    refine ⟨fun x y c h1 h2 => he.apart x y c (csub x c h1) (csub y c h2), by rw [← hce], by rw [← hce]; exact he.glob, by rw [← hce]; exact he.bui, ok.kind, ?_⟩
    rw [relab_names]; exact ok.nodup
  have hsn : s.heap.get? C = none := x₂.none hCn
  have mutIn : ∀ b, Mut cenv (inSl scope.names sc.names σ) (inVal scope.names sc.names val) b → b = C ∨ ∃ x, env.cells.lookup x = some b := fun b m => by
    rcases m with m | ⟨x, m⟩ | ⟨i, l, m, _⟩
    · exact .inl (m.trans cl)
    · exact .inr ⟨x, csub x b m⟩
    · exfalso
      unfold inSl at m
      rw [List.getElem?_map] at m
      obtain ⟨⟨n, k⟩, Z, m⟩ := Option.map_eq_some_iff.mp m
      cases k <;> simp only at m <;> first | (cases m; done) | skip
      split at m
      · rename_i j _ _; cases h : σ.getD j .un <;> rw [h] at m <;> cases m
      · cases m
  have hno : ∀ a, ¬ Owned (inSl scope.names sc.names σ) (inVal scope.names sc.names val) a := fun a ⟨i, l, m, _⟩ => by
    unfold inSl at m
    rw [List.getElem?_map] at m
    obtain ⟨⟨n, k⟩, Z, m⟩ := Option.map_eq_some_iff.mp m
    cases k <;> simp only at m <;> first | (cases m; done) | skip
    split at m
    · rename_i j _ _; cases h : σ.getD j .un <;> rw [h] at m <;> cases m
    · cases m
  have avhas : ∀ b, Av U σ val b → Has s₂.heap b := fun b h => hs₂.av_has h
  have hsC : SR hb cenv (fun b => (Av U σ val b ∨ T b) ∨ b = D) (inSl scope.names sc.names σ) (inVal scope.names sc.names val) s₃ := by
    refine ⟨hs.nl, hs₃.base, ⟨_, by rw [cl, e₃]; exact hns₁, fun i x hx => ?_⟩, fun i x hx => ?_, fun x c hc => hs₃.cellOk x c (csub x c hc), fun i => ?_, fun i j l l' a h1 h2 h3 h4 => (hno a ⟨i, l, h1, h3⟩).elim, fun b h => ?_, fun b m h => ?_, fun b m => ?_⟩
    · have hx' : scope.names[i]? = some (x, .local) := (relab_get ok (i := i) (x := x) (k := .local) (by rw [← hce] at hx; exact hx)).2 (fun q => by cases q)
      simp [inVal, hx']
    · have hx' : scope.names[i]? = some (x, .free) := (relab_get ok (i := i) (x := x) (k := .cell) (by rw [← hce] at hx; exact hx)).1 rfl
      have hm : (x, NameKind.free) ∈ scope.names := List.mem_of_getElem? hx'
      obtain ⟨c, hc⟩ := closL_has (cells := env.cells) scope.names [] x (.inl hm)
      obtain ⟨j, hj⟩ := nameAt_of_get (i := 0) (ok.free _ hm rfl)
      obtain ⟨h1, h2⟩ := nameAt_lookup hj
      obtain ⟨c', hc', hi'⟩ := hs₃.cell j x (by rw [he.scope]; exact h2)
      have : c' = c := by have := csub x c (cc ▸ hc); rw [hc'] at this; exact Option.some.inj this
      subst this
      refine ⟨c', cc ▸ hc, ?_⟩
      have hj' : nameAt sc.names x = some (j, .cell) := hj
      simp only [inVal, hx', hj']
      exact hi'
    · have base : SlotIs s₃.heap (Av (fun b => (Av U σ val b ∨ T b) ∨ b = D) (inSl scope.names sc.names σ) (inVal scope.names sc.names val)) ((inSl scope.names sc.names σ).getD i .un) (inVal scope.names sc.names val i) := by
        unfold inSl inVal
        rw [List.getD_eq_getElem?_getD, List.getElem?_map]
        cases hq : scope.names[i]? with
        | none => trivial
        | some nk =>
          obtain ⟨n, k⟩ := nk
          cases k <;> try trivial
          simp only [Option.map_some, Option.getD_some]
          cases hj : nameAt sc.names n with
          | none => trivial
          | some jk =>
            obtain ⟨j, k'⟩ := jk
            simp only
            have q := hs.slot j
            cases hsl : σ.getD j .un with
            | un => trivial
            | own l => trivial
            | pv p =>
              rw [hsl] at q
              obtain ⟨y, hy, hry⟩ := q
              refine ⟨y, hy, RV.keep (fun b o hV Z e => ⟨x₃.heap b o (fun q => q) (x₂.heap b o (fun q => q) e), fun q => ?_⟩) _ _ hry⟩
              rcases q with ((q | q) | q) | q
              · exact hV q
              · rw [(hT b q).1] at e; cases e
              · subst q; have := x₂.heap b o (fun q => q) e; rw [hDn] at this; cases this
              · exact hno b q
      exact base
    · rcases h with (h | h) | h
      · refine ⟨x₃.ex b (avhas b h), ?_⟩
        rcases h with h | h
        · exact (hs.uex b h).2
        · exact hs.hbn b (.inr (.inr h))
      · exact ⟨x₃.ex b (hT b h).2, hs.hb_none (hT b h).1⟩
      · subst h; exact ⟨⟨_, e₃ ▸ hacc⟩, hs₂.hb_none hDn⟩
    · rcases mutIn b m with m | ⟨x, m⟩
      · subst m
        rcases h with (h | h) | h
        · obtain ⟨o, e⟩ := avhas _ h; rw [hCn] at e; cases e
        · obtain ⟨o, e⟩ := (hT _ h).2; rw [hCn] at e; cases e
        · exact hDC h.symm
      · have hM : Mut env σ val b := .inr (.inl ⟨x, m⟩)
        rcases h with (h | h) | h
        · rcases h with h | h
          · exact hs.un b hM h
          · obtain ⟨v, hv⟩ := hs.cellOk x b m
            obtain ⟨vs, n, e⟩ := hs.owned_has h
            exact isCell_nseq hv _ e ⟨_, _, rfl⟩
        · obtain ⟨o, e⟩ := hs.mut_has hM; rw [(hT b h).1] at e; cases e
        · obtain ⟨o, e⟩ := hs₂.mut_has hM; rw [h, hDn] at e; cases e
    · rcases mutIn b m with m | ⟨x, m⟩
      · subst m; exact hs₂.hb_none hCn
      · exact hs.hbn b (.inr (.inl ⟨x, m⟩))
  have hCS : CS hb cenv (fun b => Av U σ val b ∨ T b) D (inSl scope.names sc.names σ) (inVal scope.names sc.names val) [] s₃ := by
    refine ⟨hsC, hno, fun q => ?_, [], 0, by rw [e₃]; exact hacc, RVs.nil⟩
    rcases q with q | q
    · obtain ⟨o, e⟩ := avhas D q; rw [hDn] at e; cases e
    · obtain ⟨o, e⟩ := (hT D q).2; rw [hDn] at e; cases e
  have D'3 : ∀ b, D' b ∨ T b → Has s₂.heap b := fun b h => h.elim (fun h => (hD' b h).1) fun h => (hT b h).2
  have hI₃ := hI.stands (x₃.stands (fun Z Z h => h) fun Z Z h => h)
  have go : codeAny (model prog w) A (.compLoop (.ListComp elt (⟨target, iter, ifs, 0⟩ :: rest) scope pos) 0 it (.ref D) cenv) (RR (.ref D) C) s₃ := by
    refine comp_loop (s₀ := s) (U := Av U σ val) (hturn it (.ref D) cenv) ht hts hm hce' hr hCS hI₃ hg (fun b h => ?_) (fun b h => ?_) ((Ext.to x₂).trans (Ext.to x₃)) (fun b h => (hT b h).1) hG (fun b h => hs.av_has h) fun s' val' hc' c' => ?_
    · obtain ⟨o, e⟩ := (hD' b h).1
      exact ⟨fun q => (by rw [q, cl, hCn] at e; cases e), fun q => (by rw [q, hDn] at e; cases e)⟩
    · rcases h with h | h | h | h
      · exact .inl h
      · exact .inr (.inl h)
      · exact .inr (.inr (h ▸ hDn))
      · exact .inr (.inr (x₃.none h))
    · have c'' : Ext s s' := c'.only (fun b h ⟨o, e⟩ => by
        rcases h with h | h
        · rw [h, cl, hsn] at e; cases e
        · rw [h, x₂.none hDn] at e; cases e) fun Z h Z => h
      refine hRR D C s' c'' hsn (let ⟨m, hn, _⟩ := hc'.sr.ns; ⟨m, cl ▸ hn⟩) ?_
      obtain ⟨vs, n, h1, h2⟩ := hc'.acc
      simp only [RV]
      exact ⟨D, vs, n, rfl, hc'.nd, h1, h2.weak fun b h => .inl (.inl h)⟩
  exact codeAny_compStart_list go (hSelf _ _ _ _ (fun b o h e => x₃.heap b o (fun q => q) e) go)
end
section
variable {prog : Program} {w : World} {hb : Heap} {sc : Scope} {lv : Nat}
noncomputable abbrev emitA (elt : Expr) : Value → Env → Sem Unit := fun acc env => do let _ ← PySem.call (.builtin "list.append") [acc, ← eval elt env]
theorem closOf {env : Env} {scope : Scope} {U : Addr → Prop} {σ : List Sl} {val : Nat → Option Value} {s : Shared} (ok : CompOk scope sc) (he : EnvOk sc env) (hs : SR hb env U σ val s) : closureFor scope env = pure (closL env.cells scope.names []) :=
  closureFor_eq fun x hx hf => by
    obtain ⟨j, hj⟩ := nameAt_of_get (i := 0) (ok.free x hx hf)
    obtain ⟨h1, h2⟩ := nameAt_lookup hj
    obtain ⟨c, hc, Z⟩ := hs.cell j x.1 (by rw [he.scope]; exact h2)
    exact ⟨c, hc⟩
/-- a comprehension's list, whatever its emission -/
theorem XE.compG {elt target iter : Expr} {ifs : List Expr} {rest : List Comprehension} {scope : Scope} {pos ipos : Pos} {emit : Value → Env → Sem Unit}
    {fi : List Sl → Option (List Itm)} {tp : Itm → List Sl → Option (List Sl)} {ft : List Sl → Option Bool} {fe : List PV → List Sl → Option (List PV × List Sl)}
    (hturn : ∀ it acc env, compTurn (.ListComp elt (⟨target, iter, ifs, 0⟩ :: rest) scope pos) 0 it acc env = turnOf (.ListComp elt (⟨target, iter, ifs, 0⟩ :: rest) scope pos) 0 target ipos ifs emit it acc env)
    (ok : CompOk scope sc) (hi : XI prog w hb sc lv target iter fi) (ht : LT prog w hb (relab scope sc) target tp) (hts : XTs prog w hb (relab scope sc) lv ifs ft) (hm : XM prog w hb (relab scope sc) lv emit fe)
    (hset : ∀ env x, foldedSetIterable iter env x = pure x) :
    XE prog w hb sc lv (.ListComp elt (⟨target, iter, ifs, 0⟩ :: rest) scope pos) (fun σ => (fi σ).bind fun xs => (compP tp ft fe xs [] (inSl scope.names sc.names σ)).map fun r => .lst r.1) := by
  intro env A E s U σ val p he hr hs hf
  refine bindE hf fun xs hxs hf => ?_
  obtain ⟨⟨qs, σ'⟩, hg, rfl⟩ := Option.map_eq_some_iff.mp hf
  rw [eval_ListComp]
  refine wpAny_comprehension_free (use := none) rfl (hset env) (closOf ok he hs) ok.kind ok.names (comp_main (RR := fun acc C => compPost (model prog w) A E none (fun v s' => Ext s s' ∧ RV s'.heap (Av U σ val) (.lst qs) v) acc C) hturn ok hi ht hts hm he hr hs hxs hg fun D C s' x hC hn hv => ?_)
  obtain ⟨m, hn⟩ := hn
  refine ⟨m, hn, fun h' hsb => ?_⟩
  have c : Ext s { s' with heap := h' } := x.afterW (s₂ := { s' with heap := h' }) (T := fun b => b = C) (G := no) ⟨fun b o h e => (hsb.2 b h).trans e, fun Z Z Z e => e, Nat.le_refl _, fun h => h, rfl⟩ (fun b h => h ▸ hC) fun i h => h.elim
  exact ⟨c, RV.keep (fun b o hV hq e => ⟨(hsb.2 b fun q => ns_nseq hn o (q ▸ e) hq).trans e, hV⟩) _ _ hv⟩
theorem XE.comp {elt target iter : Expr} {ifs : List Expr} {scope : Scope} {pos : Pos}
    {fi : List Sl → Option (List Itm)} {tp : Itm → List Sl → Option (List Sl)} {ft : List Sl → Option Bool} {f : List Sl → Option PV}
    (ok : CompOk scope sc) (hi : XI prog w hb sc lv target iter fi) (ht : LT prog w hb (relab scope sc) target tp) (hts : XTs prog w hb (relab scope sc) lv ifs ft) (he : XE prog w hb (relab scope sc) lv elt f)
    (hset : ∀ env x, foldedSetIterable iter env x = pure x) :
    XE prog w hb sc lv (.ListComp elt [⟨target, iter, ifs, 0⟩] scope pos) (fun σ => (fi σ).bind fun xs => (compP tp ft (emitP f) xs [] (inSl scope.names sc.names σ)).map fun r => .lst r.1) :=
  XE.compG (ipos := iter.pos) (emit := emitA elt) (fun Z Z Z => rfl) ok hi ht hts (XM.elt he) hset
theorem swaps_true {env : Env} {elt : Expr} {gens : List Comprehension} {scope : Scope} {epos xp : Pos} {x : Str} {line : Nat} (he : EnvOk sc env) (hn : sc.names.lookup x = some .local)
    (h : (xp.line == epos.line && !(scope.names.any fun (n, k) => n == x && (k == .local || k == .cell))) = true) : swapsWith (.ListComp elt gens scope epos) (some (.Name x xp)) line env = pure true := by
  unfold swapsWith
  have hk : env.blockKind = .function := by
    unfold Env.blockKind
    rw [he.scope, he.kind]; rfl
  have hx : env.kindOf x = some .local := by unfold Env.kindOf; rw [he.scope]; exact hn
  show (pure (env.blockKind == .function && env.kindOf x == some .local && xp.line == epos.line && !(scope.names.any fun (n, k) => n == x && (k == .local || k == .cell))) : Sem Bool) = pure true
  rw [hk, hx]
  simp only [Bool.and_assoc]
  rw [h]; rfl
theorem swaps_cell {env : Env} {elt : Expr} {gens : List Comprehension} {scope : Scope} {epos xp : Pos} {x : Str} {line : Nat} (he : EnvOk sc env) (hn : sc.names.lookup x = some .cell) :
    swapsWith (.ListComp elt gens scope epos) (some (.Name x xp)) line env = pure false := by
  unfold swapsWith
  have hx : env.kindOf x = some .cell := by unfold Env.kindOf; rw [he.scope]; exact hn
  show (pure (env.blockKind == .function && env.kindOf x == some .local && xp.line == epos.line && !(scope.names.any fun (n, k) => n == x && (k == .local || k == .cell))) : Sem Bool) = pure false
  rw [hx, show ((some NameKind.cell == some NameKind.local) = false) from rfl]
  simp
/-- x = [ .. for .. ]: the store comes before the comprehension's own names go -/
theorem XS.compG {x : Str} {xp spos : Pos} {i : Nat} {elt target iter : Expr} {ifs : List Expr} {rest : List Comprehension} {scope : Scope} {pos ipos : Pos} {emit : Value → Env → Sem Unit}
    {fi : List Sl → Option (List Itm)} {tp : Itm → List Sl → Option (List Sl)} {ft : List Sl → Option Bool} {fe : List PV → List Sl → Option (List PV × List Sl)} (hn : nameAt sc.names x = some (i, .local))
    (hturn : ∀ it acc env, compTurn (.ListComp elt (⟨target, iter, ifs, 0⟩ :: rest) scope pos) 0 it acc env = turnOf (.ListComp elt (⟨target, iter, ifs, 0⟩ :: rest) scope pos) 0 target ipos ifs emit it acc env)
    (ok : CompOk scope sc) (hi : XI prog w hb sc lv target iter fi) (ht : LT prog w hb (relab scope sc) target tp) (hts : XTs prog w hb (relab scope sc) lv ifs ft) (hm : XM prog w hb (relab scope sc) lv emit fe)
    (hset : ∀ env x, foldedSetIterable iter env x = pure x) (hline : (xp.line == pos.line && !(scope.names.any fun (n, k) => n == x && (k == .local || k == .cell))) = true) :
    XS prog w hb sc lv (.Assign [.Name x xp] (.ListComp elt (⟨target, iter, ifs, 0⟩ :: rest) scope pos) spos) (fun σ => (fi σ).bind fun xs => (compP tp ft fe xs [] (inSl scope.names sc.names σ)).bind fun r => (setS i (.lst r.1) σ).map fun σ' => (.next, σ')) := by
  intro env A E s U σ val fl σ' he hr hs hf
  refine bindE hf fun xs hxs hf => ?_
  obtain ⟨⟨qs, σ₁⟩, hg, hf⟩ := Option.bind_eq_some_iff.mp hf
  obtain ⟨σ₂, hσ, hf⟩ := Option.map_eq_some_iff.mp hf
  cases hf
  rw [setS_eq] at hσ
  split at hσ
  · rename_i hlt
    cases hσ
    rw [exec_Assign_Name_used _ _ _ _ (swaps_true he (nameAt_lookup hn).1 hline)]
    refine wpAny_bind (wpAny_standAt (wpAny_bind ?_))
    show wpAny _ A (do let _ ← comprehension (.ListComp elt (⟨target, iter, ifs, 0⟩ :: rest) scope pos) scope env _ (newList []) false (eval iter env) (some (PySem.assign (.Name x xp) env))) _ _ s
    refine wpAny_bind (wpAny_mono (wpAny_comprehension_free (use := some (PySem.assign (.Name x xp) env)) (Q := fun Z s' => PS hb env U σ val s .next (σ.set i (.pv (.lst qs))) .next s') rfl (hset env) (closOf ok he hs) ok.kind ok.names
      (comp_main (RR := fun acc C => compPost (model prog w) A E (some (PySem.assign (.Name x xp) env)) (fun Z s' => PS hb env U σ val s .next (σ.set i (.pv (.lst qs))) .next s') acc C) hturn ok hi ht hts hm he hr hs hxs hg fun D C s' x₁ hC hn' hv => ?_)) (fun Z s' hq => wpAny_pure (wpAny_pure hq)) fun Z Z e => e)
    obtain ⟨m, hn'⟩ := hn'
    show wpAny _ A (PySem.assign (.Name x xp) env (.ref D)) _ _ _
    refine wpAny_assign_Name (st_loc he (hs.ext x₁) hn hv hlt fun s₂ hs₂ c₂ => ?_)
    have hLC : C ≠ env.locals := fun q => by obtain ⟨o, Z, Z, e, Z⟩ := hs.loc_has; rw [← q, hC] at e; cases e
    refine ⟨m, hn'.at' fun o e => c₂.heap C o hLC e, fun h' hsb => ?_⟩
    have w₃ : ChgW (fun b => b = C) no s₂ { s₂ with heap := h' } := ⟨fun b o h e => (hsb.2 b h).trans e, fun Z Z Z e => e, Nat.le_refl _, fun h => h, rfl⟩
    have c₃ : Chg (Mut env σ val) no s { s₂ with heap := h' } := ((Ext.to x₁).trans c₂.locMut).afterW w₃ (fun b h => h ▸ hC) fun i h => h.elim
    have hs₁' := (hs.ext x₁)
    have hUC : ∀ b, Av U σ val b → b ≠ C := fun b h q => by obtain ⟨o, e⟩ := hs.av_has h; rw [q, hC] at e; cases e
    have hn₂ : s₂.heap.Ns C m := hn'.at' fun o e => c₂.heap C o hLC e
    have hCb : hb.get? C = none := hs.hb_none hC
    have hMC : ∀ b, Mut env σ val b → b ≠ C := fun b h q => by obtain ⟨o, e⟩ := hs.mut_has h; rw [q, hC] at e; cases e
    have keep : ∀ b o, ¬ Av U (σ.set i (.pv (.lst qs))) (upd val i (.ref D)) b → IsSeq o → s₂.heap.get? b = some o → h'.get? b = some o ∧ ¬ Av U (σ.set i (.pv (.lst qs))) (upd val i (.ref D)) b := fun b o hV hq e => ⟨(hsb.2 b fun q => ns_nseq hn₂ o (q ▸ e) hq).trans e, hV⟩
    refine ⟨_, ⟨hs.nl, fun b o e => (hsb.2 b fun q => by rw [q, hCb] at e; cases e).trans (hs₂.base b o e), ?_, fun j y hy => ?_, fun y c hc => ?_, fun j => ?_, hs₂.apart, fun b h => ⟨?_, (hs₂.uex b h).2⟩, hs₂.un, hs₂.hbn⟩, rfl, c₃, fun a ha => .inl (owned_set ha)⟩
    · obtain ⟨m', hm, hm'⟩ := hs₂.ns
      exact ⟨m', hm.at' fun o e => (hsb.2 _ (hMC _ (.inl rfl))).trans e, hm'⟩
    · obtain ⟨c, hc, ⟨o, e, r⟩⟩ := hs₂.cell j y hy
      exact ⟨c, hc, ⟨o, (hsb.2 c (hMC c (.inr (.inl ⟨y, hc⟩)))).trans e, r⟩⟩
    · obtain ⟨v, ⟨o, e, r⟩⟩ := hs₂.cellOk y c hc
      exact ⟨v, ⟨o, (hsb.2 c (hMC c (.inr (.inl ⟨y, hc⟩)))).trans e, r⟩⟩
    · have q := hs₂.slot j
      cases hsl : (σ.set i (.pv (.lst qs))).getD j .un with
      | un => trivial
      | pv p' => rw [hsl] at q; obtain ⟨y, hy, hr'⟩ := q; exact ⟨y, hy, RV.keep keep _ _ hr'⟩
      | own l₂ =>
        rw [hsl] at q
        obtain ⟨a₂, vs₂, n₂, hy, hg₂, hr₂⟩ := q
        exact ⟨a₂, vs₂, n₂, hy, (hsb.2 a₂ fun q => ns_nseq hn₂ _ (q ▸ hg₂) ⟨_, _, rfl⟩).trans hg₂, RVs.keep keep _ _ hr₂⟩
    · obtain ⟨o, e⟩ := (hs₂.uex b h).1
      exact ⟨o, (hsb.2 b (hUC b (.inl h))).trans e⟩
  · cases hσ
theorem XS.comp {x : Str} {xp spos : Pos} {i : Nat} {elt target iter : Expr} {ifs : List Expr} {scope : Scope} {pos : Pos}
    {fi : List Sl → Option (List Itm)} {tp : Itm → List Sl → Option (List Sl)} {ft : List Sl → Option Bool} {f : List Sl → Option PV} (hn : nameAt sc.names x = some (i, .local))
    (ok : CompOk scope sc) (hi : XI prog w hb sc lv target iter fi) (ht : LT prog w hb (relab scope sc) target tp) (hts : XTs prog w hb (relab scope sc) lv ifs ft) (he : XE prog w hb (relab scope sc) lv elt f)
    (hset : ∀ env x, foldedSetIterable iter env x = pure x) (hline : (xp.line == pos.line && !(scope.names.any fun (n, k) => n == x && (k == .local || k == .cell))) = true) :
    XS prog w hb sc lv (.Assign [.Name x xp] (.ListComp elt [⟨target, iter, ifs, 0⟩] scope pos) spos) (fun σ => (fi σ).bind fun xs => (compP tp ft (emitP f) xs [] (inSl scope.names sc.names σ)).bind fun r => (setS i (.lst r.1) σ).map fun σ' => (.next, σ')) :=
  XS.compG (ipos := iter.pos) (emit := emitA elt) hn (fun Z Z Z => rfl) ok hi ht hts (XM.elt he) hset hline
noncomputable abbrev emitB (elt : Expr) (gens : List Comprehension) (scope : Scope) (pos : Pos) (iter : Expr) : Value → Env → Sem Unit := fun acc env => do
  let x ← eval iter env
  standAt iter.pos
  let x ← foldedSetIterable iter env x
  let _ ← runOwn (.compStart (.ListComp elt gens scope pos) 1 (← holding [x] (pyIter x)) acc env) env
theorem codeAny_compStart_1 {A : Around} {R : Result → Shared → Prop} {s : Shared} {elt t1 i1 t2 i2 ifs1 ifs2 scope pos it acc env}
    (h0 : codeAny (model prog w) A (.compLoop (.ListComp elt [⟨t1, i1, ifs1, 0⟩, ⟨t2, i2, ifs2, 0⟩] scope pos) 1 it acc env) R s)
    (h : wpAny (model prog w) A (pyIter it) (fun it' s' => codeAny (model prog w) A (.compLoop (.ListComp elt [⟨t1, i1, ifs1, 0⟩, ⟨t2, i2, ifs2, 0⟩] scope pos) 1 it' acc env) R s')
      (notedBy (model prog w) A env fun x s' => R (.error x) s') s) :
    codeAny (model prog w) A (.compStart (.ListComp elt [⟨t1, i1, ifs1, 0⟩, ⟨t2, i2, ifs2, 0⟩] scope pos) 1 it acc env) R s := by
  refine codeAny_of_tree ?_
  show wpAny _ _ ((compStart (.ListComp elt [⟨t1, i1, ifs1, 0⟩, ⟨t2, i2, ifs2, 0⟩] scope pos) 1 it acc env).onRaise (fun x => do noteFrame x env; standAt theWindowsPlace)) _ _ s
  refine wpAny_notedAt ?_
  unfold compStart
  show wpAny _ _ (ask >>= _) _ _ s
  refine wpAny_bind (wpAny_askSetting (wpAny_ite ?_))
  split
  · first
      | exact wpAny_bind (wpAny_pure (wpAny_pure (And.intro rfl h0)))
      | exact wpAny_pure (And.intro rfl h0)
  · first
      | exact wpAny_bind (wpAny_rule (wpAny_bind (wpAny_standAt (wpAny_bind (wpAny_mono h (fun it' s' h' => wpAny_pure (And.intro rfl h')) fun Z Z x => x)))))
      | (refine wpAny_bind (wpAny_rule ?_); show wpAny _ _ (standAt i2.pos >>= _) _ _ s; exact wpAny_bind (wpAny_standAt (wpAny_bind (wpAny_mono h (fun it' s' h' => wpAny_pure (And.intro rfl h')) fun Z Z x => x))))
theorem XM.inner {elt t1 i1 t2 i2 : Expr} {ifs1 ifs2 : List Expr} {scope : Scope} {pos : Pos} {fi : List Sl → Option (List Itm)} {tp : Itm → List Sl → Option (List Sl)} {ft : List Sl → Option Bool} {f : List Sl → Option PV}
    (hi : XI prog w hb sc lv t2 i2 fi) (ht : LT prog w hb sc t2 tp) (hts : XTs prog w hb sc lv ifs2 ft) (he : XE prog w hb sc lv elt f) (hset : ∀ env x, foldedSetIterable i2 env x = pure x) :
    XM prog w hb sc lv (emitB elt [⟨t1, i1, ifs1, 0⟩, ⟨t2, i2, ifs2, 0⟩] scope pos i2) (fun ps σ => (fi σ).bind fun xs => compP tp ft (emitP f) xs ps σ) := by
  intro env A E s U D σ σ' val ps qs hen hr hc hf
  refine bindE hf fun xs hxs hf => ?_
  unfold emitB
  refine wpAny_bind (wpAny_mono (hi env A E s _ σ val xs hen hr hc.sr hxs) (fun x s₁ q => wpAny_bind (wpAny_standAt (wpAny_bind (wpAny_of_eq (hset env x) (wpAny_bind (wpAny_holding (wpAny_mono q (fun it s₂ q₂ => ?_) fun Z Z x => x))))))) fun Z Z x => x)
  obtain ⟨x₂, D', T, G, hD', hT, hG, hI, hSelf⟩ := q₂
  refine wpAny_bind (wpAny_mono (Q := fun Z s' => ∃ val', CS hb env U D σ' val' qs s' ∧ Chg (fun b => b = env.locals ∨ b = D) no s s') (wpAny_runOwn ?_) (fun f s₃ q₃ => wpAny_pure q₃) fun Z Z x => x)
  have hA : A.mark none = A := by have := hr.1; obtain ⟨h, d, f, g, u⟩ := A; simp only at this; subst this; rfl
  have hDT : ¬ T D := fun q => by obtain ⟨vs, n, h, Z⟩ := hc.acc; rw [(hT D q).1] at h; cases h
  have hc₂ : CS hb env (fun b => U b ∨ T b) D σ val ps s₂ := by
    refine ⟨hc.sr.moved (T := no) (fun Z h => h.elim) (fun b o Z e => x₂.heap b o (fun q => q) e) (fun b h => ?_) (fun b h => ?_), hc.nown, fun q => q.elim hc.nd hDT, ?_⟩
    · rcases h with (h | h) | h
      · exact .inl (.inl h)
      · exact .inr (hT b h).1
      · exact .inl (.inr h)
    · rcases h with (h | h) | h
      · exact x₂.ex b (hc.sr.uex b (.inl h)).1
      · exact (hT b h).2
      · exact x₂.ex b (hc.sr.uex b (.inr h)).1
    · obtain ⟨vs, n, h1, h2⟩ := hc.acc
      refine ⟨vs, n, x₂.heap D _ (fun q => q) h1, RVs.keep (fun b o hV Z e => ⟨x₂.heap b o (fun q => q) e, fun q => ?_⟩) _ _ h2⟩
      rcases q with (q | q) | q
      · exact hV (.inl q)
      · rw [(hT b q).1] at e; cases e
      · exact hV (.inr q)
  have go : codeAny (model prog w) A (.compLoop (.ListComp elt [⟨t1, i1, ifs1, 0⟩, ⟨t2, i2, ifs2, 0⟩] scope pos) 1 it (.ref D) env) (fun r s' => match r with | .ok f => ∃ val', CS hb env U D σ' val' qs s' ∧ Chg (fun b => b = env.locals ∨ b = D) no s s' | .error e => cameBackBy (model prog w) A env E e s') s₂ := by
    refine comp_loop (s₀ := s) (U := U) (T := T) (ipos := i2.pos) (emit := emitA elt) rfl ht hts (XM.elt he) hen hr hc₂ hI hf (fun b h => ?_) (fun b h => ?_) (Ext.to x₂) (fun b h => (hT b h).1) hG (fun b h => (hc.sr.uex b (.inl h)).1) fun s' val' a b => ⟨val', a, b⟩
    · exact ⟨fun q => (hD' b h).2.1 (.inl q), fun q => (hD' b h).2.2 (.inr q)⟩
    · rcases h with h | h | h | h
      · exact .inl (.inl (.inl h))
      · exact .inr (.inl h)
      · exact .inl (.inl (.inr h))
      · exact .inr (.inr h)
  rw [hA]
  exact codeAny_compStart_1 go (hSelf _ _ _ _ (fun b o h e => e) go)
noncomputable def turn2 (e : Expr) (t1 : Expr) (ifs1 : List Expr) (i1 i2 : Expr) (it acc : Value) (env : Env) : Sem Fin := do
  standAt i1.pos
  match ← pyNext it with
  | none => pure (.done .next)
  | some v =>
    letOwnedTupleGo t1 it v
    assign t1 env v
    let mut ok := true
    for c in ifs1 do
      if ok then ok ← isTrue c env (eval c env)
    if ok then
      let x ← eval i2 env
      standAt i2.pos
      let x ← foldedSetIterable i2 env x
      let _ ← runOwn (.compStart e 1 (← holding [x] (pyIter x)) acc env) env
    again (.compLoop e 0 it acc env)
theorem turn2_eq {elt t1 i1 t2 i2 : Expr} {ifs1 ifs2 : List Expr} {scope : Scope} {pos : Pos} (it acc : Value) (env : Env) :
    compTurn (.ListComp elt [⟨t1, i1, ifs1, 0⟩, ⟨t2, i2, ifs2, 0⟩] scope pos) 0 it acc env = turnOf (.ListComp elt [⟨t1, i1, ifs1, 0⟩, ⟨t2, i2, ifs2, 0⟩] scope pos) 0 t1 i1.pos ifs1 (emitB elt [⟨t1, i1, ifs1, 0⟩, ⟨t2, i2, ifs2, 0⟩] scope pos i2) it acc env := by
  have e : compTurn (.ListComp elt [⟨t1, i1, ifs1, 0⟩, ⟨t2, i2, ifs2, 0⟩] scope pos) 0 it acc env = turn2 (.ListComp elt [⟨t1, i1, ifs1, 0⟩, ⟨t2, i2, ifs2, 0⟩] scope pos) t1 ifs1 i1 i2 it acc env := rfl
  rw [e]
  unfold turn2 turnOf emitB
  refine bind_congr fun Z => bind_congr fun r => ?_
  cases r with
  | none => rfl
  | some v =>
    refine bind_congr fun Z => bind_congr fun Z => bind_congr fun ok => ?_
    cases ok with
    | false => rfl
    | true => simp only [if_true, bind_assoc, pure_bind]
theorem XE.comp2 {elt t1 i1 t2 i2 : Expr} {ifs1 ifs2 : List Expr} {scope : Scope} {pos : Pos}
    {fi₁ fi₂ : List Sl → Option (List Itm)} {tp₁ tp₂ : Itm → List Sl → Option (List Sl)} {ft₁ ft₂ : List Sl → Option Bool} {f : List Sl → Option PV}
    (ok : CompOk scope sc) (hi₁ : XI prog w hb sc lv t1 i1 fi₁) (ht₁ : LT prog w hb (relab scope sc) t1 tp₁) (hts₁ : XTs prog w hb (relab scope sc) lv ifs1 ft₁)
    (hi₂ : XI prog w hb (relab scope sc) lv t2 i2 fi₂) (ht₂ : LT prog w hb (relab scope sc) t2 tp₂) (hts₂ : XTs prog w hb (relab scope sc) lv ifs2 ft₂) (he : XE prog w hb (relab scope sc) lv elt f)
    (hset₁ : ∀ env x, foldedSetIterable i1 env x = pure x) (hset₂ : ∀ env x, foldedSetIterable i2 env x = pure x) :
    XE prog w hb sc lv (.ListComp elt [⟨t1, i1, ifs1, 0⟩, ⟨t2, i2, ifs2, 0⟩] scope pos)
      (fun σ => (fi₁ σ).bind fun xs => (compP tp₁ ft₁ (fun ps σ => (fi₂ σ).bind fun xs => compP tp₂ ft₂ (emitP f) xs ps σ) xs [] (inSl scope.names sc.names σ)).map fun r => .lst r.1) :=
  XE.compG (ipos := i1.pos) (emit := emitB elt [⟨t1, i1, ifs1, 0⟩, ⟨t2, i2, ifs2, 0⟩] scope pos i2) turn2_eq ok hi₁ ht₁ hts₁ (XM.inner hi₂ ht₂ hts₂ he hset₂) hset₁
theorem XS.comp2 {x : Str} {xp spos : Pos} {i : Nat} {elt t1 i1 t2 i2 : Expr} {ifs1 ifs2 : List Expr} {scope : Scope} {pos : Pos}
    {fi₁ fi₂ : List Sl → Option (List Itm)} {tp₁ tp₂ : Itm → List Sl → Option (List Sl)} {ft₁ ft₂ : List Sl → Option Bool} {f : List Sl → Option PV} (hn : nameAt sc.names x = some (i, .local))
    (ok : CompOk scope sc) (hi₁ : XI prog w hb sc lv t1 i1 fi₁) (ht₁ : LT prog w hb (relab scope sc) t1 tp₁) (hts₁ : XTs prog w hb (relab scope sc) lv ifs1 ft₁)
    (hi₂ : XI prog w hb (relab scope sc) lv t2 i2 fi₂) (ht₂ : LT prog w hb (relab scope sc) t2 tp₂) (hts₂ : XTs prog w hb (relab scope sc) lv ifs2 ft₂) (he : XE prog w hb (relab scope sc) lv elt f)
    (hset₁ : ∀ env x, foldedSetIterable i1 env x = pure x) (hset₂ : ∀ env x, foldedSetIterable i2 env x = pure x)
    (hline : (xp.line == pos.line && !(scope.names.any fun (n, k) => n == x && (k == .local || k == .cell))) = true) :
    XS prog w hb sc lv (.Assign [.Name x xp] (.ListComp elt [⟨t1, i1, ifs1, 0⟩, ⟨t2, i2, ifs2, 0⟩] scope pos) spos)
      (fun σ => (fi₁ σ).bind fun xs => (compP tp₁ ft₁ (fun ps σ => (fi₂ σ).bind fun xs => compP tp₂ ft₂ (emitP f) xs ps σ) xs [] (inSl scope.names sc.names σ)).bind fun r => (setS i (.lst r.1) σ).map fun σ' => (.next, σ')) :=
  XS.compG (ipos := i1.pos) (emit := emitB elt [⟨t1, i1, ifs1, 0⟩, ⟨t2, i2, ifs2, 0⟩] scope pos i2) hn turn2_eq ok hi₁ ht₁ hts₁ (XM.inner hi₂ ht₂ hts₂ he hset₂) hset₁ hline
end
section
variable {prog : Program} {w : World} {hb : Heap} {sc : Scope} {lv : Nat}
theorem bindL_skip {kindOf : Str → Option NameKind} : ∀ {binds : List (Str × Value)} {m : Str → Option Value} {n : Str}, n ∉ binds.map (·.1) → bindL kindOf binds m n = m n
  | [], _, _, _ => rfl
  | (k, v) :: r, m, n, h => by
    simp only [List.map_cons, List.mem_cons, not_or] at h
    unfold bindL
    rw [bindL_skip h.2]
    split
    · simp only [h.1, if_false]
    · rfl
theorem bindC_skip {kindOf : Str → Option NameKind} : ∀ {binds : List (Str × Value)} {m : Str → Option Value} {n : Str}, n ∉ binds.map (·.1) → bindC kindOf binds m n = m n
  | [], _, _, _ => rfl
  | (k, v) :: r, m, n, h => by
    simp only [List.map_cons, List.mem_cons, not_or] at h
    unfold bindC
    rw [bindC_skip h.2]
    split
    · rfl
    · simp only [h.1, if_false]
theorem bindL_get {kindOf : Str → Option NameKind} {n : Str} (hk : kindOf n = some .local) : ∀ {binds : List (Str × Value)} {m : Str → Option Value} {j : Nat} {v : Value}, (binds.map (·.1)).Nodup → binds[j]? = some (n, v) → bindL kindOf binds m n = some v
  | [], _, _, _, _, h => by simp at h
  | (k, u) :: r, m, 0, v, hn, h => by
    simp only [List.getElem?_cons_zero, Option.some.injEq, Prod.mk.injEq] at h
    obtain ⟨rfl, rfl⟩ := h
    unfold bindL
    rw [bindL_skip (List.nodup_cons.mp hn).1, if_pos hk]
    simp
  | (k, u) :: r, m, j + 1, v, hn, h => by
    unfold bindL
    exact bindL_get hk (List.nodup_cons.mp hn).2 (by simpa using h)
theorem bindC_get {kindOf : Str → Option NameKind} {n : Str} (hk : kindOf n ≠ some .local) : ∀ {binds : List (Str × Value)} {m : Str → Option Value} {j : Nat} {v : Value}, (binds.map (·.1)).Nodup → binds[j]? = some (n, v) → bindC kindOf binds m n = some v
  | [], _, _, _, _, h => by simp at h
  | (k, u) :: r, m, 0, v, hn, h => by
    simp only [List.getElem?_cons_zero, Option.some.injEq, Prod.mk.injEq] at h
    obtain ⟨rfl, rfl⟩ := h
    unfold bindC
    rw [bindC_skip (List.nodup_cons.mp hn).1, if_neg hk]
    simp
  | (k, u) :: r, m, j + 1, v, hn, h => by
    unfold bindC
    exact bindC_get hk (List.nodup_cons.mp hn).2 (by simpa using h)
theorem cellsFrom_has : ∀ (names : List (Str × NameKind)) (n : Nat) (acc : List (Str × Addr)) (x : Str), ((x, NameKind.cell) ∈ names ∨ ∃ c, acc.lookup x = some c) → ∃ c, (cellsFrom n names acc).lookup x = some c
  | [], n, acc, x, h => by
    rcases h with h | h
    · cases h
    · exact h
  | (k, kd) :: r, n, acc, x, h => by
    unfold cellsFrom
    by_cases hk : (kd == NameKind.cell) = true
    · rw [if_pos hk]
      refine cellsFrom_has r _ _ x ?_
      rcases h with h | ⟨c, h⟩
      · rcases List.mem_cons.mp h with h | h
        · cases h; exact .inr ⟨n, by rw [List.lookup_cons]; simp⟩
        · exact .inl h
      · right
        rw [List.lookup_cons]
        split
        · exact ⟨_, rfl⟩
        · exact ⟨c, h⟩
    · rw [if_neg hk]
      refine cellsFrom_has r _ _ x ?_
      rcases h with h | h
      · rcases List.mem_cons.mp h with h | h
        · cases h; simp at hk
        · exact .inl h
      · exact .inr h
noncomputable def slotFor (bn : List Str) (ps : List PV) (n : Str) : Sl := match bn.findIdx? (· == n) with
  | some j => match ps[j]? with
    | some p => .pv p
    | none => .un
  | none => .un
/-- the frame at the body's begin -/
noncomputable def initSl (names : List (Str × NameKind)) (bn : List Str) (ps : List PV) : List Sl := names.map fun x => slotFor bn ps x.1
noncomputable def runP (names : List (Str × NameKind)) (bn : List Str) (g : List Sl → Option (PF × List Sl)) (ps : List PV) : Option PV :=
  if ps.length = bn.length then
    match g (initSl names bn ps) with
    | some (.ret p, _) => some p
    | some (.next, _) => some .none
    | _ => none
  else none
theorem pairwise_inj {cs : List (Str × Addr)} (h : cs.Pairwise fun x y => x.2 ≠ y.2) : ∀ {x y : Str} {c : Addr}, (x, c) ∈ cs → (y, c) ∈ cs → x = y := by
  induction cs with
  | nil => intro x y c h; cases h
  | cons z r ih =>
    intro x y c h1 h2
    obtain ⟨hz, hr⟩ := List.pairwise_cons.mp h
    rcases List.mem_cons.mp h1 with h1 | h1 <;> rcases List.mem_cons.mp h2 with h2 | h2
    · rw [← h2] at h1; exact congrArg Prod.fst h1
    · exact absurd (by rw [← h1]) (hz _ h2)
    · exact absurd (by rw [← h2]) (hz _ h1)
    · exact ih hr h1 h2
structure FnOk (hb : Heap) (fa : Addr) (fd : FuncData) (body : List Stmt) (bn : List Str) : Prop where
  obj : ∃ o, hb.get? fa = some o ∧ o.data = .func fd
  body : fd.body = .stmts body
  code : hb.CodeRec fd.code fd.qualname
  clo : fd.closure = []
  glob : fd.globals = mainGlobals
  bui : fd.builtins = builtinsNs
  kind : fd.scope.kind = .function
  nodup : (fd.scope.names.map (·.1)).Nodup
  bnodup : bn.Nodup
  params : ∀ n ∈ bn, fd.scope.names.lookup n = some .local ∨ fd.scope.names.lookup n = some .cell
theorem lookup_of_nodup : ∀ {l : List (Str × NameKind)}, (l.map (·.1)).Nodup → ∀ {x : Str × NameKind}, x ∈ l → l.lookup x.1 = some x.2 := by
  intro l
  induction l with
  | nil => intro Z x h; cases h
  | cons y r ih =>
    intro hn x h
    obtain ⟨h1, h2⟩ := List.nodup_cons.mp hn
    rw [List.lookup_cons]
    rcases List.mem_cons.mp h with h | h
    · subst h; simp
    · have : (x.1 == y.1) = false := by
        rw [beq_eq_false_iff_ne]
        intro q
        exact h1 (List.mem_map.mpr ⟨x, h, q⟩)
      rw [this]
      exact ih h2 h
theorem mem_of_lk {l : List (Str × Addr)} {x : Str} {c : Addr} (h : l.lookup x = some c) : (x, c) ∈ l := by
  induction l with
  | nil => cases h
  | cons y r ih =>
    obtain ⟨n, d⟩ := y
    rw [List.lookup_cons] at h
    split at h
    · rename_i hx; cases h; have : x = n := by simpa using hx
      subst this; exact List.mem_cons_self
    · exact List.mem_cons_of_mem _ (ih h)
theorem mem_lk_names {l : List (Str × NameKind)} {x : Str} {c : NameKind} (h : l.lookup x = some c) : (x, c) ∈ l := by
  induction l with
  | nil => cases h
  | cons y r ih =>
    obtain ⟨n, d⟩ := y
    rw [List.lookup_cons] at h
    split at h
    · rename_i hx; cases h; have : x = n := by simpa using hx
      subst this; exact List.mem_cons_self
    · exact List.mem_cons_of_mem _ (ih h)
/-- a def's call, from its body -/
theorem call_def {A : Around} {E : Value → Shared → Prop} {s : Shared} {V : Addr → Prop} {fa : Addr} {fd : FuncData} {body : List Stmt} {bn : List Str} {g : List Sl → Option (PF × List Sl)} {vals : List Value} {kw : List (Str × Value)} {vs : List Value} {ps : List PV} {r : PV}
    (ok : FnOk hb fa fd body bn) (hx : XSs prog w hb fd.scope lv body g) (hr : Room (lv + 1) A) (hV : ∀ a, V a → Has s.heap a ∧ hb.get? a = none) (hnl : hb.NoLimit) (hb' : ∀ b o, hb.get? b = some o → s.heap.get? b = some o)
    (hbind : BindsTo s fd ⟨vals, kw⟩ (bn.zip vs)) (hrv : RVs s.heap V ps vs) (hp : runP fd.scope.names bn g ps = some r)
    (hco : fd.scope.isCoroutine = false) (hgen : fd.scope.isGenerator = false) :
    wpAny (model prog w) A (PySem.call (.ref fa) vals kw) (fun v s' => Ext s s' ∧ RV s'.heap V r v) E s := by
  obtain ⟨o, ho, hdata⟩ := ok.obj
  unfold runP at hp
  split at hp
  · rename_i hlen
    have hlen' : vs.length = bn.length := hrv.length.trans hlen
    have hz : (bn.zip vs).map (·.1) = bn := by rw [List.map_fst_zip]; omega
    refine wpAny_call (codeAny_call_function hr.depth (hb' _ _ ho) hdata hco hgen ok.body (ok.code.keeps hb') (hbind _ _ _ _ ?_))
    rw [ok.clo]
    refine wpAny_newFunctionEnv_cells ok.kind (fun x hx => ?_) fun env he s₁ hin => ?_
    · have hm : x.1 ∈ bn := by rw [← hz]; exact List.mem_map_of_mem hx
      rcases ok.params _ hm with h | h
      · exact .inl h
      · obtain ⟨c, hc⟩ := cellsFrom_has fd.scope.names (s.heap.objs.size + 1) [] x.1 (.inl (mem_lk_names h))
        exact .inr ⟨h, by rw [hc]; rfl⟩
    have el : env.locals = s.heap.objs.size := by rw [he]; rfl
    have es : env.scope = fd.scope := by rw [he]; rfl
    have ec : env.cells = cellsFrom (s.heap.objs.size + 1) fd.scope.names [] := by rw [he]; rfl
    have ek : ∀ x, env.kindOf x = fd.scope.names.lookup x := fun x => by unfold Env.kindOf; rw [es]
    have hk := hin.toInCall.keep
    have hx₁ : Ext s s₁ := by
      obtain ⟨h', tk, e⟩ := hin.toInCall.same
      rw [e] at hk ⊢
      exact ext_of_keep hk
    have hen : EnvOk fd.scope env := by
      refine ⟨fun x y c h1 h2 => pairwise_inj hin.apart (mem_of_lk h1) (mem_of_lk h2), es, by rw [he]; exact ok.glob, by rw [he]; exact ok.bui, ok.kind, ok.nodup⟩
    let val : Nat → Option Value := fun i => match fd.scope.names[i]? with
      | some (n, .local) => bindL env.kindOf (bn.zip vs) (fun Z => none) n
      | some (n, .cell) => bindC env.kindOf (bn.zip vs) (fun Z => none) n
      | _ => none
    have hno : ∀ a, ¬ Owned (initSl fd.scope.names bn ps) val a := fun a ⟨i, l, h, _⟩ => by
      unfold initSl at h
      rw [List.getElem?_map] at h
      obtain ⟨x, Z, h⟩ := Option.map_eq_some_iff.mp h
      unfold slotFor at h
      split at h
      · split at h <;> cases h
      · cases h
    have hmut : ∀ a, Mut env (initSl fd.scope.names bn ps) val a → s.heap.get? a = none := fun a m => by
      have fr : ∀ b : Nat, s.heap.objs.size ≤ b → s.heap.get? b = none := fun b hb₁ => by
        cases e : s.heap.get? b with
        | none => rfl
        | some o => exact absurd (Heap.lt_size e) (Nat.not_lt.mpr hb₁)
      rcases m with m | ⟨x, m⟩ | m
      · rw [m, el]; exact fr _ (Nat.le_refl _)
      · have := hin.above x a (mem_of_lk m)
        rw [el] at this
        exact fr _ (Nat.le_of_lt this)
      · exact (hno a m).elim
    have hbn : ∀ a, s.heap.get? a = none → hb.get? a = none := fun a h => by
      cases e : hb.get? a with
      | none => rfl
      | some o => rw [hb' a o e] at h; cases h
    have hs₁ : SR hb env V (initSl fd.scope.names bn ps) val s₁ := by
      refine ⟨hnl, fun b o e => hk b o (hb' b o e), ⟨_, hin.toInCall.ns, fun i x hx => ?_⟩, fun i x hx => ?_, fun x c hc => ⟨_, hin.cell x c hc⟩, fun i => ?_, fun i j l l' a h1 h2 h3 h4 => (hno a ⟨i, l, h1, h3⟩).elim, fun a h => ⟨hx₁.ex a (hV a h).1, (hV a h).2⟩, fun a m h => ?_, fun a m => hbn a (hmut a m)⟩
      · rw [es] at hx
        show bindL _ _ _ x = (match fd.scope.names[i]? with | some (n, .local) => _ | some (n, .cell) => _ | _ => none)
        rw [hx]
      · rw [es] at hx
        obtain ⟨c, hc⟩ := cellsFrom_has fd.scope.names (s.heap.objs.size + 1) [] x (.inl (List.mem_of_getElem? hx))
        rw [← ec] at hc
        refine ⟨c, hc, ?_⟩
        have := hin.cell x c hc
        show s₁.heap.IsCell c (match fd.scope.names[i]? with | some (n, .local) => _ | some (n, .cell) => _ | _ => none)
        rw [hx]
        exact this
      · have e0 : (initSl fd.scope.names bn ps).getD i .un = ((fd.scope.names[i]?).map fun x => slotFor bn ps x.1).getD .un := by
          unfold initSl
          rw [List.getD_eq_getElem?_getD, List.getElem?_map]
        rw [e0]
        cases hx : fd.scope.names[i]? with
        | none => trivial
        | some nk =>
          obtain ⟨n, k⟩ := nk
          simp only [Option.map_some, Option.getD_some]
          unfold slotFor
          cases hj : bn.findIdx? (· == n) with
          | none => trivial
          | some j =>
            simp only
            cases hp' : ps[j]? with
            | none => trivial
            | some p =>
              obtain ⟨v, hv, hrv'⟩ := hrv.get hp'
              obtain ⟨hj1, hj2, Z⟩ := List.findIdx?_eq_some_iff_getElem.mp hj
              have hjn : bn[j]? = some n := by rw [List.getElem?_eq_getElem hj1]; simpa using hj2
              have hzj : (bn.zip vs)[j]? = some (n, v) := by rw [List.getElem?_zip_eq_some]; exact ⟨hjn, hv⟩
              have hlk := lookup_of_nodup ok.nodup (List.mem_of_getElem? hx)
              have hnd : ((bn.zip vs).map (·.1)).Nodup := by rw [hz]; exact ok.bnodup
              have hpm := ok.params n (List.mem_of_getElem? hjn)
              have hval : val i = some v := by
                show (match fd.scope.names[i]? with | some (n, .local) => _ | some (n, .cell) => _ | _ => none) = _
                rw [hx]
                simp only at hlk
                rw [hlk] at hpm
                rcases hpm with h | h
                · cases h
                  exact bindL_get (by rw [ek, hlk]) hnd hzj
                · cases h
                  exact bindC_get (by rw [ek, hlk]; intro q; cases q) hnd hzj
              refine ⟨v, hval, RV.keep (fun b o hV' Z e => ⟨hk b o e, fun q => q.elim hV' (hno b)⟩) _ _ hrv'⟩
      · obtain ⟨o', e⟩ := (hV a h).1; rw [hmut a m] at e; cases e
    refine ⟨hnl.keeps fun b o e => hk b o (hb' b o e), codeAny_func ?_⟩
    have main : ∀ (fl : PF) (σ' : List Sl), g (initSl fd.scope.names bn ps) = some (fl, σ') → (match fl with | .ret p => some p | .next => some PV.none | _ => none) = some r →
        wpAny (model prog w) (A.deeper env) (execs body env) (fun f s' => Ext s s' ∧ RV s'.heap V r (match f with | .ret v => v | _ => .none)) (fun e s' => wpAny (model prog w) (A.deeper env) (leaving env e) (fun Z s'' => E e s'') (fun e' s'' => E e' s'') s') s₁ := fun fl σ' hg hfl => by
      refine wpAny_mono (hx env (A.deeper env) _ s₁ V _ val fl σ' hen hr.deeper hs₁ hg) (fun f s' q => ?_) fun Z Z x => x
      obtain ⟨val', hs', hf, c, Z⟩ := q
      have xx : Ext s s' := ((Ext.to hx₁).trans c).only (fun b m ⟨o, e⟩ => by rw [hmut b m] at e; cases e) fun Z h Z => h
      refine ⟨xx, ?_⟩
      cases fl with
      | next => cases hfl; have : f = .next := hf; subst this; simp only [RV]
      | ret p => cases hfl; obtain ⟨v, rfl, hv⟩ := hf; exact hv
      | brk => cases hfl
      | cont => cases hfl
    split at hp
    · rename_i p σ' hg
      exact wpAny_mono (main (.ret p) σ' hg hp) (fun f s' q => q) fun Z Z x => x
    · rename_i σ' hg
      exact wpAny_mono (main .next σ' hg hp) (fun f s' q => q) fun Z Z x => x
    · cases hp
  · cases hp
/-- the contract of a def without defaults -/
theorem CB.def {fa : Addr} {fd : FuncData} {body : List Stmt} {bn : List Str} {g : List Sl → Option (PF × List Sl)} (ok : FnOk hb fa fd body bn) (hx : XSs prog w hb fd.scope lv body g)
    (hbind : ∀ vs : List Value, vs.length = bn.length → bindArgs fd ⟨vs, []⟩ = pure (bn.zip vs)) (hco : fd.scope.isCoroutine = false) (hgen : fd.scope.isGenerator = false) :
    CB prog w hb (lv + 1) (.ref fa) (runP fd.scope.names bn g) := by
  intro A E s V vs ps r hr hV hnl hb' hrv hp
  have hl : vs.length = bn.length := by
    rw [hrv.length]; unfold runP at hp; split at hp
    · rename_i h; exact h
    · cases hp
  exact call_def ok hx hr hV hnl hb' (BindsTo.of_eq (hbind vs hl)) hrv hp hco hgen
end
section
variable {prog : Program} {w : World} {hb : Heap} {sc : Scope} {lv : Nat}
noncomputable abbrev noteH (env : Env) : Value → Sem Fin := fun e => (do noteFrame e env; theTreesLotGoes e : Sem Unit).wrap (fun Z => .raise e) .raise id id
noncomputable abbrev loopK (target : Expr) (it : Value) (body orelse : List Stmt) (env : Env) : Flow → Sem Fin
  | .next | .cont => .pure (.again (.forLoop target it body orelse env))
  | .brk => .pure (.done .next)
  | .ret v => .pure (.done (.ret v))
section
variable {A : Around} {R : GenEnd} {Y : Protocol} {n : Nat} {s₀ : Shared} {c : Code} {fs : List Frame} {s : Shared} {env : Env} {K : Flow → Sem Fin} {H : Value → Sem Fin} {gd : Bool → Bool} {lvv : List Value → List Value}
/-- a statement that does not yield -/
theorem seg_plain {st : Stmt} (h : ∀ E, wpAny (model prog w) (A.over c fs) (exec st env) (fun f s' => Seg (model prog w) A R Y n s₀ c (K f) fs s') E s) : Seg (model prog w) A R Y n s₀ c ((exec st env).wrap K H gd lvv) fs s := seg_wrap (h _)
theorem seg_forLoop {target : Expr} {it : Value} {body orelse : List Stmt}
    (h : ∀ E, wpAny (model prog w) (A.over (.forLoop target it body orelse env) fs) (pyNext it) (fun r s₁ => match r with
      | none => Seg (model prog w) A R Y n s₀ (.forLoop target it body orelse env) (.pure (.again (.block orelse env))) fs s₁
      | some v => wpAny (model prog w) (A.over (.forLoop target it body orelse env) fs) (letOwnedTupleGo target it v) (fun Z s₂ => wpAny (model prog w) (A.over (.forLoop target it body orelse env) fs) (assign target env v) (fun Z s₃ =>
          Seg (model prog w) A R Y n s₀ (.forLoop target it body orelse env) ((execs body env).wrap (loopK target it body orelse env) (noteH env) id id) fs s₃) E s₂) E s₁) E s) :
    Seg (model prog w) A R Y n s₀ (.forLoop target it body orelse env) ((model prog w).den (.forLoop target it body orelse env)) fs s := by
  show Seg _ A R Y n s₀ _ ((forTurn target it body orelse env).onRaise (fun x => do noteFrame x env; theTreesLotGoes x)) fs s
  unfold forTurn
  rw [Sem.onRaise_eq_wrap]
  refine seg_bind_wrap (wpAny_standAt ?_)
  refine seg_bind_wrap (wpAny_onRaise (wpAny_mono (h _) (fun r s₁ q => ?_) fun Z Z x => wpAny_standAt x))
  cases r with
  | none => exact q
  | some v =>
    refine seg_bind_wrap (wpAny_mono q (fun Z s₂ q => ?_) fun Z Z x => x)
    refine seg_bind_wrap (wpAny_mono q (fun Z s₃ q => ?_) fun Z Z x => x)
    rw [Sem.bind_eq_wrap', Sem.wrap_wrap]
    rw [Sem.wrap_congr (execs body env) _ _ (K' := loopK target it body orelse env) (H' := noteH env) (fun f => by cases f <;> rfl)
      (fun e => by first | exact Sem.bind_eq_wrap _ _ | (show (do noteFrame e env; theTreesLotGoes e : Sem Unit).bind (fun Z => .raise e) = _; rw [Sem.bind_eq_wrap]))]
    exact q
theorem seg_block_nil (h : Seg (model prog w) A R Y n s₀ (.block [] env) (.pure (.done .next)) fs s) : Seg (model prog w) A R Y n s₀ (.block [] env) ((model prog w).den (.block [] env)) fs s := h
noncomputable abbrev backK (env : Env) (K : Flow → Sem Fin) (H : Value → Sem Fin) (gd : Bool → Bool) (lvv : List Value → List Value) : Result → Sem Fin := fun r => ((match r with | .ok f => (.pure f : Sem Flow) | .error e => .raise e).onRaise fun (x : Value) => do
        if (← field x 1) == Value.none then unsupported "frame.own-activation:exception-without-traceback"
        setFlight x env.frame).wrap K H gd lvv
theorem seg_For {target iter : Expr} {body orelse : List Stmt} {pos : Pos} (hset : ∀ x, foldedSetIterable iter env x = pure x)
    (h : ∀ E, wpAny (model prog w) (A.over c fs) (eval iter env) (fun x s₁ => wpAny (model prog w) (A.over c fs) (pyIter x) (fun it s₂ => ∀ p,
      Seg (model prog w) A R Y n s₀ (.forLoop target it body orelse env) ((model prog w).den (.forLoop target it body orelse env)) (.ret (backK env K H gd lvv) none (gd false) (lvv []) c p [] :: fs) s₂) E s₁) E s) :
    Seg (model prog w) A R Y n s₀ c ((exec (.For target iter body orelse pos) env).wrap K H gd lvv) fs s := by
  rw [exec_For]
  refine seg_bind_wrap (wpAny_standAt ?_)
  refine seg_bind_wrap (wpAny_mono (h _) (fun x s₁ q => ?_) fun Z Z x => x)
  refine seg_bind_wrap (wpAny_of_eq (hset x) ?_)
  refine seg_bind_wrap (wpAny_standAt ?_)
  refine seg_bind_wrap (wpAny_holding (wpAny_mono q (fun it s₂ q => ?_) fun Z Z x => x))
  exact seg_call q
theorem seg_If {test : Expr} {body orelse : List Stmt} {pos : Pos}
    (h : ∀ E, wpAny (model prog w) (A.over c fs) (isTrue test env (eval test env)) (fun b s₁ => Seg (model prog w) A R Y n s₀ c ((if b = true then execs body env else execs orelse env).wrap K H gd lvv) fs s₁) E s) :
    Seg (model prog w) A R Y n s₀ c ((exec (.If test body orelse pos) env).wrap K H gd lvv) fs s := by
  rw [exec_If]
  refine seg_bind_wrap (wpAny_standAt ?_)
  exact seg_bind_wrap (wpAny_mono (h _) (fun b s₁ q => q) fun Z Z x => x)
end
theorem wpAny_pyNext_genF {A : Around} {E : Value → Shared → Prop} {s : Shared} {a : Addr} {g n : Nat} {gs : GenState} {P : Nat → Shared → Shared → Prop} {Y : Protocol} {Q : Option Value → Shared → Prop} (hh : A.handled = none)
    (hl : s.heap.NoLimit) (hroom : A.depth < recursionLimit)
    (hg : s.heap.IsGen a g) (hgs : s.gens[g]? = some gs)
    (hgo : gs.Goes (model prog w) A.in1 (fun n s₀ r s₁ => r = .ok (.ret .none) ∧ P n s₀ s₁) Y n (.send .none) (s.setGen g .running))
    (hY : ∀ v s₁ gs', gs'.bare = true → Y (n - 1) (s.setGen g .running) v s₁ (fun r' s'' => match n with
        | 0 => False
        | m + 1 => gs'.Goes (model prog w) A.in1 (fun n s₀ r s₁ => r = .ok (.ret .none) ∧ P n s₀ s₁) Y m r' s'') → Q (some v) (s₁.setGen g gs'))
    (hP : ∀ s₁, P n (s.setGen g .running) s₁ → ∀ h', (∀ b o, s₁.heap.get? b = some o → h'.get? b = some o) → Q none { s₁.setGen g .finished with heap := h' }) :
    wpAny (model prog w) A (pyNext (.ref a)) Q E s := by
  unfold pyNext
  refine wpAny_bind (wpAny_attempt (wpAny_callSpecial?_slot (name := Str.ofString "__next__") hg.typeIs slot_gen_next
    (wpAny_call_entry slot_gen_next hg.typeIs entry_gen_next ?_ (args_gen_next _))))
  show wpAny _ A.in1 (Builtin.Generator.genWake (.ref a) (.send .none)) _ _ s
  unfold Builtin.Generator.genWake
  refine wpAny_bind (wpAny_holding (wpAny_genNumber hg (wpAny_bind (wpAny_genState hgs ?_))))
  cases gs with
  | running => exact hgo.elim
  | finished => exact hgo.elim
  | _ =>
    refine wpAny_bind (wpAny_roomToWake hl hroom ?_)
    show wpAny _ A.in1 (.resume g (.send .none) [] _) _ _ s
    refine wpAny_resumeQ hgs hgo (fun x s₁ hx => ?_) (fun v s₁ gs' hb hv => ?_)
    · obtain ⟨rfl, hp⟩ := hx
      show wpAny _ A.in1 (newExc (.type "StopIteration") [] >>= _) _ _ _
      refine wpAny_bind ?_
      simp only [newExc, newTuple]
      refine wpAny_bind (wpAny_newObj_type ?_ (by size_fits))
      refine wpAny_bind (m := firstArgMember _ _) (wpAny_of_eq (a := Value.none) (by first | rfl | (simp only [firstArgMember]; rfl)) ?_)
      refine wpAny_newObj_type ?_ (by size_fits)
      simp only [raiseNew]
      refine wpAny_bind (wpAny_bind (wpAny_handled ?_))
      first | rw [show A.in1.handled = none from hh] | rw [hh]
      refine wpAny_throw ?_
      refine wpAny_bind (wpAny_isInstance (T := "StopIteration") (b := true) ⟨_, Heap.get?_push_size _ rfl, rfl⟩ isSubtype_stop ?_)
      exact wpAny_pure (hP s₁ hp _ fun b o hb => Heap.get?_push_of_some _ (Heap.get?_push_of_some _ hb))
    · exact wpAny_pure ⟨v, rfl, wpAny_pure (hY v s₁ gs' hb hv)⟩
/-- the protocol: the items L in their order, C, z, z+1 its own -/
noncomputable def genY (hb : Heap) (L : List Itm) (C z : Addr) : Protocol := fun m s₀ v s kap =>
  (∃ x, L[L.length - 1 - m]? = some x ∧ ItmIs s.heap no x v) ∧ Chg (fun b => b = C ∨ b = z ∨ b = z + 1) no s₀ s ∧ Has s.heap z ∧ Has s.heap (z + 1) ∧
    ∀ s'' : Shared, (∀ b o, hb.get? b = some o → s''.heap.get? b = some o) → (∀ b o, b = C ∨ b = z ∨ b = z + 1 → s.heap.get? b = some o → s''.heap.get? b = some o) → kap (.send .none) s''
/-- values without addresses -/
noncomputable def Flat : Sl → Prop
  | .un => True
  | .pv (.int _) => True
  | .pv (.str _) => True
  | .pv (.bool _) => True
  | .pv .none => True
  | _ => False
theorem SR.wake {env : Env} {σ : List Sl} {val : Nat → Option Value} {s s'' : Shared} (hs : SR hb env no σ val s) (hf : ∀ x ∈ σ, Flat x) (hc : env.cells = []) (hb'' : ∀ b o, hb.get? b = some o → s''.heap.get? b = some o)
    (hC : ∀ o, s.heap.get? env.locals = some o → s''.heap.get? env.locals = some o) : SR hb env no σ val s'' := by
  obtain ⟨m, hn, hm⟩ := hs.ns
  refine ⟨hs.nl, hb'', ⟨m, hn.at' hC, hm⟩, fun i x hx => ?_, fun x c h => (by rw [hc] at h; cases h), fun i => ?_, hs.apart, fun a h => h.elim, fun a Z h => h, hs.hbn⟩
  · obtain ⟨c, h, Z⟩ := hs.cell i x hx; rw [hc] at h; cases h
  · have q := hs.slot i
    have hfi : Flat (σ.getD i .un) := by
      rw [List.getD_eq_getElem?_getD]
      cases h : σ[i]? with
      | none => trivial
      | some x => exact hf x (List.mem_of_getElem? h)
    cases hsl : σ.getD i .un with
    | un => trivial
    | own l => rw [hsl] at hfi; exact hfi.elim
    | pv p =>
      rw [hsl] at q hfi
      obtain ⟨y, hy, hr⟩ := q
      refine ⟨y, hy, ?_⟩
      cases p <;> first | exact hfi.elim | (simp only [RV] at hr ⊢; exact hr)
noncomputable def GB (prog : Program) (w : World) (hb : Heap) (sc : Scope) (b : List Stmt) (g : List Sl → Option (Option Itm × List Sl)) : Prop :=
  ∀ (L : List Itm) (C z : Addr) (P : Nat → Shared → Shared → Prop) (env : Env) (A : Around) (n : Nat) (s₀ s : Shared) (c : Code) (fs : List Frame) (K : Flow → Sem Fin) (H : Value → Sem Fin) (gd : Bool → Bool) (lvv : List Value → List Value)
    (σ σ' : List Sl) (val : Nat → Option Value) (y : Option Itm),
    EnvOk sc env → env.cells = [] → env.scope.isCoroutine = false → env.locals = C → Room 0 (A.over c fs) → splitAtGen fs = none → gd false = false → fs.any Frame.guarded = false → (∀ x ∈ σ, Flat x) → SR hb env no σ val s → g σ = some (y, σ') →
    (C ≠ z ∧ C ≠ z + 1) → Has s.heap z → Has s.heap (z + 1) → Chg (fun b => b = C ∨ b = z ∨ b = z + 1) no s₀ s →
    (∀ x, y = some x → L[L.length - 1 - n]? = some x) →
    (∀ s₀' s' val', SR hb env no σ' val' s' → Stands (fun b => b = z ∨ b = z + 1) no s s' → Chg (fun b => b = C ∨ b = z ∨ b = z + 1) no s₀' s' →
      Seg (model prog w) A (fun n s₀ r s₁ => r = .ok (.ret .none) ∧ P n s₀ s₁) (genY hb L C z) n s₀' c (K .next) fs s') →
    Seg (model prog w) A (fun n s₀ r s₁ => r = .ok (.ret .none) ∧ P n s₀ s₁) (genY hb L C z) (if y.isSome then n + 1 else n) s₀ c ((execs b env).wrap K H gd lvv) fs s
noncomputable def plainG (g : List Sl → Option (PF × List Sl)) (σ : List Sl) : Option (Option Itm × List Sl) := match g σ with
  | some (.next, σ') => some (none, σ')
  | _ => none
theorem noOwn_flat {σ : List Sl} {val : Nat → Option Value} (hf : ∀ x ∈ σ, Flat x) (a : Addr) : ¬ Owned σ val a := fun ⟨i, l, h, _⟩ => by
  have := hf _ (List.mem_of_getElem? h); exact this
theorem mutC {env : Env} {σ : List Sl} {val : Nat → Option Value} (hf : ∀ x ∈ σ, Flat x) (hc : env.cells = []) {b : Addr} (m : Mut env σ val b) : b = env.locals := by
  rcases m with m | ⟨x, m⟩ | m
  · exact m
  · rw [hc] at m; cases m
  · exact (noOwn_flat hf b m).elim
theorem GB.plain {b : List Stmt} {g : List Sl → Option (PF × List Sl)} (h : XSs prog w hb sc 0 b g) : GB prog w hb sc b (plainG g) := by
  intro L C z P env A n s₀ s c fs K H gd lvv σ σ' val y he hc hco hC hr hfs hgd hfg hf hs hg hCz hz hz1 c₀ hy k
  unfold plainG at hg
  split at hg
  · rename_i σ₁ hgg
    cases hg
    refine seg_wrap (wpAny_mono (h env _ _ s no σ val .next σ' he hr hs hgg) (fun f s' q => ?_) fun Z Z x => x)
    obtain ⟨val', hs', hfl, ch, Z⟩ := q
    have : f = .next := hfl
    subst this
    have ch' : Chg (fun b => b = C) no s s' := ch.mono (fun b m => (mutC hf hc m).trans hC) fun Z h => h
    exact k s₀ s' val' hs' (ch'.stands (fun b h q => by
      rcases h with h | h
      · exact hCz.1 (q.symm.trans h)
      · exact hCz.2 (q.symm.trans h)) fun Z h => h.elim) (c₀.trans (ch'.mono (fun b h => .inl h) fun Z h => h))
  · cases hg
theorem GB.ite {t : Expr} {b₁ b₂ : List Stmt} {pos : Pos} {ft : List Sl → Option Bool} {g₁ g₂ : List Sl → Option (Option Itm × List Sl)} (ht : XT prog w hb sc 0 t ft) (h₁ : GB prog w hb sc b₁ g₁) (h₂ : GB prog w hb sc b₂ g₂) :
    GB prog w hb sc [.If t b₁ b₂ pos] (fun σ => (ft σ).bind fun c => if c = true then g₁ σ else g₂ σ) := by
  intro L C z P env A n s₀ s c fs K H gd lvv σ σ' val y he hc hco hC hr hfs hgd hfg hf hs hg hCz hz hz1 c₀ hy k
  refine bindE hg fun bb hb' hg => ?_
  refine seg_execs_cons (seg_If fun E => wpAny_mono (ht env _ E s no σ val bb he hr hs hb') (fun v s₁ q => ?_) fun Z Z x => x)
  obtain ⟨x, rfl⟩ := q
  have hk : ∀ s₀' s' val', SR hb env no σ' val' s' → Stands (fun b => b = z ∨ b = z + 1) no s₁ s' → Chg (fun b => b = C ∨ b = z ∨ b = z + 1) no s₀' s' →
      Seg (model prog w) A (fun n s₀ r s₁ => r = .ok (.ret .none) ∧ P n s₀ s₁) (genY hb L C z) n s₀' c ((fun f => match f with | .next => (execs [] env).wrap K H gd lvv | f => K f) Flow.next) fs s' := fun s₀' s' val' a b d =>
    seg_execs_nil (k s₀' s' val' a ((Chg.stands x (fun Z Z q => q) fun Z h => h.elim).trans b) d)
  cases v with
  | true =>
    rw [if_pos rfl] at hg ⊢
    exact h₁ L C z P env A n s₀ s₁ c fs _ H gd lvv σ σ' val y he hc hco hC hr hfs hgd hfg hf (hs.ext x) hg hCz (x.ex _ hz) (x.ex _ hz1) (c₀.trans (Ext.to x)) hy hk
  | false =>
    rw [if_neg Bool.false_ne_true] at hg ⊢
    exact h₂ L C z P env A n s₀ s₁ c fs _ H gd lvv σ σ' val y he hc hco hC hr hfs hgd hfg hf (hs.ext x) hg hCz (x.ex _ hz) (x.ex _ hz1) (c₀.trans (Ext.to x)) hy hk
/-- yield (p, q), then plain statements -/
noncomputable def yieldG (f : List Sl → Option PV) (g : List Sl → Option (PF × List Sl)) (σ : List Sl) : Option (Option Itm × List Sl) := match f σ with
  | some (.tup [p, q]) => match p, q with
    | .int i, .str l => match g σ with
      | some (.next, σ') => some (some (.two (.int i) (.str l)), σ')
      | _ => none
    | _, _ => none
  | _ => none
theorem GB.yield {e : Expr} {ypos pos : Pos} {rest : List Stmt} {f : List Sl → Option PV} {g : List Sl → Option (PF × List Sl)} (h₁ : XE prog w hb sc 0 e f) (h₂ : XSs prog w hb sc 0 rest g) (hk : sc.kind = .function) :
    GB prog w hb sc (.Expr (.Yield (some e) ypos) pos :: rest) (yieldG f g) := by
  intro L C z P env A n s₀ s c fs K H gd lvv σ σ' val y he hc hco hC hr hfs hgd hfg hf hs hg hCz hz hz1 c₀ hy k
  unfold yieldG at hg
  split at hg
  · rename_i p q hp
    split at hg
    · rename_i i l
      split at hg
      · rename_i σ₁ hgg
        cases hg
        refine seg_execs_cons (seg_Expr_Yield hfs hgd hfg (wpAny_mono (h₁ env _ _ s no σ val _ he hr hs hp) (fun v s₁ q kap hkap => ?_) fun Z Z x => x) hco (by unfold interactive; rw [he.scope, he.kind]; rfl))
        obtain ⟨x, hv⟩ := q
        have hs₁ := hs.ext x
        simp only [RV] at hv
        obtain ⟨a, us, k', rfl, Z, hga, hru⟩ := hv
        obtain ⟨u₁, u₂, rfl, hu₁, hu₂⟩ := rvs2 hru
        refine ⟨⟨_, hy _ rfl, a, u₁, u₂, rfl, isTuple_of hga, hu₁.weak fun Z h => h.elim, hu₂.weak fun Z h => h.elim⟩, c₀.trans (Ext.to x), x.ex _ hz, x.ex _ hz1, fun s'' hb'' hst => hkap .none s'' ?_⟩
        have hs₂ : SR hb env no σ val s'' := hs₁.wake hf hc hb'' fun o e => hst _ o (.inl hC) e
        refine GB.plain h₂ L C z P env A n s'' s'' c fs K H gd lvv σ σ' val none he hc hco hC hr hfs hgd hfg hf hs₂ (by unfold plainG; rw [hgg]) hCz ?_ ?_ (Chg.refl _) (fun x h => by cases h) fun s₀' s' val' a' b d => k s₀' s' val' a' ((Chg.stands x (fun Z Z q => q) fun Z h => h.elim).trans (Stands.trans ⟨fun b o h e => hst b o (.inr h) e, fun Z Z h => h.elim⟩ b)) d
        · obtain ⟨o, e⟩ := x.ex _ hz; exact ⟨o, hst _ o (.inr (.inl rfl)) e⟩
        · obtain ⟨o, e⟩ := x.ex _ hz1; exact ⟨o, hst _ o (.inr (.inr rfl)) e⟩
      · cases hg
    · cases hg
  · cases hg
end
section
variable {prog : Program} {w : World} {A : Around} {E : Value → Shared → Prop} {s : Shared}
theorem nextOf_ascii_fin {it : Addr} {x : Str} {t : Tok} {i : Nat} {Q : Value → Shared → Prop} (hh : A.handled = none)
    (hit : s.heap.IsStrIter it "str_ascii_iterator" x t i) (hx : x.cps[i]? = none)
    (hE : ∀ h' e, Heap.ExtBut it s.heap h' → Has h' it → (∃ o, h'.get? e = some o ∧ o.cls = .type "StopIteration") → E (.ref e) { s with heap := h' }) :
    wpAny (model prog w) A (Builtin.SmallTypes.nextOf (.ref it)) Q E s := by
  obtain ⟨o, ho, hc, hd⟩ := id hit
  unfold Builtin.SmallTypes.nextOf
  refine wpAny_bind (wpAny_callSpecial?_slot (name := Str.ofString "__next__") hit.typeIs F.slot_str_ascii_iterator_next
    (wpAny_call_entry F.slot_str_ascii_iterator_next hit.typeIs F.entry_str_ascii_iterator_next ?_ (F.args_str_ascii_iterator_next_1 _)))
  show wpAny _ _ (field (.ref it) 0 >>= _) _ _ s
  refine wpAny_bind (wpAny_field ho hd (x := .str x t) rfl ?_)
  show wpAny _ _ (field (.ref it) 1 >>= _) _ _ s
  refine wpAny_bind (wpAny_field ho hd (x := .int i 0) rfl ?_)
  simp only [Int.toNat_natCast, hx]
  refine wpAny_bind (wpAny_rule (wpAny_bind (wpAny_setField ho hd (by simp) (wpAny_bind (wpAny_letGo ?_)))))
  show wpAny _ _ (newExc (.type "StopIteration") [] >>= _) _ _ _
  refine wpAny_bind ?_
  simp only [newExc, newTuple]
  refine wpAny_bind (wpAny_newObj_type ?_ (by size_fits))
  refine wpAny_bind (m := firstArgMember _ _) (wpAny_of_eq (a := Value.none) (by first | rfl | (simp only [firstArgMember]; rfl)) ?_)
  refine wpAny_newObj_type ?_ (by size_fits)
  simp only [raiseNew]
  refine wpAny_bind (wpAny_handled ?_)
  first | rw [show A.in1.handled = none from hh] | rw [hh]
  refine wpAny_bind (wpAny_pure (wpAny_throw ?_))
  exact hE _ _ (((Heap.SameBut.update ..).extBut.push _).push _) ⟨_, Heap.get?_push_of_some _ (Heap.get?_push_of_some _ (Heap.get?_update_self _ ho (Obj.isFreed_of_fields (Obj.data_mapFields hd _))))⟩ ⟨_, Heap.get?_push_size _ rfl, rfl⟩
theorem nextOf_wide_fin {it : Addr} {x : Str} {t : Tok} {i : Nat} {Q : Value → Shared → Prop} (hh : A.handled = none)
    (hit : s.heap.IsStrIter it "str_iterator" x t i) (hx : x.cps[i]? = none)
    (hE : ∀ h' e, Heap.ExtBut it s.heap h' → Has h' it → (∃ o, h'.get? e = some o ∧ o.cls = .type "StopIteration") → E (.ref e) { s with heap := h' }) :
    wpAny (model prog w) A (Builtin.SmallTypes.nextOf (.ref it)) Q E s := by
  obtain ⟨o, ho, hc, hd⟩ := id hit
  unfold Builtin.SmallTypes.nextOf
  refine wpAny_bind (wpAny_callSpecial?_slot (name := Str.ofString "__next__") hit.typeIs F.slot_str_iterator_next
    (wpAny_call_entry F.slot_str_iterator_next hit.typeIs F.entry_str_iterator_next ?_ (F.args_str_iterator_next_1 _)))
  show wpAny _ _ (field (.ref it) 0 >>= _) _ _ s
  refine wpAny_bind (wpAny_field ho hd (x := .str x t) rfl ?_)
  show wpAny _ _ (field (.ref it) 1 >>= _) _ _ s
  refine wpAny_bind (wpAny_field ho hd (x := .int i 0) rfl ?_)
  simp only [Int.toNat_natCast, hx]
  refine wpAny_bind (wpAny_rule (wpAny_bind (wpAny_setField ho hd (by simp) (wpAny_bind (wpAny_letGo ?_)))))
  show wpAny _ _ (newExc (.type "StopIteration") [] >>= _) _ _ _
  refine wpAny_bind ?_
  simp only [newExc, newTuple]
  refine wpAny_bind (wpAny_newObj_type ?_ (by size_fits))
  refine wpAny_bind (m := firstArgMember _ _) (wpAny_of_eq (a := Value.none) (by first | rfl | (simp only [firstArgMember]; rfl)) ?_)
  refine wpAny_newObj_type ?_ (by size_fits)
  simp only [raiseNew]
  refine wpAny_bind (wpAny_handled ?_)
  first | rw [show A.in1.handled = none from hh] | rw [hh]
  refine wpAny_bind (wpAny_pure (wpAny_throw ?_))
  exact hE _ _ (((Heap.SameBut.update ..).extBut.push _).push _) ⟨_, Heap.get?_push_of_some _ (Heap.get?_push_of_some _ (Heap.get?_update_self _ ho (Obj.isFreed_of_fields (Obj.data_mapFields hd _))))⟩ ⟨_, Heap.get?_push_size _ rfl, rfl⟩
theorem enumStr_fin {z : Addr} {X : Str} {t : Tok} {old : Value} {Q : Option Value → Shared → Prop} (hh : A.handled = none) (he : IsEnum s.heap (z + 1) z X.cps.size old) (hI : s.heap.IsStrIter z (strIterType X) X t X.cps.size)
    (hQ : ∀ h', Heap.ExtBut z s.heap h' → Has h' z → Q none { s with heap := h' }) : wpAny (model prog w) A (pyNext (.ref (z + 1))) Q E s := by
  have hT : s.TypeIs (.ref (z + 1)) "enumerate" := ⟨_, he, rfl⟩
  unfold pyNext
  refine wpAny_bind (wpAny_attempt (wpAny_callSpecial?_slot (name := Str.ofString "__next__") hT F.slot_enumerate_next
    (wpAny_call_entry F.slot_enumerate_next hT F.entry_enumerate_next ?_ (F.args_enumerate_next_1 _))))
  show wpAny _ _ (field (.ref (z + 1)) 2 >>= _) _ _ _
  refine wpAny_bind (wpAny_field he rfl (x := .ref z) rfl ?_)
  unfold strIterType at hI
  split at hI
  · refine wpAny_bind (nextOf_ascii_fin (A := A.in1) hh hI (by simp) fun h' x he' hz' hx' => ?_)
    obtain ⟨o, ho, hc⟩ := hx'
    exact wpAny_bind (wpAny_isInstance (T := "StopIteration") (b := true) ⟨o, ho, hc⟩ isSubtype_stop (wpAny_pure (hQ _ he' hz')))
  · refine wpAny_bind (nextOf_wide_fin (A := A.in1) hh hI (by simp) fun h' x he' hz' hx' => ?_)
    obtain ⟨o, ho, hc⟩ := hx'
    exact wpAny_bind (wpAny_isInstance (T := "StopIteration") (b := true) ⟨o, ho, hc⟩ isSubtype_stop (wpAny_pure (hQ _ he' hz')))
end
section
variable {prog : Program} {w : World} {hb : Heap} {sc : Scope} {lv : Nat}
noncomputable def flatB : Sl → Bool
  | .un => true
  | .pv (.int _) => true
  | .pv (.str _) => true
  | .pv (.bool _) => true
  | .pv .none => true
  | _ => false
theorem flat_of {x : Sl} (h : flatB x = true) : Flat x := by
  cases x with
  | un => trivial
  | own l => cases h
  | pv p => cases p <;> first | trivial | cases h
theorem flats_of {σ : List Sl} (h : σ.all flatB = true) : ∀ x ∈ σ, Flat x := fun x hx => flat_of (List.all_eq_true.mp h x hx)
noncomputable def genP (tp : Itm → List Sl → Option (List Sl)) (g : List Sl → Option (Option Itm × List Sl)) : Nat → List Nat → List Sl → Option (List Itm × List Sl)
  | _, [], σ => some ([], σ)
  | i, c :: cs, σ => (tp (.two (.int (i : Int)) (.str [c])) σ).bind fun σ₁ => if σ₁.all flatB = true then (g σ₁).bind fun r => if r.2.all flatB = true then (genP tp g (i + 1) cs r.2).map fun q => (r.1.toList ++ q.1, q.2) else none else none
theorem enumStr (A : Around) (hh : A.handled = none) (z : Addr) (X : Str) (t : Tok) :
    ∃ Pt Mid, WalksT prog w A (z + 1) ((z + 1) :: [z]) [z + 1, z] X.cps.size Pt (fun i h => (∃ old, IsEnum h (z + 1) z i old) ∧ h.IsStrIter z (strIterType X) X t i) Mid ∧ ∀ i vals, Pt i vals → ∃ tk c u, X.cps[i]? = some c ∧ vals = #[.int i tk, .str ⟨#[c]⟩ u] := by
  have ne : z + 1 ≠ z := Nat.succ_ne_self z
  have nm : z + 1 ∉ [z] := by simp
  unfold strIterType
  split
  · exact ⟨_, _, WalksT.enumerateD (Draws.strAscii (A := A.in1) hh z X t) (z + 1) ne nm (by simp), fun i vals ⟨tk, x, ⟨c, u, hc, hx⟩, hv⟩ => ⟨tk, c, u, hc, by rw [hv, hx]⟩⟩
  · exact ⟨_, _, WalksT.enumerateD (Draws.strWide (A := A.in1) hh z X t) (z + 1) ne nm (by simp), fun i vals ⟨tk, x, ⟨c, u, hc, hx⟩, hv⟩ => ⟨tk, c, u, hc, by rw [hv, hx]⟩⟩
theorem gen_loop {elts : List Expr} {k : Nat} {tpos : Pos} {b : List Stmt} {tp : Itm → List Sl → Option (List Sl)} {g : List Sl → Option (Option Itm × List Sl)} (hT : LT prog w hb sc (.Tuple elts k tpos) tp) (hB : GB prog w hb sc b g)
    {L : List Itm} {C z : Addr} {P : Nat → Shared → Shared → Prop} {env : Env} {A : Around} {n : Nat} {fs : List Frame} {X : Str} {t : Tok} {σ' : List Sl}
    (he : EnvOk sc env) (hc : env.cells = []) (hco : env.scope.isCoroutine = false) (hC : env.locals = C) (hr : Room 0 (A.over (.forLoop (.Tuple elts k tpos) (.ref (z + 1)) b [] env) fs)) (hfs : splitAtGen fs = none) (hfg : fs.any Frame.guarded = false)
    (hCz : C ≠ z ∧ C ≠ z + 1) (hzb : hb.get? z = none) (hz1b : hb.get? (z + 1) = none)
    (post : List Itm) (hpost : post.length = n) :
    ∀ (cs : List Nat) (i : Nat) (ys : List Itm) (s₀ s : Shared) (σ : List Sl) (val : Nat → Option Value), X.cps.toList.drop i = cs → i ≤ X.cps.size → genP tp g i cs σ = some (ys, σ') → (∃ pre, L = pre ++ ys ++ post) → (∀ x ∈ σ, Flat x) →
      SR hb env no σ val s → (∃ old, IsEnum s.heap (z + 1) z i old) → s.heap.IsStrIter z (strIterType X) X t i → Chg (fun b => b = C ∨ b = z ∨ b = z + 1) no s₀ s →
      (∀ s₀' s' val', SR hb env no σ' val' s' → Has s'.heap z → Has s'.heap (z + 1) → Chg (fun b => b = C ∨ b = z ∨ b = z + 1) no s₀' s' →
        Seg (model prog w) A (fun n s₀ r s₁ => r = .ok (.ret .none) ∧ P n s₀ s₁) (genY hb L C z) n s₀' (.forLoop (.Tuple elts k tpos) (.ref (z + 1)) b [] env) (.pure (.again (.block [] env))) fs s') →
      Seg (model prog w) A (fun n s₀ r s₁ => r = .ok (.ret .none) ∧ P n s₀ s₁) (genY hb L C z) (ys.length + n) s₀ (.forLoop (.Tuple elts k tpos) (.ref (z + 1)) b [] env) ((model prog w).den (.forLoop (.Tuple elts k tpos) (.ref (z + 1)) b [] env)) fs s := by
  intro cs
  induction cs with
  | nil =>
    intro i ys s₀ s σ val hd hi hg hL hf hs hE hI c₀ hk
    cases hg
    have hin : i = X.cps.size := by have := congrArg List.length hd; simp at this; omega
    subst hin
    obtain ⟨old, hE⟩ := hE
    simp only [List.length_nil, Nat.zero_add]
    refine seg_forLoop fun E => enumStr_fin hr.1 hE hI fun h' hx hz => ?_
    have c₁ : Chg (fun b => b = C ∨ b = z ∨ b = z + 1) no s { s with heap := h' } := ⟨fun b o h e => hx b o (fun q => h (.inr (.inl q))) e, fun b ⟨o, e⟩ => by
      by_cases q : b = z
      · subst q; exact hz
      · exact ⟨o, hx b o q e⟩, fun Z Z Z e => e, Nat.le_refl _, fun h => h, rfl⟩
    have hs₁ : SR hb env no σ' val { s with heap := h' } := hs.wake hf hc (fun b o e => hx b o (fun q => by rw [q, hzb] at e; cases e) (hs.base b o e)) fun o e => hx _ o (fun q => hCz.1 (hC.symm.trans q)) e
    exact hk s₀ _ val hs₁ hz ⟨_, hx (z + 1) _ (Nat.succ_ne_self z) hE⟩ (c₀.trans c₁)
  | cons ch cs ih =>
    intro i ys s₀ s σ val hd hi hg hL hf hs hE hI c₀ hk
    simp only [genP] at hg
    refine bindE hg fun σ₁ hσ₁ hg => ?_
    split at hg
    · rename_i hf₁
      obtain ⟨⟨y, σ₂⟩, hgg, hg⟩ := Option.bind_eq_some_iff.mp hg
      split at hg
      · rename_i hf₂
        obtain ⟨⟨ys', σ₃⟩, hg', hg⟩ := Option.map_eq_some_iff.mp hg
        cases hg
        have hlt : i < X.cps.size := by have := congrArg List.length hd; simp at this; omega
        have hch : X.cps[i]? = some ch := by
          have : (X.cps.toList.drop i)[0]? = some ch := by rw [hd]; rfl
          simpa using this
        have hd' : X.cps.toList.drop (i + 1) = cs := by rw [← List.tail_drop, hd]; rfl
        obtain ⟨Pt, Mid, W, hW⟩ := enumStr (prog := prog) (w := w) _ hr.1 z X t
        refine seg_forLoop fun E => W.item i s _ E hlt ⟨hE, hI⟩ fun T vals h' tk hPt Z hTup hm hk' => ?_
        refine W.go elts k tpos i T _ _ E hm fun h'' hst'' hk'' => ?_
        obtain ⟨tk', c', u, hc', rfl⟩ := hW i vals hPt
        have : c' = ch := by rw [hch] at hc'; exact (Option.some.inj hc').symm
        subst this
        have kk : ∀ b o, b ≠ z → b ≠ z + 1 → s.heap.get? b = some o → h''.get? b = some o := fun b o h1 h2 e => hk'' b o (by simp [h1, h2]) (hk' b o (by simp [h1, h2]) e)
        obtain ⟨hE'', hI''⟩ := hst''
        have hzs : Has h'' z := let ⟨o, e, _⟩ := hI''; ⟨o, e⟩
        have hz1s : Has h'' (z + 1) := let ⟨_, e⟩ := hE''; ⟨_, e⟩
        have hTup'' : h''.IsTuple T #[.int i tk', .str ⟨#[c']⟩ u] := hTup.at fun o e => hk'' T o (W.apart i T _ hm) e
        have c₁ : Chg (fun b => b = C ∨ b = z ∨ b = z + 1) no s { s with heap := h'', toks := tk } := ⟨fun b o h e => kk b o (fun q => h (.inr (.inl q))) (fun q => h (.inr (.inr q))) e, fun b ⟨o, e⟩ => by
          by_cases q : b = z
          · subst q; exact hzs
          · by_cases q' : b = z + 1
            · subst q'; exact hz1s
            · exact ⟨o, kk b o q q' e⟩, fun Z Z Z e => e, Nat.le_refl _, fun h => h, rfl⟩
        have hs₁ : SR hb env no σ val { s with heap := h'', toks := tk } := hs.wake hf hc (fun b o e => kk b o (fun q => by rw [q, hzb] at e; cases e) (fun q => by rw [q, hz1b] at e; cases e) (hs.base b o e)) fun o e => kk _ o (fun q => hCz.1 (hC.symm.trans q)) (fun q => hCz.2 (hC.symm.trans q)) e
        refine hT env _ E _ no σ σ₁ val (.two (.int i) (.str [c'])) (.ref T) _ he hr.1 hs₁ ⟨T, _, _, rfl, hTup'', by simp only [RV]; exact ⟨_, rfl⟩, by simp only [RV]; exact ⟨u, rfl⟩⟩ hσ₁ fun s₂ val₂ hs₂ c₂ Z => ?_
        have c₂' : Chg (fun b => b = C) no { s with heap := h'', toks := tk } s₂ := c₂.mono (fun b h => h.trans hC) fun Z h => h
        have st₂ : Stands (fun b => b = z ∨ b = z + 1) no { s with heap := h'', toks := tk } s₂ := c₂'.stands (fun b h q => by
          rcases h with h | h
          · exact hCz.1 (q.symm.trans h)
          · exact hCz.2 (q.symm.trans h)) fun Z h => h.elim
        have hcont : ∀ s₀' s' val', SR hb env no σ₂ val' s' → Stands (fun b => b = z ∨ b = z + 1) no s₂ s' → Chg (fun b => b = C ∨ b = z ∨ b = z + 1) no s₀' s' →
            Seg (model prog w) A (fun n s₀ r s₁ => r = .ok (.ret .none) ∧ P n s₀ s₁) (genY hb L C z) (ys'.length + n) s₀' (.forLoop (.Tuple elts k tpos) (.ref (z + 1)) b [] env) (loopK (.Tuple elts k tpos) (.ref (z + 1)) b [] env .next) fs s' := fun s₀' s' val' a st d => by
          refine seg_again rfl (ih (i + 1) ys' s₀' s' σ₂ val' hd' hlt hg' ?_ (flats_of hf₂) a ?_ ?_ d hk)
          · obtain ⟨pre, hpre⟩ := hL
            exact ⟨pre ++ y.toList, by rw [hpre]; simp⟩
          · obtain ⟨old, e⟩ := hE''
            exact ⟨old, (st₂.trans st).heap _ _ (.inr rfl) e⟩
          · obtain ⟨o, e, r⟩ := hI''
            exact ⟨o, (st₂.trans st).heap _ _ (.inl rfl) e, r⟩
        have := hB L C z P env A (ys'.length + n) s₀ s₂ (.forLoop (.Tuple elts k tpos) (.ref (z + 1)) b [] env) fs (loopK (.Tuple elts k tpos) (.ref (z + 1)) b [] env) (noteH env) id id σ₁ σ₂ val₂ y he hc hco hC hr hfs rfl hfg (flats_of hf₁) hs₂ hgg hCz
          (by obtain ⟨o, e⟩ := hzs; exact ⟨o, st₂.heap _ _ (.inl rfl) e⟩) (by obtain ⟨o, e⟩ := hz1s; exact ⟨o, st₂.heap _ _ (.inr rfl) e⟩) ((c₀.trans c₁).trans (c₂'.mono (fun b h => .inl h) fun Z h => h)) (fun x hx => ?_) hcont
        · have en : (y.toList ++ ys').length + n = if y.isSome = true then ys'.length + n + 1 else ys'.length + n := by cases y <;> simp <;> omega
          rw [en]; exact this
        · subst hx
          obtain ⟨pre, hpre⟩ := hL
          have : L.length - 1 - (ys'.length + n) = pre.length := by rw [hpre]; simp; omega
          rw [this, hpre]; simp
      · cases hg
    · cases hg
end
section
variable {prog : Program} {w : World} {hb : Heap} {sc : Scope} {lv : Nat}
theorem st_locZ {M : Model} {A : Around} {E : Value → Shared → Prop} {Q : Unit → Shared → Prop} {x : Str} {i : Nat} {p : PV} {v : Value} {env : Env} {U : Addr → Prop} {σ : List Sl} {val : Nat → Option Value} {s : Shared} (he : EnvOk sc env) (hs : SR hb env U σ val s) (hn : nameAt sc.names x = some (i, .local))
    (hv : RV s.heap (Av U σ val) p v) (hi : i < σ.length)
    (h : ∀ s', SR hb env U (σ.set i (.pv p)) (upd val i v) s' → Chg (fun b => b = env.locals) no s s' → s'.heap.objs.size = s.heap.objs.size → Q () s') : wpAny M A (storeName env x v) Q E s := by
  obtain ⟨h1, h2⟩ := nameAt_lookup hn
  obtain ⟨m, hns, hm⟩ := hs.ns
  refine wpAny_storeName_local (by unfold Env.kindOf; rw [he.scope]; exact h1) hns (fun h' hn' hsb => ?_) (by rw [he.scope, he.kind]; rfl)
  have hL : Has h' env.locals := let ⟨o, _, _, e, _⟩ := hn'; ⟨o, e⟩
  refine h _ (hs.setAt (.inl rfl) (ns_nseq hns) (fun b hb' => hsb.2 b hb') hL ⟨_, hn', fun j y hj => ?_⟩ (fun j y hj => ?_) (fun y c hc => ?_) (fun Z e => nomatch e) ⟨v, rfl, hv⟩ hi) ⟨fun b o hM e => (hsb.2 b hM).trans e, fun b ⟨o, e⟩ => ?_, fun Z Z Z e => e, Nat.le_refl _, fun h => h, rfl⟩ hsb.1
  · by_cases e : y = x
    · subst e
      have : j = i := by rw [he.scope] at hj; exact names_inj he.nodup hj h2
      subst this
      simp [upd]
    · have : j ≠ i := fun q => by subst q; rw [he.scope] at hj; rw [h2] at hj; cases hj; exact e rfl
      simp only [e, if_false, upd, this]
      exact hm j y hj
  · obtain ⟨c, hc, hi'⟩ := hs.cell j y hj
    have : j ≠ i := fun q => by subst q; rw [he.scope] at hj; rw [h2] at hj; cases hj
    refine ⟨c, hc, ?_⟩
    simp only [upd, this, if_false]
    exact hi'.sameBut hsb (cell_ne_ns hi' hns)
  · obtain ⟨v', hv'⟩ := hs.cellOk y c hc
    exact ⟨v', hv'.sameBut hsb (cell_ne_ns hv' hns)⟩
  · by_cases q : b = env.locals
    · rw [q]; exact hL
    · exact ⟨o, (hsb.2 b q).trans e⟩
/-- a statement that makes no object -/
noncomputable def XZ (prog : Program) (w : World) (hb : Heap) (sc : Scope) (st : Stmt) (g : List Sl → Option (List Sl)) : Prop :=
  ∀ (env : Env) (A : Around) (E : Value → Shared → Prop) (s : Shared) (U : Addr → Prop) (σ σ' : List Sl) (val : Nat → Option Value), EnvOk sc env → SR hb env U σ val s → g σ = some σ' →
    wpAny (model prog w) A (exec st env) (fun f s' => f = .next ∧ ∃ val', SR hb env U σ' val' s' ∧ Chg (fun b => b = env.locals) no s s' ∧ s'.heap.objs.size = s.heap.objs.size) E s
theorem XZ.int {x : Str} {xp pos cp : Pos} {i k : Nat} {n : Int} (hn : nameAt sc.names x = some (i, .local)) : XZ prog w hb sc (.Assign [.Name x xp] (.Constant (.int n) k cp) pos) (setS i (.int n)) := by
  intro env A E s U σ σ' val he hs hg
  rw [setS_eq] at hg
  split at hg
  · rename_i hi
    cases hg
    refine wpAny_Assign_Name (wpAny_Constant_int ?_) rfl
    have x₁ : Ext s { s with toks := s.toks + 1 } := ext_toks
    exact st_locZ (p := .int n) he (hs.ext x₁) hn (by simp only [RV]; exact ⟨_, rfl⟩) hi fun s' a b c => ⟨rfl, _, a, (Ext.to x₁).trans b, c⟩
  · cases hg
theorem XZ.bool {x : Str} {xp pos cp : Pos} {i k : Nat} {n : Bool} (hn : nameAt sc.names x = some (i, .local)) : XZ prog w hb sc (.Assign [.Name x xp] (.Constant (.bool n) k cp) pos) (setS i (.bool n)) := by
  intro env A E s U σ σ' val he hs hg
  rw [setS_eq] at hg
  split at hg
  · rename_i hi
    cases hg
    refine wpAny_Assign_Name (wpAny_Constant_bool ?_) rfl
    exact st_locZ (p := .bool n) he hs hn (by simp only [RV]) hi fun s' a b c => ⟨rfl, _, a, b, c⟩
  · cases hg
theorem Room.over1 {A : Around} {body : List Stmt} {env : Env} (h : Room (lv + 1) A) : Room 0 (A.over (.func body env) []) :=
  ⟨h.1, by have := h.2.1; show A.depth + 0 + 1 + 0 ≤ 900; omega, by have := h.2.2; show A.units + 0 + 3 + 20 * 0 ≤ 9000; omega⟩
theorem Room.over2 {A : Around} {body b : List Stmt} {env : Env} {t : Expr} {it : Value} {k : Result → Sem Fin} {lvv : List Value} {p : Pos} (h : Room (lv + 1) A) : Room 0 (A.over (.forLoop t it b [] env) [.ret k none false lvv (.func body env) p []]) :=
  ⟨h.1, by have := h.2.1; show A.depth + 1 + 0 + 0 ≤ 900; omega, by have := h.2.2; show A.units + 3 + 0 + 20 * 0 ≤ 9000; omega⟩
theorem Room.in1 {A : Around} (h : Room (lv + 1) A) : Room (lv + 1) A.in1 ∨ True := .inr trivial
/-- the whole body of a generator of the form: two plain statements, a loop over enumerate(a str), an end -/
theorem gen_seg {elts : List Expr} {k : Nat} {tpos xp yp cpos fpos : Pos} {x y : Str} {st₁ st₂ : Stmt} {b rest : List Stmt} {z₁ z₂ : List Sl → Option (List Sl)} {tp : Itm → List Sl → Option (List Sl)} {g gR : List Sl → Option (Option Itm × List Sl)} {iy : Nat}
    (h₁ : XZ prog w hb sc st₁ z₁) (h₂ : XZ prog w hb sc st₂ z₂) (hT : LT prog w hb sc (.Tuple elts k tpos) tp) (hB : GB prog w hb sc b g) (hR : GB prog w hb sc rest gR)
    (hx : sc.names.lookup x = some .globalImplicit) (hgx : GlobIs hb x (.type "enumerate")) (hy : nameAt sc.names y = some (iy, .local))
    {L : List Itm} {C : Addr} {env : Env} {A : Around} {s : Shared} {σ σ₁ σ₂ σ₃ σ₄ : List Sl} {val : Nat → Option Value} {cs : List Nat} {ys : List Itm} {yr : Option Itm}
    (he : EnvOk sc env) (hc : env.cells = []) (hco : env.scope.isCoroutine = false) (hC : env.locals = C) (hr : Room (lv + 1) A) (hs : SR hb env no σ val s) (hfl : σ.all flatB = true) (hfl₂ : σ₂.all flatB = true) (hfl₃ : σ₃.all flatB = true)
    (e₁ : z₁ σ = some σ₁) (e₂ : z₂ σ₁ = some σ₂) (ey : getS iy σ₂ = some (.str cs)) (e₃ : genP tp g 0 cs σ₂ = some (ys, σ₃)) (e₄ : gR σ₃ = some (yr, σ₄)) (hL : L = ys ++ yr.toList)
    (hdx : (x == ("__debug__" : Str)) = false) (hdy : (y == ("__debug__" : Str)) = false)
    (hset : ∀ env x', foldedSetIterable (.Call (.Name x xp) [.Name y yp] [] cpos) env x' = pure x') :
    Seg (model prog w) A (fun n s₀ r s₁ => r = .ok (.ret .none) ∧ n = 0 ∧ Chg (fun b => b = C ∨ b = s.heap.objs.size ∨ b = s.heap.objs.size + 1) no s₀ s₁) (genY hb L C s.heap.objs.size) L.length s
      (.func (st₁ :: st₂ :: .For (.Tuple elts k tpos) (.Call (.Name x xp) [.Name y yp] [] cpos) b [] fpos :: rest) env)
      ((model prog w).den (.func (st₁ :: st₂ :: .For (.Tuple elts k tpos) (.Call (.Name x xp) [.Name y yp] [] cpos) b [] fpos :: rest) env)) [] s := by
  have zn : ∀ b : Nat, s.heap.objs.size ≤ b → s.heap.get? b = none := fun b hb' => by
    cases e : s.heap.get? b with
    | none => rfl
    | some o => exact absurd (Heap.lt_size e) (Nat.not_lt.mpr hb')
  have hCs : C < s.heap.objs.size := by obtain ⟨o, es, ep, e, Z⟩ := hs.loc_has; rw [hC] at e; exact Heap.lt_size e
  refine seg_func (seg_execs_cons (seg_plain fun E => wpAny_mono (h₁ env _ E s no σ σ₁ val he hs e₁) (fun f s₁ q => ?_) fun Z Z x => x))
  obtain ⟨rfl, val₁, hs₁, c₁, n₁⟩ := q
  refine seg_execs_cons (seg_plain fun E => wpAny_mono (h₂ env _ E s₁ no σ₁ σ₂ val₁ he hs₁ e₂) (fun f s₂ q => ?_) fun Z Z x => x)
  obtain ⟨rfl, val₂, hs₂, c₂, n₂⟩ := q
  have c12 : Chg (fun b => b = C) no s s₂ := (c₁.trans c₂).mono (fun b h => h.trans hC) fun Z h => h
  have nz : s₂.heap.objs.size = s.heap.objs.size := n₂.trans n₁
  refine seg_execs_cons (seg_For (hset env) fun E => ?_)
  refine wpAny_Call_Name_kw (wpAny_Name (loadName_glob he hx hgx hs₂.base ?_) hdx)
  refine callWith_c (hb := hb) (.type _) rfl ?_
  refine Calls.evalArgs_plain (Calls.spliced_cons ?_)
  obtain ⟨hy1, hy2⟩ := nameAt_lookup hy
  have qy := hs₂.slot iy
  rw [getS_eq ey] at qy
  obtain ⟨v, hv, hrv⟩ := qy
  simp only [RV] at hrv
  obtain ⟨tk, rfl⟩ := hrv
  obtain ⟨m, hns, hm⟩ := hs₂.ns
  have hm' := hm iy y (by rw [he.scope]; exact hy2)
  refine wpAny_Name (wpAny_loadName_local (by rw [he.scope]; exact he.kind) (by unfold Env.kindOf; rw [he.scope]; exact hy1) hns (hm'.trans hv) (Calls.spliced_nil ?_)) hdy
  refine ⟨hs₂.base, ?_⟩
  show wpAny _ _ (PySem.call (.type "enumerate") [.str (S cs) tk] []) _ _ _
  refine call_enumerate_str fun h' hE hI hsz hk => ?_
  refine wpAny_pyIter_enum (by simpa using hE) ?_
  intro p
  rw [nz] at hE hI hsz ⊢
  have x₃ : Ext s₂ { s₂ with heap := h' } := ext_of_keep (tk := s₂.toks) hk
  have hs₃ : SR hb env no σ₂ val₂ { s₂ with heap := h' } := hs₂.ext x₃
  have c₃ : Chg (fun b => b = C ∨ b = s.heap.objs.size ∨ b = s.heap.objs.size + 1) no s { s₂ with heap := h' } := (c12.mono (fun b h => .inl h) fun Z h => h).trans (Ext.to x₃)
  have hzb : hb.get? s.heap.objs.size = none := hs.hb_none (zn _ (Nat.le_refl _))
  have hz1b : hb.get? (s.heap.objs.size + 1) = none := hs.hb_none (zn _ (Nat.le_succ _))
  have hCz : C ≠ s.heap.objs.size ∧ C ≠ s.heap.objs.size + 1 := ⟨Nat.ne_of_lt hCs, Nat.ne_of_lt (Nat.lt_succ_of_lt hCs)⟩
  have hlen : L.length = ys.length + yr.toList.length := by rw [hL, List.length_append]
  rw [hlen]
  refine gen_loop (X := S cs) (t := tk) hT hB he hc hco hC (hr.over2) rfl rfl hCz hzb hz1b yr.toList rfl cs 0 ys s _ σ₂ val₂ (by simp) (Nat.zero_le _) e₃ ⟨[], by rw [hL]; rfl⟩ (flats_of hfl₂) hs₃ ⟨.none, by simpa using hE⟩ (by simpa using hI) c₃ fun s₀' s' val' hs' hz hz1 c' => ?_
  refine seg_again rfl (seg_block_nil ?_)
  refine seg_leaf (.ok .next) ?_
  show Seg _ _ _ _ _ _ _ ((execs rest env).wrap _ _ _ _) _ _
  have hyl : yr.toList.length = if yr.isSome = true then 0 + 1 else 0 := by cases yr <;> rfl
  rw [hyl]
  refine hR L C s.heap.objs.size _ env A 0 s₀' s' _ [] _ _ _ _ σ₃ σ₄ val' yr he hc hco hC hr.over1 rfl rfl rfl (flats_of hfl₃) hs' e₄ hCz hz hz1 c' (fun x hx => ?_) fun s₀'' s'' val'' hs'' Z c'' => seg_end (.ok (.ret .none)) ⟨rfl, rfl, c''⟩
  subst hx
  rw [hL]; simp
end
theorem setGen_ne {s : Shared} {g i : Nat} {y : GenState} (h : i ≠ g) : (s.setGen g y).gens[i]? = s.gens[i]? := by simp [Shared.setGen, Ne.symm h]
theorem setGen_size {s : Shared} {g : Nat} {y : GenState} : (s.setGen g y).gens.size = s.gens.size := by simp [Shared.setGen]
theorem setGen_bare {s : Shared} {g : Nat} {y : GenState} (h : ∀ x ∈ s.gens, x.bare = true) (hy : y.bare = true) : ∀ x ∈ (s.setGen g y).gens, x.bare = true := by
  intro x hx
  obtain ⟨i, hi, rfl⟩ := Array.mem_iff_getElem.mp hx
  by_cases e : i = g
  · subst e
    simp [Shared.setGen, hy]
  · have h1 := setGen_ne (s := s) (y := y) e
    rw [Array.getElem?_eq_getElem hi] at h1
    obtain ⟨hi', e'⟩ := Array.getElem?_eq_some_iff.mp h1.symm
    exact e' ▸ h _ (Array.getElem_mem hi')
theorem chg_gen {M M' : Addr → Prop} {s s₁ : Shared} {g : Nat} {gs : GenState} (c : Chg M no (s.setGen g .running) s₁) (hM : ∀ b, M b → Has s.heap b → M' b) (hb : gs.bare = true) : Chg M' (fun i => i = g) s (s₁.setGen g gs) where
  heap := fun b o h e => c.heap b o (fun q => h (hM b q ⟨o, e⟩)) e
  ex := fun b h => c.ex b h
  gens := fun i x h e => by
    rw [setGen_ne h]
    exact c.gens i x (fun q => q) (by rw [setGen_ne h]; exact e)
  gsz := by rw [setGen_size]; have := c.gsz; rw [setGen_size] at this; exact this
  bare := fun h => setGen_bare (c.bare (setGen_bare h rfl)) hb
  os := c.os
section
variable {prog : Program} {w : World} {hb : Heap} {sc : Scope} {lv : Nat}
noncomputable abbrev genR (C z : Addr) : GenEnd := fun n s₀ r s₁ => r = .ok (.ret .none) ∧ n = 0 ∧ Chg (fun b => b = C ∨ b = z ∨ b = z + 1) no s₀ s₁
theorem gen_next {A : Around} {E : Value → Shared → Prop} {s : Shared} {t : Expr} {a C z : Addr} {g : Nat} {gs : GenState} {L pre xs : List Itm} {V T : Addr → Prop} (hr : Room (lv + 1) A) (hnl : hb.NoLimit) (hb' : ∀ b o, hb.get? b = some o → s.heap.get? b = some o)
    (hg : s.heap.IsGen a g) (hgs : s.gens[g]? = some gs) (hgo : gs.Goes (model prog w) A.in1 (genR C z) (genY hb L C z) xs.length (.send .none) (s.setGen g .running)) (hL : L = pre ++ xs)
    (hT : ∀ b, (b = C ∨ b = z ∨ b = z + 1) → Has s.heap b → T b) (hC : Has s.heap C) (ha : a ≠ C ∧ a ≠ z ∧ a ≠ z + 1) {Q : Option Value → Shared → Prop}
    (hnil : xs = [] → ∀ s'', ChgW T (fun i => i = g) s s'' → Q none s'')
    (hcons : ∀ x xs', xs = x :: xs' → ∀ v s'', Chg T (fun i => i = g) s s'' → Has s''.heap z → Has s''.heap (z + 1) → ItmIs s''.heap V x v → s''.heap.IsGen a g →
      (∃ gs', s''.gens[g]? = some gs' ∧ ∀ s₂ : Shared, (∀ b o, hb.get? b = some o → s₂.heap.get? b = some o) → (∀ b o, (b = C ∨ b = z ∨ b = z + 1) → s''.heap.get? b = some o → s₂.heap.get? b = some o) →
        gs'.Goes (model prog w) A.in1 (genR C z) (genY hb L C z) xs'.length (.send .none) s₂) → Q (some v) s'')
    (hflat : ∀ x ∈ L, ∃ i l, x = .two (.int i) (.str l)) (hbT : ∀ b, hb.get? b ≠ none → b ≠ C ∧ b ≠ z ∧ b ≠ z + 1) :
    wpAny (model prog w) A (pyNext (.ref a)) (nextQ prog w A t (.ref a) E Q) E s := by
  refine wpAny_pyNext_genF hr.1 (hnl.keeps hb') hr.depth hg hgs hgo (fun v s₁ gs' hbare hY => ?_) (fun s₁ hP h' hk => ?_)
  · obtain ⟨⟨x, hx, hv⟩, c, hz, hz1, hkap⟩ := hY
    have ga : ∀ o, s.heap.get? a = some o → s₁.heap.get? a = some o := fun o e => c.heap a o (fun q => by
      rcases q with q | q | q
      · exact ha.1 q
      · exact ha.2.1 q
      · exact ha.2.2 q) e
    have hg₁ : s₁.heap.IsGen a g := let ⟨o, nm, qn, e, r⟩ := hg; ⟨o, nm, qn, ga o e, r⟩
    have hb₁ : ∀ b o, hb.get? b = some o → s₁.heap.get? b = some o := fun b o e => c.heap b o (fun q => by
      have := hbT b (by rw [e]; simp)
      rcases q with q | q | q
      · exact this.1 q
      · exact this.2.1 q
      · exact this.2.2 q) (hb' b o e)
    cases xs with
    | nil => exact (hkap s₁ hb₁ fun b o Z e => e).elim
    | cons x' xs' =>
      have hidx : L[L.length - 1 - (xs'.length + 1 - 1)]? = some x' := by
        have : L.length - 1 - (xs'.length + 1 - 1) = pre.length := by rw [hL]; simp
        rw [this, hL]; simp
      have hxx : x = x' := by
        simp only [List.length_cons] at hx
        rw [hidx] at hx; exact (Option.some.inj hx).symm
      subst hxx
      refine go_plain (show plainIter (s₁.setGen g gs').heap a from let ⟨o, nm, qn, e, hc, _⟩ := hg₁; ⟨o, _, e, hc, by decide⟩) ?_
      obtain ⟨i, l, rfl⟩ := hflat x (by rw [hL]; simp)
      obtain ⟨T', u₁, u₂, rfl, hTup, hu₁, hu₂⟩ := hv
      refine hcons _ xs' rfl _ _ (chg_gen c (fun b h q => hT b h q) hbare) hz hz1 ⟨T', u₁, u₂, rfl, hTup, by simp only [RV] at hu₁ ⊢; exact hu₁, by simp only [RV] at hu₂ ⊢; exact hu₂⟩ hg₁ ⟨gs', ?_, fun s₂ hb₂ hst => ?_⟩
      · refine setGen_self (gs := .running) (c.gens g _ (fun q => q) (setGen_self hgs))
      · exact hkap s₂ hb₂ hst
  · obtain ⟨hn, c⟩ := hP
    have : xs = [] := List.length_eq_zero_iff.mp hn
    refine hnil this _ ?_
    have c' := chg_gen (gs := .finished) (M' := T) c (fun b h q => hT b h q) rfl
    exact ⟨fun b o h e => hk b o (c'.heap b o h e), c'.gens, c'.gsz, c'.bare, c'.os⟩
theorem Itr.gen_later {A : Around} {t : Expr} {a C z : Addr} {g : Nat} {L : List Itm} {V : Addr → Prop} (hr : Room (lv + 1) A) (hnl : hb.NoLimit) (ha : a ≠ C ∧ a ≠ z ∧ a ≠ z + 1)
    (hflat : ∀ x ∈ L, ∃ i l, x = .two (.int i) (.str l)) (hbT : ∀ b, hb.get? b ≠ none → b ≠ C ∧ b ≠ z ∧ b ≠ z + 1) :
    ∀ (xs pre : List Itm) (s : Shared), L = pre ++ xs → Has s.heap C → Has s.heap z → Has s.heap (z + 1) → s.heap.IsGen a g →
      (∃ gs, s.gens[g]? = some gs ∧ ∀ s₂ : Shared, (∀ b o, hb.get? b = some o → s₂.heap.get? b = some o) → (∀ b o, (b = C ∨ b = z ∨ b = z + 1) → s.heap.get? b = some o → s₂.heap.get? b = some o) →
        gs.Goes (model prog w) A.in1 (genR C z) (genY hb L C z) xs.length (.send .none) s₂) →
      Itr prog w hb (lv + 1) A t V (.ref a) no (fun i => i = g) xs (fun b => b = a ∨ b = C ∨ b = z ∨ b = z + 1) s := by
  have core : ∀ (xs pre : List Itm) (s : Shared), L = pre ++ xs → Has s.heap C → Has s.heap z → Has s.heap (z + 1) → s.heap.IsGen a g →
      (∃ gs, s.gens[g]? = some gs ∧ ∀ s₂ : Shared, (∀ b o, hb.get? b = some o → s₂.heap.get? b = some o) → (∀ b o, (b = C ∨ b = z ∨ b = z + 1) → s.heap.get? b = some o → s₂.heap.get? b = some o) →
        gs.Goes (model prog w) A.in1 (genR C z) (genY hb L C z) xs.length (.send .none) s₂) → ∀ (E : Value → Shared → Prop) (s' : Shared) (Q : Option Value → Shared → Prop),
      (∀ b o, hb.get? b = some o → s'.heap.get? b = some o) → Stands (fun b => no b ∨ (b = a ∨ b = C ∨ b = z ∨ b = z + 1)) (fun i => i = g) s s' →
      (xs = [] → ∀ s'', ChgW (fun b => b = a ∨ b = C ∨ b = z ∨ b = z + 1) (fun i => i = g) s' s'' → Q none s'') →
      (∀ x xs', xs = x :: xs' → ∀ v s'', Chg (fun b => b = a ∨ b = C ∨ b = z ∨ b = z + 1) (fun i => i = g) s' s'' → Has s''.heap z → Has s''.heap (z + 1) → ItmIs s''.heap V x v → s''.heap.IsGen a g →
        (∃ gs', s''.gens[g]? = some gs' ∧ ∀ s₂ : Shared, (∀ b o, hb.get? b = some o → s₂.heap.get? b = some o) → (∀ b o, (b = C ∨ b = z ∨ b = z + 1) → s''.heap.get? b = some o → s₂.heap.get? b = some o) →
          gs'.Goes (model prog w) A.in1 (genR C z) (genY hb L C z) xs'.length (.send .none) s₂) → Has s''.heap C → Q (some v) s'') →
      wpAny (model prog w) A (pyNext (.ref a)) (nextQ prog w A t (.ref a) E Q) E s' := by
    intro xs pre s hL hC hz hz1 hg hgo E s' Q hb' st hnil hcons
    obtain ⟨gs, hgs, hgo⟩ := hgo
    have up : ∀ b o, (b = a ∨ b = C ∨ b = z ∨ b = z + 1) → s.heap.get? b = some o → s'.heap.get? b = some o := fun b o h e => st.heap b o (.inr h) e
    have hg' : s'.heap.IsGen a g := let ⟨o, nm, qn, e, r⟩ := hg; ⟨o, nm, qn, up _ _ (.inl rfl) e, r⟩
    have hC' : Has s'.heap C := let ⟨o, e⟩ := hC; ⟨o, up _ _ (.inr (.inl rfl)) e⟩
    refine gen_next (lv := lv) (L := L) (pre := pre) (xs := xs) (V := V) hr hnl hb' hg' (st.gens g gs rfl hgs) (hgo _ (fun b o e => hb' b o e) fun b o h e => up b o (.inr h) e) hL (fun b h Z => .inr h) hC' ha hnil
      (fun x xs' e v s'' c h1 h2 h3 h4 h5 => hcons x xs' e v s'' c h1 h2 h3 h4 h5 (c.ex _ hC')) hflat hbT
  intro xs
  induction xs with
  | nil => exact fun pre s hL hC hz hz1 hg hgo E s' Q hb' st hQ => core [] pre s hL hC hz hz1 hg hgo E s' Q hb' st (fun Z s'' c => hQ s'' c) fun x xs' e => by cases e
  | cons x xs ih =>
    exact fun pre s hL hC hz hz1 hg hgo E s' Q hb' st hQ => core (x :: xs) pre s hL hC hz hz1 hg hgo E s' Q hb' st (fun e => by cases e) fun x' xs' e v s'' c h1 h2 h3 h4 h5 hC'' => by
      cases e
      have hT : ∀ b, (b = a ∨ b = C ∨ b = z ∨ b = z + 1) → Has s''.heap b := fun b h => by
        rcases h with h | h | h | h
        · rw [h]; obtain ⟨o, Z, Z, e, Z⟩ := h4; exact ⟨o, e⟩
        · rw [h]; exact hC''
        · rw [h]; exact h1
        · rw [h]; exact h2
      exact hQ v s'' _ c (fun b h => h) (fun b h => .inl h) hT h3 (ih (pre ++ [x]) s'' (by rw [hL]; simp) hC'' h1 h2 h4 h5)
theorem Itr.gen_first {A : Around} {t : Expr} {a C : Addr} {g : Nat} {c : Code} {L : List Itm} {V : Addr → Prop} {s : Shared} (hr : Room (lv + 1) A) (hnl : hb.NoLimit) (ha : a ≠ C) (haC : Has s.heap a) (hCb : hb.get? C = none) (hab : hb.get? a = none)
    (hflat : ∀ x ∈ L, ∃ i l, x = .two (.int i) (.str l)) (hC : Has s.heap C) (hg : s.heap.IsGen a g) (hgs : s.gens[g]? = some (.fresh c))
    (hgo : ∀ s₂ : Shared, (∀ b o, hb.get? b = some o → s₂.heap.get? b = some o) → (∀ o, s.heap.get? C = some o → s₂.heap.get? C = some o) →
      Seg (model prog w) A.in1 (genR C s₂.heap.objs.size) (genY hb L C s₂.heap.objs.size) L.length s₂ c ((model prog w).den c) [] s₂) :
    Itr prog w hb (lv + 1) A t V (.ref a) no (fun i => i = g) L (fun b => b = a ∨ b = C) s := by
  have core : ∀ (E : Value → Shared → Prop) (s' : Shared) (Q : Option Value → Shared → Prop), (∀ b o, hb.get? b = some o → s'.heap.get? b = some o) → Stands (fun b => no b ∨ (b = a ∨ b = C)) (fun i => i = g) s s' →
      (L = [] → ∀ s'', ChgW (fun b => b = a ∨ b = C) (fun i => i = g) s' s'' → Q none s'') →
      (∀ x xs', L = x :: xs' → ∀ v s'', Chg (fun b => b = a ∨ b = C) (fun i => i = g) s' s'' → ItmIs s''.heap V x v → (∀ b, (b = a ∨ b = C ∨ b = s'.heap.objs.size ∨ b = s'.heap.objs.size + 1) → Has s''.heap b) →
        Itr prog w hb (lv + 1) A t V (.ref a) no (fun i => i = g) xs' (fun b => b = a ∨ b = C ∨ b = s'.heap.objs.size ∨ b = s'.heap.objs.size + 1) s'' → Q (some v) s'') →
      wpAny (model prog w) A (pyNext (.ref a)) (nextQ prog w A t (.ref a) E Q) E s' := by
    intro E s' Q hb' st hnil hcons
    have up : ∀ b o, (b = a ∨ b = C) → s.heap.get? b = some o → s'.heap.get? b = some o := fun b o h e => st.heap b o (.inr h) e
    have hg' : s'.heap.IsGen a g := let ⟨o, nm, qn, e, r⟩ := hg; ⟨o, nm, qn, up _ _ (.inl rfl) e, r⟩
    have hC' : Has s'.heap C := let ⟨o, e⟩ := hC; ⟨o, up _ _ (.inr rfl) e⟩
    have zn : ∀ b : Nat, s'.heap.objs.size ≤ b → s'.heap.get? b = none := fun b hb' => by
      cases e : s'.heap.get? b with
      | none => rfl
      | some o => exact absurd (Heap.lt_size e) (Nat.not_lt.mpr hb')
    have lt : ∀ b, Has s'.heap b → b ≠ s'.heap.objs.size ∧ b ≠ s'.heap.objs.size + 1 := fun b ⟨o, e⟩ => ⟨fun q => (by rw [q, zn _ (Nat.le_refl _)] at e; cases e), fun q => (by rw [q, zn _ (Nat.le_succ _)] at e; cases e)⟩
    have haH : Has s'.heap a := let ⟨o, e⟩ := haC; ⟨o, up _ _ (.inl rfl) e⟩
    have hbT : ∀ b, hb.get? b ≠ none → b ≠ C ∧ b ≠ s'.heap.objs.size ∧ b ≠ s'.heap.objs.size + 1 := fun b h => by
      cases e : hb.get? b with
      | none => exact absurd e h
      | some o => exact ⟨fun q => (by rw [q, hCb] at e; cases e), lt b ⟨o, hb' b o e⟩⟩
    have hax : a ≠ C ∧ a ≠ s'.heap.objs.size ∧ a ≠ s'.heap.objs.size + 1 := ⟨ha, lt a haH⟩
    refine gen_next (lv := lv) (L := L) (pre := []) (xs := L) (V := V) (z := s'.heap.objs.size) (T := fun b => b = a ∨ b = C) hr hnl hb' hg' (st.gens g _ rfl hgs) ⟨rfl, hgo (s'.setGen g .running) (fun b o e => hb' b o e) fun o e => up C o (.inr rfl) e⟩ rfl (fun b h hx => ?_) hC' hax hnil
      (fun x xs' e v s'' c h1 h2 h3 h4 h5 => hcons x xs' e v s'' c h3 (fun b h => ?_) (Itr.gen_later hr hnl hax hflat hbT xs' [x] s'' (by rw [e]; rfl) (c.ex _ hC') h1 h2 h4 h5)) hflat hbT
    · rcases h with h | h | h
      · exact .inr h
      · exact absurd h (lt b hx).1
      · exact absurd h (lt b hx).2
    · rcases h with h | h | h | h
      · rw [h]; exact c.ex _ haH
      · rw [h]; exact c.ex _ hC'
      · rw [h]; exact h1
      · rw [h]; exact h2
  cases L with
  | nil => exact fun E s' Q hb' st hQ => core E s' Q hb' st (fun Z s'' c => hQ s'' c) fun x xs' e => by cases e
  | cons x xs =>
    exact fun E s' Q hb' st hQ => core E s' Q hb' st (fun e => by cases e) fun x' xs' e v s'' c h3 hH hI => by
      cases e
      refine hQ v s'' _ c (fun b h => h.elim .inl fun h => .inr (.inl h)) (fun b h => ?_) hH h3 hI
      have zn : ∀ b : Nat, s'.heap.objs.size ≤ b → s'.heap.get? b = none := fun b hb' => by
        cases e : s'.heap.get? b with
        | none => rfl
        | some o => exact absurd (Heap.lt_size e) (Nat.not_lt.mpr hb')
      rcases h with h | h | h | h
      · exact .inl (.inl h)
      · exact .inl (.inr h)
      · exact .inr (h ▸ zn _ (Nat.le_refl _))
      · exact .inr (h ▸ zn _ (Nat.le_succ _))
end
section
variable {prog : Program} {w : World} {hb : Heap} {sc : Scope} {lv : Nat}
noncomputable def flatI : Itm → Bool
  | .two (.int _) (.str _) => true
  | _ => false
theorem flatI_of {x : Itm} (h : flatI x = true) : ∃ i l, x = .two (.int i) (.str l) := by
  unfold flatI at h
  split at h
  · exact ⟨_, _, rfl⟩
  · cases h
noncomputable def genEnd (gR : List Sl → Option (Option Itm × List Sl)) (r : List Itm × List Sl) : Option (List Itm) :=
  if r.2.all flatB = true then (gR r.2).bind fun q => if (r.1 ++ q.1.toList).all flatI = true then some (r.1 ++ q.1.toList) else none else none
noncomputable def genItems (names : List (Str × NameKind)) (y : Str) (z₁ z₂ : List Sl → Option (List Sl)) (tp : Itm → List Sl → Option (List Sl)) (g gR : List Sl → Option (Option Itm × List Sl)) : List PV → Option (List Itm)
  | [.str cs] => if (initSl names [y] [.str cs]).all flatB = true then (z₁ (initSl names [y] [.str cs])).bind fun σ₁ => (z₂ σ₁).bind fun σ₂ => if σ₂.all flatB = true then
      match nameAt names y with
      | some (iy, .local) => match getS iy σ₂ with
        | some (.str cs') => (genP tp g 0 cs' σ₂).bind (genEnd gR)
        | _ => none
      | _ => none
    else none else none
  | _ => none
theorem CI.gen {t : Expr} {fa : Addr} {fd : FuncData} {elts : List Expr} {k : Nat} {tpos xp yp cpos fpos : Pos} {x y : Str} {st₁ st₂ : Stmt} {b rest : List Stmt} {z₁ z₂ : List Sl → Option (List Sl)} {tp : Itm → List Sl → Option (List Sl)} {g gR : List Sl → Option (Option Itm × List Sl)}
    (ok : FnOk hb fa fd (st₁ :: st₂ :: .For (.Tuple elts k tpos) (.Call (.Name x xp) [.Name y yp] [] cpos) b [] fpos :: rest) [y])
    (h₁ : XZ prog w hb fd.scope st₁ z₁) (h₂ : XZ prog w hb fd.scope st₂ z₂) (hT : LT prog w hb fd.scope (.Tuple elts k tpos) tp) (hB : GB prog w hb fd.scope b g) (hR : GB prog w hb fd.scope rest gR)
    (hx : fd.scope.names.lookup x = some .globalImplicit) (hgx : GlobIs hb x (.type "enumerate"))
    (hbind : ∀ v : Value, bindArgs fd ⟨[v], []⟩ = pure [(y, v)]) (hcell : ∀ z ∈ fd.scope.names, z.2 ≠ .cell)
    (hco : fd.scope.isCoroutine = false) (hgen : fd.scope.isGenerator = true)
    (hdx : (x == ("__debug__" : Str)) = false) (hdy : (y == ("__debug__" : Str)) = false)
    (hset : ∀ env x', foldedSetIterable (.Call (.Name x xp) [.Name y yp] [] cpos) env x' = pure x') :
    CI prog w hb (lv + 2) t (.ref fa) (genItems fd.scope.names y z₁ z₂ tp g gR) := by
  intro A E s V vs ps L hr hV hnl hb' hrv hp
  unfold genItems at hp
  split at hp
  · rename_i cs
    split at hp
    · rename_i hfl
      refine bindE hp fun σ₁ e₁ hp => ?_
      refine bindE hp fun σ₂ e₂ hp => ?_
      split at hp
      · rename_i hfl₂
        split at hp
        · rename_i iy hy
          split at hp
          · rename_i cs' ey
            obtain ⟨⟨ys, σ₃⟩, e₃, hp⟩ := Option.bind_eq_some_iff.mp hp
            unfold genEnd at hp
            split at hp
            · rename_i hfl₃
              obtain ⟨⟨yr, σ₄⟩, e₄, hp⟩ := Option.bind_eq_some_iff.mp hp
              split at hp
              · rename_i hfi
                have hL : L = ys ++ yr.toList := (Option.some.inj hp).symm
                obtain ⟨v, rfl, hv⟩ := rvs1 hrv
                simp only [RV] at hv
                obtain ⟨tk, rfl⟩ := hv
                obtain ⟨o, ho, hdata⟩ := ok.obj
                have hylk : fd.scope.names.lookup y = some .local := (nameAt_lookup hy).1
                refine wpAny_call (codeAny_call_generator hr.depth (hb' _ _ ho) hdata hco hgen ok.body (ok.code.keeps hb') ?_)
                rw [hbind, ok.clo]
                refine wpAny_pure (wpAny_newFunctionEnv hcell (by intro z hz; simp at hz; rw [hz]; exact hylk) (fun h' hns hsb => ⟨?_, ?_⟩) ok.kind)
                · exact hnl.keeps fun b o e => hsb.extBut b o (Nat.ne_of_lt (Heap.lt_size (hb' b o e))) (Heap.get?_push_of_some _ (hb' b o e))
                have old : ∀ b o, s.heap.get? b = some o → h'.get? b = some o := fun b o e => hsb.extBut b o (Nat.ne_of_lt (Heap.lt_size e)) (Heap.get?_push_of_some _ e)
                generalize hen : newEnv fd.scope s.heap.objs.size fd.globals [] (fd.qualname ++ ".<locals>.") (some fa) fd.code none fd.builtins = env
                have el : env.locals = s.heap.objs.size := by rw [← hen]; rfl
                have es : env.scope = fd.scope := by rw [← hen]; rfl
                have ec : env.cells = [] := by rw [← hen]; rfl
                have he : EnvOk fd.scope env := ⟨fun x y c h1 Z => (by rw [ec] at h1; cases h1), es, by rw [← hen]; exact ok.glob, by rw [← hen]; exact ok.bui, ok.kind, ok.nodup⟩
                have hsz : h'.objs.size = s.heap.objs.size + 1 := by rw [hsb.1, Heap.size_push]
                let s₂ : Shared := { s with heap := h', toks := s.toks + [(y, Value.str (S cs) tk)].length }
                have hCn : s.heap.get? s.heap.objs.size = none := fresh_none
                let val : Nat → Option Value := fun i => match fd.scope.names[i]? with
                  | some (n, _) => [(y, Value.str (S cs) tk)].reverse.lookup n
                  | none => none
                have hno : ∀ a, ¬ Owned (initSl fd.scope.names [y] [.str cs]) val a := fun a ho => noOwn_flat (flats_of hfl) a ho
                have hsC : SR hb env no (initSl fd.scope.names [y] [.str cs]) val s₂ := by
                  refine ⟨hnl, fun b o e => old b o (hb' b o e), ⟨_, by rw [el]; exact hns, fun i x hx => ?_⟩, fun i x hx => ?_, fun x c hc => (by rw [ec] at hc; cases hc), fun i => ?_, fun i j l l' a h1 h2 h3 h4 => (hno a ⟨i, l, h1, h3⟩).elim, fun a h => h.elim, fun a Z h => h, fun a m => ?_⟩
                  · rw [es] at hx
                    show _ = (match fd.scope.names[i]? with | some (n, _) => _ | none => none)
                    rw [hx]
                  · rw [es] at hx
                    exact absurd rfl (hcell _ (List.mem_of_getElem? hx))
                  · have e0 : (initSl fd.scope.names [y] [.str cs]).getD i .un = ((fd.scope.names[i]?).map fun x => slotFor [y] [.str cs] x.1).getD .un := by
                      unfold initSl
                      rw [List.getD_eq_getElem?_getD, List.getElem?_map]
                    rw [e0]
                    cases hx : fd.scope.names[i]? with
                    | none => trivial
                    | some nk =>
                      obtain ⟨n, kd⟩ := nk
                      simp only [Option.map_some, Option.getD_some]
                      by_cases q : (y == n) = true
                      · have : y = n := by simpa using q
                        subst this
                        have : slotFor [y] [.str cs] y = .pv (.str cs) := by unfold slotFor; simp
                        rw [this]
                        refine ⟨.str (S cs) tk, ?_, by simp only [RV]; exact ⟨tk, rfl⟩⟩
                        show (match fd.scope.names[i]? with | some (n, _) => _ | none => none) = _
                        rw [hx]; simp
                      · have : slotFor [y] [.str cs] n = .un := by
                          unfold slotFor
                          simp only [Bool.not_eq_true] at q
                          simp [List.findIdx?_cons, q]
                        rw [this]; trivial
                  · rw [mutC (flats_of hfl) ec m, el]
                    cases e : hb.get? s.heap.objs.size with
                    | none => rfl
                    | some o => have := hb' _ o e; rw [hCn] at this; cases this
                show (wpAny (model prog w) A (pyIter (.ref h'.objs.size)) _ E _)
                have hg : Heap.IsGen (h'.push { cls := .type "generator", data := .fields #[.int s.gens.size 0, .str fd.name (s.toks + [(y, Value.str (S cs) tk)].length), .str fd.qualname (s.toks + [(y, Value.str (S cs) tk)].length + 1)] }) h'.objs.size s.gens.size := ⟨_, _, _, Heap.get?_push_size _ rfl, rfl, rfl, rfl⟩
                refine wpAny_pyIter_gen hg ?_
                have bare : ∀ c : Code, (∀ x ∈ s.gens, x.bare = true) → ∀ x ∈ s.gens.push (.fresh c), x.bare = true := fun c h x hx => by
                  rcases Array.mem_push.mp hx with h1 | h1
                  · exact h x h1
                  · rw [h1]; rfl
                have han : s.heap.get? h'.objs.size = none := by
                  cases e : s.heap.get? h'.objs.size with
                  | none => rfl
                  | some o => have := Heap.lt_size e; rw [hsz] at this; exact absurd this (Nat.not_lt.mpr (Nat.le_succ _))
                have hCh : Has h' s.heap.objs.size := by obtain ⟨o, Z, Z, e, Z⟩ := hns; exact ⟨o, e⟩
                have bn : ∀ b, s.heap.get? b = none → hb.get? b = none := fun b h => by
                  cases e : hb.get? b with
                  | none => rfl
                  | some o => rw [hb' b o e] at h; cases h
                refine ⟨⟨fun b o Z e => Heap.get?_push_of_some _ (old b o e), fun b ⟨o, e⟩ => ⟨o, Heap.get?_push_of_some _ (old b o e)⟩, fun i x Z e => ?_, (by show s.gens.size ≤ (s.gens.push _).size; rw [Array.size_push]; exact Nat.le_succ _), bare _, rfl⟩, no, fun b => b = h'.objs.size ∨ b = s.heap.objs.size, fun i => i = s.gens.size, fun b h => h.elim, fun b h => ?_, fun i h => Nat.le_of_eq h.symm, ?_, ?_⟩
                · show (s.gens.push _)[i]? = some x
                  rw [Array.getElem?_push]
                  have := (Array.getElem?_eq_some_iff.mp e).1
                  rw [if_neg (by omega)]; exact e
                · rcases h with h | h
                  · rw [h]; exact ⟨han, ⟨_, Heap.get?_push_size _ rfl⟩⟩
                  · rw [h]; exact ⟨hCn, let ⟨o, e⟩ := hCh; ⟨o, Heap.get?_push_of_some _ e⟩⟩
                · refine Itr.gen_first (lv := lv + 1) hr hnl (by rw [hsz]; exact Nat.succ_ne_self _) ⟨_, Heap.get?_push_size _ rfl⟩ (bn _ hCn) (bn _ han) (fun x hx => flatI_of (List.all_eq_true.mp hfi x (hL ▸ hx))) (let ⟨o, e⟩ := hCh; ⟨o, Heap.get?_push_of_some _ e⟩) hg (Array.getElem?_push_size ..) fun s₃ hb₃ hC₃ => ?_
                  have hs₃ : SR hb env no (initSl fd.scope.names [y] [.str cs]) val s₃ := hsC.wake (flats_of hfl) ec hb₃ fun o e => by
                    rw [el] at e ⊢
                    exact hC₃ o (Heap.get?_push_of_some _ e)
                  exact gen_seg (lv := 0) (A := A.in1) h₁ h₂ hT hB hR hx hgx hy he ec (by rw [es]; exact hco) el ⟨hr.1, by have := hr.2.1; show A.depth + (0 + 1) ≤ 900; omega, by have := hr.2.2; show A.units + 1 + 20 * (0 + 1) ≤ 9000; omega⟩ hs₃ hfl hfl₂ hfl₃ e₁ e₂ ey e₃ e₄ hL hdx hdy hset
                · exact fun A' E' s' Q hst hQ => wpAny_pyIter_gen (let ⟨o, nm, qn, e, r⟩ := hg; ⟨o, nm, qn, hst _ o (.inl rfl) e, r⟩) hQ
              · cases hp
            · cases hp
          · cases hp
        · cases hp
      · cases hp
    · cases hp
  · cases hp
end
theorem enc_bytes (x : Array Nat) : (x.extract 0 x.size).foldl (fun acc y => acc ++ [y.toUInt8].toArray) #[] = x.map (·.toUInt8) := by
  rw [Array.extract_size]
  have key : ∀ (l : List Nat) (acc : Array UInt8), l.foldl (fun acc y => acc ++ [y.toUInt8].toArray) acc = acc ++ (l.map (·.toUInt8)).toArray := by
    intro l
    induction l with
    | nil => intro acc; simp
    | cons a l ih => intro acc; rw [List.foldl_cons, ih]; apply Array.ext'; simp
  rw [← Array.foldl_toList, key]
  apply Array.ext'; simp
theorem loop2 {σ : Type} {F : Nat → σ → Sem (ForInStep σ)} {b0 b1 : σ} (h1 : ∀ k, F k b0 = pure (.yield b1)) (h2 : ∀ k, F k b1 = pure (.done b1)) (n : Nat) : forIn (List.range' 0 (n + 1) 1) b0 F = pure b1 := by
  rw [List.range'_succ, List.forIn_cons, h1]
  show forIn (List.range' 1 n 1) b1 F = pure b1
  cases n with
  | zero => rfl
  | succ n => rw [List.range'_succ, List.forIn_cons, h2]; rfl
theorem loop2K {σ α : Type} {F : Nat → σ → Sem (ForInStep σ)} {b0 b1 : σ} {K : σ → Sem α} (h1 : ∀ k, F k b0 = pure (.yield b1)) (h2 : ∀ k, F k b1 = pure (.done b1)) (n : Nat) : (forIn (List.range' 0 (n + 1) 1) b0 F >>= K) = K b1 := by
  rw [loop2 h1 h2]; exact pure_bind _ _
open Builtin Builtin._codecs in
theorem encodeNarrow_ascii (id : String) (self : Value) (x : Str) (h : ∀ c ∈ x.cps, c < 128) (hs : x.cps.size ≤ sizeLine) : encodeNarrow id asciiCodec none self x = pure (x.cps.map (·.toUInt8)) := by
  have hb : x.cps.findIdx? asciiCodec.bad = none := by
    rw [Array.findIdx?_eq_none_iff]
    intro c hc
    have := h c hc
    show decide (c ≥ 128) = false
    exact decide_eq_false (by lia)
  have hlt : ∀ i (hi : i < x.cps.size), asciiCodec.bad x.cps[i] = false := fun i hi => decide_eq_false (by have := h _ (Array.getElem_mem hi); lia)
  have hfold := enc_bytes x.cps
  unfold encodeNarrow
  simp only [Std.Legacy.Range.forIn_eq_forIn_range', Std.Legacy.Range.size, Str.length]
  have hn : (x.cps.size - 0 + 1 - 1) / 1 = x.cps.size := by lia
  rw [hn]
  rcases hz : x.cps.size with _ | n
  · have : x.cps = #[] := Array.size_eq_zero_iff.mp hz
    rw [this, List.range'_zero, List.forIn_nil, pure_bind, Array.map_empty]
  · have h0 : x.cps[0]? = some x.cps[0] := Array.getElem?_eq_getElem (by lia)
    have hl := hlt 0 (by lia)
    have hext : x.cps.extract 0 (n + 1) = x.cps := by rw [← hz]; exact Array.extract_size
    have hfold' : Array.foldl (fun acc y => acc ++ (asciiCodec.bytesOf y).toArray) #[] (x.cps.extract 0 x.cps.size) = x.cps.map (·.toUInt8) := enc_bytes x.cps
    have hend : x.cps[0 + x.cps.size]? = none := by simp
    have hsz : ¬ sizeLine < (x.cps.map (·.toUInt8)).size := by simpa using hs
    refine loop2K (b1 := (0 + x.cps.size, x.cps.map (·.toUInt8), ({} : Faults))) (fun k => ?h1) (fun k => ?h2) n
    case h1 =>
      simp only [Array.size_empty, gt_iff_lt, Nat.not_lt_zero, ↓reduceIte, h0, hl, Bool.not_false, hext, hb, Option.getD_none, hfold']
    case h2 => simp only [gt_iff_lt, hsz, ↓reduceIte, hend]
open Builtin Builtin._codecs Builtin.Str in
theorem encodeRoad_ascii (id : String) (self : Value) (x : Str) (errors : Option Str) : encodeRoad id self x (Str.ofString "ascii") errors = (do mkBytes (← encodeNarrow id asciiCodec errors self x)) := by
  first | rfl | (unfold encodeRoad; rfl) | (unfold encodeRoad; simp only []; rfl) | decide
open Builtin Builtin._codecs Builtin.Str in
theorem encode_ascii_tree (x : Str) (t u : Tok) : Builtin.«str.encode» ⟨[.str x t, .str (Str.ofString "ascii") u], []⟩ = (do ret (← encodeRoad "str.encode" (.str x t) x (Str.ofString "ascii") none)) := by kernel_rfl
section
variable {prog : Program} {w : World} {hb : Heap} {sc : Scope} {lv : Nat}
noncomputable def encP : List PV → Option PV
  | [.str l, .str c] => if c = [97, 115, 99, 105, 105] ∧ (∀ c ∈ l, c < 128) ∧ l.length ≤ LIM then some (.byt (l.map (·.toUInt8))) else none
  | _ => none
theorem CB.encode : CB prog w hb 0 (.builtin "str.encode") encP := by
  intro A E s V vs ps r hr hV hnl hb' hrv hp
  unfold encP at hp
  split at hp
  · split at hp
    · rename_i l c hl
      cases hp
      obtain ⟨rfl, hl⟩ := hl
      obtain ⟨v, u, rfl, h, h'⟩ := rvs2 hrv
      simp only [RV] at h h'
      obtain ⟨t, rfl⟩ := h
      obtain ⟨t', rfl⟩ := h'
      refine wpAny_call_entry F.slot_str_encode (typeIs_str _ _ _) F.entry_str_encode ?_ (F.args_str_encode_2 _ _)
      have e1 : S [97, 115, 99, 105, 105] = Str.ofString "ascii" := by decide +kernel
      show wpAny _ _ (Builtin.«str.encode» ⟨[.str (S l) t, .str (S [97, 115, 99, 105, 105]) t'], []⟩) _ _ _
      rw [e1, encode_ascii_tree, encodeRoad_ascii, encodeNarrow_ascii _ _ _ (by simpa using hl.1) (by rw [LIM_eq]; simpa using hl.2)]
      refine wpAny_bind (wpAny_bind (wpAny_pure (wpAny_mkBytes (wpAny_pure ⟨_, rfl, ext_toks, ?_⟩) (by rw [LIM_eq]; simpa using hl.2))))
      simp only [RV]
      exact ⟨s.toks, by simp⟩
    · cases hp
  · cases hp
end
section
variable {prog : Program} {w : World} {hb : Heap} {sc : Scope} {lv : Nat}
noncomputable def isinstP : List PV → Option PV
  | [.str _, .ty "str"] => some (.bool true)
  | _ => none
theorem CB.isinst : CB prog w hb 0 (.builtin "isinstance") isinstP := by
  intro A E s V vs ps r hr hV hnl hb' hrv hp
  unfold isinstP at hp
  split at hp
  · cases hp
    obtain ⟨v, u, rfl, h, h'⟩ := rvs2 hrv
    simp only [RV] at h h'
    obtain ⟨t, rfl⟩ := h
    subst h'
    exact IsiPair.str_str ⟨Chg.refl _, by simp only [RV]⟩
  · cases hp
theorem XT.chain {l r₁ r₂ : Expr} {op₁ op₂ : CmpOp} {pos : Pos} {f g₁ g₂ : List Sl → Option PV} (h : XE prog w hb sc lv l f) (h₁ : XE prog w hb sc lv r₁ g₁) (h₂ : XE prog w hb sc lv r₂ g₂)
    (hm : lastMarks [op₁, op₂] [r₁, r₂] = false) :
    XT prog w hb sc lv (.Compare l [op₁, op₂] [r₁, r₂] pos) (fun σ => (f σ).bind fun a => (g₁ σ).bind fun b => (cmpP op₁ a b).bind fun t => if t = true then (g₂ σ).bind fun c => cmpP op₂ b c else some false) := by
  intro env A E s U σ val c he hr hs hf
  refine bindE hf fun a ha hf => ?_
  refine bindE hf fun b hb' hf => ?_
  refine bindE hf fun t ht hf => ?_
  refine isTrue_chain (wpAny_mono (h env A E s U σ val a he hr hs ha) (fun v s₁ q => ?_) fun Z Z x => x) hm
  have hs₁ := hs.ext q.1
  refine test_link (wpAny_mono (h₁ env A E s₁ U σ val b he hr hs₁ hb') (fun u s₂ q₂ => ?_) fun Z Z x => x)
  have hs₂ := hs₁.ext q₂.1
  refine cmpP_ok hr ht (q.2.ext q₂.1) q₂.2 fun tk => ?_
  refine wpAny_truthy_bool ?_
  have x₃ : Ext s₂ { s₂ with toks := tk } := ext_toks
  cases t with
  | false =>
    rw [if_neg Bool.false_ne_true] at hf ⊢
    cases hf
    exact ⟨(q.1.trans q₂.1).trans x₃, rfl⟩
  | true =>
    rw [if_pos rfl] at hf ⊢
    refine bindE hf fun d hd hf => ?_
    refine test_last (wpAny_mono (h₂ env A E _ U σ val d he hr (hs₂.ext x₃) hd) (fun z s₄ q₄ => ?_) fun Z Z x => x)
    refine cmpP_ok hr hf ((q₂.2.ext x₃).ext q₄.1) q₄.2 fun tk' => ?_
    refine wpAny_truthy_bool ?_
    exact ⟨((q.1.trans q₂.1).trans x₃).trans (q₄.1.trans ext_toks), rfl⟩
noncomputable def XN (prog : Program) (w : World) (hb : Heap) (sc : Scope) (lv : Nat) (e : Expr) (f : List Sl → Option PV) : Prop :=
  ∀ (env : Env) (A : Around) (E : Value → Shared → Prop) (s : Shared) (U : Addr → Prop) (σ : List Sl) (val : Nat → Option Value) (p : PV),
    EnvOk sc env → Room lv A → SR hb env U σ val s → 1 ≤ s.toks → f σ = some p →
    wpAny (model prog w) A (eval e env) (fun v s' => (Ext s s' ∧ RV s'.heap (Av U σ val) p v) ∧ 1 ≤ s'.toks) E s
theorem XN.of {e : Expr} {f : List Sl → Option PV} (h : XE prog w hb sc lv e f) : XN prog w hb sc lv e f := by
  intro env A E s U σ val p he hr hs ht hf
  exact wpAny_with_toks ht (wpAny_mono (h env A (fun e s' => 1 ≤ s'.toks → E e s') s U σ val p he hr hs hf) (fun v s' q n => ⟨q, n⟩) fun Z Z x => x)
noncomputable def replP (x y z : List Nat) : Option PV := if y ≠ z ∧ x.length + (x.length + 1) * z.length ≤ 16777216 then some (.str (Txt.replace (S x) (S y) (S z)).cps.toList) else none
theorem S_eta (x : Str) : S x.cps.toList = x := by simp [S]
theorem XN.repl {o : Expr} {y z : Str} {k₁ k₂ : Nat} {p₁ p₂ apos pos : Pos} {f : List Sl → Option PV} (ho : XN prog w hb sc lv o f)
    (hbase : ∀ env, attributeBase o "replace" env (eval o env) = eval o env) (hline : (apos.endLine == pos.line) = true) :
    XN prog w hb sc lv (.Call (.Attribute o "replace" apos) [.Constant (.str y) k₁ p₁, .Constant (.str z) k₂ p₂] [] pos)
      (fun σ => (f σ).bind fun a => match a with | .str x => replP x y.cps.toList z.cps.toList | _ => none) := by
  intro env A E s U σ val p he hr hs ht hf
  refine bindE hf fun a ha hf => ?_
  split at hf
  · rename_i x
    unfold replP at hf
    split at hf
    · rename_i hc
      cases hf
      refine wpAny_Call_method (T := "str") (id := "str.replace") (hbase env) rfl hline F.plainAttrs_str F.slot_str_replace F.type_str_replace (wpAny_mono (ho env A E s U σ val _ he hr hs ht ha) (fun v s₁ q => ?_) fun Z Z x => x)
      obtain ⟨⟨x₁, hv⟩, ht₁⟩ := q
      simp only [RV] at hv
      obtain ⟨t, rfl⟩ := hv
      refine ⟨typeIs_str _ _ _, fun a e => (by cases e), callWith_c (hb := hb) (.builtin _) rfl ?_⟩
      refine Calls.evalArgs_plain (Calls.spliced_cons (Calls.Constant_str (k := k₁) (pos := p₁) (Calls.spliced_cons (Calls.Constant_str (k := k₂) (pos := p₂) (Calls.spliced_nil ?_)))))
      refine ⟨(hs.ext x₁).base, ?_⟩
      show wpAny _ _ (PySem.call (.builtin "str.replace") [.str (S x) t, .str y s₁.toks, .str z (s₁.toks + 1)]) _ _ _
      have hyz : (y == z) = false := by
        rw [beq_eq_false_iff_ne]
        intro q
        exact hc.1 (by rw [q])
      have e2 : z.length = z.cps.toList.length := by simp [Str.length]
      refine wpAny_with_toks (n := 1) (by show 1 ≤ s₁.toks + 1 + 1; omega) (SC.replace (fun q => by replace q : @Eq Nat _ _ := q; omega) (fun q => by replace q : @Eq Nat _ _ := q; omega) (fun q => by replace q : @Eq Nat _ _ := q; omega) hyz (by rw [S_len, e2]; exact hc.2) fun t' k n => ?_)
      have x₂ : Ext s₁ { s₁ with toks := k } := ext_toks
      refine ⟨⟨x₁.trans x₂, ?_⟩, n⟩
      simp only [RV]
      exact ⟨t', by rw [S_eta, S_eta, S_eta]⟩
    · cases hf
  · cases hf
theorem XE.binS {q : Str} {k : Nat} {qp pos : Pos} {r : Expr} {g : List Sl → Option PV} (h : XN prog w hb sc lv r g) :
    XE prog w hb sc lv (.BinOp (.Constant (.str q) k qp) .Add r pos) (fun σ => (g σ).bind fun b => binP .Add (.str q.cps.toList) b) := by
  intro env A E s U σ val p he hr hs hf
  refine bindE hf fun b hb' hf => ?_
  refine wpAny_BinOp (Calls.Constant_str ?_)
  have x₁ : Ext s { s with toks := s.toks + 1 } := ext_toks
  refine wpAny_mono (h env A E _ U σ val b he hr (hs.ext x₁) (Nat.succ_le_succ (Nat.zero_le _)) hb') (fun u s₂ q₂ => ?_) fun Z Z x => x
  have hs₂ := (hs.ext x₁).ext q₂.1.1
  refine wpAny_mono (binP_ok hf (by simp only [RV]; exact ⟨s.toks, by rw [S_eta]⟩) q₂.1.2 (fun a ha => hs₂.av_has ha) (hs₂.nl.keeps hs₂.base)) (fun v s₃ q₃ => ⟨x₁.trans (q₂.1.1.trans q₃.1), q₃.2⟩) fun Z Z x => x
noncomputable def CK (prog : Program) (w : World) (hb : Heap) (lv : Nat) (f : Value) (k : Str) (pf : PV → PV → Option PV) : Prop :=
  ∀ (A : Around) (E : Value → Shared → Prop) (s : Shared) (V : Addr → Prop) (v u : Value) (p q r : PV),
    Room lv A → (∀ a, V a → Has s.heap a ∧ hb.get? a = none) → hb.NoLimit → (∀ b o, hb.get? b = some o → s.heap.get? b = some o) → RV s.heap V p v → RV s.heap V q u → pf p q = some r →
    wpAny (model prog w) A (PySem.call f [v] [(k, u)]) (fun v s' => Ext s s' ∧ RV s'.heap V r v) E s
theorem XE.callK {x k : Str} {xp pos : Pos} {e ek : Expr} {kw : Keyword} {fa : Addr} {f g : List Sl → Option PV} {pf : PV → PV → Option PV} {lv' : Nat}
    (hn : sc.names.lookup x = some .globalImplicit) (hg : GlobIs hb x (.ref fa)) (hc : ∃ o fd, hb.get? fa = some o ∧ o.data = .func fd) (hf : CK prog w hb lv' (.ref fa) k pf) (h₁ : XE prog w hb sc lv e f) (h₂ : XE prog w hb sc lv ek g) (hlv : lv' ≤ lv)
    (hd : (x == ("__debug__" : Str)) = false)
    (hst : ∀ env, backTo pos (starEach [e] env) = [(false, eval e env)]) (hkw : ∀ env, backToKw pos (keywordEach [kw] env) = [(some k, do let v ← eval ek env; standAt pos; pure v)]) :
    XE prog w hb sc lv (.Call (.Name x xp) [e] [kw] pos) (fun σ => (f σ).bind fun a => (g σ).bind fun b => pf a b) := by
  intro env A E s U σ val p he hr hs hf'
  refine bindE hf' fun a ha hf' => ?_
  refine bindE hf' fun b hb' hp => ?_
  obtain ⟨o, fd, ho, hdt⟩ := hc
  refine wpAny_Call_Name_kw (wpAny_Name (loadName_glob he hn hg hs.base ?_) hd)
  rw [hst, hkw]
  refine callWith_function_kw (o := o) (fd := fd) (evalArgs_kw rfl (Calls.spliced_cons (wpAny_mono (h₁ env A E s U σ val a he hr hs ha) (fun v s₁ q => Calls.spliced_nil ?_) fun Z Z x => x)))
  have hs₁ := hs.ext q.1
  refine wpAny_evalAll_cons (wpAny_bind (wpAny_mono (h₂ env A E s₁ U σ val b he hr hs₁ hb') (fun u s₂ q₂ => wpAny_bind (wpAny_standAt (wpAny_pure (wpAny_evalAll_nil ?_)))) fun Z Z x => x))
  have hs₂ := hs₁.ext q₂.1
  refine ⟨⟨hs₂.base _ _ ho, hdt⟩, ?_⟩
  show wpAny _ _ (PySem.call (.ref fa) [v] [(k, u)]) _ _ _
  refine wpAny_mono (hf A E s₂ (Av U σ val) v u a b p (hr.le hlv) (fun a ha => ⟨hs₂.av_has ha, ?_⟩) hs₂.nl hs₂.base (q.2.ext q₂.1) q₂.2 hp) (fun v s₃ q₃ => ⟨q.1.trans (q₂.1.trans q₃.1), q₃.2⟩) fun Z Z x => x
  rcases ha with h | h
  · exact (hs₂.uex a h).2
  · exact hs₂.hbn a (.inr (.inr h))
/-- a def's contract for given arguments and given rest -/
theorem CB.defD {fa : Addr} {fd : FuncData} {body : List Stmt} {bn : List Str} {g : List Sl → Option (PF × List Sl)} (ds : List PV) (dv : List Value) (hds : RVs hb no ds dv) (ok : FnOk hb fa fd body bn) (hx : XSs prog w hb fd.scope lv body g)
    (hbind : ∀ (s : Shared) (vs : List Value), (∀ b o, hb.get? b = some o → s.heap.get? b = some o) → vs.length + dv.length = bn.length → BindsTo s fd ⟨vs, []⟩ (bn.zip (vs ++ dv))) (hco : fd.scope.isCoroutine = false) (hgen : fd.scope.isGenerator = false) :
    CB prog w hb (lv + 1) (.ref fa) (fun ps => runP fd.scope.names bn g (ps ++ ds)) := by
  intro A E s V vs ps r hr hV hnl hb' hrv hp
  have hp : runP fd.scope.names bn g (ps ++ ds) = some r := hp
  have hl : (ps ++ ds).length = bn.length := by
    unfold runP at hp; split at hp
    · rename_i h; exact h
    · cases hp
  have hl2 : vs.length + dv.length = bn.length := by rw [hrv.length, hds.length, ← hl]; simp
  have hds' : RVs s.heap V ds dv := RVs.keep (fun b o Z Z e => ⟨hb' b o e, fun q => by have := (hV b q).2; rw [this] at e; cases e⟩) _ _ hds
  exact call_def ok hx hr hV hnl hb' (hbind s vs hb' hl2) (hrv.append hds') hp hco hgen
theorem CK.def {fa : Addr} {fd : FuncData} {body : List Stmt} {a₁ a₂ : Str} {g : List Sl → Option (PF × List Sl)} (ok : FnOk hb fa fd body [a₁, a₂]) (hx : XSs prog w hb fd.scope lv body g)
    (hbind : ∀ (s : Shared) (v u : Value), (∀ b o, hb.get? b = some o → s.heap.get? b = some o) → BindsTo s fd ⟨[v], [(a₂, u)]⟩ [(a₁, v), (a₂, u)]) (hco : fd.scope.isCoroutine = false) (hgen : fd.scope.isGenerator = false) :
    CK prog w hb (lv + 1) (.ref fa) a₂ (fun p q => runP fd.scope.names [a₁, a₂] g [p, q]) := by
  intro A E s V v u p q r hr hV hnl hb' h₁ h₂ hp
  exact call_def (vs := [v, u]) (ps := [p, q]) ok hx hr hV hnl hb' (hbind s v u hb') (RVs.cons h₁ (RVs.cons h₂ RVs.nil)) hp hco hgen
end
section
variable {prog : Program} {w : World} {hb : Heap} {sc : Scope} {lv : Nat}
/-- elements of a display: a fresh empty list, or a value -/
noncomputable def DIs (h : Heap) (V : Addr → Prop) : List (Option PV) → List Value → List Addr → Prop
  | [], vs, as => vs = [] ∧ as = []
  | none :: ds, vs, as => ∃ a vs' as' n, vs = .ref a :: vs' ∧ as = a :: as' ∧ h.get? a = some (lstObj [] n) ∧ DIs h V ds vs' as'
  | some p :: ds, vs, as => ∃ v vs', vs = v :: vs' ∧ RV h V p v ∧ DIs h V ds vs' as
theorem DIs.keep {h h' : Heap} {V V' : Addr → Prop} (hk : ∀ b o, ¬ V b → IsSeq o → h.get? b = some o → h'.get? b = some o ∧ ¬ V' b) : ∀ (ds : List (Option PV)) (vs : List Value) (as : List Addr), (∀ a ∈ as, ∀ o, h.get? a = some o → h'.get? a = some o) → DIs h V ds vs as → DIs h' V' ds vs as
  | [], vs, as, _, x => x
  | none :: ds, vs, as, ha, x => by
    obtain ⟨a, vs', as', n, rfl, rfl, hg, x⟩ := x
    exact ⟨a, vs', as', n, rfl, rfl, ha a (by simp) _ hg, DIs.keep hk ds vs' as' (fun b hb => ha b (by simp [hb])) x⟩
  | some p :: ds, vs, as, ha, x => by
    obtain ⟨v, vs', rfl, hr, x⟩ := x
    exact ⟨v, vs', rfl, RV.keep hk _ _ hr, DIs.keep hk ds vs' as ha x⟩
theorem DIs.length {h : Heap} {V : Addr → Prop} : ∀ {ds : List (Option PV)} {vs : List Value} {as : List Addr}, DIs h V ds vs as → vs.length = ds.length
  | [], _, _, x => by simp [x.1]
  | none :: ds, _, _, x => by obtain ⟨a, vs', as', n, rfl, rfl, hg, x⟩ := x; simp [DIs.length x]
  | some p :: ds, _, _, x => by obtain ⟨v, vs', rfl, hr, x⟩ := x; simp [DIs.length x]
noncomputable def XD (prog : Program) (w : World) (hb : Heap) (sc : Scope) (lv : Nat) (es : List Expr) (f : List Sl → Option (List (Option PV))) : Prop :=
  ∀ (pos : Pos) (env : Env) (A : Around) (E : Value → Shared → Prop) (s : Shared) (U : Addr → Prop) (σ : List Sl) (val : Nat → Option Value) (ds : List (Option PV)),
    EnvOk sc env → Room lv A → SR hb env U σ val s → f σ = some ds →
    wpAny (model prog w) A (spliced (backTo pos (starEach es env))) (fun vs s' => Ext s s' ∧ ∃ as, SR hb env (fun b => U b ∨ b ∈ as) σ val s' ∧ as.Nodup ∧ (∀ a ∈ as, s.heap.get? a = none) ∧ DIs s'.heap (fun b => Av U σ val b ∨ b ∈ as) ds vs as) E s
theorem XD.nil : XD prog w hb sc lv [] (fun Z => some []) := by
  intro pos env A E s U σ val ds he hr hs hf
  cases hf
  exact Calls.spliced_nil ⟨Chg.refl _, [], hs.subU fun b h => h.elim id fun h => (by cases h), List.nodup_nil, fun a h => (by cases h), rfl, rfl⟩
theorem XD.val {e : Expr} {es : List Expr} {f : List Sl → Option PV} {g : List Sl → Option (List (Option PV))} (h₁ : XE prog w hb sc lv e f) (h₂ : XD prog w hb sc lv es g)
    (hst : ∀ pos env, backTo pos (starEach (e :: es) env) = (false, eval e env) :: backTo pos (starEach es env)) :
    XD prog w hb sc lv (e :: es) (fun σ => (f σ).bind fun a => (g σ).map fun r => some a :: r) := by
  intro pos env A E s U σ val ds he hr hs hf
  refine bindE hf fun a ha hf => ?_
  obtain ⟨r, hr', hf⟩ := Option.map_eq_some_iff.mp hf
  cases hf
  rw [hst]
  refine Calls.spliced_cons (wpAny_mono (h₁ env A E s U σ val a he hr hs ha) (fun v s₁ q => ?_) fun Z Z x => x)
  refine wpAny_mono (h₂ pos env A E s₁ U σ val r he hr (hs.ext q.1) hr') (fun vs s₂ q₂ => ?_) fun Z Z x => x
  obtain ⟨x₂, as, hs₂, nd, fr, hd⟩ := q₂
  exact ⟨q.1.trans x₂, as, hs₂, nd, fun a h => q.1.none (fr a h), v, vs, rfl, RV.keep (fun b o hV Z e => ⟨x₂.heap b o (fun q => q) e, fun q => q.elim hV fun h => by rw [fr b h] at e; cases e⟩) _ _ q.2, hd⟩
theorem XD.new {p : Pos} {es : List Expr} {g : List Sl → Option (List (Option PV))} (h₂ : XD prog w hb sc lv es g)
    (hst : ∀ pos env, backTo pos (starEach (.List [] p :: es) env) = (false, eval (.List [] p) env) :: backTo pos (starEach es env)) :
    XD prog w hb sc lv (.List [] p :: es) (fun σ => (g σ).map fun r => none :: r) := by
  intro pos env A E s U σ val ds he hr hs hf
  obtain ⟨r, hr', hf⟩ := Option.map_eq_some_iff.mp hf
  cases hf
  rw [hst]
  refine Calls.spliced_cons (wpAny_mono (XL.lst (prog := prog) (w := w) (hb := hb) (sc := sc) (lv := lv) XEs.nil env A E s U σ val [] he hr hs rfl) (fun v s₁ q => ?_) fun Z Z x => x)
  obtain ⟨x₁, a, us, n, rfl, h0, hg, hru⟩ := q
  have : us = [] := by simpa [RVs] using hru
  subst this
  have hs₁ := hs.addU x₁ h0 ⟨_, hg⟩
  refine wpAny_mono (h₂ pos env A E s₁ (fun b => U b ∨ b = a) σ val r he hr hs₁ hr') (fun vs s₂ q₂ => ?_) fun Z Z x => x
  obtain ⟨x₂, as, hs₂, nd, fr, hd⟩ := q₂
  have hna : a ∉ as := fun h => by have := fr a h; rw [hg] at this; cases this
  refine ⟨x₁.trans x₂, a :: as, hs₂.subU fun b h => ?_, List.nodup_cons.mpr ⟨hna, nd⟩, fun b h => ?_, a, vs, as, n, rfl, rfl, x₂.heap _ _ (fun q => q) hg, DIs.keep (fun b o hV Z e => ⟨e, fun q => hV ?_⟩) _ _ _ (fun Z Z Z e => e) hd⟩
  · rcases h with h | h
    · exact .inl (.inl h)
    · rcases List.mem_cons.mp h with h | h
      · exact .inl (.inr h)
      · exact .inr h
  · rcases List.mem_cons.mp h with h | h
    · rw [h]; exact h0
    · exact x₁.none (fr b h)
  · rcases q with (q | q) | q
    · exact .inl (.inl (.inl q))
    · exact .inl (.inr q)
    · rcases List.mem_cons.mp q with q | q
      · exact .inl (.inl (.inr q))
      · exact .inr q
noncomputable def setD : List Nat → List (Option PV) → List Sl → Option (List Sl)
  | [], [], σ => some σ
  | i :: is, none :: ds, σ => if i < σ.length then setD is ds (σ.set i (.own [])) else none
  | i :: is, some p :: ds, σ => (setS i p σ).bind (setD is ds)
  | _, _, _ => none
/-- local names, in order -/
inductive Locs (sc : Scope) : List Expr → List Nat → Prop where
  | nil : Locs sc [] []
  | cons {x : Str} {xp : Pos} {ts : List Expr} {i : Nat} {is : List Nat} (hn : nameAt sc.names x = some (i, .local)) (h : Locs sc ts is) (hst : ∀ env, assignEach (.Name x xp :: ts) env = (false, assign (.Name x xp) env) :: assignEach ts env) : Locs sc (.Name x xp :: ts) (i :: is)
theorem storeD {env : Env} {A : Around} {E : Value → Shared → Prop} {U : Addr → Prop} (he : EnvOk sc env) {ts : List Expr} {is : List Nat} (h : Locs sc ts is) :
    ∀ (ds : List (Option PV)) (vs : List Value) (as : List Addr) (s : Shared) (σ σ' : List Sl) (val : Nat → Option Value) (V₀ : Addr → Prop) (Q : Unit → Shared → Prop), SR hb env (fun b => U b ∨ b ∈ as) σ val s → as.Nodup → (∀ a ∈ as, ¬ U a) →
      DIs s.heap V₀ ds vs as → (∀ b, Av U σ val b ∨ b ∈ as → V₀ b) → setD is ds σ = some σ' →
      (∀ s' val', SR hb env U σ' val' s' → Chg (fun b => b = env.locals) no s s' → (∀ a, Owned σ' val' a → Owned σ val a ∨ a ∈ as) → Q () s') → wpAny (model prog w) A (assignInOrder ((assignEach ts env).map (·.2)) vs) Q E s := by
  induction h with
  | nil =>
    intro ds vs as s σ σ' val V₀ Q hs nd hnU hd hV hm hQ
    cases ds with
    | nil => cases hm; obtain ⟨rfl, rfl⟩ := hd; exact wpAny_pure (hQ s val (hs.subU fun b h => .inl h) (Chg.refl _) fun a h => .inl h)
    | cons d ds => cases d <;> cases hm
  | @cons x xp ts i is hn h hst ih =>
    intro ds vs as s σ σ' val V₀ Q hs nd hnU hd hV hm hQ
    cases ds with
    | nil => cases hm
    | cons d ds =>
      rw [hst]
      cases d with
      | none =>
        obtain ⟨a, vs', as', n, rfl, rfl, hg, hd⟩ := hd
        simp only [setD] at hm
        split at hm
        · rename_i hi
          show wpAny _ _ (do holding vs' (assign (.Name x xp) env (.ref a)); assignInOrder ((assignEach ts env).map (·.2)) vs') _ _ _
          refine wpAny_bind (wpAny_holding (wpAny_assign_Name (st_locS he hs hn (sl := .un) (fun Z e => nomatch e) trivial hi fun s₁ hs₁ c₁ => ?_)))
          obtain ⟨hna, nd'⟩ := List.nodup_cons.mp nd
          have haL : a ≠ env.locals := fun q => hs.un a (.inl q) (.inr (by simp))
          have hg₁ : s₁.heap.get? a = some (lstObj [] n) := c₁.heap a _ haL hg
          have hs₁' : SR hb env (fun b => (U b ∨ b ∈ as') ∨ b = a) (σ.set i .un) (upd val i (.ref a)) s₁ := hs₁.subU fun b h => by
            rcases h with (h | h) | h
            · exact .inl h
            · exact .inr (by simp [h])
            · exact .inr (by simp [h])
          have hi' : i < (σ.set i Sl.un).length := by simpa using hi
          obtain ⟨hs₂, ho₂⟩ := hs₁'.take (l := []) hi' (by rw [List.getElem?_set_self hi]) (by simp [upd]) hg₁ RVs.nil (fun q => q.elim (hnU a (by simp)) hna)
          rw [List.set_set] at hs₂ ho₂
          have ow₂ : ∀ b, Owned (σ.set i (.own [])) (upd val i (.ref a)) b → Owned σ val b ∨ b = a := fun b q => (ho₂ b q).imp (owned_setS (sl := .un) fun Z e => nomatch e) id
          obtain ⟨m, hns, Z⟩ := hs.ns
          refine ih ds vs' as' s₁ _ σ' _ V₀ Q hs₂ nd' (fun b hb' => hnU b (by simp [hb'])) (DIs.keep (fun b o hV' hq e => ⟨c₁.heap b o (fun q => ns_nseq hns o (q ▸ e) hq) e, hV'⟩) _ _ _ (fun b hb' o e => c₁.heap b o (fun q => hs.un b (.inl q) (.inr (by simp [hb']))) e) hd) (fun b q => ?_) hm fun s₂ val₂ a₂ c₂ o₂ => ?_
          · rcases q with (q | q) | q
            · exact hV b (.inl (.inl q))
            · rcases ow₂ b q with q | q
              · exact hV b (.inl (.inr q))
              · exact hV b (.inr (by simp [q]))
            · exact hV b (.inr (by simp [q]))
          · refine hQ s₂ val₂ a₂ (c₁.trans c₂) fun b q => ?_
            rcases o₂ b q with q | q
            · rcases ow₂ b q with q | q
              · exact .inl q
              · exact .inr (by simp [q])
            · exact .inr (by simp [q])
        · cases hm
      | some p =>
        obtain ⟨v, vs', rfl, hr, hd⟩ := hd
        simp only [setD] at hm
        refine bindE hm fun σ₁ hσ hm => ?_
        rw [setS_eq] at hσ
        split at hσ
        · rename_i hi
          cases hσ
          show wpAny _ _ (do holding vs' (assign (.Name x xp) env v); assignInOrder ((assignEach ts env).map (·.2)) vs') _ _ _
          refine wpAny_bind (wpAny_holding (wpAny_assign_Name (st_loc he hs hn (hr.weak fun b q => .inl (hV b (by
            rcases q with (q | q) | q
            · exact .inl (.inl q)
            · exact .inr q
            · exact .inl (.inr q)))) hi fun s₁ hs₁ c₁ => ?_)))
          obtain ⟨m, hns, Z⟩ := hs.ns
          refine ih ds vs' as s₁ _ σ' _ V₀ Q hs₁ nd hnU (DIs.keep (fun b o hV' hq e => ⟨c₁.heap b o (fun q => ns_nseq hns o (q ▸ e) hq) e, hV'⟩) _ _ _ (fun b hb' o e => c₁.heap b o (fun q => hs.un b (.inl q) (.inr hb')) e) hd) (fun b q => hV b (q.imp (fun q => q.imp id owned_set) id)) hm fun s₂ val₂ a₂ c₂ o₂ => ?_
          exact hQ s₂ val₂ a₂ (c₁.trans c₂) fun b q => (o₂ b q).imp owned_set id
        · cases hσ
theorem XS.unpackD {ts es : List Expr} {is : List Nat} {k k' : Nat} {tpos epos pos : Pos} {f : List Sl → Option (List (Option PV))} (ht : Locs sc ts is) (h : XD prog w hb sc lv es f) (hl : es.length ≤ 1000)
    (hlen : ∀ env, (assignEach ts env).length = is.length) (hstar : ∀ env, (assignEach ts env).findIdx? (·.1) = none)
    (hsw : ∀ env, swapsWithSole [.Tuple ts k tpos] (.Tuple es k' epos) pos.line env = pure false) (hsp : ∀ env, swappedStores [.Tuple ts k tpos] (.Tuple es k' epos) env = pure none) :
    XS prog w hb sc lv (.Assign [.Tuple ts k tpos] (.Tuple es k' epos) pos) (fun σ => (f σ).bind fun ds => if ds.length = is.length ∧ ds.length ≤ 1000 then (setD is ds σ).map fun σ' => (.next, σ') else none) := by
  intro env A E s U σ val fl σ' he hr hs hg
  refine bindE hg fun ds hds hg => ?_
  split at hg
  · rename_i hn
    obtain ⟨σ₁, hσ, hg⟩ := Option.map_eq_some_iff.mp hg
    cases hg
    refine wpAny_Assign_stores ?_ (hsw env) (hsp env)
    refine wpAny_Tuple_spliced (wpAny_mono (h epos env A E s U σ val ds he hr hs hds) (fun vs s₁ q => ?_) fun Z Z x => x)
    obtain ⟨x₁, as, hs₁, nd, fr, hd⟩ := q
    have hvl := hd.length
    refine ⟨by rw [hvl, LIM_eq]; unfold LIM; lia, ?_⟩
    have x₂ : Ext s₁ { s₁ with heap := s₁.heap.push { cls := .type "tuple", data := .seq vs.toArray } } := ext_push'
    have hT : ({ s₁ with heap := s₁.heap.push { cls := .type "tuple", data := .seq vs.toArray } } : Shared).heap.IsTuple s₁.heap.objs.size vs.toArray := ⟨_, Heap.get?_push_size _ rfl, rfl, _, rfl⟩
    show wpAny _ _ (PySem.assign (.Tuple ts k tpos) env _) _ _ _
    refine wpAny_assign_Tuple hr.1 hT (by rw [hlen]; simp; lia) (hstar env) fun h' hx => ?_
    have x₃ : Ext s₁ { s₁ with heap := h' } := ext_of_keep (tk := s₁.toks) fun b o e => hx b o (fun q => by subst q; exact absurd (Heap.lt_size e) (Nat.not_lt.mpr (Nat.le_trans (Nat.le_succ _) (Nat.le_of_eq (Heap.size_push ..).symm)))) (Heap.get?_push_of_some _ e)
    have x := x₁.trans x₃
    refine storeD he ht ds vs as _ σ σ' val (fun b => Av U σ val b ∨ b ∈ as) _ (hs₁.ext x₃) nd (fun a ha q => by obtain ⟨o, e⟩ := (hs.uex a q).1; rw [fr a ha] at e; cases e) (DIs.keep (fun b o hV Z e => ⟨x₃.heap b o (fun q => q) e, hV⟩) _ _ _ (fun b Z o e => x₃.heap b o (fun q => q) e) hd) (fun b q => q) hσ fun s₂ val₂ hs₂ c₂ o₂ => ?_
    exact ⟨val₂, hs₂, rfl, (Ext.to x).trans c₂.locMut, fun a h => (o₂ a h).imp id (fr a)⟩
  · cases hg
end
noncomputable def nth (n : Nat) : Stmt := (PySem.Challenge.pw_rt0013_01.main.body[n]?).getD (.Pass ⟨0, 0, 0, 0⟩)
noncomputable def fnScope : Stmt → Scope
  | .FunctionDef _ _ _ _ _ _ s _ _ _ => s
  | _ => default
noncomputable def fnBody : Stmt → List Stmt
  | .FunctionDef _ _ b _ _ _ _ _ _ _ => b
  | _ => []
section
variable {prog : Program} {w : World} {hb : Heap} {sc : Scope} {lv : Nat}
/-- the module's name x reads the value p -/
noncomputable def GV (hb : Heap) (x : Str) (p : PV) : Prop := ∃ v, GlobIs hb x v ∧ RV hb no p v
noncomputable def FV (prog : Program) (w : World) (hb : Heap) (x : Str) (lv : Nat) (pf : List PV → Option PV) : Prop := ∃ fv, GlobIs hb x fv ∧ Callee hb fv ∧ CB prog w hb lv fv pf
noncomputable def KV (prog : Program) (w : World) (hb : Heap) (x k : Str) (lv : Nat) (pf : PV → PV → Option PV) : Prop := ∃ fa, GlobIs hb x (.ref fa) ∧ (∃ o fd, hb.get? fa = some o ∧ o.data = .func fd) ∧ CK prog w hb lv (.ref fa) k pf
noncomputable def IV (prog : Program) (w : World) (hb : Heap) (x : Str) (lv : Nat) (pf : List PV → Option (List Itm)) : Prop := ∃ fv, GlobIs hb x fv ∧ Callee hb fv ∧ ∀ elts k pos, CI prog w hb lv (.Tuple elts k pos) fv pf
noncomputable def IA (prog : Program) (w : World) (hb : Heap) (x : Str) (lv : Nat) (pf : List PV → Option (List Itm)) : Prop := ∃ fv, GlobIs hb x fv ∧ Callee hb fv ∧ ∀ t, CI prog w hb lv t fv pf
theorem CB.le {fv : Value} {pf : List PV → Option PV} {lv' : Nat} (h : CB prog w hb lv fv pf) (hl : lv ≤ lv') : CB prog w hb lv' fv pf := fun A E s V vs ps r hr => h A E s V vs ps r (hr.le hl)
theorem CB.mono {fv : Value} {pf pf' : List PV → Option PV} (h : CB prog w hb lv fv pf) (hp : ∀ ps r, pf' ps = some r → pf ps = some r) : CB prog w hb lv fv pf' := fun A E s V vs ps r hr hV hn hb' hv e => h A E s V vs ps r hr hV hn hb' hv (hp ps r e)
theorem XE.globV {x : Str} {pos : Pos} {p : PV} (hn : sc.names.lookup x = some .globalImplicit) (h : GV hb x p) (hd : (x == ("__debug__" : Str)) = false) : XE prog w hb sc lv (.Name x pos) (fun Z => some p) :=
  let ⟨_, a, b⟩ := h; XE.glob hn a b hd
theorem XE.callV {x : Str} {xp pos : Pos} {e : Expr} {es : List Expr} {g : List Sl → Option (List PV)} {pf : List PV → Option PV} {lv' : Nat}
    (hn : sc.names.lookup x = some .globalImplicit) (h : FV prog w hb x lv' pf) (ha : XEs prog w hb sc lv (e :: es) g) (hlv : lv' ≤ lv)
    (hd : (x == ("__debug__" : Str)) = false) (hplain : ∀ env, (backTo pos (starEach (e :: es) env)).any (·.1) = false)
    (hst : ∀ env, backTo pos (starEach (e :: es) env) = (false, eval e env) :: backTo pos (starEach es env)) :
    XE prog w hb sc lv (.Call (.Name x xp) (e :: es) [] pos) (fun σ => (g σ).bind pf) :=
  let ⟨_, a, b, c⟩ := h; XE.call hn a b c ha hlv hd hplain hst
theorem XE.callKV {x k : Str} {xp pos kp : Pos} {e ek : Expr} {f g : List Sl → Option PV} {pf : PV → PV → Option PV} {lv' : Nat}
    (hn : sc.names.lookup x = some .globalImplicit) (h : KV prog w hb x k lv' pf) (h₁ : XE prog w hb sc lv e f) (h₂ : XE prog w hb sc lv ek g) (hlv : lv' ≤ lv)
    (hd : (x == ("__debug__" : Str)) = false)
    (hst : ∀ env, backTo pos (starEach [e] env) = [(false, eval e env)]) (hkw : ∀ env, backToKw pos (keywordEach [⟨some k, ek, kp⟩] env) = [(some k, do let v ← eval ek env; standAt pos; pure v)]) :
    XE prog w hb sc lv (.Call (.Name x xp) [e] [⟨some k, ek, kp⟩] pos) (fun σ => (f σ).bind fun a => (g σ).bind fun b => pf a b) :=
  let ⟨_, a, b, c⟩ := h; XE.callK hn a b c h₁ h₂ hlv hd hst hkw
theorem Itr.lev {A : Around} {lv' : Nat} {t : Expr} {V D : Addr → Prop} {it : Value} {G : Nat → Prop} : ∀ (xs : List Itm) (T : Addr → Prop) (s : Shared), Itr prog w hb lv A t V it D G xs T s → Itr prog w hb lv' A t V it D G xs T s
  | [], T, s, h => fun E s' Q hb' c hQ => h E s' Q hb' c hQ
  | x :: xs, T, s, h => fun E s' Q hb' c hQ => h E s' Q hb' c fun v s'' T' a b d e f g => hQ v s'' T' a b d e f (Itr.lev xs T' s'' g)
theorem CI.le {t : Expr} {fv : Value} {pf : List PV → Option (List Itm)} {lv' : Nat} (h : CI prog w hb lv t fv pf) (hl : lv ≤ lv') : CI prog w hb lv' t fv pf := by
  intro A E s V vs ps r hr hV hn hb' hv e
  refine wpAny_mono (h A E s V vs ps r (hr.le hl) hV hn hb' hv e) (fun x s₁ q => wpAny_mono q (fun it s₂ q₂ => ?_) fun Z Z x => x) fun Z Z x => x
  obtain ⟨a, D, T, G, b, c, d, e, f⟩ := q₂
  exact ⟨a, D, T, G, b, c, d, Itr.lev _ _ _ e, f⟩
theorem CI.mono {t : Expr} {fv : Value} {pf pf' : List PV → Option (List Itm)} (h : CI prog w hb lv t fv pf) (hp : ∀ ps r, pf' ps = some r → pf ps = some r) : CI prog w hb lv t fv pf' := fun A E s V vs ps r hr hV hn hb' hv e => h A E s V vs ps r hr hV hn hb' hv (hp ps r e)
theorem XI.callIV {elts : List Expr} {k : Nat} {tpos : Pos} {x : Str} {xp pos : Pos} {e : Expr} {es : List Expr} {g : List Sl → Option (List PV)} {pf : List PV → Option (List Itm)} {lv' : Nat}
    (hn : sc.names.lookup x = some .globalImplicit) (h : IV prog w hb x lv' pf) (ha : XEs prog w hb sc lv (e :: es) g) (hlv : lv' ≤ lv)
    (hd : (x == ("__debug__" : Str)) = false) (hplain : ∀ env, (backTo pos (starEach (e :: es) env)).any (·.1) = false)
    (hst : ∀ env, backTo pos (starEach (e :: es) env) = (false, eval e env) :: backTo pos (starEach es env)) :
    XI prog w hb sc lv (.Tuple elts k tpos) (.Call (.Name x xp) (e :: es) [] pos) (fun σ => (g σ).bind pf) :=
  let ⟨_, a, b, c⟩ := h; XI.call hn a b ((c elts k tpos).le hlv) ha hd hplain hst
theorem XI.callIA {t : Expr} {x : Str} {xp pos : Pos} {e : Expr} {es : List Expr} {g : List Sl → Option (List PV)} {pf : List PV → Option (List Itm)} {lv' : Nat}
    (hn : sc.names.lookup x = some .globalImplicit) (h : IA prog w hb x lv' pf) (ha : XEs prog w hb sc lv (e :: es) g) (hlv : lv' ≤ lv)
    (hd : (x == ("__debug__" : Str)) = false) (hplain : ∀ env, (backTo pos (starEach (e :: es) env)).any (·.1) = false)
    (hst : ∀ env, backTo pos (starEach (e :: es) env) = (false, eval e env) :: backTo pos (starEach es env)) :
    XI prog w hb sc lv t (.Call (.Name x xp) (e :: es) [] pos) (fun σ => (g σ).bind pf) :=
  let ⟨_, a, b, c⟩ := h; XI.call hn a b ((c t).le hlv) ha hd hplain hst
noncomputable def getB (i : Nat) (σ : List Sl) : Option PV := match σ[i]? with
  | some (.own l) => some (.lst l)
  | some (.pv p) => some p
  | _ => none
/-- an item of a local name's list, its own or not -/
theorem XE.idxB {x : Str} {xp pos : Pos} {slice : Expr} {i : Nat} {g : List Sl → Option PV} (hn : nameAt sc.names x = some (i, .local)) (h₂ : XE prog w hb sc lv slice g) (hd : (x == ("__debug__" : Str)) = false)
    (hsb : ∀ o i, subscripted slice false o i = operate [o, i] (getItem o i)) :
    XE prog w hb sc lv (.Subscript (.Name x xp) slice pos) (fun σ => (getB i σ).bind fun a => (g σ).bind fun b => itemP a b) := by
  intro env A E s U σ val p he hr hs hf
  refine bindE hf fun a ha hf' => ?_
  unfold getB at ha
  split at ha
  · rename_i l hl
    cases ha
    have hO : getO i σ = some l := by unfold getO; rw [hl]; rfl
    exact XE.idxO (pos := pos) (xp := xp) hn h₂ hd hsb env A E s U σ val p he hr hs (by show (getO i σ).bind _ = _; rw [hO]; exact hf')
  · rename_i q hl
    cases ha
    have hO : getS i σ = some a := by unfold getS; rw [hl]; rfl
    exact XE.idx (pos := pos) (XE.loc (pos := xp) hn hd) h₂ hsb env A E s U σ val p he hr hs (by show (getS i σ).bind _ = _; rw [hO]; exact hf')
  · cases ha
end
section
variable {prog : Program} {w : World} {hb : Heap} {sc : Scope} {lv : Nat}
theorem XE.lo {x : Str} {pos : Pos} (i : Nat) (hn : nameAt sc.names x = some (i, .local) := by kernel_rfl) (hd : (x == ("__debug__" : Str)) = false := by kernel_rfl) : XE prog w hb sc lv (.Name x pos) (getS i) := XE.loc hn hd
theorem XE.ce {x : Str} {pos : Pos} (i : Nat) (hn : nameAt sc.names x = some (i, .cell) := by kernel_rfl) (hd : (x == ("__debug__" : Str)) = false := by kernel_rfl) : XE prog w hb sc lv (.Name x pos) (getS i) := XE.cel hn hd
theorem XEs.co {e : Expr} {es : List Expr} {f : List Sl → Option PV} {g : List Sl → Option (List PV)} (h₁ : XE prog w hb sc lv e f) (h₂ : XEs prog w hb sc lv es g)
    (hst : ∀ pos env, backTo pos (starEach (e :: es) env) = (false, eval e env) :: backTo pos (starEach es env) := by intro Z Z; kernel_rfl) :
    XEs prog w hb sc lv (e :: es) (fun σ => (f σ).bind fun a => (g σ).bind fun r => some (a :: r)) := XEs.cons h₁ h₂ hst
theorem XE.cv {x : Str} {xp pos : Pos} {e : Expr} {es : List Expr} {g : List Sl → Option (List PV)} {pf : List PV → Option PV} {lv' : Nat}
    (h : FV prog w hb x lv' pf) (ha : XEs prog w hb sc lv (e :: es) g) (hn : sc.names.lookup x = some .globalImplicit := by kernel_rfl) (hlv : lv' ≤ lv := by decide)
    (hd : (x == ("__debug__" : Str)) = false := by kernel_rfl) (hplain : ∀ env, (backTo pos (starEach (e :: es) env)).any (·.1) = false := by intro Z; kernel_rfl)
    (hst : ∀ env, backTo pos (starEach (e :: es) env) = (false, eval e env) :: backTo pos (starEach es env) := by intro Z; kernel_rfl) :
    XE prog w hb sc lv (.Call (.Name x xp) (e :: es) [] pos) (fun σ => (g σ).bind pf) := XE.callV hn h ha hlv hd hplain hst
theorem XS.set {x : Str} {xp pos : Pos} {e : Expr} {f : List Sl → Option PV} (i : Nat) (h : XE prog w hb sc lv e f) (hn : nameAt sc.names x = some (i, .local) := by kernel_rfl)
    (hsw : ∀ env, EnvOk sc env → swapsWith e (some (.Name x xp)) pos.line env = pure false := by intro Z Z; kernel_rfl) :
    XS prog w hb sc lv (.Assign [.Name x xp] e pos) (fun σ => (f σ).bind fun p => (setS i p σ).map fun σ' => (.next, σ')) := XS.assign hn h hsw
end
section
variable {α : Type} {inp : α → List PV} {ok : α → Prop} {out : α → PV}
open Classical in
noncomputable def specP {α : Type} (inp : α → List PV) (ok : α → Prop) (out : α → PV) (ps : List PV) : Option PV :=
  if h : ∃ a, inp a = ps ∧ ok a then some (out h.choose) else none
theorem specP_inv {ps : List PV} {r : PV} (h : specP inp ok out ps = some r) : ∃ a, inp a = ps ∧ ok a ∧ out a = r := by
  unfold specP at h
  split at h
  · rename_i hx
    cases h
    exact ⟨hx.choose, hx.choose_spec.1, hx.choose_spec.2, rfl⟩
  · cases h
end
/-- a list of small numbers -/
noncomputable def nums (l : List Nat) : PV := .lst (l.map fun n : Nat => .int (n : Int))
theorem intsOf_nums (l : List Nat) : intsOf (l.map fun n : Nat => PV.int (n : Int)) = some (l.map fun n : Nat => (n : Int)) := by
  induction l with
  | nil => rfl
  | cons a l ih => show (intsOf _).map _ = _; rw [ih]; rfl
theorem toNat_list_inj : ∀ {a b : List Char}, a.map Char.toNat = b.map Char.toNat → a = b
  | [], [], _ => rfl
  | [], _ :: _, h => by cases h
  | _ :: _, [], h => by cases h
  | x :: xs, y :: ys, h => by
    simp only [List.map_cons, List.cons.injEq] at h
    rw [toNat_list_inj h.2, Char.ext (UInt32.toNat_inj.mp h.1)]
theorem ofString_inj {a b : String} (h : Str.ofString a = Str.ofString b) : a = b := by
  rw [Str.ofString_eq_toList, Str.ofString_eq_toList] at h
  have h1 := congrArg (fun x : Str => x.cps.toList) h
  have h2 : a.toList.map Char.toNat = b.toList.map Char.toNat := by simpa using h1
  exact String.toList_inj.mp (toNat_list_inj h2)
theorem getS_zero (p : PV) (σ : List Sl) : getS 0 (.pv p :: σ) = some p := rfl
theorem add_int (a b : Int) : binP .Add (.int a) (.int b) = some (.int (a + b)) := rfl
theorem sub_int (a b : Int) : binP .Sub (.int a) (.int b) = some (.int (a - b)) := rfl
theorem mul_int (a b : Int) (h : a.natAbs < 2 ^ 60) : binP .Mult (.int a) (.int b) = some (.int (a * b)) := by show (if _ then _ else _) = _; rw [if_pos h]
theorem fdiv_int (a b : Int) (h : ¬ (b = 0 ∨ 2 ^ 60 ≤ b.natAbs)) : binP .FloorDiv (.int a) (.int b) = some (.int (a.fdiv b)) := by show (if _ then _ else _) = _; rw [if_neg h]
theorem fmod_int (a b : Int) (h : ¬ b = 0) : binP .Mod (.int a) (.int b) = some (.int (a.fmod b)) := by show (if _ then _ else _) = _; rw [if_neg h]
theorem pow_int (a n : Int) (h : 0 ≤ n ∧ n ≤ 100 ∧ a.natAbs < 2 ^ 60) : binP .Pow (.int a) (.int n) = some (.int (a ^ n.toNat)) := by show (if _ then _ else _) = _; rw [if_pos h]
theorem add_str (a b : List Nat) (h : a.length + b.length ≤ LIM) : binP .Add (.str a) (.str b) = some (.str (a ++ b)) := by show (if _ then _ else _) = _; rw [if_pos h]
theorem seqP_next {g₁ g₂ : List Sl → Option (PF × List Sl)} {σ σ' : List Sl} (h : g₁ σ = some (.next, σ')) : seqP g₁ g₂ σ = g₂ σ' := by unfold seqP; rw [h]; rfl
theorem fdiv_nat (a b : Nat) : (a : Int).fdiv (b : Int) = ((a / b : Nat) : Int) := by
  rw [Int.fdiv_eq_ediv_of_nonneg _ (Int.natCast_nonneg b)]; rfl
theorem fmod_nat (a b : Nat) : (a : Int).fmod (b : Int) = ((a % b : Nat) : Int) := by
  rw [Int.fmod_eq_emod_of_nonneg _ (Int.natCast_nonneg b)]; rfl
theorem lenP_str (a : List Nat) (h : a.length ≤ LIM) : lenP [.str a] = some (.int (a.length : Int)) := if_pos h
theorem lenP_lst (a : List PV) (h : a.length ≤ LIM) : lenP [.lst a] = some (.int (a.length : Int)) := if_pos h
theorem nth_nat {α : Type} {l : List α} {n : Nat} (h : n < l.length) (hb : n < 2 ^ 60) : nth? l (n : Int) = l[n]? :=
  (if_pos (show (n : Int).natAbs < _ from hb)).trans (congrArg (fun o => o.bind (l[·]?)) (seqIndex_of (Int.natCast_nonneg n) (Int.ofNat_lt.mpr h)))
theorem item_str (l : List Nat) (n : Nat) (h : n < l.length) (hb : n < 2 ^ 60) : itemP (.str l) (.int (n : Int)) = some (.str [l.getD n 0]) :=
  (congrArg (Option.map fun c => PV.str [c]) (nth_nat h hb)).trans (by rw [List.getD_eq_getElem?_getD, List.getElem?_eq_getElem h]; rfl)
theorem item_lst (l : List PV) (n : Nat) (p : PV) (h : l[n]? = some p) (hb : n < 2 ^ 60) : itemP (.lst l) (.int (n : Int)) = some p := (nth_nat (List.getElem?_eq_some_iff.mp h).1 hb).trans h
theorem item_l0 (p : PV) (l : List PV) : itemP (.lst (p :: l)) (.int 0) = some p := item_lst (p :: l) 0 p rfl (by decide)
theorem item_l1 (p q : PV) (l : List PV) : itemP (.lst (p :: q :: l)) (.int 1) = some q := item_lst (p :: q :: l) 1 q rfl (by decide)
theorem item_l2 (p q r : PV) (l : List PV) : itemP (.lst (p :: q :: r :: l)) (.int 2) = some r := item_lst (p :: q :: r :: l) 2 r rfl (by decide)
theorem item_tup (l : List PV) (n : Nat) (p : PV) (h : l[n]? = some p) (hb : n < 2 ^ 60) : itemP (.tup l) (.int (n : Int)) = some p := item_lst l n p h hb
theorem and_nat (a b : Nat) : Builtin.bitAnd (a : Int) (b : Int) = ((a &&& b : Nat) : Int) := by
  unfold Builtin.bitAnd
  simp
theorem or_nat (a b : Nat) : Builtin.bitOr (a : Int) (b : Int) = ((a ||| b : Nat) : Int) := by
  unfold Builtin.bitOr Builtin.bitAnd Builtin.bitNot
  have h1 : ¬ (0 ≤ -(a : Int) - 1) := by lia
  have h2 : ¬ (0 ≤ -(b : Int) - 1) := by lia
  simp only [h1, h2, decide_false]
  have e1 : (-(-(a : Int) - 1) - 1).toNat = a := by lia
  have e2 : (-(-(b : Int) - 1) - 1).toNat = b := by lia
  rw [e1, e2]
  lia
theorem and_fmt (m : Nat) : m &&& 61440 = m / 4096 % 16 * 4096 := by
  have e : m / 4096 % 16 * 4096 = ((m >>> 12) &&& 15) <<< 12 := by
    rw [Nat.shiftLeft_eq, Nat.shiftRight_eq_div_pow, show (15 : Nat) = 2 ^ 4 - 1 from rfl, Nat.and_two_pow_sub_one_eq_mod]
  rw [e, show (61440 : Nat) = 15 <<< 12 from rfl]
  apply Nat.eq_of_testBit_eq
  intro i
  simp only [Nat.testBit_and, Nat.testBit_shiftLeft, Nat.testBit_shiftRight]
  by_cases h : 12 ≤ i
  · simp [h]
  · simp [h]
theorem lt_int (a b : Int) : cmpP .Lt (.int a) (.int b) = some (decide (a < b)) := rfl
theorem le_int (a b : Int) : cmpP .LtE (.int a) (.int b) = some (decide (a ≤ b)) := rfl
theorem gt_int (a b : Int) : cmpP .Gt (.int a) (.int b) = some (decide (b < a)) := rfl
theorem ge_int (a b : Int) : cmpP .GtE (.int a) (.int b) = some (decide (b ≤ a)) := rfl
theorem ne_int (a b : Int) : cmpP .NotEq (.int a) (.int b) = some (!(a == b)) := rfl
theorem ne_str (a b : List Nat) : cmpP .NotEq (.str a) (.str b) = some (!(a == b)) := rfl
theorem band_int (a b : Int) : binP .BitAnd (.int a) (.int b) = some (.int (Builtin.bitAnd a b)) := rfl
theorem slc (l : List Nat) (lo hi : Option Int) : (Txt.slice (S l) lo hi).cps.toList = (l.drop (kms_lo lo l.length)).take (kms_hi hi l.length - kms_lo lo l.length) := by
  have e0 : (S l).length = l.length := by show l.toArray.size = _; simp
  have e1 : Builtin.Str.strSliceIndices lo hi 1 (S l).length = sliceRange (sliceBounds lo hi none l.length).1 (sliceBounds lo hi none l.length).2.1 1 := by
    rw [e0]; rfl
  rw [kms_bounds, sliceRange_one] at e1
  have e2 : (Builtin.Str.strSliceIndices lo hi 1 (S l).length).filterMap ((S l).cps[·]?) = (l.drop (kms_lo lo l.length)).take (kms_hi hi l.length - kms_lo lo l.length) := by
    rw [e1, pick_run]
  unfold Txt.slice
  split
  · rename_i h
    have hl : (Builtin.Str.strSliceIndices lo hi 1 (S l).length).length = l.length := by
      have := (Bool.and_eq_true_iff.mp h).2
      rw [beq_iff_eq] at this
      rw [this, e0]
    rw [e1] at hl
    simp only [List.length_map, List.length_range] at hl
    have hh : kms_hi hi l.length ≤ l.length := by
      cases hi with
      | none => exact Nat.le_refl _
      | some y => show kms_hi (some y) l.length ≤ _; unfold kms_hi; simp only; split <;> lia
    show l = _
    by_cases hz : l.length = 0
    · have : l = [] := List.length_eq_zero_iff.mp hz
      subst this; simp
    · have h0 : kms_lo lo l.length = 0 := by lia
      have h1 : kms_hi hi l.length = l.length := by lia
      rw [h0, h1]; simp
  · show ((List.filterMap _ _).toArray).toList = _
    exact e2
theorem sliceP_str (l : List Nat) (lo hi : Option Int) (h : l.length ≤ LIM) : sliceP (.str l) lo hi = some (.str ((l.drop (kms_lo lo l.length)).take (kms_hi hi l.length - kms_lo lo l.length))) := by
  show (if _ then _ else _) = _
  rw [if_pos h, slc]
theorem kms_lo_nat (a n : Nat) : kms_lo (some (a : Int)) n = min a n := by
  unfold kms_lo
  have h : ¬ ((a : Int) < 0) := by lia
  simp only [if_neg h, Int.toNat_natCast]
theorem kms_hi_nat (a n : Nat) : kms_hi (some (a : Int)) n = min a n := by
  unfold kms_hi
  have h : ¬ ((a : Int) < 0) := by lia
  simp only [if_neg h, Int.toNat_natCast]
theorem kms_hi_m1 (n : Nat) : kms_hi (some (-1)) n = n - 1 := rfl
theorem sliceP_nn (l : List Nat) (a b : Nat) (h : l.length ≤ LIM) : sliceP (.str l) (some (a : Int)) (some (b : Int)) = some (.str ((l.drop a).take (b - a))) := by
  rw [sliceP_str _ _ _ h]
  have e1 := kms_lo_nat a l.length
  have e2 := kms_hi_nat b l.length
  rw [e1, e2]
  congr 2
  by_cases h1 : a ≤ l.length
  · rw [Nat.min_eq_left h1]
    by_cases h2 : b ≤ l.length
    · rw [Nat.min_eq_left h2]
    · rw [Nat.min_eq_right (Nat.le_of_not_le h2), List.take_of_length_le (by simp), List.take_of_length_le (by simp; lia)]
  · rw [Nat.min_eq_right (Nat.le_of_not_le h1), List.drop_of_length_le (Nat.le_refl _), List.drop_of_length_le (Nat.le_of_not_le h1)]; simp
theorem sliceP_n (l : List Nat) (a : Nat) (h : l.length ≤ LIM) : sliceP (.str l) (some (a : Int)) none = some (.str (l.drop a)) := by
  rw [sliceP_str _ _ _ h]
  have e1 := kms_lo_nat a l.length
  rw [e1]
  show some (PV.str ((l.drop _).take (l.length - _))) = _
  congr 2
  by_cases h1 : a ≤ l.length
  · rw [Nat.min_eq_left h1, List.take_of_length_le (by simp)]
  · rw [Nat.min_eq_right (Nat.le_of_not_le h1), List.drop_of_length_le (Nat.le_refl _), List.drop_of_length_le (Nat.le_of_not_le h1)]; simp
theorem sliceP_m1 (l : List Nat) (a : Nat) (h : l.length ≤ LIM) : sliceP (.str l) (some (a : Int)) (some (-1)) = some (.str ((l.drop a).take (l.length - 1 - a))) := by
  rw [sliceP_str _ _ _ h]
  have e1 := kms_lo_nat a l.length
  have e2 := kms_hi_m1 l.length
  rw [e1, e2]
  congr 2
  by_cases h1 : a ≤ l.length
  · rw [Nat.min_eq_left h1]
  · rw [Nat.min_eq_right (Nat.le_of_not_le h1), List.drop_of_length_le (Nat.le_refl _), List.drop_of_length_le (Nat.le_of_not_le h1)]; simp
theorem found_S (x y : List Nat) : Txt.contains (S x) (S y) = true ↔ ∃ i, i + y.length ≤ x.length ∧ (x.drop i).take y.length = y := by
  have e : ∀ l : List Nat, (S l).length = l.length := fun l => by show l.toArray.size = _; simp
  unfold Txt.contains
  rw [StrLaws.found_iff]
  constructor
  · rintro ⟨i, h1, h2⟩
    rw [StrLaws.subAt_eq, beq_iff_eq] at h2
    rw [e, e] at h1
    exact ⟨i, h1, by simpa [e] using h2⟩
  · rintro ⟨i, h1, h2⟩
    refine ⟨i, by rw [e, e]; exact h1, ?_⟩
    rw [StrLaws.subAt_eq, beq_iff_eq]
    simpa [e] using h2
theorem has_one (x : List Nat) (c : Nat) : Txt.contains (S x) (S [c]) = decide (c ∈ x) := StrLaws.found_one (S x) c
/-- a sign of three, or no sign -/
theorem in3 (a b c : Nat) (p : List Nat) (h : p ≠ []) (h2 : ∀ x y r, p = x :: y :: r → x ≠ a ∧ x ≠ b) : Txt.contains (S [a, b, c]) (S p) = decide (p = [a] ∨ p = [b] ∨ p = [c]) := by
  rcases p with _ | ⟨x, _ | ⟨y, r⟩⟩
  · exact absurd rfl h
  · rw [has_one]; simp
  · have hx := h2 x y r rfl
    have : ¬ Txt.contains (S [a, b, c]) (S (x :: y :: r)) = true := by
      rw [found_S]
      rintro ⟨i, h1, h2⟩
      rcases i with _ | _ | i
      · simp at h2; exact hx.1 h2.1.symm
      · simp at h2; exact hx.2 h2.1.symm
      · simp at h1; lia
    simp only [Bool.not_eq_true] at this
    rw [this]; simp
noncomputable def sub1 (c : Nat) (z : List Nat) (l : List Nat) : List Nat := l.flatMap fun a => if a = c then z else [a]
theorem sub1_free (c : Nat) (z : List Nat) : ∀ l : List Nat, c ∉ l → sub1 c z l = l
  | [], _ => rfl
  | k :: r, h => by
    have h1 : ¬ k = c := fun e => h (e ▸ List.mem_cons_self ..)
    have h2 : c ∉ r := fun m => h (List.mem_cons_of_mem _ m)
    have ih := sub1_free c z r h2
    unfold sub1 at ih ⊢
    rw [List.flatMap_cons, if_neg h1, ih]; rfl
theorem sub1_append (c : Nat) (z a b : List Nat) : sub1 c z (a ++ b) = sub1 c z a ++ sub1 c z b := by unfold sub1; simp
theorem sub1_join (c : Nat) (z : List Nat) : ∀ parts : List Str, (∀ p ∈ parts, c ∉ p.cps.toList) → sub1 c z (Str.join ⟨#[c]⟩ parts).cps.toList = (Str.join (S z) parts).cps.toList
  | [], _ => rfl
  | [p], h => sub1_free c z _ (h p (List.mem_singleton.mpr rfl))
  | p :: q :: r, h => by
    have ih := sub1_join c z (q :: r) fun a ha => h a (List.mem_cons_of_mem _ ha)
    show sub1 c z (p ++ ⟨#[c]⟩ ++ Str.join ⟨#[c]⟩ (q :: r)).cps.toList = (p ++ S z ++ Str.join (S z) (q :: r)).cps.toList
    simp only [Str.cps_append, Array.toList_append]
    rw [sub1_append, sub1_append, ih, sub1_free c z _ (h p (List.mem_cons_self ..))]
    congr 1
    simp [sub1]
theorem repl_eq (x : List Nat) (c : Nat) (z : List Nat) : (Txt.replace (S x) (S [c]) (S z)).cps.toList = sub1 c z x := by
  have e : S [c] = ⟨#[c]⟩ := rfl
  rw [e, StrLaws.replace_one, ← sub1_join c z _ (StrLaws.split_free (S x) c), StrLaws.join_split]
noncomputable def scan (s sub : Str) (hi limit : Nat) (l : List Nat) (st : Array Nat × Nat) : Array Nat × Nat := (forIn (m := Id) l st (StrLaws.occBody s sub hi limit)).run
theorem scan_cons {s sub : Str} {hi limit i : Nat} {l : List Nat} {st st' : Array Nat × Nat} (h : StrLaws.occBody s sub hi limit i st = pure (ForInStep.yield st')) : scan s sub hi limit (i :: l) st = scan s sub hi limit l st' := by
  unfold scan
  rw [List.forIn_cons, h]
  rfl
theorem scan_skip (s sub : Str) (hi limit : Nat) : ∀ (l : List Nat) (st : Array Nat × Nat), (limit ≤ st.1.size ∨ ∀ i ∈ l, ¬ (i + sub.length ≤ hi ∧ Builtin.Str.subAt s sub i = true)) → scan s sub hi limit l st = st
  | [], st, _ => rfl
  | i :: l, st, h => by
    have : StrLaws.occBody s sub hi limit i st = pure (ForInStep.yield st) := by
      unfold StrLaws.occBody
      rw [if_neg]
      rintro ⟨⟨⟨h1, h2⟩, h3⟩, h4⟩
      rcases h with h | h
      · lia
      · exact h i (List.mem_cons_self ..) ⟨h3, h4⟩
    rw [scan_cons this]
    exact scan_skip s sub hi limit l st (h.imp id fun h i hi => h i (List.mem_cons_of_mem _ hi))
theorem scan_hit (s sub : Str) (hi limit : Nat) (i : Nat) (l : List Nat) (st : Array Nat × Nat) (h1 : st.1.size < limit) (h2 : st.2 ≤ i) (h3 : i + sub.length ≤ hi) (h4 : Builtin.Str.subAt s sub i = true) :
    scan s sub hi limit (i :: l) st = scan s sub hi limit l (st.1.push i, i + sub.length) := by
  refine scan_cons ?_
  unfold StrLaws.occBody
  rw [if_pos ⟨⟨⟨h1, h2⟩, h3⟩, h4⟩]
theorem scan_app (s sub : Str) (hi limit : Nat) : ∀ (l l' : List Nat) (st : Array Nat × Nat), scan s sub hi limit (l ++ l') st = scan s sub hi limit l' (scan s sub hi limit l st)
  | [], _, _ => rfl
  | i :: l, l', st => by
    have : ∃ st', StrLaws.occBody s sub hi limit i st = pure (ForInStep.yield st') := by unfold StrLaws.occBody; split <;> exact ⟨_, rfl⟩
    obtain ⟨st', e⟩ := this
    rw [List.cons_append, scan_cons e, scan_cons e, scan_app s sub hi limit l l' st']
theorem sub1_at (x : List Nat) (c i : Nat) : (i + (S [c]).length ≤ (S x).length ∧ Builtin.Str.subAt (S x) (S [c]) i = true) ↔ x[i]? = some c := StrLaws.subAt_one (S x) c i
theorem not_at_free {x : List Nat} {c a n : Nat} (h : ∀ k, a ≤ k → k < a + n → x[k]? ≠ some c) : ∀ i ∈ List.range' a n, ¬ (i + (S [c]).length ≤ (S x).length ∧ Builtin.Str.subAt (S x) (S [c]) i = true) := by
  intro i hi q
  rw [sub1_at] at q
  rw [List.mem_range'] at hi
  obtain ⟨k, hk, rfl⟩ := hi
  exact h _ (by lia) (by lia) q
theorem S_len' (l : List Nat) : (S l).length = l.length := by show l.toArray.size = _; simp
/-- one sign ahead, and more -/
theorem scan_part {x a b : List Nat} {c limit : Nat} {pre : List Nat} {cuts : Array Nat} {f : Nat} (hx : x = pre ++ a ++ [c] ++ b) (ha : c ∉ a) (hl : cuts.size < limit) (hf : f ≤ pre.length) (m : Nat) :
    scan (S x) (S [c]) (S x).length limit (List.range' pre.length (a.length + 1 + m)) (cuts, f) = scan (S x) (S [c]) (S x).length limit (List.range' (pre.length + a.length + 1) m) (cuts.push (pre.length + a.length), pre.length + a.length + 1) := by
  have hc : x[pre.length + a.length]? = some c := by rw [hx]; simp
  have e : List.range' pre.length (a.length + 1 + m) = List.range' pre.length a.length ++ (pre.length + a.length) :: List.range' (pre.length + a.length + 1) m := by
    rw [show a.length + 1 + m = a.length + (1 + m) by lia, ← List.range'_append_1, show 1 + m = m + 1 by lia, List.range'_succ]
  have hh := (sub1_at x c (pre.length + a.length)).mpr hc
  rw [e, scan_app, scan_skip _ _ _ _ (List.range' pre.length a.length) (cuts, f) (Or.inr ?_), scan_hit _ _ _ _ _ _ _ hl (by show f ≤ _; lia) hh.1 hh.2]
  · rfl
  · refine not_at_free fun k h1 h2 => ?_
    rw [hx, List.append_assoc, List.append_assoc, List.getElem?_append_right h1, List.getElem?_append_left (by lia)]
    intro q
    exact ha (List.mem_of_getElem? q)
theorem scan_rest {x pre a : List Nat} {c limit : Nat} {st : Array Nat × Nat} (hx : x = pre ++ a) (h : limit ≤ st.1.size ∨ c ∉ a) (m : Nat) : scan (S x) (S [c]) (S x).length limit (List.range' pre.length m) st = st := by
  refine scan_skip _ _ _ _ _ _ (h.imp id fun h => not_at_free fun k h1 h2 q => ?_)
  rw [hx, List.getElem?_append_right h1] at q
  exact h (List.mem_of_getElem? q)
theorem strSub_S (l : List Nat) (i j : Nat) : (Builtin.Str.strSub (S l) i j).cps.toList = (l.drop i).take (j - i) := StrLaws.strSub_toList (S l) i j
theorem occ_scan (x : List Nat) (c limit : Nat) : Builtin.Str.occurrences (S x) (S [c]) 0 (S x).length limit = (scan (S x) (S [c]) (S x).length limit (List.range' 0 (x.length + 1)) (#[], 0)).1.toList := by
  rw [StrLaws.occ_eq]; unfold scan; rw [S_len']; rfl
theorem split_kind (x : List Nat) (c : Nat) (h : c ∈ x) : (decide ((S x).length < (S [c]).length) || decide (Builtin.Str.strKind (S x) < Builtin.Str.strKind (S [c]))) = false := by
  rw [Bool.or_eq_false_iff]
  constructor
  · have : x ≠ [] := fun e => by rw [e] at h; cases h
    have h2 := List.length_pos_iff.mpr this
    rw [S_len', S_len']
    simp; lia
  · rw [decide_eq_false_iff_not]
    exact fun q => StrLaws.kind_free (S x) c q h
theorem split_cuts {x : List Nat} {c : Nat} {k : Int} {cuts : List Nat} (hc : c ∈ x) (h : Builtin.Str.occurrences (S x) (S [c]) 0 (S x).length (limitOf (S x) k) = cuts) (hne : cuts ≠ []) :
    Txt.splitMax (S x) (S [c]) k = ((0 :: cuts.map (· + 1)).zip (cuts ++ [x.length])).map fun (p : Nat × Nat) => Builtin.Str.strSub (S x) p.1 p.2 := by
  unfold Txt.splitMax
  rw [split_kind x c hc, if_neg Bool.false_ne_true, h, if_neg (by cases cuts with | nil => exact absurd rfl hne | cons a b => simp)]
  unfold Builtin.Str.partsBetween
  rw [S_len']; rfl
theorem split2 (a b : List Nat) (c : Nat) (ha : c ∉ a) (hb : c ∉ b) : (Txt.splitMax (S (a ++ [c] ++ b)) (S [c]) 2).map (fun z => z.cps.toList) = [a, b] := by
  have h : Builtin.Str.occurrences (S (a ++ [c] ++ b)) (S [c]) 0 (S (a ++ [c] ++ b)).length (limitOf (S (a ++ [c] ++ b)) 2) = [a.length] := by
    rw [show limitOf (S (a ++ [c] ++ b)) 2 = 2 from rfl, occ_scan]
    have e1 := scan_part (x := a ++ [c] ++ b) (a := a) (b := b) (c := c) (limit := 2) (pre := []) (cuts := #[]) (f := 0) (by simp) ha (by simp) (Nat.le_refl _) (b.length + 1)
    have e2 := scan_rest (x := a ++ [c] ++ b) (pre := a ++ [c]) (a := b) (c := c) (limit := 2) (st := (#[a.length], a.length + 1)) rfl (.inr hb) (b.length + 1)
    simp only [List.length_nil, Nat.zero_add, List.length_append, List.length_singleton] at e1 e2
    rw [show (a ++ [c] ++ b).length + 1 = a.length + 1 + (b.length + 1) by simp; lia, e1]
    have e3 : (#[] : Array Nat).push a.length = #[a.length] := rfl
    rw [e3, e2]
  rw [split_cuts (by simp) h (by simp)]
  simp only [List.map_cons, List.map_nil, List.cons_append, List.nil_append, List.zip_cons_cons, List.zip_nil_right, strSub_S]
  simp
  exact List.take_of_length_le (by lia)
theorem split3 (a b d : List Nat) (c : Nat) (ha : c ∉ a) (hb : c ∉ b) : (Txt.splitMax (S (a ++ [c] ++ b ++ [c] ++ d)) (S [c]) 2).map (fun z => z.cps.toList) = [a, b, d] := by
  have h : Builtin.Str.occurrences (S (a ++ [c] ++ b ++ [c] ++ d)) (S [c]) 0 (S (a ++ [c] ++ b ++ [c] ++ d)).length (limitOf (S (a ++ [c] ++ b ++ [c] ++ d)) 2) = [a.length, a.length + 1 + b.length] := by
    rw [show limitOf (S (a ++ [c] ++ b ++ [c] ++ d)) 2 = 2 from rfl, occ_scan]
    have e1 := scan_part (x := a ++ [c] ++ b ++ [c] ++ d) (a := a) (b := b ++ [c] ++ d) (c := c) (limit := 2) (pre := []) (cuts := #[]) (f := 0) (by simp) ha (by simp) (Nat.le_refl _) (b.length + 1 + (d.length + 1))
    have e2 := scan_part (x := a ++ [c] ++ b ++ [c] ++ d) (a := b) (b := d) (c := c) (limit := 2) (pre := a ++ [c]) (cuts := #[a.length]) (f := a.length + 1) (by simp) hb (by simp) (by simp) (d.length + 1)
    have e3 := scan_rest (x := a ++ [c] ++ b ++ [c] ++ d) (pre := a ++ [c] ++ b ++ [c]) (a := d) (c := c) (limit := 2) (st := (#[a.length, a.length + 1 + b.length], a.length + 1 + b.length + 1)) (by simp) (.inl (by simp)) (d.length + 1)
    simp only [List.length_nil, Nat.zero_add, List.length_append, List.length_singleton] at e1 e2 e3
    rw [show (a ++ [c] ++ b ++ [c] ++ d).length + 1 = a.length + 1 + (b.length + 1 + (d.length + 1)) by simp; lia, e1]
    have e4 : (#[] : Array Nat).push a.length = #[a.length] := rfl
    have e5 : (#[a.length] : Array Nat).push (a.length + 1 + b.length) = #[a.length, a.length + 1 + b.length] := rfl
    rw [e4, e2, e5, e3]
  rw [split_cuts (by simp) h (by simp)]
  simp only [List.map_cons, List.map_nil, List.cons_append, List.nil_append, List.zip_cons_cons, List.zip_nil_right, strSub_S]
  have t1 : List.take (a.length + 1 + b.length - (a.length + 1)) (List.drop (a.length + 1) (a ++ [c] ++ b ++ [c] ++ d)) = b := by
    rw [show a.length + 1 + b.length - (a.length + 1) = b.length by lia, show a ++ [c] ++ b ++ [c] ++ d = (a ++ [c]) ++ (b ++ ([c] ++ d)) by simp, List.drop_left' (by simp), List.take_left' rfl]
  have t2 : List.take ((a ++ [c] ++ b ++ [c] ++ d).length - (a.length + 1 + b.length + 1)) (List.drop (a.length + 1 + b.length + 1) (a ++ [c] ++ b ++ [c] ++ d)) = d := by
    rw [show a ++ [c] ++ b ++ [c] ++ d = (a ++ [c] ++ b ++ [c]) ++ d by simp, List.drop_left' (by simp; lia), List.take_of_length_le (by simp; lia)]
  rw [t1, t2]
  simp
theorem seqP_eq {g₁ g₂ : List Sl → Option (PF × List Sl)} {σ : List Sl} {r : Option (PF × List Sl)} (σ' : List Sl) (h : g₁ σ = some (.next, σ')) (h₂ : g₂ σ' = r) : seqP g₁ g₂ σ = r := by
  rw [seqP_next h]; exact h₂
theorem seqP_ret {g₁ g₂ : List Sl → Option (PF × List Sl)} {σ σ' : List Sl} {p : PV} (h : g₁ σ = some (.ret p, σ')) : seqP g₁ g₂ σ = some (.ret p, σ') := by unfold seqP; rw [h]; rfl
noncomputable def Ret (o : Option (PF × List Sl)) (r : PV) : Prop := ∃ σ', o = some (.ret r, σ')
theorem runP_ret {names : List (Str × NameKind)} {bn : List Str} {g : List Sl → Option (PF × List Sl)} {ps : List PV} {r : PV} (σ : List Sl) (hl : ps.length = bn.length) (hi : initSl names bn ps = σ) (h : Ret (g σ) r) : runP names bn g ps = some r := by
  unfold runP
  obtain ⟨σ', e⟩ := h
  rw [if_pos hl, hi, e]
theorem Ret.next {g₁ g₂ : List Sl → Option (PF × List Sl)} {σ : List Sl} {r : PV} (σ' : List Sl) (h : g₁ σ = some (.next, σ')) (h₂ : Ret (g₂ σ') r) : Ret (seqP g₁ g₂ σ) r := by
  unfold Ret; rw [seqP_next h]; exact h₂
theorem Ret.here {g₁ g₂ : List Sl → Option (PF × List Sl)} {σ : List Sl} {r : PV} (h : Ret (g₁ σ) r) : Ret (seqP g₁ g₂ σ) r := by
  obtain ⟨σ', e⟩ := h
  exact ⟨σ', seqP_ret e⟩
theorem Ret.of {o : Option (PF × List Sl)} {r : PV} {σ' : List Sl} (h : o = some (.ret r, σ')) : Ret o r := ⟨σ', h⟩
/-- a loop that keeps a relation -/
theorem forP_spec {α β : Type} {tp : Itm → List Sl → Option (List Sl)} {g gE : List Sl → Option (PF × List Sl)} {enc : β → Itm} (R : α → List β → List Sl → Prop) (step : α → β → α)
    (h : ∀ a b bs σ, R a (b :: bs) σ → ∃ σ₁ σ₂, tp (enc b) σ = some σ₁ ∧ (g σ₁ = some (.next, σ₂) ∨ g σ₁ = some (.cont, σ₂)) ∧ R (step a b) bs σ₂) :
    ∀ (bs : List β) (a : α) (σ : List Sl), R a bs σ → ∃ σ', forP tp g gE (bs.map enc) σ = gE σ' ∧ R (bs.foldl step a) [] σ'
  | [], a, σ, h0 => ⟨σ, rfl, h0⟩
  | b :: bs, a, σ, h0 => by
    obtain ⟨σ₁, σ₂, e₁, e₂, h2⟩ := h a b bs σ h0
    obtain ⟨σ', e, r⟩ := forP_spec (gE := gE) R step h bs (step a b) σ₂ h2
    refine ⟨σ', ?_, r⟩
    rw [← e]
    show (tp (enc b) σ).bind _ = _
    rw [e₁]
    show (g σ₁).bind _ = _
    rcases e₂ with e₂ | e₂ <;> (rw [e₂]; rfl)
theorem Ret.loop {α β : Type} {E : List Sl → Option (List Itm)} {tp : Itm → List Sl → Option (List Sl)} {g gE g₂ : List Sl → Option (PF × List Sl)} {enc : β → Itm} {bs : List β} {σ : List Sl} {r : PV} (hE : E σ = some (bs.map enc)) (R : α → List β → List Sl → Prop) (step : α → β → α)
    (a : α) (h0 : R a bs σ) (hgE : ∀ σ, gE σ = some (.next, σ)) (h : ∀ a b bs σ, R a (b :: bs) σ → ∃ σ₁ σ₂, tp (enc b) σ = some σ₁ ∧ (g σ₁ = some (.next, σ₂) ∨ g σ₁ = some (.cont, σ₂)) ∧ R (step a b) bs σ₂)
    (k : ∀ σ', R (bs.foldl step a) [] σ' → Ret (g₂ σ') r) : Ret (seqP (fun σ => (E σ).bind fun xs => forP tp g gE xs σ) g₂ σ) r := by
  obtain ⟨σ', e, hr⟩ := forP_spec (gE := gE) R step h bs a σ h0
  refine Ret.next σ' ?_ (k σ' hr)
  show (E σ).bind _ = _
  rw [hE, Option.bind_some, e, hgE]
/-- a loop that keeps a relation, without a step function -/
theorem forP_rel {β : Type} {tp : Itm → List Sl → Option (List Sl)} {g gE : List Sl → Option (PF × List Sl)} {enc : β → Itm} (R : List β → List Sl → Prop)
    (h : ∀ b bs σ, R (b :: bs) σ → ∃ σ₁ σ₂, tp (enc b) σ = some σ₁ ∧ (g σ₁ = some (.next, σ₂) ∨ g σ₁ = some (.cont, σ₂)) ∧ R bs σ₂) :
    ∀ (bs : List β) (σ : List Sl), R bs σ → ∃ σ', forP tp g gE (bs.map enc) σ = gE σ' ∧ R [] σ'
  | [], σ, h0 => ⟨σ, rfl, h0⟩
  | b :: bs, σ, h0 => by
    obtain ⟨σ₁, σ₂, e₁, e₂, h2⟩ := h b bs σ h0
    obtain ⟨σ', e, r⟩ := forP_rel (gE := gE) R h bs σ₂ h2
    refine ⟨σ', ?_, r⟩
    rw [← e]
    show (tp (enc b) σ).bind _ = _
    rw [e₁]
    show (g σ₁).bind _ = _
    rcases e₂ with e₂ | e₂ <;> (rw [e₂]; rfl)
theorem Ret.loopR {β : Type} {E : List Sl → Option (List Itm)} {tp : Itm → List Sl → Option (List Sl)} {g gE g₂ : List Sl → Option (PF × List Sl)} {enc : β → Itm} {bs : List β} {σ : List Sl} {r : PV} (hE : E σ = some (bs.map enc)) (R : List β → List Sl → Prop)
    (h0 : R bs σ) (hgE : ∀ σ, gE σ = some (.next, σ)) (h : ∀ b bs σ, R (b :: bs) σ → ∃ σ₁ σ₂, tp (enc b) σ = some σ₁ ∧ (g σ₁ = some (.next, σ₂) ∨ g σ₁ = some (.cont, σ₂)) ∧ R bs σ₂)
    (k : ∀ σ', R [] σ' → Ret (g₂ σ') r) : Ret (seqP (fun σ => (E σ).bind fun xs => forP tp g gE xs σ) g₂ σ) r := by
  obtain ⟨σ', e, hr⟩ := forP_rel (gE := gE) R h bs σ h0
  refine Ret.next σ' ?_ (k σ' hr)
  show (E σ).bind _ = _
  rw [hE, Option.bind_some, e, hgE]
theorem compP_map {β : Type} {tp : Itm → List Sl → Option (List Sl)} {ft : List Sl → Option Bool} {f : List Sl → Option PV} {enc : β → Itm} (out : β → PV) (R : List Sl → Prop)
    (h : ∀ b σ, R σ → ∃ σ₁, tp (enc b) σ = some σ₁ ∧ ft σ₁ = some true ∧ f σ₁ = some (out b) ∧ R σ₁) :
    ∀ (bs : List β) (ps : List PV) (σ : List Sl), R σ → ps.length + bs.length ≤ LIM → ∃ σ', compP tp ft (emitP f) (bs.map enc) ps σ = some (ps ++ bs.map out, σ') ∧ R σ'
  | [], ps, σ, h0, _ => ⟨σ, by simp [compP], h0⟩
  | b :: bs, ps, σ, h0, hl => by
    obtain ⟨σ₁, e1, e2, e3, e4⟩ := h b σ h0
    obtain ⟨σ', e, r⟩ := compP_map out R h bs (ps ++ [out b]) σ₁ e4 (by simp at hl ⊢; omega)
    refine ⟨σ', ?_, r⟩
    rw [List.map_cons, compP, e1, Option.bind_some, e2, Option.bind_some, if_pos rfl, emitP, if_pos (by simp at hl; omega), e3, Option.map_some, Option.bind_some, e]
    simp
theorem comp_eq {β : Type} {tp : Itm → List Sl → Option (List Sl)} {ft : List Sl → Option Bool} {f : List Sl → Option PV} {enc : β → Itm} {bs : List β} {σ : List Sl} (out : β → PV) (R : List Sl → Prop)
    (h : ∀ b σ, R σ → ∃ σ₁, tp (enc b) σ = some σ₁ ∧ ft σ₁ = some true ∧ f σ₁ = some (out b) ∧ R σ₁) (h0 : R σ) (hl : bs.length ≤ LIM) :
    Option.map (fun r : List PV × List Sl => PV.lst r.1) (compP tp ft (emitP f) (bs.map enc) [] σ) = some (.lst (bs.map out)) := by
  obtain ⟨σ', e, -⟩ := compP_map out R h bs [] σ h0 (by simpa using hl)
  rw [e]; rfl
theorem cs_quote : (Str.ofString "\"").cps.toList = [34] := by kernel_rfl
theorem cs_back : (Str.ofString "\\").cps.toList = [92] := by kernel_rfl
theorem cs_back2 : (Str.ofString "\\\\").cps.toList = [92, 92] := by kernel_rfl
theorem cs_backq : (Str.ofString "\\\"").cps.toList = [92, 34] := by kernel_rfl
theorem cs_comma : (Str.ofString ",").cps.toList = [44] := by kernel_rfl
theorem cs_r : (Str.ofString "r").cps.toList = [114] := by kernel_rfl
theorem cs_xst : (Str.ofString "xst").cps.toList = [120, 115, 116] := by kernel_rfl
theorem cs_emp : (Str.ofString "").cps.toList = [] := by kernel_rfl
theorem cs_open : (Str.ofString "(").cps.toList = [40] := by kernel_rfl
theorem cs_close : (Str.ofString ")").cps.toList = [41] := by kernel_rfl
theorem cs_ocm : (Str.ofString "(),").cps.toList = [40, 41, 44] := by kernel_rfl
theorem cs_tick : (Str.ofString "'").cps.toList = [39] := by kernel_rfl
theorem X0 (p : PV) (σ : List Sl) : getS 0 (.pv p :: σ) = some p := rfl
theorem X1 (i : Nat) (x : Sl) (σ : List Sl) : getS (i + 1) (x :: σ) = getS i σ := rfl
theorem X2 (p : List PV) (σ : List Sl) : getO 0 (.own p :: σ) = some p := rfl
theorem X3 (i : Nat) (x : Sl) (σ : List Sl) : getO (i + 1) (x :: σ) = getO i σ := rfl
theorem X4 (p : PV) (σ : List Sl) : getB 0 (.pv p :: σ) = some p := rfl
theorem X5 (p : List PV) (σ : List Sl) : getB 0 (.own p :: σ) = some (.lst p) := rfl
theorem X6 (i : Nat) (x : Sl) (σ : List Sl) : getB (i + 1) (x :: σ) = getB i σ := rfl
theorem X7 (p : PV) (x : Sl) (σ : List Sl) : setS 0 p (x :: σ) = some (.pv p :: σ) := rfl
theorem X8 (i : Nat) (p : PV) (x : Sl) (σ : List Sl) : setS (i + 1) p (x :: σ) = (setS i p σ).map (x :: ·) := rfl
theorem Xd (a b : Int) : binP .Add (.int a) (.int b) = some (.int (a + b)) := rfl
theorem Xe (a b : Int) : binP .Sub (.int a) (.int b) = some (.int (a - b)) := rfl
theorem Xf (a b : Int) : inP .Add (.int a) (.int b) = some (.int (a + b)) := rfl
theorem Xg (a b : Int) : inP .Sub (.int a) (.int b) = some (.int (a - b)) := rfl
theorem Xh (a b : Int) : cmpP .Lt (.int a) (.int b) = some (decide (a < b)) := rfl
theorem Xi (a b : Int) : cmpP .LtE (.int a) (.int b) = some (decide (a ≤ b)) := rfl
theorem Xj (a b : Int) : cmpP .Gt (.int a) (.int b) = some (decide (b < a)) := rfl
theorem Xk (a b : Int) : cmpP .GtE (.int a) (.int b) = some (decide (b ≤ a)) := rfl
theorem Xl (a b : Int) : cmpP .Eq (.int a) (.int b) = some (a == b) := rfl
theorem Xm (a b : Int) : cmpP .NotEq (.int a) (.int b) = some (!(a == b)) := rfl
theorem Xn (a b : List Nat) : cmpP .Eq (.str a) (.str b) = some (a == b) := rfl
theorem Xo (a b : List Nat) : cmpP .NotEq (.str a) (.str b) = some (!(a == b)) := rfl
theorem Xp (a b : PV) : cmpP .Is a b = isP a b := rfl
theorem Xr (a b : List Nat) : cmpP .In (.str a) (.str b) = some (Txt.contains (S b) (S a)) := rfl
theorem Xs (a b : List Nat) : cmpP .NotIn (.str a) (.str b) = some (!Txt.contains (S b) (S a)) := rfl
theorem Xt (a b : String) : isP (.ty a) (.ty b) = some (a == b) := rfl
theorem Xu (a b : Bool) : isP (.bool a) (.bool b) = some (a == b) := rfl
theorem Xv : isP .none .none = some true := rfl
theorem Xx (b : Int) : isP (.int b) .none = some false := rfl
theorem Xy (a : Int) : truthP (.int a) = some (a != 0) := rfl
theorem Xz (a : Bool) : truthP (.bool a) = some a := rfl
theorem X11 (a : Int) : unP .USub (.int a) = some (.int (-a)) := rfl
theorem X12 (p : PV) : unP .Not p = (truthP p).map fun b => .bool (!b) := rfl
theorem X13 (i : Int) : partP (.int i) = some (some i) := rfl
theorem X14 : partP .none = some none := rfl
theorem X15 (l : List PV) : itemsP (.lst l) = some (l.map .one) := rfl
theorem X17 (l : List Nat) : tyOf (.str l) = some "str" := rfl
theorem X19 (l : List PV) : frz (.own l) = .pv (.lst l) := rfl
theorem X1a (p : PV) : frz (.pv p) = .pv p := rfl
theorem X1b : frz .un = .un := rfl
theorem cs : (Str.ofString "\"").cps.toList = [34] ∧ (Str.ofString "\\").cps.toList = [92] ∧ (Str.ofString "\\\\").cps.toList = [92, 92] ∧ (Str.ofString "\\\"").cps.toList = [92, 34] ∧ (Str.ofString ",").cps.toList = [44] ∧
    (Str.ofString "r").cps.toList = [114] ∧ (Str.ofString "xst").cps.toList = [120, 115, 116] ∧ (Str.ofString "").cps.toList = [] ∧ (Str.ofString "(").cps.toList = [40] ∧ (Str.ofString ")").cps.toList = [41] ∧ (Str.ofString "(),").cps.toList = [40, 41, 44] ∧ (Str.ofString "'").cps.toList = [39] :=
  ⟨cs_quote, cs_back, cs_back2, cs_backq, cs_comma, cs_r, cs_xst, cs_emp, cs_open, cs_close, cs_ocm, cs_tick⟩
theorem frzS_nil : frzS [] = [] := rfl
theorem frzS_cons (x : Sl) (σ : List Sl) : frzS (x :: σ) = frz x :: frzS σ := rfl
theorem be {α β : Type} {o : Option α} {v : α} {k : α → Option β} {r : Option β} (h : o = some v) (h2 : k v = r) : o.bind k = r := by subst h; exact h2
theorem me {α β : Type} {o : Option α} {v : α} {f : α → β} {r : Option β} (h : o = some v) (h2 : some (f v) = r) : o.map f = r := by subst h; exact h2
/-- the pieces of a text, each with its place -/
noncomputable def items : Nat → List Nat → List (Nat × List Nat)
  | _, [] => []
  | i, [c] => [(i, [c])]
  | i, c :: d :: r => if c = 92 then (i + 1, [92, d]) :: items (i + 2) r else (i, [c]) :: items (i + 1) (d :: r)
noncomputable abbrev encI (x : Nat × List Nat) : Itm := .two (.int (x.1 : Int)) (.str x.2)
theorem items_cons (i c d : Nat) (r : List Nat) : items i (c :: d :: r) = if c = 92 then (i + 1, [92, d]) :: items (i + 2) r else (i, [c]) :: items (i + 1) (d :: r) := rfl
noncomputable def I0 (A e : PV) (p c : Sl) : List Sl := [.pv A, p, .pv e, c, .un]
theorem I0_flat {a : List Nat} {e : Bool} {p c : Sl} (hp : flatB p = true) (hc : flatB c = true) : (I0 (.str a) (.bool e) p c).all flatB = true := by
  show (flatB _ && (flatB p && (flatB _ && (flatB c && (flatB .un && true))))) = true
  rw [hp, hc]; rfl
theorem gen_spec {tp : Itm → List Sl → Option (List Sl)} {g gR : List Sl → Option (Option Itm × List Sl)} {a : List Nat}
    (h1 : ∀ (i c : Nat) (e : Bool) (p ch : Sl), tp (.two (.int (i : Int)) (.str [c])) (I0 (.str a) (.bool e) p ch) = some (I0 (.str a) (.bool e) (.pv (.int (i : Int))) (.pv (.str [c]))))
    (h2 : ∀ i c : Nat, g (I0 (.str a) (.bool true) (.pv (.int (i : Int))) (.pv (.str [c]))) = some (some (encI (i, [92, c])), I0 (.str a) (.bool false) (.pv (.int (i : Int))) (.pv (.str [c]))))
    (h3 : ∀ i : Nat, g (I0 (.str a) (.bool false) (.pv (.int (i : Int))) (.pv (.str [92]))) = some (none, I0 (.str a) (.bool true) (.pv (.int (i : Int))) (.pv (.str [92]))))
    (h4 : ∀ i c : Nat, c ≠ 92 → g (I0 (.str a) (.bool false) (.pv (.int (i : Int))) (.pv (.str [c]))) = some (some (encI (i, [c])), I0 (.str a) (.bool false) (.pv (.int (i : Int))) (.pv (.str [c]))))
    (h5 : ∀ (i : Nat) (ch : Sl), ∃ σ, gR (I0 (.str a) (.bool true) (.pv (.int (i : Int))) ch) = some (some (encI (i, [92])), σ))
    (h6 : ∀ (p ch : Sl), ∃ σ, gR (I0 (.str a) (.bool false) p ch) = some (none, σ)) :
    ∀ (n : Nat) (cs : List Nat), cs.length ≤ n → ∀ (i : Nat) (p ch : Sl), flatB p = true → flatB ch = true → ∃ ys σ q σ', genP tp g i cs (I0 (.str a) (.bool false) p ch) = some (ys, σ) ∧ σ.all flatB = true ∧ gR σ = some (q, σ') ∧ ys ++ q.toList = (items i cs).map encI := by
  intro n
  induction n with
  | zero =>
    intro cs hl i p ch hp hc
    obtain rfl : cs = [] := List.length_eq_zero_iff.mp (by lia)
    obtain ⟨σ', e⟩ := h6 p ch
    exact ⟨[], _, none, σ', rfl, I0_flat hp hc, e, rfl⟩
  | succ n ih =>
    intro cs hl i p ch hp hc
    have step : ∀ (e : Bool) (c : Nat) (r : List Nat) (y : Option Itm) (e' : Bool) (p ch : Sl), flatB p = true → flatB ch = true → g (I0 (.str a) (.bool e) (.pv (.int (i : Int))) (.pv (.str [c]))) = some (y, I0 (.str a) (.bool e') (.pv (.int (i : Int))) (.pv (.str [c]))) →
        genP tp g i (c :: r) (I0 (.str a) (.bool e) p ch) = (genP tp g (i + 1) r (I0 (.str a) (.bool e') (.pv (.int (i : Int))) (.pv (.str [c])))).map fun q => (y.toList ++ q.1, q.2) := by
      intro e c r y e' p ch hp hc hg
      show (tp _ _).bind _ = _
      rw [h1, Option.bind_some, if_pos (I0_flat rfl rfl), hg, Option.bind_some, if_pos (I0_flat rfl rfl)]
    cases cs with
    | nil =>
      obtain ⟨σ', e⟩ := h6 p ch
      exact ⟨[], _, none, σ', rfl, I0_flat hp hc, e, rfl⟩
    | cons c r =>
      by_cases h92 : c = 92
      · subst h92
        cases r with
        | nil =>
          obtain ⟨σ', e⟩ := h5 i (.pv (.str [92]))
          refine ⟨[], _, _, σ', by rw [step false 92 [] none true p ch hp hc (h3 i)]; rfl, I0_flat rfl rfl, e, rfl⟩
        | cons d r =>
          obtain ⟨ys, σ, q, σ', e1, e2, e3, e4⟩ := ih r (by simp at hl; lia) (i + 2) (.pv (.int ((i + 1 : Nat) : Int))) (.pv (.str [d])) rfl rfl
          refine ⟨encI (i + 1, [92, d]) :: ys, σ, q, σ', ?_, e2, e3, ?_⟩
          · rw [step false 92 (d :: r) none true p ch hp hc (h3 i)]
            show Option.map _ ((tp _ _).bind _) = _
            rw [h1, Option.bind_some, if_pos (I0_flat rfl rfl), h2, Option.bind_some, if_pos (I0_flat rfl rfl)]
            show Option.map _ (Option.map _ (genP tp g (i + 2) r _)) = _
            rw [e1]; rfl
          · rw [items_cons, if_pos rfl, List.map_cons, ← e4]; rfl
      · obtain ⟨ys, σ, q, σ', e1, e2, e3, e4⟩ := ih r (by simp at hl; lia) (i + 1) (.pv (.int (i : Int))) (.pv (.str [c])) rfl rfl
        refine ⟨encI (i, [c]) :: ys, σ, q, σ', ?_, e2, e3, ?_⟩
        · rw [step false c r _ false p ch hp hc (h4 i c h92), e1]; rfl
        · cases r with
          | nil => show _ = [encI (i, [c])]; rw [List.cons_append, e4]; rfl
          | cons d r => rw [items_cons, if_neg h92, List.map_cons, ← e4]; rfl
theorem genItems_eq {names : List (Str × NameKind)} {y : Str} {z₁ z₂ : List Sl → Option (List Sl)} {tp : Itm → List Sl → Option (List Sl)} {g gR : List Sl → Option (Option Itm × List Sl)} {l : List Nat} {σ₀ σ₁ σ₂ σ₃ σ₄ : List Sl} {iy : Nat} {ys r : List Itm} {q : Option Itm}
    (h0 : initSl names [y] [.str l] = σ₀) (f0 : σ₀.all flatB = true) (h1 : z₁ σ₀ = some σ₁) (h2 : z₂ σ₁ = some σ₂) (f2 : σ₂.all flatB = true) (hn : nameAt names y = some (iy, .local)) (hy : getS iy σ₂ = some (.str l))
    (h3 : genP tp g 0 l σ₂ = some (ys, σ₃)) (f3 : σ₃.all flatB = true) (h4 : gR σ₃ = some (q, σ₄)) (hr : ys ++ q.toList = r) (hf : r.all flatI = true) : genItems names y z₁ z₂ tp g gR [.str l] = some r := by
  unfold genItems
  simp only [h0, f0, h1, h2, f2, hn, hy, h3, Option.bind_some, if_true, genEnd, f3, h4, hr, hf]
theorem gen_all {names : List (Str × NameKind)} {y : Str} {z₁ z₂ : List Sl → Option (List Sl)} {tp : Itm → List Sl → Option (List Sl)} {g gR : List Sl → Option (Option Itm × List Sl)} {l : List Nat}
    (hi : initSl names [y] [.str l] = [.pv (.str l), .un, .un, .un, .un]) (hn : nameAt names y = some (0, .local)) (z1 : z₁ [.pv (.str l), .un, .un, .un, .un] = some [.pv (.str l), .pv (.int 0), .un, .un, .un]) (z2 : z₂ [.pv (.str l), .pv (.int 0), .un, .un, .un] = some (I0 (.str l) (.bool false) (.pv (.int 0)) .un))
    (h1 : ∀ (i c : Nat) (e : Bool) (p ch : Sl), tp (.two (.int (i : Int)) (.str [c])) (I0 (.str l) (.bool e) p ch) = some (I0 (.str l) (.bool e) (.pv (.int (i : Int))) (.pv (.str [c]))))
    (h2 : ∀ i c : Nat, g (I0 (.str l) (.bool true) (.pv (.int (i : Int))) (.pv (.str [c]))) = some (some (encI (i, [92, c])), I0 (.str l) (.bool false) (.pv (.int (i : Int))) (.pv (.str [c]))))
    (h3 : ∀ i : Nat, g (I0 (.str l) (.bool false) (.pv (.int (i : Int))) (.pv (.str [92]))) = some (none, I0 (.str l) (.bool true) (.pv (.int (i : Int))) (.pv (.str [92]))))
    (h4 : ∀ i c : Nat, c ≠ 92 → g (I0 (.str l) (.bool false) (.pv (.int (i : Int))) (.pv (.str [c]))) = some (some (encI (i, [c])), I0 (.str l) (.bool false) (.pv (.int (i : Int))) (.pv (.str [c]))))
    (h5 : ∀ (i : Nat) (ch : Sl), ∃ σ, gR (I0 (.str l) (.bool true) (.pv (.int (i : Int))) ch) = some (some (encI (i, [92])), σ))
    (h6 : ∀ (p ch : Sl), ∃ σ, gR (I0 (.str l) (.bool false) p ch) = some (none, σ)) : genItems names y z₁ z₂ tp g gR [.str l] = some ((items 0 l).map encI) := by
  obtain ⟨ys, σ, q, σ', e1, e2, e3, e4⟩ := gen_spec h1 h2 h3 h4 h5 h6 l.length l (Nat.le_refl _) 0 (.pv (.int 0)) .un rfl rfl
  refine genItems_eq hi rfl z1 z2 rfl hn rfl e1 e2 e3 e4 ?_
  rw [List.all_map, List.all_eq_true]
  exact fun Z Z => rfl
theorem CI.genS {prog : Program} {w : World} {hb : Heap} {sc : Scope} {fa : Addr} {fd : FuncData} {elts : List Expr} {k : Nat} {tpos xp yp cpos fpos : Pos} {x y : Str} {st₁ st₂ : Stmt} {b rest : List Stmt} {z₁ z₂ : List Sl → Option (List Sl)} {tp : Itm → List Sl → Option (List Sl)} {g gR : List Sl → Option (Option Itm × List Sl)} (hs : fd.scope = sc)
    (ok : FnOk hb fa fd (st₁ :: st₂ :: .For (.Tuple elts k tpos) (.Call (.Name x xp) [.Name y yp] [] cpos) b [] fpos :: rest) [y])
    (h₁ : XZ prog w hb sc st₁ z₁) (h₂ : XZ prog w hb sc st₂ z₂) (hT : LT prog w hb sc (.Tuple elts k tpos) tp) (hB : GB prog w hb sc b g) (hR : GB prog w hb sc rest gR)
    (hx : sc.names.lookup x = some .globalImplicit) (hgx : GlobIs hb x (.type "enumerate"))
    (hbind : ∀ v : Value, bindArgs fd ⟨[v], []⟩ = pure [(y, v)]) (hcell : ∀ z ∈ sc.names, z.2 ≠ .cell)
    (hco : sc.isCoroutine = false) (hgen : sc.isGenerator = true) (hdx : (x == ("__debug__" : Str)) = false) (hdy : (y == ("__debug__" : Str)) = false)
    (hset : ∀ env x', foldedSetIterable (.Call (.Name x xp) [.Name y yp] [] cpos) env x' = pure x') :
    ∀ t, CI prog w hb 2 t (.ref fa) (genItems sc.names y z₁ z₂ tp g gR) := by
  intro t
  subst hs
  exact CI.gen (lv := 0) ok h₁ h₂ hT hB hR hx hgx hbind hcell hco hgen hdx hdy hset
theorem run3 {prog : Program} {w : World} {hb : Heap} {fa : Addr} {fd : FuncData} (hs : fd.scope = fnScope (nth 3)) (ok : FnOk hb fa fd (fnBody (nth 3)) [("addr" : Str)]) (hgx : GlobIs hb "enumerate" (.type "enumerate"))
    (hbind : ∀ v : Value, bindArgs fd ⟨[v], []⟩ = pure [(("addr" : Str), v)]) : ∃ pf, (∀ t, CI prog w hb 2 t (.ref fa) pf) ∧ ∀ l, pf [.str l] = some ((items 0 l).map encI) := by
  conv at ok in (fnBody _) => whnf
  conv at hs in (fnScope _) => whnf
  refine' ⟨_, ?w, ?p⟩; rotate_left
  with_reducible
   refine' CI.genS hs ok ?_ ?_ ?_ ?_ ?_ (by kernel_rfl) hgx hbind (by decide) (by kernel_rfl) (by kernel_rfl) (by decide) (by decide) (fun Z Z => by kernel_rfl); rotate_left 5; refine' XZ.int (i := 1) (by kernel_rfl); refine' XZ.bool (i := 2) (by kernel_rfl); refine' LT.many ?_ (fun Z => by kernel_rfl) (fun Z => by kernel_rfl); rotate_left
   refine' LGs.cons ?_ ?_ (fun Z => by kernel_rfl); rotate_left 2; refine' LG.loc (i := 1) (by kernel_rfl); refine' LGs.cons ?_ ?_ (fun Z => by kernel_rfl); rotate_left 2; refine' LG.loc (i := 3) (by kernel_rfl); refine' LGs.nil; refine' GB.ite ?_ ?_ ?_; rotate_left 3; refine' XT.val ?_ (fun Z Z => by kernel_rfl); rotate_left; refine' XE.lo 2; refine' GB.yield ?_ ?_ (by kernel_rfl); rotate_left 2
   refine' XE.tup ?_ (by decide); rotate_left; refine' XEs.co ?_ ?_; rotate_left 2; refine' XE.lo 1; refine' XEs.co ?_ ?_; rotate_left 2; refine' XE.bin ?_ ?_; rotate_left 2; refine' XE.str; refine' XE.lo 3; refine' XEs.nil; refine' XSs.cons ?_ ?_; rotate_left 2; refine' XS.set 2 ?_; rotate_left; refine' XE.bool; refine' XSs.nil; refine' GB.ite ?_ ?_ ?_; rotate_left 3
   refine' XT.cmp ?_ ?_ (by kernel_rfl); rotate_left 2; refine' XE.lo 3; refine' XE.str; refine' GB.plain ?_; rotate_left; refine' XSs.cons ?_ ?_; rotate_left 2; refine' XS.set 2 ?_; rotate_left; refine' XE.bool; refine' XSs.nil; refine' GB.yield ?_ ?_ (by kernel_rfl); rotate_left 2; refine' XE.tup ?_ (by decide); rotate_left; refine' XEs.co ?_ ?_; rotate_left 2; refine' XE.lo 1
   refine' XEs.co ?_ ?_; rotate_left 2; refine' XE.lo 3; refine' XEs.nil; refine' XSs.nil; refine' GB.ite ?_ ?_ ?_; rotate_left 3; refine' XT.val ?_ (fun Z Z => by kernel_rfl); rotate_left; refine' XE.lo 2; refine' GB.yield ?_ ?_ (by kernel_rfl); rotate_left 2; refine' XE.tup ?_ (by decide); rotate_left; refine' XEs.co ?_ ?_; rotate_left 2; refine' XE.lo 1; refine' XEs.co ?_ ?_; rotate_left 2
   refine' XE.str; refine' XEs.nil; refine' XSs.nil; refine' GB.plain ?_; rotate_left; refine' XSs.nil
  case p =>
    intro l
    refine gen_all (by kernel_rfl) (by kernel_rfl) rfl rfl ?_ ?_ ?_ ?_ ?_ ?_
    · intro i c e p ch; rfl
    · intro i c; rfl
    · intro i; rfl
    · intro i c hc
      have : (c == 92) = false := by simpa using hc
      simp [I0, X0, X1, Xn, Xz, cs, yieldG, this, encI]
    · intro i ch; exact ⟨_, rfl⟩
    · intro p ch; exact ⟨_, rfl⟩
theorem items_split (i c : Nat) (l : List Nat) : ∃ t r, c :: l = t ++ r ∧ t ≠ [] ∧ items i (c :: l) = (i + t.length - 1, t) :: items (i + t.length) r ∧ (t = [c] ∨ ∃ d, t = [92, d]) := by
  cases l with
  | nil => exact ⟨[c], [], rfl, by simp, rfl, .inl rfl⟩
  | cons d r =>
    by_cases h : c = 92
    · refine ⟨[92, d], r, by rw [h]; rfl, by simp, ?_, .inr ⟨d, rfl⟩⟩
      rw [items_cons, if_pos h]; rfl
    · refine ⟨[c], d :: r, rfl, by simp, ?_, .inl rfl⟩
      rw [items_cons, if_neg h]; rfl
theorem items_nil {i : Nat} {l : List Nat} (h : items i l = []) : l = [] := by
  cases l with
  | nil => rfl
  | cons c l =>
    obtain ⟨t, r, Z, Z, e, Z⟩ := items_split i c l
    rw [h] at e; cases e
/-- the next piece -/
theorem items_next {i : Nat} {l : List Nat} {b : Nat × List Nat} {bs : List (Nat × List Nat)} (h : b :: bs = items i l) : ∃ t r, l = t ++ r ∧ 1 ≤ t.length ∧ t.length ≤ 2 ∧ b = (i + t.length - 1, t) ∧ bs = items (i + t.length) r := by
  cases l with
  | nil => cases h
  | cons c l =>
    obtain ⟨t, r, e, hne, e2, ht⟩ := items_split i c l
    rw [e2] at h
    cases h
    refine ⟨t, r, e, List.length_pos_iff.mpr hne, ?_, rfl, rfl⟩
    rcases ht with rfl | ⟨d, rfl⟩ <;> simp
noncomputable def toks (l : List Nat) : List (List Nat) := (items 0 l).map (·.2)
theorem toks_at : ∀ (n : Nat) (l : List Nat), l.length ≤ n → ∀ i, (items i l).map (·.2) = toks l := by
  intro n
  induction n with
  | zero => intro l hl i; rw [List.length_eq_zero_iff.mp (Nat.le_zero.mp hl)]; rfl
  | succ n ih =>
    intro l hl i
    unfold toks
    match l with
    | [] => rfl
    | [c] => rfl
    | c :: d :: r =>
      simp only [List.length_cons] at hl
      by_cases h : c = 92
      · rw [items_cons, items_cons, if_pos h, if_pos h, List.map_cons, List.map_cons, ih r (by lia), ih r (by lia)]
      · rw [items_cons, items_cons, if_neg h, if_neg h, List.map_cons, List.map_cons, ih (d :: r) (by simp; lia), ih (d :: r) (by simp; lia)]
theorem toks_items (i : Nat) (l : List Nat) : (items i l).map (·.2) = toks l := toks_at l.length l (Nat.le_refl _) i
theorem toks_one (c : Nat) : toks [c] = [[c]] := rfl
theorem toks_nil : toks [] = [] := rfl
theorem toks_esc (d : Nat) (r : List Nat) : toks (92 :: d :: r) = [92, d] :: toks r := by
  unfold toks
  rw [items_cons, if_pos rfl, List.map_cons, toks_items, toks_items]
theorem toks_plain {c : Nat} (h : c ≠ 92) (r : List Nat) : toks (c :: r) = [c] :: toks r := by
  cases r with
  | nil => rfl
  | cons d r =>
    unfold toks
    rw [items_cons, if_neg h, List.map_cons, toks_items, toks_items]
/-- a piece that is whole -/
noncomputable def Whole (t : List Nat) : Prop := (∃ c, c ≠ 92 ∧ t = [c]) ∨ ∃ d, t = [92, d]
theorem toks_whole {t : List Nat} (h : Whole t) (r : List Nat) : toks (t ++ r) = t :: toks r := by
  rcases h with ⟨c, hc, rfl⟩ | ⟨d, rfl⟩
  · exact toks_plain hc r
  · exact toks_esc d r
theorem toks_flat {ts : List (List Nat)} (h : ∀ t ∈ ts, Whole t) (r : List Nat) : toks (ts.flatten ++ r) = ts ++ toks r := by
  induction ts with
  | nil => rfl
  | cons t ts ih =>
    rw [List.flatten_cons, List.append_assoc, toks_whole (h t (List.mem_cons_self ..)), ih fun t ht => h t (List.mem_cons_of_mem _ ht)]; rfl
theorem flat_toks : ∀ (n : Nat) (l : List Nat), l.length ≤ n → (toks l).flatten = l := by
  intro n
  induction n with
  | zero => intro l hl; rw [List.length_eq_zero_iff.mp (Nat.le_zero.mp hl)]; rfl
  | succ n ih =>
    intro l hl
    match l with
    | [] => rfl
    | [c] => rfl
    | c :: d :: r =>
      simp only [List.length_cons] at hl
      by_cases h : c = 92
      · subst h; rw [toks_esc, List.flatten_cons, ih r (by lia)]; rfl
      · rw [toks_plain h, List.flatten_cons, ih (d :: r) (by simp; lia)]; rfl
theorem toks_flatten (l : List Nat) : (toks l).flatten = l := flat_toks l.length l (Nat.le_refl _)
mutual
noncomputable def outT : List (List Nat) → List Nat
  | [] => []
  | t :: ts => if t = [34] then inT [34] ts else t ++ outT ts
noncomputable def inT : List Nat → List (List Nat) → List Nat
  | acc, [] => acc
  | acc, t :: ts => if t = [34] then outT ts else inT (acc ++ t) ts
end
noncomputable def strip (l : List Nat) : List Nat := outT (toks l)
structure A4 where
  st : Nat
  op : Option Nat
  res : List (List Nat)
noncomputable def step4 (l : List Nat) (a : A4) (b : Nat × List Nat) : A4 :=
  if b.2 = [34] then match a.op with
    | none => ⟨a.st, some b.1, a.res⟩
    | some o => ⟨b.1 + 1, none, if a.st = o then a.res else a.res ++ [(l.drop a.st).take (o - a.st)]⟩
  else a
theorem step4_inv {l t : List Nat} {a : A4} {i : Nat} (ht : 1 ≤ t.length) (hlen : i + t.length ≤ l.length) (h1 : a.st ≤ i) (h3 : ∀ o, a.op = some o → a.st ≤ o ∧ o < i) (h4 : a.res.length ≤ i) (h5 : a.res.flatten.length ≤ a.st) :
    (step4 l a (i + t.length - 1, t)).st ≤ i + t.length ∧ (∀ o, (step4 l a (i + t.length - 1, t)).op = some o → (step4 l a (i + t.length - 1, t)).st ≤ o ∧ o < i + t.length) ∧ (step4 l a (i + t.length - 1, t)).res.length ≤ i + t.length ∧
      (step4 l a (i + t.length - 1, t)).res.flatten.length ≤ (step4 l a (i + t.length - 1, t)).st := by
  by_cases hq : t = [34]
  · have htl : t.length = 1 := by rw [hq]; rfl
    rcases hop : a.op with _ | o
    · have : step4 l a (i + t.length - 1, t) = ⟨a.st, some (i + t.length - 1), a.res⟩ := by unfold step4; rw [if_pos hq, hop]
      rw [this]
      exact ⟨by show a.st ≤ _; lia, fun o ho => by cases ho; exact ⟨by show a.st ≤ _; lia, by lia⟩, by show a.res.length ≤ _; lia, h5⟩
    · obtain ⟨h6, h7⟩ := h3 o hop
      have : step4 l a (i + t.length - 1, t) = ⟨i + t.length - 1 + 1, none, if a.st = o then a.res else a.res ++ [(l.drop a.st).take (o - a.st)]⟩ := by unfold step4; rw [if_pos hq, hop]
      rw [this]
      refine ⟨by show i + t.length - 1 + 1 ≤ _; lia, fun o ho => (by cases ho), ?_, ?_⟩
      · show (if a.st = o then a.res else _).length ≤ _
        split
        · lia
        · simp; lia
      · show (if a.st = o then a.res else _).flatten.length ≤ i + t.length - 1 + 1
        split
        · lia
        · rw [List.flatten_append, List.length_append]; simp; simp at h5; lia
  · have : step4 l a (i + t.length - 1, t) = a := by unfold step4; rw [if_neg hq]
    rw [this]
    exact ⟨by lia, fun o ho => ⟨(h3 o ho).1, by have := (h3 o ho).2; lia⟩, by lia, h5⟩
theorem take_drop_app {l : List Nat} {a b c : Nat} (h1 : a ≤ b) (h2 : b ≤ c) : (l.drop a).take (c - a) = (l.drop a).take (b - a) ++ (l.drop b).take (c - b) := by
  rw [show c - a = (b - a) + (c - b) by lia, List.take_add, List.drop_drop, show a + (b - a) = b by lia]
theorem drop_app {l : List Nat} {a b : Nat} (h1 : a ≤ b) : l.drop a = (l.drop a).take (b - a) ++ l.drop b := by
  conv => lhs; rw [← List.take_append_drop (b - a) (l.drop a)]
  rw [List.drop_drop, show a + (b - a) = b by lia]
theorem strip_fold (l : List Nat) : ∀ (n : Nat) (i : Nat) (a : A4), l.length - i ≤ n → a.st ≤ i → i ≤ l.length → (∀ o, a.op = some o → a.st ≤ o ∧ o < i) →
    ((items i (l.drop i)).foldl (step4 l) a).res.flatten ++ l.drop ((items i (l.drop i)).foldl (step4 l) a).st =
      match a.op with
      | none => a.res.flatten ++ (l.drop a.st).take (i - a.st) ++ outT (toks (l.drop i))
      | some o => a.res.flatten ++ (l.drop a.st).take (o - a.st) ++ inT ((l.drop o).take (i - o)) (toks (l.drop i)) := by
  intro n
  induction n with
  | zero =>
    intro i a hn h1 h2 h3
    have : i = l.length := by lia
    subst this
    rw [List.drop_length]
    show a.res.flatten ++ l.drop a.st = _
    rw [toks_nil]
    rcases hop : a.op with _ | o
    · show _ = a.res.flatten ++ _ ++ []
      rw [List.append_nil, List.take_of_length_le (by simp)]
    · show _ = a.res.flatten ++ _ ++ (l.drop o).take _
      obtain ⟨h4, h5⟩ := h3 o hop
      rw [List.take_of_length_le (l := l.drop o) (by simp), List.append_assoc, ← drop_app h4]
  | succ n ih =>
    intro i a hn h1 h2 h3
    by_cases hi : i = l.length
    · exact ih i a (by lia) h1 h2 h3
    cases hd : items i (l.drop i) with
    | nil =>
      have := items_nil hd
      have := congrArg List.length this
      simp at this; lia
    | cons b bs =>
      obtain ⟨t, r, e, ht1, ht2, rfl, rfl⟩ := items_next hd.symm
      have hlen : i + t.length ≤ l.length := by have := congrArg List.length e; simp at this; lia
      have er : l.drop (i + t.length) = r := by rw [← List.drop_drop, e, List.drop_left' rfl]
      have et : toks (l.drop i) = t :: toks (l.drop (i + t.length)) := by
        rw [← toks_items i, hd, List.map_cons, toks_items, er]
      have eti : (l.drop i).take t.length = t := by rw [e, List.take_left' rfl]
      rw [List.foldl_cons, ← er, et]
      by_cases hq : t = [34]
      · have hs : (i + t.length - 1) = i := by rw [hq]; rfl
        rw [hs]
        have htl : t.length = 1 := by rw [hq]; rfl
        rcases hop : a.op with _ | o
        · have : step4 l a (i, t) = ⟨a.st, some i, a.res⟩ := by unfold step4; rw [if_pos hq, hop]
          rw [this, ih (i + t.length) _ (by lia) (by show a.st ≤ _; lia) hlen (fun o ho => by cases ho; exact ⟨h1, by lia⟩)]
          show a.res.flatten ++ _ ++ inT _ _ = a.res.flatten ++ _ ++ outT (t :: _)
          rw [outT, if_pos hq, show i + t.length - i = t.length by lia, eti, hq]
        · obtain ⟨h4, h5⟩ := h3 o hop
          have : step4 l a (i, t) = ⟨i + 1, none, if a.st = o then a.res else a.res ++ [(l.drop a.st).take (o - a.st)]⟩ := by unfold step4; rw [if_pos hq, hop]
          rw [this, ih (i + t.length) _ (by lia) (by show i + 1 ≤ _; lia) hlen (fun o ho => by cases ho)]
          show (if a.st = o then a.res else _).flatten ++ (l.drop (i + 1)).take (i + t.length - (i + 1)) ++ _ = a.res.flatten ++ _ ++ inT _ (t :: _)
          rw [inT, if_pos hq, htl, show i + 1 - (i + 1) = 0 by lia, List.take_zero, List.append_nil]
          by_cases hso : a.st = o
          · rw [if_pos hso, hso, show o - o = 0 by lia, List.take_zero, List.append_nil]
          · rw [if_neg hso]; simp
      · have : step4 l a (i + t.length - 1, t) = a := by unfold step4; rw [if_neg hq]
        rw [this, ih (i + t.length) a (by lia) (by lia) hlen (fun o ho => ⟨(h3 o ho).1, by have := (h3 o ho).2; lia⟩)]
        rcases hop : a.op with _ | o
        · show a.res.flatten ++ _ ++ _ = a.res.flatten ++ _ ++ outT (t :: _)
          rw [outT, if_neg hq, take_drop_app h1 (Nat.le_add_right i t.length), show i + t.length - i = t.length by lia, eti]
          simp
        · obtain ⟨h4, h5⟩ := h3 o hop
          show a.res.flatten ++ _ ++ inT _ _ = a.res.flatten ++ _ ++ inT _ (t :: _)
          rw [inT, if_neg hq, take_drop_app (Nat.le_of_lt h5) (Nat.le_add_right i t.length), show i + t.length - i = t.length by lia, eti]
theorem strip_all (l : List Nat) : ((items 0 l).foldl (step4 l) ⟨0, none, []⟩).res.flatten ++ l.drop ((items 0 l).foldl (step4 l) ⟨0, none, []⟩).st = strip l := by
  have := strip_fold l l.length 0 ⟨0, none, []⟩ (by lia) (Nat.le_refl _) (Nat.zero_le _) (fun o h => by cases h)
  simpa [strip] using this
theorem outT_none : ∀ ts : List (List Nat), [34] ∉ ts → outT ts = ts.flatten
  | [], _ => rfl
  | t :: ts, h => by
    have h1 : t ≠ [34] := fun e => h (e ▸ List.mem_cons_self ..)
    rw [outT, if_neg h1, outT_none ts fun m => h (List.mem_cons_of_mem _ m)]; rfl
theorem strip_none {l : List Nat} (h : 34 ∉ l) : strip l = l := by
  unfold strip
  rw [outT_none, toks_flatten]
  intro m
  have : 34 ∈ (toks l).flatten := List.mem_flatten.mpr ⟨[34], m, List.mem_singleton.mpr rfl⟩
  rw [toks_flatten] at this
  exact h this
theorem joinL_nil : ∀ ys : List (List Nat), joinL [] ys = ys.flatten
  | [] => rfl
  | [y] => by simp [joinL]
  | y :: z :: r => by show y ++ [] ++ joinL [] (z :: r) = _; rw [joinL_nil (z :: r)]; simp
theorem strsOf_map (l : List (List Nat)) : strsOf (l.map .str) = some l := by
  induction l with
  | nil => rfl
  | cons a l ih => rw [List.map_cons, strsOf, ih]; rfl
theorem joinP_nil (l : List (List Nat)) (h : l.flatten.length ≤ LIM) : joinP [.str [], .lst (l.map .str)] = some (.str l.flatten) := by
  show (strsOf _).bind _ = _
  rw [strsOf_map, Option.bind_some, joinL_nil, if_pos]
  rw [List.length_flatten] at h
  simpa [LIM] using h
/-- the next piece, its place apart -/
theorem items_step {i : Nat} {l : List Nat} {b : Nat × List Nat} {bs : List (Nat × List Nat)} (h : b :: bs = items i (l.drop i)) : ∃ pl t, b = (pl, t) ∧ pl + 1 = i + t.length ∧ 1 ≤ t.length ∧ i + t.length ≤ l.length ∧ bs = items (i + t.length) (l.drop (i + t.length)) ∧ (l.drop i).take t.length = t ∧ ((∃ c, t = [c]) ∨ ∃ d, t = [92, d]) := by
  cases hd : l.drop i with
  | nil => rw [hd] at h; cases h
  | cons c r =>
    obtain ⟨t, r, e, hne, e2, ht⟩ := items_split i c r
    rw [hd, e2] at h
    rw [← hd] at e
    cases h
    have ht1 : 1 ≤ t.length := List.length_pos_iff.mpr hne
    have hlen : i + t.length ≤ l.length := by have := congrArg List.length e; simp at this; lia
    have er : l.drop (i + t.length) = r := by rw [← List.drop_drop, e, List.drop_left' rfl]
    exact ⟨i + t.length - 1, t, rfl, by lia, ht1, hlen, by rw [er], by rw [← hd, e, List.take_left' rfl], ht.imp (fun h => ⟨_, h⟩) id⟩
/-- a fold over the pieces that does not look at places -/
theorem items_fold {α : Type} (step : α → Nat × List Nat → α) (f : α → List Nat → α) (hf : ∀ a p t, step a (p, t) = f a t) : ∀ (n i : Nat) (l : List Nat), l.length ≤ n → ∀ a, (items i l).foldl step a = (toks l).foldl f a := by
  intro n i l hn a
  rw [← toks_items i l, List.foldl_map]
  congr 1
  funext a b
  exact hf a b.1 b.2
noncomputable def lastC (t : List Nat) : Nat := t.getD (t.length - 1) 0
theorem last_at {l t : List Nat} {i pl : Nat} (h : (l.drop i).take t.length = t) (hp : pl + 1 = i + t.length) (ht : 1 ≤ t.length) : l.getD pl 0 = lastC t := by
  have e : t.getD (t.length - 1) 0 = ((l.drop i).take t.length).getD (t.length - 1) 0 := by rw [h]
  unfold lastC
  rw [e, List.getD_eq_getElem?_getD, List.getD_eq_getElem?_getD, List.getElem?_take, if_pos (by lia), List.getElem?_drop, show i + (t.length - 1) = pl by lia]
theorem inP_str (a b : List Nat) (h : a.length + b.length ≤ LIM) : inP .Add (.str a) (.str b) = some (.str (a ++ b)) := by show (if _ then _ else _) = _; rw [if_pos h]
theorem Y0 (a b : Int) : binP .BitAnd (.int a) (.int b) = some (.int (Builtin.bitAnd a b)) := rfl
theorem Y1 (a b : Int) : binP .BitOr (.int a) (.int b) = some (.int (Builtin.bitOr a b)) := rfl
theorem Y2 (a n : Int) : binP .RShift (.int a) (.int n) = if 0 ≤ n then some (.int (a.fdiv (2 ^ n.toNat))) else none := rfl
theorem Y3 (a n : Int) : binP .LShift (.int a) (.int n) = if 0 ≤ n ∧ n ≤ 100 ∧ a.natAbs < 2 ^ 60 then some (.int (a * 2 ^ n.toNat)) else none := rfl
theorem Ya (p : PV) (n : Int) : binP .Mult (.lst [p]) (.int n) = if 0 ≤ n ∧ n ≤ 1000 then some (.lst (List.replicate n.toNat p)) else none := rfl
noncomputable def openT : Bool → List (List Nat) → List Nat
  | _, [] => []
  | w, t :: ts => if t = [34] then openT (!w) ts else (if w = true then [lastC t] else t) ++ openT w ts
noncomputable def opened (l : List Nat) : List Nat := openT false (toks l)
noncomputable def step53 (a : List Nat × Bool) (b : Nat × List Nat) : List Nat × Bool := if b.2 = [34] then (a.1, !a.2) else (a.1 ++ (if a.2 = true then [lastC b.2] else b.2), a.2)
theorem open_fold : ∀ (ts : List (List Nat)) (a : List Nat × Bool), (ts.foldl (fun a t => step53 a (0, t)) a).1 = a.1 ++ openT a.2 ts
  | [], a => by simp [openT]
  | t :: ts, a => by
    rw [List.foldl_cons, open_fold ts]
    rw [show openT a.2 (t :: ts) = if t = [34] then openT (!a.2) ts else (if a.2 = true then [lastC t] else t) ++ openT a.2 ts from rfl]
    unfold step53
    by_cases h : t = [34]
    · simp [h]
    · simp [h]
theorem open_all (l : List Nat) : ((items 0 l).foldl step53 ([], false)).1 = opened l := by
  rw [items_fold step53 (fun a t => step53 a (0, t)) (fun Z Z Z => rfl) l.length 0 l (Nat.le_refl _), open_fold]; rfl
noncomputable def chkT : Nat → List (List Nat) → Bool
  | n, [] => n == 0
  | n, t :: ts => if t = [40] then chkT (n + 1) ts else if t = [41] then (match n with | 0 => false | m + 1 => chkT m ts) else chkT n ts
noncomputable def check (l : List Nat) : Bool := chkT 0 (toks (strip l))
noncomputable def octT (dec : List Nat → Option (List UInt8)) : List Nat → List (List Nat) → Option (List (List UInt8))
  | _, [] => some []
  | pc, t :: ts => if t = [44] ∧ 7 < (pc ++ t).length then (dec (((pc ++ t).drop 6).take ((pc ++ t).length - 1 - 6))).bind fun y => (octT dec [] ts).map (y :: ·)
      else if t = [40] ∨ t = [41] ∨ t = [44] then octT dec [] ts else octT dec (pc ++ t) ts
noncomputable def step54 (dec : List Nat → Option (List UInt8)) (a : List (List UInt8) × List Nat) (b : Nat × List Nat) : List (List UInt8) × List Nat :=
  if b.2 = [44] ∧ 7 < (a.2 ++ b.2).length then (a.1 ++ [(dec (((a.2 ++ b.2).drop 6).take ((a.2 ++ b.2).length - 1 - 6))).getD []], [])
  else if b.2 = [40] ∨ b.2 = [41] ∨ b.2 = [44] then (a.1, []) else (a.1, a.2 ++ b.2)
theorem run14 {prog : Program} {w : World} {hb : Heap}  (h_type : FV prog w hb "type" 0 typeP) (g_bytes : GV hb "bytes" (.ty "bytes")) :
    ∃ g, XSs prog w hb (fnScope (nth 14)) 0 (fnBody (nth 14)) g ∧ ∀ l : List UInt8, runP (fnScope (nth 14)).names ["data"] g [.byt l] = some (.byt l) := by
  refine' ⟨_, ?w, ?p⟩; rotate_left
  conv in (fnBody _) => whnf
  conv in (fnScope _) => whnf
  with_reducible
   refine' XSs.cons ?_ ?_; rotate_left 2; refine' XS.set 1 ?_; rotate_left; refine' XE.cv (by assumption) ?_; rotate_left; refine' XEs.co ?_ ?_; rotate_left 2; refine' XE.lo 0; refine' XEs.nil; refine' XSs.cons ?_ ?_; rotate_left 2; refine' XS.ite ?_ ?_ ?_; rotate_left 3; refine' XT.cmp ?_ ?_ (by kernel_rfl); rotate_left 2; refine' XE.lo 1
   refine' XE.globV (by kernel_rfl) (by assumption) (by kernel_rfl); refine' XSs.cons ?_ ?_; rotate_left 2; refine' XS.ret ?_; rotate_left; refine' XE.lo 0; refine' XSs.nil; refine' XSs.nil; refine' XSs.cons ?_ ?_; rotate_left 2; refine' XS.ite ?_ ?_ ?_; rotate_left 3; refine' XT.cmp ?_ ?_ (by kernel_rfl); rotate_left 2; refine' XE.lo 1; refine' XE.dead; refine' XSs.cons ?_ ?_; rotate_left 2
   refine' XS.ret ?_; rotate_left; refine' XE.dead; refine' XSs.nil; refine' XSs.nil; refine' XSs.cons ?_ ?_; rotate_left 2; refine' XS.dead; refine' XSs.nil
  case p =>
    intro l
    kernel_rfl
theorem run15 {prog : Program} {w : World} {hb : Heap}  (h_type : FV prog w hb "type" 0 typeP) (g_bool : GV hb "bool" (.ty "bool")) :
    ∃ g, XSs prog w hb (fnScope (nth 15)) 0 (fnBody (nth 15)) g ∧ ∀ b : Bool, runP (fnScope (nth 15)).names ["x"] g [.bool b] = some (.bool b) := by
  refine' ⟨_, ?w, ?p⟩; rotate_left
  conv in (fnBody _) => whnf
  conv in (fnScope _) => whnf
  with_reducible
   refine' XSs.cons ?_ ?_; rotate_left 2; refine' XS.set 1 ?_; rotate_left; refine' XE.cv (by assumption) ?_; rotate_left; refine' XEs.co ?_ ?_; rotate_left 2; refine' XE.lo 0; refine' XEs.nil; refine' XSs.cons ?_ ?_; rotate_left 2; refine' XS.ite ?_ ?_ ?_; rotate_left 3; refine' XT.all ?_; rotate_left; refine' XAll.orCons ?_ ?_; rotate_left 2; refine' XT.cmp ?_ ?_ (by kernel_rfl); rotate_left 2
   refine' XE.lo 0; refine' XE.non; refine' XAll.orCons ?_ ?_; rotate_left 2; refine' XT.cmp ?_ ?_ (by kernel_rfl); rotate_left 2; refine' XE.lo 1; refine' XE.globV (by kernel_rfl) (by assumption) (by kernel_rfl); refine' XAll.orCons ?_ ?_; rotate_left 2; refine' XT.cmp ?_ ?_ (by kernel_rfl); rotate_left 2; refine' XE.lo 1; refine' XE.dead; refine' XAll.orCons ?_ ?_; rotate_left 2
   refine' XT.cmp ?_ ?_ (by kernel_rfl); rotate_left 2; refine' XE.lo 1; refine' XE.dead; refine' XAll.orCons ?_ ?_; rotate_left 2; refine' XT.cmp ?_ ?_ (by kernel_rfl); rotate_left 2; refine' XE.lo 1; refine' XE.dead; refine' XAll.orCons ?_ ?_; rotate_left 2; refine' XT.cmp ?_ ?_ (by kernel_rfl); rotate_left 2; refine' XE.lo 1; refine' XE.dead; refine' XAll.orCons ?_ ?_; rotate_left 2
   refine' XT.cmp ?_ ?_ (by kernel_rfl); rotate_left 2; refine' XE.lo 1; refine' XE.dead; refine' XAll.orCons ?_ ?_; rotate_left 2; refine' XT.cmp ?_ ?_ (by kernel_rfl); rotate_left 2; refine' XE.lo 1; refine' XE.dead; refine' XAll.orCons ?_ ?_; rotate_left 2; refine' XT.cmp ?_ ?_ (by kernel_rfl); rotate_left 2; refine' XE.lo 1; refine' XE.dead; refine' XAll.orCons ?_ ?_; rotate_left 2
   refine' XT.cmp ?_ ?_ (by kernel_rfl); rotate_left 2; refine' XE.lo 1; refine' XE.dead; refine' XAll.orCons ?_ ?_; rotate_left 2; refine' XT.cmp ?_ ?_ (by kernel_rfl); rotate_left 2; refine' XE.lo 1; refine' XE.dead; refine' XAll.orCons ?_ ?_; rotate_left 2; refine' XT.cmp ?_ ?_ (by kernel_rfl); rotate_left 2; refine' XE.lo 1; refine' XE.dead; refine' XAll.orCons ?_ ?_; rotate_left 2
   refine' XT.cmp ?_ ?_ (by kernel_rfl); rotate_left 2; refine' XE.lo 1; refine' XE.dead; refine' XAll.orCons ?_ ?_; rotate_left 2; refine' XT.cmp ?_ ?_ (by kernel_rfl); rotate_left 2; refine' XE.lo 1; refine' XE.dead; refine' XAll.orNil; refine' XSs.cons ?_ ?_; rotate_left 2; refine' XS.ret ?_; rotate_left; refine' XE.ife ?_ ?_ ?_; rotate_left 3
   refine' XT.val ?_ (fun Z Z => by kernel_rfl); rotate_left; refine' XE.lo 0; refine' XE.bool; refine' XE.bool; refine' XSs.nil; refine' XSs.nil; refine' XSs.cons ?_ ?_; rotate_left 2; refine' XS.dead; refine' XSs.nil
  case p =>
    intro b
    cases b <;> kernel_rfl
theorem and_fmtI (m : Nat) : Builtin.bitAnd (m : Int) 61440 = ((m / 4096 % 16 * 4096 : Nat) : Int) := by rw [show (61440 : Int) = ((61440 : Nat) : Int) from rfl, and_nat, and_fmt]
theorem run24 {prog : Program} {w : World} {hb : Heap}   :
    ∃ g, XSs prog w hb (fnScope (nth 24)) 0 (fnBody (nth 24)) g ∧ ∀ m : Nat, runP (fnScope (nth 24)).names ["mode"] g [.int (m : Int)] = some (.int ((m / 4096 % 16 * 4096 : Nat) : Int)) := by
  refine' ⟨_, ?w, ?p⟩; rotate_left
  conv in (fnBody _) => whnf
  conv in (fnScope _) => whnf
  with_reducible
   refine' XSs.cons ?_ ?_; rotate_left 2; refine' XS.ret ?_; rotate_left; refine' XE.bin ?_ ?_; rotate_left 2; refine' XE.lo 0; refine' XE.int; refine' XSs.nil
  case p =>
    intro m
    conv in (fnScope _) => whnf
    simp [runP, initSl, slotFor, List.findIdx?_cons, List.findIdx?_nil, seqP, getS_zero, frzS, frz, band_int, and_fmtI]
noncomputable def sign (n : Nat) : Nat := (("ABCDEFGHIJKLMNOPQRSTUVWXYZabcdefghijklmnopqrstuvwxyz0123456789+/" : Str).cps.toList).getD n 0
theorem fd18 (n : Nat) : (n : Int).fdiv 262144 = ((n / 262144 : Nat) : Int) := fdiv_nat n 262144
theorem fd12 (n : Nat) : (n : Int).fdiv 4096 = ((n / 4096 : Nat) : Int) := fdiv_nat n 4096
theorem fd6 (n : Nat) : (n : Int).fdiv 64 = ((n / 64 : Nat) : Int) := fdiv_nat n 64
theorem fm64 (n : Nat) : (n : Int).fmod 64 = ((n % 64 : Nat) : Int) := fmod_nat n 64
theorem sgn (n : Nat) : itemP (.str ("ABCDEFGHIJKLMNOPQRSTUVWXYZabcdefghijklmnopqrstuvwxyz0123456789+/" : Str).cps.toList) (.int ((n % 64 : Nat) : Int)) = some (.str [sign (n % 64)]) := by
  have hl : ("ABCDEFGHIJKLMNOPQRSTUVWXYZabcdefghijklmnopqrstuvwxyz0123456789+/" : Str).cps.toList.length = 64 := by decide +kernel
  exact item_str _ _ (by rw [hl]; lia) (by lia)
noncomputable abbrev SGN : List Nat := ("ABCDEFGHIJKLMNOPQRSTUVWXYZabcdefghijklmnopqrstuvwxyz0123456789+/" : Str).cps.toList
noncomputable def number (l : List Nat) : Nat := l.getD 0 0 * 65536 + l.getD 1 0 * 256 + l.getD 2 0
noncomputable def fourL (l : List Nat) : List Nat := if l = [] then [] else ((List.range (l.length + 1)).map fun k => sign (number l / 64 ^ (3 - k) % 64)) ++ List.replicate (3 - l.length) 61
noncomputable def SL53 (l : List Nat) (a : List Nat × Bool) (p c : Sl) : List Sl := [.pv (.str l), .pv (.str a.1), .pv (.bool a.2), p, c, .un, .un]
theorem run53 {prog : Program} {w : World} {hb : Heap} (escP : List PV → Option (List Itm)) (i_iter_escaped_chars : IV prog w hb "_iter_escaped_chars" 2 escP) (h_len : FV prog w hb "len" 0 lenP) :
    ∃ g, XSs prog w hb (fnScope (nth 53)) 2 (fnBody (nth 53)) g ∧ ((∀ l : List Nat, escP [.str l] = some ((items 0 l).map encI)) → ∀ l : List Nat, l.length ≤ LIM → runP (fnScope (nth 53)).names [("line" : Str)] g [.str l] = some (.str (opened l))) := by
  refine' ⟨_, ?w, ?p⟩; rotate_left
  conv in (fnBody _) => whnf
  conv in (fnScope _) => whnf
  with_reducible
   refine' XSs.cons ?_ ?_; rotate_left 2; refine' XS.set 1 ?_; rotate_left; refine' XE.str; refine' XSs.cons ?_ ?_; rotate_left 2; refine' XS.set 2 ?_; rotate_left; refine' XE.bool; refine' XSs.cons ?_ ?_; rotate_left 2; refine' XS.for ?_ ?_ ?_ ?_ (fun Z Z => by kernel_rfl); rotate_left 4
   refine' XI.callIV (by kernel_rfl) (by assumption) ?_ (by decide) (by kernel_rfl) (fun Z => by kernel_rfl) (fun Z => by kernel_rfl); rotate_left; refine' XEs.co ?_ ?_; rotate_left 2; refine' XE.lo 0; refine' XEs.nil; refine' TT.many ?_ (fun Z => by kernel_rfl) (fun Z => by kernel_rfl); rotate_left; refine' TGs.cons ?_ ?_ (fun Z => by kernel_rfl); rotate_left 2
   refine' TG.loc (i := 3) (by kernel_rfl); refine' TGs.cons ?_ ?_ (fun Z => by kernel_rfl); rotate_left 2; refine' TG.loc (i := 4) (by kernel_rfl); refine' TGs.nil; refine' XSs.cons ?_ ?_; rotate_left 2; refine' XS.ite ?_ ?_ ?_; rotate_left 3; refine' XT.cmp ?_ ?_ (by kernel_rfl); rotate_left 2; refine' XE.lo 4; refine' XE.str; refine' XSs.cons ?_ ?_; rotate_left 2
   refine' XS.set 2 ?_; rotate_left; refine' XE.un ?_; rotate_left; refine' XE.lo 2; refine' XSs.nil; refine' XSs.cons ?_ ?_; rotate_left 2; refine' XS.aug (i := 1) (by kernel_rfl) ?_; rotate_left; refine' XE.ife ?_ ?_ ?_; rotate_left 3; refine' XT.val ?_ (fun Z Z => by kernel_rfl); rotate_left; refine' XE.lo 2
   refine' XE.idxB (i := 0) (by kernel_rfl) ?_ (by kernel_rfl) (fun Z Z => by kernel_rfl); rotate_left; refine' XE.lo 3; refine' XE.slc ?_ ?_ ?_; rotate_left 3; refine' XE.lo 0; refine' XO.some ?_; rotate_left; refine' XE.bin ?_ ?_; rotate_left 2; refine' XE.bin ?_ ?_; rotate_left 2; refine' XE.lo 3; refine' XE.int; refine' XE.cv (by assumption) ?_; rotate_left; refine' XEs.co ?_ ?_; rotate_left 2
   refine' XE.lo 4; refine' XEs.nil; refine' XO.some ?_; rotate_left; refine' XE.bin ?_ ?_; rotate_left 2; refine' XE.lo 3; refine' XE.int; refine' XSs.nil; refine' XSs.nil; refine' XSs.nil; refine' XSs.cons ?_ ?_; rotate_left 2; refine' XS.ret ?_; rotate_left; refine' XE.lo 1; refine' XSs.nil
  case p =>
    intro he l hl
    refine runP_ret [.pv (.str l), .un, .un, .un, .un, .un, .un] rfl (by kernel_rfl) ?_
    simp only [cs]
    refine Ret.next [.pv (.str l), .pv (.str []), .un, .un, .un, .un, .un] rfl ?_
    refine Ret.next (SL53 l ([], false) .un .un) rfl ?_
    refine Ret.loop (enc := encI) (bs := items 0 l) ?hE (fun a bs σ => ∃ i, (∃ p c, σ = SL53 l a p c) ∧ bs = items i (l.drop i) ∧ i ≤ l.length ∧ a.1.length ≤ i) step53 ([], false) ?h0 (fun Z => rfl) ?hs ?hk
    case hE => simp only [SL53, X0, Option.bind_some, he]
    case h0 => exact ⟨0, ⟨_, _, rfl⟩, rfl, Nat.zero_le _, Nat.le_refl _⟩
    case hs =>
      rintro a b bs σ ⟨i, ⟨p, c, rfl⟩, hit, h2, h4⟩
      obtain ⟨pl, t, rfl, hpl, ht1, hlen, rfl, htk, -⟩ := items_step hit
      refine ⟨SL53 l a (.pv (.int (pl : Int))) (.pv (.str t)), SL53 l (step53 a (pl, t)) (.pv (.int (pl : Int))) (.pv (.str t)), rfl, .inl ?_, i + t.length, ⟨_, _, rfl⟩, rfl, hlen, ?_⟩
      · by_cases hq : t = [34]
        · simp [SL53, X0, X1, X4, X7, X8, Xd, Xn, Xz, X12, X13, seqP, step53, hq]
        · have hq' : (t == [34]) = false := by simpa using hq
          have htl : t.length ≤ LIM := by lia
          rcases hw : a.2 with _ | _
          · have e1 : (pl : Int) + 1 - (t.length : Int) = (i : Int) := by lia
            have e2 : (pl : Int) + 1 = ((pl + 1 : Nat) : Int) := by lia
            have e3 : i + t.length - i = t.length := by lia
            have e4 : sliceP (.str l) (some (i : Int)) (some ((pl : Int) + 1)) = some (.str t) := by rw [e2, sliceP_nn _ _ _ hl, hpl, e3, htk]
            simp [SL53, X0, X1, X4, X7, X8, Xd, Xe, Xn, Xz, X12, X13, seqP, step53, hq, hq', hw, lenP_str _ htl, e1, e4, inP_str a.1 t (by lia)]
          · have e5 : itemP (.str l) (.int (pl : Int)) = some (.str [lastC t]) := by rw [item_str l pl (by lia) (by unfold LIM at hl; lia), last_at htk hpl ht1]
            simp [SL53, X0, X1, X4, X7, X8, Xd, Xn, Xz, X12, X13, seqP, step53, hq, hq', hw, e5, inP_str a.1 [lastC t] (by simp; lia)]
      · unfold step53
        by_cases hq : t = [34]
        · simp [hq]; lia
        · simp only [hq, if_false]
          split <;> simp <;> lia
    case hk =>
      rintro σ' ⟨i, ⟨p, c, rfl⟩, hit, h2, h4⟩
      rw [← open_all l]
      generalize (items 0 l).foldl step53 ([], false) = a at *
      exact Ret.here (Ret.of (σ' := frzS (SL53 l a p c)) rfl)
noncomputable def SL54 (l : List Nat) (a : List (List UInt8) × List Nat) (p c : Sl) : List Sl := [.pv (.str l), .own (a.1.map .byt), .pv (.str a.2), p, c, .un, .un, .un]
theorem run54 {prog : Program} {w : World} {hb : Heap} (escP : List PV → Option (List Itm)) (decP : List PV → Option PV) (i_iter_escaped_chars : IV prog w hb "_iter_escaped_chars" 2 escP) (h_len : FV prog w hb "len" 0 lenP) (h_b64decode : FV prog w hb "b64decode" 3 decP) :
    ∃ g, XSs prog w hb (fnScope (nth 54)) 3 (fnBody (nth 54)) g ∧ ((∀ l : List Nat, escP [.str l] = some ((items 0 l).map encI)) → ∀ (dec : List Nat → Option (List UInt8)), (∀ x y, dec x = some y → decP [.str x] = some (.byt y)) →
      ∀ (l : List Nat) (r : List (List UInt8)), l.length ≤ LIM → octT dec [] (toks l) = some r → runP (fnScope (nth 54)).names [("line" : Str)] g [.str l] = some (.lst (r.map .byt))) := by
  refine' ⟨_, ?w, ?p⟩; rotate_left
  conv in (fnBody _) => whnf
  conv in (fnScope _) => whnf
  with_reducible
   refine' XSs.cons ?_ ?_; rotate_left 2; refine' XS.own (i := 1) (by kernel_rfl) (XL.lst ?_) (fun Z Z => by kernel_rfl); rotate_left; refine' XEs.nil; refine' XSs.cons ?_ ?_; rotate_left 2; refine' XS.set 2 ?_; rotate_left; refine' XE.str; refine' XSs.cons ?_ ?_; rotate_left 2; refine' XS.for ?_ ?_ ?_ ?_ (fun Z Z => by kernel_rfl); rotate_left 4
   refine' XI.callIV (by kernel_rfl) (by assumption) ?_ (by decide) (by kernel_rfl) (fun Z => by kernel_rfl) (fun Z => by kernel_rfl); rotate_left; refine' XEs.co ?_ ?_; rotate_left 2; refine' XE.lo 0; refine' XEs.nil; refine' TT.many ?_ (fun Z => by kernel_rfl) (fun Z => by kernel_rfl); rotate_left; refine' TGs.cons ?_ ?_ (fun Z => by kernel_rfl); rotate_left 2
   refine' TG.loc (i := 3) (by kernel_rfl); refine' TGs.cons ?_ ?_ (fun Z => by kernel_rfl); rotate_left 2; refine' TG.loc (i := 4) (by kernel_rfl); refine' TGs.nil; refine' XSs.cons ?_ ?_; rotate_left 2; refine' XS.aug (i := 2) (by kernel_rfl) ?_; rotate_left; refine' XE.lo 4; refine' XSs.cons ?_ ?_; rotate_left 2; refine' XS.ite ?_ ?_ ?_; rotate_left 3
   refine' XT.cmp ?_ ?_ (by kernel_rfl); rotate_left 2; refine' XE.lo 4; refine' XE.str; refine' XSs.cons ?_ ?_; rotate_left 2; refine' XS.ite ?_ ?_ ?_; rotate_left 3; refine' XT.all ?_; rotate_left; refine' XAll.andCons ?_ ?_; rotate_left 2; refine' XT.cmp ?_ ?_ (by kernel_rfl); rotate_left 2; refine' XE.lo 4; refine' XE.str; refine' XAll.andCons ?_ ?_; rotate_left 2
   refine' XT.cmp ?_ ?_ (by kernel_rfl); rotate_left 2; refine' XE.cv (by assumption) ?_; rotate_left; refine' XEs.co ?_ ?_; rotate_left 2; refine' XE.lo 2; refine' XEs.nil; refine' XE.int; refine' XAll.andNil; refine' XSs.cons ?_ ?_; rotate_left 2; refine' XS.append (i := 1) (by kernel_rfl) ?_ (by kernel_rfl) (fun Z => by kernel_rfl) (by kernel_rfl); rotate_left
   refine' XE.cv (by assumption) ?_; rotate_left; refine' XEs.co ?_ ?_; rotate_left 2; refine' XE.slc ?_ ?_ ?_; rotate_left 3; refine' XE.lo 2; refine' XO.some ?_; rotate_left; refine' XE.int; refine' XO.some ?_; rotate_left; refine' XE.un ?_; rotate_left; refine' XE.int; refine' XEs.nil; refine' XSs.nil; refine' XSs.nil; refine' XSs.cons ?_ ?_; rotate_left 2; refine' XS.set 2 ?_; rotate_left
   refine' XE.str; refine' XSs.nil; refine' XSs.nil; refine' XSs.nil; refine' XSs.nil; refine' XSs.cons ?_ ?_; rotate_left 2; refine' XS.ret ?_; rotate_left; refine' XE.lo 1; refine' XSs.nil
  case p =>
    intro he dec hdec l r hl hr
    refine runP_ret [.pv (.str l), .un, .un, .un, .un, .un, .un, .un] rfl (by kernel_rfl) ?_
    simp only [cs]
    refine Ret.next [.pv (.str l), .own [], .un, .un, .un, .un, .un, .un] rfl ?_
    refine Ret.next (SL54 l ([], []) .un .un) rfl ?_
    refine Ret.loop (enc := encI) (bs := items 0 l) ?hE (fun a bs σ => ∃ i, (∃ p c, σ = SL54 l a p c) ∧ bs = items i (l.drop i) ∧ i ≤ l.length ∧ a.2.length ≤ i ∧ a.1.length ≤ i ∧ ∃ r', octT dec a.2 (bs.map (·.2)) = some r' ∧ a.1 ++ r' = r) (step54 dec) ([], []) ?h0 (fun Z => rfl) ?hs ?hk
    case hE => simp only [SL54, X0, Option.bind_some, he]
    case h0 => exact ⟨0, ⟨_, _, rfl⟩, rfl, Nat.zero_le _, Nat.le_refl _, Nat.le_refl _, r, hr, rfl⟩
    case hs =>
      rintro a b bs σ ⟨i, ⟨p, c, rfl⟩, hit, h2, h4, h5, r', h6, h7⟩
      obtain ⟨pl, t, rfl, hpl, ht1, hlen, rfl, htk, hsh⟩ := items_step hit
      rw [List.map_cons] at h6
      have hadd := inP_str a.2 t (by lia)
      have hin : Txt.contains (S [40, 41, 44]) (S t) = decide (t = [40] ∨ t = [41] ∨ t = [44]) := in3 40 41 44 t (by intro e; rw [e] at ht1; simp at ht1) (by
        rintro x y r rfl
        rcases hsh with ⟨c, hc⟩ | ⟨d, hd⟩
        · cases hc
        · cases hd; decide)
      have hpl' : (a.2 ++ t).length ≤ LIM := by rw [List.length_append]; lia
      have hal : a.1.length ≤ LIM := by lia
      have hsl : sliceP (.str (a.2 ++ t)) (some 6) (some (-1)) = some (.str (((a.2 ++ t).drop 6).take ((a.2 ++ t).length - 1 - 6))) := sliceP_m1 _ 6 hpl'
      refine ⟨SL54 l a (.pv (.int (pl : Int))) (.pv (.str t)), SL54 l (step54 dec a (pl, t)) (.pv (.int (pl : Int))) (.pv (.str t)), rfl, .inl ?_, i + t.length, ⟨_, _, rfl⟩, rfl, hlen, ?_⟩
      · by_cases hA : t = [44] ∧ 7 < (a.2 ++ t).length
        · rw [octT, if_pos hA] at h6
          obtain ⟨y, hy, Z⟩ := Option.bind_eq_some_iff.mp h6
          have hdy := hdec _ _ hy
          have hstep : step54 dec a (pl, t) = (a.1 ++ [y], []) := by unfold step54; rw [if_pos hA, hy]; rfl
          have hlt : (7 : Int) < ((a.2 ++ t).length : Int) := by have := hA.2; lia
          obtain ⟨rfl, hA2⟩ := hA
          rw [hstep]
          replace hdy : decP [.str (((a.2 ++ [44]).drop 6).take ((a.2 ++ [44]).length - 1 - 6))] = some (.byt y) := hdy
          generalize a.2 ++ [44] = pc at *
          simp [SL54, X0, X1, X2, X3, X7, X8, Xj, Xn, Xr, X11, X13, seqP, hadd, hin, lenP_str _ hpl', hsl, hdy, hlt, hal]
        · by_cases hB : t = [40] ∨ t = [41] ∨ t = [44]
          · have hstep : step54 dec a (pl, t) = (a.1, []) := by unfold step54; rw [if_neg hA, if_pos hB]
            rw [hstep]
            have hin' : Txt.contains (S [40, 41, 44]) (S t) = true := by rw [hin]; simpa using hB
            have hlen' := lenP_str _ hpl'
            by_cases h44 : t = [44]
            · have hc : ¬ (7 < (a.2 ++ t).length) := fun h => hA ⟨h44, h⟩
              have hc' : ¬ ((7 : Int) < ((a.2 ++ t).length : Int)) := by lia
              subst h44
              generalize a.2 ++ [44] = pc at *
              simp [SL54, X0, X1, X2, X3, X7, X8, Xj, Xn, Xr, X11, X13, seqP, hadd, hin', hlen', hc']
            · have h44' : (t == [44]) = false := by simpa using h44
              repeat' (first | exact hadd | exact congrArg some hadd | exact hin' | exact congrArg some hin' | exact h44' | exact congrArg some h44' | rfl | apply be | apply me)
          · have hstep : step54 dec a (pl, t) = (a.1, a.2 ++ t) := by unfold step54; rw [if_neg hA, if_neg hB]
            rw [hstep]
            have hin' : Txt.contains (S [40, 41, 44]) (S t) = false := by rw [hin]; simpa using hB
            repeat' (first | exact hadd | exact congrArg some hadd | exact hin' | exact congrArg some hin' | rfl | apply be | apply me)
      · by_cases hA : t = [44] ∧ 7 < (a.2 ++ t).length
        · rw [octT, if_pos hA] at h6
          obtain ⟨y, hy, h8⟩ := Option.bind_eq_some_iff.mp h6
          obtain ⟨r2, h9, rfl⟩ := Option.map_eq_some_iff.mp h8
          have hstep : step54 dec a (pl, t) = (a.1 ++ [y], []) := by unfold step54; rw [if_pos hA, hy]; rfl
          rw [hstep]
          exact ⟨Nat.zero_le _, by simp; lia, r2, h9, by rw [← h7]; simp⟩
        · rw [octT, if_neg hA] at h6
          by_cases hB : t = [40] ∨ t = [41] ∨ t = [44]
          · have hstep : step54 dec a (pl, t) = (a.1, []) := by unfold step54; rw [if_neg hA, if_pos hB]
            rw [if_pos hB] at h6
            rw [hstep]
            exact ⟨Nat.zero_le _, by show a.1.length ≤ _; lia, r', h6, h7⟩
          · have hstep : step54 dec a (pl, t) = (a.1, a.2 ++ t) := by unfold step54; rw [if_neg hA, if_neg hB]
            rw [if_neg hB] at h6
            rw [hstep]
            exact ⟨by simp; lia, by show a.1.length ≤ _; lia, r', h6, h7⟩
    case hk =>
      rintro σ' ⟨i, ⟨p, c, rfl⟩, hit, h2, h4, h5, r', h6, h7⟩
      generalize (items 0 l).foldl (step54 dec) ([], []) = a at *
      have : r' = [] := (Option.some.inj h6).symm
      rw [this, List.append_nil] at h7
      rw [← h7]
      exact Ret.here (Ret.of (σ' := frzS (SL54 l a p c)) rfl)
noncomputable abbrev opV : Option Nat → PV
  | none => .none
  | some o => .int (o : Int)
noncomputable def SL4 (l : List Nat) (a : A4) (p c : Sl) : List Sl := [.pv (.str l), .pv (.int (a.st : Int)), .pv (opV a.op), .own (a.res.map .str), p, c, .un, .un]
structure R4 (l : List Nat) (a : A4) (bs : List (Nat × List Nat)) (σ : List Sl) (i : Nat) : Prop where
  sl : ∃ p c, σ = SL4 l a p c
  it : bs = items i (l.drop i)
  h1 : a.st ≤ i
  h2 : i ≤ l.length
  h3 : ∀ o, a.op = some o → a.st ≤ o ∧ o < i
  h4 : a.res.length ≤ i
  h5 : a.res.flatten.length ≤ a.st
theorem run4 {prog : Program} {w : World} {hb : Heap} (escP : List PV → Option (List Itm)) (i_iter_escaped_chars : IV prog w hb "_iter_escaped_chars" 2 escP) (h_len : FV prog w hb "len" 0 lenP) :
    ∃ g, XSs prog w hb (fnScope (nth 4)) 2 (fnBody (nth 4)) g ∧ ((∀ l : List Nat, escP [.str l] = some ((items 0 l).map encI)) → ∀ l : List Nat, l.length ≤ LIM → runP (fnScope (nth 4)).names [("addr" : Str)] g [.str l] = some (.str (strip l))) := by
  refine' ⟨_, ?w, ?p⟩; rotate_left
  conv in (fnBody _) => whnf
  conv in (fnScope _) => whnf
  with_reducible
   refine' XSs.cons ?_ ?_; rotate_left 2; refine' XS.ite ?_ ?_ ?_; rotate_left 3; refine' XT.cmp ?_ ?_ (by kernel_rfl); rotate_left 2; refine' XE.str; refine' XE.lo 0; refine' XSs.cons ?_ ?_; rotate_left 2; refine' XS.ret ?_; rotate_left; refine' XE.lo 0; refine' XSs.nil; refine' XSs.nil; refine' XSs.cons ?_ ?_; rotate_left 2; refine' XS.set 1 ?_; rotate_left; refine' XE.int
   refine' XSs.cons ?_ ?_; rotate_left 2; refine' XS.set 2 ?_; rotate_left; refine' XE.non; refine' XSs.cons ?_ ?_; rotate_left 2; refine' XS.own (i := 3) (by kernel_rfl) (XL.lst ?_) (fun Z Z => by kernel_rfl); rotate_left; refine' XEs.nil; refine' XSs.cons ?_ ?_; rotate_left 2; refine' XS.for ?_ ?_ ?_ ?_ (fun Z Z => by kernel_rfl); rotate_left 4
   refine' XI.callIV (by kernel_rfl) (by assumption) ?_ (by decide) (by kernel_rfl) (fun Z => by kernel_rfl) (fun Z => by kernel_rfl); rotate_left; refine' XEs.co ?_ ?_; rotate_left 2; refine' XE.lo 0; refine' XEs.nil; refine' TT.many ?_ (fun Z => by kernel_rfl) (fun Z => by kernel_rfl); rotate_left; refine' TGs.cons ?_ ?_ (fun Z => by kernel_rfl); rotate_left 2
   refine' TG.loc (i := 4) (by kernel_rfl); refine' TGs.cons ?_ ?_ (fun Z => by kernel_rfl); rotate_left 2; refine' TG.loc (i := 5) (by kernel_rfl); refine' TGs.nil; refine' XSs.cons ?_ ?_; rotate_left 2; refine' XS.ite ?_ ?_ ?_; rotate_left 3; refine' XT.cmp ?_ ?_ (by kernel_rfl); rotate_left 2; refine' XE.lo 5; refine' XE.str; refine' XSs.cons ?_ ?_; rotate_left 2
   refine' XS.ite ?_ ?_ ?_; rotate_left 3; refine' XT.cmp ?_ ?_ (by kernel_rfl); rotate_left 2; refine' XE.lo 2; refine' XE.non; refine' XSs.cons ?_ ?_; rotate_left 2; refine' XS.set 2 ?_; rotate_left; refine' XE.lo 4; refine' XSs.nil; refine' XSs.cons ?_ ?_; rotate_left 2; refine' XS.ite ?_ ?_ ?_; rotate_left 3; refine' XT.cmp ?_ ?_ (by kernel_rfl); rotate_left 2; refine' XE.lo 1; refine' XE.lo 2
   refine' XSs.cons ?_ ?_; rotate_left 2; refine' XS.append (i := 3) (by kernel_rfl) ?_ (by kernel_rfl) (fun Z => by kernel_rfl) (by kernel_rfl); rotate_left; refine' XE.slc ?_ ?_ ?_; rotate_left 3; refine' XE.lo 0; refine' XO.some ?_; rotate_left; refine' XE.lo 1; refine' XO.some ?_; rotate_left; refine' XE.lo 2; refine' XSs.nil; refine' XSs.nil; refine' XSs.cons ?_ ?_; rotate_left 2
   refine' XS.set 1 ?_; rotate_left; refine' XE.bin ?_ ?_; rotate_left 2; refine' XE.lo 4; refine' XE.int; refine' XSs.cons ?_ ?_; rotate_left 2; refine' XS.set 2 ?_; rotate_left; refine' XE.non; refine' XSs.nil; refine' XSs.nil; refine' XSs.nil; refine' XSs.nil; refine' XSs.nil; refine' XSs.cons ?_ ?_; rotate_left 2; refine' XS.ite ?_ ?_ ?_; rotate_left 3
   refine' XT.cmp ?_ ?_ (by kernel_rfl); rotate_left 2; refine' XE.lo 1; refine' XE.cv (by assumption) ?_; rotate_left; refine' XEs.co ?_ ?_; rotate_left 2; refine' XE.lo 0; refine' XEs.nil; refine' XSs.cons ?_ ?_; rotate_left 2; refine' XS.append (i := 3) (by kernel_rfl) ?_ (by kernel_rfl) (fun Z => by kernel_rfl) (by kernel_rfl); rotate_left; refine' XE.slc ?_ ?_ ?_; rotate_left 3
   refine' XE.lo 0; refine' XO.some ?_; rotate_left; refine' XE.lo 1; refine' XO.none; refine' XSs.nil; refine' XSs.nil; refine' XSs.cons ?_ ?_; rotate_left 2; refine' XS.ret ?_; rotate_left
   refine' XE.meth ?_ ?_ F.plainAttrs_str F.slot_str_join F.type_str_join CB.join (Nat.zero_le _) (fun Z => by kernel_rfl) (fun Z => by kernel_rfl) (by kernel_rfl) (fun Z => by kernel_rfl) (fun Z => by kernel_rfl); rotate_left 2; refine' XE.str; refine' XEs.co ?_ ?_; rotate_left 2; refine' XE.lo 3; refine' XEs.nil; refine' XSs.nil
  case p =>
    intro he l hl
    refine runP_ret [.pv (.str l), .un, .un, .un, .un, .un, .un, .un] rfl (by kernel_rfl) ?_
    simp only [cs]
    by_cases hq : 34 ∈ l
    · have hin : Txt.contains (S l) (S [34]) = true := by rw [has_one]; simpa using hq
      refine Ret.next [.pv (.str l), .un, .un, .un, .un, .un, .un, .un] (by simp [X0, Xs, hin]) ?_
      refine Ret.next [.pv (.str l), .pv (.int 0), .un, .un, .un, .un, .un, .un] rfl ?_
      refine Ret.next [.pv (.str l), .pv (.int 0), .pv .none, .un, .un, .un, .un, .un] rfl ?_
      refine Ret.next (SL4 l ⟨0, none, []⟩ .un .un) rfl ?_
      refine Ret.loop (enc := encI) (bs := items 0 l) ?hE (fun a bs σ => ∃ i, R4 l a bs σ i) (step4 l) ⟨0, none, []⟩ ?h0 (fun Z => rfl) ?hs ?hk
      case hE => simp only [SL4, X0, Option.bind_some, he]
      case h0 => exact ⟨0, ⟨_, _, rfl⟩, rfl, Nat.le_refl _, Nat.zero_le _, fun o h => by (cases h), Nat.le_refl _, Nat.le_refl _⟩
      case hs =>
        rintro a b bs σ ⟨i, ⟨p, c, rfl⟩, hit, h1, h2, h3, h4, h5⟩
        obtain ⟨t, r, e, ht1, ht2, rfl, rfl⟩ := items_next hit
        have hlen : i + t.length ≤ l.length := by have := congrArg List.length e; simp at this; lia
        have er : l.drop (i + t.length) = r := by rw [← List.drop_drop, e, List.drop_left' rfl]
        refine ⟨SL4 l a (.pv (.int ((i + t.length - 1 : Nat) : Int))) (.pv (.str t)), SL4 l (step4 l a (i + t.length - 1, t)) (.pv (.int ((i + t.length - 1 : Nat) : Int))) (.pv (.str t)), rfl, .inl ?_, i + t.length, ⟨_, _, rfl⟩, by rw [er], ?_, hlen, ?_, ?_, ?_⟩
        · by_cases hq : t = [34]
          · rcases hop : a.op with _ | o
            · simp [SL4, X0, X1, X2, X3, X7, X8, Xn, Xp, Xv, X13, X14, seqP, step4, hq, hop]
            · obtain ⟨h6, h7⟩ := h3 o hop
              by_cases hso : a.st = o
              · simp [SL4, X0, X1, X2, X3, X7, X8, Xd, Xm, Xn, Xp, Xx, X13, seqP, step4, hq, hop, hso]
              · have hso' : ¬ ((a.st : Int) = (o : Int)) := by lia
                have hrl : a.res.length ≤ LIM := by lia
                simp [SL4, X0, X1, X2, X3, X7, X8, Xd, Xm, Xn, Xp, Xx, X13, seqP, step4, hq, hop, hso, hso', sliceP_nn _ _ _ hl, hrl]
          · have hq' : (t == [34]) = false := by simpa using hq
            simp [SL4, X0, X1, X2, X3, X7, X8, Xn, Xp, X13, seqP, step4, hq, hq']
        · exact (step4_inv ht1 hlen h1 h3 h4 h5).1
        · exact (step4_inv ht1 hlen h1 h3 h4 h5).2.1
        · exact (step4_inv ht1 hlen h1 h3 h4 h5).2.2.1
        · exact (step4_inv ht1 hlen h1 h3 h4 h5).2.2.2
      case hk =>
        rintro σ' ⟨i, ⟨p, c, rfl⟩, hit, h1, h2, h3, h4, h5⟩
        have hall := strip_all l
        generalize (items 0 l).foldl (step4 l) ⟨0, none, []⟩ = a at *
        rw [← hall]
        have hlt : (a.res.flatten ++ l.drop a.st).length ≤ LIM := by rw [List.length_append, List.length_drop]; lia
        by_cases hs : a.st < l.length
        · have hs' : ((a.st : Int) < (l.length : Int)) := by lia
          refine Ret.next (SL4 l ⟨a.st, a.op, a.res ++ [l.drop a.st]⟩ p c) (by simp [SL4, X0, X1, X2, X3, Xh, X13, seqP, lenP_str _ hl, hs', sliceP_n _ _ hl, show a.res.length ≤ LIM by lia]) ?_
          refine Ret.here (Ret.of (σ' := frzS (SL4 l ⟨a.st, a.op, a.res ++ [l.drop a.st]⟩ p c)) ?_)
          have hj := joinP_nil (a.res ++ [l.drop a.st]) (by simpa using hlt)
          simp only [SL4, frzS_cons, frzS_nil, X0, X1, X17, X19, X1a, X1b, Option.bind_some, if_true, hj]
          simp
        · have hs' : ¬ ((a.st : Int) < (l.length : Int)) := by lia
          refine Ret.next (SL4 l a p c) (by simp [SL4, X0, X1, X2, X3, Xh, X13, seqP, lenP_str _ hl, hs']) ?_
          refine Ret.here (Ret.of (σ' := frzS (SL4 l a p c)) ?_)
          rw [List.drop_of_length_le (by lia), List.append_nil] at hlt ⊢
          have hj := joinP_nil a.res hlt
          simp only [SL4, frzS_cons, frzS_nil, X0, X1, X17, X19, X1a, X1b, Option.bind_some, if_true, hj]
          simp
    · have hin : Txt.contains (S l) (S [34]) = false := by rw [has_one]; simpa using hq
      rw [strip_none hq]
      refine Ret.here ?_
      refine Ret.of (σ' := [.pv (.str l), .un, .un, .un, .un, .un, .un, .un]) ?_
      simp [X0, Xs, X1a, X1b, hin, seqP, frzS_cons, frzS_nil]
noncomputable def SL5 (l : List Nat) (n : Nat) (p c : Sl) : List Sl := [.pv (.str l), .pv (.int (n : Int)), p, c, .un, .un]
theorem strip_len (l : List Nat) : (strip l).length ≤ l.length := by
  rw [← strip_all l]
  have : ∀ (n i : Nat) (a : A4), l.length - i ≤ n → a.st ≤ i → i ≤ l.length → (∀ o, a.op = some o → a.st ≤ o ∧ o < i) → a.res.length ≤ i → a.res.flatten.length ≤ a.st →
      ((items i (l.drop i)).foldl (step4 l) a).res.flatten.length ≤ ((items i (l.drop i)).foldl (step4 l) a).st ∧ ((items i (l.drop i)).foldl (step4 l) a).st ≤ l.length := by
    intro n
    induction n with
    | zero =>
      intro i a hn h1 h2 h3 h4 h5
      have : i = l.length := by lia
      subst this
      rw [List.drop_length]
      exact ⟨h5, h1⟩
    | succ n ih =>
      intro i a hn h1 h2 h3 h4 h5
      cases hd : items i (l.drop i) with
      | nil => exact ⟨h5, Nat.le_trans h1 h2⟩
      | cons b bs =>
        obtain ⟨pl, t, rfl, hpl, ht1, hlen, rfl, htk, hsh⟩ := items_step hd.symm
        have hp : pl = i + t.length - 1 := by lia
        obtain ⟨q1, q2, q3, q4⟩ := step4_inv ht1 hlen h1 h3 h4 h5
        rw [List.foldl_cons, hp]
        exact ih (i + t.length) _ (by lia) q1 hlen q2 q3 q4
  obtain ⟨q1, q2⟩ := this l.length 0 ⟨0, none, []⟩ (by lia) (Nat.le_refl _) (Nat.zero_le _) (fun o h => by cases h) (Nat.le_refl _) (Nat.le_refl _)
  rw [List.drop_zero] at q1 q2
  rw [List.length_append, List.length_drop]
  lia
/-- the loop over the pieces, with its way out -/
theorem check_loop {tp : Itm → List Sl → Option (List Sl)} {g gE : List Sl → Option (PF × List Sl)} {l : List Nat}
    (ht : ∀ (i n : Nat) (t : List Nat) (p c : Sl), tp (encI (i, t)) (SL5 l n p c) = some (SL5 l n (.pv (.int (i : Int))) (.pv (.str t))))
    (h1 : ∀ (i n : Nat), g (SL5 l n (.pv (.int (i : Int))) (.pv (.str [40]))) = some (.next, SL5 l (n + 1) (.pv (.int (i : Int))) (.pv (.str [40]))))
    (h2 : ∀ (i n : Nat), g (SL5 l (n + 1) (.pv (.int (i : Int))) (.pv (.str [41]))) = some (.next, SL5 l n (.pv (.int (i : Int))) (.pv (.str [41]))))
    (h3 : ∀ (i : Nat), ∃ σ, g (SL5 l 0 (.pv (.int (i : Int))) (.pv (.str [41]))) = some (.ret (.bool false), σ))
    (h4 : ∀ (i n : Nat) (t : List Nat), t ≠ [40] → t ≠ [41] → g (SL5 l n (.pv (.int (i : Int))) (.pv (.str t))) = some (.next, SL5 l n (.pv (.int (i : Int))) (.pv (.str t)))) :
    ∀ (bs : List (Nat × List Nat)) (n : Nat) (p c : Sl), (∃ σ, forP tp g gE (bs.map encI) (SL5 l n p c) = some (.ret (.bool false), σ) ∧ chkT n (bs.map (·.2)) = false) ∨
      ∃ n' p' c', forP tp g gE (bs.map encI) (SL5 l n p c) = gE (SL5 l n' p' c') ∧ chkT n (bs.map (·.2)) = (n' == 0)
  | [], n, p, c => .inr ⟨n, p, c, rfl, rfl⟩
  | (i, t) :: bs, n, p, c => by
    have e : forP tp g gE (((i, t) :: bs).map encI) (SL5 l n p c) = (g (SL5 l n (.pv (.int (i : Int))) (.pv (.str t)))).bind fun r => match r with
        | (.next, σ') => forP tp g gE (bs.map encI) σ'
        | (.cont, σ') => forP tp g gE (bs.map encI) σ'
        | (.brk, σ') => some (.next, σ')
        | (.ret p, σ') => some (.ret p, σ') := by
      show (tp (encI (i, t)) (SL5 l n p c)).bind _ = _
      rw [ht]; rfl
    rw [e]
    show (∃ σ, _ ∧ chkT n (t :: bs.map (·.2)) = false) ∨ ∃ n' p' c', _ ∧ chkT n (t :: bs.map (·.2)) = (n' == 0)
    by_cases q1 : t = [40]
    · subst q1
      rw [h1]
      exact check_loop ht h1 h2 h3 h4 bs (n + 1) _ _
    · by_cases q2 : t = [41]
      · subst q2
        cases n with
        | zero =>
          obtain ⟨σ, hσ⟩ := h3 i
          rw [hσ]
          exact .inl ⟨σ, rfl, rfl⟩
        | succ m =>
          rw [h2]
          exact check_loop ht h1 h2 h3 h4 bs m _ _
      · rw [h4 i n t q1 q2]
        have ec : chkT n (t :: bs.map (·.2)) = chkT n (bs.map (·.2)) := by rw [chkT.eq_def]; simp [q1, q2]
        rw [ec]
        exact check_loop ht h1 h2 h3 h4 bs n _ _
theorem check_ret {E : List Sl → Option (List Itm)} {tp : Itm → List Sl → Option (List Sl)} {g gE g₂ : List Sl → Option (PF × List Sl)} {l : List Nat} {bs : List (Nat × List Nat)} {p c : Sl}
    (hE : E (SL5 l 0 p c) = some (bs.map encI)) (hgE : ∀ σ, gE σ = some (.next, σ))
    (ht : ∀ (i n : Nat) (t : List Nat) (p c : Sl), tp (encI (i, t)) (SL5 l n p c) = some (SL5 l n (.pv (.int (i : Int))) (.pv (.str t))))
    (h1 : ∀ (i n : Nat), g (SL5 l n (.pv (.int (i : Int))) (.pv (.str [40]))) = some (.next, SL5 l (n + 1) (.pv (.int (i : Int))) (.pv (.str [40]))))
    (h2 : ∀ (i n : Nat), g (SL5 l (n + 1) (.pv (.int (i : Int))) (.pv (.str [41]))) = some (.next, SL5 l n (.pv (.int (i : Int))) (.pv (.str [41]))))
    (h3 : ∀ (i : Nat), ∃ σ, g (SL5 l 0 (.pv (.int (i : Int))) (.pv (.str [41]))) = some (.ret (.bool false), σ))
    (h4 : ∀ (i n : Nat) (t : List Nat), t ≠ [40] → t ≠ [41] → g (SL5 l n (.pv (.int (i : Int))) (.pv (.str t))) = some (.next, SL5 l n (.pv (.int (i : Int))) (.pv (.str t))))
    (h5 : ∀ (n : Nat) (p c : Sl), Ret (g₂ (SL5 l n p c)) (.bool (n == 0))) : Ret (seqP (fun σ => (E σ).bind fun xs => forP tp g gE xs σ) g₂ (SL5 l 0 p c)) (.bool (chkT 0 (bs.map (·.2)))) := by
  rcases check_loop (gE := gE) ht h1 h2 h3 h4 bs 0 p c with ⟨σ, e, e2⟩ | ⟨n, p', c', e, e2⟩
  · rw [e2]
    refine Ret.here ⟨σ, ?_⟩
    show (E _).bind _ = _
    rw [hE, Option.bind_some, e]
  · rw [e2]
    refine Ret.next (SL5 l n p' c') ?_ (h5 n p' c')
    show (E _).bind _ = _
    rw [hE, Option.bind_some, e, hgE]
theorem run5 {prog : Program} {w : World} {hb : Heap} (escP : List PV → Option (List Itm)) (stripP : List PV → Option PV) (h_strip_quoted_realnames : FV prog w hb "_strip_quoted_realnames" 3 stripP) (i_iter_escaped_chars : IV prog w hb "_iter_escaped_chars" 2 escP) :
    ∃ g, XSs prog w hb (fnScope (nth 5)) 3 (fnBody (nth 5)) g ∧ ((∀ l : List Nat, escP [.str l] = some ((items 0 l).map encI)) → (∀ l : List Nat, l.length ≤ LIM → stripP [.str l] = some (.str (strip l))) → ∀ l : List Nat, l.length ≤ LIM → runP (fnScope (nth 5)).names [("addr" : Str)] g [.str l] = some (.bool (check l))) := by
  refine' ⟨_, ?w, ?p⟩; rotate_left
  conv in (fnBody _) => whnf
  conv in (fnScope _) => whnf
  with_reducible
   refine' XSs.cons ?_ ?_; rotate_left 2; refine' XS.set 0 ?_; rotate_left; refine' XE.cv (by assumption) ?_; rotate_left; refine' XEs.co ?_ ?_; rotate_left 2; refine' XE.lo 0; refine' XEs.nil; refine' XSs.cons ?_ ?_; rotate_left 2; refine' XS.set 1 ?_; rotate_left; refine' XE.int; refine' XSs.cons ?_ ?_; rotate_left 2; refine' XS.for ?_ ?_ ?_ ?_ (fun Z Z => by kernel_rfl); rotate_left 4
   refine' XI.callIV (by kernel_rfl) (by assumption) ?_ (by decide) (by kernel_rfl) (fun Z => by kernel_rfl) (fun Z => by kernel_rfl); rotate_left; refine' XEs.co ?_ ?_; rotate_left 2; refine' XE.lo 0; refine' XEs.nil; refine' TT.many ?_ (fun Z => by kernel_rfl) (fun Z => by kernel_rfl); rotate_left; refine' TGs.cons ?_ ?_ (fun Z => by kernel_rfl); rotate_left 2
   refine' TG.loc (i := 2) (by kernel_rfl); refine' TGs.cons ?_ ?_ (fun Z => by kernel_rfl); rotate_left 2; refine' TG.loc (i := 3) (by kernel_rfl); refine' TGs.nil; refine' XSs.cons ?_ ?_; rotate_left 2; refine' XS.ite ?_ ?_ ?_; rotate_left 3; refine' XT.cmp ?_ ?_ (by kernel_rfl); rotate_left 2; refine' XE.lo 3; refine' XE.str; refine' XSs.cons ?_ ?_; rotate_left 2
   refine' XS.aug (i := 1) (by kernel_rfl) ?_; rotate_left; refine' XE.int; refine' XSs.nil; refine' XSs.cons ?_ ?_; rotate_left 2; refine' XS.ite ?_ ?_ ?_; rotate_left 3; refine' XT.cmp ?_ ?_ (by kernel_rfl); rotate_left 2; refine' XE.lo 3; refine' XE.str; refine' XSs.cons ?_ ?_; rotate_left 2; refine' XS.aug (i := 1) (by kernel_rfl) ?_; rotate_left; refine' XE.int
   refine' XSs.cons ?_ ?_; rotate_left 2; refine' XS.ite ?_ ?_ ?_; rotate_left 3; refine' XT.cmp ?_ ?_ (by kernel_rfl); rotate_left 2; refine' XE.lo 1; refine' XE.int; refine' XSs.cons ?_ ?_; rotate_left 2; refine' XS.ret ?_; rotate_left; refine' XE.bool; refine' XSs.nil; refine' XSs.nil; refine' XSs.nil; refine' XSs.nil; refine' XSs.nil; refine' XSs.nil; refine' XSs.nil
   refine' XSs.cons ?_ ?_; rotate_left 2; refine' XS.ret ?_; rotate_left; refine' XE.cmp ?_ ?_ (by kernel_rfl); rotate_left 2; refine' XE.lo 1; refine' XE.int; refine' XSs.nil
  case p =>
    intro he hs l hl
    refine runP_ret [.pv (.str l), .un, .un, .un, .un, .un] rfl (by kernel_rfl) ?_
    simp only [cs]
    refine Ret.next [.pv (.str (strip l)), .un, .un, .un, .un, .un] (by repeat' (first | exact (hs l hl) | exact congrArg some (hs l hl) | rfl | apply be | apply me)) ?_
    refine Ret.next (SL5 (strip l) 0 .un .un) rfl ?_
    generalize hS : strip l = s
    have hc : check l = chkT 0 ((items 0 s).map (·.2)) := by unfold check; rw [hS, toks_items]
    rw [hc]
    refine check_ret ?_ (fun Z => rfl) ?_ ?_ ?_ ?_ ?_ ?_
    · simp only [SL5, X0, Option.bind_some, he]
    · intro i n t p c; rfl
    · intro i n; simp [SL5, X0, X1, X7, X8, Xf, Xg, Xh, Xn, seqP]
    · intro i n
      have e : ((n + 1 : Nat) : Int) - 1 = (n : Int) := by lia
      have e2 : ¬ ((n : Int) < 0) := by lia
      simp [SL5, X0, X1, X7, X8, Xf, Xg, Xh, Xn, seqP, e2]
    · intro i
      refine ⟨frzS [.pv (.str s), .pv (.int (-1)), .pv (.int (i : Int)), .pv (.str [41]), .un, .un], ?_⟩
      repeat' (first | rfl | apply be | apply me)
    · intro i n t q1 q2
      have e1 : (t == [40]) = false := by simpa using q1
      have e2 : (t == [41]) = false := by simpa using q2
      repeat' (first | exact e1 | exact congrArg some e1 | exact e2 | exact congrArg some e2 | rfl | apply be | apply me)
    · intro n p c
      refine Ret.here (Ret.of (σ' := frzS (SL5 s n p c)) ?_)
      have : ((n : Int) == 0) = (n == 0) := by rw [Bool.eq_iff_iff, beq_iff_eq, beq_iff_eq]; lia
      simp [SL5, X0, X1, Xl, X1a, X1b, frzS_cons, frzS_nil, this]
noncomputable def BAD : List Nat := [40, 39, 39, 44, 32, 39, 39, 41]
theorem cs_bad : (Str.ofString "('', '')").cps.toList = BAD := by kernel_rfl
noncomputable def SL6 (ls done : List (List Nat)) (v : Sl) : List Sl := [.pv (.lst (ls.map .str)), .own (done.map .str), v, .un]
noncomputable def keep (l : List Nat) : List Nat := if check l = true then l else BAD
theorem run6 {prog : Program} {w : World} {hb : Heap} (checkP : List PV → Option PV) (h_check_parenthesis : FV prog w hb "_check_parenthesis" 4 checkP) :
    ∃ g, XSs prog w hb (fnScope (nth 6)) 4 (fnBody (nth 6)) g ∧ ((∀ l : List Nat, l.length ≤ LIM → checkP [.str l] = some (.bool (check l))) → ∀ ls : List (List Nat), ls.length ≤ LIM → (∀ l ∈ ls, l.length ≤ LIM) → runP (fnScope (nth 6)).names [("email_header_fields" : Str)] g [.lst (ls.map .str)] = some (.lst ((ls.map keep).map .str))) := by
  refine' ⟨_, ?w, ?p⟩; rotate_left
  conv in (fnBody _) => whnf
  conv in (fnScope _) => whnf
  with_reducible
   refine' XSs.cons ?_ ?_; rotate_left 2; refine' XS.own (i := 1) (by kernel_rfl) (XL.lst ?_) (fun Z Z => by kernel_rfl); rotate_left; refine' XEs.nil; refine' XSs.cons ?_ ?_; rotate_left 2; refine' XS.for ?_ ?_ ?_ ?_ (fun Z Z => by kernel_rfl); rotate_left 4; refine' XI.val ?_; rotate_left; refine' XE.lo 0; refine' TT.one ?_; rotate_left; refine' TG.loc (i := 2) (by kernel_rfl)
   refine' XSs.cons ?_ ?_; rotate_left 2; refine' XS.ite ?_ ?_ ?_; rotate_left 3; refine' XT.not ?_; rotate_left; refine' XT.val ?_ (fun Z Z => by kernel_rfl); rotate_left; refine' XE.cv (by assumption) ?_; rotate_left; refine' XEs.co ?_ ?_; rotate_left 2; refine' XE.lo 2; refine' XEs.nil; refine' XSs.cons ?_ ?_; rotate_left 2; refine' XS.set 2 ?_; rotate_left; refine' XE.str; refine' XSs.nil
   refine' XSs.nil; refine' XSs.cons ?_ ?_; rotate_left 2; refine' XS.append (i := 1) (by kernel_rfl) ?_ (by kernel_rfl) (fun Z => by kernel_rfl) (by kernel_rfl); rotate_left; refine' XE.lo 2; refine' XSs.nil; refine' XSs.nil; refine' XSs.cons ?_ ?_; rotate_left 2; refine' XS.ret ?_; rotate_left; refine' XE.lo 1; refine' XSs.nil
  case p =>
    intro hc ls hls hl
    refine runP_ret [.pv (.lst (ls.map .str)), .un, .un, .un] rfl (by kernel_rfl) ?_
    simp only [cs_bad]
    refine Ret.next (SL6 ls [] .un) rfl ?_
    refine Ret.loop (enc := fun l => .one (.str l)) (bs := ls) ?hE (fun done bs σ => (∃ v, σ = SL6 ls done v) ∧ done ++ bs.map keep = ls.map keep ∧ (∀ l ∈ bs, l.length ≤ LIM)) (fun d l => d ++ [keep l]) [] ?h0 (fun Z => rfl) ?hs ?hk
    case hE => simp [SL6, X0, X15]
    case h0 => exact ⟨⟨_, rfl⟩, rfl, hl⟩
    case hs =>
      rintro d l bs σ ⟨⟨v, rfl⟩, h1, h2⟩
      have hd : d.length ≤ LIM := by have := congrArg List.length h1; simp at this; lia
      have hk := hc l (h2 l (List.mem_cons_self ..))
      refine ⟨SL6 ls d (.pv (.str l)), SL6 ls (d ++ [keep l]) (.pv (.str (keep l))), rfl, .inl ?_, ⟨_, rfl⟩, by rw [← h1]; simp, fun x hx => h2 x (List.mem_cons_of_mem _ hx)⟩
      rcases hck : check l with _ | _
      · simp [SL6, X0, X1, X2, X3, X7, X8, Xz, seqP, hk, hck, keep, hd]
      · simp [SL6, X0, X1, X2, X3, X7, X8, Xz, seqP, hk, hck, keep, hd]
    case hk =>
      rintro σ' ⟨⟨v, rfl⟩, h1, h2⟩
      generalize List.foldl (fun d l => d ++ [keep l]) [] ls = d at *
      rw [List.map_nil, List.append_nil] at h1
      rw [← h1]
      exact Ret.here (Ret.of (σ' := frzS (SL6 ls d v)) rfl)
theorem run7 {prog : Program} {w : World} {hb : Heap}  (g_TICK : GV hb "TICK" (.str [39])) (h_len : FV prog w hb "len" 0 lenP) :
    ∃ g, XSs prog w hb (fnScope (nth 7)) 0 (fnBody (nth 7)) g ∧ ((∀ a b : List Nat, 39 ∉ a → 39 ∉ b → (a ++ [39] ++ b).length ≤ 1000000 → runP (fnScope (nth 7)).names [("s" : Str)] g [.str (a ++ [39] ++ b)] = some (.tup [.none, .none, .str (a ++ [39] ++ b)])) ∧
    (∀ a b d : List Nat, 39 ∉ a → 39 ∉ b → (a ++ [39] ++ b ++ [39] ++ d).length ≤ 1000000 → runP (fnScope (nth 7)).names [("s" : Str)] g [.str (a ++ [39] ++ b ++ [39] ++ d)] = some (.lst [.str a, .str b, .str d]))) := by
  refine' ⟨_, ?w, ?p⟩; rotate_left
  conv in (fnBody _) => whnf
  conv in (fnScope _) => whnf
  with_reducible
   refine' XSs.cons ?_ ?_; rotate_left 2; refine' XS.set 1 ?_; rotate_left; refine' XE.meth ?_ ?_ F.plainAttrs_str F.slot_str_split F.type_str_split CB.split (Nat.zero_le _) (fun Z => by kernel_rfl) (fun Z => by kernel_rfl) (by kernel_rfl) (fun Z => by kernel_rfl) (fun Z => by kernel_rfl); rotate_left 2; refine' XE.lo 0; refine' XEs.co ?_ ?_; rotate_left 2
   refine' XE.globV (by kernel_rfl) (by assumption) (by kernel_rfl); refine' XEs.co ?_ ?_; rotate_left 2; refine' XE.int; refine' XEs.nil; refine' XSs.cons ?_ ?_; rotate_left 2; refine' XS.ite ?_ ?_ ?_; rotate_left 3; refine' XT.cmp ?_ ?_ (by kernel_rfl); rotate_left 2; refine' XE.cv (by assumption) ?_; rotate_left; refine' XEs.co ?_ ?_; rotate_left 2; refine' XE.lo 1; refine' XEs.nil
   refine' XE.int; refine' XSs.cons ?_ ?_; rotate_left 2; refine' XS.ret ?_; rotate_left; refine' XE.tup ?_ (by decide); rotate_left; refine' XEs.co ?_ ?_; rotate_left 2; refine' XE.non; refine' XEs.co ?_ ?_; rotate_left 2; refine' XE.non; refine' XEs.co ?_ ?_; rotate_left 2; refine' XE.lo 0; refine' XEs.nil; refine' XSs.nil; refine' XSs.nil; refine' XSs.cons ?_ ?_; rotate_left 2
   refine' XS.ret ?_; rotate_left; refine' XE.lo 1; refine' XSs.nil
  case p =>
    constructor
    · intro a b ha hb hl
      have hs : splitP [.str (a ++ [39] ++ b), .str [39], .int 2] = some (.lst [.str a, .str b]) := by
        show (if _ then _ else _) = _
        rw [if_pos ⟨by simp, by decide, by decide, hl⟩]
        have e := split2 a b 39 ha hb
        have e2 := congrArg (List.map PV.str) e
        rw [List.map_map] at e2
        exact congrArg (fun x => some (PV.lst x)) e2
      generalize a ++ [39] ++ b = l at *
      refine runP_ret [.pv (.str l), .un, .un, .un] rfl (by kernel_rfl) ?_
      refine Ret.next [.pv (.str l), .pv (.lst [.str a, .str b]), .un, .un] (by repeat' (first | exact hs | exact congrArg some hs | rfl | apply be | apply me)) ?_
      refine Ret.here (Ret.of (σ' := [.pv (.str l), .pv (.lst [.str a, .str b]), .un, .un]) ?_)
      repeat' (first | exact lenP | exact congrArg some lenP | exact LIM | exact congrArg some LIM | exact frzS_cons | exact congrArg some frzS_cons | exact frzS_nil | exact congrArg some frzS_nil | rfl | apply be | apply me)
    · intro a b d ha hb hl
      have hs : splitP [.str (a ++ [39] ++ b ++ [39] ++ d), .str [39], .int 2] = some (.lst [.str a, .str b, .str d]) := by
        show (if _ then _ else _) = _
        rw [if_pos ⟨by simp, by decide, by decide, hl⟩]
        have e := split3 a b d 39 ha hb
        have e2 := congrArg (List.map PV.str) e
        rw [List.map_map] at e2
        exact congrArg (fun x => some (PV.lst x)) e2
      generalize a ++ [39] ++ b ++ [39] ++ d = l at *
      refine runP_ret [.pv (.str l), .un, .un, .un] rfl (by kernel_rfl) ?_
      refine Ret.next [.pv (.str l), .pv (.lst [.str a, .str b, .str d]), .un, .un] (by repeat' (first | exact hs | exact congrArg some hs | rfl | apply be | apply me)) ?_
      refine Ret.next [.pv (.str l), .pv (.lst [.str a, .str b, .str d]), .un, .un] (by repeat' (first | exact lenP | exact congrArg some lenP | exact LIM | exact congrArg some LIM | rfl | apply be | apply me)) ?_
      exact Ret.here (Ret.of (σ' := [.pv (.str l), .pv (.lst [.str a, .str b, .str d]), .un, .un]) rfl)
theorem cs_ascii : (Str.ofString "ascii").cps.toList = [97, 115, 99, 105, 105] := by kernel_rfl
noncomputable def valN (c : Nat) : Nat := if 65 ≤ c ∧ c ≤ 90 then c - 65 else if 97 ≤ c ∧ c ≤ 122 then c - 71 else if 48 ≤ c ∧ c ≤ 57 then c + 4 else if c = 43 then 62 else if c = 47 then 63 else 64
theorem run17 {prog : Program} {w : World} {hb : Heap}   :
    ∃ g, XSs prog w hb (fnScope (nth 17)) 0 (fnBody (nth 17)) g ∧ ∀ c : Nat, runP (fnScope (nth 17)).names [("c" : Str)] g [.int (c : Int)] = some (.int (valN c : Nat)) := by
  refine' ⟨_, ?w, ?p⟩; rotate_left
  conv in (fnBody _) => whnf
  conv in (fnScope _) => whnf
  with_reducible
   refine' XSs.cons ?_ ?_; rotate_left 2; refine' XS.ite ?_ ?_ ?_; rotate_left 3; refine' XT.chain ?_ ?_ ?_ (by kernel_rfl); rotate_left 3; refine' XE.int; refine' XE.lo 0; refine' XE.int; refine' XSs.cons ?_ ?_; rotate_left 2; refine' XS.ret ?_; rotate_left; refine' XE.bin ?_ ?_; rotate_left 2; refine' XE.lo 0; refine' XE.int; refine' XSs.nil; refine' XSs.nil; refine' XSs.cons ?_ ?_; rotate_left 2
   refine' XS.ite ?_ ?_ ?_; rotate_left 3; refine' XT.chain ?_ ?_ ?_ (by kernel_rfl); rotate_left 3; refine' XE.int; refine' XE.lo 0; refine' XE.int; refine' XSs.cons ?_ ?_; rotate_left 2; refine' XS.ret ?_; rotate_left; refine' XE.bin ?_ ?_; rotate_left 2; refine' XE.lo 0; refine' XE.int; refine' XSs.nil; refine' XSs.nil; refine' XSs.cons ?_ ?_; rotate_left 2
   refine' XS.ite ?_ ?_ ?_; rotate_left 3; refine' XT.chain ?_ ?_ ?_ (by kernel_rfl); rotate_left 3; refine' XE.int; refine' XE.lo 0; refine' XE.int; refine' XSs.cons ?_ ?_; rotate_left 2; refine' XS.ret ?_; rotate_left; refine' XE.bin ?_ ?_; rotate_left 2; refine' XE.lo 0; refine' XE.int; refine' XSs.nil; refine' XSs.nil; refine' XSs.cons ?_ ?_; rotate_left 2
   refine' XS.ite ?_ ?_ ?_; rotate_left 3; refine' XT.cmp ?_ ?_ (by kernel_rfl); rotate_left 2; refine' XE.lo 0; refine' XE.int; refine' XSs.cons ?_ ?_; rotate_left 2; refine' XS.ret ?_; rotate_left; refine' XE.int; refine' XSs.nil; refine' XSs.nil; refine' XSs.cons ?_ ?_; rotate_left 2; refine' XS.ite ?_ ?_ ?_; rotate_left 3; refine' XT.cmp ?_ ?_ (by kernel_rfl); rotate_left 2; refine' XE.lo 0
   refine' XE.int; refine' XSs.cons ?_ ?_; rotate_left 2; refine' XS.ret ?_; rotate_left; refine' XE.int; refine' XSs.nil; refine' XSs.nil; refine' XSs.cons ?_ ?_; rotate_left 2; refine' XS.ret ?_; rotate_left; refine' XE.int; refine' XSs.nil
  case p =>
    intro c
    refine runP_ret [.pv (.int (c : Int))] rfl (by kernel_rfl) ?_
    by_cases h1 : 65 ≤ c ∧ c ≤ 90
    · have e : (c : Int) - 65 = ((valN c : Nat) : Int) := by unfold valN; rw [if_pos h1]; lia
      have a1 : (65 : Int) ≤ c := by lia
      have a2 : (c : Int) ≤ 90 := by lia
      exact Ret.here (Ret.of (σ' := [.pv (.int (c : Int))]) (by simp [X0, Xe, Xi, X1a, seqP, frzS_cons, frzS_nil, a1, a2, e]))
    have b1 : ¬ ((65 : Int) ≤ c ∧ (c : Int) ≤ 90) := by lia
    refine Ret.next [.pv (.int (c : Int))] (by by_cases q : (65 : Int) ≤ c <;> simp [X0, Xi, seqP, q]; lia) ?_
    by_cases h2 : 97 ≤ c ∧ c ≤ 122
    · have e : (c : Int) - 71 = ((valN c : Nat) : Int) := by unfold valN; rw [if_neg h1, if_pos h2]; lia
      have a1 : (97 : Int) ≤ c := by lia
      have a2 : (c : Int) ≤ 122 := by lia
      exact Ret.here (Ret.of (σ' := [.pv (.int (c : Int))]) (by simp [X0, Xe, Xi, X1a, seqP, frzS_cons, frzS_nil, a1, a2, e]))
    refine Ret.next [.pv (.int (c : Int))] (by by_cases q : (97 : Int) ≤ c <;> simp [X0, Xi, seqP, q]; lia) ?_
    by_cases h3 : 48 ≤ c ∧ c ≤ 57
    · have e : (c : Int) + 4 = ((valN c : Nat) : Int) := by unfold valN; rw [if_neg h1, if_neg h2, if_pos h3]; lia
      have a1 : (48 : Int) ≤ c := by lia
      have a2 : (c : Int) ≤ 57 := by lia
      exact Ret.here (Ret.of (σ' := [.pv (.int (c : Int))]) (by simp [X0, Xd, Xi, X1a, seqP, frzS_cons, frzS_nil, a1, a2, e]))
    refine Ret.next [.pv (.int (c : Int))] (by by_cases q : (48 : Int) ≤ c <;> simp [X0, Xi, seqP, q]; lia) ?_
    by_cases h4 : c = 43
    · have e : valN c = 62 := by unfold valN; rw [if_neg h1, if_neg h2, if_neg h3, if_pos h4]
      rw [e]
      subst h4
      exact Ret.here (Ret.of (σ' := [.pv (.int ((43 : Nat) : Int))]) rfl)
    have a4 : ((c : Int) == 43) = false := by rw [beq_eq_false_iff_ne]; lia
    refine Ret.next [.pv (.int (c : Int))] (by repeat' (first | exact a4 | exact congrArg some a4 | rfl | apply be | apply me)) ?_
    by_cases h5 : c = 47
    · have e : valN c = 63 := by unfold valN; rw [if_neg h1, if_neg h2, if_neg h3, if_neg h4, if_pos h5]
      rw [e]
      subst h5
      exact Ret.here (Ret.of (σ' := [.pv (.int ((47 : Nat) : Int))]) rfl)
    have a5 : ((c : Int) == 47) = false := by rw [beq_eq_false_iff_ne]; lia
    refine Ret.next [.pv (.int (c : Int))] (by repeat' (first | exact a5 | exact congrArg some a5 | rfl | apply be | apply me)) ?_
    have e : valN c = 64 := by unfold valN; rw [if_neg h1, if_neg h2, if_neg h3, if_neg h4, if_neg h5]
    rw [e]
    exact Ret.here (Ret.of (σ' := [.pv (.int (c : Int))]) rfl)
theorem run10 {prog : Program} {w : World} {hb : Heap}  (h_isinstance : FV prog w hb "isinstance" 0 isinstP) (g_str : GV hb "str" (.ty "str")) :
    ∃ g, XSs prog w hb (fnScope (nth 10)) 0 (fnBody (nth 10)) g ∧ ∀ l : List Nat, (∀ c ∈ l, c < 128) → l.length ≤ LIM → runP (fnScope (nth 10)).names [("s" : Str)] g [.str l] = some (.byt (l.map (·.toUInt8))) := by
  refine' ⟨_, ?w, ?p⟩; rotate_left
  conv in (fnBody _) => whnf
  conv in (fnScope _) => whnf
  with_reducible
   refine' XSs.cons ?_ ?_; rotate_left 2; refine' XS.ite ?_ ?_ ?_; rotate_left 3; refine' XT.val ?_ (fun Z Z => by kernel_rfl); rotate_left; refine' XE.cv (by assumption) ?_; rotate_left; refine' XEs.co ?_ ?_; rotate_left 2; refine' XE.lo 0; refine' XEs.co ?_ ?_; rotate_left 2; refine' XE.globV (by kernel_rfl) (by assumption) (by kernel_rfl); refine' XEs.nil; refine' XSs.cons ?_ ?_; rotate_left 2
   refine' XS.tri ?_; rotate_left; refine' XSs.cons ?_ ?_; rotate_left 2; refine' XS.ret ?_; rotate_left; refine' XE.meth ?_ ?_ F.plainAttrs_str F.slot_str_encode F.type_str_encode CB.encode (Nat.zero_le _) (fun Z => by kernel_rfl) (fun Z => by kernel_rfl) (by kernel_rfl) (fun Z => by kernel_rfl) (fun Z => by kernel_rfl); rotate_left 2; refine' XE.lo 0; refine' XEs.co ?_ ?_; rotate_left 2
   refine' XE.str; refine' XEs.nil; refine' XSs.nil; refine' XSs.nil; refine' XSs.nil; refine' XSs.cons ?_ ?_; rotate_left 2; refine' XS.ite ?_ ?_ ?_; rotate_left 3; refine' XT.val ?_ (fun Z Z => by kernel_rfl); rotate_left; refine' XE.cv (by assumption) ?_; rotate_left; refine' XEs.co ?_ ?_; rotate_left 2; refine' XE.lo 0; refine' XEs.co ?_ ?_; rotate_left 2; refine' XE.dead; refine' XEs.nil
   refine' XSs.cons ?_ ?_; rotate_left 2; refine' XS.ret ?_; rotate_left; refine' XE.lo 0; refine' XSs.nil; refine' XSs.nil; refine' XSs.cons ?_ ?_; rotate_left 2; refine' XS.tri ?_; rotate_left; refine' XSs.cons ?_ ?_; rotate_left 2; refine' XS.ret ?_; rotate_left; refine' XE.dead; refine' XSs.nil; refine' XSs.nil
  case p =>
    intro l hl hn
    refine runP_ret [.pv (.str l), .un, .un, .un, .un, .un, .un, .un] rfl (by kernel_rfl) ?_
    have e : encP [.str l, .str [97, 115, 99, 105, 105]] = some (.byt (l.map (·.toUInt8))) := by show (if _ then _ else _) = _; rw [if_pos ⟨rfl, hl, hn⟩]
    refine Ret.here (Ret.of (σ' := [.pv (.str l), .un, .un, .un, .un, .un, .un, .un]) ?_)
    repeat' (first | exact isinstP | exact congrArg some isinstP | exact frzS_cons | exact congrArg some frzS_cons | exact frzS_nil | exact congrArg some frzS_nil | exact cs_ascii | exact congrArg some cs_ascii | exact e | exact congrArg some e | rfl | apply be | apply me)
theorem run13 {prog : Program} {w : World} {hb : Heap}  (h_type : FV prog w hb "type" 0 typeP) (g_str : GV hb "str" (.ty "str")) (g_bytes : GV hb "bytes" (.ty "bytes")) :
    ∃ g, XSs prog w hb (fnScope (nth 13)) 0 (fnBody (nth 13)) g ∧ ∀ l : List UInt8, runP (fnScope (nth 13)).names [("data" : Str)] g [.byt l] = some (.byt l) := by
  refine' ⟨_, ?w, ?p⟩; rotate_left
  conv in (fnBody _) => whnf
  conv in (fnScope _) => whnf
  with_reducible
   refine' XSs.cons ?_ ?_; rotate_left 2; refine' XS.set 1 ?_; rotate_left; refine' XE.cv (by assumption) ?_; rotate_left; refine' XEs.co ?_ ?_; rotate_left 2; refine' XE.lo 0; refine' XEs.nil; refine' XSs.cons ?_ ?_; rotate_left 2; refine' XS.ite ?_ ?_ ?_; rotate_left 3; refine' XT.cmp ?_ ?_ (by kernel_rfl); rotate_left 2; refine' XE.lo 1
   refine' XE.globV (by kernel_rfl) (by assumption) (by kernel_rfl); refine' XSs.cons ?_ ?_; rotate_left 2; refine' XS.ite ?_ ?_ ?_; rotate_left 3; refine' XT.not ?_; rotate_left; refine' XT.val ?_ (fun Z Z => by kernel_rfl); rotate_left; refine' XE.dead; refine' XSs.cons ?_ ?_; rotate_left 2; refine' XS.dead; refine' XSs.nil; refine' XSs.nil; refine' XSs.cons ?_ ?_; rotate_left 2
   refine' XS.ret ?_; rotate_left; refine' XE.meth ?_ ?_ F.plainAttrs_str F.slot_str_encode F.type_str_encode CB.encode (Nat.zero_le _) (fun Z => by kernel_rfl) (fun Z => by kernel_rfl) (by kernel_rfl) (fun Z => by kernel_rfl) (fun Z => by kernel_rfl); rotate_left 2; refine' XE.lo 0; refine' XEs.co ?_ ?_; rotate_left 2; refine' XE.str; refine' XEs.nil; refine' XSs.nil; refine' XSs.nil
   refine' XSs.cons ?_ ?_; rotate_left 2; refine' XS.ite ?_ ?_ ?_; rotate_left 3; refine' XT.cmp ?_ ?_ (by kernel_rfl); rotate_left 2; refine' XE.lo 1; refine' XE.globV (by kernel_rfl) (by assumption) (by kernel_rfl); refine' XSs.cons ?_ ?_; rotate_left 2; refine' XS.ret ?_; rotate_left; refine' XE.lo 0; refine' XSs.nil; refine' XSs.nil; refine' XSs.cons ?_ ?_; rotate_left 2
   refine' XS.ite ?_ ?_ ?_; rotate_left 3; refine' XT.cmp ?_ ?_ (by kernel_rfl); rotate_left 2; refine' XE.lo 1; refine' XE.dead; refine' XSs.cons ?_ ?_; rotate_left 2; refine' XS.ret ?_; rotate_left; refine' XE.dead; refine' XSs.nil; refine' XSs.nil; refine' XSs.cons ?_ ?_; rotate_left 2; refine' XS.dead; refine' XSs.nil
  case p =>
    intro l
    refine runP_ret [.pv (.byt l), .un, .un, .un, .un, .un, .un, .un] rfl (by kernel_rfl) ?_
    refine Ret.next [.pv (.byt l), .pv (.ty "bytes"), .un, .un, .un, .un, .un, .un] rfl ?_
    refine Ret.next [.pv (.byt l), .pv (.ty "bytes"), .un, .un, .un, .un, .un, .un] (by repeat' (first | rfl | apply be | apply me)) ?_
    exact Ret.here (Ret.of (σ' := [.pv (.byt l), .pv (.ty "bytes"), .un, .un, .un, .un, .un, .un]) (by repeat' (first | exact frzS_cons | exact congrArg some frzS_cons | exact frzS_nil | exact congrArg some frzS_nil | rfl | apply be | apply me)))
theorem run21 {prog : Program} {w : World} {hb : Heap} (b2aP : PV → PV → Option PV) (k_b2a_base64 : KV prog w hb "b2a_base64" "newline" 2 b2aP) :
    ∃ g, XSs prog w hb (fnScope (nth 21)) 2 (fnBody (nth 21)) g ∧ ∀ (l e : List UInt8), b2aP (.byt l) (.bool false) = some (.byt e) → runP (fnScope (nth 21)).names [("s" : Str), ("altchars" : Str)] g [.byt l, .none] = some (.byt e) := by
  refine' ⟨_, ?w, ?p⟩; rotate_left
  conv in (fnBody _) => whnf
  conv in (fnScope _) => whnf
  with_reducible
   refine' XSs.cons ?_ ?_; rotate_left 2; refine' XS.set 2 ?_; rotate_left; refine' XE.callKV (by kernel_rfl) (by assumption) ?_ ?_ (by decide) (by kernel_rfl) (fun Z => by kernel_rfl) (fun Z => by kernel_rfl); rotate_left 2; refine' XE.lo 0; refine' XE.bool; refine' XSs.cons ?_ ?_; rotate_left 2; refine' XS.ite ?_ ?_ ?_; rotate_left 3; refine' XT.cmp ?_ ?_ (by kernel_rfl); rotate_left 2
   refine' XE.lo 1; refine' XE.non; refine' XSs.cons ?_ ?_; rotate_left 2; refine' XS.dead; refine' XSs.cons ?_ ?_; rotate_left 2; refine' XS.ret ?_; rotate_left; refine' XE.dead; refine' XSs.nil; refine' XSs.nil; refine' XSs.cons ?_ ?_; rotate_left 2; refine' XS.ret ?_; rotate_left; refine' XE.lo 2; refine' XSs.nil
  case p =>
    intro l e h
    refine runP_ret [.pv (.byt l), .pv .none, .un, .un, .un, .un, .un] rfl (by kernel_rfl) ?_
    refine Ret.next [.pv (.byt l), .pv .none, .pv (.byt e), .un, .un, .un, .un] (by repeat' (first | exact h | exact congrArg some h | rfl | apply be | apply me)) ?_
    refine Ret.next [.pv (.byt l), .pv .none, .pv (.byt e), .un, .un, .un, .un] (by repeat' (first | rfl | apply be | apply me)) ?_
    exact Ret.here (Ret.of (σ' := [.pv (.byt l), .pv .none, .pv (.byt e), .un, .un, .un, .un]) rfl)
theorem run22 {prog : Program} {w : World} {hb : Heap} (bfdP : List PV → Option PV) (a2bP : PV → PV → Option PV) (h_bytes_from_decode_data : FV prog w hb "_bytes_from_decode_data" 1 bfdP) (k_a2b_base64 : KV prog w hb "a2b_base64" "strict_mode" 2 a2bP) :
    ∃ g, XSs prog w hb (fnScope (nth 22)) 2 (fnBody (nth 22)) g ∧ ∀ (l : List Nat) (b e : List UInt8), bfdP [.str l] = some (.byt b) → a2bP (.byt b) (.bool false) = some (.byt e) → runP (fnScope (nth 22)).names [("s" : Str), ("altchars" : Str), ("validate" : Str)] g [.str l, .none, .bool false] = some (.byt e) := by
  refine' ⟨_, ?w, ?p⟩; rotate_left
  conv in (fnBody _) => whnf
  conv in (fnScope _) => whnf
  with_reducible
   refine' XSs.cons ?_ ?_; rotate_left 2; refine' XS.set 0 ?_; rotate_left; refine' XE.cv (by assumption) ?_; rotate_left; refine' XEs.co ?_ ?_; rotate_left 2; refine' XE.lo 0; refine' XEs.nil; refine' XSs.cons ?_ ?_; rotate_left 2; refine' XS.ite ?_ ?_ ?_; rotate_left 3; refine' XT.cmp ?_ ?_ (by kernel_rfl); rotate_left 2; refine' XE.lo 1; refine' XE.non; refine' XSs.cons ?_ ?_; rotate_left 2
   refine' XS.set 1 ?_; rotate_left; refine' XE.cv (by assumption) ?_; rotate_left; refine' XEs.co ?_ ?_; rotate_left 2; refine' XE.lo 1; refine' XEs.nil; refine' XSs.cons ?_ ?_; rotate_left 2; refine' XS.dead; refine' XSs.cons ?_ ?_; rotate_left 2; refine' XS.set 0 ?_; rotate_left; refine' XE.dead; refine' XSs.nil; refine' XSs.nil; refine' XSs.cons ?_ ?_; rotate_left 2
   refine' XS.ret ?_; rotate_left; refine' XE.callKV (by kernel_rfl) (by assumption) ?_ ?_ (by decide) (by kernel_rfl) (fun Z => by kernel_rfl) (fun Z => by kernel_rfl); rotate_left 2; refine' XE.lo 0; refine' XE.lo 2; refine' XSs.nil
  case p =>
    intro l b e h1 h2
    refine runP_ret [.pv (.str l), .pv .none, .pv (.bool false), .un, .un, .un, .un, .un] rfl (by kernel_rfl) ?_
    refine Ret.next [.pv (.byt b), .pv .none, .pv (.bool false), .un, .un, .un, .un, .un] (by repeat' (first | exact h1 | exact congrArg some h1 | rfl | apply be | apply me)) ?_
    refine Ret.next [.pv (.byt b), .pv .none, .pv (.bool false), .un, .un, .un, .un, .un] (by repeat' (first | rfl | apply be | apply me)) ?_
    refine Ret.here (Ret.of (σ' := [.pv (.byt b), .pv .none, .pv (.bool false), .un, .un, .un, .un, .un]) ?_)
    repeat' (first | exact frzS_cons | exact congrArg some frzS_cons | exact frzS_nil | exact congrArg some frzS_nil | exact h2 | exact congrArg some h2 | rfl | apply be | apply me)
theorem run32 {prog : Program} {w : World} {hb : Heap} (ifmtP : List PV → Option PV) (h_S_IFMT : FV prog w hb "S_IFMT" 1 ifmtP) (g_S_IFDIR : GV hb "S_IFDIR" (.int 16384)) :
    ∃ g, XSs prog w hb (fnScope (nth 32)) 1 (fnBody (nth 32)) g ∧ ((∀ m : Nat, ifmtP [.int (m : Int)] = some (.int ((m / 4096 % 16 * 4096 : Nat) : Int))) → ∀ m : Nat, runP (fnScope (nth 32)).names [("mode" : Str)] g [.int (m : Int)] = some (.bool (m / 4096 % 16 == 4))) := by
  refine' ⟨_, ?w, ?p⟩; rotate_left
  conv in (fnBody _) => whnf
  conv in (fnScope _) => whnf
  with_reducible
   refine' XSs.cons ?_ ?_; rotate_left 2; refine' XS.ret ?_; rotate_left; refine' XE.cmp ?_ ?_ (by kernel_rfl); rotate_left 2; refine' XE.cv (by assumption) ?_; rotate_left; refine' XEs.co ?_ ?_; rotate_left 2; refine' XE.lo 0; refine' XEs.nil; refine' XE.globV (by kernel_rfl) (by assumption) (by kernel_rfl); refine' XSs.nil
  case p =>
    intro hi m
    refine runP_ret [.pv (.int (m : Int)), .un, .un] rfl (by kernel_rfl) ?_
    refine Ret.here (Ret.of (σ' := [.pv (.int (m : Int)), .un, .un]) ?_)
    have e : (((m / 4096 % 16 * 4096 : Nat) : Int) == 16384) = (m / 4096 % 16 == 4) := by rw [Bool.eq_iff_iff, beq_iff_eq, beq_iff_eq]; lia
    simp only [X0, Xl, X1a, X1b, frzS_cons, frzS_nil, Option.bind_some, hi, e, Option.map_some]
theorem bytesP_nums (l : List Nat) (h : ∀ n ∈ l, n < 256) (hl : l.length ≤ LIM) : bytesP [nums l] = some (.byt (l.map (·.toUInt8))) := by
  show (intsOf _).bind _ = _
  rw [intsOf_nums, Option.bind_some, if_pos]
  · rw [List.map_map]
    rfl
  · refine ⟨fun n hn => ?_, by simpa using hl⟩
    obtain ⟨m, hm, rfl⟩ := List.mem_map.mp hn
    have := h m hm
    lia
theorem toU_nat {n : Nat} (h : n < 256) : n.toUInt8.toNat = n := by
  rw [Nat.toUInt8, UInt8.toNat_ofNat']
  exact Nat.mod_eq_of_lt h
theorem and_mod (x k : Nat) : x &&& (2 ^ k - 1) = x % 2 ^ k := Nat.and_two_pow_sub_one_eq_mod x k
theorem bAnd63 (x : Nat) : Builtin.bitAnd (x : Int) 63 = ((x % 64 : Nat) : Int) := by rw [show (63 : Int) = ((63 : Nat) : Int) from rfl, and_nat, and_mod x 6]
theorem bAnd15 (x : Nat) : Builtin.bitAnd (x : Int) 15 = ((x % 16 : Nat) : Int) := by rw [show (15 : Int) = ((15 : Nat) : Int) from rfl, and_nat, and_mod x 4]
theorem bAnd3 (x : Nat) : Builtin.bitAnd (x : Int) 3 = ((x % 4 : Nat) : Int) := by rw [show (3 : Int) = ((3 : Nat) : Int) from rfl, and_nat, and_mod x 2]
theorem bAnd16 (x : Nat) : Builtin.bitAnd (x : Int) 65535 = ((x % 65536 : Nat) : Int) := by rw [show (65535 : Int) = ((65535 : Nat) : Int) from rfl, and_nat, and_mod x 16]
theorem or_add {k b : Nat} (a : Nat) (h : b < 2 ^ k) : (a * 2 ^ k) ||| b = a * 2 ^ k + b := by
  rw [← Nat.shiftLeft_eq, Nat.shiftLeft_add_eq_or_of_lt h]
theorem bOr (a b k : Nat) (h : b < 2 ^ k) : Builtin.bitOr ((a * 2 ^ k : Nat) : Int) (b : Int) = ((a * 2 ^ k + b : Nat) : Int) := by rw [or_nat, or_add a h]
theorem lstep (x b : Nat) (h : b < 256) : Builtin.bitAnd (Builtin.bitOr ((x : Int) * 256) (b : Int)) 65535 = (((x * 256 + b) % 65536 : Nat) : Int) := by
  have e : (x : Int) * 256 = ((x * 2 ^ 8 : Nat) : Int) := by lia
  rw [e, bOr x b 8 h, bAnd16]
noncomputable def b64D : List UInt8 := (List.range 64).map fun n => (sign n).toUInt8
theorem sign_lt : ∀ n, n < 64 → sign n < 128 := by decide +kernel
theorem b64_at : ∀ n, n < 64 → (b64D.getD n 0).toNat = sign n := by decide +kernel
theorem b64_item {x : Int} {n : Nat} (e : x = ((n % 64 : Nat) : Int)) : itemP (.byt b64D) (.int x) = some (.int (sign (n % 64) : Nat)) := by
  subst e
  have hl : b64D.length = 64 := by simp [b64D]
  have hn : n % 64 < 64 := Nat.mod_lt _ (by decide)
  have e : itemP (.byt b64D) (.int ((n % 64 : Nat) : Int)) = if b64D.length ≤ 1000 then if 0 ≤ ((n % 64 : Nat) : Int) ∧ ((n % 64 : Nat) : Int) < b64D.length then some (.int (b64D.getD ((n % 64 : Nat) : Int).toNat 0).toNat) else none else none := rfl
  rw [e, if_pos (by rw [hl]; decide), if_pos (by rw [hl]; omega), Int.toNat_natCast, b64_at _ hn]
noncomputable def S19 (d : List UInt8) (out : List Nat) (bits left : Nat) (b : Sl) : List Sl := [.pv (.byt d), .pv (.bool false), .pv (.byt d), .own (out.map fun n : Nat => .int (n : Int)), .pv (.int (bits : Int)), .pv (.int (left : Int)), b, .un, .un, .un, .un]
theorem forP_cons {tp : Itm → List Sl → Option (List Sl)} {g gE : List Sl → Option (PF × List Sl)} {x : Itm} {xs : List Itm} {σ σ₁ σ₂ : List Sl} (h1 : tp x σ = some σ₁) (h2 : g σ₁ = some (.next, σ₂)) : forP tp g gE (x :: xs) σ = forP tp g gE xs σ₂ := by
  show (tp x σ).bind _ = _
  rw [h1, Option.bind_some, h2]; rfl
theorem forP_nil {tp : Itm → List Sl → Option (List Sl)} {g gE : List Sl → Option (PF × List Sl)} {σ : List Sl} : forP tp g gE [] σ = gE σ := rfl
noncomputable def b2aL : List Nat → List Nat
  | [] => []
  | [a] => [sign (a / 4 % 64), sign (a % 4 * 16 % 64), 61, 61]
  | [a, b] => [sign (a / 4 % 64), sign ((a * 256 + b) / 16 % 64), sign (b % 16 * 4 % 64), 61]
  | [a, b, c] => [sign (a / 4 % 64), sign ((a * 256 + b) / 16 % 64), sign ((b * 256 + c) / 64 % 64), sign (c % 64)]
  | _ => []
theorem n_256 (a b c : Nat) (hc : c < 256) : (a * 65536 + b * 256 + c) / 256 = a * 256 + b := by lia
theorem n_65536 (a b c : Nat) (hb : b < 256) (hc : c < 256) : (a * 65536 + b * 256 + c) / 65536 = a := by lia
theorem n_1 (a b c : Nat) (hb : b < 256) (hc : c < 256) : (a * 65536 + b * 256 + c) / 262144 % 64 = a / 4 % 64 := by rw [show (262144 : Nat) = 65536 * 4 from rfl, ← Nat.div_div_eq_div_mul, n_65536 a b c hb hc]
theorem n_2 (a b c : Nat) (hc : c < 256) : (a * 65536 + b * 256 + c) / 4096 % 64 = (a * 256 + b) / 16 % 64 := by rw [show (4096 : Nat) = 256 * 16 from rfl, ← Nat.div_div_eq_div_mul, n_256 a b c hc]
theorem n_3 (a b c : Nat) : (a * 65536 + b * 256 + c) / 64 % 64 = (b * 256 + c) / 64 % 64 := by rw [show a * 65536 + b * 256 + c = b * 256 + c + a * 16 * 64 * 64 by lia, Nat.add_mul_div_right _ _ (by decide), Nat.add_mul_mod_self_right]
theorem n_4 (a b c : Nat) : (a * 65536 + b * 256 + c) % 64 = c % 64 := by rw [show a * 65536 + b * 256 + c = c + (a * 1024 + b * 4) * 64 by lia, Nat.add_mul_mod_self_right]
theorem n_5 (a : Nat) : (a * 256 + 0) / 16 % 64 = a % 4 * 16 % 64 := by lia
theorem n_6 (b : Nat) : (b * 256 + 0) / 64 % 64 = b % 16 * 4 % 64 := by lia
theorem b2aL_four : ∀ l : List Nat, l.length ≤ 3 → (∀ n ∈ l, n < 256) → b2aL l = fourL l := by
  intro l hl hn
  rcases l with _ | ⟨a, _ | ⟨b, _ | ⟨c, _ | ⟨d, l⟩⟩⟩⟩
  · rfl
  · rw [show fourL [a] = [sign ((a * 65536 + 0 * 256 + 0) / 262144 % 64), sign ((a * 65536 + 0 * 256 + 0) / 4096 % 64), 61, 61] by kernel_rfl, n_1 a 0 0 (by decide) (by decide), n_2 a 0 0 (by decide), n_5]; rfl
  · have hb := hn b (by simp)
    rw [show fourL [a, b] = [sign ((a * 65536 + b * 256 + 0) / 262144 % 64), sign ((a * 65536 + b * 256 + 0) / 4096 % 64), sign ((a * 65536 + b * 256 + 0) / 64 % 64), 61] by kernel_rfl, n_1 a b 0 hb (by decide), n_2 a b 0 (by decide), n_3, n_6]; rfl
  · have hb := hn b (by simp)
    have hc := hn c (by simp)
    rw [show fourL [a, b, c] = [sign ((a * 65536 + b * 256 + c) / 262144 % 64), sign ((a * 65536 + b * 256 + c) / 4096 % 64), sign ((a * 65536 + b * 256 + c) / 64 % 64), sign ((a * 65536 + b * 256 + c) / 1 % 64)] by kernel_rfl,
      n_1 a b c hb hc, n_2 a b c hc, n_3, Nat.div_one, n_4]; rfl
  · simp at hl
theorem fourL_lt : ∀ l : List Nat, ∀ n ∈ fourL l, n < 128 := by
  intro l n hn
  unfold fourL at hn
  split at hn
  · cases hn
  · rcases List.mem_append.mp hn with h | h
    · obtain ⟨k, Z, rfl⟩ := List.mem_map.mp h
      exact sign_lt _ (Nat.mod_lt _ (by decide))
    · obtain ⟨Z, rfl⟩ := List.mem_replicate.mp h
      decide
theorem loop19 {tp : Itm → List Sl → Option (List Sl)} {g gE : List Sl → Option (PF × List Sl)} {d : List UInt8}
    (ht : ∀ (out : List Nat) (bits left b : Nat) (x : Sl), tp (.one (.int (b : Int))) (S19 d out bits left x) = some (S19 d out bits left (.pv (.int (b : Int)))))
    (h0 : ∀ (out : List Nat) (left b : Nat), out.length ≤ 3 → left < 65536 → b < 256 → g (S19 d out 0 left (.pv (.int (b : Int)))) = some (.next, S19 d (out ++ [sign ((left * 256 + b) % 65536 / 4 % 64)]) 2 ((left * 256 + b) % 65536) (.pv (.int (b : Int)))))
    (h2 : ∀ (out : List Nat) (left b : Nat), out.length ≤ 3 → left < 65536 → b < 256 → g (S19 d out 2 left (.pv (.int (b : Int)))) = some (.next, S19 d (out ++ [sign ((left * 256 + b) % 65536 / 16 % 64)]) 4 ((left * 256 + b) % 65536) (.pv (.int (b : Int)))))
    (h4 : ∀ (out : List Nat) (left b : Nat), out.length ≤ 3 → left < 65536 → b < 256 → g (S19 d out 4 left (.pv (.int (b : Int)))) = some (.next, S19 d (out ++ [sign ((left * 256 + b) % 65536 / 64 % 64), sign ((left * 256 + b) % 65536 % 64)]) 0 ((left * 256 + b) % 65536) (.pv (.int (b : Int))))) :
    ∀ l : List Nat, l.length ≤ 3 → (∀ n ∈ l, n < 256) → ∃ (out : List Nat) (bits left : Nat) (x : Sl), forP tp g gE (l.map fun n : Nat => Itm.one (.int (n : Int))) (S19 d [] 0 0 .un) = gE (S19 d out bits left x) ∧ left < 65536 ∧ out.length ≤ 4 ∧
      ((bits = 0 ∧ out = fourL l) ∨ (bits = 2 ∧ out ++ [sign (left % 4 * 16 % 64), 61, 61] = fourL l) ∨ (bits = 4 ∧ out ++ [sign (left % 16 * 4 % 64), 61] = fourL l)) := by
  intro l hl hn
  rw [← b2aL_four l hl hn]
  rcases l with _ | ⟨a, _ | ⟨b, _ | ⟨c, _ | ⟨e, l⟩⟩⟩⟩
  · exact ⟨[], 0, 0, .un, rfl, by decide, by decide, .inl ⟨rfl, rfl⟩⟩
  · have ha := hn a (by simp)
    refine ⟨_, 2, _, _, (forP_cons (ht _ _ _ a _) (h0 [] 0 a (by decide) (by decide) ha)).trans rfl, Nat.mod_lt _ (by decide), by simp, .inr (.inl ⟨rfl, ?_⟩)⟩
    have e : (0 * 256 + a) % 65536 = a := by lia
    rw [e]
    simp only [b2aL, List.nil_append, List.cons_append]
  · have ha := hn a (by simp)
    have hb := hn b (by simp)
    refine ⟨_, 4, _, _, (forP_cons (ht _ _ _ a _) (h0 [] 0 a (by decide) (by decide) ha)).trans ((forP_cons (ht _ _ _ b _) (h2 _ _ b (by simp) (Nat.mod_lt _ (by decide)) hb)).trans rfl), Nat.mod_lt _ (by decide), by simp, .inr (.inr ⟨rfl, ?_⟩)⟩
    have e : (0 * 256 + a) % 65536 = a := by lia
    have e2 : (a * 256 + b) % 65536 = a * 256 + b := by lia
    have e3 : (a * 256 + b) % 16 = b % 16 := by lia
    rw [e, e2, e3]
    simp only [b2aL, List.nil_append, List.cons_append]
  · have ha := hn a (by simp)
    have hb := hn b (by simp)
    have hc := hn c (by simp)
    refine ⟨_, 0, _, _, (forP_cons (ht _ _ _ a _) (h0 [] 0 a (by decide) (by decide) ha)).trans ((forP_cons (ht _ _ _ b _) (h2 _ _ b (by simp) (Nat.mod_lt _ (by decide)) hb)).trans ((forP_cons (ht _ _ _ c _) (h4 _ _ c (by simp) (Nat.mod_lt _ (by decide)) hc)).trans rfl)), Nat.mod_lt _ (by decide), by simp, .inl ⟨rfl, ?_⟩⟩
    have e : (0 * 256 + a) % 65536 = a := by lia
    have e2 : (a * 256 + b) % 65536 = a * 256 + b := by lia
    have e3 : ((a * 256 + b) * 256 + c) % 65536 = b * 256 + c := by lia
    have e4 : (b * 256 + c) % 64 = c % 64 := by lia
    rw [e, e2, e3, e4]
    simp only [b2aL, List.nil_append, List.cons_append]
  · simp at hl
theorem Ret.loop19 {E : List Sl → Option (List Itm)} {tp : Itm → List Sl → Option (List Sl)} {g gE g₂ : List Sl → Option (PF × List Sl)} {d : List UInt8} {σ₀ : List Sl} {r : PV} {is : List Itm} (hE : E σ₀ = some is) (hgE : ∀ σ, gE σ = some (.next, σ))
    (ht : ∀ (out : List Nat) (bits left b : Nat) (x : Sl), tp (.one (.int (b : Int))) (S19 d out bits left x) = some (S19 d out bits left (.pv (.int (b : Int)))))
    (h0 : ∀ (out : List Nat) (left b : Nat), out.length ≤ 3 → left < 65536 → b < 256 → g (S19 d out 0 left (.pv (.int (b : Int)))) = some (.next, S19 d (out ++ [sign ((left * 256 + b) % 65536 / 4 % 64)]) 2 ((left * 256 + b) % 65536) (.pv (.int (b : Int)))))
    (h2 : ∀ (out : List Nat) (left b : Nat), out.length ≤ 3 → left < 65536 → b < 256 → g (S19 d out 2 left (.pv (.int (b : Int)))) = some (.next, S19 d (out ++ [sign ((left * 256 + b) % 65536 / 16 % 64)]) 4 ((left * 256 + b) % 65536) (.pv (.int (b : Int)))))
    (h4 : ∀ (out : List Nat) (left b : Nat), out.length ≤ 3 → left < 65536 → b < 256 → g (S19 d out 4 left (.pv (.int (b : Int)))) = some (.next, S19 d (out ++ [sign ((left * 256 + b) % 65536 / 64 % 64), sign ((left * 256 + b) % 65536 % 64)]) 0 ((left * 256 + b) % 65536) (.pv (.int (b : Int)))))
    (l : List Nat) (hl : l.length ≤ 3) (hn : ∀ n ∈ l, n < 256) (hi : is = l.map fun n : Nat => Itm.one (.int (n : Int))) (h0' : σ₀ = S19 d [] 0 0 .un)
    (k : ∀ (out : List Nat) (bits left : Nat) (x : Sl), left < 65536 → out.length ≤ 4 → ((bits = 0 ∧ out = fourL l) ∨ (bits = 2 ∧ out ++ [sign (left % 4 * 16 % 64), 61, 61] = fourL l) ∨ (bits = 4 ∧ out ++ [sign (left % 16 * 4 % 64), 61] = fourL l)) → Ret (g₂ (S19 d out bits left x)) r) :
    Ret (seqP (fun σ => (E σ).bind fun xs => forP tp g gE xs σ) g₂ σ₀) r := by
  obtain ⟨out, bits, left, x, e, h5, h6, h7⟩ := Mine.loop19 (gE := gE) ht h0 h2 h4 l hl hn
  refine Ret.next (S19 d out bits left x) ?_ (k out bits left x h5 h6 h7)
  show (E σ₀).bind _ = _
  rw [hE, Option.bind_some, hi, h0', e, hgE]
theorem run19 {prog : Program} {w : World} {hb : Heap} (truP : List PV → Option PV) (bufP : List PV → Option PV) (b64L : List UInt8) (h_buffer : FV prog w hb "_buffer" 1 bufP) (h_truth : FV prog w hb "_truth" 1 truP) (g_B64 : GV hb "_B64" (.byt b64L)) (h_bytes : FV prog w hb "bytes" 0 bytesP) :
    ∃ g, XSs prog w hb (fnScope (nth 19)) 1 (fnBody (nth 19)) g ∧ ((∀ l : List UInt8, bufP [.byt l] = some (.byt l)) → (∀ b : Bool, truP [.bool b] = some (.bool b)) → b64L = b64D → ∀ l : List Nat, l.length ≤ 3 → (∀ n ∈ l, n < 256) →
      runP (fnScope (nth 19)).names [("data" : Str), ("newline" : Str)] g [.byt (l.map (·.toUInt8)), .bool false] = some (.byt ((fourL l).map (·.toUInt8)))) := by
  refine' ⟨_, ?w, ?p⟩; rotate_left
  conv in (fnBody _) => whnf
  conv in (fnScope _) => whnf
  with_reducible
   refine' XSs.cons ?_ ?_; rotate_left 2; refine' XS.set 2 ?_; rotate_left; refine' XE.cv (by assumption) ?_; rotate_left; refine' XEs.co ?_ ?_; rotate_left 2; refine' XE.lo 0; refine' XEs.nil; refine' XSs.cons ?_ ?_; rotate_left 2; refine' XS.set 1 ?_; rotate_left; refine' XE.cv (by assumption) ?_; rotate_left; refine' XEs.co ?_ ?_; rotate_left 2; refine' XE.lo 1; refine' XEs.nil
   refine' XSs.cons ?_ ?_; rotate_left 2; refine' XS.own (i := 3) (by kernel_rfl) (XL.lst ?_) (fun Z Z => by kernel_rfl); rotate_left; refine' XEs.nil; refine' XSs.cons ?_ ?_; rotate_left 2; refine' XS.set 4 ?_; rotate_left; refine' XE.int; refine' XSs.cons ?_ ?_; rotate_left 2; refine' XS.set 5 ?_; rotate_left; refine' XE.int; refine' XSs.cons ?_ ?_; rotate_left 2
   refine' XS.for ?_ ?_ ?_ ?_ (fun Z Z => by kernel_rfl); rotate_left 4; refine' XI.val ?_; rotate_left; refine' XE.lo 2; refine' TT.one ?_; rotate_left; refine' TG.loc (i := 6) (by kernel_rfl); refine' XSs.cons ?_ ?_; rotate_left 2; refine' XS.set 5 ?_; rotate_left; refine' XE.bin ?_ ?_; rotate_left 2; refine' XE.bin ?_ ?_; rotate_left 2; refine' XE.bin ?_ ?_; rotate_left 2; refine' XE.lo 5
   refine' XE.int; refine' XE.lo 6; refine' XE.int; refine' XSs.cons ?_ ?_; rotate_left 2; refine' XS.set 4 ?_; rotate_left; refine' XE.bin ?_ ?_; rotate_left 2; refine' XE.lo 4; refine' XE.int; refine' XSs.cons ?_ ?_; rotate_left 2; refine' XS.whil 20 ?_ ?_; rotate_left 2; refine' XT.cmp ?_ ?_ (by kernel_rfl); rotate_left 2; refine' XE.lo 4; refine' XE.int; refine' XSs.cons ?_ ?_; rotate_left 2
   refine' XS.append (i := 3) (by kernel_rfl) ?_ (by kernel_rfl) (fun Z => by kernel_rfl) (by kernel_rfl); rotate_left; refine' XE.idx ?_ ?_ (fun Z Z => by kernel_rfl); rotate_left 2; refine' XE.globV (by kernel_rfl) (by assumption) (by kernel_rfl); refine' XE.bin ?_ ?_; rotate_left 2; refine' XE.bin ?_ ?_; rotate_left 2; refine' XE.lo 5; refine' XE.bin ?_ ?_; rotate_left 2; refine' XE.lo 4
   refine' XE.int; refine' XE.int; refine' XSs.cons ?_ ?_; rotate_left 2; refine' XS.set 4 ?_; rotate_left; refine' XE.bin ?_ ?_; rotate_left 2; refine' XE.lo 4; refine' XE.int; refine' XSs.nil; refine' XSs.nil; refine' XSs.nil; refine' XSs.cons ?_ ?_; rotate_left 2; refine' XS.ite ?_ ?_ ?_; rotate_left 3; refine' XT.cmp ?_ ?_ (by kernel_rfl); rotate_left 2; refine' XE.lo 4; refine' XE.int
   refine' XSs.cons ?_ ?_; rotate_left 2; refine' XS.append (i := 3) (by kernel_rfl) ?_ (by kernel_rfl) (fun Z => by kernel_rfl) (by kernel_rfl); rotate_left; refine' XE.idx ?_ ?_ (fun Z Z => by kernel_rfl); rotate_left 2; refine' XE.globV (by kernel_rfl) (by assumption) (by kernel_rfl); refine' XE.bin ?_ ?_; rotate_left 2; refine' XE.bin ?_ ?_; rotate_left 2; refine' XE.lo 5; refine' XE.int
   refine' XE.int; refine' XSs.cons ?_ ?_; rotate_left 2; refine' XS.append (i := 3) (by kernel_rfl) ?_ (by kernel_rfl) (fun Z => by kernel_rfl) (by kernel_rfl); rotate_left; refine' XE.int; refine' XSs.cons ?_ ?_; rotate_left 2; refine' XS.append (i := 3) (by kernel_rfl) ?_ (by kernel_rfl) (fun Z => by kernel_rfl) (by kernel_rfl); rotate_left; refine' XE.int; refine' XSs.nil
   refine' XSs.cons ?_ ?_; rotate_left 2; refine' XS.ite ?_ ?_ ?_; rotate_left 3; refine' XT.cmp ?_ ?_ (by kernel_rfl); rotate_left 2; refine' XE.lo 4; refine' XE.int; refine' XSs.cons ?_ ?_; rotate_left 2; refine' XS.append (i := 3) (by kernel_rfl) ?_ (by kernel_rfl) (fun Z => by kernel_rfl) (by kernel_rfl); rotate_left; refine' XE.idx ?_ ?_ (fun Z Z => by kernel_rfl); rotate_left 2
   refine' XE.globV (by kernel_rfl) (by assumption) (by kernel_rfl); refine' XE.bin ?_ ?_; rotate_left 2; refine' XE.bin ?_ ?_; rotate_left 2; refine' XE.lo 5; refine' XE.int; refine' XE.int; refine' XSs.cons ?_ ?_; rotate_left 2; refine' XS.append (i := 3) (by kernel_rfl) ?_ (by kernel_rfl) (fun Z => by kernel_rfl) (by kernel_rfl); rotate_left; refine' XE.int; refine' XSs.nil; refine' XSs.nil
   refine' XSs.nil; refine' XSs.cons ?_ ?_; rotate_left 2; refine' XS.ite ?_ ?_ ?_; rotate_left 3; refine' XT.val ?_ (fun Z Z => by kernel_rfl); rotate_left; refine' XE.lo 1; refine' XSs.cons ?_ ?_; rotate_left 2; refine' XS.append (i := 3) (by kernel_rfl) ?_ (by kernel_rfl) (fun Z => by kernel_rfl) (by kernel_rfl); rotate_left; refine' XE.int; refine' XSs.nil; refine' XSs.nil
   refine' XSs.cons ?_ ?_; rotate_left 2; refine' XS.ret ?_; rotate_left; refine' XE.cv (by assumption) ?_; rotate_left; refine' XEs.co ?_ ?_; rotate_left 2; refine' XE.lo 3; refine' XEs.nil; refine' XSs.nil
  case p =>
    intro hbuf htru hB l hl hn
    subst hB
    generalize hd : l.map (·.toUInt8) = d
    refine runP_ret [.pv (.byt d), .pv (.bool false), .un, .un, .un, .un, .un, .un, .un, .un, .un] rfl (by kernel_rfl) ?_
    refine Ret.next [.pv (.byt d), .pv (.bool false), .pv (.byt d), .un, .un, .un, .un, .un, .un, .un, .un] (by simp [X0, X7, X8, hbuf]) ?_
    refine Ret.next [.pv (.byt d), .pv (.bool false), .pv (.byt d), .un, .un, .un, .un, .un, .un, .un, .un] (by simp [X0, X1, X7, X8, htru]) ?_
    refine Ret.next [.pv (.byt d), .pv (.bool false), .pv (.byt d), .own [], .un, .un, .un, .un, .un, .un, .un] rfl ?_
    refine Ret.next [.pv (.byt d), .pv (.bool false), .pv (.byt d), .own [], .pv (.int 0), .un, .un, .un, .un, .un, .un] rfl ?_
    refine Ret.next (S19 d [] 0 0 .un) rfl ?_
    have hit : itemsP (.byt d) = some (l.map fun n : Nat => .one (.int (n : Int))) := by
      show some (d.map _) = _
      rw [← hd, List.map_map]
      congr 1
      apply List.map_congr_left
      intro n hn'
      show Itm.one (.int ((n.toUInt8.toNat : Nat) : Int)) = _
      rw [toU_nat (hn n hn')]
    have hE : ((getS 2 (S19 d [] 0 0 .un)).bind itemsP) = some (l.map fun n : Nat => .one (.int (n : Int))) := by simp only [S19, X0, X1, Option.bind_some, hit]
    have hbytes : bytesP [.lst ((fourL l).map fun n : Nat => .int (n : Int))] = some (.byt ((fourL l).map (·.toUInt8))) := bytesP_nums _ (fun n hn' => Nat.lt_trans (fourL_lt l n hn') (by decide)) (by
      rw [← b2aL_four l hl hn]
      rcases l with _ | ⟨a, _ | ⟨b, _ | ⟨c, _ | ⟨e, l⟩⟩⟩⟩ <;> simp [b2aL, LIM])
    refine Ret.loop19 hE (fun Z => rfl) ?_ ?_ ?_ ?_ l hl hn rfl rfl ?_
    · intro out bits left b x; rfl
    · intro out left b h1 h2 h3
      have e1 := lstep left b h3
      have e2 : left < 1152921504606846976 := by lia
      have e3 : out.length ≤ LIM := by unfold LIM; lia
      have e4 := b64_item (show Builtin.bitAnd ((((left * 256 + b) % 65536 : Nat) : Int).fdiv 4) 63 = (((left * 256 + b) % 65536 / 4 % 64 : Nat) : Int) by rw [show (4 : Int) = ((4 : Nat) : Int) from rfl, fdiv_nat, bAnd63])
      have hg : ∀ x : Nat, x = (left * 256 + b) % 65536 → Builtin.bitAnd (Builtin.bitOr ((left : Int) * 256) (b : Int)) 65535 = (x : Int) := fun x hx => by rw [hx, e1]
      generalize (left * 256 + b) % 65536 = L at *
      have e5 := hg L rfl
      simp [S19, X0, X1, X2, X3, X7, X8, Xd, Xe, Xk, seqP, whileP, Y0, Y1, Y2, Y3, e2, e3, e4, e5]
    · intro out left b h1 h2 h3
      have e1 := lstep left b h3
      have e2 : left < 1152921504606846976 := by lia
      have e3 : out.length ≤ LIM := by unfold LIM; lia
      have e4 := b64_item (show Builtin.bitAnd ((((left * 256 + b) % 65536 : Nat) : Int).fdiv 16) 63 = (((left * 256 + b) % 65536 / 16 % 64 : Nat) : Int) by rw [show (16 : Int) = ((16 : Nat) : Int) from rfl, fdiv_nat, bAnd63])
      have hg : ∀ x : Nat, x = (left * 256 + b) % 65536 → Builtin.bitAnd (Builtin.bitOr ((left : Int) * 256) (b : Int)) 65535 = (x : Int) := fun x hx => by rw [hx, e1]
      generalize (left * 256 + b) % 65536 = L at *
      have e5 := hg L rfl
      simp [S19, X0, X1, X2, X3, X7, X8, Xd, Xe, Xk, seqP, whileP, Y0, Y1, Y2, Y3, e2, e3, e4, e5]
    · intro out left b h1 h2 h3
      have e1 := lstep left b h3
      have e2 : left < 1152921504606846976 := by lia
      have e3 : out.length ≤ LIM := by unfold LIM; lia
      have e3' : out.length + 1 ≤ LIM := by unfold LIM; lia
      have e4 := b64_item (show Builtin.bitAnd ((((left * 256 + b) % 65536 : Nat) : Int).fdiv 64) 63 = (((left * 256 + b) % 65536 / 64 % 64 : Nat) : Int) by rw [show (64 : Int) = ((64 : Nat) : Int) from rfl, fdiv_nat, bAnd63])
      have e6 := b64_item (show Builtin.bitAnd (((left * 256 + b) % 65536 : Nat) : Int) 63 = (((left * 256 + b) % 65536 % 64 : Nat) : Int) from bAnd63 _)
      have hg : ∀ x : Nat, x = (left * 256 + b) % 65536 → Builtin.bitAnd (Builtin.bitOr ((left : Int) * 256) (b : Int)) 65535 = (x : Int) := fun x hx => by rw [hx, e1]
      generalize (left * 256 + b) % 65536 = L at *
      have e5 := hg L rfl
      simp [S19, X0, X1, X2, X3, X7, X8, Xd, Xe, Xk, seqP, whileP, Y0, Y1, Y2, Y3, e2, e3, e3', e4, e5, e6]
    · intro out bits left x h1 h2 h3
      have e3 : out.length ≤ LIM := by unfold LIM; lia
      have e3' : out.length + 1 ≤ LIM := by unfold LIM; lia
      have e3'' : out.length + 1 + 1 ≤ LIM := by unfold LIM; lia
      rcases h3 with ⟨rfl, h⟩ | ⟨rfl, h⟩ | ⟨rfl, h⟩
      · refine Ret.next (S19 d out 0 left x) (by repeat' (first | rfl | apply be | apply me)) ?_
        refine Ret.next (S19 d out 0 left x) (by repeat' (first | rfl | apply be | apply me)) ?_
        refine Ret.here (Ret.of (σ' := frzS (S19 d out 0 left x)) ?_)
        rw [← h] at hbytes ⊢
        repeat' (first | exact frzS_cons | exact congrArg some frzS_cons | exact frzS_nil | exact congrArg some frzS_nil | exact hbytes | exact congrArg some hbytes | rfl | apply be | apply me)
      · have e2 : left % 4 < 1152921504606846976 := by lia
        have e4 := b64_item (x := ((left % 4 : Nat) : Int) * 16) (n := left % 4 * 16) (by lia)
        have e5 := bAnd3 left
        generalize hL : left % 4 = L at *
        refine Ret.next (S19 d (out ++ [sign (L * 16 % 64), 61, 61]) 2 left x) (by simp [S19, X0, X1, X2, X3, Xl, seqP, Y0, Y3, e2, e3, e3', e3'', e4, e5]) ?_
        refine Ret.next (S19 d (out ++ [sign (L * 16 % 64), 61, 61]) 2 left x) (by repeat' (first | rfl | apply be | apply me)) ?_
        rw [h]
        refine Ret.here (Ret.of (σ' := frzS (S19 d (fourL l) 2 left x)) ?_)
        repeat' (first | exact frzS_cons | exact congrArg some frzS_cons | exact frzS_nil | exact congrArg some frzS_nil | exact hbytes | exact congrArg some hbytes | rfl | apply be | apply me)
      · have e2 : left % 16 < 1152921504606846976 := by lia
        have e4 := b64_item (x := ((left % 16 : Nat) : Int) * 4) (n := left % 16 * 4) (by lia)
        have e5 := bAnd15 left
        generalize hL : left % 16 = L at *
        refine Ret.next (S19 d (out ++ [sign (L * 4 % 64), 61]) 4 left x) (by simp [S19, X0, X1, X2, X3, Xl, seqP, Y0, Y3, e2, e3, e3', e4, e5]) ?_
        refine Ret.next (S19 d (out ++ [sign (L * 4 % 64), 61]) 4 left x) (by repeat' (first | rfl | apply be | apply me)) ?_
        rw [h]
        refine Ret.here (Ret.of (σ' := frzS (S19 d (fourL l) 4 left x)) ?_)
        repeat' (first | exact frzS_cons | exact congrArg some frzS_cons | exact frzS_nil | exact congrArg some frzS_nil | exact hbytes | exact congrArg some hbytes | rfl | apply be | apply me)
noncomputable def S18 (d : List UInt8) (out : List Nat) (qp left pads i : Nat) (c : Sl) : List Sl := [.pv (.byt d), .pv (.bool false), .pv (.byt d), .own (out.map fun n : Nat => .int (n : Int)), .pv (.int (qp : Int)), .pv (.int (left : Int)), .pv (.int (pads : Int)), .pv (.int (i : Int)), c, .un, .un, .un, .un, .un, .un]
theorem forP_cont {tp : Itm → List Sl → Option (List Sl)} {g gE : List Sl → Option (PF × List Sl)} {x : Itm} {xs : List Itm} {σ σ₁ σ₂ : List Sl} (h1 : tp x σ = some σ₁) (h2 : g σ₁ = some (.cont, σ₂)) : forP tp g gE (x :: xs) σ = forP tp g gE xs σ₂ := by
  show (tp x σ).bind _ = _
  rw [h1, Option.bind_some, h2]; rfl
theorem sign_val : ∀ n, n < 64 → valN (sign n) = n ∧ sign n ≠ 61 := by decide +kernel
theorem six (a b : Nat) (hb : b < 256) : (a * 256 + b) / 16 % 64 = a % 4 * 16 + b / 16 := by
  have h1 : (a * 256 + b) / 16 = a * 16 + b / 16 := by lia
  have h2 : b / 16 < 16 := by lia
  rw [h1]
  generalize b / 16 = k at *
  lia
theorem six' (a b : Nat) (hb : b < 256) : (a * 256 + b) / 64 % 64 = a % 16 * 4 + b / 64 := by
  have h1 : (a * 256 + b) / 64 = a * 4 + b / 64 := by lia
  have h2 : b / 64 < 4 := by lia
  rw [h1]
  generalize b / 64 = k at *
  lia
theorem dec1 {a : Nat} (ha : a < 256) : a / 4 % 64 * 4 + a % 4 * 16 % 64 / 16 = a := by
  rw [Nat.mod_eq_of_lt (show a / 4 < 64 by lia), Nat.mod_eq_of_lt (show a % 4 * 16 < 64 by lia), Nat.mul_div_cancel _ (by decide)]
  lia
theorem dec2 {a b : Nat} (ha : a < 256) (hb : b < 256) : a / 4 % 64 * 4 + (a * 256 + b) / 16 % 64 / 16 = a := by
  rw [six a b hb, Nat.mod_eq_of_lt (show a / 4 < 64 by lia)]
  have h2 : b / 16 < 16 := by lia
  generalize b / 16 = k at *
  rw [show (a % 4 * 16 + k) / 16 = a % 4 by lia]
  lia
theorem dec3 {a b : Nat} (ha : a < 256) (hb : b < 256) : (a * 256 + b) / 16 % 64 % 16 * 16 + b % 16 * 4 % 64 / 4 = b := by
  rw [six a b hb, Nat.mod_eq_of_lt (show b % 16 * 4 < 64 by lia), Nat.mul_div_cancel _ (by decide)]
  rw [show (a % 4 * 16 + b / 16) % 16 = b / 16 by lia]
  lia
theorem dec4 {a b c : Nat} (ha : a < 256) (hb : b < 256) (hc : c < 256) : (a * 256 + b) / 16 % 64 % 16 * 16 + (b * 256 + c) / 64 % 64 / 4 = b := by
  rw [six a b hb, six' b c hc]
  rw [show (a % 4 * 16 + b / 16) % 16 = b / 16 by lia]
  have h2 : c / 64 < 4 := by lia
  generalize c / 64 = k at *
  rw [show (b % 16 * 4 + k) / 4 = b % 16 by lia]
  lia
theorem dec5 {b c : Nat} (hc : c < 256) : (b * 256 + c) / 64 % 64 % 4 * 64 + c % 64 = c := by
  rw [six' b c hc, show (b % 16 * 4 + c / 64) % 4 = c / 64 by lia]
  lia
theorem loop18 {tp : Itm → List Sl → Option (List Sl)} {g gE : List Sl → Option (PF × List Sl)} {d : List UInt8}
    (ht : ∀ (out : List Nat) (qp left pads i c : Nat) (x : Sl), tp (.one (.int (c : Int))) (S18 d out qp left pads i x) = some (S18 d out qp left pads i (.pv (.int (c : Int)))))
    (q0 : ∀ (out : List Nat) (left i v : Nat), out.length ≤ 3 → left < 64 → v < 64 → g (S18 d out 0 left 0 i (.pv (.int ((sign v : Nat) : Int)))) = some (.next, S18 d out 1 v 0 (i + 1) (.pv (.int (v : Int)))))
    (q1 : ∀ (out : List Nat) (left i v : Nat), out.length ≤ 3 → left < 64 → v < 64 → g (S18 d out 1 left 0 i (.pv (.int ((sign v : Nat) : Int)))) = some (.next, S18 d (out ++ [left * 4 + v / 16]) 2 (v % 16) 0 (i + 1) (.pv (.int (v : Int)))))
    (q2 : ∀ (out : List Nat) (left i v : Nat), out.length ≤ 3 → left < 64 → v < 64 → g (S18 d out 2 left 0 i (.pv (.int ((sign v : Nat) : Int)))) = some (.next, S18 d (out ++ [left * 16 + v / 4]) 3 (v % 4) 0 (i + 1) (.pv (.int (v : Int)))))
    (q3 : ∀ (out : List Nat) (left i v : Nat), out.length ≤ 3 → left < 64 → v < 64 → g (S18 d out 3 left 0 i (.pv (.int ((sign v : Nat) : Int)))) = some (.next, S18 d (out ++ [left * 64 + v]) 0 0 0 (i + 1) (.pv (.int (v : Int)))))
    (p2 : ∀ (out : List Nat) (left i : Nat), g (S18 d out 2 left 0 i (.pv (.int ((61 : Nat) : Int)))) = some (.cont, S18 d out 2 left 1 (i + 1) (.pv (.int ((61 : Nat) : Int)))))
    (p3 : ∀ (out : List Nat) (left i : Nat), g (S18 d out 2 left 1 i (.pv (.int ((61 : Nat) : Int)))) = some (.cont, S18 d out 2 left 2 (i + 1) (.pv (.int ((61 : Nat) : Int)))))
    (p4 : ∀ (out : List Nat) (left i : Nat), g (S18 d out 3 left 0 i (.pv (.int ((61 : Nat) : Int)))) = some (.cont, S18 d out 3 left 1 (i + 1) (.pv (.int ((61 : Nat) : Int))))) :
    ∀ l : List Nat, l.length ≤ 3 → (∀ n ∈ l, n < 256) → ∃ (qp left pads i : Nat) (x : Sl), forP tp g gE ((fourL l).map fun n : Nat => Itm.one (.int (n : Int))) (S18 d [] 0 0 0 0 .un) = gE (S18 d l qp left pads i x) ∧ ((qp = 0 ∧ pads = 0) ∨ (qp = 2 ∧ pads = 2) ∨ (qp = 3 ∧ pads = 1)) := by
  intro l hl hn
  rw [← b2aL_four l hl hn]
  have m64 : ∀ x : Nat, x % 64 < 64 := fun x => Nat.mod_lt _ (by decide)
  have m16 : ∀ x : Nat, x % 16 < 64 := fun x => Nat.lt_trans (Nat.mod_lt _ (by decide : 0 < 16)) (by decide)
  have m4 : ∀ x : Nat, x % 4 < 64 := fun x => Nat.lt_trans (Nat.mod_lt _ (by decide : 0 < 4)) (by decide)
  rcases l with _ | ⟨a, _ | ⟨b, _ | ⟨c, _ | ⟨e, l⟩⟩⟩⟩
  · exact ⟨0, 0, 0, 0, .un, rfl, .inl ⟨rfl, rfl⟩⟩
  · have ha := hn a (by simp)
    have h := (forP_cons (gE := gE) (ht _ _ _ _ _ _ .un) (q0 [] 0 0 (a / 4 % 64) (by decide) (by decide) (m64 _))).trans
      ((forP_cons (ht _ _ _ _ _ _ _) (q1 [] _ _ (a % 4 * 16 % 64) (by decide) (m64 _) (m64 _))).trans
      ((forP_cont (ht _ _ _ _ _ 61 _) (p2 _ _ _)).trans
      ((forP_cont (ht _ _ _ _ _ 61 _) (p3 _ _ _)).trans forP_nil)))
    rw [dec1 ha, List.nil_append] at h
    exact ⟨2, _, 2, _, _, h, .inr (.inl ⟨rfl, rfl⟩)⟩
  · have ha := hn a (by simp)
    have hb := hn b (by simp)
    have h := (forP_cons (gE := gE) (ht _ _ _ _ _ _ .un) (q0 [] 0 0 (a / 4 % 64) (by decide) (by decide) (m64 _))).trans
      ((forP_cons (ht _ _ _ _ _ _ _) (q1 [] _ _ ((a * 256 + b) / 16 % 64) (by decide) (m64 _) (m64 _))).trans
      ((forP_cons (ht _ _ _ _ _ _ _) (q2 _ _ _ (b % 16 * 4 % 64) (by simp) (m16 _) (m64 _))).trans
      ((forP_cont (ht _ _ _ _ _ 61 _) (p4 _ _ _)).trans forP_nil)))
    rw [dec2 ha hb, dec3 ha hb, List.nil_append] at h
    exact ⟨3, _, 1, _, _, h, .inr (.inr ⟨rfl, rfl⟩)⟩
  · have ha := hn a (by simp)
    have hb := hn b (by simp)
    have hc := hn c (by simp)
    have h := (forP_cons (gE := gE) (ht _ _ _ _ _ _ .un) (q0 [] 0 0 (a / 4 % 64) (by decide) (by decide) (m64 _))).trans
      ((forP_cons (ht _ _ _ _ _ _ _) (q1 [] _ _ ((a * 256 + b) / 16 % 64) (by decide) (m64 _) (m64 _))).trans
      ((forP_cons (ht _ _ _ _ _ _ _) (q2 _ _ _ ((b * 256 + c) / 64 % 64) (by simp) (m16 _) (m64 _))).trans
      ((forP_cons (ht _ _ _ _ _ _ _) (q3 _ _ _ (c % 64) (by simp) (m4 _) (m64 _))).trans forP_nil)))
    rw [dec2 ha hb, dec4 ha hb hc, dec5 hc, List.nil_append] at h
    exact ⟨0, _, 0, _, _, h, .inl ⟨rfl, rfl⟩⟩
  · simp at hl
theorem Ret.loop18 {E : List Sl → Option (List Itm)} {tp : Itm → List Sl → Option (List Sl)} {g gE g₂ : List Sl → Option (PF × List Sl)} {d : List UInt8} {σ₀ : List Sl} {r : PV} {is : List Itm} (hE : E σ₀ = some is) (hgE : ∀ σ, gE σ = some (.next, σ))
    (ht : ∀ (out : List Nat) (qp left pads i c : Nat) (x : Sl), tp (.one (.int (c : Int))) (S18 d out qp left pads i x) = some (S18 d out qp left pads i (.pv (.int (c : Int)))))
    (q0 : ∀ (out : List Nat) (left i v : Nat), out.length ≤ 3 → left < 64 → v < 64 → g (S18 d out 0 left 0 i (.pv (.int ((sign v : Nat) : Int)))) = some (.next, S18 d out 1 v 0 (i + 1) (.pv (.int (v : Int)))))
    (q1 : ∀ (out : List Nat) (left i v : Nat), out.length ≤ 3 → left < 64 → v < 64 → g (S18 d out 1 left 0 i (.pv (.int ((sign v : Nat) : Int)))) = some (.next, S18 d (out ++ [left * 4 + v / 16]) 2 (v % 16) 0 (i + 1) (.pv (.int (v : Int)))))
    (q2 : ∀ (out : List Nat) (left i v : Nat), out.length ≤ 3 → left < 64 → v < 64 → g (S18 d out 2 left 0 i (.pv (.int ((sign v : Nat) : Int)))) = some (.next, S18 d (out ++ [left * 16 + v / 4]) 3 (v % 4) 0 (i + 1) (.pv (.int (v : Int)))))
    (q3 : ∀ (out : List Nat) (left i v : Nat), out.length ≤ 3 → left < 64 → v < 64 → g (S18 d out 3 left 0 i (.pv (.int ((sign v : Nat) : Int)))) = some (.next, S18 d (out ++ [left * 64 + v]) 0 0 0 (i + 1) (.pv (.int (v : Int)))))
    (p2 : ∀ (out : List Nat) (left i : Nat), g (S18 d out 2 left 0 i (.pv (.int ((61 : Nat) : Int)))) = some (.cont, S18 d out 2 left 1 (i + 1) (.pv (.int ((61 : Nat) : Int)))))
    (p3 : ∀ (out : List Nat) (left i : Nat), g (S18 d out 2 left 1 i (.pv (.int ((61 : Nat) : Int)))) = some (.cont, S18 d out 2 left 2 (i + 1) (.pv (.int ((61 : Nat) : Int)))))
    (p4 : ∀ (out : List Nat) (left i : Nat), g (S18 d out 3 left 0 i (.pv (.int ((61 : Nat) : Int)))) = some (.cont, S18 d out 3 left 1 (i + 1) (.pv (.int ((61 : Nat) : Int)))))
    (l : List Nat) (hl : l.length ≤ 3) (hn : ∀ n ∈ l, n < 256) (hi : is = (fourL l).map fun n : Nat => Itm.one (.int (n : Int))) (h0' : σ₀ = S18 d [] 0 0 0 0 .un)
    (k : ∀ (qp left pads i : Nat) (x : Sl), ((qp = 0 ∧ pads = 0) ∨ (qp = 2 ∧ pads = 2) ∨ (qp = 3 ∧ pads = 1)) → Ret (g₂ (S18 d l qp left pads i x)) r) :
    Ret (seqP (fun σ => (E σ).bind fun xs => forP tp g gE xs σ) g₂ σ₀) r := by
  obtain ⟨qp, left, pads, i, x, e, h⟩ := Mine.loop18 (gE := gE) ht q0 q1 q2 q3 p2 p3 p4 l hl hn
  refine Ret.next (S18 d l qp left pads i x) ?_ (k qp left pads i x h)
  show (E σ₀).bind _ = _
  rw [hE, Option.bind_some, hi, h0', e, hgE]
theorem shr_nat (v k : Nat) : ((v : Int)).fdiv ((k : Nat) : Int) = ((v / k : Nat) : Int) := fdiv_nat v k
theorem run18 {prog : Program} {w : World} {hb : Heap} (abufP : List PV → Option PV) (truP : List PV → Option PV) (valP : List PV → Option PV) (h_ascii_buffer : FV prog w hb "_ascii_buffer" 1 abufP) (h_truth : FV prog w hb "_truth" 1 truP) (h_b64_value : FV prog w hb "_b64_value" 1 valP) (h_bytes : FV prog w hb "bytes" 0 bytesP) :
    ∃ g, XSs prog w hb (fnScope (nth 18)) 1 (fnBody (nth 18)) g ∧ ((∀ l : List UInt8, abufP [.byt l] = some (.byt l)) → (∀ b : Bool, truP [.bool b] = some (.bool b)) → (∀ c : Nat, valP [.int (c : Int)] = some (.int (valN c : Nat))) → ∀ l : List Nat, l.length ≤ 3 → (∀ n ∈ l, n < 256) →
      runP (fnScope (nth 18)).names [("data" : Str), ("strict_mode" : Str)] g [.byt ((fourL l).map (·.toUInt8)), .bool false] = some (.byt (l.map (·.toUInt8)))) := by
  refine' ⟨_, ?w, ?p⟩; rotate_left
  conv in (fnBody _) => whnf
  conv in (fnScope _) => whnf
  with_reducible
   refine' XSs.cons ?_ ?_; rotate_left 2; refine' XS.set 2 ?_; rotate_left; refine' XE.cv (by assumption) ?_; rotate_left; refine' XEs.co ?_ ?_; rotate_left 2; refine' XE.lo 0; refine' XEs.nil; refine' XSs.cons ?_ ?_; rotate_left 2; refine' XS.set 1 ?_; rotate_left; refine' XE.cv (by assumption) ?_; rotate_left; refine' XEs.co ?_ ?_; rotate_left 2; refine' XE.lo 1; refine' XEs.nil
   refine' XSs.cons ?_ ?_; rotate_left 2; refine' XS.own (i := 3) (by kernel_rfl) (XL.lst ?_) (fun Z Z => by kernel_rfl); rotate_left; refine' XEs.nil; refine' XSs.cons ?_ ?_; rotate_left 2; refine' XS.set 4 ?_; rotate_left; refine' XE.int; refine' XSs.cons ?_ ?_; rotate_left 2; refine' XS.set 5 ?_; rotate_left; refine' XE.int; refine' XSs.cons ?_ ?_; rotate_left 2; refine' XS.set 6 ?_; rotate_left
   refine' XE.int; refine' XSs.cons ?_ ?_; rotate_left 2; refine' XS.set 7 ?_; rotate_left; refine' XE.int; refine' XSs.cons ?_ ?_; rotate_left 2; refine' XS.for ?_ ?_ ?_ ?_ (fun Z Z => by kernel_rfl); rotate_left 4; refine' XI.val ?_; rotate_left; refine' XE.lo 2; refine' TT.one ?_; rotate_left; refine' TG.loc (i := 8) (by kernel_rfl); refine' XSs.cons ?_ ?_; rotate_left 2
   refine' XS.ite ?_ ?_ ?_; rotate_left 3; refine' XT.cmp ?_ ?_ (by kernel_rfl); rotate_left 2; refine' XE.lo 8; refine' XE.int; refine' XSs.cons ?_ ?_; rotate_left 2; refine' XS.set 6 ?_; rotate_left; refine' XE.bin ?_ ?_; rotate_left 2; refine' XE.lo 6; refine' XE.int; refine' XSs.cons ?_ ?_; rotate_left 2; refine' XS.ite ?_ ?_ ?_; rotate_left 3; refine' XT.all ?_; rotate_left
   refine' XAll.andCons ?_ ?_; rotate_left 2; refine' XT.cmp ?_ ?_ (by kernel_rfl); rotate_left 2; refine' XE.lo 4; refine' XE.int; refine' XAll.andCons ?_ ?_; rotate_left 2; refine' XT.cmp ?_ ?_ (by kernel_rfl); rotate_left 2; refine' XE.bin ?_ ?_; rotate_left 2; refine' XE.lo 4; refine' XE.lo 6; refine' XE.int; refine' XAll.andNil; refine' XSs.cons ?_ ?_; rotate_left 2
   refine' XS.set 7 ?_; rotate_left; refine' XE.bin ?_ ?_; rotate_left 2; refine' XE.lo 7; refine' XE.int; refine' XSs.cons ?_ ?_; rotate_left 2; refine' XS.cont; refine' XSs.nil; refine' XSs.nil; refine' XSs.cons ?_ ?_; rotate_left 2; refine' XS.ite ?_ ?_ ?_; rotate_left 3; refine' XT.not ?_; rotate_left; refine' XT.val ?_ (fun Z Z => by kernel_rfl); rotate_left; refine' XE.lo 1
   refine' XSs.cons ?_ ?_; rotate_left 2; refine' XS.set 7 ?_; rotate_left; refine' XE.bin ?_ ?_; rotate_left 2; refine' XE.lo 7; refine' XE.int; refine' XSs.cons ?_ ?_; rotate_left 2; refine' XS.cont; refine' XSs.nil; refine' XSs.nil; refine' XSs.cons ?_ ?_; rotate_left 2; refine' XS.ite ?_ ?_ ?_; rotate_left 3; refine' XT.cmp ?_ ?_ (by kernel_rfl); rotate_left 2; refine' XE.lo 4; refine' XE.int
   refine' XSs.cons ?_ ?_; rotate_left 2; refine' XS.brk; refine' XSs.nil; refine' XSs.nil; refine' XSs.cons ?_ ?_; rotate_left 2; refine' XS.ite ?_ ?_ ?_; rotate_left 3; refine' XT.all ?_; rotate_left; refine' XAll.andCons ?_ ?_; rotate_left 2; refine' XT.cmp ?_ ?_ (by kernel_rfl); rotate_left 2; refine' XE.lo 4; refine' XE.int; refine' XAll.andCons ?_ ?_; rotate_left 2
   refine' XT.cmp ?_ ?_ (by kernel_rfl); rotate_left 2; refine' XE.lo 7; refine' XE.int; refine' XAll.andNil; refine' XSs.cons ?_ ?_; rotate_left 2; refine' XS.dead; refine' XSs.nil; refine' XSs.nil; refine' XSs.cons ?_ ?_; rotate_left 2; refine' XS.dead; refine' XSs.nil; refine' XSs.nil; refine' XSs.cons ?_ ?_; rotate_left 2; refine' XS.set 8 ?_; rotate_left
   refine' XE.cv (by assumption) ?_; rotate_left; refine' XEs.co ?_ ?_; rotate_left 2; refine' XE.lo 8; refine' XEs.nil; refine' XSs.cons ?_ ?_; rotate_left 2; refine' XS.ite ?_ ?_ ?_; rotate_left 3; refine' XT.cmp ?_ ?_ (by kernel_rfl); rotate_left 2; refine' XE.lo 8; refine' XE.int; refine' XSs.cons ?_ ?_; rotate_left 2; refine' XS.ite ?_ ?_ ?_; rotate_left 3
   refine' XT.val ?_ (fun Z Z => by kernel_rfl); rotate_left; refine' XE.lo 1; refine' XSs.cons ?_ ?_; rotate_left 2; refine' XS.dead; refine' XSs.nil; refine' XSs.nil; refine' XSs.cons ?_ ?_; rotate_left 2; refine' XS.set 7 ?_; rotate_left; refine' XE.bin ?_ ?_; rotate_left 2; refine' XE.lo 7; refine' XE.int; refine' XSs.cons ?_ ?_; rotate_left 2; refine' XS.cont; refine' XSs.nil; refine' XSs.nil
   refine' XSs.cons ?_ ?_; rotate_left 2; refine' XS.ite ?_ ?_ ?_; rotate_left 3; refine' XT.all ?_; rotate_left; refine' XAll.andCons ?_ ?_; rotate_left 2; refine' XT.val ?_ (fun Z Z => by kernel_rfl); rotate_left; refine' XE.lo 6; refine' XAll.andCons ?_ ?_; rotate_left 2; refine' XT.val ?_ (fun Z Z => by kernel_rfl); rotate_left; refine' XE.lo 1; refine' XAll.andNil
   refine' XSs.cons ?_ ?_; rotate_left 2; refine' XS.ite ?_ ?_ ?_; rotate_left 3; refine' XT.cmp ?_ ?_ (by kernel_rfl); rotate_left 2; refine' XE.bin ?_ ?_; rotate_left 2; refine' XE.lo 4; refine' XE.lo 6; refine' XE.int; refine' XSs.cons ?_ ?_; rotate_left 2; refine' XS.dead; refine' XSs.nil; refine' XSs.nil; refine' XSs.cons ?_ ?_; rotate_left 2; refine' XS.dead; refine' XSs.nil; refine' XSs.nil
   refine' XSs.cons ?_ ?_; rotate_left 2; refine' XS.set 6 ?_; rotate_left; refine' XE.int; refine' XSs.cons ?_ ?_; rotate_left 2; refine' XS.ite ?_ ?_ ?_; rotate_left 3; refine' XT.cmp ?_ ?_ (by kernel_rfl); rotate_left 2; refine' XE.lo 4; refine' XE.int; refine' XSs.cons ?_ ?_; rotate_left 2; refine' XS.set 4 ?_; rotate_left; refine' XE.int; refine' XSs.cons ?_ ?_; rotate_left 2
   refine' XS.set 5 ?_; rotate_left; refine' XE.lo 8; refine' XSs.nil; refine' XSs.cons ?_ ?_; rotate_left 2; refine' XS.ite ?_ ?_ ?_; rotate_left 3; refine' XT.cmp ?_ ?_ (by kernel_rfl); rotate_left 2; refine' XE.lo 4; refine' XE.int; refine' XSs.cons ?_ ?_; rotate_left 2; refine' XS.set 4 ?_; rotate_left; refine' XE.int; refine' XSs.cons ?_ ?_; rotate_left 2
   refine' XS.append (i := 3) (by kernel_rfl) ?_ (by kernel_rfl) (fun Z => by kernel_rfl) (by kernel_rfl); rotate_left; refine' XE.bin ?_ ?_; rotate_left 2; refine' XE.bin ?_ ?_; rotate_left 2; refine' XE.lo 5; refine' XE.int; refine' XE.bin ?_ ?_; rotate_left 2; refine' XE.lo 8; refine' XE.int; refine' XSs.cons ?_ ?_; rotate_left 2; refine' XS.set 5 ?_; rotate_left
   refine' XE.bin ?_ ?_; rotate_left 2; refine' XE.lo 8; refine' XE.int; refine' XSs.nil; refine' XSs.cons ?_ ?_; rotate_left 2; refine' XS.ite ?_ ?_ ?_; rotate_left 3; refine' XT.cmp ?_ ?_ (by kernel_rfl); rotate_left 2; refine' XE.lo 4; refine' XE.int; refine' XSs.cons ?_ ?_; rotate_left 2; refine' XS.set 4 ?_; rotate_left; refine' XE.int; refine' XSs.cons ?_ ?_; rotate_left 2
   refine' XS.append (i := 3) (by kernel_rfl) ?_ (by kernel_rfl) (fun Z => by kernel_rfl) (by kernel_rfl); rotate_left; refine' XE.bin ?_ ?_; rotate_left 2; refine' XE.bin ?_ ?_; rotate_left 2; refine' XE.lo 5; refine' XE.int; refine' XE.bin ?_ ?_; rotate_left 2; refine' XE.lo 8; refine' XE.int; refine' XSs.cons ?_ ?_; rotate_left 2; refine' XS.set 5 ?_; rotate_left
   refine' XE.bin ?_ ?_; rotate_left 2; refine' XE.lo 8; refine' XE.int; refine' XSs.nil; refine' XSs.cons ?_ ?_; rotate_left 2; refine' XS.set 4 ?_; rotate_left; refine' XE.int; refine' XSs.cons ?_ ?_; rotate_left 2; refine' XS.append (i := 3) (by kernel_rfl) ?_ (by kernel_rfl) (fun Z => by kernel_rfl) (by kernel_rfl); rotate_left; refine' XE.bin ?_ ?_; rotate_left 2
   refine' XE.bin ?_ ?_; rotate_left 2; refine' XE.lo 5; refine' XE.int; refine' XE.lo 8; refine' XSs.cons ?_ ?_; rotate_left 2; refine' XS.set 5 ?_; rotate_left; refine' XE.int; refine' XSs.nil; refine' XSs.nil; refine' XSs.nil; refine' XSs.cons ?_ ?_; rotate_left 2; refine' XS.set 7 ?_; rotate_left; refine' XE.bin ?_ ?_; rotate_left 2; refine' XE.lo 7; refine' XE.int; refine' XSs.nil
   refine' XSs.nil; refine' XSs.cons ?_ ?_; rotate_left 2; refine' XS.ite ?_ ?_ ?_; rotate_left 3; refine' XT.cmp ?_ ?_ (by kernel_rfl); rotate_left 2; refine' XE.lo 4; refine' XE.int; refine' XSs.cons ?_ ?_; rotate_left 2; refine' XS.dead; refine' XSs.nil; refine' XSs.nil; refine' XSs.cons ?_ ?_; rotate_left 2; refine' XS.ite ?_ ?_ ?_; rotate_left 3; refine' XT.all ?_; rotate_left
   refine' XAll.andCons ?_ ?_; rotate_left 2; refine' XT.cmp ?_ ?_ (by kernel_rfl); rotate_left 2; refine' XE.lo 4; refine' XE.int; refine' XAll.andCons ?_ ?_; rotate_left 2; refine' XT.cmp ?_ ?_ (by kernel_rfl); rotate_left 2; refine' XE.bin ?_ ?_; rotate_left 2; refine' XE.lo 4; refine' XE.lo 6; refine' XE.int; refine' XAll.andNil; refine' XSs.cons ?_ ?_; rotate_left 2; refine' XS.dead
   refine' XSs.nil; refine' XSs.nil; refine' XSs.cons ?_ ?_; rotate_left 2; refine' XS.ret ?_; rotate_left; refine' XE.cv (by assumption) ?_; rotate_left; refine' XEs.co ?_ ?_; rotate_left 2; refine' XE.lo 3; refine' XEs.nil; refine' XSs.nil
  case p =>
    intro hbuf htru hval l hl hn
    generalize hd : (fourL l).map (·.toUInt8) = d
    refine runP_ret [.pv (.byt d), .pv (.bool false), .un, .un, .un, .un, .un, .un, .un, .un, .un, .un, .un, .un, .un] rfl (by kernel_rfl) ?_
    refine Ret.next [.pv (.byt d), .pv (.bool false), .pv (.byt d), .un, .un, .un, .un, .un, .un, .un, .un, .un, .un, .un, .un] (by simp [X0, X7, X8, hbuf]) ?_
    refine Ret.next [.pv (.byt d), .pv (.bool false), .pv (.byt d), .un, .un, .un, .un, .un, .un, .un, .un, .un, .un, .un, .un] (by simp [X0, X1, X7, X8, htru]) ?_
    refine Ret.next [.pv (.byt d), .pv (.bool false), .pv (.byt d), .own [], .un, .un, .un, .un, .un, .un, .un, .un, .un, .un, .un] rfl ?_
    refine Ret.next [.pv (.byt d), .pv (.bool false), .pv (.byt d), .own [], .pv (.int 0), .un, .un, .un, .un, .un, .un, .un, .un, .un, .un] rfl ?_
    refine Ret.next [.pv (.byt d), .pv (.bool false), .pv (.byt d), .own [], .pv (.int 0), .pv (.int 0), .un, .un, .un, .un, .un, .un, .un, .un, .un] rfl ?_
    refine Ret.next [.pv (.byt d), .pv (.bool false), .pv (.byt d), .own [], .pv (.int 0), .pv (.int 0), .pv (.int 0), .un, .un, .un, .un, .un, .un, .un, .un] rfl ?_
    refine Ret.next (S18 d [] 0 0 0 0 .un) rfl ?_
    have hit : itemsP (.byt d) = some ((fourL l).map fun n : Nat => .one (.int (n : Int))) := by
      show some (d.map _) = _
      rw [← hd, List.map_map]
      congr 1
      apply List.map_congr_left
      intro n hn'
      show Itm.one (.int ((n.toUInt8.toNat : Nat) : Int)) = _
      rw [toU_nat (Nat.lt_trans (fourL_lt l n hn') (by decide))]
    have hE : ((getS 2 (S18 d [] 0 0 0 0 .un)).bind itemsP) = some ((fourL l).map fun n : Nat => .one (.int (n : Int))) := by simp only [S18, X0, X1, Option.bind_some, hit]
    have hbytes : bytesP [.lst (l.map fun n : Nat => .int (n : Int))] = some (.byt (l.map (·.toUInt8))) := bytesP_nums _ hn (by unfold LIM; lia)
    have hv : ∀ v, v < 64 → valP [.int ((sign v : Nat) : Int)] = some (.int (v : Int)) := fun v h => by rw [hval, (sign_val v h).1]
    have hs : ∀ v, v < 64 → (((sign v : Nat) : Int) == 61) = false := fun v h => by rw [beq_eq_false_iff_ne]; have := (sign_val v h).2; lia
    refine Ret.loop18 hE (fun Z => rfl) ?_ ?_ ?_ ?_ ?_ ?_ ?_ ?_ l hl hn rfl rfl ?_
    · intro out qp left pads i c x; rfl
    · intro out left i v h1 h2 h3
      have e1 := hv v h3
      have e2 := hs v h3
      have e3 : ¬ ((64 : Int) ≤ (v : Int)) := by lia
      generalize sign v = sv at *
      simp [S18, X0, X1, X2, X3, X7, X8, Xd, Xi, Xk, Xl, Xy, Xz, seqP, e1, e2, e3]
    · intro out left i v h1 h2 h3
      have e1 := hv v h3
      have e2 := hs v h3
      have e3 : ¬ ((64 : Int) ≤ (v : Int)) := by lia
      have e4 : out.length ≤ LIM := by unfold LIM; lia
      have e5 : Builtin.bitOr ((left : Int) * 4) ((v : Int).fdiv 16) = ((left * 4 + v / 16 : Nat) : Int) := by
        rw [show (v : Int).fdiv 16 = ((v / 16 : Nat) : Int) from shr_nat v 16, show (left : Int) * 4 = ((left * 2 ^ 2 : Nat) : Int) by lia, bOr _ _ 2 (by lia)]
      have e6 : left < 1152921504606846976 := by lia
      generalize sign v = sv at *
      generalize hx : left * 4 + v / 16 = x at *
      simp [S18, X0, X1, X2, X3, X7, X8, Xd, Xi, Xk, Xl, Xy, Xz, seqP, Y0, Y1, Y2, Y3, e1, e2, e3, e4, e5, e6, bAnd15]
    · intro out left i v h1 h2 h3
      have e1 := hv v h3
      have e2 := hs v h3
      have e3 : ¬ ((64 : Int) ≤ (v : Int)) := by lia
      have e4 : out.length ≤ LIM := by unfold LIM; lia
      have e5 : Builtin.bitOr ((left : Int) * 16) ((v : Int).fdiv 4) = ((left * 16 + v / 4 : Nat) : Int) := by
        rw [show (v : Int).fdiv 4 = ((v / 4 : Nat) : Int) from shr_nat v 4, show (left : Int) * 16 = ((left * 2 ^ 4 : Nat) : Int) by lia, bOr _ _ 4 (by lia)]
      have e6 : left < 1152921504606846976 := by lia
      generalize sign v = sv at *
      generalize hx : left * 16 + v / 4 = x at *
      simp [S18, X0, X1, X2, X3, X7, X8, Xd, Xi, Xk, Xl, Xy, Xz, seqP, Y0, Y1, Y2, Y3, e1, e2, e3, e4, e5, e6, bAnd3]
    · intro out left i v h1 h2 h3
      have e1 := hv v h3
      have e2 := hs v h3
      have e3 : ¬ ((64 : Int) ≤ (v : Int)) := by lia
      have e4 : out.length ≤ LIM := by unfold LIM; lia
      have e5 : Builtin.bitOr ((left : Int) * 64) (v : Int) = ((left * 64 + v : Nat) : Int) := by
        rw [show (left : Int) * 64 = ((left * 2 ^ 6 : Nat) : Int) by lia, bOr _ _ 6 (by lia)]
      have e6 : left < 1152921504606846976 := by lia
      generalize sign v = sv at *
      generalize hx : left * 64 + v = x at *
      simp [S18, X0, X1, X2, X3, X7, X8, Xd, Xi, Xk, Xl, Xy, Xz, seqP, Y0, Y1, Y2, Y3, e1, e2, e3, e4, e5, e6]
    · intro out left i; simp [S18, X0, X1, X7, X8, Xd, Xi, Xk, Xl, seqP]
    · intro out left i; simp [S18, X0, X1, X7, X8, Xd, Xi, Xk, Xl, seqP]
    · intro out left i; simp [S18, X0, X1, X7, X8, Xd, Xi, Xk, Xl, seqP]
    · intro qp left pads i x h
      rcases h with ⟨rfl, rfl⟩ | ⟨rfl, rfl⟩ | ⟨rfl, rfl⟩
      · refine Ret.next (S18 d l 0 left 0 i x) (by repeat' (first | rfl | apply be | apply me)) ?_
        refine Ret.next (S18 d l 0 left 0 i x) (by repeat' (first | rfl | apply be | apply me)) ?_
        refine Ret.here (Ret.of (σ' := frzS (S18 d l 0 left 0 i x)) ?_)
        repeat' (first | exact frzS_cons | exact congrArg some frzS_cons | exact frzS_nil | exact congrArg some frzS_nil | exact hbytes | exact congrArg some hbytes | rfl | apply be | apply me)
      · refine Ret.next (S18 d l 2 left 2 i x) (by repeat' (first | rfl | apply be | apply me)) ?_
        refine Ret.next (S18 d l 2 left 2 i x) (by repeat' (first | rfl | apply be | apply me)) ?_
        refine Ret.here (Ret.of (σ' := frzS (S18 d l 2 left 2 i x)) ?_)
        repeat' (first | exact frzS_cons | exact congrArg some frzS_cons | exact frzS_nil | exact congrArg some frzS_nil | exact hbytes | exact congrArg some hbytes | rfl | apply be | apply me)
      · refine Ret.next (S18 d l 3 left 1 i x) (by repeat' (first | rfl | apply be | apply me)) ?_
        refine Ret.next (S18 d l 3 left 1 i x) (by repeat' (first | rfl | apply be | apply me)) ?_
        refine Ret.here (Ret.of (σ' := frzS (S18 d l 3 left 1 i x)) ?_)
        repeat' (first | exact frzS_cons | exact congrArg some frzS_cons | exact frzS_nil | exact congrArg some frzS_nil | exact hbytes | exact congrArg some hbytes | rfl | apply be | apply me)
/-- one file of the tree -/
structure It where
  kind : Nat
  perm : Nat
  ab : Int
  nm : Nat
  st : List Nat
namespace It
noncomputable abbrev mode (x : It) : Nat := x.kind * 4096 + x.perm
noncomputable def fig (x : It) (who : Nat) : Nat := x.perm / [64, 8, 1].getD who 1 % 8
noncomputable def spc (x : It) (who : Nat) : Nat := x.perm / [2048, 1024, 512].getD who 1 % 2
noncomputable def shut (x : It) (who : Nat) : Bool := decide (x.fig who < 4) || (x.kind == 4 && x.fig who % 2 == 0)
noncomputable def lastS (who n : Nat) : Nat := if who = 2 then [45, 120, 84, 116].getD n 0 else [45, 120, 83, 115].getD n 0
noncomputable def three (x : It) (who : Nat) : List Nat := [if 4 ≤ x.fig who then 114 else 45, if x.fig who / 2 % 2 = 1 then 119 else 45, lastS who (x.spc who * 2 + x.fig who % 2)]
noncomputable def kindC (k : Nat) : Nat := [63, 112, 99, 63, 100, 63, 98, 63, 45, 63, 108, 63, 115, 63, 63, 63].getD k 0
noncomputable def row (x : It) : List Nat := kindC x.kind :: (x.three 0 ++ x.three 1 ++ x.three 2)
noncomputable def slot (x : It) : Nat := if x.ab < 0 then 4 else x.ab.toNat
structure Ok (x : It) (k : Nat) : Prop where
  kind : x.kind < 16
  perm : x.perm < 4096
  ab : x.ab = -1 ∨ (0 ≤ x.ab ∧ x.ab < (k : Int))
  nm : x.nm = 40 ∨ x.nm = 41 ∨ x.nm = 34 ∨ x.nm = 92
  st : x.st.length ≤ 3
  oct : ∀ n ∈ x.st, n < 256
  fold : x.kind = 4 → x.st = []
theorem fig_lt (x : It) (who : Nat) : x.fig who < 8 := Nat.mod_lt _ (by decide)
theorem spc_lt (x : It) (who : Nat) : x.spc who < 2 := Nat.mod_lt _ (by decide)
end It
/-- who can stand in whom -/
noncomputable def reach : Nat → List (List Int × List Int)
  | 0 => [([], [-1])]
  | n + 1 => (reach n).flatMap fun p => [0, 1, 2].flatMap fun r => [false, true].map fun f =>
      let q := p.2.take (max 1 (p.2.length - r))
      (p.1 ++ [q.getLastD (-1)], if f then q ++ [(n : Int)] else q)
noncomputable def shapes : List (List Int) := [[-1, -1, -1, -1], [-1, -1, -1, 2], [-1, -1, 1, -1], [-1, -1, 1, 1], [-1, -1, 1, 2], [-1, 0, -1, -1], [-1, 0, -1, 2], [-1, 0, 0, -1], [-1, 0, 0, 0], [-1, 0, 0, 2], [-1, 0, 1, -1], [-1, 0, 1, 0], [-1, 0, 1, 1], [-1, 0, 1, 2]]
theorem reach_shapes : ∀ p ∈ reach 4, p.1 ∈ shapes := by decide +kernel
structure DOk (D : List It) : Prop where
  len : D.length = 4
  shp : D.map It.ab ∈ shapes
  ok : ∀ (k : Nat) (x : It), D[k]? = some x → x.Ok k
  par : ∀ (k p : Nat) (x y : It), D[k]? = some x → x.ab = (p : Int) → D[p]? = some y → y.kind = 4
theorem DOk.at {D : List It} (h : DOk D) {k : Nat} (hk : k < 4) : ∃ x, D[k]? = some x := ⟨D[k]'(by rw [h.len]; exact hk), List.getElem?_eq_getElem _⟩
theorem It.Ok.slot_lt {x : It} {k : Nat} (h : x.Ok k) (hk : k < 4) : x.slot < 5 := by
  unfold It.slot
  rcases h.ab with h | h
  · rw [if_pos (by lia)]; decide
  · rw [if_neg (by lia)]; lia
theorem It.Ok.seqIndex {x : It} {k : Nat} (h : x.Ok k) (hk : k < 4) : seqIndex? x.ab 5 = some x.slot := by
  unfold It.slot
  rcases h.ab with h | h
  · rw [h]; rfl
  · rw [if_neg (by lia)]
    exact StrLaws.seqIndex_nonneg h.1 (by lia)
section
variable {α β : Type}
noncomputable def bstep (D : List It) (comb : Nat → It → α → α → α) (a0 : α) (H : List α) (k : Nat) : List α := match D[k]? with
  | some x => H.set x.slot (comb k x (H.getD k a0) (H.getD x.slot a0))
  | none => H
noncomputable def build (D : List It) (comb : Nat → It → α → α → α) (a0 : α) : α := ([3, 2, 1, 0].foldl (bstep D comb a0) (List.replicate 5 a0)).getD 4 a0
theorem getD_set {l : List α} {i j : Nat} {v d : α} (h : i < l.length) : (l.set i v).getD j d = if j = i then v else l.getD j d := by
  rw [List.getD_eq_getElem?_getD, List.getElem?_set, List.getD_eq_getElem?_getD]
  by_cases e : i = j
  · subst e; simp [h]
  · rw [if_neg e, if_neg (Ne.symm e)]
theorem build_rel {D : List It} (hD : DOk D) {c : Nat → It → α → α → α} {c' : Nat → It → β → β → β} {a0 : α} {b0 : β} (R : Nat → α → β → Prop) (h0 : ∀ s, R s a0 b0)
    (h : ∀ k x a a' b b', D[k]? = some x → k < 4 → R k a b → R x.slot a' b' → R x.slot (c k x a a') (c' k x b b')) : R 4 (build D c a0) (build D c' b0) := by
  have step : ∀ (ks : List Nat) (H : List α) (G : List β), (∀ k ∈ ks, k < 4) → H.length = 5 → G.length = 5 → (∀ s, R s (H.getD s a0) (G.getD s b0)) → ∀ s, R s ((ks.foldl (bstep D c a0) H).getD s a0) ((ks.foldl (bstep D c' b0) G).getD s b0) := by
    intro ks
    induction ks with
    | nil => intro H G Z Z Z hR; exact hR
    | cons k ks ih =>
      intro H G hk hH hG hR
      have hk4 := hk k (List.mem_cons_self ..)
      obtain ⟨x, hx⟩ := hD.at hk4
      have hs := (hD.ok k x hx).slot_lt hk4
      have e1 : bstep D c a0 H k = H.set x.slot (c k x (H.getD k a0) (H.getD x.slot a0)) := by unfold bstep; rw [hx]
      have e2 : bstep D c' b0 G k = G.set x.slot (c' k x (G.getD k b0) (G.getD x.slot b0)) := by unfold bstep; rw [hx]
      rw [List.foldl_cons, List.foldl_cons, e1, e2]
      refine ih _ _ (fun k hk' => hk k (List.mem_cons_of_mem _ hk')) (by rw [List.length_set, hH]) (by rw [List.length_set, hG]) fun s => ?_
      rw [getD_set (by rw [hH]; exact hs), getD_set (by rw [hG]; exact hs)]
      split
      · rename_i e; rw [e]; exact h k x _ _ _ _ hx hk4 (hR k) (hR x.slot)
      · exact hR s
  refine step [3, 2, 1, 0] _ _ (by decide) (by simp) (by simp) (fun s => ?_) 4
  have : ∀ {γ : Type} (g : γ), (List.replicate 5 g).getD s g = g := by
    intro γ g
    rw [List.getD_eq_getElem?_getD, List.getElem?_replicate]
    split <;> rfl
  rw [this, this]; exact h0 s
theorem build_all {D : List It} (hD : DOk D) {c : Nat → It → α → α → α} {a0 : α} (R : Nat → α → Prop) (h0 : ∀ s, R s a0)
    (h : ∀ k x a a', D[k]? = some x → k < 4 → R k a → R x.slot a' → R x.slot (c k x a a')) : R 4 (build D c a0) :=
  build_rel (c' := fun Z Z Z Z => ()) (b0 := ()) hD (fun s a Z => R s a) h0 fun k x a a' Z Z hx hk h1 h2 => h k x a a' hx hk h1 h2
end
noncomputable def esc (b : List Nat) : List Nat := sub1 34 [92, 34] (sub1 92 [92, 92] b)
noncomputable def pieceS (who : Nat) (pairs : List (List Nat × List Nat)) (k : Nat) (x : It) (h h' : List Nat) : List Nat :=
  let b := if x.kind = 4 then (pairs.getD k ([], [])).1 ++ h ++ (pairs.getD k ([], [])).2 else fourL x.st
  [It.kindC x.kind] ++ x.three who ++ [92, x.nm] ++ (if x.shut who = true then [34] ++ esc b ++ [34] else b) ++ [44] ++ h'
noncomputable def lineS (D : List It) (who : Nat) (pairs : List (List Nat × List Nat)) : List Nat := build D (pieceS who pairs) []
theorem sub1_len (c : Nat) (z : List Nat) (hz : z.length ≤ 2) : ∀ l : List Nat, (sub1 c z l).length ≤ 2 * l.length
  | [] => Nat.zero_le _
  | a :: l => by
    have ih := sub1_len c z hz l
    unfold sub1 at ih ⊢
    rw [List.flatMap_cons, List.length_append, List.length_cons]
    by_cases e : a = c
    · rw [if_pos e]; lia
    · rw [if_neg e, List.length_singleton]; lia
theorem esc_len (l : List Nat) : (esc l).length ≤ 4 * l.length := by
  unfold esc
  have h1 := sub1_len 92 [92, 92] (by decide) l
  have h2 := sub1_len 34 [92, 34] (by decide) (sub1 92 [92, 92] l)
  lia
theorem fourL_len (l : List Nat) (h : l.length ≤ 3) : (fourL l).length ≤ 4 := by
  unfold fourL
  split
  · decide
  · simp; lia
noncomputable def strsV (l : List (List Nat)) : PV := .lst (l.map .str)
noncomputable def bools (l : List Bool) : PV := .lst (l.map .bool)
noncomputable def intsV (l : List Int) : PV := .lst (l.map .int)
noncomputable def pairsV (l : List (List Nat × List Nat)) : PV := .lst (l.map fun p => .lst [.str p.1, .str p.2])
noncomputable def S49 (D : List It) (who : Nat) (pairs : List (List Nat × List Nat)) (held : List (List Nat)) (k three body : Sl) : List Sl :=
  [.pv (strsV (D.map It.row)), .pv (bools (D.map fun x => x.kind == 4)), .pv (intsV (D.map It.ab)), .pv (strsV (D.map fun x => [92, x.nm])), .pv (strsV (D.map fun x => fourL x.st)), .pv (.int (who : Int)), .pv (pairsV pairs), .own (held.map .str), k, three, body]
noncomputable def in49 (D : List It) (who : Nat) (pairs : List (List Nat × List Nat)) : List PV :=
  [strsV (D.map It.row), bools (D.map fun x => x.kind == 4), intsV (D.map It.ab), strsV (D.map fun x => [92, x.nm]), strsV (D.map fun x => fourL x.st), .int (who : Int), pairsV pairs]
theorem item_map {α : Type} {D : List α} {k : Nat} {x : α} (f : α → PV) (h : D[k]? = some x) (hk : k < 4) : itemP (.lst (D.map f)) (.int (k : Int)) = some (f x) := item_lst _ k _ (by rw [List.getElem?_map, h]; rfl) (Nat.lt_trans hk (by decide))
theorem item_row {D : List It} {k : Nat} {x : It} (h : D[k]? = some x) (hk : k < 4) : itemP (strsV (D.map It.row)) (.int (k : Int)) = some (.str x.row) := by
  unfold strsV; rw [List.map_map]; exact item_map _ h hk
theorem item_fold {D : List It} {k : Nat} {x : It} (h : D[k]? = some x) (hk : k < 4) : itemP (bools (D.map fun x => x.kind == 4)) (.int (k : Int)) = some (.bool (x.kind == 4)) := by
  unfold bools; rw [List.map_map]; exact item_map _ h hk
theorem item_ab {D : List It} {k : Nat} {x : It} (h : D[k]? = some x) (hk : k < 4) : itemP (intsV (D.map It.ab)) (.int (k : Int)) = some (.int x.ab) := by
  unfold intsV; rw [List.map_map]; exact item_map _ h hk
theorem item_nm {D : List It} {k : Nat} {x : It} (h : D[k]? = some x) (hk : k < 4) : itemP (strsV (D.map fun x => [92, x.nm])) (.int (k : Int)) = some (.str [92, x.nm]) := by
  unfold strsV; rw [List.map_map]; exact item_map _ h hk
theorem item_wr {D : List It} {k : Nat} {x : It} (h : D[k]? = some x) (hk : k < 4) : itemP (strsV (D.map fun x => fourL x.st)) (.int (k : Int)) = some (.str (fourL x.st)) := by
  unfold strsV; rw [List.map_map]; exact item_map _ h hk
theorem item_held {held : List (List Nat)} {k : Nat} (hl : held.length = 5) (hk : k < 4) : itemP (.lst (held.map .str)) (.int (k : Int)) = some (.str (held.getD k [])) := by
  refine item_lst _ k _ ?_ (Nat.lt_trans hk (by decide))
  rw [List.getElem?_map, List.getD_eq_getElem?_getD, List.getElem?_eq_getElem (by lia)]; rfl
theorem item_heldS {held : List (List Nat)} {x : It} {k : Nat} (hl : held.length = 5) (ok : x.Ok k) (hk : k < 4) : itemP (.lst (held.map .str)) (.int x.ab) = some (.str (held.getD x.slot [])) := by
  have hs := ok.slot_lt hk
  have e : itemP (.lst (held.map .str)) (.int x.ab) = if x.ab.natAbs < 2 ^ 60 then (seqIndex? x.ab (held.map PV.str).length).bind ((held.map PV.str)[·]?) else none := rfl
  rw [e, if_pos (by rcases ok.ab with h | h <;> lia), List.length_map, hl, ok.seqIndex hk, Option.bind_some, List.getElem?_map, List.getD_eq_getElem?_getD, List.getElem?_eq_getElem (by lia)]; rfl
theorem row_three (x : It) {who : Nat} (h : who < 3) : (x.row.drop (1 + 3 * who)).take 3 = x.three who := by
  rcases who with _ | _ | _ | who
  · rfl
  · rfl
  · rfl
  · lia
theorem row_len (x : It) : x.row.length = 10 := rfl
theorem three_len (x : It) (who : Nat) : (x.three who).length = 3 := rfl
theorem slc_three (x : It) {who : Nat} (h : who < 3) : sliceP (.str x.row) (some (1 + 3 * (who : Int))) (some (4 + 3 * (who : Int))) = some (.str (x.three who)) := by
  have e1 : (1 : Int) + 3 * (who : Int) = ((1 + 3 * who : Nat) : Int) := by lia
  have e2 : (4 : Int) + 3 * (who : Int) = ((4 + 3 * who : Nat) : Int) := by lia
  rw [e1, e2, sliceP_nn _ _ _ (by rw [row_len]; decide), show 4 + 3 * who - (1 + 3 * who) = 3 by lia, row_three x h]
theorem item_three0 (x : It) (who : Nat) : itemP (.str (x.three who)) (.int 0) = some (.str [if 4 ≤ x.fig who then 114 else 45]) := item_str (x.three who) 0 (by rw [three_len]; decide) (by decide)
theorem item_three2 (x : It) (who : Nat) : itemP (.str (x.three who)) (.int 2) = some (.str [It.lastS who (x.spc who * 2 + x.fig who % 2)]) := item_str (x.three who) 2 (by rw [three_len]; decide) (by decide)
theorem item_row0 (x : It) : itemP (.str x.row) (.int 0) = some (.str [It.kindC x.kind]) := item_str x.row 0 (by rw [row_len]; decide) (by decide)
theorem last_in (x : It) (who : Nat) : Txt.contains (S [120, 115, 116]) (S [It.lastS who (x.spc who * 2 + x.fig who % 2)]) = (x.fig who % 2 == 1) := by
  rw [has_one]
  have h1 := x.spc_lt who
  have h2 : x.fig who % 2 < 2 := Nat.mod_lt _ (by decide)
  generalize x.spc who = s at *
  generalize x.fig who % 2 = f at *
  have : ∀ s, s < 2 → ∀ f, f < 2 → ∀ b : Bool, decide ((if b = true then [45, 120, 84, 116].getD (s * 2 + f) 0 else [45, 120, 83, 115].getD (s * 2 + f) 0) ∈ [120, 115, 116]) = (f == 1) := by decide
  have h := this s h1 f h2 (decide (who = 2))
  unfold It.lastS
  rw [← h]
  simp
theorem replP_eq (x : List Nat) (c : Nat) (z : List Nat) (h : [c] ≠ z) (hl : x.length + (x.length + 1) * z.length ≤ 16777216) : replP x [c] z = some (.str (sub1 c z x)) := by
  unfold replP
  rw [if_pos ⟨h, hl⟩, repl_eq]
theorem shut_eq (x : It) (who : Nat) : x.shut who = (!([if 4 ≤ x.fig who then 114 else 45] == [114]) || (x.kind == 4 && !Txt.contains (S [120, 115, 116]) (S [It.lastS who (x.spc who * 2 + x.fig who % 2)]))) := by
  rw [last_in]
  unfold It.shut
  have h1 := x.fig_lt who
  generalize x.fig who = f at *
  have : ∀ f, f < 8 → ∀ b : Bool, (decide (f < 4) || (b && f % 2 == 0)) = (!([if 4 ≤ f then 114 else 45] == [114]) || (b && !(f % 2 == 1))) := by decide
  exact this f h1 _
theorem set_eq {l : List PV} {ab : Int} {s : Nat} {p : PV} {σ : List Sl} (h1 : ab.natAbs < 2 ^ 60) (h2 : seqIndex? ab l.length = some s) :
    (if ab.natAbs < 2 ^ 60 then Option.map (fun j => (PF.next, σ.set 7 (.own (l.set j p)))) (seqIndex? ab l.length) else none) = some (PF.next, σ.set 7 (.own (l.set s p))) := by rw [if_pos h1, h2]; rfl
noncomputable def B (n : Nat) : Nat := 20 * 6 ^ (4 - n)
inductive IS49 (D : List It) (who : Nat) (pairs : List (List Nat × List Nat)) (held : List (List Nat)) : List Sl → Prop
  | mk (x0 x1 x2 : Sl) : IS49 D who pairs held (S49 D who pairs held x0 x1 x2)
theorem run49 {prog : Program} {w : World} {hb : Heap}   :
    ∃ g, XSs prog w hb (fnScope (nth 49)) 0 (fnBody (nth 49)) g ∧ ∀ (D : List It) (who : Nat) (pairs : List (List Nat × List Nat)), DOk D → who < 3 → pairs.length = 4 → (∀ p ∈ pairs, p.1.length ≤ 1 ∧ p.2.length ≤ 1) →
      runP (fnScope (nth 49)).names [("rows" : Str), ("folders" : Str), ("above" : Str), ("names" : Str), ("written" : Str), ("who" : Str), ("pairs" : Str)] g (in49 D who pairs) = some (.str (lineS D who pairs)) := by
  refine' ⟨_, ?w, ?p⟩; rotate_left
  conv in (fnBody _) => whnf
  conv in (fnScope _) => whnf
  with_reducible
   refine' XSs.cons ?_ ?_; rotate_left 2; refine' XS.own (i := 7) (by kernel_rfl) (XL.mul ?_ ?_) (fun Z Z => by kernel_rfl); rotate_left 2; refine' XE.ofL (XL.lst ?_); rotate_left; refine' XEs.co ?_ ?_; rotate_left 2; refine' XE.str; refine' XEs.nil; refine' XE.int; refine' XSs.cons ?_ ?_; rotate_left 2; refine' XS.for ?_ ?_ ?_ ?_ (fun Z Z => by kernel_rfl); rotate_left 4
   refine' XI.val ?_; rotate_left; refine' XE.tup ?_ (by decide); rotate_left; refine' XEs.co ?_ ?_; rotate_left 2; refine' XE.int; refine' XEs.co ?_ ?_; rotate_left 2; refine' XE.int; refine' XEs.co ?_ ?_; rotate_left 2; refine' XE.int; refine' XEs.co ?_ ?_; rotate_left 2; refine' XE.int; refine' XEs.nil; refine' TT.one ?_; rotate_left; refine' TG.loc (i := 8) (by kernel_rfl)
   refine' XSs.cons ?_ ?_; rotate_left 2; refine' XS.set 9 ?_; rotate_left; refine' XE.slc ?_ ?_ ?_; rotate_left 3; refine' XE.idxB (i := 0) (by kernel_rfl) ?_ (by kernel_rfl) (fun Z Z => by kernel_rfl); rotate_left; refine' XE.lo 8; refine' XO.some ?_; rotate_left; refine' XE.bin ?_ ?_; rotate_left 2; refine' XE.int; refine' XE.bin ?_ ?_; rotate_left 2; refine' XE.int; refine' XE.lo 5
   refine' XO.some ?_; rotate_left; refine' XE.bin ?_ ?_; rotate_left 2; refine' XE.int; refine' XE.bin ?_ ?_; rotate_left 2; refine' XE.int; refine' XE.lo 5; refine' XSs.cons ?_ ?_; rotate_left 2; refine' XS.set 10 ?_; rotate_left; refine' XE.ife ?_ ?_ ?_; rotate_left 3; refine' XT.val ?_ (fun Z Z => by kernel_rfl); rotate_left
   refine' XE.idxB (i := 1) (by kernel_rfl) ?_ (by kernel_rfl) (fun Z Z => by kernel_rfl); rotate_left; refine' XE.lo 8; refine' XE.bin ?_ ?_; rotate_left 2; refine' XE.bin ?_ ?_; rotate_left 2; refine' XE.idx ?_ ?_ (fun Z Z => by kernel_rfl); rotate_left 2; refine' XE.idxB (i := 6) (by kernel_rfl) ?_ (by kernel_rfl) (fun Z Z => by kernel_rfl); rotate_left; refine' XE.lo 8; refine' XE.int
   refine' XE.idxB (i := 7) (by kernel_rfl) ?_ (by kernel_rfl) (fun Z Z => by kernel_rfl); rotate_left; refine' XE.lo 8; refine' XE.idx ?_ ?_ (fun Z Z => by kernel_rfl); rotate_left 2; refine' XE.idxB (i := 6) (by kernel_rfl) ?_ (by kernel_rfl) (fun Z Z => by kernel_rfl); rotate_left; refine' XE.lo 8; refine' XE.int
   refine' XE.idxB (i := 4) (by kernel_rfl) ?_ (by kernel_rfl) (fun Z Z => by kernel_rfl); rotate_left; refine' XE.lo 8; refine' XSs.cons ?_ ?_; rotate_left 2; refine' XS.ite ?_ ?_ ?_; rotate_left 3; refine' XT.all ?_; rotate_left; refine' XAll.orCons ?_ ?_; rotate_left 2; refine' XT.cmp ?_ ?_ (by kernel_rfl); rotate_left 2
   refine' XE.idxB (i := 9) (by kernel_rfl) ?_ (by kernel_rfl) (fun Z Z => by kernel_rfl); rotate_left; refine' XE.int; refine' XE.str; refine' XAll.orCons ?_ ?_; rotate_left 2; refine' XT.all ?_; rotate_left; refine' XAll.andCons ?_ ?_; rotate_left 2; refine' XT.val ?_ (fun Z Z => by kernel_rfl); rotate_left
   refine' XE.idxB (i := 1) (by kernel_rfl) ?_ (by kernel_rfl) (fun Z Z => by kernel_rfl); rotate_left; refine' XE.lo 8; refine' XAll.andCons ?_ ?_; rotate_left 2; refine' XT.cmp ?_ ?_ (by kernel_rfl); rotate_left 2; refine' XE.idxB (i := 9) (by kernel_rfl) ?_ (by kernel_rfl) (fun Z Z => by kernel_rfl); rotate_left; refine' XE.int; refine' XE.str; refine' XAll.andNil; refine' XAll.orNil
   refine' XSs.cons ?_ ?_; rotate_left 2; refine' XS.set 10 ?_; rotate_left; refine' XE.bin ?_ ?_; rotate_left 2; refine' XE.binS (XN.repl (XN.repl (XN.of ?_) (fun Z => by kernel_rfl) (by kernel_rfl)) (fun Z => by kernel_rfl) (by kernel_rfl)); rotate_left; refine' XE.lo 10; refine' XE.str; refine' XSs.nil; refine' XSs.nil; refine' XSs.cons ?_ ?_; rotate_left 2
   refine' XS.setO (i := 7) (by kernel_rfl) ?_ ?_ (fun Z => by kernel_rfl) (by kernel_rfl); rotate_left 2; refine' XE.bin ?_ ?_; rotate_left 2; refine' XE.bin ?_ ?_; rotate_left 2; refine' XE.bin ?_ ?_; rotate_left 2; refine' XE.bin ?_ ?_; rotate_left 2; refine' XE.bin ?_ ?_; rotate_left 2; refine' XE.idx ?_ ?_ (fun Z Z => by kernel_rfl); rotate_left 2
   refine' XE.idxB (i := 0) (by kernel_rfl) ?_ (by kernel_rfl) (fun Z Z => by kernel_rfl); rotate_left; refine' XE.lo 8; refine' XE.int; refine' XE.lo 9; refine' XE.idxB (i := 3) (by kernel_rfl) ?_ (by kernel_rfl) (fun Z Z => by kernel_rfl); rotate_left; refine' XE.lo 8; refine' XE.lo 10; refine' XE.str
   refine' XE.idxB (i := 7) (by kernel_rfl) ?_ (by kernel_rfl) (fun Z Z => by kernel_rfl); rotate_left; refine' XE.idxB (i := 2) (by kernel_rfl) ?_ (by kernel_rfl) (fun Z Z => by kernel_rfl); rotate_left; refine' XE.lo 8; refine' XE.idxB (i := 2) (by kernel_rfl) ?_ (by kernel_rfl) (fun Z Z => by kernel_rfl); rotate_left; refine' XE.lo 8; refine' XSs.nil; refine' XSs.nil
   refine' XSs.cons ?_ ?_; rotate_left 2; refine' XS.ret ?_; rotate_left; refine' XE.idxB (i := 7) (by kernel_rfl) ?_ (by kernel_rfl) (fun Z Z => by kernel_rfl); rotate_left; refine' XE.un ?_; rotate_left; refine' XE.int; refine' XSs.nil
  case p =>
    intro D who pairs hD hw hp hpl
    refine runP_ret [.pv (strsV (D.map It.row)), .pv (bools (D.map fun x => x.kind == 4)), .pv (intsV (D.map It.ab)), .pv (strsV (D.map fun x => [92, x.nm])), .pv (strsV (D.map fun x => fourL x.st)), .pv (.int (who : Int)), .pv (pairsV pairs), .un, .un, .un, .un] rfl (by kernel_rfl) ?_
    simp only [cs]
    refine Ret.next (S49 D who pairs (List.replicate 5 []) .un .un .un) rfl ?_
    refine Ret.loop (enc := fun k : Nat => .one (.int (k : Int))) (bs := [3, 2, 1, 0]) ?hE (fun held bs σ => (IS49 D who pairs held σ) ∧ held.length = 5 ∧ (∀ k ∈ bs, k < 4) ∧ bs.length ≤ 4 ∧ ∀ s, (held.getD s []).length ≤ B bs.length) (bstep D (pieceS who pairs) []) (List.replicate 5 []) ?h0 (fun Z => rfl) ?hs ?hk
    case hE => rfl
    case h0 =>
      refine ⟨.mk .., rfl, by decide, by decide, fun s => ?_⟩
      rw [List.getD_eq_getElem?_getD, List.getElem?_replicate]
      split <;> simp
    case hs =>
      rintro held k bs σ ⟨⟨k0, t0, b0⟩, hl, hks, hbs, hB⟩
      have hk4 : k < 4 := hks k (List.mem_cons_self ..)
      obtain ⟨x, hx⟩ := hD.at hk4
      have ok := hD.ok k x hx
      have hsl := ok.slot_lt hk4
      have hstep : bstep D (pieceS who pairs) [] held k = held.set x.slot (pieceS who pairs k x (held.getD k []) (held.getD x.slot [])) := by unfold bstep; rw [hx]
      obtain ⟨p, hpk⟩ : ∃ p, pairs[k]? = some p := ⟨pairs[k]'(by lia), List.getElem?_eq_getElem _⟩
      have hpd : pairs.getD k ([], []) = p := by rw [List.getD_eq_getElem?_getD, hpk]; rfl
      have hpp := hpl p (List.mem_of_getElem? hpk)
      have hbl : bs.length ≤ 3 := by simp at hbs; lia
      have hBk := hB k
      have hBs := hB x.slot
      have hBn : B (bs.length + 1) * 6 = B bs.length := by
        unfold B
        rw [show 4 - bs.length = (4 - (bs.length + 1)) + 1 by lia, Nat.pow_succ]
        lia
      have hBm : 20 ≤ B (bs.length + 1) := by
        unfold B
        have := Nat.one_le_pow (4 - (bs.length + 1)) 6 (by decide)
        lia
      have hBt : B bs.length ≤ 25920 := by
        have : ∀ n, n ≤ 3 → B n ≤ 25920 := by decide
        exact this _ hbl
      rw [List.length_cons] at hBk hBs
      have e1 := item_row hx hk4
      have e2 := item_fold hx hk4
      have e3 := item_ab hx hk4
      have e4 := item_nm hx hk4
      have e5 := item_wr hx hk4
      have e6 := item_held hl hk4
      have e7 := item_heldS hl ok hk4
      have e8 : itemP (pairsV pairs) (.int (k : Int)) = some (.lst [.str p.1, .str p.2]) := item_map _ hpk hk4
      generalize hK : held.getD k [] = hk' at *
      generalize hS : held.getD x.slot [] = hs' at *
      obtain ⟨b, hb⟩ : ∃ b, b = if x.kind = 4 then p.1 ++ hk' ++ p.2 else fourL x.st := ⟨_, rfl⟩
      obtain ⟨bb, hbb⟩ : ∃ bb, bb = if x.shut who = true then [34] ++ esc b ++ [34] else b := ⟨_, rfl⟩
      have hpiece : pieceS who pairs k x hk' hs' = [It.kindC x.kind] ++ x.three who ++ [92, x.nm] ++ bb ++ [44] ++ hs' := by unfold pieceS; rw [hpd, hbb, hb]
      have hbL : b.length ≤ B (bs.length + 1) + 2 := by
        rw [hb]
        split
        · rw [List.length_append, List.length_append]; lia
        · have := fourL_len x.st ok.st; lia
      have hbbL : bb.length ≤ 4 * (B (bs.length + 1) + 2) + 2 := by
        rw [hbb]
        split
        · have := esc_len b
          rw [List.length_append, List.length_append]; simp; lia
        · lia
      rw [hpiece] at hstep
      have htl := three_len x who
      refine ⟨S49 D who pairs held (.pv (.int (k : Int))) t0 b0, S49 D who pairs (bstep D (pieceS who pairs) [] held k) (.pv (.int (k : Int))) (.pv (.str (x.three who))) (.pv (.str bb)), rfl, .inl ?_, .mk .., ?_, fun k hk => hks k (List.mem_cons_of_mem _ hk), by lia, fun s => ?_⟩
      · refine seqP_eq (S49 D who pairs held (.pv (.int (k : Int))) (.pv (.str (x.three who))) b0) ?_ ?_
        · repeat' (first | exact e1 | exact congrArg some e1 | exact (slc_three x hw) | exact congrArg some (slc_three x hw) | rfl | apply be | apply me)
        refine seqP_eq (S49 D who pairs held (.pv (.int (k : Int))) (.pv (.str (x.three who))) (.pv (.str b))) ?_ ?_
        · by_cases h4 : x.kind = 4
          · have h4' : (x.kind == 4) = true := by simpa using h4
            rw [if_pos h4] at hb
            have a1 : binP .Add (.str p.1) (.str hk') = some (.str (p.1 ++ hk')) := add_str _ _ (by unfold LIM; lia)
            have a2 : binP .Add (.str (p.1 ++ hk')) (.str p.2) = some (.str (p.1 ++ hk' ++ p.2)) := add_str _ _ (by rw [List.length_append]; unfold LIM; lia)
            simp only [S49, X0, X1, X4, X5, X6, X7, X8, Xz, Option.bind_some, Option.map_some, e2, h4', e8, item_l0, item_l1, e6, a1, a2, hb, ↓reduceIte]
          · have h4' : (x.kind == 4) = false := by simpa using h4
            rw [if_neg h4] at hb
            simp only [S49, X0, X1, X4, X5, X6, X7, X8, Xz, Option.bind_some, Option.map_some, e2, h4', e5, hb, ↓reduceIte, Bool.false_eq_true]
        refine seqP_eq (S49 D who pairs held (.pv (.int (k : Int))) (.pv (.str (x.three who))) (.pv (.str bb))) ?_ ?_
        · have e9 := item_three0 x who
          have e10 := item_three2 x who
          have hsh := shut_eq x who
          have r1 := replP_eq b 92 [92, 92] (by decide) (by simp; lia)
          have hsb := sub1_len 92 [92, 92] (by decide) b
          have r2 := replP_eq (sub1 92 [92, 92] b) 34 [92, 34] (by decide) (by simp; lia)
          have hes := esc_len b
          have a1 : binP .Add (.str [34]) (.str (esc b)) = some (.str ([34] ++ esc b)) := add_str _ _ (by simp [LIM]; lia)
          have a2 : binP .Add (.str ([34] ++ esc b)) (.str [34]) = some (.str ([34] ++ esc b ++ [34])) := add_str _ _ (by simp [LIM]; lia)
          rw [show sub1 34 [92, 34] (sub1 92 [92, 92] b) = esc b from rfl] at r2
          generalize hz : [if 4 ≤ x.fig who then 114 else 45] = z at *
          generalize It.lastS who (x.spc who * 2 + x.fig who % 2) = ls at *
          cases h1 : (z == [114]) <;> cases h2 : (x.kind == 4) <;> cases hq : Txt.contains (S [120, 115, 116]) (S [ls]) <;>
            (rw [h1, h2, hq] at hsh
             rw [hsh] at hbb
             simp only [S49, X0, X1, X4, X6, X7, X8, Xo, Xs, Xz, seqP, Option.bind_some, Option.map_some, e9, e10, h1, e2, h2, hq, r1, r2, a1, a2, hbb, ↓reduceIte, Bool.not_true, Bool.not_false, Bool.false_eq_true, Bool.or_true, Bool.or_false, Bool.and_true, Bool.and_false])
        refine seqP_eq (S49 D who pairs (bstep D (pieceS who pairs) [] held k) (.pv (.int (k : Int))) (.pv (.str (x.three who))) (.pv (.str bb))) ?_ rfl
        rw [hstep]
        have e11 := item_row0 x
        generalize x.three who = tt at *
        have c1 : binP .Add (.str [It.kindC x.kind]) (.str tt) = some (.str ([It.kindC x.kind] ++ tt)) := add_str _ _ (by simp [LIM]; lia)
        have c2 : binP .Add (.str ([It.kindC x.kind] ++ tt)) (.str [92, x.nm]) = some (.str ([It.kindC x.kind] ++ tt ++ [92, x.nm])) := add_str _ _ (by simp [LIM]; lia)
        have c3 : binP .Add (.str ([It.kindC x.kind] ++ tt ++ [92, x.nm])) (.str bb) = some (.str ([It.kindC x.kind] ++ tt ++ [92, x.nm] ++ bb)) := add_str _ _ (by simp [LIM]; lia)
        have c4 : binP .Add (.str ([It.kindC x.kind] ++ tt ++ [92, x.nm] ++ bb)) (.str [44]) = some (.str ([It.kindC x.kind] ++ tt ++ [92, x.nm] ++ bb ++ [44])) := add_str _ _ (by simp [LIM]; lia)
        have c5 : binP .Add (.str ([It.kindC x.kind] ++ tt ++ [92, x.nm] ++ bb ++ [44])) (.str hs') = some (.str ([It.kindC x.kind] ++ tt ++ [92, x.nm] ++ bb ++ [44] ++ hs')) := add_str _ _ (by simp [LIM]; lia)
        generalize hP : [It.kindC x.kind] ++ tt ++ [92, x.nm] ++ bb ++ [44] ++ hs' = P at *
        have c6 := set_eq (l := held.map .str) (ab := x.ab) (s := x.slot) (p := .str P) (σ := S49 D who pairs held (.pv (.int (k : Int))) (.pv (.str tt)) (.pv (.str bb))) (by rcases ok.ab with h | h <;> lia) (by rw [List.length_map, hl]; exact ok.seqIndex hk4)
        rw [← List.map_set] at c6
        simp only [S49, X0, X1, X2, X3, X4, X5, X6, Option.bind_some, e1, e3, e4, e7, e11, c1, c2, c3, c4, c5] at c6 ⊢
        exact c6
      · rw [hstep, List.length_set, hl]
      · rw [hstep, getD_set (by lia)]
        split
        · simp only [List.length_append, List.length_cons, List.length_nil, htl]; lia
        · have := hB s
          rw [List.length_cons] at this
          lia
    case hk =>
      rintro σ' ⟨⟨k0, t0, b0⟩, hl, -, -, hB⟩
      have e : lineS D who pairs = ([3, 2, 1, 0].foldl (bstep D (pieceS who pairs) []) (List.replicate 5 [])).getD 4 [] := rfl
      rw [e]
      generalize [3, 2, 1, 0].foldl (bstep D (pieceS who pairs) []) (List.replicate 5 []) = held at *
      refine Ret.here (Ret.of (σ' := frzS (S49 D who pairs held k0 t0 b0)) ?_)
      have e2 : itemP (.lst (held.map .str)) (.int (-1)) = some (.str (held.getD 4 [])) := by
        have e : itemP (.lst (held.map .str)) (.int (-1)) = if (-1 : Int).natAbs < 2 ^ 60 then (seqIndex? (-1) (held.map PV.str).length).bind ((held.map PV.str)[·]?) else none := rfl
        rw [e, if_pos (by decide), List.length_map, hl, show seqIndex? (-1) 5 = some 4 from rfl, Option.bind_some, List.getElem?_map, List.getD_eq_getElem?_getD, List.getElem?_eq_getElem (by lia)]; rfl
      repeat' (first | exact frzS_cons | exact congrArg some frzS_cons | exact frzS_nil | exact congrArg some frzS_nil | exact e2 | exact congrArg some e2 | rfl | apply be | apply me)
noncomputable def modesV (D : List It) : PV := .lst (D.map fun x => .int ((x.mode : Nat) : Int))
noncomputable def cstep (D : List It) (who : Nat) (acc : List Nat) (k : Nat) : List Nat := match D[k]? with
  | some x => acc ++ [(if x.ab < 0 then 0 else acc.getD x.ab.toNat 0) + (if x.shut who = true then 1 else 0)]
  | none => acc
noncomputable def closedL (D : List It) (who : Nat) : List Nat := [0, 1, 2, 3].foldl (cstep D who) []
noncomputable def dv (who : Nat) : Nat := [64, 8, 1].getD who 1
theorem dv_pos (who : Nat) : 0 < dv who := by
  unfold dv
  rcases who with _ | _ | _ | who <;> simp
theorem dv_le (who : Nat) : dv who ≤ 64 := by
  unfold dv
  rcases who with _ | _ | _ | who <;> simp
theorem mode_fig (x : It) (who : Nat) : x.mode / dv who % 8 = x.fig who := by
  unfold It.fig It.mode
  show (x.kind * 4096 + x.perm) / dv who % 8 = x.perm / dv who % 8
  have h : dv who = 64 ∨ dv who = 8 ∨ dv who = 1 := by
    unfold dv
    rcases who with _ | _ | _ | who <;> simp
  rcases h with h | h | h <;> rw [h]
  · rw [show x.kind * 4096 + x.perm = x.perm + x.kind * 8 * 8 * 64 by lia, Nat.add_mul_div_right _ _ (by decide), Nat.add_mul_mod_self_right]
  · rw [show x.kind * 4096 + x.perm = x.perm + x.kind * 64 * 8 * 8 by lia, Nat.add_mul_div_right _ _ (by decide), Nat.add_mul_mod_self_right]
  · rw [show x.kind * 4096 + x.perm = x.perm + x.kind * 512 * 8 by lia, Nat.div_one, Nat.div_one, Nat.add_mul_mod_self_right]
theorem mode_kind {x : It} (h : x.perm < 4096) : x.mode / 4096 = x.kind := by unfold It.mode; omega
theorem item_mode {D : List It} {k : Nat} {x : It} (h : D[k]? = some x) (hk : k < 4) : itemP (modesV D) (.int (k : Int)) = some (.int ((x.mode : Nat) : Int)) := item_map _ h hk
theorem item_dv {who : Nat} (h : who < 3) : itemP (.lst [.int 64, .int 8, .int 1]) (.int (who : Int)) = some (.int ((dv who : Nat) : Int)) := by
  rcases who with _ | _ | _ | who
  · rfl
  · rfl
  · rfl
  · omega
theorem fdiv_nat' (a b : Nat) (h : 0 < b) (h2 : b < 2 ^ 60) : binP .FloorDiv (.int (a : Int)) (.int (b : Int)) = some (.int ((a / b : Nat) : Int)) := by
  rw [fdiv_int _ _ (by omega), fdiv_nat]
theorem fmod_nat' (a b : Nat) (h : 0 < b) : binP .Mod (.int (a : Int)) (.int (b : Int)) = some (.int ((a % b : Nat) : Int)) := by
  rw [fmod_int _ _ (by omega), fmod_nat]
noncomputable def S51 (D : List It) (who : Nat) (acc : List Nat) (k f s : Sl) : List Sl := [.pv (modesV D), .pv (intsV (D.map It.ab)), .pv (.int (who : Int)), .own (acc.map fun n : Nat => .int (n : Int)), k, f, s, .un]
theorem run51 {prog : Program} {w : World} {hb : Heap}  (i_range : IA prog w hb "range" 0 rangeP) :
    ∃ g, XSs prog w hb (fnScope (nth 51)) 0 (fnBody (nth 51)) g ∧ ∀ (D : List It) (who : Nat), DOk D → who < 3 → runP (fnScope (nth 51)).names [("modes" : Str), ("above" : Str), ("who" : Str)] g [modesV D, intsV (D.map It.ab), .int (who : Int)] = some (nums (closedL D who)) := by
  refine' ⟨_, ?w, ?p⟩; rotate_left
  conv in (fnBody _) => whnf
  conv in (fnScope _) => whnf
  with_reducible
   refine' XSs.cons ?_ ?_; rotate_left 2; refine' XS.own (i := 3) (by kernel_rfl) (XL.lst ?_) (fun Z Z => by kernel_rfl); rotate_left; refine' XEs.nil; refine' XSs.cons ?_ ?_; rotate_left 2; refine' XS.for ?_ ?_ ?_ ?_ (fun Z Z => by kernel_rfl); rotate_left 4
   refine' XI.callIA (by kernel_rfl) (by assumption) ?_ (by decide) (by kernel_rfl) (fun Z => by kernel_rfl) (fun Z => by kernel_rfl); rotate_left; refine' XEs.co ?_ ?_; rotate_left 2; refine' XE.int; refine' XEs.nil; refine' TT.one ?_; rotate_left; refine' TG.loc (i := 4) (by kernel_rfl); refine' XSs.cons ?_ ?_; rotate_left 2; refine' XS.set 5 ?_; rotate_left; refine' XE.bin ?_ ?_; rotate_left 2
   refine' XE.bin ?_ ?_; rotate_left 2; refine' XE.idxB (i := 0) (by kernel_rfl) ?_ (by kernel_rfl) (fun Z Z => by kernel_rfl); rotate_left; refine' XE.lo 4; refine' XE.idx ?_ ?_ (fun Z Z => by kernel_rfl); rotate_left 2; refine' XE.ofL (XL.lst ?_); rotate_left; refine' XEs.co ?_ ?_; rotate_left 2; refine' XE.int; refine' XEs.co ?_ ?_; rotate_left 2; refine' XE.int
   refine' XEs.co ?_ ?_; rotate_left 2; refine' XE.int; refine' XEs.nil; refine' XE.lo 2; refine' XE.int; refine' XSs.cons ?_ ?_; rotate_left 2; refine' XS.set 6 ?_; rotate_left; refine' XE.or2 ?_ ?_; rotate_left 2; refine' XE.cmp ?_ ?_ (by kernel_rfl); rotate_left 2; refine' XE.lo 5; refine' XE.int; refine' XE.and2 ?_ ?_; rotate_left 2; refine' XE.cmp ?_ ?_ (by kernel_rfl); rotate_left 2
   refine' XE.bin ?_ ?_; rotate_left 2; refine' XE.idxB (i := 0) (by kernel_rfl) ?_ (by kernel_rfl) (fun Z Z => by kernel_rfl); rotate_left; refine' XE.lo 4; refine' XE.int; refine' XE.int; refine' XE.cmp ?_ ?_ (by kernel_rfl); rotate_left 2; refine' XE.bin ?_ ?_; rotate_left 2; refine' XE.lo 5; refine' XE.int; refine' XE.int; refine' XSs.cons ?_ ?_; rotate_left 2
   refine' XS.append (i := 3) (by kernel_rfl) ?_ (by kernel_rfl) (fun Z => by kernel_rfl) (by kernel_rfl); rotate_left; refine' XE.bin ?_ ?_; rotate_left 2; refine' XE.ife ?_ ?_ ?_; rotate_left 3; refine' XT.cmp ?_ ?_ (by kernel_rfl); rotate_left 2; refine' XE.idxB (i := 1) (by kernel_rfl) ?_ (by kernel_rfl) (fun Z Z => by kernel_rfl); rotate_left; refine' XE.lo 4; refine' XE.int
   refine' XE.idxB (i := 3) (by kernel_rfl) ?_ (by kernel_rfl) (fun Z Z => by kernel_rfl); rotate_left; refine' XE.idxB (i := 1) (by kernel_rfl) ?_ (by kernel_rfl) (fun Z Z => by kernel_rfl); rotate_left; refine' XE.lo 4; refine' XE.int; refine' XE.ife ?_ ?_ ?_; rotate_left 3; refine' XT.val ?_ (fun Z Z => by kernel_rfl); rotate_left; refine' XE.lo 6; refine' XE.int; refine' XE.int; refine' XSs.nil
   refine' XSs.nil; refine' XSs.cons ?_ ?_; rotate_left 2; refine' XS.ret ?_; rotate_left; refine' XE.lo 3; refine' XSs.nil
  case p =>
    intro D who hD hw
    refine runP_ret [.pv (modesV D), .pv (intsV (D.map It.ab)), .pv (.int (who : Int)), .un, .un, .un, .un, .un] rfl (by kernel_rfl) ?_
    refine Ret.next (S51 D who [] .un .un .un) rfl ?_
    refine Ret.loop (enc := fun k : Nat => .one (.int (k : Int))) (bs := [0, 1, 2, 3]) ?hE (fun acc bs σ => (∃ k f s, σ = S51 D who acc k f s) ∧ bs = List.range' acc.length (4 - acc.length)) (cstep D who) [] ?h0 (fun Z => rfl) ?hs ?hk
    case hE => rfl
    case h0 => exact ⟨⟨_, _, _, rfl⟩, rfl⟩
    case hs =>
      rintro acc k bs σ ⟨⟨k0, f0, s0, rfl⟩, hb⟩
      obtain ⟨m, hm⟩ : ∃ m, 4 - acc.length = m := ⟨_, rfl⟩
      rw [hm] at hb
      cases m with
      | zero => cases hb
      | succ m =>
        rw [List.range'_succ] at hb
        cases hb
        have hk4 : acc.length < 4 := by omega
        obtain ⟨x, hx⟩ := hD.at hk4
        have ok := hD.ok _ x hx
        have hstep : cstep D who acc acc.length = acc ++ [(if x.ab < 0 then 0 else acc.getD x.ab.toNat 0) + (if x.shut who = true then 1 else 0)] := by unfold cstep; rw [hx]
        have e1 := item_mode hx hk4
        have e2 := item_ab hx hk4
        have e3 := item_dv hw
        have e4 := fdiv_nat' x.mode (dv who) (dv_pos who) (Nat.lt_of_le_of_lt (dv_le who) (by decide))
        have e5 : binP .Mod (.int ((x.mode / dv who : Nat) : Int)) (.int 8) = some (.int ((x.fig who : Nat) : Int)) := by rw [← mode_fig x who]; exact fmod_nat' _ 8 (by decide)
        have e6 : binP .FloorDiv (.int ((x.mode : Nat) : Int)) (.int 4096) = some (.int ((x.kind : Nat) : Int)) := by rw [← mode_kind ok.perm]; exact fdiv_nat' _ 4096 (by decide) (by decide)
        have e7 : binP .Mod (.int ((x.fig who : Nat) : Int)) (.int 2) = some (.int ((x.fig who % 2 : Nat) : Int)) := fmod_nat' _ 2 (by decide)
        have q1 : decide ((x.fig who : Int) < 4) = decide (x.fig who < 4) := by rw [Bool.eq_iff_iff, decide_eq_true_iff, decide_eq_true_iff]; omega
        have q2 : ((x.kind : Int) == 4) = (x.kind == 4) := by rw [Bool.eq_iff_iff, beq_iff_eq, beq_iff_eq]; omega
        have q3 : (((x.fig who % 2 : Nat) : Int) == 0) = (x.fig who % 2 == 0) := by rw [Bool.eq_iff_iff, beq_iff_eq, beq_iff_eq]; omega
        have hsh : x.shut who = (decide (x.fig who < 4) || (x.kind == 4 && x.fig who % 2 == 0)) := rfl
        generalize x.mode / dv who = md at *
        generalize x.fig who % 2 = f2 at *
        generalize x.mode = mo at *
        refine ⟨S51 D who acc (.pv (.int (acc.length : Int))) f0 s0, S51 D who (cstep D who acc acc.length) (.pv (.int (acc.length : Int))) (.pv (.int (x.fig who : Int))) (.pv (.bool (x.shut who))), rfl, .inl ?_, ⟨_, _, _, rfl⟩, ?_⟩
        · refine seqP_eq (S51 D who acc (.pv (.int (acc.length : Int))) (.pv (.int (x.fig who : Int))) s0) ?_ ?_
          · repeat' (first | exact e1 | exact congrArg some e1 | exact e3 | exact congrArg some e3 | exact e4 | exact congrArg some e4 | exact e5 | exact congrArg some e5 | rfl | apply be | apply me)
          refine seqP_eq (S51 D who acc (.pv (.int (acc.length : Int))) (.pv (.int (x.fig who : Int))) (.pv (.bool (x.shut who)))) ?_ ?_
          · rw [hsh]
            cases h1 : decide (x.fig who < 4) <;> cases h2 : (x.kind == 4) <;>
              simp [S51, X0, X1, X4, X7, X8, Xh, Xl, Xz, e1, e6, e7, q1, q2, q3, h1, h2, -decide_eq_false_iff_not, -beq_eq_false_iff_ne, -beq_iff_eq]
          refine seqP_eq (S51 D who (cstep D who acc acc.length) (.pv (.int (acc.length : Int))) (.pv (.int (x.fig who : Int))) (.pv (.bool (x.shut who)))) ?_ rfl
          rw [hstep]
          have hl : acc.length ≤ LIM := by unfold LIM; omega
          rcases ok.ab with h | h
          · cases hs : x.shut who <;> simp [S51, X0, X1, X2, X3, X4, X5, X6, Xd, Xk, Xz, e2, h, hl]
          · have h3 : ¬ x.ab < 0 := by omega
            have e8 : itemP (.lst (acc.map fun n : Nat => .int (n : Int))) (.int x.ab) = some (.int ((acc.getD x.ab.toNat 0 : Nat) : Int)) := by
              rw [show x.ab = ((x.ab.toNat : Nat) : Int) by omega]
              refine item_lst _ _ _ ?_ (by omega)
              rw [List.getElem?_map, List.getD_eq_getElem?_getD, Int.toNat_natCast, List.getElem?_eq_getElem (by omega)]; rfl
            generalize acc.getD x.ab.toNat 0 = c at *
            cases hs : x.shut who <;> simp [S51, X0, X1, X2, X3, X4, X5, X6, Xd, Xk, Xz, e2, h.1, h3, hl, e8]
        · rw [hstep, List.length_append, List.length_singleton, show 4 - (acc.length + 1) = m by omega]
    case hk =>
      rintro σ' ⟨⟨k0, f0, s0, rfl⟩, -⟩
      exact Ret.here (Ret.of (σ' := frzS (S51 D who (closedL D who) k0 f0 s0)) rfl)
noncomputable def leftP (who : Nat) (cl : List Nat) (level k : Nat) (x : It) (h h' : List Nat) : List Nat :=
  [It.kindC x.kind] ++ x.three who ++ [92, x.nm] ++ (if cl.getD k 0 ≤ level then (if x.kind = 4 then [40] ++ h ++ [41] else fourL x.st) else []) ++ [44] ++ h'
noncomputable def leftS (D : List It) (who : Nat) (cl : List Nat) (level : Nat) : List Nat := build D (leftP who cl level) []
noncomputable def stuffV (D : List It) : PV := .lst (D.map fun x => nums x.st)
theorem cs_kinds : (Str.ofString "?pc?d?b?-?l?s???").cps.toList = [63, 112, 99, 63, 100, 63, 98, 63, 45, 63, 108, 63, 115, 63, 63, 63] := by kernel_rfl
theorem cs_mr : (Str.ofString "-r").cps.toList = [45, 114] := by kernel_rfl
theorem cs_mw : (Str.ofString "-w").cps.toList = [45, 119] := by kernel_rfl
theorem cs_xT : (Str.ofString "-xTt").cps.toList = [45, 120, 84, 116] := by kernel_rfl
theorem cs_xS : (Str.ofString "-xSs").cps.toList = [45, 120, 83, 115] := by kernel_rfl
noncomputable def dw (who : Nat) : Nat := [2048, 1024, 512].getD who 1
theorem dw_pos (who : Nat) : 0 < dw who := by
  unfold dw
  rcases who with _ | _ | _ | who <;> simp
theorem dw_le (who : Nat) : dw who ≤ 2048 := by
  unfold dw
  rcases who with _ | _ | _ | who <;> simp
theorem mode_spc (x : It) {who : Nat} (h : who < 3) : x.mode / dw who % 2 = x.spc who := by
  unfold It.spc It.mode
  show (x.kind * 4096 + x.perm) / dw who % 2 = x.perm / dw who % 2
  have h : dw who = 2048 ∨ dw who = 1024 ∨ dw who = 512 := by
    unfold dw
    rcases who with _ | _ | _ | who
    · simp
    · simp
    · simp
    · lia
  rcases h with h | h | h <;> rw [h]
  · rw [show x.kind * 4096 + x.perm = x.perm + x.kind * 2 * 2048 by lia, Nat.add_mul_div_right _ _ (by decide), Nat.add_mul_mod_self_right]
  · rw [show x.kind * 4096 + x.perm = x.perm + x.kind * 2 * 2 * 1024 by lia, Nat.add_mul_div_right _ _ (by decide), Nat.add_mul_mod_self_right]
  · rw [show x.kind * 4096 + x.perm = x.perm + x.kind * 4 * 2 * 512 by lia, Nat.add_mul_div_right _ _ (by decide), Nat.add_mul_mod_self_right]
theorem item_dw {who : Nat} (h : who < 3) : itemP (.lst [.int 2048, .int 1024, .int 512]) (.int (who : Int)) = some (.int ((dw who : Nat) : Int)) := by
  rcases who with _ | _ | _ | who
  · rfl
  · rfl
  · rfl
  · lia
theorem item_stuff {D : List It} {k : Nat} {x : It} (h : D[k]? = some x) (hk : k < 4) : itemP (stuffV D) (.int (k : Int)) = some (nums x.st) := item_map _ h hk
theorem item_nums {l : List Nat} {k : Nat} (h : k < l.length) (hk : k < 4) : itemP (nums l) (.int (k : Int)) = some (.int ((l.getD k 0 : Nat) : Int)) := by
  refine item_lst _ _ _ ?_ (Nat.lt_trans hk (by decide))
  rw [List.getElem?_map, List.getD_eq_getElem?_getD, List.getElem?_eq_getElem h]; rfl
theorem item_last (x : It) (who : Nat) : itemP (if who = 2 then .str [45, 120, 84, 116] else .str [45, 120, 83, 115]) (.int ((x.spc who * 2 + x.fig who % 2 : Nat) : Int)) = some (.str [It.lastS who (x.spc who * 2 + x.fig who % 2)]) := by
  have h1 := x.spc_lt who
  have h2 : x.fig who % 2 < 2 := Nat.mod_lt _ (by decide)
  have h : x.spc who * 2 + x.fig who % 2 < 4 := by lia
  generalize x.spc who * 2 + x.fig who % 2 = n at *
  unfold It.lastS
  split
  · exact item_str [45, 120, 84, 116] n h (Nat.lt_trans h (by decide))
  · exact item_str [45, 120, 83, 115] n h (Nat.lt_trans h (by decide))
theorem item_r (x : It) (who : Nat) : itemP (.str [45, 114]) (.int ((x.fig who / 4 : Nat) : Int)) = some (.str [if 4 ≤ x.fig who then 114 else 45]) := by
  have h := x.fig_lt who
  generalize x.fig who = f at *
  rw [item_str [45, 114] (f / 4) (by simp; lia) (by lia)]
  have : ∀ f, f < 8 → [45, 114].getD (f / 4) 0 = if 4 ≤ f then 114 else 45 := by decide
  rw [this f h]
theorem item_w (x : It) (who : Nat) : itemP (.str [45, 119]) (.int ((x.fig who / 2 % 2 : Nat) : Int)) = some (.str [if x.fig who / 2 % 2 = 1 then 119 else 45]) := by
  have h : x.fig who / 2 % 2 < 2 := Nat.mod_lt _ (by decide)
  generalize x.fig who / 2 % 2 = f at *
  rw [item_str [45, 119] f (by simp; lia) (by lia)]
  have : ∀ f, f < 2 → [45, 119].getD f 0 = if f = 1 then 119 else 45 := by decide
  rw [this f h]
theorem item_kind {x : It} (h : x.kind < 16) : itemP (.str [63, 112, 99, 63, 100, 63, 98, 63, 45, 63, 108, 63, 115, 63, 63, 63]) (.int (x.kind : Int)) = some (.str [It.kindC x.kind]) := item_str _ x.kind (by simpa using h) (by lia)
noncomputable def S52 (D : List It) (who : Nat) (cl : List Nat) (level : Nat) (held : List (List Nat)) (k f l s b : Sl) : List Sl :=
  [.pv (modesV D), .pv (intsV (D.map It.ab)), .pv (strsV (D.map fun x => [92, x.nm])), .pv (stuffV D), .pv (.int (who : Int)), .pv (nums cl), .pv (.int (level : Int)), .own (held.map .str), k, f, l, s, b, .un]
inductive IS52 (D : List It) (who : Nat) (cl : List Nat) (level : Nat) (held : List (List Nat)) : List Sl → Prop
  | mk (x0 x1 x2 x3 x4 : Sl) : IS52 D who cl level held (S52 D who cl level held x0 x1 x2 x3 x4)
theorem run52 {prog : Program} {w : World} {hb : Heap} (fourP : List PV → Option PV) (h_law_four : FV prog w hb "_law_four" 1 fourP) :
    ∃ g, XSs prog w hb (fnScope (nth 52)) 1 (fnBody (nth 52)) g ∧ ((∀ l : List Nat, l.length ≤ 3 → (∀ n ∈ l, n < 256) → fourP [nums l] = some (.str (fourL l))) → ∀ (D : List It) (who : Nat) (cl : List Nat) (level : Nat), DOk D → who < 3 → cl.length = 4 →
      runP (fnScope (nth 52)).names [("modes" : Str), ("above" : Str), ("names" : Str), ("stuff" : Str), ("who" : Str), ("closed" : Str), ("level" : Str)] g [modesV D, intsV (D.map It.ab), strsV (D.map fun x => [92, x.nm]), stuffV D, .int (who : Int), nums cl, .int (level : Int)] = some (.str (leftS D who cl level))) := by
  refine' ⟨_, ?w, ?p⟩; rotate_left
  conv in (fnBody _) => whnf
  conv in (fnScope _) => whnf
  with_reducible
   refine' XSs.cons ?_ ?_; rotate_left 2; refine' XS.own (i := 7) (by kernel_rfl) (XL.mul ?_ ?_) (fun Z Z => by kernel_rfl); rotate_left 2; refine' XE.ofL (XL.lst ?_); rotate_left; refine' XEs.co ?_ ?_; rotate_left 2; refine' XE.str; refine' XEs.nil; refine' XE.int; refine' XSs.cons ?_ ?_; rotate_left 2; refine' XS.for ?_ ?_ ?_ ?_ (fun Z Z => by kernel_rfl); rotate_left 4
   refine' XI.val ?_; rotate_left; refine' XE.tup ?_ (by decide); rotate_left; refine' XEs.co ?_ ?_; rotate_left 2; refine' XE.int; refine' XEs.co ?_ ?_; rotate_left 2; refine' XE.int; refine' XEs.co ?_ ?_; rotate_left 2; refine' XE.int; refine' XEs.co ?_ ?_; rotate_left 2; refine' XE.int; refine' XEs.nil; refine' TT.one ?_; rotate_left; refine' TG.loc (i := 8) (by kernel_rfl)
   refine' XSs.cons ?_ ?_; rotate_left 2; refine' XS.set 9 ?_; rotate_left; refine' XE.bin ?_ ?_; rotate_left 2; refine' XE.bin ?_ ?_; rotate_left 2; refine' XE.idxB (i := 0) (by kernel_rfl) ?_ (by kernel_rfl) (fun Z Z => by kernel_rfl); rotate_left; refine' XE.lo 8; refine' XE.idx ?_ ?_ (fun Z Z => by kernel_rfl); rotate_left 2; refine' XE.ofL (XL.lst ?_); rotate_left
   refine' XEs.co ?_ ?_; rotate_left 2; refine' XE.int; refine' XEs.co ?_ ?_; rotate_left 2; refine' XE.int; refine' XEs.co ?_ ?_; rotate_left 2; refine' XE.int; refine' XEs.nil; refine' XE.lo 4; refine' XE.int; refine' XSs.cons ?_ ?_; rotate_left 2; refine' XS.set 10 ?_; rotate_left; refine' XE.idx ?_ ?_ (fun Z Z => by kernel_rfl); rotate_left 2; refine' XE.ife ?_ ?_ ?_; rotate_left 3
   refine' XT.cmp ?_ ?_ (by kernel_rfl); rotate_left 2; refine' XE.lo 4; refine' XE.int; refine' XE.str; refine' XE.str; refine' XE.bin ?_ ?_; rotate_left 2; refine' XE.bin ?_ ?_; rotate_left 2; refine' XE.bin ?_ ?_; rotate_left 2; refine' XE.bin ?_ ?_; rotate_left 2; refine' XE.idxB (i := 0) (by kernel_rfl) ?_ (by kernel_rfl) (fun Z Z => by kernel_rfl); rotate_left; refine' XE.lo 8
   refine' XE.idx ?_ ?_ (fun Z Z => by kernel_rfl); rotate_left 2; refine' XE.ofL (XL.lst ?_); rotate_left; refine' XEs.co ?_ ?_; rotate_left 2; refine' XE.int; refine' XEs.co ?_ ?_; rotate_left 2; refine' XE.int; refine' XEs.co ?_ ?_; rotate_left 2; refine' XE.int; refine' XEs.nil; refine' XE.lo 4; refine' XE.int; refine' XE.int; refine' XE.bin ?_ ?_; rotate_left 2; refine' XE.lo 9; refine' XE.int
   refine' XSs.cons ?_ ?_; rotate_left 2; refine' XS.set 11 ?_; rotate_left; refine' XE.bin ?_ ?_; rotate_left 2; refine' XE.bin ?_ ?_; rotate_left 2; refine' XE.bin ?_ ?_; rotate_left 2; refine' XE.idx ?_ ?_ (fun Z Z => by kernel_rfl); rotate_left 2; refine' XE.str; refine' XE.bin ?_ ?_; rotate_left 2
   refine' XE.idxB (i := 0) (by kernel_rfl) ?_ (by kernel_rfl) (fun Z Z => by kernel_rfl); rotate_left; refine' XE.lo 8; refine' XE.int; refine' XE.idx ?_ ?_ (fun Z Z => by kernel_rfl); rotate_left 2; refine' XE.str; refine' XE.bin ?_ ?_; rotate_left 2; refine' XE.lo 9; refine' XE.int; refine' XE.idx ?_ ?_ (fun Z Z => by kernel_rfl); rotate_left 2; refine' XE.str
   refine' XE.bin ?_ ?_; rotate_left 2; refine' XE.bin ?_ ?_; rotate_left 2; refine' XE.lo 9; refine' XE.int; refine' XE.int; refine' XE.lo 10; refine' XSs.cons ?_ ?_; rotate_left 2; refine' XS.set 12 ?_; rotate_left; refine' XE.ife ?_ ?_ ?_; rotate_left 3; refine' XT.cmp ?_ ?_ (by kernel_rfl); rotate_left 2; refine' XE.bin ?_ ?_; rotate_left 2
   refine' XE.idxB (i := 0) (by kernel_rfl) ?_ (by kernel_rfl) (fun Z Z => by kernel_rfl); rotate_left; refine' XE.lo 8; refine' XE.int; refine' XE.int; refine' XE.bin ?_ ?_; rotate_left 2; refine' XE.bin ?_ ?_; rotate_left 2; refine' XE.str; refine' XE.idxB (i := 7) (by kernel_rfl) ?_ (by kernel_rfl) (fun Z Z => by kernel_rfl); rotate_left; refine' XE.lo 8; refine' XE.str
   refine' XE.cv (by assumption) ?_; rotate_left; refine' XEs.co ?_ ?_; rotate_left 2; refine' XE.idxB (i := 3) (by kernel_rfl) ?_ (by kernel_rfl) (fun Z Z => by kernel_rfl); rotate_left; refine' XE.lo 8; refine' XEs.nil; refine' XSs.cons ?_ ?_; rotate_left 2; refine' XS.setO (i := 7) (by kernel_rfl) ?_ ?_ (fun Z => by kernel_rfl) (by kernel_rfl); rotate_left 2; refine' XE.bin ?_ ?_; rotate_left 2
   refine' XE.bin ?_ ?_; rotate_left 2; refine' XE.bin ?_ ?_; rotate_left 2; refine' XE.bin ?_ ?_; rotate_left 2; refine' XE.lo 11; refine' XE.idxB (i := 2) (by kernel_rfl) ?_ (by kernel_rfl) (fun Z Z => by kernel_rfl); rotate_left; refine' XE.lo 8; refine' XE.ife ?_ ?_ ?_; rotate_left 3; refine' XT.cmp ?_ ?_ (by kernel_rfl); rotate_left 2
   refine' XE.idxB (i := 5) (by kernel_rfl) ?_ (by kernel_rfl) (fun Z Z => by kernel_rfl); rotate_left; refine' XE.lo 8; refine' XE.lo 6; refine' XE.lo 12; refine' XE.str; refine' XE.str; refine' XE.idxB (i := 7) (by kernel_rfl) ?_ (by kernel_rfl) (fun Z Z => by kernel_rfl); rotate_left; refine' XE.idxB (i := 1) (by kernel_rfl) ?_ (by kernel_rfl) (fun Z Z => by kernel_rfl); rotate_left
   refine' XE.lo 8; refine' XE.idxB (i := 1) (by kernel_rfl) ?_ (by kernel_rfl) (fun Z Z => by kernel_rfl); rotate_left; refine' XE.lo 8; refine' XSs.nil; refine' XSs.nil; refine' XSs.cons ?_ ?_; rotate_left 2; refine' XS.ret ?_; rotate_left; refine' XE.idxB (i := 7) (by kernel_rfl) ?_ (by kernel_rfl) (fun Z Z => by kernel_rfl); rotate_left; refine' XE.un ?_; rotate_left; refine' XE.int
   refine' XSs.nil
  case p =>
    intro hfour D who cl level hD hw hcl
    refine runP_ret [.pv (modesV D), .pv (intsV (D.map It.ab)), .pv (strsV (D.map fun x => [92, x.nm])), .pv (stuffV D), .pv (.int (who : Int)), .pv (nums cl), .pv (.int (level : Int)), .un, .un, .un, .un, .un, .un, .un] rfl (by kernel_rfl) ?_
    simp only [cs, cs_kinds, cs_mr, cs_mw, cs_xT, cs_xS]
    refine Ret.next (S52 D who cl level (List.replicate 5 []) .un .un .un .un .un) rfl ?_
    refine Ret.loop (enc := fun k : Nat => .one (.int (k : Int))) (bs := [3, 2, 1, 0]) ?hE (fun held bs σ => (IS52 D who cl level held σ) ∧ held.length = 5 ∧ (∀ k ∈ bs, k < 4) ∧ bs.length ≤ 4 ∧ ∀ s, (held.getD s []).length ≤ B bs.length) (bstep D (leftP who cl level) []) (List.replicate 5 []) ?h0 (fun Z => rfl) ?hs ?hk
    case hE => rfl
    case h0 =>
      refine ⟨.mk .., rfl, by decide, by decide, fun s => ?_⟩
      rw [List.getD_eq_getElem?_getD, List.getElem?_replicate]
      split <;> simp
    case hs =>
      rintro held k bs σ ⟨⟨k0, f0, l0, s0, b0⟩, hl, hks, hbs, hB⟩
      have hk4 : k < 4 := hks k (List.mem_cons_self ..)
      obtain ⟨x, hx⟩ := hD.at hk4
      have ok := hD.ok k x hx
      have hsl := ok.slot_lt hk4
      have hstep : bstep D (leftP who cl level) [] held k = held.set x.slot (leftP who cl level k x (held.getD k []) (held.getD x.slot [])) := by unfold bstep; rw [hx]
      have hbl : bs.length ≤ 3 := by simp at hbs; lia
      have hBk := hB k
      have hBs := hB x.slot
      have hBn : B (bs.length + 1) * 6 = B bs.length := by
        unfold B
        rw [show 4 - bs.length = (4 - (bs.length + 1)) + 1 by lia, Nat.pow_succ]
        lia
      have hBm : 20 ≤ B (bs.length + 1) := by
        unfold B
        have := Nat.one_le_pow (4 - (bs.length + 1)) 6 (by decide)
        lia
      have hBt : B bs.length ≤ 25920 := by
        have : ∀ n, n ≤ 3 → B n ≤ 25920 := by decide
        exact this _ hbl
      rw [List.length_cons] at hBk hBs
      have e1 := item_mode hx hk4
      have e2 := item_ab hx hk4
      have e3 := item_dv hw
      have e3' := item_dw hw
      have e4 := item_nm hx hk4
      have e5 := item_stuff hx hk4
      have e6 := item_held hl hk4
      have e7 := item_heldS hl ok hk4
      have e8 := hfour x.st ok.st ok.oct
      have e9 : itemP (nums cl) (.int (k : Int)) = some (.int ((cl.getD k 0 : Nat) : Int)) := item_nums (by lia) hk4
      have d1 := fdiv_nat' x.mode (dv who) (dv_pos who) (Nat.lt_of_le_of_lt (dv_le who) (by decide))
      have d2 : binP .Mod (.int ((x.mode / dv who : Nat) : Int)) (.int 8) = some (.int ((x.fig who : Nat) : Int)) := by rw [← mode_fig x who]; exact fmod_nat' _ 8 (by decide)
      have d3 : binP .FloorDiv (.int ((x.mode : Nat) : Int)) (.int 4096) = some (.int ((x.kind : Nat) : Int)) := by rw [← mode_kind ok.perm]; exact fdiv_nat' _ 4096 (by decide) (by decide)
      have d4 : binP .Mod (.int ((x.fig who : Nat) : Int)) (.int 2) = some (.int ((x.fig who % 2 : Nat) : Int)) := fmod_nat' _ 2 (by decide)
      have d5 := fdiv_nat' x.mode (dw who) (dw_pos who) (Nat.lt_of_le_of_lt (dw_le who) (by decide))
      have d6 : binP .Mod (.int ((x.mode / dw who : Nat) : Int)) (.int 2) = some (.int ((x.spc who : Nat) : Int)) := by rw [← mode_spc x hw]; exact fmod_nat' _ 2 (by decide)
      have d7 : binP .Mult (.int ((x.spc who : Nat) : Int)) (.int 2) = some (.int (((x.spc who : Nat) : Int) * 2)) := mul_int _ _ (by have := x.spc_lt who; lia)
      have d8 : ((x.spc who : Nat) : Int) * 2 + ((x.fig who % 2 : Nat) : Int) = ((x.spc who * 2 + x.fig who % 2 : Nat) : Int) := by lia
      have d9 : binP .FloorDiv (.int ((x.fig who : Nat) : Int)) (.int 4) = some (.int ((x.fig who / 4 : Nat) : Int)) := fdiv_nat' _ 4 (by decide) (by decide)
      have d10 : binP .FloorDiv (.int ((x.fig who : Nat) : Int)) (.int 2) = some (.int ((x.fig who / 2 : Nat) : Int)) := fdiv_nat' _ 2 (by decide) (by decide)
      have d11 : binP .Mod (.int ((x.fig who / 2 : Nat) : Int)) (.int 2) = some (.int ((x.fig who / 2 % 2 : Nat) : Int)) := fmod_nat' _ 2 (by decide)
      have f1 := item_last x who
      have f2 := item_r x who
      have f3 := item_w x who
      have f4 := item_kind ok.kind
      have q2 : ((x.kind : Int) == 4) = (x.kind == 4) := by rw [Bool.eq_iff_iff, beq_iff_eq, beq_iff_eq]; lia
      have q1 : decide (((cl.getD k 0 : Nat) : Int) ≤ (level : Int)) = decide (cl.getD k 0 ≤ level) := by rw [Bool.eq_iff_iff, decide_eq_true_iff, decide_eq_true_iff]; lia
      have q3 : ((who : Int) == 2) = decide (who = 2) := by rw [Bool.eq_iff_iff, beq_iff_eq, decide_eq_true_iff]; lia
      generalize hK : held.getD k [] = hk' at *
      generalize hS : held.getD x.slot [] = hs' at *
      generalize hc : cl.getD k 0 = ck at *
      have hthree : x.three who = [if 4 ≤ x.fig who then 114 else 45] ++ [if x.fig who / 2 % 2 = 1 then 119 else 45] ++ [It.lastS who (x.spc who * 2 + x.fig who % 2)] := rfl
      generalize x.spc who * 2 + x.fig who % 2 = sf at *
      generalize x.mode / dv who = md at *
      generalize x.mode / dw who = mw at *
      generalize x.mode = mo at *
      generalize x.fig who / 2 % 2 = f22 at *
      generalize x.fig who / 2 = f12 at *
      generalize x.fig who / 4 = f14 at *
      generalize x.fig who % 2 = f2' at *
      generalize hR : [if 4 ≤ x.fig who then 114 else 45] = cR at *
      generalize hW : [if f22 = 1 then 119 else 45] = cW at *
      obtain ⟨b, hb⟩ : ∃ b, b = if x.kind = 4 then [40] ++ hk' ++ [41] else fourL x.st := ⟨_, rfl⟩
      obtain ⟨bb, hbb⟩ : ∃ bb, bb = if ck ≤ level then b else [] := ⟨_, rfl⟩
      have hpiece : leftP who cl level k x hk' hs' = [It.kindC x.kind] ++ x.three who ++ [92, x.nm] ++ bb ++ [44] ++ hs' := by unfold leftP; rw [hc, hbb, hb]
      have hbL : b.length ≤ B (bs.length + 1) + 2 := by
        rw [hb]
        split
        · rw [List.length_append, List.length_append]; simp; lia
        · have := fourL_len x.st ok.st; lia
      have hbbL : bb.length ≤ B (bs.length + 1) + 2 := by
        rw [hbb]
        split
        · exact hbL
        · simp
      rw [hpiece] at hstep
      have htl := three_len x who
      have hRl : cR.length = 1 := by rw [← hR]; rfl
      have hWl : cW.length = 1 := by rw [← hW]; rfl
      refine ⟨S52 D who cl level held (.pv (.int (k : Int))) f0 l0 s0 b0, S52 D who cl level (bstep D (leftP who cl level) [] held k) (.pv (.int (k : Int))) (.pv (.int (x.fig who : Int))) (.pv (.str [It.lastS who sf])) (.pv (.str ([It.kindC x.kind] ++ x.three who))) (.pv (.str b)), rfl, .inl ?_, .mk .., ?_, fun k hk => hks k (List.mem_cons_of_mem _ hk), by lia, fun s => ?_⟩
      · refine seqP_eq (S52 D who cl level held (.pv (.int (k : Int))) (.pv (.int (x.fig who : Int))) l0 s0 b0) ?_ ?_
        · repeat' (first | exact e1 | exact congrArg some e1 | exact e3 | exact congrArg some e3 | exact d1 | exact congrArg some d1 | exact d2 | exact congrArg some d2 | rfl | apply be | apply me)
        refine seqP_eq (S52 D who cl level held (.pv (.int (k : Int))) (.pv (.int (x.fig who : Int))) (.pv (.str [It.lastS who sf])) s0 b0) ?_ ?_
        · by_cases h2 : who = 2
          · rw [if_pos h2] at f1
            rw [decide_eq_true h2] at q3
            simp [S52, X0, X1, X4, X7, X8, Xd, Xl, e1, e3', d5, d6, d7, d4, d8, q3, f1]
          · rw [if_neg h2] at f1
            rw [decide_eq_false h2] at q3
            simp [S52, X0, X1, X4, X7, X8, Xd, Xl, e1, e3', d5, d6, d7, d4, d8, q3, f1]
        refine seqP_eq (S52 D who cl level held (.pv (.int (k : Int))) (.pv (.int (x.fig who : Int))) (.pv (.str [It.lastS who sf])) (.pv (.str ([It.kindC x.kind] ++ x.three who))) b0) ?_ ?_
        · have c1 : binP .Add (.str [It.kindC x.kind]) (.str cR) = some (.str ([It.kindC x.kind] ++ cR)) := add_str _ _ (by simp [LIM]; lia)
          have c2 : binP .Add (.str ([It.kindC x.kind] ++ cR)) (.str cW) = some (.str ([It.kindC x.kind] ++ cR ++ cW)) := add_str _ _ (by simp [LIM]; lia)
          have c3 : binP .Add (.str ([It.kindC x.kind] ++ cR ++ cW)) (.str [It.lastS who sf]) = some (.str ([It.kindC x.kind] ++ cR ++ cW ++ [It.lastS who sf])) := add_str _ _ (by simp [LIM]; lia)
          have c4 : [It.kindC x.kind] ++ cR ++ cW ++ [It.lastS who sf] = [It.kindC x.kind] ++ x.three who := by rw [hthree]; simp
          rw [c4] at c3
          simp only [S52, X0, X1, X4, X7, X8, Option.bind_some, Option.map_some, e1, d3, f4, d9, f2, d10, d11, f3, c1, c2, c3]
        refine seqP_eq (S52 D who cl level held (.pv (.int (k : Int))) (.pv (.int (x.fig who : Int))) (.pv (.str [It.lastS who sf])) (.pv (.str ([It.kindC x.kind] ++ x.three who))) (.pv (.str b))) ?_ ?_
        · by_cases h4 : x.kind = 4
          · have h4' : (x.kind == 4) = true := by simpa using h4
            rw [if_pos h4] at hb
            have a1 : binP .Add (.str [40]) (.str hk') = some (.str ([40] ++ hk')) := add_str _ _ (by simp [LIM]; lia)
            have a2 : binP .Add (.str ([40] ++ hk')) (.str [41]) = some (.str ([40] ++ hk' ++ [41])) := add_str _ _ (by simp [LIM]; lia)
            simp only [S52, X0, X1, X4, X5, X6, X7, X8, Xl, Option.bind_some, Option.map_some, e1, d3, q2, h4', e6, a1, a2, hb, ↓reduceIte]
          · have h4' : (x.kind == 4) = false := by simpa using h4
            rw [if_neg h4] at hb
            simp only [S52, X0, X1, X4, X5, X6, X7, X8, Xl, Option.bind_some, Option.map_some, e1, d3, q2, h4', e5, e8, hb, ↓reduceIte, Bool.false_eq_true]
        refine seqP_eq (S52 D who cl level (bstep D (leftP who cl level) [] held k) (.pv (.int (k : Int))) (.pv (.int (x.fig who : Int))) (.pv (.str [It.lastS who sf])) (.pv (.str ([It.kindC x.kind] ++ x.three who))) (.pv (.str b))) ?_ rfl
        rw [hstep]
        generalize hT : [It.kindC x.kind] ++ x.three who = tt at *
        have htt : tt.length = 4 := by rw [← hT]; simp [htl]
        have c2 : binP .Add (.str tt) (.str [92, x.nm]) = some (.str (tt ++ [92, x.nm])) := add_str _ _ (by simp [LIM]; lia)
        have c3 : binP .Add (.str (tt ++ [92, x.nm])) (.str bb) = some (.str (tt ++ [92, x.nm] ++ bb)) := add_str _ _ (by simp [LIM]; lia)
        have c4 : binP .Add (.str (tt ++ [92, x.nm] ++ bb)) (.str [44]) = some (.str (tt ++ [92, x.nm] ++ bb ++ [44])) := add_str _ _ (by simp [LIM]; lia)
        have c5 : binP .Add (.str (tt ++ [92, x.nm] ++ bb ++ [44])) (.str hs') = some (.str (tt ++ [92, x.nm] ++ bb ++ [44] ++ hs')) := add_str _ _ (by simp [LIM]; lia)
        generalize hP : tt ++ [92, x.nm] ++ bb ++ [44] ++ hs' = P at *
        have c6 := set_eq (l := held.map .str) (ab := x.ab) (s := x.slot) (p := .str P) (σ := S52 D who cl level held (.pv (.int (k : Int))) (.pv (.int (x.fig who : Int))) (.pv (.str [It.lastS who sf])) (.pv (.str tt)) (.pv (.str b))) (by rcases ok.ab with h | h <;> lia) (by rw [List.length_map, hl]; exact ok.seqIndex hk4)
        rw [← List.map_set] at c6
        have hif : (if decide (ck ≤ level) = true then some (PV.str b) else some (PV.str [])) = some (.str bb) := by
          rw [hbb]
          by_cases h : ck ≤ level <;> simp [h]
        simp only [S52, X0, X1, X2, X3, X4, X5, X6, Xi, Option.bind_some, e2, e4, e7, e9, q1, hif, c2, c3, c4, c5] at c6 ⊢
        exact c6
      · rw [hstep, List.length_set, hl]
      · rw [hstep, getD_set (by lia)]
        split
        · simp only [List.length_append, List.length_cons, List.length_nil, htl]; lia
        · have := hB s
          rw [List.length_cons] at this
          lia
    case hk =>
      rintro σ' ⟨⟨k0, f0, l0, s0, b0⟩, hl, -, -, hB⟩
      have e : leftS D who cl level = ([3, 2, 1, 0].foldl (bstep D (leftP who cl level) []) (List.replicate 5 [])).getD 4 [] := rfl
      rw [e]
      generalize [3, 2, 1, 0].foldl (bstep D (leftP who cl level) []) (List.replicate 5 []) = held at *
      refine Ret.here (Ret.of (σ' := frzS (S52 D who cl level held k0 f0 l0 s0 b0)) ?_)
      have e2 : itemP (.lst (held.map .str)) (.int (-1)) = some (.str (held.getD 4 [])) := by
        have e : itemP (.lst (held.map .str)) (.int (-1)) = if (-1 : Int).natAbs < 2 ^ 60 then (seqIndex? (-1) (held.map PV.str).length).bind ((held.map PV.str)[·]?) else none := rfl
        rw [e, if_pos (by decide), List.length_map, hl, show seqIndex? (-1) 5 = some 4 from rfl, Option.bind_some, List.getElem?_map, List.getD_eq_getElem?_getD, List.getElem?_eq_getElem (by lia)]; rfl
      repeat' (first | exact frzS_cons | exact congrArg some frzS_cons | exact frzS_nil | exact congrArg some frzS_nil | exact e2 | exact congrArg some e2 | rfl | apply be | apply me)
noncomputable def tabs : List (Nat × List (Nat × Nat)) := [(0, [(40960, 108), (49152, 115), (32768, 45), (24576, 98), (16384, 100), (8192, 99), (4096, 112)]), (1, [(256, 114)]), (2, [(128, 119)]), (3, [(2112, 115), (2048, 83), (64, 120)]),
  (4, [(32, 114)]), (5, [(16, 119)]), (6, [(1032, 115), (1024, 83), (8, 120)]), (7, [(4, 114)]), (8, [(2, 119)]), (9, [(513, 116), (512, 84), (1, 120)])]
noncomputable abbrev encE (e : Nat × Nat) : PV := .tup [.int (e.1 : Int), .str [e.2]]
noncomputable def tableV : PV := .tup (tabs.map fun t => .tup (t.2.map encE))
noncomputable def pick (hit : Nat → Bool) (d : Nat) : List (Nat × Nat) → Nat
  | [] => d
  | e :: r => if hit e.1 = true then e.2 else pick hit d r
noncomputable def sgnOf (m : Nat) (t : Nat × List (Nat × Nat)) : Nat := if t.1 = 0 then pick (fun b => m / 4096 % 16 * 4096 == b) 63 t.2 else pick (fun b => m &&& b == b) 45 t.2
noncomputable def S46 (m : Nat) (perm : List Nat) (ix tb b c : Sl) : List Sl := [.pv (.int (m : Int)), .own (perm.map fun n => .str [n]), ix, tb, b, c, .un, .un, .un]
theorem loop46 {tp : Itm → List Sl → Option (List Sl)} {g gE : List Sl → Option (PF × List Sl)} {m : Nat} {perm : List Nat} {ix tb : Sl} {hit : Nat → Bool} {d : Nat}
    (ht : ∀ (b c : Nat) (x y : Sl), tp (.one (encE (b, c))) (S46 m perm ix tb x y) = some (S46 m perm ix tb (.pv (.int (b : Int))) (.pv (.str [c]))))
    (h1 : ∀ b c : Nat, hit b = true → g (S46 m perm ix tb (.pv (.int (b : Int))) (.pv (.str [c]))) = some (.brk, S46 m (perm ++ [c]) ix tb (.pv (.int (b : Int))) (.pv (.str [c]))))
    (h2 : ∀ b c : Nat, hit b = false → g (S46 m perm ix tb (.pv (.int (b : Int))) (.pv (.str [c]))) = some (.next, S46 m perm ix tb (.pv (.int (b : Int))) (.pv (.str [c]))))
    (h3 : ∀ x y : Sl, gE (S46 m perm ix tb x y) = some (.next, S46 m (perm ++ [d]) ix tb x y)) :
    ∀ (tbl : List (Nat × Nat)) (x y : Sl), ∃ x' y', forP tp g gE (tbl.map fun e => .one (encE e)) (S46 m perm ix tb x y) = some (.next, S46 m (perm ++ [pick hit d tbl]) ix tb x' y')
  | [], x, y => ⟨x, y, h3 x y⟩
  | e :: r, x, y => by
    cases hh : hit e.1 with
    | true =>
      refine ⟨.pv (.int (e.1 : Int)), .pv (.str [e.2]), ?_⟩
      show (tp _ _).bind _ = _
      rw [ht e.1 e.2, Option.bind_some, h1 _ _ hh]
      show some _ = some _
      rw [pick, if_pos hh]
    | false =>
      obtain ⟨x', y', ih⟩ := loop46 ht h1 h2 h3 r (.pv (.int (e.1 : Int))) (.pv (.str [e.2]))
      refine ⟨x', y', ?_⟩
      rw [List.map_cons, forP_cons (ht e.1 e.2 x y) (h2 _ _ hh), ih, pick, if_neg (by rw [hh]; decide)]
theorem inner46 {E : List Sl → Option (List Itm)} {tp : Itm → List Sl → Option (List Sl)} {g gE gk : List Sl → Option (PF × List Sl)} {m : Nat} {perm : List Nat} {ix tb x y : Sl} {hit : Nat → Bool} {d : Nat} {o : Option (List Sl)} {tbl : List (Nat × Nat)} {R' : List Sl → Prop}
    (ho : o = some (S46 m perm ix tb x y)) (hE : E (S46 m perm ix tb x y) = some (tbl.map fun e => .one (encE e))) (hgk : ∀ σ, gk σ = some (.next, σ))
    (ht : ∀ (b c : Nat) (x y : Sl), tp (.one (encE (b, c))) (S46 m perm ix tb x y) = some (S46 m perm ix tb (.pv (.int (b : Int))) (.pv (.str [c]))))
    (h1 : ∀ b c : Nat, hit b = true → g (S46 m perm ix tb (.pv (.int (b : Int))) (.pv (.str [c]))) = some (.brk, S46 m (perm ++ [c]) ix tb (.pv (.int (b : Int))) (.pv (.str [c]))))
    (h2 : ∀ b c : Nat, hit b = false → g (S46 m perm ix tb (.pv (.int (b : Int))) (.pv (.str [c]))) = some (.next, S46 m perm ix tb (.pv (.int (b : Int))) (.pv (.str [c]))))
    (h3 : ∀ x y : Sl, gE (S46 m perm ix tb x y) = some (.next, S46 m (perm ++ [d]) ix tb x y))
    (hR : ∀ x y, R' (S46 m (perm ++ [pick hit d tbl]) ix tb x y)) :
    ∃ σ₂, o = some (S46 m perm ix tb x y) ∧ (seqP (fun σ => (E σ).bind fun xs => forP tp g gE xs σ) gk (S46 m perm ix tb x y) = some (.next, σ₂) ∨ seqP (fun σ => (E σ).bind fun xs => forP tp g gE xs σ) gk (S46 m perm ix tb x y) = some (.cont, σ₂)) ∧ R' σ₂ := by
  obtain ⟨x', y', e⟩ := loop46 ht h1 h2 h3 tbl x y
  refine ⟨_, ho, .inl (seqP_eq _ ?_ (hgk _)), hR x' y'⟩
  show (E _).bind _ = _
  rw [hE, Option.bind_some, e]
theorem sum_ones : ∀ l : List Nat, (l.map fun Z => 1).sum = l.length
  | [] => rfl
  | a :: l => by rw [List.map_cons, List.sum_cons, sum_ones l, List.length_cons]; omega
theorem flat_ones : ∀ l : List Nat, (l.map fun n => [n]).flatten = l
  | [] => rfl
  | a :: l => by rw [List.map_cons, List.flatten_cons, flat_ones l]; rfl
theorem kind_tab : ∀ k, k < 16 → sgnOf (k * 4096) (0, [(40960, 108), (49152, 115), (32768, 45), (24576, 98), (16384, 100), (8192, 99), (4096, 112)]) = It.kindC k := by decide +kernel
theorem and_pow (m i : Nat) : m &&& 2 ^ i = (m / 2 ^ i % 2) * 2 ^ i := by
  have e : (m / 2 ^ i % 2) * 2 ^ i = ((m >>> i) &&& 1) <<< i := by
    rw [Nat.shiftLeft_eq, Nat.shiftRight_eq_div_pow, Nat.and_one_is_mod]
  rw [e, show (2 : Nat) ^ i = 1 <<< i by rw [Nat.shiftLeft_eq, Nat.one_mul]]
  apply Nat.eq_of_testBit_eq
  intro k
  simp only [Nat.testBit_and, Nat.testBit_shiftLeft, Nat.testBit_shiftRight]
  by_cases h : i ≤ k
  · simp [h]
  · simp [h]
theorem and_two (m i j : Nat) (h : j < i) : m &&& (2 ^ i + 2 ^ j) = (m / 2 ^ i % 2) * 2 ^ i + (m / 2 ^ j % 2) * 2 ^ j := by
  have hlt : 2 ^ j < 2 ^ i := Nat.pow_lt_pow_right (by decide) h
  have e1 := or_add (k := i) 1 hlt
  rw [Nat.one_mul] at e1
  rw [← e1, Nat.and_or_distrib_left, and_pow, and_pow, or_add]
  have : m / 2 ^ j % 2 ≤ 1 := by omega
  calc m / 2 ^ j % 2 * 2 ^ j ≤ 1 * 2 ^ j := Nat.mul_le_mul_right _ this
    _ < 2 ^ i := by omega
theorem one_b (r R : Nat) (hR : 0 < R) (hr : r < 2) : (r * R == R) = (r == 1) := by
  rcases r with _ | _ | r
  · rw [Nat.zero_mul]; exact beq_false_of_ne (by lia)
  · rw [Nat.zero_add, Nat.one_mul]; exact beq_self_eq_true R
  · lia
theorem two_b (s x S X : Nat) (hS : 0 < S) (hX : 0 < X) (hs : s < 2) (hx : x < 2) : (s * S + x * X == S + X) = (s == 1 && x == 1) := by
  rcases s with _ | _ | s
  · rw [Nat.zero_mul]; exact beq_false_of_ne (by rcases x with _ | _ | x <;> lia)
  · rcases x with _ | _ | x
    · rw [Nat.zero_mul]; exact beq_false_of_ne (by lia)
    · rw [Nat.zero_add, Nat.one_mul, Nat.one_mul]; exact beq_self_eq_true _
    · lia
  · lia
theorem cls (who r w s x R W S X : Nat) (hR : 0 < R) (hW : 0 < W) (hS : 0 < S) (hX : 0 < X) (hr : r < 2) (hw : w < 2) (hs : s < 2) (hx : x < 2) :
    [if r * R == R then 114 else 45, if w * W == W then 119 else 45, if s * S + x * X == S + X then (if who = 2 then 116 else 115) else if s * S == S then (if who = 2 then 84 else 83) else if x * X == X then 120 else 45] =
      [if r = 1 then 114 else 45, if w = 1 then 119 else 45, It.lastS who (s * 2 + x)] := by
  rw [one_b r R hR hr, one_b w W hW hw, two_b s x S X hS hX hs hx, one_b s S hS hs, one_b x X hX hx]
  obtain rfl | rfl : r = 0 ∨ r = 1 := by lia
  all_goals obtain rfl | rfl : w = 0 ∨ w = 1 := by lia
  all_goals obtain rfl | rfl : s = 0 ∨ s = 1 := by lia
  all_goals obtain rfl | rfl : x = 0 ∨ x = 1 := by lia
  all_goals simp [It.lastS]
theorem q4 (q : Nat) : 4 ≤ q % 8 ↔ q / 4 % 2 = 1 := by lia
theorem q2 (q : Nat) : q % 8 / 2 % 2 = q / 2 % 2 := by lia
theorem q1 (q : Nat) : q % 8 % 2 = q % 2 := by lia
theorem three_bits (y : It) (who r w s x : Nat) (h1 : (4 ≤ y.fig who) ↔ r = 1) (h2 : y.fig who / 2 % 2 = w) (h3 : y.spc who = s) (h4 : y.fig who % 2 = x) : y.three who = [if r = 1 then 114 else 45, if w = 1 then 119 else 45, It.lastS who (s * 2 + x)] := by
  unfold It.three
  rw [h2, h3, h4]
  by_cases h : r = 1
  · rw [if_pos h, if_pos (h1.mpr h)]
  · rw [if_neg h, if_neg (fun q => h (h1.mp q))]
theorem row_tabs (x : It) (hk : x.kind < 16) (hp : x.perm < 4096) : tabs.map (sgnOf x.mode) = x.row := by
  have h0 : sgnOf x.mode (0, [(40960, 108), (49152, 115), (32768, 45), (24576, 98), (16384, 100), (8192, 99), (4096, 112)]) = It.kindC x.kind := by
    rw [← kind_tab x.kind hk]
    unfold sgnOf
    rw [if_pos rfl, if_pos rfl]
    have : x.mode / 4096 % 16 = x.kind * 4096 / 4096 % 16 := by unfold It.mode; omega
    rw [this]
  have f0 : x.fig 0 = x.mode / 64 % 8 := (mode_fig x 0).symm
  have f1 : x.fig 1 = x.mode / 8 % 8 := (mode_fig x 1).symm
  have f2 : x.fig 2 = x.mode % 8 := by rw [← mode_fig x 2]; show x.mode / 1 % 8 = _; rw [Nat.div_one]
  have s0 : x.spc 0 = x.mode / 2048 % 2 := (mode_spc x (by decide : 0 < 3)).symm
  have s1 : x.spc 1 = x.mode / 1024 % 2 := (mode_spc x (by decide : 1 < 3)).symm
  have s2 : x.spc 2 = x.mode / 512 % 2 := (mode_spc x (by decide : 2 < 3)).symm
  unfold It.row
  rw [← h0]
  generalize x.mode = m at *
  have m2 : ∀ n : Nat, n % 2 < 2 := fun n => Nat.mod_lt _ (by decide)
  have c0 := cls 0 (m / 256 % 2) (m / 128 % 2) (m / 2048 % 2) (m / 64 % 2) 256 128 2048 64 (by decide) (by decide) (by decide) (by decide) (m2 _) (m2 _) (m2 _) (m2 _)
  have c1 := cls 1 (m / 32 % 2) (m / 16 % 2) (m / 1024 % 2) (m / 8 % 2) 32 16 1024 8 (by decide) (by decide) (by decide) (by decide) (m2 _) (m2 _) (m2 _) (m2 _)
  have c2 := cls 2 (m / 4 % 2) (m / 2 % 2) (m / 512 % 2) (m % 2) 4 2 512 1 (by decide) (by decide) (by decide) (by decide) (m2 _) (m2 _) (m2 _) (m2 _)
  rw [← three_bits x 0 (m / 256 % 2) (m / 128 % 2) (m / 2048 % 2) (m / 64 % 2) (by rw [f0, show m / 256 = m / 64 / 4 from (Nat.div_div_eq_div_mul m 64 4).symm]; exact q4 _) (by rw [f0, show m / 128 = m / 64 / 2 from (Nat.div_div_eq_div_mul m 64 2).symm]; exact q2 _) s0 (by rw [f0]; exact q1 _)] at c0
  rw [← three_bits x 1 (m / 32 % 2) (m / 16 % 2) (m / 1024 % 2) (m / 8 % 2) (by rw [f1, show m / 32 = m / 8 / 4 from (Nat.div_div_eq_div_mul m 8 4).symm]; exact q4 _) (by rw [f1, show m / 16 = m / 8 / 2 from (Nat.div_div_eq_div_mul m 8 2).symm]; exact q2 _) s1 (by rw [f1]; exact q1 _)] at c1
  rw [← three_bits x 2 (m / 4 % 2) (m / 2 % 2) (m / 512 % 2) (m % 2) (by rw [f2]; exact q4 _) (by rw [f2]; exact q2 _) s2 (by rw [f2]; exact q1 _)] at c2
  rw [← c0, ← c1, ← c2]
  have a8 : m &&& 256 = m / 256 % 2 * 256 := and_pow m 8
  have a7 : m &&& 128 = m / 128 % 2 * 128 := and_pow m 7
  have a11 : m &&& 2048 = m / 2048 % 2 * 2048 := and_pow m 11
  have a6 : m &&& 64 = m / 64 % 2 * 64 := and_pow m 6
  have b0 : m &&& 2112 = m / 2048 % 2 * 2048 + m / 64 % 2 * 64 := and_two m 11 6 (by decide)
  have a5 : m &&& 32 = m / 32 % 2 * 32 := and_pow m 5
  have a4 : m &&& 16 = m / 16 % 2 * 16 := and_pow m 4
  have a10 : m &&& 1024 = m / 1024 % 2 * 1024 := and_pow m 10
  have a3 : m &&& 8 = m / 8 % 2 * 8 := and_pow m 3
  have b1 : m &&& 1032 = m / 1024 % 2 * 1024 + m / 8 % 2 * 8 := and_two m 10 3 (by decide)
  have a2 : m &&& 4 = m / 4 % 2 * 4 := and_pow m 2
  have a1 : m &&& 2 = m / 2 % 2 * 2 := and_pow m 1
  have a9 : m &&& 512 = m / 512 % 2 * 512 := and_pow m 9
  have a0 : m &&& 1 = m % 2 * 1 := by have := and_pow m 0; rw [Nat.pow_zero, Nat.div_one] at this; exact this
  have b2 : m &&& 513 = m / 512 % 2 * 512 + m % 2 * 1 := by have := and_two m 9 0 (by decide); rw [Nat.pow_zero, Nat.div_one] at this; exact this
  have g1 : sgnOf m (1, [(256, 114)]) = if (m / 256 % 2 * 256 == 256) = true then 114 else 45 := by rw [← a8]; rfl
  have g2 : sgnOf m (2, [(128, 119)]) = if (m / 128 % 2 * 128 == 128) = true then 119 else 45 := by rw [← a7]; rfl
  have g3 : sgnOf m (3, [(2112, 115), (2048, 83), (64, 120)]) = if (m / 2048 % 2 * 2048 + m / 64 % 2 * 64 == 2048 + 64) = true then if 0 = 2 then 116 else 115 else if (m / 2048 % 2 * 2048 == 2048) = true then if 0 = 2 then 84 else 83 else if (m / 64 % 2 * 64 == 64) = true then 120 else 45 := by rw [← b0, ← a11, ← a6]; rfl
  have g4 : sgnOf m (4, [(32, 114)]) = if (m / 32 % 2 * 32 == 32) = true then 114 else 45 := by rw [← a5]; rfl
  have g5 : sgnOf m (5, [(16, 119)]) = if (m / 16 % 2 * 16 == 16) = true then 119 else 45 := by rw [← a4]; rfl
  have g6 : sgnOf m (6, [(1032, 115), (1024, 83), (8, 120)]) = if (m / 1024 % 2 * 1024 + m / 8 % 2 * 8 == 1024 + 8) = true then if 1 = 2 then 116 else 115 else if (m / 1024 % 2 * 1024 == 1024) = true then if 1 = 2 then 84 else 83 else if (m / 8 % 2 * 8 == 8) = true then 120 else 45 := by rw [← b1, ← a10, ← a3]; rfl
  have g7 : sgnOf m (7, [(4, 114)]) = if (m / 4 % 2 * 4 == 4) = true then 114 else 45 := by rw [← a2]; rfl
  have g8 : sgnOf m (8, [(2, 119)]) = if (m / 2 % 2 * 2 == 2) = true then 119 else 45 := by rw [← a1]; rfl
  have g9 : sgnOf m (9, [(513, 116), (512, 84), (1, 120)]) = if (m / 512 % 2 * 512 + m % 2 * 1 == 512 + 1) = true then if 2 = 2 then 116 else 115 else if (m / 512 % 2 * 512 == 512) = true then if 2 = 2 then 84 else 83 else if (m % 2 * 1 == 1) = true then 120 else 45 := by rw [← b2, ← a9, ← a0]; rfl
  have e : tabs.map (sgnOf m) = [sgnOf m (0, [(40960, 108), (49152, 115), (32768, 45), (24576, 98), (16384, 100), (8192, 99), (4096, 112)]), sgnOf m (1, [(256, 114)]), sgnOf m (2, [(128, 119)]), sgnOf m (3, [(2112, 115), (2048, 83), (64, 120)]),
      sgnOf m (4, [(32, 114)]), sgnOf m (5, [(16, 119)]), sgnOf m (6, [(1032, 115), (1024, 83), (8, 120)]), sgnOf m (7, [(4, 114)]), sgnOf m (8, [(2, 119)]), sgnOf m (9, [(513, 116), (512, 84), (1, 120)])] := rfl
  rw [e, g1, g2, g3, g4, g5, g6, g7, g8, g9]
  rfl
inductive IS46 (m : Nat) (perm : List Nat) : List Sl → Prop
  | mk (x0 x1 x2 x3 : Sl) : IS46 m perm (S46 m perm x0 x1 x2 x3)
theorem run46 {prog : Program} {w : World} {hb : Heap} (ifmtP : List PV → Option PV) (modeTable : PV) (h_S_IFMT : FV prog w hb "S_IFMT" 1 ifmtP) (g_filemode_table : GV hb "_filemode_table" modeTable) (i_enumerate : IV prog w hb "enumerate" 0 enumP) :
    ∃ g, XSs prog w hb (fnScope (nth 46)) 1 (fnBody (nth 46)) g ∧ ((∀ m : Nat, ifmtP [.int (m : Int)] = some (.int ((m / 4096 % 16 * 4096 : Nat) : Int))) → modeTable = tableV → ∀ x : It, x.kind < 16 → x.perm < 4096 →
      runP (fnScope (nth 46)).names [("mode" : Str)] g [.int ((x.mode : Nat) : Int)] = some (.str x.row)) := by
  refine' ⟨_, ?w, ?p⟩; rotate_left
  conv in (fnBody _) => whnf
  conv in (fnScope _) => whnf
  with_reducible
   refine' XSs.cons ?_ ?_; rotate_left 2; refine' XS.own (i := 1) (by kernel_rfl) (XL.lst ?_) (fun Z Z => by kernel_rfl); rotate_left; refine' XEs.nil; refine' XSs.cons ?_ ?_; rotate_left 2; refine' XS.for ?_ ?_ ?_ ?_ (fun Z Z => by kernel_rfl); rotate_left 4
   refine' XI.callIV (by kernel_rfl) (by assumption) ?_ (by decide) (by kernel_rfl) (fun Z => by kernel_rfl) (fun Z => by kernel_rfl); rotate_left; refine' XEs.co ?_ ?_; rotate_left 2; refine' XE.globV (by kernel_rfl) (by assumption) (by kernel_rfl); refine' XEs.nil; refine' TT.many ?_ (fun Z => by kernel_rfl) (fun Z => by kernel_rfl); rotate_left
   refine' TGs.cons ?_ ?_ (fun Z => by kernel_rfl); rotate_left 2; refine' TG.loc (i := 2) (by kernel_rfl); refine' TGs.cons ?_ ?_ (fun Z => by kernel_rfl); rotate_left 2; refine' TG.loc (i := 3) (by kernel_rfl); refine' TGs.nil; refine' XSs.cons ?_ ?_; rotate_left 2; refine' XS.for ?_ ?_ ?_ ?_ (fun Z Z => by kernel_rfl); rotate_left 4; refine' XI.val ?_; rotate_left; refine' XE.lo 3
   refine' TT.many ?_ (fun Z => by kernel_rfl) (fun Z => by kernel_rfl); rotate_left; refine' TGs.cons ?_ ?_ (fun Z => by kernel_rfl); rotate_left 2; refine' TG.loc (i := 4) (by kernel_rfl); refine' TGs.cons ?_ ?_ (fun Z => by kernel_rfl); rotate_left 2; refine' TG.loc (i := 5) (by kernel_rfl); refine' TGs.nil; refine' XSs.cons ?_ ?_; rotate_left 2; refine' XS.ite ?_ ?_ ?_; rotate_left 3
   refine' XT.cmp ?_ ?_ (by kernel_rfl); rotate_left 2; refine' XE.lo 2; refine' XE.int; refine' XSs.cons ?_ ?_; rotate_left 2; refine' XS.ite ?_ ?_ ?_; rotate_left 3; refine' XT.cmp ?_ ?_ (by kernel_rfl); rotate_left 2; refine' XE.cv (by assumption) ?_; rotate_left; refine' XEs.co ?_ ?_; rotate_left 2; refine' XE.lo 0; refine' XEs.nil; refine' XE.lo 4; refine' XSs.cons ?_ ?_; rotate_left 2
   refine' XS.append (i := 1) (by kernel_rfl) ?_ (by kernel_rfl) (fun Z => by kernel_rfl) (by kernel_rfl); rotate_left; refine' XE.lo 5; refine' XSs.cons ?_ ?_; rotate_left 2; refine' XS.brk; refine' XSs.nil; refine' XSs.nil; refine' XSs.nil; refine' XSs.cons ?_ ?_; rotate_left 2; refine' XS.ite ?_ ?_ ?_; rotate_left 3; refine' XT.cmp ?_ ?_ (by kernel_rfl); rotate_left 2
   refine' XE.bin ?_ ?_; rotate_left 2; refine' XE.lo 0; refine' XE.lo 4; refine' XE.lo 4; refine' XSs.cons ?_ ?_; rotate_left 2; refine' XS.append (i := 1) (by kernel_rfl) ?_ (by kernel_rfl) (fun Z => by kernel_rfl) (by kernel_rfl); rotate_left; refine' XE.lo 5; refine' XSs.cons ?_ ?_; rotate_left 2; refine' XS.brk; refine' XSs.nil; refine' XSs.nil; refine' XSs.nil; refine' XSs.nil
   refine' XSs.cons ?_ ?_; rotate_left 2; refine' XS.ite ?_ ?_ ?_; rotate_left 3; refine' XT.cmp ?_ ?_ (by kernel_rfl); rotate_left 2; refine' XE.lo 2; refine' XE.int; refine' XSs.cons ?_ ?_; rotate_left 2; refine' XS.append (i := 1) (by kernel_rfl) ?_ (by kernel_rfl) (fun Z => by kernel_rfl) (by kernel_rfl); rotate_left; refine' XE.str; refine' XSs.nil; refine' XSs.cons ?_ ?_; rotate_left 2
   refine' XS.append (i := 1) (by kernel_rfl) ?_ (by kernel_rfl) (fun Z => by kernel_rfl) (by kernel_rfl); rotate_left; refine' XE.str; refine' XSs.nil; refine' XSs.nil; refine' XSs.nil; refine' XSs.nil; refine' XSs.cons ?_ ?_; rotate_left 2; refine' XS.ret ?_; rotate_left
   refine' XE.meth ?_ ?_ F.plainAttrs_str F.slot_str_join F.type_str_join CB.join (Nat.zero_le _) (fun Z => by kernel_rfl) (fun Z => by kernel_rfl) (by kernel_rfl) (fun Z => by kernel_rfl) (fun Z => by kernel_rfl); rotate_left 2; refine' XE.str; refine' XEs.co ?_ ?_; rotate_left 2; refine' XE.lo 1; refine' XEs.nil; refine' XSs.nil
  case p =>
    intro hif hT x hk hp
    subst hT
    rw [← row_tabs x hk hp]
    generalize x.mode = m
    have cs_q : (Str.ofString "?").cps.toList = [63] := by kernel_rfl
    have cs_d : (Str.ofString "-").cps.toList = [45] := by kernel_rfl
    refine runP_ret [.pv (.int (m : Int)), .un, .un, .un, .un, .un, .un, .un, .un] rfl (by kernel_rfl) ?_
    simp only [cs, cs_q, cs_d]
    refine Ret.next (S46 m [] .un .un .un .un) rfl ?_
    refine Ret.loop (enc := fun t : Nat × List (Nat × Nat) => .two (.int (t.1 : Int)) (.tup (t.2.map encE))) (bs := tabs) rfl (fun perm bs σ => (IS46 m perm σ) ∧ perm.length + bs.length = 10 ∧ perm ++ bs.map (sgnOf m) = tabs.map (sgnOf m)) (fun perm t => perm ++ [sgnOf m t]) [] ?h0 (fun Z => rfl) ?hs ?hk
    case h0 => exact ⟨.mk .., rfl, rfl⟩
    case hs =>
      rintro perm ⟨i, tbl⟩ bs σ ⟨⟨ix, tb, b, c⟩, hl, hpm⟩
      have hpl : perm.length ≤ LIM := by unfold LIM; omega
      refine ⟨S46 m perm (.pv (.int (i : Int))) (.pv (.tup (tbl.map encE))) b c, ?_⟩
      have hitems : itemsP (.tup (tbl.map encE)) = some (tbl.map fun e => .one (encE e)) := by show some _ = _; rw [List.map_map]; rfl
      by_cases hi : i = 0
      · subst hi
        refine inner46 (hit := fun b => m / 4096 % 16 * 4096 == b) (d := 63) (tbl := tbl) rfl (by simp only [S46, X0, X1, Option.bind_some, hitems]) (fun Z => rfl) (fun Z Z Z Z => rfl) ?_ ?_ ?_ ?_
        · intro b c hb
          have hb' : (((m / 4096 % 16 * 4096 : Nat) : Int) == (b : Int)) = true := by simp only [beq_iff_eq] at hb ⊢; omega
          have hif := hif m
          generalize m / 4096 % 16 * 4096 = mm at *
          simp only [S46, X0, X1, X2, X3, Xl, seqP, Option.bind_some, hif, hb', ↓reduceIte, show (((0 : Nat) : Int) == 0) = true from rfl]
          simp [hpl]
        · intro b c hb
          have hb' : (((m / 4096 % 16 * 4096 : Nat) : Int) == (b : Int)) = false := by simp only [beq_eq_false_iff_ne] at hb ⊢; omega
          have hif := hif m
          generalize m / 4096 % 16 * 4096 = mm at *
          simp only [S46, X0, X1, X2, X3, Xl, seqP, Option.bind_some, hif, hb', ↓reduceIte, show (((0 : Nat) : Int) == 0) = true from rfl, Bool.false_eq_true]
        · intro x y
          simp [S46, X0, X1, X2, X3, Xl, seqP, hpl]
        · intro x y
          have e : sgnOf m (0, tbl) = pick (fun b => m / 4096 % 16 * 4096 == b) 63 tbl := rfl
          rw [← e]
          exact ⟨.mk .., by simp at hl ⊢; omega, by rw [← hpm]; simp⟩
      · have hi' : ((i : Int) == 0) = false := by rw [beq_eq_false_iff_ne]; omega
        refine inner46 (hit := fun b => m &&& b == b) (d := 45) (tbl := tbl) rfl (by simp only [S46, X0, X1, Option.bind_some, hitems]) (fun Z => rfl) (fun Z Z Z Z => rfl) ?_ ?_ ?_ ?_
        · intro b c hb
          have hb' : (((m &&& b : Nat) : Int) == (b : Int)) = true := by simp only [beq_iff_eq] at hb ⊢; omega
          have ha := and_nat m b
          generalize m &&& b = mb at *
          simp only [S46, X0, X1, X2, X3, Xl, Y0, seqP, Option.bind_some, hi', ha, hb', ↓reduceIte, Bool.false_eq_true]
          simp [hpl]
        · intro b c hb
          have hb' : (((m &&& b : Nat) : Int) == (b : Int)) = false := by simp only [beq_eq_false_iff_ne] at hb ⊢; omega
          have ha := and_nat m b
          generalize m &&& b = mb at *
          simp only [S46, X0, X1, X2, X3, Xl, Y0, seqP, Option.bind_some, hi', ha, hb', ↓reduceIte, Bool.false_eq_true]
        · intro x y
          simp [S46, X0, X1, X2, X3, Xl, seqP, hpl, hi']
        · intro x y
          have e : sgnOf m (i, tbl) = pick (fun b => m &&& b == b) 45 tbl := by unfold sgnOf; rw [if_neg hi]
          rw [← e]
          exact ⟨.mk .., by simp at hl ⊢; omega, by rw [← hpm]; simp⟩
    case hk =>
      rintro σ' ⟨⟨ix, tb, b, c⟩, hl, hpm⟩
      generalize List.foldl (fun perm t => perm ++ [sgnOf m t]) [] tabs = perm at *
      rw [List.map_nil, List.append_nil] at hpm
      rw [← hpm]
      refine Ret.here (Ret.of (σ' := frzS (S46 m perm ix tb b c)) ?_)
      have hj : joinP [.str [], .lst (perm.map fun n => .str [n])] = some (.str perm) := by
        have h1 := joinP_nil (perm.map fun n => [n]) (by
          rw [List.length_flatten, List.map_map]
          have : (perm.map (List.length ∘ fun n => [n])).sum = perm.length := by
            exact sum_ones perm
          rw [this]
          unfold LIM
          simp at hl; omega)
        rw [List.map_map] at h1
        have h2 : (perm.map fun n => [n]).flatten = perm := flat_ones perm
        rw [h2] at h1
        exact h1
      simp only [S46, X0, X1, X17, X19, X1a, X1b, frzS_cons, frzS_nil, Option.bind_some, hj, ↓reduceIte, Option.map_some]
theorem cs_ocqb : (Str.ofString "()\"\\").cps.toList = [40, 41, 34, 92] := by kernel_rfl
theorem filterMap_map {α β : Type} (f : α → β) (l : List α) : ∀ idx : List Nat, idx.filterMap ((l.map f)[·]?) = (idx.filterMap (l[·]?)).map f
  | [] => rfl
  | i :: idx => by
    rw [List.filterMap_cons, List.filterMap_cons, filterMap_map f l idx, List.getElem?_map]
    cases l[i]? <;> rfl
theorem filterMap_len {α : Type} (l : List α) (idx : List Nat) : (idx.filterMap (l[·]?)).length ≤ idx.length := List.length_filterMap_le _ _
theorem sliceL_take {α : Type} (l : List α) (n : Nat) : sliceL l none (some (n : Int)) none = l.take n := by
  unfold sliceL
  rw [kms_bounds, kms_hi_nat]
  show (sliceRange ((0 : Nat) : Int) ((min n l.length : Nat) : Int) 1).filterMap (l[·]?) = _
  rw [sliceRange_one]
  have := pick_run l.toArray 0 (min n l.length - 0)
  simp only [List.getElem?_toArray, List.drop_zero, Nat.sub_zero] at this
  rw [Nat.sub_zero, this]
  by_cases h : n ≤ l.length
  · rw [Nat.min_eq_left h]
  · rw [Nat.min_eq_right (Nat.le_of_not_le h), List.take_of_length_le (Nat.le_refl _), List.take_of_length_le (Nat.le_of_not_le h)]
theorem sliceP_take (l : List PV) (n : Nat) (h : l.length ≤ LIM) : sliceP (.lst l) none (some (n : Int)) = some (.lst (l.take n)) := by
  show (if _ then _ else _) = _
  rw [if_pos h, sliceL_take]
theorem stepP_ints (ns : List Int) (k : Nat) (h : ns.length ≤ 60) : ∃ ms : List Int, stepP (.lst (ns.map .int)) (some (k : Int)) none (.int 4) = some (.lst (ms.map .int)) ∧ ms.length ≤ 1000 := by
  refine ⟨(sliceRange (sliceBounds (some (k : Int)) none (some 4) ns.length).1 (sliceBounds (some (k : Int)) none (some 4) ns.length).2.1 (sliceBounds (some (k : Int)) none (some 4) ns.length).2.2).filterMap (ns[·]?), ?_, ?_⟩
  · show (if _ then _ else _) = _
    rw [if_pos ⟨by rw [List.length_map]; unfold LIM; lia, by decide⟩]
    unfold sliceL
    rw [filterMap_map, List.length_map]
  · refine Nat.le_trans (filterMap_len _ _) ?_
    unfold sliceRange sliceBounds
    rw [List.length_map, List.length_range]
    simp only [Option.getD_some, show (4 : Int) > 0 by decide, ↓reduceIte]
    have : ¬ ((k : Int) < 0) := by lia
    rw [if_neg this]
    split <;> lia
theorem sum_nonneg (ms : List Int) : 0 ≤ (ms.map fun x => x.fmod 35184372088832 + 1).sum := by
  induction ms with
  | nil => exact Int.le_refl _
  | cons a l ih =>
    rw [List.map_cons, List.sum_cons]
    have := Int.fmod_nonneg_of_pos a (show (0 : Int) < 35184372088832 by decide)
    lia
noncomputable def cellC (k : Nat) : Nat := [489, 393960, 169571326340, 1607423032].getD k 0
theorem item_cell {k : Nat} (h : k < 4) : itemP (.lst [.int 489, .int 393960, .int 169571326340, .int 1607423032]) (.int (k : Int)) = some (.int ((cellC k : Nat) : Int)) := by
  rcases k with _ | _ | _ | _ | k
  · rfl
  · rfl
  · rfl
  · rfl
  · lia
theorem intsOf_map (l : List Int) : intsOf (l.map .int) = some l := by
  induction l with
  | nil => rfl
  | cons a l ih => rw [List.map_cons, intsOf, ih]; rfl
noncomputable def S48 (ns first : List Int) (D : List It) (path : List Int) (k cell rest kind oct : Sl) : List Sl :=
  [.pv (.lst (ns.map .int)), .pv (.lst (first.map .int)), .own (D.map fun x => .int ((x.mode : Nat) : Int)), .own (D.map fun x => .int x.ab), .own (D.map fun x => .str [92, x.nm]), .own (D.map fun x => nums x.st), .pv (.lst (path.map .int)), k, cell, rest, kind, oct, .un, .un, .un, .un]
structure Part (D : List It) (path : List Int) : Prop where
  ok : ∀ (k : Nat) (x : It), D[k]? = some x → x.Ok k
  par : ∀ (k p : Nat) (x y : It), D[k]? = some x → x.ab = (p : Int) → D[p]? = some y → y.kind = 4
  rch : (D.map It.ab, path) ∈ reach D.length
  ne : path ≠ []
  pl : path.length ≤ D.length + 1
  pth : ∀ a ∈ path, a = -1 ∨ ∃ (p : Nat) (y : It), a = (p : Int) ∧ D[p]? = some y ∧ y.kind = 4
theorem Part.lt {D : List It} {path : List Int} (h : Part D path) {a : Int} (ha : a ∈ path) : a = -1 ∨ (0 ≤ a ∧ a < (D.length : Int)) := by
  rcases h.pth a ha with h | ⟨p, y, rfl, hy, _⟩
  · exact .inl h
  · have := (List.getElem?_eq_some_iff.mp hy).1
    exact .inr ⟨by lia, by lia⟩
theorem Part.next {D : List It} {path : List Int} (h : Part D path) {r kind perm nm : Nat} {st : List Nat} (hr : r < 3) (hk : kind < 16) (hp : perm < 4096) (hn : nm = 40 ∨ nm = 41 ∨ nm = 34 ∨ nm = 92) (hs : st.length ≤ 3) (ho : ∀ n ∈ st, n < 256) (hf : kind = 4 → st = []) :
    Part (D ++ [⟨kind, perm, (path.take (max 1 (path.length - r))).getLastD (-1), nm, st⟩]) (if kind = 4 then path.take (max 1 (path.length - r)) ++ [(D.length : Int)] else path.take (max 1 (path.length - r))) := by
  obtain ⟨q, hq⟩ : ∃ q, q = path.take (max 1 (path.length - r)) := ⟨_, rfl⟩
  rw [← hq]
  have hql : 1 ≤ q.length := by
    have : 1 ≤ path.length := List.length_pos_iff.mpr h.ne
    rw [hq, List.length_take]; lia
  have hqn : q ≠ [] := fun e => by rw [e] at hql; simp at hql
  have hsub : ∀ a ∈ q, a ∈ path := fun a ha => List.mem_of_mem_take (hq ▸ ha)
  have hlast : q.getLastD (-1) ∈ q := by rw [List.getLastD_eq_getLast?, List.getLast?_eq_some_getLast hqn]; exact List.getLast_mem hqn
  have hql2 : q.length ≤ D.length + 1 := by rw [hq, List.length_take]; have := h.pl; lia
  have old : ∀ {k : Nat} {y : It}, (D ++ [(⟨kind, perm, q.getLastD (-1), nm, st⟩ : It)])[k]? = some y → (k < D.length ∧ D[k]? = some y) ∨ (k = D.length ∧ y = ⟨kind, perm, q.getLastD (-1), nm, st⟩) := by
    intro k y hy
    by_cases hk : k < D.length
    · rw [List.getElem?_append_left hk] at hy; exact .inl ⟨hk, hy⟩
    · rw [List.getElem?_append_right (by lia)] at hy
      have : k - D.length = 0 := by have := (List.getElem?_eq_some_iff.mp hy).1; simp at this; lia
      rw [this] at hy
      cases hy
      exact .inr ⟨by lia, rfl⟩
  have new : ∀ {k : Nat} {y : It}, D[k]? = some y → (D ++ [(⟨kind, perm, q.getLastD (-1), nm, st⟩ : It)])[k]? = some y := by
    intro k y hy
    rw [List.getElem?_append_left (List.getElem?_eq_some_iff.mp hy).1]; exact hy
  refine ⟨?_, ?_, ?_, ?_, ?_, ?_⟩
  · intro k x hx
    rcases old hx with ⟨_, hx⟩ | ⟨rfl, rfl⟩
    · exact h.ok k x hx
    · exact ⟨hk, hp, h.lt (hsub _ hlast), hn, hs, ho, hf⟩
  · intro k p x y hx hxp hy
    rcases old hx with ⟨hkl, hx⟩ | ⟨rfl, rfl⟩
    · have hok := (h.ok k x hx).ab
      rcases old hy with ⟨_, hy⟩ | ⟨rfl, rfl⟩
      · exact h.par k p x y hx hxp hy
      · lia
    · rcases h.pth _ (hsub _ hlast) with e | ⟨p', y', e, hy', h4⟩
      · have hxp' : q.getLastD (-1) = (p : Int) := hxp
        lia
      · have hxp' : q.getLastD (-1) = (p : Int) := hxp
        have : p = p' := by lia
        subst this
        have hpl := (List.getElem?_eq_some_iff.mp hy').1
        rcases old hy with ⟨_, hy⟩ | ⟨e2, _⟩
        · rw [hy'] at hy; cases hy; exact h4
        · lia
  · rw [List.map_append, List.length_append]
    show (D.map It.ab ++ [q.getLastD (-1)], _) ∈ reach (D.length + 1)
    refine List.mem_flatMap.mpr ⟨_, h.rch, List.mem_flatMap.mpr ⟨r, ?_, List.mem_map.mpr ⟨decide (kind = 4), ?_, ?_⟩⟩⟩
    · rcases r with _ | _ | _ | r
      · simp
      · simp
      · simp
      · lia
    · cases decide (kind = 4) <;> simp
    · simp only [← hq, decide_eq_true_eq]
  · split <;> simp [hqn]
  · rw [List.length_append, List.length_singleton]
    split
    · rw [List.length_append, List.length_singleton]; lia
    · lia
  · intro a ha
    have : a ∈ q ∨ (kind = 4 ∧ a = (D.length : Int)) := by
      split at ha
      · rename_i h4
        rcases List.mem_append.mp ha with h1 | h1
        · exact .inl h1
        · exact .inr ⟨h4, by simpa using h1⟩
      · exact .inl ha
    rcases this with h1 | ⟨h4, rfl⟩
    · rcases h.pth a (hsub a h1) with e | ⟨p, y, e, hy, h4⟩
      · exact .inl e
      · exact .inr ⟨p, y, e, new hy, h4⟩
    · exact .inr ⟨D.length, ⟨kind, perm, q.getLastD (-1), nm, st⟩, rfl, by rw [List.getElem?_append_right (Nat.le_refl _)]; simp, h4⟩
theorem item_m1 (q : List Int) (h : q ≠ []) (hl : q.length ≤ 100) : itemP (.lst (q.map .int)) (.int (-1)) = some (.int (q.getLastD (-1))) := by
  have hp := List.length_pos_iff.mpr h
  have e : itemP (.lst (q.map .int)) (.int (-1)) = if (-1 : Int).natAbs < 2 ^ 60 then (seqIndex? (-1) (q.map PV.int).length).bind ((q.map PV.int)[·]?) else none := rfl
  have e2 : seqIndex? (-1) q.length = some (q.length - 1) := by
    rw [StrLaws.seqIndex_neg (by decide) (by lia)]
    congr 1; lia
  rw [e, if_pos (by decide), List.length_map, e2, Option.bind_some, List.getElem?_map, List.getLastD_eq_getLast?, List.getLast?_eq_getElem?, List.getElem?_eq_getElem (by lia)]; rfl
noncomputable def RetQ (Q : PV → Prop) (o : Option (PF × List Sl)) : Prop := ∃ r, Q r ∧ Ret o r
theorem RetQ.next {g₁ g₂ : List Sl → Option (PF × List Sl)} {σ : List Sl} {Q : PV → Prop} (σ' : List Sl) (h : g₁ σ = some (.next, σ')) (h₂ : RetQ Q (g₂ σ')) : RetQ Q (seqP g₁ g₂ σ) := by
  obtain ⟨r, h1, h2⟩ := h₂
  exact ⟨r, h1, Ret.next σ' h h2⟩
theorem RetQ.loopR {β : Type} {E : List Sl → Option (List Itm)} {tp : Itm → List Sl → Option (List Sl)} {g gE g₂ : List Sl → Option (PF × List Sl)} {enc : β → Itm} {bs : List β} {σ : List Sl} {Q : PV → Prop} (hE : E σ = some (bs.map enc)) (R : List β → List Sl → Prop)
    (h0 : R bs σ) (hgE : ∀ σ, gE σ = some (.next, σ)) (h : ∀ b bs σ, R (b :: bs) σ → ∃ σ₁ σ₂, tp (enc b) σ = some σ₁ ∧ (g σ₁ = some (.next, σ₂) ∨ g σ₁ = some (.cont, σ₂)) ∧ R bs σ₂)
    (k : ∀ σ', R [] σ' → RetQ Q (g₂ σ')) : RetQ Q (seqP (fun σ => (E σ).bind fun xs => forP tp g gE xs σ) g₂ σ) := by
  obtain ⟨σ', e, hr⟩ := forP_rel (gE := gE) R h bs σ h0
  refine RetQ.next σ' ?_ (k σ' hr)
  show (E σ).bind _ = _
  rw [hE, Option.bind_some, e, hgE]
theorem runP_retQ {names : List (Str × NameKind)} {bn : List Str} {g : List Sl → Option (PF × List Sl)} {ps : List PV} {Q : PV → Prop} (σ : List Sl) (hl : ps.length = bn.length) (hi : initSl names bn ps = σ) (h : RetQ Q (g σ)) : ∃ r, Q r ∧ runP names bn g ps = some r := by
  obtain ⟨r, h1, h2⟩ := h
  exact ⟨r, h1, runP_ret σ hl hi h2⟩
inductive IS48 (ns first : List Int) (D : List It) (path : List Int) : List Sl → Prop
  | mk (x0 x1 x2 x3 x4 : Sl) : IS48 ns first D path (S48 ns first D path x0 x1 x2 x3 x4)
theorem run48 {prog : Program} {w : World} {hb : Heap}  (h_sum : FV prog w hb "sum" 0 sumP) (h_max : FV prog w hb "max" 0 maxP) (h_len : FV prog w hb "len" 0 lenP) (i_range : IA prog w hb "range" 0 rangeP) :
    ∃ g, XSs prog w hb (fnScope (nth 48)) 0 (fnBody (nth 48)) g ∧ ∀ ns : List Int, ns.length ≤ 63 → ∃ r : PV, (∃ D : List It, DOk D ∧ r = .tup [modesV D, intsV (D.map It.ab), strsV (D.map fun x => [92, x.nm]), stuffV D]) ∧ runP (fnScope (nth 48)).names [("script" : Str)] g [.lst (ns.map .int)] = some r := by
  refine' ⟨_, ?w, ?p⟩; rotate_left
  conv in (fnBody _) => whnf
  conv in (fnScope _) => whnf
  with_reducible
   refine' XSs.cons ?_ ?_; rotate_left 2; refine' XS.set 1 ?_; rotate_left; refine' XE.slc ?_ ?_ ?_; rotate_left 3; refine' XE.lo 0; refine' XO.none; refine' XO.some ?_; rotate_left; refine' XE.int; refine' XSs.cons ?_ ?_; rotate_left 2; refine' XS.unpackD ?_ ?_ (by decide) (fun Z => by kernel_rfl) (fun Z => by kernel_rfl) (fun Z => by kernel_rfl) (fun Z => by kernel_rfl); rotate_left 2
   refine' Locs.cons (i := 2) (by kernel_rfl) ?_ (fun Z => by kernel_rfl); rotate_left; refine' Locs.cons (i := 3) (by kernel_rfl) ?_ (fun Z => by kernel_rfl); rotate_left; refine' Locs.cons (i := 4) (by kernel_rfl) ?_ (fun Z => by kernel_rfl); rotate_left; refine' Locs.cons (i := 5) (by kernel_rfl) ?_ (fun Z => by kernel_rfl); rotate_left
   refine' Locs.cons (i := 6) (by kernel_rfl) ?_ (fun Z => by kernel_rfl); rotate_left; refine' Locs.nil; refine' XD.new ?_ (fun Z Z => by kernel_rfl); rotate_left; refine' XD.new ?_ (fun Z Z => by kernel_rfl); rotate_left; refine' XD.new ?_ (fun Z Z => by kernel_rfl); rotate_left; refine' XD.new ?_ (fun Z Z => by kernel_rfl); rotate_left
   refine' XD.val ?_ ?_ (fun Z Z => by kernel_rfl); rotate_left 2; refine' XE.ofL (XL.lst ?_); rotate_left; refine' XEs.co ?_ ?_; rotate_left 2; refine' XE.un ?_; rotate_left; refine' XE.int; refine' XEs.nil; refine' XD.nil; refine' XSs.cons ?_ ?_; rotate_left 2; refine' XS.for ?_ ?_ ?_ ?_ (fun Z Z => by kernel_rfl); rotate_left 4
   refine' XI.callIA (by kernel_rfl) (by assumption) ?_ (by decide) (by kernel_rfl) (fun Z => by kernel_rfl) (fun Z => by kernel_rfl); rotate_left; refine' XEs.co ?_ ?_; rotate_left 2; refine' XE.int; refine' XEs.nil; refine' TT.one ?_; rotate_left; refine' TG.loc (i := 7) (by kernel_rfl); refine' XSs.cons ?_ ?_; rotate_left 2; refine' XS.set 8 ?_; rotate_left; refine' XE.bin ?_ ?_; rotate_left 2
   refine' XE.idx ?_ ?_ (fun Z Z => by kernel_rfl); rotate_left 2; refine' XE.ofL (XL.lst ?_); rotate_left; refine' XEs.co ?_ ?_; rotate_left 2; refine' XE.int; refine' XEs.co ?_ ?_; rotate_left 2; refine' XE.int; refine' XEs.co ?_ ?_; rotate_left 2; refine' XE.int; refine' XEs.co ?_ ?_; rotate_left 2; refine' XE.int; refine' XEs.nil; refine' XE.lo 7; refine' XE.cv (by assumption) ?_; rotate_left
   refine' XEs.co ?_ ?_; rotate_left 2; refine' XE.comp ⟨by kernel_rfl, by decide +kernel, by decide +kernel, by decide +kernel, by kernel_rfl⟩ ?_ ?_ ?_ ?_ (fun Z Z => by kernel_rfl); rotate_left 4; refine' XI.val ?_; rotate_left; refine' XE.slcStep ?_ ?_ ?_ ?_; rotate_left 4; refine' XE.lo 1; refine' XO.some ?_; rotate_left; refine' XE.lo 7; refine' XO.none; refine' XE.int
   refine' LT.one ?_; rotate_left; refine' LG.loc (i := 1) (by kernel_rfl); refine' XTs.nil; refine' XE.bin ?_ ?_; rotate_left 2; refine' XE.bin ?_ ?_; rotate_left 2; refine' XE.lo 1; refine' XE.bin ?_ ?_; rotate_left 2; refine' XE.int; refine' XE.int; refine' XE.int; refine' XEs.nil; refine' XSs.cons ?_ ?_; rotate_left 2; refine' XS.set 9 ?_; rotate_left; refine' XE.bin ?_ ?_; rotate_left 2
   refine' XE.lo 8; refine' XE.int; refine' XSs.cons ?_ ?_; rotate_left 2; refine' XS.set 10 ?_; rotate_left; refine' XE.ife ?_ ?_ ?_; rotate_left 3; refine' XT.val ?_ (fun Z Z => by kernel_rfl); rotate_left; refine' XE.bin ?_ ?_; rotate_left 2; refine' XE.lo 9; refine' XE.int; refine' XE.bin ?_ ?_; rotate_left 2; refine' XE.bin ?_ ?_; rotate_left 2; refine' XE.lo 9; refine' XE.int; refine' XE.int
   refine' XE.int; refine' XSs.cons ?_ ?_; rotate_left 2; refine' XS.set 6 ?_; rotate_left; refine' XE.slc ?_ ?_ ?_; rotate_left 3; refine' XE.lo 6; refine' XO.none; refine' XO.some ?_; rotate_left; refine' XE.cv (by assumption) ?_; rotate_left; refine' XEs.co ?_ ?_; rotate_left 2; refine' XE.int; refine' XEs.co ?_ ?_; rotate_left 2; refine' XE.bin ?_ ?_; rotate_left 2
   refine' XE.cv (by assumption) ?_; rotate_left; refine' XEs.co ?_ ?_; rotate_left 2; refine' XE.lo 6; refine' XEs.nil; refine' XE.bin ?_ ?_; rotate_left 2; refine' XE.bin ?_ ?_; rotate_left 2; refine' XE.lo 9; refine' XE.int; refine' XE.int; refine' XEs.nil; refine' XSs.cons ?_ ?_; rotate_left 2
   refine' XS.append (i := 2) (by kernel_rfl) ?_ (by kernel_rfl) (fun Z => by kernel_rfl) (by kernel_rfl); rotate_left; refine' XE.bin ?_ ?_; rotate_left 2; refine' XE.bin ?_ ?_; rotate_left 2; refine' XE.lo 10; refine' XE.int; refine' XE.bin ?_ ?_; rotate_left 2; refine' XE.lo 8; refine' XE.int; refine' XSs.cons ?_ ?_; rotate_left 2
   refine' XS.append (i := 3) (by kernel_rfl) ?_ (by kernel_rfl) (fun Z => by kernel_rfl) (by kernel_rfl); rotate_left; refine' XE.idxB (i := 6) (by kernel_rfl) ?_ (by kernel_rfl) (fun Z Z => by kernel_rfl); rotate_left; refine' XE.un ?_; rotate_left; refine' XE.int; refine' XSs.cons ?_ ?_; rotate_left 2
   refine' XS.append (i := 4) (by kernel_rfl) ?_ (by kernel_rfl) (fun Z => by kernel_rfl) (by kernel_rfl); rotate_left; refine' XE.bin ?_ ?_; rotate_left 2; refine' XE.str; refine' XE.idx ?_ ?_ (fun Z Z => by kernel_rfl); rotate_left 2; refine' XE.str; refine' XE.bin ?_ ?_; rotate_left 2; refine' XE.bin ?_ ?_; rotate_left 2; refine' XE.lo 9; refine' XE.int; refine' XE.int
   refine' XSs.cons ?_ ?_; rotate_left 2; refine' XS.set 11 ?_; rotate_left; refine' XE.ofL (XL.lst ?_); rotate_left; refine' XEs.co ?_ ?_; rotate_left 2; refine' XE.bin ?_ ?_; rotate_left 2; refine' XE.bin ?_ ?_; rotate_left 2; refine' XE.lo 9; refine' XE.int; refine' XE.int; refine' XEs.co ?_ ?_; rotate_left 2; refine' XE.bin ?_ ?_; rotate_left 2; refine' XE.bin ?_ ?_; rotate_left 2
   refine' XE.lo 9; refine' XE.int; refine' XE.int; refine' XEs.co ?_ ?_; rotate_left 2; refine' XE.bin ?_ ?_; rotate_left 2; refine' XE.bin ?_ ?_; rotate_left 2; refine' XE.lo 9; refine' XE.int; refine' XE.int; refine' XEs.nil; refine' XSs.cons ?_ ?_; rotate_left 2; refine' XS.append (i := 5) (by kernel_rfl) ?_ (by kernel_rfl) (fun Z => by kernel_rfl) (by kernel_rfl); rotate_left
   refine' XE.ife ?_ ?_ ?_; rotate_left 3; refine' XT.cmp ?_ ?_ (by kernel_rfl); rotate_left 2; refine' XE.lo 10; refine' XE.int; refine' XE.slc ?_ ?_ ?_; rotate_left 3; refine' XE.lo 11; refine' XO.none; refine' XO.some ?_; rotate_left; refine' XE.bin ?_ ?_; rotate_left 2; refine' XE.bin ?_ ?_; rotate_left 2; refine' XE.lo 9; refine' XE.int; refine' XE.int; refine' XE.ofL (XL.lst ?_); rotate_left
   refine' XEs.nil; refine' XSs.cons ?_ ?_; rotate_left 2; refine' XS.set 6 ?_; rotate_left; refine' XE.ife ?_ ?_ ?_; rotate_left 3; refine' XT.cmp ?_ ?_ (by kernel_rfl); rotate_left 2; refine' XE.lo 10; refine' XE.int; refine' XE.bin ?_ ?_; rotate_left 2; refine' XE.lo 6; refine' XE.ofL (XL.lst ?_); rotate_left; refine' XEs.co ?_ ?_; rotate_left 2; refine' XE.lo 7; refine' XEs.nil; refine' XE.lo 6
   refine' XSs.nil; refine' XSs.nil; refine' XSs.cons ?_ ?_; rotate_left 2; refine' XS.ret ?_; rotate_left; refine' XE.tup ?_ (by decide); rotate_left; refine' XEs.co ?_ ?_; rotate_left 2; refine' XE.lo 2; refine' XEs.co ?_ ?_; rotate_left 2; refine' XE.lo 3; refine' XEs.co ?_ ?_; rotate_left 2; refine' XE.lo 4; refine' XEs.co ?_ ?_; rotate_left 2; refine' XE.lo 5; refine' XEs.nil; refine' XSs.nil
  case p =>
    intro ns hns
    refine runP_retQ [.pv (.lst (ns.map .int)), .un, .un, .un, .un, .un, .un, .un, .un, .un, .un, .un, .un, .un, .un, .un] rfl (by kernel_rfl) ?_
    simp only [cs, cs_ocqb]
    have hfl : (ns.take 60).length ≤ 60 := by rw [List.length_take]; lia
    have hsl : sliceP (.lst (ns.map .int)) none (some 60) = some (.lst ((ns.take 60).map .int)) := by rw [List.map_take]; exact sliceP_take _ 60 (by rw [List.length_map]; unfold LIM; lia)
    generalize ns.take 60 = first at *
    refine RetQ.next [.pv (.lst (ns.map .int)), .pv (.lst (first.map .int)), .un, .un, .un, .un, .un, .un, .un, .un, .un, .un, .un, .un, .un, .un] (by simp [X0, X7, X8, X13, hsl]) ?_
    refine RetQ.next (S48 ns first [] [-1] .un .un .un .un .un) rfl ?_
    refine RetQ.loopR (enc := fun k : Nat => .one (.int (k : Int))) (bs := [0, 1, 2, 3]) ?hE (fun bs σ => ∃ D path, (IS48 ns first D path σ) ∧ bs = List.range' D.length (4 - D.length) ∧ D.length ≤ 4 ∧ Part D path) ?h0 (fun Z => rfl) ?hs ?hk
    case hE => rfl
    case h0 => exact ⟨[], [-1], .mk .., rfl, by decide, ⟨fun k x h => by simp at h, fun k p x y h => by simp at h, by decide, by simp, by simp, fun a ha => .inl (by simpa using ha)⟩⟩
    case hs =>
      rintro k bs σ ⟨D, path, ⟨k0, a0, b0, c0, d0⟩, hb, hD4, hP⟩
      obtain ⟨m, hm⟩ : ∃ m, 4 - D.length = m := ⟨_, rfl⟩
      rw [hm] at hb
      cases m with
      | zero => cases hb
      | succ m =>
        rw [List.range'_succ] at hb
        cases hb
        have hk4 : D.length < 4 := by lia
        obtain ⟨ms, hms, hml⟩ := stepP_ints first D.length hfl
        have hsn := sum_nonneg ms
        have hcl := item_cell hk4
        obtain ⟨cell, hcell⟩ : ∃ cell : Nat, ((cellC D.length : Nat) : Int) + (ms.map fun x : Int => x.fmod 35184372088832 + 1).sum = (cell : Int) := ⟨cellC D.length + ((ms.map fun x : Int => x.fmod 35184372088832 + 1).sum).toNat, by lia⟩
        have hsum : sumP [.lst (ms.map fun x : Int => .int (x.fmod 35184372088832 + 1))] = some (.int (ms.map fun x => x.fmod 35184372088832 + 1).sum) := by
          have := intsOf_map (ms.map fun x => x.fmod 35184372088832 + 1)
          rw [List.map_map] at this
          show (intsOf _).map _ = _
          rw [show (ms.map fun x : Int => PV.int (x.fmod 35184372088832 + 1)) = List.map (PV.int ∘ fun x : Int => x.fmod 35184372088832 + 1) ms from rfl, this]; rfl
        obtain ⟨rest, hrest⟩ : ∃ rest, rest = cell / 4096 := ⟨_, rfl⟩
        obtain ⟨perm, hperm⟩ : ∃ perm, perm = cell % 4096 := ⟨_, rfl⟩
        have d1 : binP .FloorDiv (.int (cell : Int)) (.int 4096) = some (.int (rest : Int)) := by rw [hrest]; exact fdiv_nat' cell 4096 (by decide) (by decide)
        have d2 : binP .Mod (.int (cell : Int)) (.int 4096) = some (.int (perm : Int)) := by rw [hperm]; exact fmod_nat' cell 4096 (by decide)
        have hpm : perm < 4096 := by rw [hperm]; exact Nat.mod_lt _ (by decide)
        have d3 : binP .Mod (.int (rest : Int)) (.int 2) = some (.int ((rest % 2 : Nat) : Int)) := fmod_nat' rest 2 (by decide)
        have d4 : binP .FloorDiv (.int (rest : Int)) (.int 2) = some (.int ((rest / 2 : Nat) : Int)) := fdiv_nat' rest 2 (by decide) (by decide)
        have d5 : binP .Mod (.int ((rest / 2 : Nat) : Int)) (.int 16) = some (.int ((rest / 2 % 16 : Nat) : Int)) := fmod_nat' _ 16 (by decide)
        obtain ⟨kind, hkind⟩ : ∃ kind, kind = if rest % 2 = 0 then 4 else rest / 2 % 16 := ⟨_, rfl⟩
        have hk16 : kind < 16 := by rw [hkind]; split <;> lia
        have d6 : binP .FloorDiv (.int (rest : Int)) (.int 32) = some (.int ((rest / 32 : Nat) : Int)) := fdiv_nat' rest 32 (by decide) (by decide)
        obtain ⟨r, hr⟩ : ∃ r, r = rest / 32 % 3 := ⟨_, rfl⟩
        have d7 : binP .Mod (.int ((rest / 32 : Nat) : Int)) (.int 3) = some (.int (r : Int)) := by rw [hr]; exact fmod_nat' _ 3 (by decide)
        have hr3 : r < 3 := by rw [hr]; exact Nat.mod_lt _ (by decide)
        have hmx : maxP [.int 1, .int (((path.map PV.int).length : Int) - (r : Int))] = some (.int ((max 1 (path.length - r) : Nat) : Int)) := by
          show some (PV.int (if _ then _ else _)) = _
          rw [List.length_map]
          have e : (if (path.length : Int) - (r : Int) > 1 then (path.length : Int) - (r : Int) else 1) = ((max 1 (path.length - r) : Nat) : Int) := by split <;> lia
          rw [e]
        have hpl : (path.map PV.int).length ≤ LIM := by rw [List.length_map]; have := hP.pl; unfold LIM; lia
        obtain ⟨q, hq⟩ : ∃ q, q = path.take (max 1 (path.length - r)) := ⟨_, rfl⟩
        have hqp : sliceP (.lst (path.map .int)) none (some ((max 1 (path.length - r) : Nat) : Int)) = some (.lst (q.map .int)) := by rw [sliceP_take _ _ hpl, hq, List.map_take]
        have hqne : q ≠ [] := by
          have : 1 ≤ path.length := List.length_pos_iff.mpr hP.ne
          intro e
          have h0 : q.length = 0 := by rw [e]; rfl
          rw [hq, List.length_take] at h0
          lia
        have hqlen : q.length ≤ 5 := by rw [hq, List.length_take]; have := hP.pl; lia
        have hq1 := item_m1 q hqne (by lia)
        have d8 : binP .Mult (.int (kind : Int)) (.int 4096) = some (.int ((kind : Int) * 4096)) := mul_int _ _ (by lia)
        have d9 : (kind : Int) * 4096 + (perm : Int) = ((kind * 4096 + perm : Nat) : Int) := by lia
        have d10 : binP .FloorDiv (.int (rest : Int)) (.int 96) = some (.int ((rest / 96 : Nat) : Int)) := fdiv_nat' rest 96 (by decide) (by decide)
        have d11 : binP .Mod (.int ((rest / 96 : Nat) : Int)) (.int 4) = some (.int ((rest / 96 % 4 : Nat) : Int)) := fmod_nat' _ 4 (by decide)
        have hn4 : rest / 96 % 4 < 4 := Nat.mod_lt _ (by decide)
        obtain ⟨nm, hnm⟩ : ∃ nm, nm = [40, 41, 34, 92].getD (rest / 96 % 4) 0 := ⟨_, rfl⟩
        have d12 : itemP (.str [40, 41, 34, 92]) (.int ((rest / 96 % 4 : Nat) : Int)) = some (.str [nm]) := by rw [hnm]; exact item_str [40, 41, 34, 92] _ hn4 (by lia)
        have hnm4 : nm = 40 ∨ nm = 41 ∨ nm = 34 ∨ nm = 92 := by
          have : ∀ n, n < 4 → [40, 41, 34, 92].getD n 0 = 40 ∨ [40, 41, 34, 92].getD n 0 = 41 ∨ [40, 41, 34, 92].getD n 0 = 34 ∨ [40, 41, 34, 92].getD n 0 = 92 := by decide
          rw [hnm]; exact this _ hn4
        have d13 : binP .Add (.str [92]) (.str [nm]) = some (.str [92, nm]) := add_str _ _ (by simp [LIM])
        have o1 : binP .FloorDiv (.int (rest : Int)) (.int 1536) = some (.int ((rest / 1536 : Nat) : Int)) := fdiv_nat' rest 1536 (by decide) (by decide)
        have o2 : binP .Mod (.int ((rest / 1536 : Nat) : Int)) (.int 256) = some (.int ((rest / 1536 % 256 : Nat) : Int)) := fmod_nat' _ 256 (by decide)
        have o3 : binP .FloorDiv (.int (rest : Int)) (.int 393216) = some (.int ((rest / 393216 : Nat) : Int)) := fdiv_nat' rest 393216 (by decide) (by decide)
        have o4 : binP .Mod (.int ((rest / 393216 : Nat) : Int)) (.int 256) = some (.int ((rest / 393216 % 256 : Nat) : Int)) := fmod_nat' _ 256 (by decide)
        have o5 : binP .FloorDiv (.int (rest : Int)) (.int 100663296) = some (.int ((rest / 100663296 : Nat) : Int)) := fdiv_nat' rest 100663296 (by decide) (by decide)
        have o6 : binP .Mod (.int ((rest / 100663296 : Nat) : Int)) (.int 256) = some (.int ((rest / 100663296 % 256 : Nat) : Int)) := fmod_nat' _ 256 (by decide)
        have o7 : binP .FloorDiv (.int (rest : Int)) (.int 384) = some (.int ((rest / 384 : Nat) : Int)) := fdiv_nat' rest 384 (by decide) (by decide)
        have o8 : binP .Mod (.int ((rest / 384 : Nat) : Int)) (.int 4) = some (.int ((rest / 384 % 4 : Nat) : Int)) := fmod_nat' _ 4 (by decide)
        obtain ⟨oc, hoc⟩ : ∃ oc, oc = [rest / 1536 % 256, rest / 393216 % 256, rest / 100663296 % 256] := ⟨_, rfl⟩
        have hocn : nums oc = .lst [.int ((rest / 1536 % 256 : Nat) : Int), .int ((rest / 393216 % 256 : Nat) : Int), .int ((rest / 100663296 % 256 : Nat) : Int)] := by rw [hoc]; rfl
        have hocl : oc.length = 3 := by rw [hoc]; rfl
        have hoc256 : ∀ n ∈ oc, n < 256 := by
          intro n hn
          rw [hoc] at hn
          simp at hn
          rcases hn with rfl | rfl | rfl <;> exact Nat.mod_lt _ (by decide)
        have o9 : sliceP (nums oc) none (some ((rest / 384 % 4 : Nat) : Int)) = some (nums (oc.take (rest / 384 % 4))) := by
          unfold nums
          rw [sliceP_take _ _ (by rw [List.length_map]; unfold LIM; lia), List.map_take]
        obtain ⟨st, hst⟩ : ∃ st, st = if kind = 4 then [] else oc.take (rest / 384 % 4) := ⟨_, rfl⟩
        have hst3 : st.length ≤ 3 := by rw [hst]; split <;> simp; lia
        have hsto : ∀ n ∈ st, n < 256 := by
          intro n hn
          rw [hst] at hn
          split at hn
          · cases hn
          · exact hoc256 n (List.mem_of_mem_take hn)
        have q4 : ((kind : Int) == 4) = (kind == 4) := by rw [Bool.eq_iff_iff, beq_iff_eq, beq_iff_eq]; lia
        have qr : (((rest % 2 : Nat) : Int) != 0) = !(rest % 2 == 0) := by
          show (!(((rest % 2 : Nat) : Int) == 0)) = _
          congr 1
          rw [Bool.eq_iff_iff, beq_iff_eq, beq_iff_eq]; lia
        have hnext := hP.next hr3 hk16 hpm hnm4 hst3 hsto (fun e => by rw [hst, if_pos e])
        rw [← hq] at hnext
        have hDl : ∀ (f : It → PV), (D.map f).length ≤ LIM := fun f => by rw [List.length_map]; unfold LIM; lia
        generalize hx0 : (⟨kind, perm, q.getLastD (-1), nm, st⟩ : It) = x at *
        have x1 : x.mode = kind * 4096 + perm := by rw [← hx0]
        have x2 : x.ab = q.getLastD (-1) := by rw [← hx0]
        have x3 : x.nm = nm := by rw [← hx0]
        have x4 : x.st = st := by rw [← hx0]
        obtain ⟨path', hpath'⟩ : ∃ path', path' = if kind = 4 then q ++ [(D.length : Int)] else q := ⟨_, rfl⟩
        rw [← hpath'] at hnext
        refine ⟨S48 ns first D path (.pv (.int (D.length : Int))) a0 b0 c0 d0, S48 ns first (D ++ [x]) path' (.pv (.int (D.length : Int))) (.pv (.int (cell : Int))) (.pv (.int (rest : Int))) (.pv (.int (kind : Int))) (.pv (nums oc)), rfl, .inl ?_, D ++ [x], path', .mk .., ?_, ?_, hnext⟩
        · refine seqP_eq (S48 ns first D path (.pv (.int (D.length : Int))) (.pv (.int (cell : Int))) b0 c0 d0) ?_ ?_
          · have hit : itemsP (.lst (ms.map .int)) = some (ms.map fun x : Int => .one (.int x)) := by show some _ = _; rw [List.map_map]; rfl
            have hp : binP .Pow (.int 2) (.int 45) = some (.int 35184372088832) := by rw [pow_int _ _ (by decide)]; rfl
            simp only [S48, X0, X1, X7, X8, X13, Option.bind_some, Option.map_some, hcl, hms, hit, List.length_cons, List.length_nil, Nat.zero_add, Nat.reduceAdd, Nat.reduceLeDiff, ↓reduceIte]
            rw [comp_eq (enc := fun x : Int => .one (.int x)) (bs := ms) (fun x : Int => .int (x.fmod 35184372088832 + 1)) (fun σ => ∃ y z, σ = [y, z]) ?hc ?h0c (by unfold LIM; lia)]
            case hc =>
              rintro x σ ⟨y, z, rfl⟩
              refine ⟨[y, .pv (.int x)], rfl, rfl, ?_, _, _, rfl⟩
              simp only [X0, X1, Xd, hp, Option.bind_some, fmod_int _ _ (show ¬ (35184372088832 : Int) = 0 by decide)]
            case h0c => exact ⟨.un, .un, by kernel_rfl⟩
            simp only [Option.bind_some, hsum, Xd, hcell]
          refine seqP_eq (S48 ns first D path (.pv (.int (D.length : Int))) (.pv (.int (cell : Int))) (.pv (.int (rest : Int))) c0 d0) ?_ ?_
          · simp only [S48, X0, X1, X7, X8, Option.bind_some, Option.map_some, d1]
          refine seqP_eq (S48 ns first D path (.pv (.int (D.length : Int))) (.pv (.int (cell : Int))) (.pv (.int (rest : Int))) (.pv (.int (kind : Int))) d0) ?_ ?_
          · cases h2 : (rest % 2 == 0)
            · have h2' : ¬ rest % 2 = 0 := by simpa using h2
              rw [if_neg h2'] at hkind
              simp only [S48, X0, X1, X7, X8, Xy, Option.bind_some, Option.map_some, d3, d4, d5, qr, h2, Bool.not_false, ↓reduceIte, hkind]
            · have h2' : rest % 2 = 0 := by simpa using h2
              rw [if_pos h2'] at hkind
              simp only [S48, X0, X1, X7, X8, Xy, Option.bind_some, Option.map_some, d3, d4, d5, qr, h2, Bool.not_true, ↓reduceIte, hkind, Bool.false_eq_true]
              rfl
          refine seqP_eq (S48 ns first D q (.pv (.int (D.length : Int))) (.pv (.int (cell : Int))) (.pv (.int (rest : Int))) (.pv (.int (kind : Int))) d0) ?_ ?_
          · simp only [S48, X0, X1, X7, X8, Xe, X13, Option.bind_some, Option.map_some, lenP_lst _ hpl, d6, d7, hmx, hqp]
          have ap : ∀ f : It → PV, D.map f ++ [f x] = (D ++ [x]).map f := fun f => by rw [List.map_append]; rfl
          refine seqP_eq [.pv (.lst (ns.map .int)), .pv (.lst (first.map .int)), .own ((D ++ [x]).map fun x => .int ((x.mode : Nat) : Int)), .own (D.map fun x => .int x.ab), .own (D.map fun x => .str [92, x.nm]), .own (D.map fun x => nums x.st), .pv (.lst (q.map .int)), .pv (.int (D.length : Int)), .pv (.int (cell : Int)), .pv (.int (rest : Int)), .pv (.int (kind : Int)), d0, .un, .un, .un, .un] ?_ ?_
          · rw [← ap, x1]
            simp only [S48, X0, X1, X2, X3, Xd, Option.bind_some, d8, d2, d9, if_pos (hDl _), List.set_cons_succ, List.set_cons_zero]
          refine seqP_eq [.pv (.lst (ns.map .int)), .pv (.lst (first.map .int)), .own ((D ++ [x]).map fun x => .int ((x.mode : Nat) : Int)), .own ((D ++ [x]).map fun x => .int x.ab), .own (D.map fun x => .str [92, x.nm]), .own (D.map fun x => nums x.st), .pv (.lst (q.map .int)), .pv (.int (D.length : Int)), .pv (.int (cell : Int)), .pv (.int (rest : Int)), .pv (.int (kind : Int)), d0, .un, .un, .un, .un] ?_ ?_
          · rw [← ap fun x => .int x.ab, x2]
            simp only [X2, X3, X4, X6, X11, Option.bind_some, hq1, if_pos (hDl _), List.set_cons_succ, List.set_cons_zero]
          refine seqP_eq [.pv (.lst (ns.map .int)), .pv (.lst (first.map .int)), .own ((D ++ [x]).map fun x => .int ((x.mode : Nat) : Int)), .own ((D ++ [x]).map fun x => .int x.ab), .own ((D ++ [x]).map fun x => .str [92, x.nm]), .own (D.map fun x => nums x.st), .pv (.lst (q.map .int)), .pv (.int (D.length : Int)), .pv (.int (cell : Int)), .pv (.int (rest : Int)), .pv (.int (kind : Int)), d0, .un, .un, .un, .un] ?_ ?_
          · rw [← ap fun x => .str [92, x.nm], x3]
            simp only [X0, X1, X2, X3, Option.bind_some, d10, d11, d12, d13, if_pos (hDl _), List.set_cons_succ, List.set_cons_zero]
          refine seqP_eq [.pv (.lst (ns.map .int)), .pv (.lst (first.map .int)), .own ((D ++ [x]).map fun x => .int ((x.mode : Nat) : Int)), .own ((D ++ [x]).map fun x => .int x.ab), .own ((D ++ [x]).map fun x => .str [92, x.nm]), .own (D.map fun x => nums x.st), .pv (.lst (q.map .int)), .pv (.int (D.length : Int)), .pv (.int (cell : Int)), .pv (.int (rest : Int)), .pv (.int (kind : Int)), .pv (nums oc), .un, .un, .un, .un] ?_ ?_
          · rw [hocn]
            simp only [X0, X1, X7, X8, Option.bind_some, Option.map_some, o1, o2, o3, o4, o5, o6, List.length_cons, List.length_nil, Nat.zero_add, Nat.reduceAdd, Nat.reduceLeDiff, ↓reduceIte]
          refine seqP_eq (S48 ns first (D ++ [x]) q (.pv (.int (D.length : Int))) (.pv (.int (cell : Int))) (.pv (.int (rest : Int))) (.pv (.int (kind : Int))) (.pv (nums oc))) ?_ ?_
          · have h5 : (D ++ [x]).map (fun x => nums x.st) = D.map (fun x => nums x.st) ++ [nums st] := by rw [← ap, x4]
            unfold S48
            rw [h5]
            by_cases h4 : kind = 4
            · have h4' : (kind == 4) = true := by simpa using h4
              rw [if_pos h4] at hst
              simp only [X0, X1, X2, X3, Xm, Option.bind_some, Option.map_some, q4, h4', Bool.not_true, Bool.false_eq_true, ↓reduceIte, if_pos (hDl _), List.set_cons_succ, List.set_cons_zero, List.length_nil, Nat.zero_le, hst]
              rfl
            · have h4' : (kind == 4) = false := by simpa using h4
              rw [if_neg h4] at hst
              simp only [X0, X1, X2, X3, Xm, X13, Option.bind_some, q4, h4', Bool.not_false, ↓reduceIte, o7, o8, o9, if_pos (hDl _), List.set_cons_succ, List.set_cons_zero, hst]
          refine seqP_eq (S48 ns first (D ++ [x]) path' (.pv (.int (D.length : Int))) (.pv (.int (cell : Int))) (.pv (.int (rest : Int))) (.pv (.int (kind : Int))) (.pv (nums oc))) ?_ rfl
          by_cases h4 : kind = 4
          · have h4' : (kind == 4) = true := by simpa using h4
            rw [if_pos h4] at hpath'
            have e : binP .Add (.lst (q.map .int)) (.lst [.int (D.length : Int)]) = some (.lst (path'.map .int)) := by
              show (if _ then _ else _) = _
              rw [if_pos (by rw [List.length_map]; unfold LIM; simp; lia), hpath', List.map_append]; rfl
            simp only [S48, X0, X1, X7, X8, Xl, Option.bind_some, Option.map_some, q4, h4', ↓reduceIte, e, List.length_cons, List.length_nil, Nat.zero_add, Nat.reduceLeDiff]
          · have h4' : (kind == 4) = false := by simpa using h4
            rw [if_neg h4] at hpath'
            simp only [S48, X0, X1, X7, X8, Xl, Option.bind_some, Option.map_some, q4, h4', ↓reduceIte, Bool.false_eq_true, hpath']
        · rw [List.length_append, List.length_singleton, show 4 - (D.length + 1) = m by lia]
        · rw [List.length_append, List.length_singleton]; lia
    case hk =>
      rintro σ' ⟨D, path, ⟨k0, a0, b0, c0, d0⟩, hb, hD4, hP⟩
      have h4 : D.length = 4 := by
        have := congrArg List.length hb
        simp at this; lia
      have hD : DOk D := ⟨h4, by have := hP.rch; rw [h4] at this; exact reach_shapes _ this, hP.ok, hP.par⟩
      refine ⟨_, ⟨D, hD, rfl⟩, Ret.here (Ret.of (σ' := frzS (S48 ns first D path k0 a0 b0 c0 d0)) ?_)⟩
      simp only [S48, X0, X1, X19, X1a, X1b, frzS_cons, frzS_nil, Option.bind_some]
      unfold modesV intsV strsV stuffV
      rw [List.map_map, List.map_map]
      rfl
noncomputable def SB (ts : List (List Nat)) (r : List Nat) : Prop := ∀ us, outT (ts ++ us) = r ++ outT us
noncomputable def OB (ts : List (List Nat)) (r : List Nat) : Prop := ∀ us, openT false (ts ++ us) = r ++ openT false us
theorem SB.nil : SB [] [] := fun Z => rfl
theorem OB.nil : OB [] [] := fun Z => rfl
theorem SB.app {a b : List (List Nat)} {r q : List Nat} (h : SB a r) (k : SB b q) : SB (a ++ b) (r ++ q) := fun us => by rw [List.append_assoc, h, k, List.append_assoc]
theorem OB.app {a b : List (List Nat)} {r q : List Nat} (h : OB a r) (k : OB b q) : OB (a ++ b) (r ++ q) := fun us => by rw [List.append_assoc, h, k, List.append_assoc]
theorem SB.plain : ∀ {ts : List (List Nat)}, [34] ∉ ts → SB ts ts.flatten
  | [], _ => SB.nil
  | t :: ts, h => fun us => by
    have h1 : t ≠ [34] := fun e => h (e ▸ List.mem_cons_self ..)
    have ih := SB.plain (ts := ts) (fun m => h (List.mem_cons_of_mem _ m)) us
    rw [List.cons_append, outT, if_neg h1, ih, List.flatten_cons, List.append_assoc]
theorem openT_cons (w : Bool) (t : List Nat) (ts : List (List Nat)) : openT w (t :: ts) = if t = [34] then openT (!w) ts else (if w = true then [lastC t] else t) ++ openT w ts := rfl
theorem OB.plain : ∀ {ts : List (List Nat)}, [34] ∉ ts → OB ts ts.flatten
  | [], _ => OB.nil
  | t :: ts, h => fun us => by
    have h1 : t ≠ [34] := fun e => h (e ▸ List.mem_cons_self ..)
    have ih := OB.plain (ts := ts) (fun m => h (List.mem_cons_of_mem _ m)) us
    rw [List.cons_append, openT_cons, if_neg h1, if_neg (by decide), ih, List.flatten_cons, List.append_assoc]
theorem in_skip : ∀ (ts : List (List Nat)) (acc : List Nat) (us : List (List Nat)), [34] ∉ ts → inT acc (ts ++ [34] :: us) = outT us
  | [], acc, us, _ => by rw [List.nil_append, inT, if_pos rfl]
  | t :: ts, acc, us, h => by
    have h1 : t ≠ [34] := fun e => h (e ▸ List.mem_cons_self ..)
    rw [List.cons_append, inT, if_neg h1]
    exact in_skip ts _ us fun m => h (List.mem_cons_of_mem _ m)
theorem SB.quoted {E : List (List Nat)} (h : [34] ∉ E) : SB ([[34]] ++ E ++ [[34]]) [] := fun us => by
  show outT ([34] :: (E ++ [[34]]) ++ us) = _
  rw [List.cons_append, outT, if_pos rfl, List.append_assoc]
  exact in_skip E [34] us h
noncomputable def escTok (c : Nat) : List Nat := if c = 92 then [92, 92] else if c = 34 then [92, 34] else [c]
theorem escTok_ne (c : Nat) : escTok c ≠ [34] := by
  unfold escTok
  split
  · simp
  · split
    · simp
    · rename_i h; simpa using h
theorem escTok_last (c : Nat) : lastC (escTok c) = c := by
  unfold escTok
  split
  · rename_i h; rw [h]; rfl
  · split
    · rename_i h; rw [h]; rfl
    · rfl
theorem escTok_whole (c : Nat) : Whole (escTok c) := by
  unfold escTok
  split
  · exact .inr ⟨92, rfl⟩
  · split
    · exact .inr ⟨34, rfl⟩
    · rename_i h _; exact .inl ⟨c, h, rfl⟩
theorem esc_eq : ∀ b : List Nat, esc b = (b.map escTok).flatten
  | [] => rfl
  | c :: b => by
    have ih := esc_eq b
    have e : esc (c :: b) = sub1 34 [92, 34] (if c = 92 then [92, 92] else [c]) ++ esc b := by
      unfold esc
      have : sub1 92 [92, 92] (c :: b) = (if c = 92 then [92, 92] else [c]) ++ sub1 92 [92, 92] b := rfl
      rw [this, sub1_append]
    rw [e, ih, List.map_cons, List.flatten_cons]
    congr 1
    unfold escTok
    by_cases h : c = 92
    · rw [if_pos h, if_pos h]; rfl
    · rw [if_neg h, if_neg h]
      by_cases h2 : c = 34
      · rw [if_pos h2, h2]; rfl
      · rw [if_neg h2]
        show (if c = 34 then [92, 34] else [c]) ++ [] = _
        rw [if_neg h2]; rfl
theorem esc_no (b : List Nat) : [34] ∉ b.map escTok := fun m => by
  obtain ⟨c, Z, h⟩ := List.mem_map.mp m
  exact escTok_ne c h
theorem open_in : ∀ (b : List Nat) (us : List (List Nat)), openT true (b.map escTok ++ [34] :: us) = b ++ openT false us
  | [], us => rfl
  | c :: b, us => by
    rw [List.map_cons, List.cons_append, openT_cons, if_neg (escTok_ne c), if_pos rfl, open_in b us, escTok_last]; rfl
theorem OB.quoted (b : List Nat) : OB ([[34]] ++ b.map escTok ++ [[34]]) b := fun us => by
  show openT false ([34] :: (b.map escTok ++ [[34]]) ++ us) = _
  rw [List.cons_append, openT_cons, if_pos rfl, List.append_assoc]
  exact open_in b us
noncomputable abbrev Tk := List (List Nat)
noncomputable def one1 (l : List Nat) : Tk := l.map fun c => [c]
theorem one1_flat : ∀ l : List Nat, (one1 l).flatten = l
  | [] => rfl
  | a :: l => by show [a] ++ (one1 l).flatten = _; rw [one1_flat l]; rfl
theorem one1_no {l : List Nat} {c : Nat} (h : c ∉ l) : [c] ∉ one1 l := fun m => by
  obtain ⟨a, ha, e⟩ := List.mem_map.mp m
  cases e
  exact h ha
theorem one1_whole {l : List Nat} (h : 92 ∉ l) : ∀ t ∈ one1 l, Whole t := fun t m => by
  obtain ⟨a, ha, rfl⟩ := List.mem_map.mp m
  exact .inl ⟨a, fun e => h (e ▸ ha), rfl⟩
noncomputable def headT (x : It) (who : Nat) : Tk := one1 ([It.kindC x.kind] ++ x.three who) ++ [[92, x.nm]]
noncomputable abbrev Pairs := List (List Nat × List Nat)
noncomputable def contT (pairs : Pairs) (k : Nat) (x : It) (X : Tk) : Tk := if x.kind = 4 then one1 (pairs.getD k ([], [])).1 ++ X ++ one1 (pairs.getD k ([], [])).2 else one1 (fourL x.st)
noncomputable def bodyT (who : Nat) (pairs : Pairs) (k : Nat) (x : It) (h : Nat → Tk) : Nat → Tk
  | 0 => if x.shut who = true then [[34]] ++ (contT pairs k x (h 0)).flatten.map escTok ++ [[34]] else contT pairs k x (h 0)
  | i + 1 => if x.shut who = true then contT pairs k x (h i) else contT pairs k x (h (i + 1))
noncomputable def lineC (who : Nat) (pairs : Pairs) (k : Nat) (x : It) (h h' : Nat → Tk) : Nat → Tk := fun i => headT x who ++ bodyT who pairs k x h i ++ [[44]] ++ h' i
noncomputable def lineT (D : List It) (who : Nat) (pairs : Pairs) : Nat → Tk := build D (lineC who pairs) (fun Z => [])
noncomputable def leftC (who : Nat) (pairs : Pairs) (cl : List Nat) (level k : Nat) (x : It) (h h' : Tk) : Tk := headT x who ++ (if cl.getD k 0 ≤ level then contT pairs k x h else []) ++ [[44]] ++ h'
noncomputable def leftT (D : List It) (who : Nat) (pairs : Pairs) (cl : List Nat) (level : Nat) : Tk := build D (leftC who pairs cl level) []
noncomputable def plain : Pairs := List.replicate 4 ([40], [41])
/-- the pairs are of brackets -/
noncomputable def POk (pairs : Pairs) : Prop := pairs.length = 4 ∧ ∀ p ∈ pairs, p = ([40], [41]) ∨ p = ([40], []) ∨ p = ([41], [40])
theorem POk.at {pairs : Pairs} (h : POk pairs) (k : Nat) : pairs.getD k ([], []) = ([], []) ∨ pairs.getD k ([], []) = ([40], [41]) ∨ pairs.getD k ([], []) = ([40], []) ∨ pairs.getD k ([], []) = ([41], [40]) := by
  rw [List.getD_eq_getElem?_getD]
  cases e : pairs[k]? with
  | none => exact .inl rfl
  | some p => exact .inr (h.2 p (List.mem_of_getElem? e))
theorem kindC_in (k : Nat) : It.kindC k ∈ [63, 112, 99, 100, 98, 45, 108, 115, 0] := by
  unfold It.kindC
  by_cases h : k < 16
  · have : ∀ k, k < 16 → [63, 112, 99, 63, 100, 63, 98, 63, 45, 63, 108, 63, 115, 63, 63, 63].getD k 0 ∈ [63, 112, 99, 100, 98, 45, 108, 115, 0] := by decide
    exact this k h
  · rw [List.getD_eq_getElem?_getD, List.getElem?_eq_none (by simpa using h)]; decide
theorem lastS_in (who n : Nat) : It.lastS who n ∈ [45, 120, 84, 116, 83, 115, 0] := by
  unfold It.lastS
  by_cases h : n < 4
  · have : ∀ n, n < 4 → ∀ b : Bool, (if b = true then [45, 120, 84, 116].getD n 0 else [45, 120, 83, 115].getD n 0) ∈ [45, 120, 84, 116, 83, 115, 0] := by decide
    have := this n h (decide (who = 2))
    simpa using this
  · have a : [45, 120, 84, 116].getD n 0 = 0 := by rw [List.getD_eq_getElem?_getD, List.getElem?_eq_none (by simpa using h)]; rfl
    have b : [45, 120, 83, 115].getD n 0 = 0 := by rw [List.getD_eq_getElem?_getD, List.getElem?_eq_none (by simpa using h)]; rfl
    rw [a, b]; split <;> decide
noncomputable def heads : List Nat := [63, 112, 99, 100, 98, 45, 108, 115, 0, 114, 119, 120, 84, 116, 83]
theorem head_in (x : It) (who : Nat) : ∀ c ∈ [It.kindC x.kind] ++ x.three who, c ∈ heads := by
  intro c hc
  rcases List.mem_append.mp hc with h | h
  · rw [List.mem_singleton] at h
    have := kindC_in x.kind
    rw [h]
    have hs : ∀ c ∈ [63, 112, 99, 100, 98, 45, 108, 115, 0], c ∈ heads := by decide
    exact hs _ this
  · unfold It.three at h
    simp only [List.mem_cons, List.not_mem_nil, or_false] at h
    rcases h with h | h | h
    · rw [h]; split <;> decide
    · rw [h]; split <;> decide
    · rw [h]
      have hs : ∀ c ∈ [45, 120, 84, 116, 83, 115, 0], c ∈ heads := by decide
      exact hs _ (lastS_in _ _)
theorem head_not (x : It) (who : Nat) {c : Nat} (h : c ∉ heads) : c ∉ [It.kindC x.kind] ++ x.three who := fun m => h (head_in x who c m)
theorem sign_in : ∀ n, n < 64 → sign n ∉ [34, 39, 40, 41, 44, 92] := by decide +kernel
theorem fourL_not (l : List Nat) {c : Nat} (h : c ∈ [34, 39, 40, 41, 44, 92]) : c ∉ fourL l := by
  intro m
  unfold fourL at m
  split at m
  · cases m
  · rcases List.mem_append.mp m with m | m
    · obtain ⟨k, Z, rfl⟩ := List.mem_map.mp m
      exact sign_in _ (Nat.mod_lt _ (by decide)) h
    · obtain ⟨Z, rfl⟩ := List.mem_replicate.mp m
      revert h; decide
theorem DOk.four {D : List It} (h : DOk D) : ∃ a b c d, D = [a, b, c, d] := by
  have := h.len
  rcases D with _ | ⟨a, _ | ⟨b, _ | ⟨c, _ | ⟨d, _ | ⟨e, l⟩⟩⟩⟩⟩
  · simp at this
  · simp at this
  · simp at this
  · simp at this
  · exact ⟨a, b, c, d, rfl⟩
  · simp at this
theorem slot_of (x : It) : (x.ab = -1 → x.slot = 4) ∧ ∀ n : Nat, x.ab = (n : Int) → x.slot = n := by
  unfold It.slot
  constructor
  · intro h; rw [if_pos (by lia)]
  · intro n h; rw [if_neg (by lia)]; lia
theorem closed_len {D : List It} (h : DOk D) (who : Nat) : (closedL D who).length = 4 := by
  obtain ⟨a, b, c, d, rfl⟩ := h.four
  rfl
noncomputable def sh1 (x : It) (who : Nat) : Nat := if x.shut who = true then 1 else 0
theorem closed_at {D : List It} (hD : DOk D) (who : Nat) {k : Nat} {x : It} (hx : D[k]? = some x) (hk : k < 4) : (closedL D who).getD k 0 = (closedL D who).getD x.slot 0 + sh1 x who := by
  obtain ⟨a, b, c, d, rfl⟩ := hD.four
  have ok := hD.ok k x hx
  obtain ⟨ca, hca⟩ : ∃ n, n = (if a.ab < 0 then 0 else ([] : List Nat).getD a.ab.toNat 0) + sh1 a who := ⟨_, rfl⟩
  obtain ⟨cb, hcb⟩ : ∃ n, n = (if b.ab < 0 then 0 else [ca].getD b.ab.toNat 0) + sh1 b who := ⟨_, rfl⟩
  obtain ⟨cc, hcc⟩ : ∃ n, n = (if c.ab < 0 then 0 else [ca, cb].getD c.ab.toNat 0) + sh1 c who := ⟨_, rfl⟩
  obtain ⟨cd, hcd⟩ : ∃ n, n = (if d.ab < 0 then 0 else [ca, cb, cc].getD d.ab.toNat 0) + sh1 d who := ⟨_, rfl⟩
  have e : closedL [a, b, c, d] who = [ca, cb, cc, cd] := by rw [hcd, hcc, hcb, hca]; rfl
  rw [e]
  have hs := slot_of x
  rcases k with _ | _ | _ | _ | k
  · obtain rfl : a = x := Option.some.inj hx
    rcases ok.ab with h | h
    · rw [hs.1 h]; rw [if_pos (by lia)] at hca; exact hca
    · lia
  · obtain rfl : b = x := Option.some.inj hx
    rcases ok.ab with h | h
    · rw [hs.1 h]; rw [if_pos (by lia)] at hcb; exact hcb
    · have h0 : b.ab = ((0 : Nat) : Int) := by lia
      rw [hs.2 0 h0]; rw [if_neg (by lia), h0] at hcb; exact hcb
  · obtain rfl : c = x := Option.some.inj hx
    rcases ok.ab with h | h
    · rw [hs.1 h]; rw [if_pos (by lia)] at hcc; exact hcc
    · have h0 : c.ab = ((0 : Nat) : Int) ∨ c.ab = ((1 : Nat) : Int) := by lia
      rw [if_neg (by lia)] at hcc
      rcases h0 with h0 | h0 <;> (rw [hs.2 _ h0]; rw [h0] at hcc; exact hcc)
  · obtain rfl : d = x := Option.some.inj hx
    rcases ok.ab with h | h
    · rw [hs.1 h]; rw [if_pos (by lia)] at hcd; exact hcd
    · have h0 : d.ab = ((0 : Nat) : Int) ∨ d.ab = ((1 : Nat) : Int) ∨ d.ab = ((2 : Nat) : Int) := by lia
      rw [if_neg (by lia)] at hcd
      rcases h0 with h0 | h0 | h0 <;> (rw [hs.2 _ h0]; rw [h0] at hcd; exact hcd)
  · lia
theorem closed_top {D : List It} (hD : DOk D) (who : Nat) : (closedL D who).getD 4 0 = 0 := by
  rw [List.getD_eq_getElem?_getD, List.getElem?_eq_none (by rw [closed_len hD who]; decide)]; rfl
section
variable {D : List It} {who : Nat} {pairs : Pairs}
theorem headT_flat (x : It) (who : Nat) : (headT x who).flatten = [It.kindC x.kind] ++ x.three who ++ [92, x.nm] := by
  unfold headT
  rw [List.flatten_append, one1_flat]; simp
theorem headT_no (x : It) (who : Nat) {c : Nat} (h : c ∉ heads) : [c] ∉ headT x who := by
  intro m
  unfold headT at m
  rcases List.mem_append.mp m with m | m
  · exact one1_no (head_not x who h) m
  · simp at m
theorem headT_whole (x : It) (who : Nat) : ∀ t ∈ headT x who, Whole t := by
  intro t m
  unfold headT at m
  rcases List.mem_append.mp m with m | m
  · exact one1_whole (head_not x who (by decide)) t m
  · rw [List.mem_singleton] at m; rw [m]; exact .inr ⟨_, rfl⟩
theorem pair_no (h : POk pairs) (k : Nat) {c : Nat} (hc : c ≠ 40 ∧ c ≠ 41) : c ∉ (pairs.getD k ([], [])).1 ∧ c ∉ (pairs.getD k ([], [])).2 := by
  rcases h.at k with e | e | e | e <;> rw [e] <;> simp <;> lia
theorem contT_flat (k : Nat) (x : It) (X : Tk) : (contT pairs k x X).flatten = if x.kind = 4 then (pairs.getD k ([], [])).1 ++ X.flatten ++ (pairs.getD k ([], [])).2 else fourL x.st := by
  unfold contT
  split
  · rw [List.flatten_append, List.flatten_append, one1_flat, one1_flat]
  · rw [one1_flat]
theorem bodyT_zero (k : Nat) (x : It) (h : Nat → Tk) : bodyT who pairs k x h 0 = if x.shut who = true then [[34]] ++ (contT pairs k x (h 0)).flatten.map escTok ++ [[34]] else contT pairs k x (h 0) := rfl
theorem bodyT_succ (k i : Nat) (x : It) (h : Nat → Tk) : bodyT who pairs k x h (i + 1) = if x.shut who = true then contT pairs k x (h i) else contT pairs k x (h (i + 1)) := rfl
theorem lineT_zero (hD : DOk D) : (lineT D who pairs 0).flatten = lineS D who pairs := by
  refine build_rel hD (fun s (A : Nat → Tk) t => (A 0).flatten = t) (fun Z => rfl) fun k x a a' b b' hx hk h1 h2 => ?_
  subst h1 h2
  show (headT x who ++ bodyT who pairs k x a 0 ++ [[44]] ++ a' 0).flatten = _
  rw [List.flatten_append, List.flatten_append, List.flatten_append, headT_flat]
  unfold pieceS
  rw [bodyT_zero]
  split
  · rw [List.flatten_append, List.flatten_append, ← esc_eq, contT_flat]; simp
  · rw [contT_flat]; simp
theorem lineT_whole (hD : DOk D) (hp : POk pairs) : ∀ i, ∀ t ∈ lineT D who pairs i, Whole t := by
  refine build_all hD (fun s (A : Nat → Tk) => ∀ i, ∀ t ∈ A i, Whole t) (fun Z i t m => by cases m) fun k x a a' hx hk h1 h2 => ?_
  have hc : ∀ i, ∀ t ∈ contT pairs k x (a i), Whole t := by
    intro i t m
    unfold contT at m
    split at m
    · rcases List.mem_append.mp m with m | m
      · rcases List.mem_append.mp m with m | m
        · exact one1_whole (pair_no hp k (by decide)).1 t m
        · exact h1 i t m
      · exact one1_whole (pair_no hp k (by decide)).2 t m
    · exact one1_whole (fourL_not _ (by decide)) t m
  intro i t m
  have m' : t ∈ headT x who ++ bodyT who pairs k x a i ++ [[44]] ++ a' i := m
  rcases List.mem_append.mp m' with m | m
  · rcases List.mem_append.mp m with m | m
    · rcases List.mem_append.mp m with m | m
      · exact headT_whole x who t m
      · cases i with
        | zero =>
          rw [bodyT_zero] at m
          split at m
          · rcases List.mem_append.mp m with m | m
            · rcases List.mem_append.mp m with m | m
              · rw [List.mem_singleton] at m; rw [m]; exact .inl ⟨34, by decide, rfl⟩
              · obtain ⟨c, Z, rfl⟩ := List.mem_map.mp m; exact escTok_whole c
            · rw [List.mem_singleton] at m; rw [m]; exact .inl ⟨34, by decide, rfl⟩
          · exact hc 0 t m
        | succ i =>
          rw [bodyT_succ] at m
          split at m
          · exact hc i t m
          · exact hc (i + 1) t m
    · rw [List.mem_singleton] at m; rw [m]; exact .inl ⟨44, by decide, rfl⟩
  · exact h2 i t m
theorem OB.of {ts : Tk} {r q : List Nat} (h : OB ts r) (e : r = q) : OB ts q := e ▸ h
theorem lineT_open (hD : DOk D) (hp : POk pairs) : ∀ i, OB (lineT D who pairs i) (lineT D who pairs (i + 1)).flatten := by
  refine build_all hD (fun s (A : Nat → Tk) => ∀ i, OB (A i) (A (i + 1)).flatten) (fun Z i => OB.nil) fun k x a a' hx hk h1 h2 => ?_
  have hc : ∀ i, OB (contT pairs k x (a i)) (contT pairs k x (a (i + 1))).flatten := by
    intro i
    unfold contT
    split
    · rw [List.flatten_append, List.flatten_append]
      exact ((OB.plain (one1_no (pair_no hp k (by decide)).1)).app (h1 i)).app (OB.plain (one1_no (pair_no hp k (by decide)).2))
    · exact OB.plain (one1_no (fourL_not _ (by decide)))
  intro i
  show OB (headT x who ++ bodyT who pairs k x a i ++ [[44]] ++ a' i) (headT x who ++ bodyT who pairs k x a (i + 1) ++ [[44]] ++ a' (i + 1)).flatten
  rw [List.flatten_append, List.flatten_append, List.flatten_append]
  refine (((OB.plain (headT_no x who (by decide))).app ?_).app (OB.plain (by decide))).app (h2 i)
  cases i with
  | zero =>
    rw [bodyT_zero, bodyT_succ]
    split
    · exact OB.quoted _
    · exact hc 0
  | succ i =>
    rw [bodyT_succ, bodyT_succ]
    split
    · exact hc i
    · exact hc (i + 1)
theorem opened_flat {ts : Tk} (h : ∀ t ∈ ts, Whole t) {r : List Nat} (ho : OB ts r) : opened ts.flatten = r := by
  unfold opened
  have e := toks_flat h []
  rw [List.append_nil, toks_nil, List.append_nil] at e
  rw [e]
  have := ho []
  rw [List.append_nil] at this
  rw [this]
  exact List.append_nil r
theorem strip_flat {ts : Tk} (h : ∀ t ∈ ts, Whole t) {r : List Nat} (ho : SB ts r) : strip ts.flatten = r := by
  unfold strip
  have e := toks_flat h []
  rw [List.append_nil, toks_nil, List.append_nil] at e
  rw [e]
  have := ho []
  rw [List.append_nil] at this
  rw [this]
  exact List.append_nil r
theorem toks_of_whole {ts : Tk} (h : ∀ t ∈ ts, Whole t) : toks ts.flatten = ts := by
  have e := toks_flat h []
  rwa [List.append_nil, toks_nil, List.append_nil] at e
theorem opened_line (hD : DOk D) (hp : POk pairs) (i : Nat) : opened (lineT D who pairs i).flatten = (lineT D who pairs (i + 1)).flatten := opened_flat (lineT_whole hD hp i) (lineT_open hD hp i)
theorem leftT_flat (hD : DOk D) (cl : List Nat) (lv : Nat) : (leftT D who plain cl lv).flatten = leftS D who cl lv := by
  refine build_rel hD (fun s (A : Tk) t => A.flatten = t) (fun Z => rfl) fun k x a a' b b' hx hk h1 h2 => ?_
  subst h1 h2
  show (headT x who ++ _ ++ [[44]] ++ a').flatten = _
  rw [List.flatten_append, List.flatten_append, List.flatten_append, headT_flat]
  unfold leftP
  have hpl : plain.getD k ([], []) = ([40], [41]) := by
    rcases k with _ | _ | _ | _ | k
    · rfl
    · rfl
    · rfl
    · rfl
    · lia
  split
  · rw [contT_flat, hpl]; simp
  · simp
theorem leftT_whole (hD : DOk D) (hp : POk pairs) (cl : List Nat) (lv : Nat) : ∀ t ∈ leftT D who pairs cl lv, Whole t := by
  refine build_all hD (fun s (A : Tk) => ∀ t ∈ A, Whole t) (fun Z t m => by cases m) fun k x a a' hx hk h1 h2 => ?_
  intro t m
  have m' : t ∈ headT x who ++ (if cl.getD k 0 ≤ lv then contT pairs k x a else []) ++ [[44]] ++ a' := m
  rcases List.mem_append.mp m' with m | m
  · rcases List.mem_append.mp m with m | m
    · rcases List.mem_append.mp m with m | m
      · exact headT_whole x who t m
      · split at m
        · unfold contT at m
          split at m
          · rcases List.mem_append.mp m with m | m
            · rcases List.mem_append.mp m with m | m
              · exact one1_whole (pair_no hp k (by decide)).1 t m
              · exact h1 t m
            · exact one1_whole (pair_no hp k (by decide)).2 t m
          · exact one1_whole (fourL_not _ (by decide)) t m
        · cases m
    · rw [List.mem_singleton] at m; rw [m]; exact .inl ⟨44, by decide, rfl⟩
  · exact h2 t m
theorem strip_rel (hD : DOk D) (hp : POk pairs) (lv : Nat) : (closedL D who).getD 4 0 ≤ lv → SB (lineT D who pairs (lv - (closedL D who).getD 4 0)) (leftT D who pairs (closedL D who) lv).flatten := by
  refine build_rel hD (fun s (A : Nat → Tk) (B : Tk) => (closedL D who).getD s 0 ≤ lv → SB (A (lv - (closedL D who).getD s 0)) B.flatten) (fun Z Z => SB.nil) fun k x a a' b b' hx hk h1 h2 hlv => ?_
  have hc := closed_at hD who hx hk
  have hcont : ∀ i, SB (a i) b.flatten → SB (contT pairs k x (a i)) (contT pairs k x b).flatten := by
    intro i h
    unfold contT
    split
    · rw [List.flatten_append, List.flatten_append]
      exact ((SB.plain (one1_no (pair_no hp k (by decide)).1)).app h).app (SB.plain (one1_no (pair_no hp k (by decide)).2))
    · exact SB.plain (one1_no (fourL_not _ (by decide)))
  show SB (headT x who ++ bodyT who pairs k x a (lv - (closedL D who).getD x.slot 0) ++ [[44]] ++ a' (lv - (closedL D who).getD x.slot 0)) (headT x who ++ (if (closedL D who).getD k 0 ≤ lv then contT pairs k x b else []) ++ [[44]] ++ b').flatten
  rw [List.flatten_append, List.flatten_append, List.flatten_append]
  refine (((SB.plain (headT_no x who (by decide))).app ?_).app (SB.plain (by decide))).app (h2 hlv)
  generalize (closedL D who).getD k 0 = ck at *
  generalize (closedL D who).getD x.slot 0 = cs at *
  unfold sh1 at hc
  by_cases hs : x.shut who = true
  · rw [if_pos hs] at hc
    cases hi : lv - cs with
    | zero =>
      rw [bodyT_zero, if_pos hs, if_neg (by lia)]
      exact SB.quoted (esc_no _)
    | succ j =>
      rw [bodyT_succ, if_pos hs, if_pos (by lia)]
      have h := h1 (by lia)
      rw [show lv - ck = j by lia] at h
      exact hcont j h
  · rw [if_neg hs] at hc
    have hck : ck = cs := by lia
    rw [if_pos (by lia)]
    have h := h1 (by lia)
    rw [hck] at h
    cases hi : lv - cs with
    | zero => rw [bodyT_zero, if_neg hs]; rw [hi] at h; exact hcont 0 h
    | succ j => rw [bodyT_succ, if_neg hs]; rw [hi] at h; exact hcont (j + 1) h
theorem strip_line (hD : DOk D) (hp : POk pairs) (lv : Nat) : strip (lineT D who pairs lv).flatten = (leftT D who pairs (closedL D who) lv).flatten := by
  have h := strip_rel (who := who) hD hp lv
  rw [closed_top hD who] at h
  exact strip_flat (lineT_whole hD hp lv) (h (Nat.zero_le _))
theorem plain_ok : POk plain := ⟨rfl, fun p hp => .inl (List.eq_of_mem_replicate hp)⟩
theorem all_open (hD : DOk D) (lv : Nat) (hl : ∀ k, k < 4 → (closedL D who).getD k 0 ≤ lv) : lineT D who pairs lv = leftT D who pairs (closedL D who) lv := by
  have h : (closedL D who).getD 4 0 ≤ lv → lineT D who pairs (lv - (closedL D who).getD 4 0) = leftT D who pairs (closedL D who) lv := by
    refine build_rel hD (fun s (A : Nat → Tk) (B : Tk) => (closedL D who).getD s 0 ≤ lv → A (lv - (closedL D who).getD s 0) = B) (fun Z Z => rfl) fun k x a a' b b' hx hk h1 h2 hlv => ?_
    have hc := closed_at hD who hx hk
    have hck := hl k hk
    show headT x who ++ bodyT who pairs k x a (lv - (closedL D who).getD x.slot 0) ++ [[44]] ++ a' (lv - (closedL D who).getD x.slot 0) = headT x who ++ (if (closedL D who).getD k 0 ≤ lv then contT pairs k x b else []) ++ [[44]] ++ b'
    rw [h2 hlv, if_pos hck, ← h1 hck]
    generalize (closedL D who).getD k 0 = ck at *
    generalize (closedL D who).getD x.slot 0 = cs at *
    unfold sh1 at hc
    congr 3
    by_cases hs : x.shut who = true
    · rw [if_pos hs] at hc
      obtain ⟨j, hj⟩ : ∃ j, lv - cs = j + 1 := ⟨lv - cs - 1, by lia⟩
      rw [hj, bodyT_succ, if_pos hs, show lv - ck = j by lia]
    · rw [if_neg hs] at hc
      rw [show lv - ck = lv - cs by lia]
      cases hi : lv - cs with
      | zero => rw [bodyT_zero, if_neg hs]
      | succ j => rw [bodyT_succ, if_neg hs]
  rw [closed_top hD who] at h
  exact h (Nat.zero_le _)
theorem lineS_tick (hD : DOk D) : 39 ∉ lineS D who plain := by
  refine build_rel (b0 := ()) (c' := fun Z Z Z Z => ()) hD (fun s (t : List Nat) _ => 39 ∉ t) (fun Z m => by cases m) fun k x a a' Z Z hx hk h1 h2 => ?_
  have ok := hD.ok k x hx
  have hpl : plain.getD k ([], []) = ([40], [41]) := by
    rcases k with _ | _ | _ | _ | k
    · rfl
    · rfl
    · rfl
    · rfl
    · lia
  have hb : 39 ∉ (if x.kind = 4 then (plain.getD k ([], [])).1 ++ a ++ (plain.getD k ([], [])).2 else fourL x.st) := by
    split
    · rw [hpl]; simp [h1]
    · exact fourL_not _ (by decide)
  have hsub : ∀ c z l, 39 ∉ l → 39 ∉ z → 39 ∉ sub1 c z l := by
    intro c z l hl hz m
    unfold sub1 at m
    obtain ⟨y, hy, m⟩ := List.mem_flatMap.mp m
    split at m
    · exact hz m
    · rw [List.mem_singleton] at m; exact hl (m ▸ hy)
  unfold pieceS
  generalize (if x.kind = 4 then (plain.getD k ([], [])).1 ++ a ++ (plain.getD k ([], [])).2 else fourL x.st) = b at *
  have he : 39 ∉ esc b := hsub 34 [92, 34] _ (hsub 92 [92, 92] b hb (by decide)) (by decide)
  have hh : 39 ∉ [It.kindC x.kind] ++ x.three who := head_not x who (by decide)
  have hn : ¬ 39 = x.nm := by rcases ok.nm with h | h | h | h <;> lia
  intro m
  simp only [List.mem_append, List.mem_cons, List.not_mem_nil, or_false] at m hh
  rcases m with ((((m | m) | m) | m) | m) | m
  · exact hh (.inl m)
  · exact hh (.inr m)
  · rcases m with m | m
    · lia
    · exact hn m
  · split at m
    · simp only [List.mem_append, List.mem_singleton] at m
      rcases m with (m | m) | m
      · lia
      · exact he m
      · lia
    · exact hb m
  · lia
  · exact h2 m
theorem build_len {comb : Nat → It → List Nat → List Nat → List Nat} (hD : DOk D) (h : ∀ (b k : Nat) (x : It) (p q : List Nat), D[k]? = some x → k < 4 → 20 ≤ b → p.length ≤ b → q.length ≤ b → (comb k x p q).length ≤ 6 * b) : (build D comb []).length ≤ 25920 := by
  have step : ∀ (ks : List Nat) (H : List (List Nat)) (b : Nat), (∀ k ∈ ks, k < 4) → H.length = 5 → 20 ≤ b → (∀ s, (H.getD s []).length ≤ b) → ∀ s, ((ks.foldl (bstep D comb []) H).getD s []).length ≤ b * 6 ^ ks.length := by
    intro ks
    induction ks with
    | nil => intro H b Z Z Z hR s; simpa using hR s
    | cons k ks ih =>
      intro H b hk hH hb hR s
      have hk4 := hk k (List.mem_cons_self ..)
      obtain ⟨x, hx⟩ := hD.at hk4
      have hs := (hD.ok k x hx).slot_lt hk4
      have e1 : bstep D comb [] H k = H.set x.slot (comb k x (H.getD k []) (H.getD x.slot [])) := by unfold bstep; rw [hx]
      rw [List.foldl_cons, e1, List.length_cons, Nat.pow_succ]
      have := ih (H.set x.slot (comb k x (H.getD k []) (H.getD x.slot []))) (6 * b) (fun k hk' => hk k (List.mem_cons_of_mem _ hk')) (by rw [List.length_set, hH]) (by lia) (fun s => by
        rw [getD_set (by rw [hH]; exact hs)]
        split
        · exact h b k x _ _ hx hk4 hb (hR k) (hR x.slot)
        · have := hR s; lia) s
      rw [show b * (6 ^ ks.length * 6) = 6 * b * 6 ^ ks.length by rw [Nat.mul_comm 6 b, Nat.mul_assoc, Nat.mul_comm 6]]
      exact this
  have := step [3, 2, 1, 0] (List.replicate 5 []) 20 (by decide) (by simp) (Nat.le_refl _) (fun s => by
    rw [List.getD_eq_getElem?_getD, List.getElem?_replicate]
    split <;> simp) 4
  exact this
theorem lineS_len (hD : DOk D) (hp : POk pairs) : (lineS D who pairs).length ≤ 25920 := by
  refine build_len hD fun b k x p q hx hk hb h1 h2 => ?_
  have ok := hD.ok k x hx
  have hpl : (pairs.getD k ([], [])).1.length ≤ 1 ∧ (pairs.getD k ([], [])).2.length ≤ 1 := by rcases hp.at k with e | e | e | e <;> rw [e] <;> simp
  have hB : (if x.kind = 4 then (pairs.getD k ([], [])).1 ++ p ++ (pairs.getD k ([], [])).2 else fourL x.st).length ≤ b + 2 := by
    split
    · rw [List.length_append, List.length_append]; lia
    · have := fourL_len x.st ok.st; lia
  unfold pieceS
  generalize (if x.kind = 4 then (pairs.getD k ([], [])).1 ++ p ++ (pairs.getD k ([], [])).2 else fourL x.st) = c at *
  have he := esc_len c
  have ht := three_len x who
  have h3 : (if x.shut who = true then [34] ++ esc c ++ [34] else c).length ≤ 4 * (b + 2) + 2 := by
    split
    · rw [List.length_append, List.length_append]; simp; lia
    · lia
  simp only [List.length_append, List.length_cons, List.length_nil, ht]
  lia
theorem toks_ne : ∀ (n : Nat) (l : List Nat), l.length ≤ n → ∀ t ∈ toks l, t ≠ [] := by
  intro n
  induction n with
  | zero => intro l hl t m; rw [List.length_eq_zero_iff.mp (Nat.le_zero.mp hl)] at m; cases m
  | succ n ih =>
    intro l hl t m
    match l, hl, m with
    | [], _, m => cases m
    | [c], _, m => rw [toks_one, List.mem_singleton] at m; rw [m]; simp
    | c :: d :: r, hl, m =>
      simp only [List.length_cons] at hl
      by_cases h : c = 92
      · subst h
        rw [toks_esc] at m
        rcases List.mem_cons.mp m with m | m
        · rw [m]; simp
        · exact ih r (by lia) t m
      · rw [toks_plain h] at m
        rcases List.mem_cons.mp m with m | m
        · rw [m]; simp
        · exact ih (d :: r) (by simp; lia) t m
theorem openT_len : ∀ (ts : List (List Nat)) (w : Bool), (∀ t ∈ ts, t ≠ []) → (openT w ts).length ≤ ts.flatten.length
  | [], _, _ => Nat.le_refl _
  | t :: ts, w, h => by
    have ht : 1 ≤ t.length := List.length_pos_iff.mpr (h t (List.mem_cons_self ..))
    rw [openT_cons, List.flatten_cons, List.length_append]
    split
    · have := openT_len ts (!w) fun t m => h t (List.mem_cons_of_mem _ m)
      lia
    · have := openT_len ts w fun t m => h t (List.mem_cons_of_mem _ m)
      rw [List.length_append]
      split
      · rw [List.length_singleton]; lia
      · lia
theorem opened_len (l : List Nat) : (opened l).length ≤ l.length := by
  have := openT_len (toks l) false (toks_ne l.length l (Nat.le_refl _))
  rw [toks_flatten] at this
  exact this
theorem lineT_len (hD : DOk D) (hp : POk pairs) : ∀ i, (lineT D who pairs i).flatten.length ≤ 25920
  | 0 => by rw [lineT_zero hD]; exact lineS_len hD hp
  | i + 1 => by rw [← opened_line hD hp i]; exact Nat.le_trans (opened_len _) (lineT_len hD hp i)
end
section
variable {D : List It} {who : Nat} {pairs : Pairs} {dec : List Nat → Option (List UInt8)}
theorem octT_cons (pc t : List Nat) (ts : Tk) : octT dec pc (t :: ts) = if t = [44] ∧ 7 < (pc ++ t).length then (dec (((pc ++ t).drop 6).take ((pc ++ t).length - 1 - 6))).bind fun y => (octT dec [] ts).map (y :: ·)
      else if t = [40] ∨ t = [41] ∨ t = [44] then octT dec [] ts else octT dec (pc ++ t) ts := rfl
theorem octT_skip : ∀ (ts : Tk) (pc : List Nat) (us : Tk), [40] ∉ ts → [41] ∉ ts → [44] ∉ ts → octT dec pc (ts ++ us) = octT dec (pc ++ ts.flatten) us
  | [], pc, us, _, _, _ => by simp
  | t :: ts, pc, us, h0, h1, h4 => by
    have n0 : t ≠ [40] := fun e => h0 (e ▸ List.mem_cons_self ..)
    have n1 : t ≠ [41] := fun e => h1 (e ▸ List.mem_cons_self ..)
    have n4 : t ≠ [44] := fun e => h4 (e ▸ List.mem_cons_self ..)
    rw [List.cons_append, octT_cons, if_neg (fun h => n4 h.1), if_neg (fun h => by rcases h with h | h | h <;> contradiction), octT_skip ts (pc ++ t) us (fun m => h0 (List.mem_cons_of_mem _ m)) (fun m => h1 (List.mem_cons_of_mem _ m)) (fun m => h4 (List.mem_cons_of_mem _ m)), List.flatten_cons, List.append_assoc]
theorem octT_comma (pc : List Nat) (us : Tk) (h : pc.length ≤ 6) : octT dec pc ([[44]] ++ us) = octT dec [] us := by
  show octT dec pc ([44] :: us) = _
  rw [octT_cons, if_neg (fun q => by have := q.2; simp at this; lia), if_pos (.inr (.inr rfl))]
noncomputable def OC (dec : List Nat → Option (List UInt8)) (B : Tk) (S : List (List UInt8)) : Prop := ∀ us, octT dec [] (B ++ us) = (octT dec [] us).map (S ++ ·)
theorem headT_len (x : It) (who : Nat) : (headT x who).flatten.length = 6 := by rw [headT_flat]; rfl
theorem fourL_four {l : List Nat} (h : l.length ≤ 3) (hne : l ≠ []) : (fourL l).length = 4 := by
  have := List.length_pos_iff.mpr hne
  unfold fourL
  rw [if_neg hne]; simp; lia
noncomputable def ownS (cl : List Nat) (lv k : Nat) (x : It) : List (List UInt8) := if cl.getD k 0 ≤ lv ∧ x.st ≠ [] then [x.st.map (·.toUInt8)] else []
noncomputable def seenC (cl : List Nat) (lv k : Nat) (x : It) (h h' : List (List UInt8)) : List (List UInt8) := (if cl.getD k 0 ≤ lv then ownS cl lv k x ++ h else []) ++ h'
noncomputable def seenB (cl : List Nat) (lv k : Nat) (x : It) (h h' : List (List UInt8)) : List (List UInt8) := ownS cl lv k x ++ h ++ h'
theorem slot_kind (hD : DOk D) {k : Nat} {x y : It} (hx : D[k]? = some x) (hk : k < 4) (hy : D[x.slot]? = some y) : y.kind = 4 := by
  have ok := hD.ok k x hx
  rcases ok.ab with h | h
  · rw [(slot_of x).1 h] at hy
    have := (List.getElem?_eq_some_iff.mp hy).1
    rw [hD.len] at this; lia
  · have e : x.ab = ((x.ab.toNat : Nat) : Int) := by lia
    rw [(slot_of x).2 _ e] at hy
    exact hD.par k _ x y hx e hy
theorem oct_rel (hD : DOk D) (hdec : ∀ st : List Nat, st.length ≤ 3 → (∀ n ∈ st, n < 256) → dec (fourL st) = some (st.map (·.toUInt8))) (cl : List Nat) (lv : Nat) : OC dec (leftT D who plain cl lv) (build D (seenC cl lv) []) := by
  refine (build_rel hD (fun s (B : Tk) S => OC dec B S ∧ ∀ y, D[s]? = some y → y.kind ≠ 4 → S = []) (fun s => ⟨fun us => by simp, fun Z Z Z => rfl⟩) fun k x a a' b b' hx hk h1 h2 => ⟨fun us => ?_, fun y hy hne => absurd (slot_kind hD hx hk hy) hne⟩).1
  have ok := hD.ok k x hx
  have hpl : plain.getD k ([], []) = ([40], [41]) := by
    rcases k with _ | _ | _ | _ | k
    · rfl
    · rfl
    · rfl
    · rfl
    · lia
  show octT dec [] (headT x who ++ (if cl.getD k 0 ≤ lv then contT plain k x a else []) ++ [[44]] ++ a' ++ us) = (octT dec [] us).map ((if cl.getD k 0 ≤ lv then ownS cl lv k x ++ b else []) ++ b' ++ ·)
  rw [List.append_assoc, List.append_assoc, List.append_assoc, octT_skip _ _ _ (headT_no x who (by decide)) (headT_no x who (by decide)) (headT_no x who (by decide)), List.nil_append]
  have hl := headT_len x who
  have hend : octT dec [] (a' ++ us) = (octT dec [] us).map (b' ++ ·) := h2.1 us
  by_cases hv : cl.getD k 0 ≤ lv
  · rw [if_pos hv, if_pos hv]
    by_cases h4 : x.kind = 4
    · have hown : ownS cl lv k x = [] := by unfold ownS; rw [if_neg]; intro q; exact q.2 (ok.fold h4)
      unfold contT
      rw [if_pos h4, hpl, hown]
      show octT dec _ ([40] :: (a ++ [[41]]) ++ ([[44]] ++ (a' ++ us))) = _
      rw [List.cons_append, octT_cons, if_neg (fun q => by have := q.1; revert this; decide), if_pos (.inl rfl), List.append_assoc, h1.1]
      show ((octT dec [] ([41] :: ([[44]] ++ (a' ++ us)))).map _) = _
      rw [octT_cons, if_neg (fun q => by have := q.1; revert this; decide), if_pos (.inr (.inl rfl)), octT_comma _ _ (by simp), hend, Option.map_map]
      congr 1
      funext z
      simp
    · have hb : b = [] := h1.2 x hx h4
      unfold contT
      rw [if_neg h4, hb, octT_skip _ _ _ (one1_no (fourL_not _ (by decide))) (one1_no (fourL_not _ (by decide))) (one1_no (fourL_not _ (by decide))), one1_flat]
      by_cases hst : x.st = []
      · have hown : ownS cl lv k x = [] := by unfold ownS; rw [if_neg]; intro q; exact q.2 hst
        have hf : fourL x.st = [] := by rw [hst]; rfl
        rw [hf, List.append_nil, octT_comma _ _ (by lia), hend, hown]; rfl
      · have hown : ownS cl lv k x = [x.st.map (·.toUInt8)] := by unfold ownS; rw [if_pos ⟨hv, hst⟩]
        have hf := fourL_four ok.st hst
        show octT dec _ ([44] :: (a' ++ us)) = _
        rw [octT_cons, if_pos ⟨rfl, by rw [List.length_append, List.length_append, hl, hf]; decide⟩]
        have hp : (((headT x who).flatten ++ fourL x.st ++ [44]).drop 6).take (((headT x who).flatten ++ fourL x.st ++ [44]).length - 1 - 6) = fourL x.st := by
          rw [List.length_append, List.length_append, hl, hf, List.append_assoc, List.drop_left' hl, List.take_left' (by rw [hf]; rfl)]
        rw [hp, hdec _ ok.st ok.oct, Option.bind_some, hend, hown, Option.map_map]
        congr 1
  · rw [if_neg hv, if_neg hv, List.nil_append, octT_comma _ _ (by lia), hend]
    rfl
theorem seen_rel (hD : DOk D) (lv : Nat) : build D (seenC (closedL D who) lv) [] = build D (seenB (closedL D who) lv) [] := by
  have h := build_rel (a0 := ([] : List (List UInt8))) (b0 := ([] : List (List UInt8))) (c := seenC (closedL D who) lv) (c' := seenB (closedL D who) lv) hD (fun s S S' => ((closedL D who).getD s 0 ≤ lv → S = S') ∧ (¬ (closedL D who).getD s 0 ≤ lv → S' = [])) (fun s => ⟨fun Z => rfl, fun Z => rfl⟩) fun k x a a' b b' hx hk h1 h2 => by
    have hc := closed_at hD who hx hk
    unfold seenC seenB
    have ho : ¬ (closedL D who).getD k 0 ≤ lv → ownS (closedL D who) lv k x = [] := fun h => by unfold ownS; rw [if_neg fun q => h q.1]
    generalize (closedL D who).getD k 0 = ck at *
    generalize (closedL D who).getD x.slot 0 = cs at *
    constructor
    · intro hs
      rw [h2.1 hs]
      by_cases hk' : ck ≤ lv
      · rw [if_pos hk', h1.1 hk']
      · rw [if_neg hk', ho hk', h1.2 hk']; rfl
    · intro hs
      have hk' : ¬ ck ≤ lv := by lia
      rw [ho hk', h1.2 hk', h2.2 hs]; rfl
  rw [closed_top hD who] at h
  exact h.1 (Nat.zero_le _)
theorem slots_of (hD : DOk D) : D.map It.slot ∈ shapes.map fun s => s.map fun a => if a < 0 then 4 else a.toNat := by
  refine List.mem_map.mpr ⟨D.map It.ab, hD.shp, ?_⟩
  rw [List.map_map]; rfl
theorem slots_lit : (shapes.map fun s => s.map fun a => if a < 0 then 4 else a.toNat) = [[4, 4, 4, 4], [4, 4, 4, 2], [4, 4, 1, 4], [4, 4, 1, 1], [4, 4, 1, 2], [4, 0, 4, 4], [4, 0, 4, 2], [4, 0, 0, 4], [4, 0, 0, 0], [4, 0, 0, 2], [4, 0, 1, 4], [4, 0, 1, 0], [4, 0, 1, 1], [4, 0, 1, 2]] := by decide
noncomputable def bord (sl : List Nat) : List Nat := ([3, 2, 1, 0].foldl (fun H k => H.set (sl.getD k 0) (k :: (H.getD k [] ++ H.getD (sl.getD k 0) []))) (List.replicate 5 [])).getD 4 []
theorem bord_all : ∀ sl ∈ [[4, 4, 4, 4], [4, 4, 4, 2], [4, 4, 1, 4], [4, 4, 1, 1], [4, 4, 1, 2], [4, 0, 4, 4], [4, 0, 4, 2], [4, 0, 0, 4], [4, 0, 0, 0], [4, 0, 0, 2], [4, 0, 1, 4], [4, 0, 1, 0], [4, 0, 1, 1], [4, 0, 1, 2]], bord sl = [0, 1, 2, 3] := by decide
theorem build_flat {β : Type} (hD : DOk D) (own : Nat → It → List β) (a b c d : It) (e : D = [a, b, c, d]) : build D (fun k x h h' => own k x ++ h ++ h') [] = own 0 a ++ own 1 b ++ own 2 c ++ own 3 d := by
  have hs := slots_of hD
  rw [slots_lit] at hs
  have hr := build_rel hD (c := fun k x h h' => own k x ++ h ++ h') (c' := fun k Z h h' => k :: (h ++ h')) (a0 := []) (b0 := []) (fun Z A N => A = N.flatMap fun k => match D[k]? with
    | some x => own k x
    | none => []) (fun Z => rfl) fun k x p p' q q' hx Z h1 h2 => by rw [List.flatMap_cons, List.flatMap_append, ← h1, ← h2, hx, List.append_assoc]
  rw [hr]
  subst e
  have hb : build [a, b, c, d] (fun k Z h h' => k :: (h ++ h')) [] = bord [a.slot, b.slot, c.slot, d.slot] := rfl
  rw [hb, bord_all [a.slot, b.slot, c.slot, d.slot] hs]
  show own 0 a ++ (own 1 b ++ (own 2 c ++ (own 3 d ++ []))) = _
  rw [List.append_nil, List.append_assoc, List.append_assoc]
noncomputable def seenK (D : List It) (cl : List Nat) (lv k : Nat) : List (List UInt8) := match D[k]? with
  | some x => ownS cl lv k x
  | none => []
noncomputable def seenL (D : List It) (cl : List Nat) (lv : Nat) : List (List UInt8) := [0, 1, 2, 3].flatMap (seenK D cl lv)
theorem octets_left (hD : DOk D) (hdec : ∀ st : List Nat, st.length ≤ 3 → (∀ n ∈ st, n < 256) → dec (fourL st) = some (st.map (·.toUInt8))) (lv : Nat) : octT dec [] (toks (leftS D who (closedL D who) lv)) = some (seenL D (closedL D who) lv) := by
  rw [← leftT_flat hD, toks_of_whole (leftT_whole hD plain_ok _ _)]
  have h := oct_rel (who := who) hD hdec (closedL D who) lv []
  rw [List.append_nil, seen_rel hD] at h
  rw [h]
  obtain ⟨a, b, c, d, e⟩ := hD.four
  have hb := build_flat hD (ownS (closedL D who) lv) a b c d e
  have hb' : build D (seenB (closedL D who) lv) [] = _ := hb
  rw [hb']
  subst e
  simp [octT, seenL, seenK]
end
section
variable {D : List It} {who : Nat} {pairs : Pairs}
noncomputable def mulE (a b : Int × Int) : Int × Int := (min a.1 (a.2 + b.1), a.2 + b.2)
noncomputable def tokE (t : List Nat) : Int × Int := if t = [40] then (0, 1) else if t = [41] then (-1, -1) else (0, 0)
noncomputable def eff : Tk → Int × Int
  | [] => (0, 0)
  | t :: ts => mulE (tokE t) (eff ts)
theorem add_min_eq (a x y : Int) : min (a + x) (a + y) = a + min x y := by lia
theorem mulE_assoc (a b c : Int × Int) : mulE (mulE a b) c = mulE a (mulE b c) := by
  unfold mulE
  refine Prod.ext ?_ ?_
  · show min (min a.1 (a.2 + b.1)) (a.2 + b.2 + c.1) = min a.1 (a.2 + min b.1 (b.2 + c.1)); rw [Int.min_assoc, Int.add_assoc, add_min_eq]
  · show a.2 + b.2 + c.2 = a.2 + (b.2 + c.2); lia
theorem eff_le : ∀ ts : Tk, (eff ts).1 ≤ 0
  | [] => Int.le_refl _
  | t :: ts => by
    have := eff_le ts
    show min (tokE t).1 _ ≤ 0
    have : (tokE t).1 ≤ 0 := by unfold tokE; split <;> (try split) <;> decide
    lia
theorem mulE_zero {x : Int × Int} (h : x.1 ≤ 0) : mulE (0, 0) x = x := by
  unfold mulE
  refine Prod.ext ?_ ?_
  · show min 0 (0 + x.1) = x.1; lia
  · show 0 + x.2 = x.2; lia
theorem eff_app : ∀ a b : Tk, eff (a ++ b) = mulE (eff a) (eff b)
  | [], b => (mulE_zero (eff_le b)).symm
  | t :: a, b => by
    show mulE (tokE t) (eff (a ++ b)) = mulE (mulE (tokE t) (eff a)) (eff b)
    rw [eff_app a b, mulE_assoc]
theorem eff_zero : ∀ ts : Tk, [40] ∉ ts → [41] ∉ ts → eff ts = (0, 0)
  | [], _, _ => rfl
  | t :: ts, h0, h1 => by
    have n0 : t ≠ [40] := fun e => h0 (e ▸ List.mem_cons_self ..)
    have n1 : t ≠ [41] := fun e => h1 (e ▸ List.mem_cons_self ..)
    show mulE (tokE t) (eff ts) = _
    rw [eff_zero ts (fun m => h0 (List.mem_cons_of_mem _ m)) (fun m => h1 (List.mem_cons_of_mem _ m))]
    unfold tokE
    rw [if_neg n0, if_neg n1]; rfl
noncomputable def okE (e : Int × Int) (n : Int) : Bool := decide (0 ≤ n + e.1 ∧ n + e.2 = 0)
theorem chk_eff : ∀ (ts : Tk) (n : Nat), chkT n ts = okE (eff ts) (n : Int)
  | [], n => by
    unfold okE
    show (n == 0) = decide (0 ≤ (n : Int) + 0 ∧ (n : Int) + 0 = 0)
    rw [Bool.eq_iff_iff, beq_iff_eq, decide_eq_true_iff]; lia
  | t :: ts, n => by
    have hle := eff_le ts
    have ih := chk_eff ts
    rw [chkT.eq_def]
    simp only
    by_cases h0 : t = [40]
    · rw [if_pos h0, ih]
      have e : eff (t :: ts) = mulE (0, 1) (eff ts) := by show mulE (tokE t) _ = _; unfold tokE; rw [if_pos h0]
      rw [e]
      unfold okE mulE
      rw [Bool.eq_iff_iff, decide_eq_true_iff, decide_eq_true_iff]
      show (0 ≤ ((n + 1 : Nat) : Int) + (eff ts).1 ∧ ((n + 1 : Nat) : Int) + (eff ts).2 = 0) ↔ (0 ≤ (n : Int) + min 0 (1 + (eff ts).1) ∧ (n : Int) + (1 + (eff ts).2) = 0)
      lia
    · rw [if_neg h0]
      by_cases h1 : t = [41]
      · rw [if_pos h1]
        have e : eff (t :: ts) = mulE (-1, -1) (eff ts) := by show mulE (tokE t) _ = _; unfold tokE; rw [if_neg h0, if_pos h1]
        rw [e]
        cases n with
        | zero =>
          show false = okE _ _
          unfold okE mulE
          symm
          rw [decide_eq_false_iff_not]
          show ¬ (0 ≤ ((0 : Nat) : Int) + min (-1) (-1 + (eff ts).1) ∧ _)
          lia
        | succ m =>
          show chkT m ts = _
          rw [ih]
          unfold okE mulE
          rw [Bool.eq_iff_iff, decide_eq_true_iff, decide_eq_true_iff]
          show (0 ≤ (m : Int) + (eff ts).1 ∧ (m : Int) + (eff ts).2 = 0) ↔ (0 ≤ ((m + 1 : Nat) : Int) + min (-1) (-1 + (eff ts).1) ∧ ((m + 1 : Nat) : Int) + (-1 + (eff ts).2) = 0)
          lia
      · rw [if_neg h1, ih]
        have e : eff (t :: ts) = eff ts := by show mulE (tokE t) _ = _; unfold tokE; rw [if_neg h0, if_neg h1, mulE_zero hle]
        rw [e]
/-- kinds of pairs, by number -/
noncomputable def prE (p : List Nat × List Nat) : (Int × Int) × (Int × Int) := (eff (one1 p.1), eff (one1 p.2))
noncomputable def effC (vis : Nat → Bool) (pe : Nat → (Int × Int) × (Int × Int)) (k : Nat) (x : It) (e e' : Int × Int) : Int × Int :=
  mulE (if vis k = true then mulE (pe k).1 (mulE e (pe k).2) else (0, 0)) e'
theorem eff_rel (hD : DOk D) (cl : List Nat) (hpl : ∀ (k : Nat) (x : It), D[k]? = some x → k < 4 → x.kind ≠ 4 → pairs.getD k ([], []) = ([40], [41])) :
    eff (leftT D who pairs cl 0) = build D (effC (fun k => decide (cl.getD k 0 ≤ 0)) fun k => prE (pairs.getD k ([], []))) (0, 0) := by
  refine (build_rel hD (fun s (B : Tk) e => eff B = e ∧ ∀ y, D[s]? = some y → y.kind ≠ 4 → e = (0, 0)) (fun Z => ⟨rfl, fun Z Z Z => rfl⟩) fun k x a a' b b' hx hk h1 h2 => ⟨?_, fun y hy hne => absurd (slot_kind hD hx hk hy) hne⟩).1
  have hle := eff_le a'
  show eff (headT x who ++ (if cl.getD k 0 ≤ 0 then contT pairs k x a else []) ++ [[44]] ++ a') = _
  rw [List.append_assoc, List.append_assoc, eff_app, eff_zero (headT x who) (headT_no x who (by decide)) (headT_no x who (by decide)), mulE_zero (eff_le _), eff_app, eff_app]
  have hcm : eff [[44]] = (0, 0) := by decide
  rw [hcm, mulE_zero hle, h2.1]
  unfold effC
  by_cases hv : cl.getD k 0 ≤ 0
  · rw [if_pos hv, if_pos (by simpa using hv)]
    congr 1
    by_cases h4 : x.kind = 4
    · unfold contT prE
      rw [if_pos h4, List.append_assoc, eff_app, eff_app, h1.1]
    · have hb := h1.2 x hx h4
      unfold contT prE
      rw [if_neg h4, eff_zero _ (one1_no (fourL_not _ (by decide))) (one1_no (fourL_not _ (by decide))), hb]
      simp only [hpl k x hx hk h4]
      decide
  · rw [if_neg hv, if_neg (by simpa using hv)]
    rfl
/-- the same on numbers -/
noncomputable def ebuild (sl : List Nat) (vs : List Bool) (pe : List ((Int × Int) × (Int × Int))) : Int × Int :=
  ([3, 2, 1, 0].foldl (fun (H : List (Int × Int)) k => H.set (sl.getD k 0) (mulE (if vs.getD k false = true then mulE (pe.getD k ((0, 0), (0, 0))).1 (mulE (H.getD k (0, 0)) (pe.getD k ((0, 0), (0, 0))).2) else (0, 0)) (H.getD (sl.getD k 0) (0, 0)))) (List.replicate 5 (0, 0))).getD 4 (0, 0)
noncomputable def visOf (sl : List Nat) (sh : List Bool) : List Bool := [0, 1, 2, 3].foldl (fun (v : List Bool) k => v ++ [(if sl.getD k 0 = 4 then true else v.getD (sl.getD k 0) false) && !(sh.getD k false)]) []
noncomputable def slotsS : List (List Nat) := shapes.map fun s => s.map fun a => if a < 0 then 4 else a.toNat
noncomputable def bools4 : List (List Bool) := [false, true].flatMap fun a => [false, true].flatMap fun b => [false, true].flatMap fun c => [false, true].map fun d => [a, b, c, d]
noncomputable def pNo : Nat → (Int × Int) × (Int × Int)
  | 0 => ((0, 1), (-1, -1))
  | 1 => ((0, 1), (0, 0))
  | _ => ((-1, -1), (0, 1))
noncomputable def setP (kk ty : Nat) : List ((Int × Int) × (Int × Int)) := (List.replicate 4 (pNo 0)).set kk (pNo ty)
theorem br_all : ((slotsS.all fun sl => bools4.all fun sh => okE (ebuild sl (visOf sl sh) (List.replicate 4 (pNo 0))) 0 && [0, 1, 2, 3].all fun kk => [1, 2].all fun ty =>
    okE (ebuild sl (visOf sl sh) (setP kk ty)) 0 == (!((visOf sl sh).getD kk false) || (ty == 2 && !(sl.getD kk 0 == 4)))) = true) := by decide +kernel
theorem bool4_mem (a b c d : Bool) : [a, b, c, d] ∈ bools4 := by cases a <;> cases b <;> cases c <;> cases d <;> decide
theorem dk (c : Nat) (x : It) (who : Nat) : decide (c + sh1 x who ≤ 0) = (decide (c ≤ 0) && !x.shut who) := by
  unfold sh1
  cases x.shut who <;> simp
theorem slot_all : ∀ sl ∈ [[4, 4, 4, 4], [4, 4, 4, 2], [4, 4, 1, 4], [4, 4, 1, 1], [4, 4, 1, 2], [4, 0, 4, 4], [4, 0, 4, 2], [4, 0, 0, 4], [4, 0, 0, 0], [4, 0, 0, 2], [4, 0, 1, 4], [4, 0, 1, 0], [4, 0, 1, 1], [4, 0, 1, 2]],
    sl.getD 0 0 = 4 ∧ (sl.getD 1 0 = 4 ∨ sl.getD 1 0 = 0) ∧ (sl.getD 2 0 = 4 ∨ sl.getD 2 0 = 0 ∨ sl.getD 2 0 = 1) ∧ (sl.getD 3 0 = 4 ∨ sl.getD 3 0 = 0 ∨ sl.getD 3 0 = 1 ∨ sl.getD 3 0 = 2) := by decide
theorem slot_cases {a b c d : Nat} (h : [a, b, c, d] ∈ [[4, 4, 4, 4], [4, 4, 4, 2], [4, 4, 1, 4], [4, 4, 1, 1], [4, 4, 1, 2], [4, 0, 4, 4], [4, 0, 4, 2], [4, 0, 0, 4], [4, 0, 0, 0], [4, 0, 0, 2], [4, 0, 1, 4], [4, 0, 1, 0], [4, 0, 1, 1], [4, 0, 1, 2]]) :
    a = 4 ∧ (b = 4 ∨ b = 0) ∧ (c = 4 ∨ c = 0 ∨ c = 1) ∧ (d = 4 ∨ d = 0 ∨ d = 1 ∨ d = 2) := slot_all _ h
theorem vis_bool {sa sb sc sd : Nat} {ua ub uc ud : Bool} (f : Nat → Bool) (f4 : f 4 = true) (f0 : f 0 = (f sa && !ua)) (f1 : f 1 = (f sb && !ub)) (f2 : f 2 = (f sc && !uc)) (h1 : sa = 4) (h2 : sb = 4 ∨ sb = 0) (h3 : sc = 4 ∨ sc = 0 ∨ sc = 1) (h4 : sd = 4 ∨ sd = 0 ∨ sd = 1 ∨ sd = 2) :
    visOf [sa, sb, sc, sd] [ua, ub, uc, ud] = [f sa && !ua, f sb && !ub, f sc && !uc, f sd && !ud] := by
  have g (v : List Bool) (s : Nat) (hs : s = 4 ∨ (s < v.length ∧ v.getD s false = f s)) : (if s = 4 then true else v.getD s false) = f s := by
    by_cases e : s = 4
    · rw [if_pos e, e, f4]
    · rw [if_neg e]; exact (hs.resolve_left e).2
  have k : ∀ w0 w1 w2 w3 : Bool, ((if sa = 4 then true else ([] : List Bool).getD sa false) && !ua) = w0 → ((if sb = 4 then true else [w0].getD sb false) && !ub) = w1 → ((if sc = 4 then true else [w0, w1].getD sc false) && !uc) = w2 →
      ((if sd = 4 then true else [w0, w1, w2].getD sd false) && !ud) = w3 → visOf [sa, sb, sc, sd] [ua, ub, uc, ud] = [w0, w1, w2, w3] := by rintro Z Z Z Z rfl rfl rfl rfl; rfl
  rw [← f0, ← f1, ← f2]
  refine k _ _ _ _ ?_ ?_ ?_ ?_
  · rw [g [] sa (.inl h1), ← f0]
  · rw [g [f 0] sb (h2.imp id fun h => by subst h; exact ⟨Nat.zero_lt_one, rfl⟩), ← f1]
  · rw [g [f 0, f 1] sc (h3.imp id fun h => by rcases h with h | h <;> subst h <;> exact ⟨by simp, rfl⟩), ← f2]
  · rw [g [f 0, f 1, f 2] sd (h4.imp id fun h => by rcases h with h | h | h <;> subst h <;> exact ⟨by simp, rfl⟩)]
theorem vis_eq (hD : DOk D) {a b c d : It} (e : D = [a, b, c, d]) : visOf [a.slot, b.slot, c.slot, d.slot] [a.shut who, b.shut who, c.shut who, d.shut who] =
    [decide ((closedL D who).getD 0 0 ≤ 0), decide ((closedL D who).getD 1 0 ≤ 0), decide ((closedL D who).getD 2 0 ≤ 0), decide ((closedL D who).getD 3 0 ≤ 0)] := by
  have hs := slots_of hD
  have h0 := closed_at hD who (k := 0) (x := a) (by rw [e]; rfl) (by decide)
  have h1 := closed_at hD who (k := 1) (x := b) (by rw [e]; rfl) (by decide)
  have h2 := closed_at hD who (k := 2) (x := c) (by rw [e]; rfl) (by decide)
  have h3 := closed_at hD who (k := 3) (x := d) (by rw [e]; rfl) (by decide)
  have h4 := closed_top hD who
  have v0 : decide ((closedL D who).getD 0 0 ≤ 0) = (decide ((closedL D who).getD a.slot 0 ≤ 0) && !a.shut who) := by rw [h0, dk]
  have v1 : decide ((closedL D who).getD 1 0 ≤ 0) = (decide ((closedL D who).getD b.slot 0 ≤ 0) && !b.shut who) := by rw [h1, dk]
  have v2 : decide ((closedL D who).getD 2 0 ≤ 0) = (decide ((closedL D who).getD c.slot 0 ≤ 0) && !c.shut who) := by rw [h2, dk]
  have v3 : decide ((closedL D who).getD 3 0 ≤ 0) = (decide ((closedL D who).getD d.slot 0 ≤ 0) && !d.shut who) := by rw [h3, dk]
  have v4 : decide ((closedL D who).getD 4 0 ≤ 0) = true := by rw [h4]; rfl
  clear h0 h1 h2 h3 h4
  rw [e, slots_lit] at hs
  clear e hD
  generalize closedL D who = cl at *
  have hs : [a.slot, b.slot, c.slot, d.slot] ∈ [[4, 4, 4, 4], [4, 4, 4, 2], [4, 4, 1, 4], [4, 4, 1, 1], [4, 4, 1, 2], [4, 0, 4, 4], [4, 0, 4, 2], [4, 0, 0, 4], [4, 0, 0, 0], [4, 0, 0, 2], [4, 0, 1, 4], [4, 0, 1, 0], [4, 0, 1, 1], [4, 0, 1, 2]] := hs
  rw [v3, v2, v1, v0]
  generalize a.slot = sa at *
  generalize b.slot = sb at *
  generalize c.slot = sc at *
  generalize d.slot = sd at *
  generalize a.shut who = ua at *
  generalize b.shut who = ub at *
  generalize c.shut who = uc at *
  generalize d.shut who = ud at *
  obtain ⟨h1, h2, h3, h4⟩ := slot_cases hs
  exact vis_bool (fun s => decide (cl.getD s 0 ≤ 0)) v4 v0 v1 v2 h1 h2 h3 h4
theorem strip_lineS (hD : DOk D) (hp : POk pairs) : strip (lineS D who pairs) = (leftT D who pairs (closedL D who) 0).flatten := by
  rw [← lineT_zero hD]
  exact strip_line hD hp 0
theorem check_lineS (hD : DOk D) (hp : POk pairs) (hpl : ∀ (k : Nat) (x : It), D[k]? = some x → k < 4 → x.kind ≠ 4 → pairs.getD k ([], []) = ([40], [41])) {a b c d : It} (e : D = [a, b, c, d]) :
    check (lineS D who pairs) = okE (ebuild [a.slot, b.slot, c.slot, d.slot] (visOf [a.slot, b.slot, c.slot, d.slot] [a.shut who, b.shut who, c.shut who, d.shut who]) [prE (pairs.getD 0 ([], [])), prE (pairs.getD 1 ([], [])), prE (pairs.getD 2 ([], [])), prE (pairs.getD 3 ([], []))]) 0 := by
  unfold check
  rw [strip_lineS hD hp, toks_of_whole (leftT_whole hD hp _ _), chk_eff, eff_rel hD _ hpl, vis_eq hD e]
  generalize closedL D who = cl
  subst e
  rfl
theorem br_at {sl : List Nat} {sh : List Bool} (h1 : sl ∈ slotsS) (h2 : sh ∈ bools4) : okE (ebuild sl (visOf sl sh) (List.replicate 4 (pNo 0))) 0 = true ∧ ∀ kk, kk < 4 → ∀ ty, ty = 1 ∨ ty = 2 → okE (ebuild sl (visOf sl sh) (setP kk ty)) 0 = (!((visOf sl sh).getD kk false) || (ty == 2 && !(sl.getD kk 0 == 4))) := by
  have h := List.all_eq_true.mp (List.all_eq_true.mp br_all sl h1) sh h2
  rw [Bool.and_eq_true] at h
  refine ⟨h.1, fun kk hk ty hty => ?_⟩
  have hkk : kk ∈ [0, 1, 2, 3] := by
    rcases kk with _ | _ | _ | _ | kk
    · simp
    · simp
    · simp
    · simp
    · lia
  have := List.all_eq_true.mp (List.all_eq_true.mp h.2 kk hkk) ty (by rcases hty with rfl | rfl <;> simp)
  exact beq_iff_eq.mp this
theorem slots_mem (hD : DOk D) {a b c d : It} (e : D = [a, b, c, d]) : [a.slot, b.slot, c.slot, d.slot] ∈ slotsS := by
  have := slots_of hD
  rw [e] at this
  exact this
theorem check_plain (hD : DOk D) : check (lineS D who plain) = true := by
  obtain ⟨a, b, c, d, e⟩ := hD.four
  have hpl : ∀ k, k < 4 → plain.getD k ([], []) = ([40], [41]) := by decide
  rw [check_lineS hD plain_ok (fun k x Z hk Z => hpl k hk) e]
  exact (br_at (slots_mem hD e) (bool4_mem _ _ _ _)).1
theorem set_ok {kk : Nat} (ty : Nat) (hty : ty = 1 ∨ ty = 2) (p : List Nat × List Nat) (hp : p = if ty = 1 then ([40], []) else ([41], [40])) : POk (plain.set kk p) := by
  refine ⟨by rw [List.length_set]; rfl, fun q hq => ?_⟩
  rcases List.mem_or_eq_of_mem_set hq with h | h
  · exact .inl (List.eq_of_mem_replicate h)
  · right
    rw [h, hp]
    rcases hty with rfl | rfl
    · exact .inl rfl
    · exact .inr rfl
theorem check_odd (hD : DOk D) {kk : Nat} {x : It} (hx : D[kk]? = some x) (hk : kk < 4) (h4 : x.kind = 4) (ty : Nat) (hty : ty = 1 ∨ ty = 2) (p : List Nat × List Nat) (hp : p = if ty = 1 then ([40], []) else ([41], [40])) :
    check (lineS D who (plain.set kk p)) = (!(decide ((closedL D who).getD kk 0 ≤ 0)) || (ty == 2 && !(x.slot == 4))) := by
  obtain ⟨a, b, c, d, e⟩ := hD.four
  have hpl : ∀ (k : Nat) (y : It), D[k]? = some y → k < 4 → y.kind ≠ 4 → (plain.set kk p).getD k ([], []) = ([40], [41]) := by
    intro k y hy hk' hne
    rw [getD_set (by show kk < 4; exact hk)]
    have hkk : k ≠ kk := fun q => by subst q; rw [hx] at hy; cases hy; exact hne h4
    rw [if_neg hkk]
    have : ∀ k, k < 4 → plain.getD k ([], []) = ([40], [41]) := by decide
    exact this k hk'
  rw [check_lineS hD (set_ok ty hty p hp) hpl e]
  have hb := (br_at (slots_mem hD e) (bool4_mem (a.shut who) (b.shut who) (c.shut who) (d.shut who))).2 kk hk ty hty
  have hpe : [prE ((plain.set kk p).getD 0 ([], [])), prE ((plain.set kk p).getD 1 ([], [])), prE ((plain.set kk p).getD 2 ([], [])), prE ((plain.set kk p).getD 3 ([], []))] = setP kk ty := by
    rw [hp]
    have : ∀ kk, kk < 4 → ∀ ty ∈ [1, 2], [prE ((plain.set kk (if ty = 1 then ([40], []) else ([41], [40]))).getD 0 ([], [])), prE ((plain.set kk (if ty = 1 then ([40], []) else ([41], [40]))).getD 1 ([], [])), prE ((plain.set kk (if ty = 1 then ([40], []) else ([41], [40]))).getD 2 ([], [])), prE ((plain.set kk (if ty = 1 then ([40], []) else ([41], [40]))).getD 3 ([], []))] = setP kk ty := by decide +kernel
    exact this kk hk ty (by rcases hty with rfl | rfl <;> simp)
  rw [hpe, hb, vis_eq hD e]
  subst e
  rcases kk with _ | _ | _ | _ | kk
  · cases hx; rfl
  · cases hx; rfl
  · cases hx; rfl
  · cases hx; rfl
  · lia
end
section
variable {D : List It} {who : Nat}
noncomputable def lineAt (D : List It) (who j : Nat) : List Nat := (lineT D who plain j).flatten
noncomputable def leftAt (D : List It) (who j : Nat) : List Nat := leftS D who (closedL D who) j
theorem lineAt_zero (hD : DOk D) : lineAt D who 0 = lineS D who plain := lineT_zero hD
theorem lineAt_succ (hD : DOk D) (j : Nat) : opened (lineAt D who j) = lineAt D who (j + 1) := opened_line hD plain_ok j
theorem lineAt_len (hD : DOk D) (j : Nat) : (lineAt D who j).length ≤ 25920 := lineT_len hD plain_ok j
theorem lineAt_strip (hD : DOk D) (j : Nat) : strip (lineAt D who j) = leftAt D who j := by
  unfold lineAt leftAt
  rw [strip_line hD plain_ok, leftT_flat hD]
theorem leftAt_len (hD : DOk D) (j : Nat) : (leftAt D who j).length ≤ 25920 := by
  rw [← lineAt_strip hD]
  exact Nat.le_trans (strip_len _) (lineAt_len hD j)
theorem lineAt_last (hD : DOk D) (j : Nat) (hl : ∀ k, k < 4 → (closedL D who).getD k 0 ≤ j) : lineAt D who j = leftAt D who j := by
  unfold lineAt leftAt
  rw [all_open hD j hl, leftT_flat hD]
noncomputable def q5 : List Nat := [34, 92, 34, 41, 34]
theorem strip_hem (hD : DOk D) (j : Nat) : strip (q5 ++ lineAt D who j ++ (q5 ++ q5) ++ [34, 40]) = leftAt D who j ++ [34, 40] := by
  have hw := lineT_whole (who := who) hD plain_ok j
  have hr := strip_rel (who := who) hD plain_ok j
  rw [closed_top hD who] at hr
  have hs := hr (Nat.zero_le _)
  rw [Nat.sub_zero, leftT_flat hD] at hs
  have hQ : SB ([[34]] ++ [[92, 34], [41]] ++ [[34]]) [] := SB.quoted (by decide)
  have hQw : ∀ t ∈ ([[34]] ++ [[92, 34], [41]] ++ [[34]] : Tk), Whole t := by
    intro t ht
    simp at ht
    rcases ht with rfl | rfl | rfl | rfl
    · exact .inl ⟨34, by decide, rfl⟩
    · exact .inr ⟨34, rfl⟩
    · exact .inl ⟨41, by decide, rfl⟩
    · exact .inl ⟨34, by decide, rfl⟩
  have hE : SB ([[34]] ++ [[92, 34], [41]] ++ [[34]] ++ lineT D who plain j ++ (([[34]] ++ [[92, 34], [41]] ++ [[34]]) ++ ([[34]] ++ [[92, 34], [41]] ++ [[34]]))) ([] ++ leftAt D who j ++ ([] ++ [])) := (hQ.app hs).app (hQ.app hQ)
  have hall : ∀ t ∈ ([[34]] ++ [[92, 34], [41]] ++ [[34]] ++ lineT D who plain j ++ (([[34]] ++ [[92, 34], [41]] ++ [[34]]) ++ ([[34]] ++ [[92, 34], [41]] ++ [[34]])) ++ [[34], [40]] : Tk), Whole t := by
    intro t ht
    rcases List.mem_append.mp ht with ht | ht
    · rcases List.mem_append.mp ht with ht | ht
      · rcases List.mem_append.mp ht with ht | ht
        · exact hQw t ht
        · exact hw t ht
      · rcases List.mem_append.mp ht with ht | ht
        · exact hQw t ht
        · exact hQw t ht
    · simp at ht
      rcases ht with rfl | rfl
      · exact .inl ⟨34, by decide, rfl⟩
      · exact .inl ⟨40, by decide, rfl⟩
  have e : q5 ++ lineAt D who j ++ (q5 ++ q5) ++ [34, 40] = ([[34]] ++ [[92, 34], [41]] ++ [[34]] ++ lineT D who plain j ++ (([[34]] ++ [[92, 34], [41]] ++ [[34]]) ++ ([[34]] ++ [[92, 34], [41]] ++ [[34]])) ++ [[34], [40]] : Tk).flatten := by
    unfold lineAt q5
    simp
  rw [e]
  unfold strip
  rw [toks_of_whole hall, hE]
  show [] ++ leftAt D who j ++ ([] ++ []) ++ [34, 40] = _
  simp
theorem told_line (l : List Nat) : ((items 0 l).map fun x => x.2).flatten = l := toks_flatten l
end
theorem compP_gen {β : Type} {tp : Itm → List Sl → Option (List Sl)} {ft : List Sl → Option Bool} {fe : List PV → List Sl → Option (List PV × List Sl)} {enc : β → Itm} (out : β → List PV) (R : List Sl → Prop) :
    ∀ (bs : List β) (ps : List PV) (σ : List Sl), (∀ b ∈ bs, ∀ (ps : List PV) (σ : List Sl), R σ → ps.length + (out b).length ≤ LIM → ∃ σ₁, tp (enc b) σ = some σ₁ ∧ R σ₁ ∧ ((ft σ₁ = some false ∧ out b = []) ∨ (ft σ₁ = some true ∧ ∃ σ₂, fe ps σ₁ = some (ps ++ out b, σ₂) ∧ R σ₂))) →
      R σ → ps.length + (bs.flatMap out).length ≤ LIM → ∃ σ', compP tp ft fe (bs.map enc) ps σ = some (ps ++ bs.flatMap out, σ') ∧ R σ'
  | [], ps, σ, _, h0, _ => ⟨σ, by simp [compP], h0⟩
  | b :: bs, ps, σ, h, h0, hl => by
    rw [List.flatMap_cons, List.length_append] at hl
    obtain ⟨σ₁, e1, r1, e2⟩ := h b (List.mem_cons_self ..) ps σ h0 (by omega)
    rcases e2 with ⟨e2, e3⟩ | ⟨e2, σ₂, e3, r2⟩
    · obtain ⟨σ', e, r⟩ := compP_gen out R bs ps σ₁ (fun b hb => h b (List.mem_cons_of_mem _ hb)) r1 (by omega)
      refine ⟨σ', ?_, r⟩
      rw [List.map_cons, compP, e1, Option.bind_some, e2, Option.bind_some, if_neg (by decide), e, List.flatMap_cons, e3, List.nil_append]
    · obtain ⟨σ', e, r⟩ := compP_gen out R bs (ps ++ out b) σ₂ (fun b hb => h b (List.mem_cons_of_mem _ hb)) r2 (by rw [List.length_append]; omega)
      refine ⟨σ', ?_, r⟩
      rw [List.map_cons, compP, e1, Option.bind_some, e2, Option.bind_some, if_pos rfl, e3, Option.bind_some, e, List.flatMap_cons, List.append_assoc]
theorem compP_mem {β : Type} {tp : Itm → List Sl → Option (List Sl)} {ft : List Sl → Option Bool} {f : List Sl → Option PV} {enc : β → Itm} {bs : List β} {σ : List Sl} (out : β → PV) (R : List Sl → Prop)
    (h : ∀ b ∈ bs, ∀ σ, R σ → ∃ σ₁, tp (enc b) σ = some σ₁ ∧ ft σ₁ = some true ∧ f σ₁ = some (out b) ∧ R σ₁) (h0 : R σ) (hl : bs.length ≤ LIM) : ∃ σ', compP tp ft (emitP f) (bs.map enc) [] σ = some (bs.map out, σ') := by
  have hfm : bs.flatMap (fun b => [out b]) = bs.map out := by
    clear h hl
    induction bs with
    | nil => rfl
    | cons b bs ih => rw [List.flatMap_cons, ih]; rfl
  obtain ⟨σ', e, Z⟩ := compP_gen (tp := tp) (ft := ft) (fe := emitP f) (enc := enc) (fun b => [out b]) R bs [] σ (fun b hb ps σ hR hlen => by
    obtain ⟨σ₁, e1, e2, e3, e4⟩ := h b hb σ hR
    refine ⟨σ₁, e1, e4, .inr ⟨e2, σ₁, ?_, e4⟩⟩
    unfold emitP
    rw [if_pos (by simp at hlen; omega), e3]; rfl) h0 (by rw [hfm]; simpa using hl)
  rw [hfm, List.nil_append] at e
  exact ⟨σ', e⟩
theorem comp_memE {β : Type} {tp : Itm → List Sl → Option (List Sl)} {ft : List Sl → Option Bool} {f : List Sl → Option PV} {enc : β → Itm} {bs : List β} {σ : List Sl} (out : β → PV) (R : List Sl → Prop)
    (h : ∀ b ∈ bs, ∀ σ, R σ → ∃ σ₁, tp (enc b) σ = some σ₁ ∧ ft σ₁ = some true ∧ f σ₁ = some (out b) ∧ R σ₁) (h0 : R σ) (hl : bs.length ≤ LIM) :
    Option.map (fun r : List PV × List Sl => PV.lst r.1) (compP tp ft (emitP f) (bs.map enc) [] σ) = some (.lst (bs.map out)) := by
  obtain ⟨σ', e⟩ := compP_mem out R h h0 hl
  rw [e]; rfl
theorem comp_goal {γ : Type} {o : Option (List PV × List Sl)} {K : List PV × List Sl → Option γ} {outs : List PV} {res : Option γ} (h : ∃ σ', o = some (outs, σ')) (hk : ∀ σ', K (outs, σ') = res) : o.bind K = res := by
  obtain ⟨σ', e⟩ := h
  rw [e]; exact hk σ'
theorem zip_map {α : Type} (f g : α → PV) : ∀ l : List α, zipItems (l.map f) (l.map g) = l.map fun x => .two (f x) (g x)
  | [] => rfl
  | a :: l => by rw [List.map_cons, List.map_cons, zipItems, zip_map f g l]; rfl
theorem immEqs_refl_str : ∀ l : List (List Nat), immEqs (l.map .str) (l.map .str) = some true
  | [] => rfl
  | a :: l => by
    rw [List.map_cons, immEqs, immEqs_refl_str l]
    show (some (a == a)).bind _ = _
    rw [beq_self_eq_true]; rfl
theorem immEqs_refl_byt : ∀ l : List (List UInt8), immEqs (l.map .byt) (l.map .byt) = some true
  | [] => rfl
  | a :: l => by
    rw [List.map_cons, immEqs, immEqs_refl_byt l]
    show (some (a == a)).bind _ = _
    rw [beq_self_eq_true]; rfl
theorem ne_lst_str (l : List (List Nat)) : cmpP .NotEq (.lst (l.map .str)) (.lst (l.map .str)) = some false := by
  have e : eqP (.lst (l.map .str)) (.lst (l.map .str)) = if (l.map PV.str).length = (l.map PV.str).length then immEqs (l.map .str) (l.map .str) else some false := rfl
  show (eqP _ _).map _ = _
  rw [e, if_pos rfl, immEqs_refl_str]; rfl
theorem ne_lst_byt (l : List (List UInt8)) : cmpP .NotEq (.lst (l.map .byt)) (.lst (l.map .byt)) = some false := by
  have e : eqP (.lst (l.map .byt)) (.lst (l.map .byt)) = if (l.map PV.byt).length = (l.map PV.byt).length then immEqs (l.map .byt) (l.map .byt) else some false := rfl
  show (eqP _ _).map _ = _
  rw [e, if_pos rfl, immEqs_refl_byt]; rfl
theorem sliceL_nn {α : Type} (l : List α) (a b : Nat) : sliceL l (some (a : Int)) (some (b : Int)) none = (l.drop a).take (b - a) := by
  unfold sliceL
  rw [kms_bounds, kms_hi_nat, kms_lo_nat]
  show (sliceRange ((min a l.length : Nat) : Int) ((min b l.length : Nat) : Int) 1).filterMap (l[·]?) = _
  rw [sliceRange_one]
  have := pick_run l.toArray (min a l.length) (min b l.length - min a l.length)
  simp only [List.getElem?_toArray] at this
  rw [this]
  by_cases h1 : a ≤ l.length
  · rw [Nat.min_eq_left h1]
    by_cases h2 : b ≤ l.length
    · rw [Nat.min_eq_left h2]
    · rw [Nat.min_eq_right (Nat.le_of_not_le h2), List.take_of_length_le (by simp), List.take_of_length_le (by simp; omega)]
  · rw [Nat.min_eq_right (Nat.le_of_not_le h1), List.drop_of_length_le (Nat.le_refl _), List.drop_of_length_le (Nat.le_of_not_le h1)]; simp
theorem sliceL_from {α : Type} (l : List α) (a : Nat) : sliceL l (some (a : Int)) none none = l.drop a := by
  unfold sliceL
  rw [kms_bounds, kms_lo_nat]
  show (sliceRange ((min a l.length : Nat) : Int) ((l.length : Nat) : Int) 1).filterMap (l[·]?) = _
  rw [sliceRange_one]
  have := pick_run l.toArray (min a l.length) (l.length - min a l.length)
  simp only [List.getElem?_toArray] at this
  rw [this]
  by_cases h1 : a ≤ l.length
  · rw [Nat.min_eq_left h1, List.take_of_length_le (by simp)]
  · rw [Nat.min_eq_right (Nat.le_of_not_le h1), List.drop_of_length_le (Nat.le_refl _), List.drop_of_length_le (Nat.le_of_not_le h1)]; simp
theorem sliceP_lnn (l : List PV) (a b : Nat) (h : l.length ≤ LIM) : sliceP (.lst l) (some (a : Int)) (some (b : Int)) = some (.lst ((l.drop a).take (b - a))) := by
  show (if _ then _ else _) = _
  rw [if_pos h, sliceL_nn]
theorem sliceP_lfrom (l : List PV) (a : Nat) (h : l.length ≤ LIM) : sliceP (.lst l) (some (a : Int)) none = some (.lst (l.drop a)) := by
  show (if _ then _ else _) = _
  rw [if_pos h, sliceL_from]
theorem add_lst (a b : List PV) (h : a.length + b.length ≤ LIM) : binP .Add (.lst a) (.lst b) = some (.lst (a ++ b)) := by show (if _ then _ else _) = _; rw [if_pos h]
theorem joinP_ones (l : List Nat) (h : l.length ≤ LIM) : joinP [.str [], .lst (l.map fun n => .str [n])] = some (.str l) := by
  have h1 := joinP_nil (l.map fun n => [n]) (by rw [flat_ones]; exact h)
  rw [List.map_map, flat_ones] at h1
  exact h1
theorem maxL_spec : ∀ (l : List Nat), l ≠ [] → ∃ M : Nat, maxL (l.map fun n : Nat => (n : Int)) = (M : Int) ∧ (∀ n ∈ l, n ≤ M) ∧ M ∈ l
  | [], h => absurd rfl h
  | [a], _ => ⟨a, rfl, fun n hn => by rw [List.mem_singleton] at hn; omega, List.mem_cons_self ..⟩
  | a :: b :: l, _ => by
    obtain ⟨M, e, h, hm⟩ := maxL_spec (b :: l) (by simp)
    have e2 : maxL ((a :: b :: l).map fun n : Nat => (n : Int)) = max (a : Int) (maxL ((b :: l).map fun n : Nat => (n : Int))) := rfl
    rw [e2, e]
    refine ⟨max a M, by omega, fun n hn => ?_, ?_⟩
    · rcases List.mem_cons.mp hn with rfl | hn
      · omega
      · have := h n hn; omega
    · by_cases q : a ≤ M
      · rw [Nat.max_eq_right q]; exact List.mem_cons_of_mem _ hm
      · rw [Nat.max_eq_left (by omega)]; exact List.mem_cons_self ..
theorem maxP_nums (l : List Nat) (h : l ≠ []) : ∃ M : Nat, maxP [nums l] = some (.int (M : Int)) ∧ (∀ n ∈ l, n ≤ M) ∧ M ∈ l := by
  obtain ⟨M, e, h1, hm⟩ := maxL_spec l h
  refine ⟨M, ?_, h1, hm⟩
  show (intsOf _).bind _ = _
  rw [intsOf_nums, Option.bind_some, if_neg (by simpa using h), e]
noncomputable def Nx (o : Option (PF × List Sl)) (Q : List Sl → Prop) : Prop := ∃ σ', o = some (.next, σ') ∧ Q σ'
theorem Nx.next {g₁ g₂ : List Sl → Option (PF × List Sl)} {σ : List Sl} {Q : List Sl → Prop} (σ' : List Sl) (h : g₁ σ = some (.next, σ')) (h₂ : Nx (g₂ σ') Q) : Nx (seqP g₁ g₂ σ) Q := by
  unfold Nx; rw [seqP_next h]; exact h₂
theorem Nx.skip {σ : List Sl} {Q : List Sl → Prop} (h : Q σ) : Nx (some (.next, σ)) Q := ⟨σ, rfl, h⟩
theorem Nx.loop {β : Type} {E : List Sl → Option (List Itm)} {tp : Itm → List Sl → Option (List Sl)} {g gE g₂ : List Sl → Option (PF × List Sl)} {enc : β → Itm} {bs : List β} {σ : List Sl} {Q : List Sl → Prop} (hE : E σ = some (bs.map enc)) (R : List β → List Sl → Prop)
    (h0 : R bs σ) (hgE : ∀ σ, gE σ = some (.next, σ)) (h : ∀ b bs σ, R (b :: bs) σ → ∃ σ₁, tp (enc b) σ = some σ₁ ∧ Nx (g σ₁) (R bs))
    (k : ∀ σ', R [] σ' → Nx (g₂ σ') Q) : Nx (seqP (fun σ => (E σ).bind fun xs => forP tp g gE xs σ) g₂ σ) Q := by
  obtain ⟨σ', e, hr⟩ := forP_rel (tp := tp) (g := g) (gE := gE) (enc := enc) R (fun b bs σ hR => by
    obtain ⟨σ₁, e1, σ₂, e2, r2⟩ := h b bs σ hR
    exact ⟨σ₁, σ₂, e1, .inl e2, r2⟩) bs σ h0
  refine Nx.next σ' ?_ (k σ' hr)
  show (E σ).bind _ = _
  rw [hE, Option.bind_some, e, hgE]
theorem Ret.loopN {β : Type} {E : List Sl → Option (List Itm)} {tp : Itm → List Sl → Option (List Sl)} {g gE g₂ : List Sl → Option (PF × List Sl)} {enc : β → Itm} {bs : List β} {σ : List Sl} {r : PV} (hE : E σ = some (bs.map enc)) (R : List β → List Sl → Prop)
    (h0 : R bs σ) (hgE : ∀ σ, gE σ = some (.next, σ)) (h : ∀ b bs σ, R (b :: bs) σ → ∃ σ₁, tp (enc b) σ = some σ₁ ∧ Nx (g σ₁) (R bs))
    (k : ∀ σ', R [] σ' → Ret (g₂ σ') r) : Ret (seqP (fun σ => (E σ).bind fun xs => forP tp g gE xs σ) g₂ σ) r := by
  refine Ret.loopR hE R h0 hgE (fun b bs σ hR => ?_) k
  obtain ⟨σ₁, e1, σ₂, e2, r2⟩ := h b bs σ hR
  exact ⟨σ₁, σ₂, e1, .inl e2, r2⟩
theorem compP_gen0 {β : Type} {tp : Itm → List Sl → Option (List Sl)} {ft : List Sl → Option Bool} {fe : List PV → List Sl → Option (List PV × List Sl)} {enc : β → Itm} {bs : List β} {ps : List PV} {σ : List Sl} (out : β → List PV) (R : List Sl → Prop)
    (h : ∀ b ∈ bs, ∀ (ps : List PV) (σ : List Sl), R σ → ps.length + (out b).length ≤ LIM → ∃ σ₁, tp (enc b) σ = some σ₁ ∧ R σ₁ ∧ ((ft σ₁ = some false ∧ out b = []) ∨ (ft σ₁ = some true ∧ ∃ σ₂, fe ps σ₁ = some (ps ++ out b, σ₂) ∧ R σ₂)))
    (h0 : R σ) (hl : ps.length + (bs.flatMap out).length ≤ LIM) : ∃ σ', compP tp ft fe (bs.map enc) ps σ = some (ps ++ bs.flatMap out, σ') ∧ R σ' := compP_gen out R bs ps σ h h0 hl
theorem compP_gen1 {β : Type} {tp : Itm → List Sl → Option (List Sl)} {ft : List Sl → Option Bool} {fe : List PV → List Sl → Option (List PV × List Sl)} {enc : β → Itm} {bs : List β} {σ : List Sl} (out : β → List PV) (R : List Sl → Prop)
    (h : ∀ b ∈ bs, ∀ (ps : List PV) (σ : List Sl), R σ → ps.length + (out b).length ≤ LIM → ∃ σ₁, tp (enc b) σ = some σ₁ ∧ R σ₁ ∧ ((ft σ₁ = some false ∧ out b = []) ∨ (ft σ₁ = some true ∧ ∃ σ₂, fe ps σ₁ = some (ps ++ out b, σ₂) ∧ R σ₂)))
    (h0 : R σ) (hl : (bs.flatMap out).length ≤ LIM) : ∃ σ', compP tp ft fe (bs.map enc) [] σ = some (bs.flatMap out, σ') := by
  obtain ⟨σ', e, Z⟩ := compP_gen out R bs [] σ h h0 (by simpa using hl)
  exact ⟨σ', e⟩
theorem own_len (cl : List Nat) (lv k : Nat) (x : It) : (ownS cl lv k x).length ≤ 1 := by unfold ownS; split <;> simp
theorem flat_len {α β : Type} (f : α → List β) (n : Nat) (h : ∀ a, (f a).length ≤ n) : ∀ l : List α, (l.flatMap f).length ≤ n * l.length
  | [] => Nat.zero_le _
  | a :: l => by
    have h1 := flat_len f n h l
    have h2 := h a
    rw [List.flatMap_cons, List.length_append, List.length_cons, Nat.mul_succ]; lia
theorem seen_len (D : List It) (cl : List Nat) (lv : Nat) : (seenL D cl lv).length ≤ 4 := by
  unfold seenL
  refine flat_len _ 1 (fun k => ?_) [0, 1, 2, 3]
  unfold seenK
  split
  · exact own_len _ _ _ _
  · simp
theorem bind_true {γ : Type} {o : Option Bool} {A B r : Option γ} (h : o = some true) (k : A = r) : (o.bind fun c => if c = true then A else B) = r := by rw [h]; exact k
theorem told_val (l : List Nat) (h : l.length ≤ LIM) : joinP [.str [], .lst ((items 0 l).map fun x => .str x.2)] = some (.str l) := by
  have h1 := joinP_nil ((items 0 l).map fun x => x.2) (by rw [told_line]; exact h)
  rw [List.map_map, told_line] at h1
  exact h1
theorem items_len (l : List Nat) : (items 0 l).length ≤ l.length := by
  have : ∀ (n i : Nat) (l : List Nat), l.length ≤ n → (items i l).length ≤ l.length := by
    intro n
    induction n with
    | zero => intro i l hl; rw [List.length_eq_zero_iff.mp (Nat.le_zero.mp hl)]; exact Nat.le_refl _
    | succ n ih =>
      intro i l hl
      cases l with
      | nil => exact Nat.le_refl _
      | cons c r =>
        obtain ⟨t, q, e, hne, e2, Z⟩ := items_split i c r
        have ht : 1 ≤ t.length := List.length_pos_iff.mpr hne
        have hl' := congrArg List.length e
        rw [List.length_append, List.length_cons] at hl'
        rw [List.length_cons] at hl
        rw [e2, List.length_cons, List.length_cons]
        have := ih (i + t.length) q (by lia)
        lia
  exact this l.length 0 l (Nat.le_refl _)
noncomputable def pr (b : Bool) : List Nat × List Nat := if b = true then ([41], [40]) else ([40], [])
noncomputable def prV (b : Bool) : PV := .lst [.str (pr b).1, .str (pr b).2]
noncomputable def oddL (D : List It) : List (Nat × Bool) := [0, 1, 2, 3].flatMap fun k => match D[k]? with
  | some x => if x.kind = 4 then [(k, false), (k, true)] else []
  | none => []
noncomputable def oddV (p : Nat × Bool) : PV := .tup [.int (p.1 : Int), prV p.2]
noncomputable def oddK (D : List It) (k : Nat) : List (Nat × Bool) := match D[k]? with
  | some x => if x.kind = 4 then [(k, false), (k, true)] else []
  | none => []
theorem oddL_eq (D : List It) : oddL D = [0, 1, 2, 3].flatMap (oddK D) := rfl
theorem odd_mem {D : List It} (hD : DOk D) {p : Nat × Bool} (h : p ∈ oddL D) : p.1 < 4 ∧ ∃ x, D[p.1]? = some x ∧ x.kind = 4 := by
  obtain ⟨k, hk, hp⟩ := List.mem_flatMap.mp h
  have hk4 : k < 4 := by simp at hk; lia
  obtain ⟨x, hx⟩ := hD.at hk4
  simp only [hx] at hp
  split at hp
  · rename_i h4
    simp at hp
    rcases hp with rfl | rfl <;> exact ⟨hk4, x, hx, h4⟩
  · cases hp
theorem odd_len {D : List It} (hD : DOk D) : (oddL D).length ≤ 8 := by
  obtain ⟨a, b, c, d, rfl⟩ := hD.four
  show ([(0, a), (1, b), (2, c), (3, d)].flatMap fun (p : Nat × It) => if p.2.kind = 4 then [(p.1, false), (p.1, true)] else []).length ≤ 8
  simp only [List.flatMap_cons, List.flatMap_nil, List.length_append, List.length_nil]
  have h : ∀ (k : Nat) (x : It), (if x.kind = 4 then [(k, false), (k, true)] else [] : List (Nat × Bool)).length ≤ 2 := by intro k x; split <;> simp
  have h0 := h 0 a
  have h1 := h 1 b
  have h2 := h 2 c
  have h3 := h 3 d
  lia
noncomputable def stayB (D : List It) (cl : List Nat) (p : Nat × Bool) : Bool := match D[p.1]? with
  | some x => decide (0 < cl.getD p.1 0) || (p.2 && decide (0 ≤ x.ab))
  | none => false
noncomputable def struckS (D : List It) (who : Nat) (p : Nat × Bool) : List Nat := lineS D who (plain.set p.1 (pr p.2))
theorem struck_keep {D : List It} (hD : DOk D) (who : Nat) {p : Nat × Bool} (h : p ∈ oddL D) : keep (struckS D who p) = if stayB D (closedL D who) p = true then struckS D who p else BAD := by
  obtain ⟨h4, x, hx, hk⟩ := odd_mem hD h
  have ok := hD.ok _ x hx
  have hsl : (!(x.slot == 4)) = decide (0 ≤ x.ab) := by
    rcases ok.ab with h | h
    · rw [(slot_of x).1 h, h]; rfl
    · rw [(slot_of x).2 x.ab.toNat (by lia)]
      have a1 : ¬ (x.ab.toNat = 4) := by lia
      have a2 : (0 : Int) ≤ x.ab := h.1
      simp [a1, a2]
  obtain ⟨k, b⟩ := p
  have hc : check (struckS D who (k, b)) = stayB D (closedL D who) (k, b) := by
    unfold struckS stayB
    simp only at hx h4 ⊢
    rw [hx]
    simp only
    have hcd : (!(decide ((closedL D who).getD k 0 ≤ 0))) = decide (0 < (closedL D who).getD k 0) := by
      rw [Bool.eq_iff_iff]; simp; lia
    cases b with
    | false =>
      rw [check_odd hD hx h4 hk 1 (.inl rfl) (pr false) rfl, hcd]
      rfl
    | true =>
      rw [check_odd hD hx h4 hk 2 (.inr rfl) (pr true) rfl, hcd, hsl]
      rfl
  unfold keep
  rw [hc]
theorem plain_keep {D : List It} (hD : DOk D) (who : Nat) : keep (lineS D who plain) = lineS D who plain := by
  unfold keep
  rw [check_plain hD, if_pos rfl]
theorem struck_ok (p : Nat × Bool) : POk (plain.set p.1 (pr p.2)) := by
  obtain ⟨k, b⟩ := p
  cases b with
  | false => exact set_ok 1 (.inl rfl) _ rfl
  | true => exact set_ok 2 (.inr rfl) _ rfl
theorem closed_le {D : List It} (hD : DOk D) (who : Nat) : ∀ n ∈ closedL D who, n ≤ 4 := by
  have h4 := closed_top hD who
  have hsh : ∀ x : It, sh1 x who ≤ 1 := fun x => by unfold sh1; split <;> lia
  have step : ∀ k, k < 4 → (closedL D who).getD k 0 ≤ k + 1 := by
    intro k
    induction k using Nat.strongRecOn with
    | ind k ih =>
      intro hk
      obtain ⟨x, hx⟩ := hD.at hk
      have ok := hD.ok k x hx
      rw [closed_at hD who hx hk]
      have := hsh x
      rcases ok.ab with h | h
      · rw [(slot_of x).1 h, h4]; lia
      · rw [(slot_of x).2 x.ab.toNat (by lia)]
        have := ih x.ab.toNat (by lia) (by lia)
        lia
  intro n hn
  obtain ⟨k, hk⟩ := List.getElem?_of_mem hn
  have hkl := (List.getElem?_eq_some_iff.mp hk).1
  rw [closed_len hD who] at hkl
  have := step k hkl
  rw [List.getD_eq_getElem?_getD, hk] at this
  simp at this
  lia
theorem ne_nil (l : List Nat) : cmpP .NotEq (nums l) (.lst []) = some (!l.isEmpty) := by
  cases l with
  | nil => rfl
  | cons a l => rfl
theorem join_four (a b c : List Nat) (h : a.length ≤ 25920) (h2 : b.length ≤ 25920) (h3 : c.length ≤ 25920) : joinP [.str [39], .lst [.str a, .str b, .str c, .str a]] = some (.str (a ++ [39] ++ b ++ [39] ++ (c ++ [39] ++ a))) := by
  have e : strsOf [.str a, .str b, .str c, .str a] = some [a, b, c, a] := strsOf_map [a, b, c, a]
  have e0 : joinP [.str [39], .lst [.str a, .str b, .str c, .str a]] = (strsOf [.str a, .str b, .str c, .str a]).bind fun ys => if (ys.map (·.length)).sum + ys.length * [39].length ≤ 16777216 then some (.str (joinL [39] ys)) else none := rfl
  rw [e0, e, Option.bind_some, if_pos]
  · simp [joinL]
  · simp; lia
theorem ne_tup3 (z : List Nat) : cmpP .NotEq (.tup [.none, .none, .str z]) (.tup [.none, .none, .str z]) = some false := by
  have e : cmpP .NotEq (.tup [.none, .none, .str z]) (.tup [.none, .none, .str z]) = some (!(true && (true && ((z == z) && true)))) := rfl
  rw [e, beq_self_eq_true]; rfl
theorem range_nat (n : Nat) (h : n ≤ 1000) : rangeP [.int (n : Int)] = some ((List.range' 0 n).map fun k : Nat => .one (.int (k : Int))) := by
  have e : rangeP [.int (n : Int)] = if (n : Int) ≤ 1000000 ∧ -1000000 ≤ (n : Int) then some ((List.range (n : Int).toNat).map fun (i : Nat) => .one (.int (i : Int))) else none := rfl
  rw [e, if_pos (by lia), Int.toNat_natCast, List.range_eq_range']
theorem fmod3 (x : Int) : ∃ n : Nat, binP .Mod (.int x) (.int 3) = some (.int (n : Int)) := by
  refine ⟨(x.fmod 3).toNat, ?_⟩
  rw [fmod_int _ _ (by decide)]
  have := Int.fmod_nonneg_of_pos x (show (0 : Int) < 3 by decide)
  congr 2; lia
theorem sum_modes (D : List It) : ∃ z : Int, sumP [modesV D] = some (.int z) := by
  have := intsOf_nums (D.map It.mode)
  rw [List.map_map] at this
  refine ⟨((D.map It.mode).map fun n : Nat => (n : Int)).sum, ?_⟩
  show (intsOf (D.map _)).map _ = _
  rw [show (D.map fun x => PV.int ((x.mode : Nat) : Int)) = List.map ((fun n : Nat => PV.int (n : Int)) ∘ It.mode) D from rfl, this]; rfl
theorem set_pair (k : Nat) (hk : k < 4) (p : List Nat × List Nat) : plain.set k p = plain.take k ++ [p] ++ plain.drop (k + 1) := by
  rw [List.set_eq_take_append_cons_drop, if_pos (by show k < 4; exact hk)]; simp
theorem pairs_set {k : Nat} (hk : k < 4) (b : Bool) : ∃ u v w, sliceP (pairsV plain) none (some (k : Int)) = some u ∧ binP .Add u (.lst [prV b]) = some v ∧ sliceP (pairsV plain) (some ((k : Int) + 1)) none = some w ∧ binP .Add v w = some (pairsV (plain.set k (pr b))) := by
  have e1 : sliceP (pairsV plain) none (some (k : Int)) = some (pairsV (plain.take k)) := by
    unfold pairsV
    rw [sliceP_take _ _ (by rw [List.length_map]; decide), List.map_take]
  have e2 : sliceP (pairsV plain) (some ((k : Int) + 1)) none = some (pairsV (plain.drop (k + 1))) := by
    unfold pairsV
    rw [show (k : Int) + 1 = ((k + 1 : Nat) : Int) by lia, sliceP_lfrom _ _ (by rw [List.length_map]; decide), List.map_drop]
  have l1 : (plain.take k).length ≤ 4 := by rw [List.length_take]; show min k 4 ≤ 4; lia
  have l2 : (plain.drop (k + 1)).length ≤ 4 := by rw [List.length_drop]; show 4 - (k + 1) ≤ 4; lia
  refine ⟨_, pairsV (plain.take k ++ [pr b]), _, e1, ?_, e2, ?_⟩
  · unfold pairsV
    rw [add_lst _ _ (by rw [List.length_map]; unfold LIM; simp; lia), List.map_append]; rfl
  · rw [set_pair k hk]
    unfold pairsV
    rw [add_lst _ _ (by rw [List.length_map, List.length_map, List.length_append, List.length_singleton]; unfold LIM; lia), ← List.map_append]
noncomputable def Ln2 (r σ : List Sl) : Prop := ∃ y z, σ = y :: z :: r
noncomputable def Ln3 (r σ : List Sl) : Prop := ∃ y z u, σ = y :: z :: u :: r
theorem ln2 {r σ : List Sl} {y z : Sl} (h : σ = y :: z :: r) : Ln2 r σ := ⟨y, z, h⟩
theorem ln3 {r σ : List Sl} {y z u : Sl} (h : σ = y :: z :: u :: r) : Ln3 r σ := ⟨y, z, u, h⟩
theorem sum_number (l : List Nat) (h : l.length ≤ 3) : ((List.range' 0 l.length).map fun k => ((l.getD k 0 : Nat) : Int) * ((256 ^ (2 - k) : Nat) : Int)).sum = ((number l : Nat) : Int) := by
  rcases l with _ | ⟨a, _ | ⟨b, _ | ⟨c, _ | ⟨d, l⟩⟩⟩⟩
  · rfl
  · show (a : Int) * 65536 + 0 = ((a * 65536 + 0 * 256 + 0 : Nat) : Int); lia
  · show (a : Int) * 65536 + ((b : Int) * 256 + 0) = ((a * 65536 + b * 256 + 0 : Nat) : Int); lia
  · show (a : Int) * 65536 + ((b : Int) * 256 + ((c : Int) * 1 + 0)) = ((a * 65536 + b * 256 + c : Nat) : Int); lia
  · exact absurd h (by rw [List.length_cons, List.length_cons, List.length_cons, List.length_cons]; lia)
theorem pow_less {b : Nat} {m k : Nat} (hb : b < 1000) (hk : k ≤ m) (hm : m ≤ 100) : binP .Pow (.int (b : Int)) (.int ((m : Int) - (k : Int))) = some (.int ((b ^ (m - k) : Nat) : Int)) := by
  rw [show (m : Int) - (k : Int) = ((m - k : Nat) : Int) by lia, pow_int _ _ ⟨by lia, by lia, by lia⟩, Int.toNat_natCast, Int.natCast_pow]
theorem eqs_rep (m : Nat) (h : m ≤ 3) : binP .Mult (.str (Str.ofString "=").cps.toList) (.int ((3 : Int) - (m : Int))) = some (.str (List.replicate (3 - m) 61)) := by
  rcases m with _ | _ | _ | _ | m
  · kernel_rfl
  · kernel_rfl
  · kernel_rfl
  · kernel_rfl
  · lia
theorem run50 {prog : Program} {w : World} {hb : Heap}  (h_sum : FV prog w hb "sum" 0 sumP) (h_len : FV prog w hb "len" 0 lenP) (i_range : IA prog w hb "range" 0 rangeP) :
    ∃ g, XSs prog w hb (fnScope (nth 50)) 0 (fnBody (nth 50)) g ∧ ∀ l : List Nat, l.length ≤ 3 → (∀ n ∈ l, n < 256) → runP (fnScope (nth 50)).names ["octets"] g [nums l] = some (.str (fourL l)) := by
  refine' ⟨_, ?w, ?p⟩; rotate_left
  conv in (fnBody _) => whnf
  conv in (fnScope _) => whnf
  with_reducible
   refine' XSs.cons ?_ ?_; rotate_left 2; refine' XS.assignC (i := 1) (by kernel_rfl) ?_ (fun Z Z => by kernel_rfl); rotate_left; refine' XE.str; refine' XSs.cons ?_ ?_; rotate_left 2; refine' XS.assignC (i := 2) (by kernel_rfl) ?_ (fun Z Z => by kernel_rfl); rotate_left; refine' XE.cv (by assumption) ?_; rotate_left; refine' XEs.co ?_ ?_; rotate_left 2
   refine' XE.comp ⟨by kernel_rfl, by decide +kernel, by decide +kernel, by decide +kernel, by kernel_rfl⟩ ?_ ?_ ?_ ?_ (fun Z Z => by kernel_rfl); rotate_left 4; refine' XI.callIA (by kernel_rfl) (by assumption) ?_ (by decide) (by kernel_rfl) (fun Z => by kernel_rfl) (fun Z => by kernel_rfl); rotate_left; refine' XEs.co ?_ ?_; rotate_left 2; refine' XE.cv (by assumption) ?_; rotate_left
   refine' XEs.co ?_ ?_; rotate_left 2; refine' XE.ce 0; refine' XEs.nil; refine' XEs.nil; refine' LT.one ?_; rotate_left; refine' LG.loc (i := 1) (by kernel_rfl); refine' XTs.nil; refine' XE.bin ?_ ?_; rotate_left 2; refine' XE.idx ?_ ?_ (fun Z Z => by kernel_rfl); rotate_left 2; refine' XE.ce 2; refine' XE.lo 1; refine' XE.bin ?_ ?_; rotate_left 2; refine' XE.int
   refine' XE.bin ?_ ?_; rotate_left 2; refine' XE.int; refine' XE.lo 1; refine' XEs.nil; refine' XSs.cons ?_ ?_; rotate_left 2; refine' XS.set 3 ?_; rotate_left; refine' XE.bin ?_ ?_; rotate_left 2
   refine' XE.meth ?_ ?_ F.plainAttrs_str F.slot_str_join F.type_str_join CB.join (Nat.zero_le _) (fun Z => by kernel_rfl) (fun Z => by kernel_rfl) (by kernel_rfl) (fun Z => by kernel_rfl) (fun Z => by kernel_rfl); rotate_left 2; refine' XE.str; refine' XEs.co ?_ ?_; rotate_left 2
   refine' XE.comp ⟨by kernel_rfl, by decide +kernel, by decide +kernel, by decide +kernel, by kernel_rfl⟩ ?_ ?_ ?_ ?_ (fun Z Z => by kernel_rfl); rotate_left 4; refine' XI.callIA (by kernel_rfl) (by assumption) ?_ (by decide) (by kernel_rfl) (fun Z => by kernel_rfl) (fun Z => by kernel_rfl); rotate_left; refine' XEs.co ?_ ?_; rotate_left 2; refine' XE.bin ?_ ?_; rotate_left 2
   refine' XE.cv (by assumption) ?_; rotate_left; refine' XEs.co ?_ ?_; rotate_left 2; refine' XE.ce 0; refine' XEs.nil; refine' XE.int; refine' XEs.nil; refine' LT.one ?_; rotate_left; refine' LG.loc (i := 1) (by kernel_rfl); refine' XTs.nil; refine' XE.idx ?_ ?_ (fun Z Z => by kernel_rfl); rotate_left 2; refine' XE.ce 3; refine' XE.bin ?_ ?_; rotate_left 2; refine' XE.bin ?_ ?_; rotate_left 2
   refine' XE.ce 2; refine' XE.bin ?_ ?_; rotate_left 2; refine' XE.int; refine' XE.bin ?_ ?_; rotate_left 2; refine' XE.int; refine' XE.lo 1; refine' XE.int; refine' XEs.nil; refine' XE.bin ?_ ?_; rotate_left 2; refine' XE.str; refine' XE.bin ?_ ?_; rotate_left 2; refine' XE.int; refine' XE.cv (by assumption) ?_; rotate_left; refine' XEs.co ?_ ?_; rotate_left 2; refine' XE.ce 0; refine' XEs.nil
   refine' XSs.cons ?_ ?_; rotate_left 2; refine' XS.ret ?_; rotate_left; refine' XE.ife ?_ ?_ ?_; rotate_left 3; refine' XT.cmp ?_ ?_ (by kernel_rfl); rotate_left 2; refine' XE.ce 0; refine' XE.ofL (XL.lst ?_); rotate_left; refine' XEs.nil; refine' XE.lo 3; refine' XE.str; refine' XSs.nil
  case p =>
    intro l hl hn
    conv in (fnScope _) => whnf
    by_cases h0 : l = []
    · subst h0; kernel_rfl
    have hr : rangeP [.int (l.length : Int)] = some ((List.range' 0 l.length).map fun k : Nat => .one (.int (k : Int))) := range_nat _ (by lia)
    have hr' : rangeP [.int ((l.length : Int) + 1)] = some ((List.range' 0 (l.length + 1)).map fun k : Nat => .one (.int (k : Int))) := range_nat _ (by lia)
    have hlen : lenP [nums l] = some (.int (l.length : Int)) := (lenP_lst _ (by rw [List.length_map]; unfold LIM; lia)).trans (by rw [List.length_map])
    obtain ⟨n, hN⟩ : ∃ n, number l = n := ⟨_, rfl⟩
    have hs := sum_number l hl
    rw [hN] at hs
    refine runP_ret [.pv (nums l), .un, .un, .un, .un, .un, .un] rfl (by kernel_rfl) ?_
    refine Ret.next [.pv (nums l), .pv (.str SGN), .un, .un, .un, .un, .un] rfl ?_
    refine Ret.next [.pv (nums l), .pv (.str SGN), .pv (.int (n : Int)), .un, .un, .un, .un] ?_ ?_
    · simp only [X0, X1, X7, X8, Option.bind_some, Option.map_some, hlen, hr]
      rw [comp_memE (bs := List.range' 0 l.length) (enc := fun k : Nat => .one (.int (k : Int))) (fun k : Nat => .int (((l.getD k 0 : Nat) : Int) * ((256 ^ (2 - k) : Nat) : Int))) (Ln2 [.pv (nums l)]) ?hc ?h0 (by rw [List.length_range']; unfold LIM; lia)]
      case hc =>
        rintro k hk σ ⟨y, z, rfl⟩
        have hk : k < l.length := by have := List.mem_range'_1.mp hk; lia
        have hx := hn (l.getD k 0) (by rw [List.getD_eq_getElem?_getD, List.getElem?_eq_getElem hk]; exact List.getElem_mem hk)
        have pw : binP .Pow (.int 256) (.int (2 - (k : Int))) = some (.int ((256 ^ (2 - k) : Nat) : Int)) := pow_less (b := 256) (m := 2) (by decide) (by lia) (by decide)
        have ml := mul_int ((l.getD k 0 : Nat) : Int) ((256 ^ (2 - k) : Nat) : Int) (by lia)
        exact ⟨[y, .pv (.int (k : Int)), .pv (nums l)], rfl, rfl, by simp only [X0, X1, Xe, Option.bind_some, item_nums hk (Nat.lt_of_lt_of_le hk (Nat.le_succ_of_le hl)), pw, ml], ln2 rfl⟩
      case h0 => exact (ln2 (y := .un) (z := .un) (by kernel_rfl))
      have hsum : sumP [.lst ((List.range' 0 l.length).map fun k : Nat => .int (((l.getD k 0 : Nat) : Int) * ((256 ^ (2 - k) : Nat) : Int)))] = some (.int (n : Int)) := by
        show (intsOf _).map _ = _
        have e := intsOf_map ((List.range' 0 l.length).map fun k : Nat => ((l.getD k 0 : Nat) : Int) * ((256 ^ (2 - k) : Nat) : Int))
        rw [List.map_map] at e
        exact me e (congrArg (fun x => some (PV.int x)) hs)
      rw [Option.bind_some, Option.bind_some, hsum]
      rfl
    have hjoin := joinP_ones ((List.range' 0 (l.length + 1)).map fun k => sign (n / 64 ^ (3 - k) % 64)) (by rw [List.length_map, List.length_range']; unfold LIM; lia)
    have hfour : fourL l = ((List.range' 0 (l.length + 1)).map fun k => sign (n / 64 ^ (3 - k) % 64)) ++ List.replicate (3 - l.length) 61 := by
      unfold fourL
      rw [if_neg h0, hN, List.range_eq_range']
    have hadd := add_str ((List.range' 0 (l.length + 1)).map fun k => sign (n / 64 ^ (3 - k) % 64)) (List.replicate (3 - l.length) 61) (by rw [List.length_map, List.length_range', List.length_replicate]; unfold LIM; lia)
    rw [← hfour] at hadd
    refine Ret.next [.pv (nums l), .pv (.str SGN), .pv (.int (n : Int)), .pv (.str (fourL l)), .un, .un, .un] ?_ ?_
    · simp only [X0, X1, X7, X8, X17, Option.bind_some, Option.map_some, ↓reduceIte]
      rw [List.map_map, ← cs_emp] at hjoin
      refine be (be (be (be (be (be (be (be hlen rfl) rfl) hr') (comp_memE (bs := List.range' 0 (l.length + 1)) (enc := fun k : Nat => .one (.int (k : Int))) (fun k : Nat => .str [sign (n / 64 ^ (3 - k) % 64)]) (Ln2 [.pv (.int (n : Int)), .pv (.str SGN)]) ?hc2 ?h02 (by rw [List.length_range']; unfold LIM; lia))) rfl) hjoin) (be (be (be hlen rfl) (eqs_rep l.length hl)) hadd)) rfl
      case hc2 =>
        rintro k hk σ ⟨y, z, rfl⟩
        have hk : k < l.length + 1 := by have := List.mem_range'_1.mp hk; lia
        have pw : binP .Pow (.int 64) (.int (3 - (k : Int))) = some (.int ((64 ^ (3 - k) : Nat) : Int)) := pow_less (b := 64) (m := 3) (by decide) (by lia) (by decide)
        have hp : 64 ^ (3 - k) < 2 ^ 60 := Nat.lt_of_le_of_lt (Nat.pow_le_pow_right (by decide) (Nat.sub_le 3 k)) (by decide)
        have dv := fdiv_nat' n (64 ^ (3 - k)) (Nat.pow_pos (by decide)) hp
        have md : binP .Mod (.int ((n / 64 ^ (3 - k) : Nat) : Int)) (.int 64) = some (.int ((n / 64 ^ (3 - k) % 64 : Nat) : Int)) := fmod_nat' _ 64 (by decide)
        exact ⟨[y, .pv (.int (k : Int)), .pv (.int (n : Int)), .pv (.str SGN)], rfl, rfl, by simp only [X0, X1, Xe, Option.bind_some, pw, dv, md, sgn], ln2 rfl⟩
      case h02 => exact (ln2 (y := .un) (z := .un) (by kernel_rfl))
    cases l with
    | nil => exact absurd rfl h0
    | cons a t => exact Ret.here (Ret.of (σ' := [.pv (nums (a :: t)), .pv (.str SGN), .pv (.int (n : Int)), .pv (.str (fourL (a :: t))), .un, .un, .un]) rfl)
theorem cs_q5 : (Str.ofString "\"\\\")\"").cps.toList = [34, 92, 34, 41, 34] := by kernel_rfl
theorem cs_qo : (Str.ofString "\"(").cps.toList = [34, 40] := by kernel_rfl
noncomputable def L55 (a0 a1 a2 a3 a4 a5 a6 a7 a8 a9 a10 a11 a12 a13 a14 a15 a16 a17 a18 a19 a20 a21 a22 a23 : Sl) : List Sl :=
  [a0, a1, a2, a3, a4, a5, a6, a7, a8, a9, a10, a11, a12, a13, a14, a15, a16, a17, a18, a19, a20, a21, a22, a23, .un, .un, .un, .un, .un, .un, .un, .un, .un, .un, .un, .un, .un]
theorem items_modes (D : List It) : itemsP (modesV D) = some (D.map fun x => .one (.int ((x.mode : Nat) : Int))) := by show some (List.map _ (D.map _)) = _; rw [List.map_map]; rfl
theorem items_stuff (D : List It) : itemsP (stuffV D) = some (D.map fun x => .one (nums x.st)) := by show some (List.map _ (D.map _)) = _; rw [List.map_map]; rfl
theorem DOk.mem {D : List It} (h : DOk D) {x : It} (hx : x ∈ D) : x.kind < 16 ∧ x.perm < 4096 ∧ x.st.length ≤ 3 ∧ ∀ n ∈ x.st, n < 256 := by
  obtain ⟨k, hk⟩ := List.getElem?_of_mem hx
  have ok := h.ok k x hk
  exact ⟨ok.kind, ok.perm, ok.st, ok.oct⟩
theorem chr_nat (n : Nat) (h : n < 128) : chrP [.int (n : Int)] = some (.str [n]) := by
  show (if _ then _ else _) = _
  rw [if_pos ⟨by lia, by lia⟩, Int.toNat_natCast]
noncomputable def Q55 (ns : List Int) (D : List It) (a8 a9 a10 a11 a12 a13 a14 a15 a16 a17 a18 a19 a20 a21 a22 a23 : Sl) : List Sl :=
  L55 (.pv (.lst (ns.map .int))) (.pv (modesV D)) (.pv (intsV (D.map It.ab))) (.pv (strsV (D.map fun x => [92, x.nm]))) (.pv (stuffV D)) (.pv (strsV (D.map It.row))) (.pv (bools (D.map fun x => x.kind == 4))) (.pv (strsV (D.map fun x => fourL x.st))) a8 a9 a10 a11 a12 a13 a14 a15 a16 a17 a18 a19 a20 a21 a22 a23
inductive Fr55 (ns : List Int) (D : List It) (x10 x11 x12 : Sl) : List Sl → Prop
  | mk (a9 a13 a14 a15 a16 a17 a18 a19 a20 a21 a22 a23 : Sl) : Fr55 ns D x10 x11 x12 (Q55 ns D (.pv (pairsV plain)) a9 x10 x11 x12 a13 a14 a15 a16 a17 a18 a19 a20 a21 a22 a23)
theorem run55 {prog : Program} {w : World} {hb : Heap} (escP : List PV → Option (List Itm)) (stripP : List PV → Option PV) (treeP : List PV → Option PV) (modeP : List PV → Option PV) (isdirP : List PV → Option PV) (encbP : List PV → Option PV) (lineP : List PV → Option PV) (decodeP : List PV → Option PV) (closedP : List PV → Option PV) (openedP : List PV → Option PV) (leftP : List PV → Option PV) (octetsP : List PV → Option PV) (preP : List PV → Option PV) (h_sum : FV prog w hb "sum" 0 sumP) (h_max : FV prog w hb "max" 0 maxP) (h_len : FV prog w hb "len" 0 lenP) (i_range : IA prog w hb "range" 0 rangeP) (h_chr : FV prog w hb "chr" 0 chrP) (h_bytes : FV prog w hb "bytes" 0 bytesP) (i_iter_escaped_chars : IV prog w hb "_iter_escaped_chars" 2 escP) (i_zip : IV prog w hb "zip" 0 zipP) (h_law_tree : FV prog w hb "_law_tree" 1 treeP) (h_filemode : FV prog w hb "filemode" 2 modeP) (h_S_ISDIR : FV prog w hb "S_ISDIR" 2 isdirP) (h_b64encode : FV prog w hb "b64encode" 3 encbP) (h_law_line : FV prog w hb "_law_line" 1 lineP) (h_decode_rfc2231 : FV prog w hb "decode_rfc2231" 1 decodeP) (h_law_closed : FV prog w hb "_law_closed" 1 closedP) (h_law_opened : FV prog w hb "_law_opened" 3 openedP) (h_law_left : FV prog w hb "_law_left" 2 leftP) (h_strip_quoted_realnames : FV prog w hb "_strip_quoted_realnames" 3 stripP) (h_law_octets : FV prog w hb "_law_octets" 4 octetsP) (h_pre_parse_validation : FV prog w hb "_pre_parse_validation" 5 preP) :
    ∃ g, XSs prog w hb (fnScope (nth 55)) 5 (fnBody (nth 55)) g ∧ ((∀ l : List Nat, escP [.str l] = some ((items 0 l).map encI)) → (∀ l : List Nat, l.length ≤ LIM → stripP [.str l] = some (.str (strip l))) →
      (∀ ns : List Int, ns.length ≤ 63 → ∃ r : PV, (∃ D : List It, DOk D ∧ r = .tup [modesV D, intsV (D.map It.ab), strsV (D.map fun x => [92, x.nm]), stuffV D]) ∧ treeP [.lst (ns.map .int)] = some r) →
      (∀ x : It, x.kind < 16 → x.perm < 4096 → modeP [.int ((x.mode : Nat) : Int)] = some (.str x.row)) → (∀ m : Nat, isdirP [.int (m : Int)] = some (.bool (m / 4096 % 16 == 4))) →
      (∀ l : List Nat, l.length ≤ 3 → (∀ n ∈ l, n < 256) → encbP [.byt (l.map (·.toUInt8))] = some (.byt ((fourL l).map (·.toUInt8)))) →
      (∀ (D : List It) (who : Nat) (pairs : List (List Nat × List Nat)), DOk D → who < 3 → pairs.length = 4 → (∀ p ∈ pairs, p.1.length ≤ 1 ∧ p.2.length ≤ 1) → lineP (in49 D who pairs) = some (.str (lineS D who pairs))) →
      (∀ a b : List Nat, 39 ∉ a → 39 ∉ b → (a ++ [39] ++ b).length ≤ 1000000 → decodeP [.str (a ++ [39] ++ b)] = some (.tup [.none, .none, .str (a ++ [39] ++ b)])) →
      (∀ a b d : List Nat, 39 ∉ a → 39 ∉ b → (a ++ [39] ++ b ++ [39] ++ d).length ≤ 1000000 → decodeP [.str (a ++ [39] ++ b ++ [39] ++ d)] = some (.lst [.str a, .str b, .str d])) →
      (∀ (D : List It) (who : Nat), DOk D → who < 3 → closedP [modesV D, intsV (D.map It.ab), .int (who : Int)] = some (nums (closedL D who))) →
      (∀ l : List Nat, l.length ≤ LIM → openedP [.str l] = some (.str (opened l))) →
      (∀ (D : List It) (who : Nat) (cl : List Nat) (level : Nat), DOk D → who < 3 → cl.length = 4 → leftP [modesV D, intsV (D.map It.ab), strsV (D.map fun x => [92, x.nm]), stuffV D, .int (who : Int), nums cl, .int (level : Int)] = some (.str (leftS D who cl level))) →
      (∀ (D : List It) (who lv : Nat), DOk D → octetsP [.str (leftAt D who lv)] = some (.lst ((seenL D (closedL D who) lv).map .byt))) →
      (∀ ls : List (List Nat), ls.length ≤ LIM → (∀ l ∈ ls, l.length ≤ LIM) → preP [.lst (ls.map .str)] = some (.lst ((ls.map keep).map .str))) →
      ∀ ns : List Int, ns.length ≤ 63 → runP (fnScope (nth 55)).names [("script" : Str)] g [.lst (ns.map .int)] = some (.bool true)) := by
  refine' ⟨_, ?w, ?p⟩; rotate_left
  conv in (fnBody _) => whnf
  conv in (fnScope _) => whnf
  with_reducible
   refine' XSs.cons ?_ ?_; rotate_left 2; refine' XS.unpack ?_ ?_ (fun Z => by kernel_rfl) (fun Z => by kernel_rfl) (fun Z => by kernel_rfl) (fun Z => by kernel_rfl); rotate_left 2; refine' TGs.cons ?_ ?_ (fun Z => by kernel_rfl); rotate_left 2; refine' TG.loc (i := 1) (by kernel_rfl); refine' TGs.cons ?_ ?_ (fun Z => by kernel_rfl); rotate_left 2; refine' TG.cel (i := 2) (by kernel_rfl)
   refine' TGs.cons ?_ ?_ (fun Z => by kernel_rfl); rotate_left 2; refine' TG.cel (i := 3) (by kernel_rfl); refine' TGs.cons ?_ ?_ (fun Z => by kernel_rfl); rotate_left 2; refine' TG.cel (i := 4) (by kernel_rfl); refine' TGs.nil; refine' XE.cv (by assumption) ?_; rotate_left; refine' XEs.co ?_ ?_; rotate_left 2; refine' XE.lo 0; refine' XEs.nil; refine' XSs.cons ?_ ?_; rotate_left 2
   refine' XS.assignC (i := 5) (by kernel_rfl) ?_ (fun Z he => swaps_cell he (by kernel_rfl)); rotate_left; refine' XE.comp ⟨by kernel_rfl, by decide +kernel, by decide +kernel, by decide +kernel, by kernel_rfl⟩ ?_ ?_ ?_ ?_ (fun Z Z => by kernel_rfl); rotate_left 4; refine' XI.val ?_; rotate_left; refine' XE.lo 1; refine' LT.one ?_; rotate_left; refine' LG.loc (i := 1) (by kernel_rfl)
   refine' XTs.nil; refine' XE.cv (by assumption) ?_; rotate_left; refine' XEs.co ?_ ?_; rotate_left 2; refine' XE.lo 1; refine' XEs.nil; refine' XSs.cons ?_ ?_; rotate_left 2; refine' XS.assignC (i := 6) (by kernel_rfl) ?_ (fun Z he => swaps_cell he (by kernel_rfl)); rotate_left
   refine' XE.comp ⟨by kernel_rfl, by decide +kernel, by decide +kernel, by decide +kernel, by kernel_rfl⟩ ?_ ?_ ?_ ?_ (fun Z Z => by kernel_rfl); rotate_left 4; refine' XI.val ?_; rotate_left; refine' XE.lo 1; refine' LT.one ?_; rotate_left; refine' LG.loc (i := 1) (by kernel_rfl); refine' XTs.nil; refine' XE.cv (by assumption) ?_; rotate_left; refine' XEs.co ?_ ?_; rotate_left 2; refine' XE.lo 1
   refine' XEs.nil; refine' XSs.cons ?_ ?_; rotate_left 2; refine' XS.ite ?_ ?_ ?_; rotate_left 3; refine' XT.cmp ?_ ?_ (by kernel_rfl); rotate_left 2; refine' XE.comp ⟨by kernel_rfl, by decide +kernel, by decide +kernel, by decide +kernel, by kernel_rfl⟩ ?_ ?_ ?_ ?_ (fun Z Z => by kernel_rfl); rotate_left 4
   refine' XI.callIV (by kernel_rfl) (by assumption) ?_ (by decide) (by kernel_rfl) (fun Z => by kernel_rfl) (fun Z => by kernel_rfl); rotate_left; refine' XEs.co ?_ ?_; rotate_left 2; refine' XE.ce 6; refine' XEs.co ?_ ?_; rotate_left 2; refine' XE.lo 1; refine' XEs.nil; refine' LT.many ?_ (fun Z => by kernel_rfl) (fun Z => by kernel_rfl); rotate_left
   refine' LGs.cons ?_ ?_ (fun Z => by kernel_rfl); rotate_left 2; refine' LG.loc (i := 1) (by kernel_rfl); refine' LGs.cons ?_ ?_ (fun Z => by kernel_rfl); rotate_left 2; refine' LG.loc (i := 2) (by kernel_rfl); refine' LGs.nil; refine' XTs.nil; refine' XE.cmp ?_ ?_ (by kernel_rfl); rotate_left 2; refine' XE.lo 1; refine' XE.cmp ?_ ?_ (by kernel_rfl); rotate_left 2
   refine' XE.bin ?_ ?_; rotate_left 2; refine' XE.lo 2; refine' XE.int; refine' XE.int; refine' XE.bin ?_ ?_; rotate_left 2; refine' XE.ofL (XL.lst ?_); rotate_left; refine' XEs.co ?_ ?_; rotate_left 2; refine' XE.bool; refine' XEs.nil; refine' XE.int; refine' XSs.cons ?_ ?_; rotate_left 2; refine' XS.ret ?_; rotate_left; refine' XE.bool; refine' XSs.nil; refine' XSs.nil
   refine' XSs.cons ?_ ?_; rotate_left 2; refine' XS.assignC (i := 7) (by kernel_rfl) ?_ (fun Z he => swaps_cell he (by kernel_rfl)); rotate_left; refine' XE.comp ⟨by kernel_rfl, by decide +kernel, by decide +kernel, by decide +kernel, by kernel_rfl⟩ ?_ ?_ ?_ ?_ (fun Z Z => by kernel_rfl); rotate_left 4; refine' XI.val ?_; rotate_left; refine' XE.ce 4; refine' LT.one ?_; rotate_left
   refine' LG.loc (i := 1) (by kernel_rfl); refine' XTs.nil; refine' XE.meth ?_ ?_ F.plainAttrs_str F.slot_str_join F.type_str_join CB.join (Nat.zero_le _) (fun Z => by kernel_rfl) (fun Z => by kernel_rfl) (by kernel_rfl) (fun Z => by kernel_rfl) (fun Z => by kernel_rfl); rotate_left 2; refine' XE.str; refine' XEs.co ?_ ?_; rotate_left 2
   refine' XE.comp ⟨by kernel_rfl, by decide +kernel, by decide +kernel, by decide +kernel, by kernel_rfl⟩ ?_ ?_ ?_ ?_ (fun Z Z => by kernel_rfl); rotate_left 4; refine' XI.val ?_; rotate_left; refine' XE.cv (by assumption) ?_; rotate_left; refine' XEs.co ?_ ?_; rotate_left 2; refine' XE.cv (by assumption) ?_; rotate_left; refine' XEs.co ?_ ?_; rotate_left 2; refine' XE.lo 1; refine' XEs.nil
   refine' XEs.nil; refine' LT.one ?_; rotate_left; refine' LG.loc (i := 1) (by kernel_rfl); refine' XTs.nil; refine' XE.cv (by assumption) ?_; rotate_left; refine' XEs.co ?_ ?_; rotate_left 2; refine' XE.lo 1; refine' XEs.nil; refine' XEs.nil; refine' XSs.cons ?_ ?_; rotate_left 2; refine' XS.assignC (i := 8) (by kernel_rfl) ?_ (fun Z Z => by kernel_rfl); rotate_left
   refine' XE.bin ?_ ?_; rotate_left 2; refine' XE.ofL (XL.lst ?_); rotate_left; refine' XEs.co ?_ ?_; rotate_left 2; refine' XE.ofL (XL.lst ?_); rotate_left; refine' XEs.co ?_ ?_; rotate_left 2; refine' XE.str; refine' XEs.co ?_ ?_; rotate_left 2; refine' XE.str; refine' XEs.nil; refine' XEs.nil; refine' XE.int; refine' XSs.cons ?_ ?_; rotate_left 2
   refine' XS.comp (i := 10) (by kernel_rfl) ⟨by kernel_rfl, by decide +kernel, by decide +kernel, by decide +kernel, by kernel_rfl⟩ ?_ ?_ ?_ ?_ (fun Z Z => by kernel_rfl) (by kernel_rfl); rotate_left 4; refine' XI.callIA (by kernel_rfl) (by assumption) ?_ (by decide) (by kernel_rfl) (fun Z => by kernel_rfl) (fun Z => by kernel_rfl); rotate_left; refine' XEs.co ?_ ?_; rotate_left 2; refine' XE.int
   refine' XEs.nil; refine' LT.one ?_; rotate_left; refine' LG.loc (i := 1) (by kernel_rfl); refine' XTs.nil; refine' XE.cv (by assumption) ?_; rotate_left; refine' XEs.co ?_ ?_; rotate_left 2; refine' XE.ce 7; refine' XEs.co ?_ ?_; rotate_left 2; refine' XE.ce 4; refine' XEs.co ?_ ?_; rotate_left 2; refine' XE.ce 3; refine' XEs.co ?_ ?_; rotate_left 2; refine' XE.ce 5
   refine' XEs.co ?_ ?_; rotate_left 2; refine' XE.ce 8; refine' XEs.co ?_ ?_; rotate_left 2; refine' XE.lo 1; refine' XEs.co ?_ ?_; rotate_left 2; refine' XE.ce 6; refine' XEs.nil; refine' XSs.cons ?_ ?_; rotate_left 2; refine' XS.set 11 ?_; rotate_left; refine' XE.bin ?_ ?_; rotate_left 2; refine' XE.bin ?_ ?_; rotate_left 2
   refine' XE.idxB (i := 10) (by kernel_rfl) ?_ (by kernel_rfl) (fun Z Z => by kernel_rfl); rotate_left; refine' XE.int; refine' XE.str; refine' XE.idxB (i := 10) (by kernel_rfl) ?_ (by kernel_rfl) (fun Z Z => by kernel_rfl); rotate_left; refine' XE.int; refine' XSs.cons ?_ ?_; rotate_left 2; refine' XS.ite ?_ ?_ ?_; rotate_left 3; refine' XT.all ?_; rotate_left
   refine' XAll.orCons ?_ ?_; rotate_left 2; refine' XT.cmp ?_ ?_ (by kernel_rfl); rotate_left 2; refine' XE.cv (by assumption) ?_; rotate_left; refine' XEs.co ?_ ?_; rotate_left 2
   refine' XE.meth ?_ ?_ F.plainAttrs_str F.slot_str_join F.type_str_join CB.join (Nat.zero_le _) (fun Z => by kernel_rfl) (fun Z => by kernel_rfl) (by kernel_rfl) (fun Z => by kernel_rfl) (fun Z => by kernel_rfl); rotate_left 2; refine' XE.str; refine' XEs.co ?_ ?_; rotate_left 2; refine' XE.bin ?_ ?_; rotate_left 2; refine' XE.lo 10; refine' XE.slc ?_ ?_ ?_; rotate_left 3; refine' XE.lo 10
   refine' XO.none; refine' XO.some ?_; rotate_left; refine' XE.int; refine' XEs.nil; refine' XEs.nil; refine' XE.bin ?_ ?_; rotate_left 2; refine' XE.slc ?_ ?_ ?_; rotate_left 3; refine' XE.lo 10; refine' XO.none; refine' XO.some ?_; rotate_left; refine' XE.int; refine' XE.ofL (XL.lst ?_); rotate_left; refine' XEs.co ?_ ?_; rotate_left 2; refine' XE.lo 11; refine' XEs.nil
   refine' XAll.orCons ?_ ?_; rotate_left 2; refine' XT.cmp ?_ ?_ (by kernel_rfl); rotate_left 2; refine' XE.cv (by assumption) ?_; rotate_left; refine' XEs.co ?_ ?_; rotate_left 2; refine' XE.lo 11; refine' XEs.nil; refine' XE.tup ?_ (by decide); rotate_left; refine' XEs.co ?_ ?_; rotate_left 2; refine' XE.non; refine' XEs.co ?_ ?_; rotate_left 2; refine' XE.non
   refine' XEs.co ?_ ?_; rotate_left 2; refine' XE.lo 11; refine' XEs.nil; refine' XAll.orNil; refine' XSs.cons ?_ ?_; rotate_left 2; refine' XS.ret ?_; rotate_left; refine' XE.bool; refine' XSs.nil; refine' XSs.nil; refine' XSs.cons ?_ ?_; rotate_left 2; refine' XS.set 12 ?_; rotate_left; refine' XE.bin ?_ ?_; rotate_left 2; refine' XE.bin ?_ ?_; rotate_left 2
   refine' XE.cv (by assumption) ?_; rotate_left; refine' XEs.co ?_ ?_; rotate_left 2; refine' XE.lo 1; refine' XEs.nil; refine' XE.int; refine' XE.int; refine' XSs.cons ?_ ?_; rotate_left 2; refine' XS.for ?_ ?_ ?_ ?_ (fun Z Z => by kernel_rfl); rotate_left 4
   refine' XI.callIA (by kernel_rfl) (by assumption) ?_ (by decide) (by kernel_rfl) (fun Z => by kernel_rfl) (fun Z => by kernel_rfl); rotate_left; refine' XEs.co ?_ ?_; rotate_left 2; refine' XE.int; refine' XEs.nil; refine' TT.one ?_; rotate_left; refine' TG.cel (i := 9) (by kernel_rfl); refine' XSs.cons ?_ ?_; rotate_left 2
   refine' XS.assignC (i := 13) (by kernel_rfl) ?_ (fun Z Z => by kernel_rfl); rotate_left; refine' XE.cv (by assumption) ?_; rotate_left; refine' XEs.co ?_ ?_; rotate_left 2; refine' XE.lo 1; refine' XEs.co ?_ ?_; rotate_left 2; refine' XE.ce 2; refine' XEs.co ?_ ?_; rotate_left 2; refine' XE.ce 9; refine' XEs.nil; refine' XSs.cons ?_ ?_; rotate_left 2; refine' XS.set 14 ?_; rotate_left
   refine' XE.idxB (i := 10) (by kernel_rfl) ?_ (by kernel_rfl) (fun Z Z => by kernel_rfl); rotate_left; refine' XE.ce 9; refine' XSs.cons ?_ ?_; rotate_left 2; refine' XS.for ?_ ?_ ?_ ?_ (fun Z Z => by kernel_rfl); rotate_left 4; refine' XI.callIA (by kernel_rfl) (by assumption) ?_ (by decide) (by kernel_rfl) (fun Z => by kernel_rfl) (fun Z => by kernel_rfl); rotate_left
   refine' XEs.co ?_ ?_; rotate_left 2; refine' XE.bin ?_ ?_; rotate_left 2; refine' XE.int; refine' XE.ife ?_ ?_ ?_; rotate_left 3; refine' XT.cmp ?_ ?_ (by kernel_rfl); rotate_left 2; refine' XE.ce 9; refine' XE.lo 12; refine' XE.cv (by assumption) ?_; rotate_left; refine' XEs.co ?_ ?_; rotate_left 2; refine' XE.ce 13; refine' XEs.nil; refine' XE.int; refine' XEs.nil
   refine' TT.one ?_; rotate_left; refine' TG.cel (i := 15) (by kernel_rfl); refine' XSs.cons ?_ ?_; rotate_left 2; refine' XS.set 14 ?_; rotate_left; refine' XE.ife ?_ ?_ ?_; rotate_left 3; refine' XT.cmp ?_ ?_ (by kernel_rfl); rotate_left 2; refine' XE.ce 15; refine' XE.int; refine' XE.cv (by assumption) ?_; rotate_left; refine' XEs.co ?_ ?_; rotate_left 2; refine' XE.lo 14; refine' XEs.nil
   refine' XE.lo 14; refine' XSs.cons ?_ ?_; rotate_left 2; refine' XS.set 16 ?_; rotate_left; refine' XE.cv (by assumption) ?_; rotate_left; refine' XEs.co ?_ ?_; rotate_left 2; refine' XE.lo 1; refine' XEs.co ?_ ?_; rotate_left 2; refine' XE.ce 2; refine' XEs.co ?_ ?_; rotate_left 2; refine' XE.ce 3; refine' XEs.co ?_ ?_; rotate_left 2; refine' XE.ce 4; refine' XEs.co ?_ ?_; rotate_left 2
   refine' XE.ce 9; refine' XEs.co ?_ ?_; rotate_left 2; refine' XE.ce 13; refine' XEs.co ?_ ?_; rotate_left 2; refine' XE.ce 15; refine' XEs.nil; refine' XSs.cons ?_ ?_; rotate_left 2; refine' XS.comp (i := 17) (by kernel_rfl) ⟨by kernel_rfl, by decide +kernel, by decide +kernel, by decide +kernel, by kernel_rfl⟩ ?_ ?_ ?_ ?_ (fun Z Z => by kernel_rfl) (by kernel_rfl); rotate_left 4
   refine' XI.callIA (by kernel_rfl) (by assumption) ?_ (by decide) (by kernel_rfl) (fun Z => by kernel_rfl) (fun Z => by kernel_rfl); rotate_left; refine' XEs.co ?_ ?_; rotate_left 2; refine' XE.int; refine' XEs.nil; refine' LT.one ?_; rotate_left; refine' LG.loc (i := 1) (by kernel_rfl); refine' XTs.one ?_; rotate_left; refine' XT.all ?_; rotate_left; refine' XAll.andCons ?_ ?_; rotate_left 2
   refine' XT.cmp ?_ ?_ (by kernel_rfl); rotate_left 2; refine' XE.idx ?_ ?_ (fun Z Z => by kernel_rfl); rotate_left 2; refine' XE.ce 3; refine' XE.lo 1; refine' XE.ce 4; refine' XAll.andCons ?_ ?_; rotate_left 2; refine' XT.cmp ?_ ?_ (by kernel_rfl); rotate_left 2; refine' XE.idx ?_ ?_ (fun Z Z => by kernel_rfl); rotate_left 2; refine' XE.ce 5; refine' XE.lo 1
   refine' XE.ofL (XL.lst ?_); rotate_left; refine' XEs.nil; refine' XAll.andNil; refine' XE.cv (by assumption) ?_; rotate_left; refine' XEs.co ?_ ?_; rotate_left 2; refine' XE.idx ?_ ?_ (fun Z Z => by kernel_rfl); rotate_left 2; refine' XE.ce 5; refine' XE.lo 1; refine' XEs.nil; refine' XSs.cons ?_ ?_; rotate_left 2; refine' XS.ite ?_ ?_ ?_; rotate_left 3; refine' XT.all ?_; rotate_left
   refine' XAll.orCons ?_ ?_; rotate_left 2; refine' XT.cmp ?_ ?_ (by kernel_rfl); rotate_left 2; refine' XE.cv (by assumption) ?_; rotate_left; refine' XEs.co ?_ ?_; rotate_left 2; refine' XE.lo 14; refine' XEs.nil; refine' XE.lo 16; refine' XAll.orCons ?_ ?_; rotate_left 2; refine' XT.cmp ?_ ?_ (by kernel_rfl); rotate_left 2; refine' XE.cv (by assumption) ?_; rotate_left
   refine' XEs.co ?_ ?_; rotate_left 2; refine' XE.lo 16; refine' XEs.nil; refine' XE.lo 17; refine' XAll.orNil; refine' XSs.cons ?_ ?_; rotate_left 2; refine' XS.ret ?_; rotate_left; refine' XE.bool; refine' XSs.nil; refine' XSs.nil; refine' XSs.nil; refine' XSs.nil; refine' XSs.cons ?_ ?_; rotate_left 2; refine' XS.ite ?_ ?_ ?_; rotate_left 3; refine' XT.cmp ?_ ?_ (by kernel_rfl); rotate_left 2
   refine' XE.ce 9; refine' XE.lo 12; refine' XSs.cons ?_ ?_; rotate_left 2; refine' XS.set 18 ?_; rotate_left; refine' XE.bin ?_ ?_; rotate_left 2; refine' XE.bin ?_ ?_; rotate_left 2; refine' XE.bin ?_ ?_; rotate_left 2; refine' XE.str; refine' XE.lo 14; refine' XE.bin ?_ ?_; rotate_left 2; refine' XE.str; refine' XE.int; refine' XE.str; refine' XSs.cons ?_ ?_; rotate_left 2
   refine' XS.set 19 ?_; rotate_left; refine' XE.meth ?_ ?_ F.plainAttrs_str F.slot_str_join F.type_str_join CB.join (Nat.zero_le _) (fun Z => by kernel_rfl) (fun Z => by kernel_rfl) (by kernel_rfl) (fun Z => by kernel_rfl) (fun Z => by kernel_rfl); rotate_left 2; refine' XE.str; refine' XEs.co ?_ ?_; rotate_left 2
   refine' XE.comp ⟨by kernel_rfl, by decide +kernel, by decide +kernel, by decide +kernel, by kernel_rfl⟩ ?_ ?_ ?_ ?_ (fun Z Z => by kernel_rfl); rotate_left 4; refine' XI.callIV (by kernel_rfl) (by assumption) ?_ (by decide) (by kernel_rfl) (fun Z => by kernel_rfl) (fun Z => by kernel_rfl); rotate_left; refine' XEs.co ?_ ?_; rotate_left 2; refine' XE.bin ?_ ?_; rotate_left 2; refine' XE.lo 14
   refine' XE.str; refine' XEs.nil; refine' LT.many ?_ (fun Z => by kernel_rfl) (fun Z => by kernel_rfl); rotate_left; refine' LGs.cons ?_ ?_ (fun Z => by kernel_rfl); rotate_left 2; refine' LG.loc (i := 1) (by kernel_rfl); refine' LGs.cons ?_ ?_ (fun Z => by kernel_rfl); rotate_left 2; refine' LG.loc (i := 2) (by kernel_rfl); refine' LGs.nil; refine' XTs.nil; refine' XE.lo 2; refine' XEs.nil
   refine' XSs.cons ?_ ?_; rotate_left 2; refine' XS.ite ?_ ?_ ?_; rotate_left 3; refine' XT.all ?_; rotate_left; refine' XAll.orCons ?_ ?_; rotate_left 2; refine' XT.cmp ?_ ?_ (by kernel_rfl); rotate_left 2; refine' XE.cv (by assumption) ?_; rotate_left; refine' XEs.co ?_ ?_; rotate_left 2; refine' XE.lo 18; refine' XEs.nil; refine' XE.bin ?_ ?_; rotate_left 2; refine' XE.lo 16; refine' XE.str
   refine' XAll.orCons ?_ ?_; rotate_left 2; refine' XT.cmp ?_ ?_ (by kernel_rfl); rotate_left 2; refine' XE.lo 19; refine' XE.bin ?_ ?_; rotate_left 2; refine' XE.lo 16; refine' XE.str; refine' XAll.orNil; refine' XSs.cons ?_ ?_; rotate_left 2; refine' XS.ret ?_; rotate_left; refine' XE.bool; refine' XSs.nil; refine' XSs.nil; refine' XSs.cons ?_ ?_; rotate_left 2
   refine' XS.comp2 (i := 20) (by kernel_rfl) ⟨by kernel_rfl, by decide +kernel, by decide +kernel, by decide +kernel, by kernel_rfl⟩ ?_ ?_ ?_ ?_ ?_ ?_ ?_ (fun Z Z => by kernel_rfl) (fun Z Z => by kernel_rfl) (by kernel_rfl); rotate_left 7; refine' XI.callIA (by kernel_rfl) (by assumption) ?_ (by decide) (by kernel_rfl) (fun Z => by kernel_rfl) (fun Z => by kernel_rfl); rotate_left
   refine' XEs.co ?_ ?_; rotate_left 2; refine' XE.int; refine' XEs.nil; refine' LT.one ?_; rotate_left; refine' LG.loc (i := 1) (by kernel_rfl); refine' XTs.one ?_; rotate_left; refine' XT.val ?_ (fun Z Z => by kernel_rfl); rotate_left; refine' XE.idx ?_ ?_ (fun Z Z => by kernel_rfl); rotate_left 2; refine' XE.ce 3; refine' XE.lo 1; refine' XI.val ?_; rotate_left
   refine' XE.tup ?_ (by decide); rotate_left; refine' XEs.co ?_ ?_; rotate_left 2; refine' XE.ofL (XL.lst ?_); rotate_left; refine' XEs.co ?_ ?_; rotate_left 2; refine' XE.str; refine' XEs.co ?_ ?_; rotate_left 2; refine' XE.str; refine' XEs.nil; refine' XEs.co ?_ ?_; rotate_left 2; refine' XE.ofL (XL.lst ?_); rotate_left; refine' XEs.co ?_ ?_; rotate_left 2; refine' XE.str
   refine' XEs.co ?_ ?_; rotate_left 2; refine' XE.str; refine' XEs.nil; refine' XEs.nil; refine' LT.one ?_; rotate_left; refine' LG.loc (i := 2) (by kernel_rfl); refine' XTs.nil; refine' XE.tup ?_ (by decide); rotate_left; refine' XEs.co ?_ ?_; rotate_left 2; refine' XE.lo 1; refine' XEs.co ?_ ?_; rotate_left 2; refine' XE.lo 2; refine' XEs.nil; refine' XSs.cons ?_ ?_; rotate_left 2
   refine' XS.comp (i := 21) (by kernel_rfl) ⟨by kernel_rfl, by decide +kernel, by decide +kernel, by decide +kernel, by kernel_rfl⟩ ?_ ?_ ?_ ?_ (fun Z Z => by kernel_rfl) (by kernel_rfl); rotate_left 4; refine' XI.val ?_; rotate_left; refine' XE.lo 20; refine' LT.many ?_ (fun Z => by kernel_rfl) (fun Z => by kernel_rfl); rotate_left; refine' LGs.cons ?_ ?_ (fun Z => by kernel_rfl); rotate_left 2
   refine' LG.loc (i := 1) (by kernel_rfl); refine' LGs.cons ?_ ?_ (fun Z => by kernel_rfl); rotate_left 2; refine' LG.loc (i := 2) (by kernel_rfl); refine' LGs.nil; refine' XTs.nil; refine' XE.cv (by assumption) ?_; rotate_left; refine' XEs.co ?_ ?_; rotate_left 2; refine' XE.ce 8; refine' XEs.co ?_ ?_; rotate_left 2; refine' XE.ce 5; refine' XEs.co ?_ ?_; rotate_left 2; refine' XE.ce 4
   refine' XEs.co ?_ ?_; rotate_left 2; refine' XE.ce 6; refine' XEs.co ?_ ?_; rotate_left 2; refine' XE.ce 10; refine' XEs.co ?_ ?_; rotate_left 2; refine' XE.ce 9; refine' XEs.co ?_ ?_; rotate_left 2; refine' XE.bin ?_ ?_; rotate_left 2; refine' XE.bin ?_ ?_; rotate_left 2; refine' XE.slc ?_ ?_ ?_; rotate_left 3; refine' XE.ce 7; refine' XO.none; refine' XO.some ?_; rotate_left; refine' XE.lo 1
   refine' XE.ofL (XL.lst ?_); rotate_left; refine' XEs.co ?_ ?_; rotate_left 2; refine' XE.lo 2; refine' XEs.nil; refine' XE.slc ?_ ?_ ?_; rotate_left 3; refine' XE.ce 7; refine' XO.some ?_; rotate_left; refine' XE.bin ?_ ?_; rotate_left 2; refine' XE.lo 1; refine' XE.int; refine' XO.none; refine' XEs.nil; refine' XSs.cons ?_ ?_; rotate_left 2
   refine' XS.comp (i := 22) (by kernel_rfl) ⟨by kernel_rfl, by decide +kernel, by decide +kernel, by decide +kernel, by kernel_rfl⟩ ?_ ?_ ?_ ?_ (fun Z Z => by kernel_rfl) (by kernel_rfl); rotate_left 4; refine' XI.val ?_; rotate_left; refine' XE.lo 20; refine' LT.many ?_ (fun Z => by kernel_rfl) (fun Z => by kernel_rfl); rotate_left; refine' LGs.cons ?_ ?_ (fun Z => by kernel_rfl); rotate_left 2
   refine' LG.loc (i := 1) (by kernel_rfl); refine' LGs.cons ?_ ?_ (fun Z => by kernel_rfl); rotate_left 2; refine' LG.loc (i := 2) (by kernel_rfl); refine' LGs.nil; refine' XTs.nil; refine' XE.or2 ?_ ?_; rotate_left 2; refine' XE.cmp ?_ ?_ (by kernel_rfl); rotate_left 2; refine' XE.idx ?_ ?_ (fun Z Z => by kernel_rfl); rotate_left 2; refine' XE.ce 4; refine' XE.lo 1; refine' XE.int
   refine' XE.and2 ?_ ?_; rotate_left 2; refine' XE.cmp ?_ ?_ (by kernel_rfl); rotate_left 2; refine' XE.idxB (i := 2) (by kernel_rfl) ?_ (by kernel_rfl) (fun Z Z => by kernel_rfl); rotate_left; refine' XE.int; refine' XE.str; refine' XE.cmp ?_ ?_ (by kernel_rfl); rotate_left 2; refine' XE.idx ?_ ?_ (fun Z Z => by kernel_rfl); rotate_left 2; refine' XE.ce 3; refine' XE.lo 1; refine' XE.int
   refine' XSs.cons ?_ ?_; rotate_left 2; refine' XS.comp (i := 23) (by kernel_rfl) ⟨by kernel_rfl, by decide +kernel, by decide +kernel, by decide +kernel, by kernel_rfl⟩ ?_ ?_ ?_ ?_ (fun Z Z => by kernel_rfl) (by kernel_rfl); rotate_left 4; refine' XI.callIV (by kernel_rfl) (by assumption) ?_ (by decide) (by kernel_rfl) (fun Z => by kernel_rfl) (fun Z => by kernel_rfl); rotate_left
   refine' XEs.co ?_ ?_; rotate_left 2; refine' XE.lo 21; refine' XEs.co ?_ ?_; rotate_left 2; refine' XE.lo 22; refine' XEs.nil; refine' LT.many ?_ (fun Z => by kernel_rfl) (fun Z => by kernel_rfl); rotate_left; refine' LGs.cons ?_ ?_ (fun Z => by kernel_rfl); rotate_left 2; refine' LG.loc (i := 1) (by kernel_rfl); refine' LGs.cons ?_ ?_ (fun Z => by kernel_rfl); rotate_left 2
   refine' LG.loc (i := 2) (by kernel_rfl); refine' LGs.nil; refine' XTs.nil; refine' XE.ife ?_ ?_ ?_; rotate_left 3; refine' XT.val ?_ (fun Z Z => by kernel_rfl); rotate_left; refine' XE.lo 2; refine' XE.lo 1; refine' XE.str; refine' XSs.cons ?_ ?_; rotate_left 2; refine' XS.ite ?_ ?_ ?_; rotate_left 3; refine' XT.cmp ?_ ?_ (by kernel_rfl); rotate_left 2
   refine' XE.cv (by assumption) ?_; rotate_left; refine' XEs.co ?_ ?_; rotate_left 2; refine' XE.bin ?_ ?_; rotate_left 2; refine' XE.slc ?_ ?_ ?_; rotate_left 3; refine' XE.lo 10; refine' XO.some ?_; rotate_left; refine' XE.ce 9; refine' XO.some ?_; rotate_left; refine' XE.bin ?_ ?_; rotate_left 2; refine' XE.ce 9; refine' XE.int; refine' XE.lo 21; refine' XEs.nil
   refine' XE.bin ?_ ?_; rotate_left 2; refine' XE.slc ?_ ?_ ?_; rotate_left 3; refine' XE.lo 10; refine' XO.some ?_; rotate_left; refine' XE.ce 9; refine' XO.some ?_; rotate_left; refine' XE.bin ?_ ?_; rotate_left 2; refine' XE.ce 9; refine' XE.int; refine' XE.lo 23; refine' XSs.cons ?_ ?_; rotate_left 2; refine' XS.ret ?_; rotate_left; refine' XE.bool; refine' XSs.nil; refine' XSs.nil
   refine' XSs.nil; refine' XSs.nil; refine' XSs.nil; refine' XSs.nil; refine' XSs.cons ?_ ?_; rotate_left 2; refine' XS.ret ?_; rotate_left; refine' XE.bool; refine' XSs.nil
  case p =>
    intro hesc hstrip htree hmode hisdir henc hline hdec2 hdec3 hclosed hopened hleft hoct hpre ns hns
    obtain ⟨r, ⟨D, hD, rfl⟩, hr⟩ := htree ns hns
    have hDl : D.length ≤ LIM := by rw [hD.len]; decide
    refine runP_ret (L55 (.pv (.lst (ns.map .int))) .un .un .un .un .un .un .un .un .un .un .un .un .un .un .un .un .un .un .un .un .un .un .un) rfl (by kernel_rfl) ?_
    simp only [cs, cs_q5, cs_qo, cs_bad]
    refine Ret.next (L55 (.pv (.lst (ns.map .int))) (.pv (modesV D)) (.pv (intsV (D.map It.ab))) (.pv (strsV (D.map fun x => [92, x.nm]))) (.pv (stuffV D)) .un .un .un .un .un .un .un .un .un .un .un .un .un .un .un .un .un .un .un) ?_ ?_
    · simp only [Q55, L55, X0, Option.bind_some, hr]
      rfl
    refine Ret.next (L55 (.pv (.lst (ns.map .int))) (.pv (modesV D)) (.pv (intsV (D.map It.ab))) (.pv (strsV (D.map fun x => [92, x.nm]))) (.pv (stuffV D)) (.pv (strsV (D.map It.row))) .un .un .un .un .un .un .un .un .un .un .un .un .un .un .un .un .un .un) ?_ ?_
    · simp only [Q55, L55, X0, X1, X7, X8, Option.bind_some, items_modes]
      rw [comp_memE (bs := D) (enc := fun x : It => .one (.int ((x.mode : Nat) : Int))) (fun x : It => .str x.row) (Ln3 []) ?hc ?h0 hDl]
      case hc =>
        rintro x hx σ ⟨y, z, w, rfl⟩
        obtain ⟨h1, h2, -, -⟩ := hD.mem hx
        exact ⟨[y, .pv (.int ((x.mode : Nat) : Int)), w], rfl, rfl, by simp only [X0, X1, Option.bind_some, hmode x h1 h2], ln3 rfl⟩
      case h0 => exact (ln3 (y := .un) (z := .un) (u := .un) (by kernel_rfl))
      rw [Option.bind_some, show PV.lst (D.map fun x : It => PV.str x.row) = strsV (D.map It.row) by unfold strsV; rw [List.map_map]; rfl]
      rfl
    refine Ret.next (L55 (.pv (.lst (ns.map .int))) (.pv (modesV D)) (.pv (intsV (D.map It.ab))) (.pv (strsV (D.map fun x => [92, x.nm]))) (.pv (stuffV D)) (.pv (strsV (D.map It.row))) (.pv (bools (D.map fun x => x.kind == 4))) .un .un .un .un .un .un .un .un .un .un .un .un .un .un .un .un .un) ?_ ?_
    · simp only [Q55, L55, X0, X1, X7, X8, Option.bind_some, items_modes]
      rw [comp_memE (bs := D) (enc := fun x : It => .one (.int ((x.mode : Nat) : Int))) (fun x : It => .bool (x.kind == 4)) (Ln3 []) ?hc ?h0 hDl]
      case hc =>
        rintro x hx σ ⟨y, z, w, rfl⟩
        obtain ⟨h1, h2, -, -⟩ := hD.mem hx
        have e : x.mode / 4096 % 16 = x.kind := by rw [mode_kind h2, Nat.mod_eq_of_lt h1]
        exact ⟨[y, .pv (.int ((x.mode : Nat) : Int)), w], rfl, rfl, by simp only [X0, X1, Option.bind_some, hisdir, e], ln3 rfl⟩
      case h0 => exact (ln3 (y := .un) (z := .un) (u := .un) (by kernel_rfl))
      rw [Option.bind_some, show PV.lst (D.map fun x : It => PV.bool (x.kind == 4)) = bools (D.map fun x => x.kind == 4) by unfold bools; rw [List.map_map]; rfl]
      rfl
    refine Ret.next (L55 (.pv (.lst (ns.map .int))) (.pv (modesV D)) (.pv (intsV (D.map It.ab))) (.pv (strsV (D.map fun x => [92, x.nm]))) (.pv (stuffV D)) (.pv (strsV (D.map It.row))) (.pv (bools (D.map fun x => x.kind == 4))) .un .un .un .un .un .un .un .un .un .un .un .un .un .un .un .un .un) ?_ ?_
    · have hz : zipP [bools (D.map fun x => x.kind == 4), modesV D] = some (D.map fun x : It => .two (.bool (x.kind == 4)) (.int ((x.mode : Nat) : Int))) := by
        unfold bools modesV
        rw [List.map_map]
        show some (zipItems _ _) = _
        rw [zip_map]; rfl
      simp only [Q55, L55, X0, X1, Xp, Option.bind_some, hz]
      rw [comp_memE (bs := D) (enc := fun x : It => .two (.bool (x.kind == 4)) (.int ((x.mode : Nat) : Int))) (fun x : It => .bool true) (Ln3 []) ?hc ?h0 hDl]
      case hc =>
        rintro x hx σ ⟨y, z, w, rfl⟩
        obtain ⟨h1, h2, -, -⟩ := hD.mem hx
        have d1 : binP .FloorDiv (.int ((x.mode : Nat) : Int)) (.int 4096) = some (.int ((x.kind : Nat) : Int)) := by rw [← mode_kind h2]; exact fdiv_nat' _ 4096 (by decide) (by decide)
        have q2 : ((x.kind : Int) == 4) = (x.kind == 4) := by rw [Bool.eq_iff_iff, beq_iff_eq, beq_iff_eq]; lia
        exact ⟨[y, .pv (.bool (x.kind == 4)), .pv (.int ((x.mode : Nat) : Int))], rfl, rfl, by simp only [X0, X1, Xl, Xu, Option.bind_some, Option.map_some, d1, q2, beq_self_eq_true], ln3 rfl⟩
      case h0 => exact (ln3 (y := .un) (z := .un) (u := .un) (by kernel_rfl))
      obtain ⟨a, b, c, d, e⟩ := hD.four
      rw [e]
      rfl
    refine Ret.next (Q55 ns D .un .un .un .un .un .un .un .un .un .un .un .un .un .un .un .un) ?_ ?_
    · simp only [Q55, L55, X0, X1, X7, X8, X17, Option.bind_some, items_stuff]
      rw [comp_memE (bs := D) (enc := fun x : It => .one (nums x.st)) (fun x : It => .str (fourL x.st)) (Ln2 [.un, .un]) ?hc ?h0 hDl]
      case hc =>
        rintro x hx σ ⟨y, z, rfl⟩
        obtain ⟨-, -, h3, h4⟩ := hD.mem hx
        refine ⟨[y, .pv (nums x.st), .un, .un], rfl, rfl, ?_, ln2 rfl⟩
        have hb := bytesP_nums x.st h4 (by unfold LIM; lia)
        have hi : itemsP (.byt ((fourL x.st).map (·.toUInt8))) = some ((fourL x.st).map fun n : Nat => .one (.int (n : Int))) := by
          show some (List.map _ (List.map _ _)) = _
          rw [List.map_map]
          congr 1
          apply List.map_congr_left
          intro n hn
          show Itm.one (.int ((n.toUInt8.toNat : Nat) : Int)) = _
          rw [toU_nat (Nat.lt_trans (fourL_lt x.st n hn) (by decide))]
        have hfl := fourL_len x.st h3
        simp only [X0, X1, Option.bind_some, hb, henc x.st h3 h4, hi, ↓reduceIte]
        rw [comp_memE (bs := fourL x.st) (enc := fun n : Nat => .one (.int (n : Int))) (fun n : Nat => .str [n]) (Ln2 [.un]) ?hc2 ?h02 (by unfold LIM; lia)]
        case hc2 =>
          rintro n hn σ ⟨y, z, rfl⟩
          exact ⟨[y, .pv (.int (n : Int)), .un], rfl, rfl, by simp only [X0, X1, Option.bind_some, chr_nat n (fourL_lt x.st n hn)], ln2 rfl⟩
        case h02 => exact (ln2 (y := .un) (z := .un) (by kernel_rfl))
        rw [Option.bind_some, Option.bind_some, joinP_ones _ (by unfold LIM; lia)]
      case h0 => exact (ln2 (y := .un) (z := .un) (by kernel_rfl))
      rw [Option.bind_some, show PV.lst (D.map fun x : It => PV.str (fourL x.st)) = strsV (D.map fun x => fourL x.st) by unfold strsV; rw [List.map_map]; rfl]
      rfl
    refine Ret.next (Q55 ns D (.pv (pairsV plain)) .un .un .un .un .un .un .un .un .un .un .un .un .un .un .un) rfl ?_
    refine Ret.next (Q55 ns D (.pv (pairsV plain)) .un (.pv (strsV [lineS D 0 plain, lineS D 1 plain, lineS D 2 plain])) .un .un .un .un .un .un .un .un .un .un .un .un .un) ?_ ?_
    · have hrg : rangeP [.int 3] = some ([0, 1, 2].map fun k : Nat => .one (.int (k : Int))) := rfl
      simp only [Q55, L55, X7, X8, Option.bind_some, hrg]
      refine comp_goal (compP_mem (bs := [0, 1, 2]) (enc := fun k : Nat => .one (.int (k : Int))) (fun k : Nat => .str (lineS D k plain)) (Ln2 [.un, (.pv (intsV (D.map It.ab))), (.pv (bools (D.map fun x => x.kind == 4))), (.pv (strsV (D.map fun x => [92, x.nm]))), (.pv (pairsV plain)), (.pv (strsV (D.map It.row))), (.pv (strsV (D.map fun x => fourL x.st)))]) ?_ (ln2 (y := .un) (z := .un) (by kernel_rfl)) (by decide)) fun σ' => rfl
      rintro k hk σ ⟨y, z, rfl⟩
      have hk3 : k < 3 := by simp at hk; lia
      have hl := hline D k plain hD hk3 rfl (fun p hp => by rw [List.eq_of_mem_replicate hp]; decide)
      refine ⟨[y, .pv (.int (k : Int)), .un, (.pv (intsV (D.map It.ab))), (.pv (bools (D.map fun x => x.kind == 4))), (.pv (strsV (D.map fun x => [92, x.nm]))), (.pv (pairsV plain)), (.pv (strsV (D.map It.row))), (.pv (strsV (D.map fun x => fourL x.st)))], rfl, rfl, ?_, ln2 rfl⟩
      unfold in49 at hl
      simp only [X0, X1, Option.bind_some, hl]
    have i0 : itemP (strsV [lineS D 0 plain, lineS D 1 plain, lineS D 2 plain]) (.int 0) = some (.str (lineS D 0 plain)) := item_l0 _ _
    have i2 : itemP (strsV [lineS D 0 plain, lineS D 1 plain, lineS D 2 plain]) (.int 2) = some (.str (lineS D 2 plain)) := item_l2 _ _ _ _
    have len0 := lineS_len (who := 0) hD plain_ok
    have len1 := lineS_len (who := 1) hD plain_ok
    have len2 := lineS_len (who := 2) hD plain_ok
    have tk0 := lineS_tick (who := 0) hD
    have tk1 := lineS_tick (who := 1) hD
    have tk2 := lineS_tick (who := 2) hD
    refine Ret.next (Q55 ns D (.pv (pairsV plain)) .un (.pv (strsV [lineS D 0 plain, lineS D 1 plain, lineS D 2 plain])) (.pv (.str (lineS D 2 plain ++ [39] ++ lineS D 0 plain))) .un .un .un .un .un .un .un .un .un .un .un .un) ?_ ?_
    · have a1 := add_str (lineS D 2 plain) [39] (by simp [LIM]; lia)
      have a2 := add_str (lineS D 2 plain ++ [39]) (lineS D 0 plain) (by simp [LIM]; lia)
      simp only [Q55, L55, X4, X6, X7, X8, Option.bind_some, Option.map_some, i0, i2, a1, a2]
    refine Ret.next (Q55 ns D (.pv (pairsV plain)) .un (.pv (strsV [lineS D 0 plain, lineS D 1 plain, lineS D 2 plain])) (.pv (.str (lineS D 2 plain ++ [39] ++ lineS D 0 plain))) .un .un .un .un .un .un .un .un .un .un .un .un) ?_ ?_
    · have s1 : sliceP (strsV [lineS D 0 plain, lineS D 1 plain, lineS D 2 plain]) none (some 1) = some (.lst [.str (lineS D 0 plain)]) := sliceP_take _ 1 (by show 3 ≤ LIM; decide)
      have s2 : sliceP (strsV [lineS D 0 plain, lineS D 1 plain, lineS D 2 plain]) none (some 2) = some (.lst [.str (lineS D 0 plain), .str (lineS D 1 plain)]) := sliceP_take _ 2 (by show 3 ≤ LIM; decide)
      have a1 : binP .Add (strsV [lineS D 0 plain, lineS D 1 plain, lineS D 2 plain]) (.lst [.str (lineS D 0 plain)]) = some (.lst [.str (lineS D 0 plain), .str (lineS D 1 plain), .str (lineS D 2 plain), .str (lineS D 0 plain)]) := add_lst _ _ (by simp [LIM])
      have a2 : binP .Add (.lst [.str (lineS D 0 plain), .str (lineS D 1 plain)]) (.lst [.str (lineS D 2 plain ++ [39] ++ lineS D 0 plain)]) = some (.lst [.str (lineS D 0 plain), .str (lineS D 1 plain), .str (lineS D 2 plain ++ [39] ++ lineS D 0 plain)]) := add_lst _ _ (by simp [LIM])
      have j1 := join_four _ _ _ len0 len1 len2
      have d1 := hdec3 (lineS D 0 plain) (lineS D 1 plain) (lineS D 2 plain ++ [39] ++ lineS D 0 plain) tk0 tk1 (by simp; lia)
      have d2 := hdec2 (lineS D 2 plain) (lineS D 0 plain) tk2 tk0 (by simp; lia)
      have n1 : cmpP .NotEq (.lst [.str (lineS D 0 plain), .str (lineS D 1 plain), .str (lineS D 2 plain ++ [39] ++ lineS D 0 plain)]) (.lst [.str (lineS D 0 plain), .str (lineS D 1 plain), .str (lineS D 2 plain ++ [39] ++ lineS D 0 plain)]) = some false := ne_lst_str [lineS D 0 plain, lineS D 1 plain, lineS D 2 plain ++ [39] ++ lineS D 0 plain]
      have n2 : cmpP .NotEq (.tup [.none, .none, .str (lineS D 2 plain ++ [39] ++ lineS D 0 plain)]) (.tup [.none, .none, .str (lineS D 2 plain ++ [39] ++ lineS D 0 plain)]) = some false := ne_tup3 _
      simp only [Q55, L55, X0, X1, X13, X17, Option.bind_some, Option.map_some, s1, s2, a1, a2, j1, d1, d2, n1, n2, ↓reduceIte, List.length_cons, List.length_nil, Nat.zero_add, Nat.reduceAdd, Nat.reduceLeDiff, Bool.false_eq_true]
    obtain ⟨zs, hzs⟩ := sum_modes D
    obtain ⟨ch, hch⟩ := fmod3 (zs + 1)
    refine Ret.next (Q55 ns D (.pv (pairsV plain)) .un (.pv (strsV [lineS D 0 plain, lineS D 1 plain, lineS D 2 plain])) (.pv (.str (lineS D 2 plain ++ [39] ++ lineS D 0 plain))) (.pv (.int (ch : Int))) .un .un .un .un .un .un .un .un .un .un .un) ?_ ?_
    · simp only [Q55, L55, X0, X1, X7, X8, Xd, Option.bind_some, Option.map_some, hzs, hch]
    have hrg : rangeP [.int 3] = some ([0, 1, 2].map fun k : Nat => .one (.int (k : Int))) := rfl
    refine Ret.loopN (enc := fun k : Nat => .one (.int (k : Int))) (bs := [0, 1, 2]) ?hE (fun bs σ => (∀ w ∈ bs, w < 3) ∧ Fr55 ns D (.pv (strsV [lineS D 0 plain, lineS D 1 plain, lineS D 2 plain])) (.pv (.str (lineS D 2 plain ++ [39] ++ lineS D 0 plain))) (.pv (.int (ch : Int))) σ) ?h0 (fun Z => rfl) ?hs ?hk
    case hE => simp only [Option.bind_some, hrg]
    case h0 => exact ⟨by decide, .mk ..⟩
    case hk =>
      rintro σ' ⟨-, a9, a13, a14, a15, a16, a17, a18, a19, a20, a21, a22, a23⟩
      exact Ret.here (Ret.of (σ' := frzS (Q55 ns D (.pv (pairsV plain)) a9 (.pv (strsV [lineS D 0 plain, lineS D 1 plain, lineS D 2 plain])) (.pv (.str (lineS D 2 plain ++ [39] ++ lineS D 0 plain))) (.pv (.int (ch : Int))) a13 a14 a15 a16 a17 a18 a19 a20 a21 a22 a23)) rfl)
    case hs =>
      rintro who bs σ ⟨hws, a9, a13, a14, a15, a16, a17, a18, a19, a20, a21, a22, a23⟩
      have hw := hws who (List.mem_cons_self ..)
      have hws' : ∀ w ∈ bs, w < 3 := fun w h => hws w (List.mem_cons_of_mem _ h)
      refine ⟨Q55 ns D (.pv (pairsV plain)) (.pv (.int (who : Int))) (.pv (strsV [lineS D 0 plain, lineS D 1 plain, lineS D 2 plain])) (.pv (.str (lineS D 2 plain ++ [39] ++ lineS D 0 plain))) (.pv (.int (ch : Int))) a13 a14 a15 a16 a17 a18 a19 a20 a21 a22 a23, rfl, ?_⟩
      have hcl := closed_len hD who
      have hc1 := hclosed D who hD hw
      refine Nx.next (Q55 ns D (.pv (pairsV plain)) (.pv (.int (who : Int))) (.pv (strsV [lineS D 0 plain, lineS D 1 plain, lineS D 2 plain])) (.pv (.str (lineS D 2 plain ++ [39] ++ lineS D 0 plain))) (.pv (.int (ch : Int))) (.pv (nums (closedL D who))) a14 a15 a16 a17 a18 a19 a20 a21 a22 a23) ?_ ?_
      · simp only [Q55, L55, X0, X1, X7, X8, Option.bind_some, Option.map_some, hc1]
      have hit : itemP (strsV [lineS D 0 plain, lineS D 1 plain, lineS D 2 plain]) (.int (who : Int)) = some (.str (lineAt D who 0)) := by
        rw [lineAt_zero hD]
        rcases who with _ | _ | _ | who
        · exact item_l0 _ _
        · exact item_l1 _ _ _
        · exact item_l2 _ _ _ _
        · lia
      refine Nx.next (Q55 ns D (.pv (pairsV plain)) (.pv (.int (who : Int))) (.pv (strsV [lineS D 0 plain, lineS D 1 plain, lineS D 2 plain])) (.pv (.str (lineS D 2 plain ++ [39] ++ lineS D 0 plain))) (.pv (.int (ch : Int))) (.pv (nums (closedL D who))) (.pv (.str (lineAt D who 0))) a15 a16 a17 a18 a19 a20 a21 a22 a23) ?_ ?_
      · simp only [Q55, L55, X0, X1, X4, X6, X7, X8, Option.bind_some, Option.map_some, hit]
      obtain ⟨mx, hmx, hmxl, hmxm⟩ := maxP_nums (closedL D who) (fun e => by rw [e] at hcl; cases hcl)
      have hm4 : mx ≤ 4 := closed_le hD who mx hmxm
      obtain ⟨lv, hlv⟩ : ∃ lv, lv = if who = ch then mx else 0 := ⟨_, rfl⟩
      have hrl : rangeP [.int (1 + (lv : Int))] = some ((List.range' 0 (lv + 1)).map fun k : Nat => .one (.int (k : Int))) := by
        rw [show (1 : Int) + (lv : Int) = ((lv + 1 : Nat) : Int) by lia]
        exact range_nat _ (by rw [hlv]; split <;> lia)
      have hq : ((who : Int) == (ch : Int)) = decide (who = ch) := by rw [Bool.eq_iff_iff, beq_iff_eq, decide_eq_true_iff]; lia
      refine Nx.loop (enc := fun k : Nat => .one (.int (k : Int))) (bs := List.range' 0 (lv + 1)) ?hE2 (fun bs σ => ∃ j, bs = List.range' j (lv + 1 - j) ∧ j ≤ lv + 1 ∧ ∃ a15 a16 a17, σ = Q55 ns D (.pv (pairsV plain)) (.pv (.int (who : Int))) (.pv (strsV [lineS D 0 plain, lineS D 1 plain, lineS D 2 plain])) (.pv (.str (lineS D 2 plain ++ [39] ++ lineS D 0 plain))) (.pv (.int (ch : Int))) (.pv (nums (closedL D who))) (.pv (.str (lineAt D who (j - 1)))) a15 a16 a17 a18 a19 a20 a21 a22 a23 ∧ (1 ≤ j → a16 = .pv (.str (leftAt D who (j - 1))))) ?h02 (fun Z => rfl) ?hs2 ?hk2
      case hE2 =>
        by_cases h : who = ch
        · rw [if_pos h] at hlv
          rw [decide_eq_true h] at hq
          subst hlv
          simp only [Q55, L55, X0, X1, Xd, Xl, Option.bind_some, hq, ↓reduceIte, hmx, hrl]
        · rw [if_neg h] at hlv
          rw [decide_eq_false h] at hq
          subst hlv
          simp only [Q55, L55, X0, X1, Xd, Xl, Option.bind_some, hq, ↓reduceIte, Bool.false_eq_true]
          exact hrl
      case h02 => exact ⟨0, rfl, Nat.zero_le _, _, _, _, rfl, fun h => absurd h (by decide)⟩
      case hs2 =>
        rintro k bs' σ ⟨j, hb, hj, b15, b16, b17, rfl, -⟩
        obtain ⟨m, hm⟩ : ∃ m, lv + 1 - j = m := ⟨_, rfl⟩
        rw [hm] at hb
        cases m with
        | zero => cases hb
        | succ m =>
          rw [List.range'_succ] at hb
          have hb2 := (List.cons.inj hb).2
          obtain rfl : j = k := (List.cons.inj hb).1.symm
          have hln := lineAt_len (who := who) hD j
          have hln1 := lineAt_len (who := who) hD (j - 1)
          have hlf := leftAt_len (who := who) hD j
          refine ⟨Q55 ns D (.pv (pairsV plain)) (.pv (.int (who : Int))) (.pv (strsV [lineS D 0 plain, lineS D 1 plain, lineS D 2 plain])) (.pv (.str (lineS D 2 plain ++ [39] ++ lineS D 0 plain))) (.pv (.int (ch : Int))) (.pv (nums (closedL D who))) (.pv (.str (lineAt D who (j - 1)))) (.pv (.int (j : Int))) b16 b17 a18 a19 a20 a21 a22 a23, rfl, ?_⟩
          refine Nx.next (Q55 ns D (.pv (pairsV plain)) (.pv (.int (who : Int))) (.pv (strsV [lineS D 0 plain, lineS D 1 plain, lineS D 2 plain])) (.pv (.str (lineS D 2 plain ++ [39] ++ lineS D 0 plain))) (.pv (.int (ch : Int))) (.pv (nums (closedL D who))) (.pv (.str (lineAt D who j))) (.pv (.int (j : Int))) b16 b17 a18 a19 a20 a21 a22 a23) ?_ ?_
          · cases j with
            | zero => simp only [Q55, L55, X0, X1, X7, X8, Xj, Option.bind_some, Option.map_some, show decide ((0 : Int) < ((0 : Nat) : Int)) = false from rfl, ↓reduceIte, Bool.false_eq_true, Nat.zero_sub]
            | succ j =>
              have h0 : decide ((0 : Int) < ((j + 1 : Nat) : Int)) = true := by rw [decide_eq_true_iff]; lia
              have ho := hopened (lineAt D who j) (by have := lineAt_len (who := who) hD j; unfold LIM; lia)
              rw [lineAt_succ hD j] at ho
              simp only [Q55, L55, X0, X1, X7, X8, Xj, Option.bind_some, Option.map_some, h0, ↓reduceIte, Nat.add_sub_cancel, ho]
          have hle := hleft D who (closedL D who) j hD hw hcl
          refine Nx.next (Q55 ns D (.pv (pairsV plain)) (.pv (.int (who : Int))) (.pv (strsV [lineS D 0 plain, lineS D 1 plain, lineS D 2 plain])) (.pv (.str (lineS D 2 plain ++ [39] ++ lineS D 0 plain))) (.pv (.int (ch : Int))) (.pv (nums (closedL D who))) (.pv (.str (lineAt D who j))) (.pv (.int (j : Int))) (.pv (.str (leftAt D who j))) b17 a18 a19 a20 a21 a22 a23) ?_ ?_
          · simp only [Q55, L55, X0, X1, X7, X8, Option.bind_some, Option.map_some, hle]
            rfl
          refine Nx.next (Q55 ns D (.pv (pairsV plain)) (.pv (.int (who : Int))) (.pv (strsV [lineS D 0 plain, lineS D 1 plain, lineS D 2 plain])) (.pv (.str (lineS D 2 plain ++ [39] ++ lineS D 0 plain))) (.pv (.int (ch : Int))) (.pv (nums (closedL D who))) (.pv (.str (lineAt D who j))) (.pv (.int (j : Int))) (.pv (.str (leftAt D who j))) (.pv (.lst ((seenL D (closedL D who) j).map .byt))) a18 a19 a20 a21 a22 a23) ?_ ?_
          · have hrg4 : rangeP [.int 4] = some ([0, 1, 2, 3].map fun k : Nat => .one (.int (k : Int))) := rfl
            simp only [Q55, L55, X7, X8, Option.bind_some, hrg4]
            refine comp_goal (outs := (seenL D (closedL D who) j).map .byt) ?_ fun σ' => rfl
            have es : (seenL D (closedL D who) j).map PV.byt = [0, 1, 2, 3].flatMap fun k => (seenK D (closedL D who) j k).map PV.byt := by unfold seenL; rw [List.map_flatMap]
            rw [es]
            refine compP_gen1 _ (Ln2 [.un, .pv (nums (closedL D who)), .pv (.int (j : Int)), (.pv (stuffV D))]) ?_ (ln2 (y := .un) (z := .un) (by kernel_rfl)) (by rw [← es, List.length_map]; have := seen_len D (closedL D who) j; unfold LIM; lia)
            rintro k hk ps σ ⟨y, z, rfl⟩ hps
            have hk4 : k < 4 := by simp at hk; lia
            obtain ⟨x, hx⟩ := hD.at hk4
            have ok := hD.ok k x hx
            have es2 : seenK D (closedL D who) j k = ownS (closedL D who) j k x := by unfold seenK; rw [hx]
            rw [es2] at hps ⊢
            refine ⟨[y, .pv (.int (k : Int)), .un, .pv (nums (closedL D who)), .pv (.int (j : Int)), (.pv (stuffV D))], rfl, ln2 rfl, ?_⟩
            have f1 := item_nums (l := closedL D who) (by rw [hcl]; exact hk4) hk4
            have f2 := item_stuff hx hk4
            have f3 := ne_nil x.st
            have f4 := bytesP_nums x.st ok.oct (by have := ok.st; unfold LIM; lia)
            have f5 : decide ((((closedL D who).getD k 0 : Nat) : Int) ≤ (j : Int)) = decide ((closedL D who).getD k 0 ≤ j) := by rw [Bool.eq_iff_iff, decide_eq_true_iff, decide_eq_true_iff]; lia
            by_cases hv : (closedL D who).getD k 0 ≤ j
            · rw [decide_eq_true hv] at f5
              by_cases hs : x.st = []
              · left
                have ho : ownS (closedL D who) j k x = [] := by unfold ownS; rw [if_neg (fun q => q.2 hs)]
                rw [ho]
                rw [show (!x.st.isEmpty) = false by rw [hs]; rfl] at f3
                refine ⟨?_, rfl⟩
                simp only [X0, X1, Xi, Option.bind_some, Option.map_some, f1, f5, f2, f3, ↓reduceIte, Bool.false_eq_true, List.length_nil, Nat.zero_le]
              · right
                have ho : ownS (closedL D who) j k x = [x.st.map (·.toUInt8)] := by unfold ownS; rw [if_pos ⟨hv, hs⟩]
                rw [ho] at hps ⊢
                rw [show (!x.st.isEmpty) = true by cases h : x.st with | nil => exact absurd h hs | cons a l => rfl] at f3
                refine ⟨?_, [y, .pv (.int (k : Int)), .un, .pv (nums (closedL D who)), .pv (.int (j : Int)), (.pv (stuffV D))], ?_, ln2 rfl⟩
                · simp only [X0, X1, Xi, Option.bind_some, Option.map_some, f1, f5, f2, f3, ↓reduceIte, List.length_nil, Nat.zero_le]
                · unfold emitP
                  rw [if_pos (by simp at hps; lia)]
                  simp only [X0, X1, Option.bind_some, Option.map_some, f2, f4]
                  rfl
            · left
              have ho : ownS (closedL D who) j k x = [] := by unfold ownS; rw [if_neg (fun q => hv q.1)]
              rw [ho]
              rw [decide_eq_false hv] at f5
              refine ⟨?_, rfl⟩
              simp only [X0, X1, Xi, Option.bind_some, f1, f5, ↓reduceIte, Bool.false_eq_true]
          have st1 := hstrip (lineAt D who j) (by unfold LIM; lia)
          rw [lineAt_strip hD] at st1
          have oc1 := hoct D who j hD
          refine Nx.next (Q55 ns D (.pv (pairsV plain)) (.pv (.int (who : Int))) (.pv (strsV [lineS D 0 plain, lineS D 1 plain, lineS D 2 plain])) (.pv (.str (lineS D 2 plain ++ [39] ++ lineS D 0 plain))) (.pv (.int (ch : Int))) (.pv (nums (closedL D who))) (.pv (.str (lineAt D who j))) (.pv (.int (j : Int))) (.pv (.str (leftAt D who j))) (.pv (.lst ((seenL D (closedL D who) j).map .byt))) a18 a19 a20 a21 a22 a23) ?_ ?_
          · simp only [Q55, L55, X0, X1, Xo, Option.bind_some, Option.map_some, st1, beq_self_eq_true, Bool.not_true, oc1, ne_lst_byt, ↓reduceIte, Bool.false_eq_true]
          refine Nx.skip ⟨j + 1, by rw [hb2, show lv + 1 - (j + 1) = m by lia], by lia, _, _, _, rfl, fun Z => rfl⟩
      case hk2 =>
        rintro σ' ⟨j, hb, hj, b15, b16, b17, rfl, h16⟩
        have hjl : j = lv + 1 := by
          have := congrArg List.length hb
          simp at this; lia
        subst hjl
        have h16 := h16 (by lia)
        rw [Nat.add_sub_cancel] at h16 ⊢
        subst h16
        have hln := lineAt_len (who := who) hD lv
        have hlf := leftAt_len (who := who) hD lv
        by_cases h : who = ch
        case neg =>
          rw [decide_eq_false h] at hq
          refine Nx.next (Q55 ns D (.pv (pairsV plain)) (.pv (.int (who : Int))) (.pv (strsV [lineS D 0 plain, lineS D 1 plain, lineS D 2 plain])) (.pv (.str (lineS D 2 plain ++ [39] ++ lineS D 0 plain))) (.pv (.int (ch : Int))) (.pv (nums (closedL D who))) (.pv (.str (lineAt D who lv))) b15 (.pv (.str (leftAt D who lv))) b17 a18 a19 a20 a21 a22 a23) ?_ ?_
          · simp only [Q55, L55, X0, X1, Xl, X17, Option.bind_some, hq, ↓reduceIte, Bool.false_eq_true]
          exact Nx.skip ⟨hws', .mk ..⟩
        case pos =>
        rw [decide_eq_true h] at hq
        rw [if_pos h] at hlv
        have hlast : lineAt D who lv = leftAt D who lv := lineAt_last hD lv (fun k hk => by
          refine hlv ▸ hmxl _ ?_
          rw [List.getD_eq_getElem?_getD, List.getElem?_eq_getElem (by lia)]
          exact List.getElem_mem _)
        have hsh := strip_hem (who := who) hD lv
        generalize hHEM : q5 ++ lineAt D who lv ++ (q5 ++ q5) ++ [34, 40] = hem at hsh
        have hheml : hem.length ≤ LIM := by rw [← hHEM]; simp [q5, LIM]; lia
        have hs1 := hstrip hem hheml
        rw [hsh] at hs1
        refine Nx.next (Q55 ns D (.pv (pairsV plain)) (.pv (.int (who : Int))) (.pv (strsV [lineS D 0 plain, lineS D 1 plain, lineS D 2 plain])) (.pv (.str (lineS D 2 plain ++ [39] ++ lineS D 0 plain))) (.pv (.int (ch : Int))) (.pv (nums (closedL D who))) (.pv (.str (lineAt D who lv))) b15 (.pv (.str (leftAt D who lv))) b17 (.pv (.str hem)) (.pv (.str (leftAt D who lv ++ [92]))) (.pv (.lst ((oddL D).map oddV))) (.pv (strsV ((oddL D).map (struckS D who)))) (.pv (bools ((oddL D).map (stayB D (closedL D who))))) (.pv (strsV ((oddL D).map fun p => keep (struckS D who p))))) ?_ ?_
        · refine bind_true (by simp only [Q55, L55, X0, X1, Xl, Option.bind_some, hq]) ?_
          refine seqP_eq (Q55 ns D (.pv (pairsV plain)) (.pv (.int (who : Int))) (.pv (strsV [lineS D 0 plain, lineS D 1 plain, lineS D 2 plain])) (.pv (.str (lineS D 2 plain ++ [39] ++ lineS D 0 plain))) (.pv (.int (ch : Int))) (.pv (nums (closedL D who))) (.pv (.str (lineAt D who lv))) b15 (.pv (.str (leftAt D who lv))) b17 (.pv (.str hem)) a19 a20 a21 a22 a23) ?_ ?_
          · have c1 : binP .Add (.str [34, 92, 34, 41, 34]) (.str (lineAt D who lv)) = some (.str (q5 ++ lineAt D who lv)) := add_str _ _ (by simp [LIM]; lia)
            have c2 : binP .Mult (.str [34, 92, 34, 41, 34]) (.int 2) = some (.str (q5 ++ q5)) := rfl
            have c3 : binP .Add (.str (q5 ++ lineAt D who lv)) (.str (q5 ++ q5)) = some (.str (q5 ++ lineAt D who lv ++ (q5 ++ q5))) := add_str _ _ (by simp [LIM, q5]; lia)
            have c4 : binP .Add (.str (q5 ++ lineAt D who lv ++ (q5 ++ q5))) (.str [34, 40]) = some (.str hem) := by rw [← hHEM]; exact add_str _ _ (by simp [LIM, q5]; lia)
            simp only [Q55, L55, X0, X1, X7, X8, Option.bind_some, Option.map_some, c1, c2, c3, c4]
          refine seqP_eq (Q55 ns D (.pv (pairsV plain)) (.pv (.int (who : Int))) (.pv (strsV [lineS D 0 plain, lineS D 1 plain, lineS D 2 plain])) (.pv (.str (lineS D 2 plain ++ [39] ++ lineS D 0 plain))) (.pv (.int (ch : Int))) (.pv (nums (closedL D who))) (.pv (.str (lineAt D who lv))) b15 (.pv (.str (leftAt D who lv))) b17 (.pv (.str hem)) (.pv (.str (leftAt D who lv ++ [92]))) a20 a21 a22 a23) ?_ ?_
          · have c1 : binP .Add (.str (lineAt D who lv)) (.str [92]) = some (.str (lineAt D who lv ++ [92])) := add_str _ _ (by simp [LIM]; lia)
            have hll : (lineAt D who lv ++ [92]).length ≤ LIM := by simp [LIM]; lia
            have htv := told_val (lineAt D who lv ++ [92]) hll
            have hil := items_len (lineAt D who lv ++ [92])
            simp only [Q55, L55, X0, X1, X7, X8, X17, Option.bind_some, Option.map_some, c1, hesc, ↓reduceIte]
            rw [comp_memE (bs := items 0 (lineAt D who lv ++ [92])) (enc := encI) (fun x : Nat × List Nat => .str x.2) (Ln3 []) ?hc ?h0 (by lia)]
            case hc =>
              rintro x hx σ ⟨y, z, u, rfl⟩
              exact ⟨[y, .pv (.int (x.1 : Int)), .pv (.str x.2)], rfl, rfl, rfl, ln3 rfl⟩
            case h0 => exact (ln3 (y := .un) (z := .un) (u := .un) (by kernel_rfl))
            rw [Option.bind_some, Option.bind_some, htv, hlast]
            rfl
          refine seqP_eq (Q55 ns D (.pv (pairsV plain)) (.pv (.int (who : Int))) (.pv (strsV [lineS D 0 plain, lineS D 1 plain, lineS D 2 plain])) (.pv (.str (lineS D 2 plain ++ [39] ++ lineS D 0 plain))) (.pv (.int (ch : Int))) (.pv (nums (closedL D who))) (.pv (.str (lineAt D who lv))) b15 (.pv (.str (leftAt D who lv))) b17 (.pv (.str hem)) (.pv (.str (leftAt D who lv ++ [92]))) a20 a21 a22 a23) ?_ ?_
          · have c1 : binP .Add (.str (leftAt D who lv)) (.str [34, 40]) = some (.str (leftAt D who lv ++ [34, 40])) := add_str _ _ (by simp [LIM]; lia)
            have c2 : binP .Add (.str (leftAt D who lv)) (.str [92]) = some (.str (leftAt D who lv ++ [92])) := add_str _ _ (by simp [LIM]; lia)
            simp only [Q55, L55, X0, X1, Xo, Option.bind_some, Option.map_some, hs1, c1, c2, beq_self_eq_true, Bool.not_true, ↓reduceIte, Bool.false_eq_true]
          refine seqP_eq (Q55 ns D (.pv (pairsV plain)) (.pv (.int (who : Int))) (.pv (strsV [lineS D 0 plain, lineS D 1 plain, lineS D 2 plain])) (.pv (.str (lineS D 2 plain ++ [39] ++ lineS D 0 plain))) (.pv (.int (ch : Int))) (.pv (nums (closedL D who))) (.pv (.str (lineAt D who lv))) b15 (.pv (.str (leftAt D who lv))) b17 (.pv (.str hem)) (.pv (.str (leftAt D who lv ++ [92]))) (.pv (.lst ((oddL D).map oddV))) a21 a22 a23) ?_ ?_
          · have hrg4 : rangeP [.int 4] = some ([0, 1, 2, 3].map fun k : Nat => .one (.int (k : Int))) := rfl
            simp only [Q55, L55, X7, X8, Option.bind_some, hrg4]
            refine comp_goal (outs := (oddL D).map oddV) ?_ fun σ' => rfl
            have eo : (oddL D).map oddV = [0, 1, 2, 3].flatMap fun k => (oddK D k).map oddV := by rw [oddL_eq, List.map_flatMap]
            rw [eo]
            refine compP_gen1 _ (Ln3 [(.pv (bools (D.map fun x => x.kind == 4)))]) ?_ (ln3 (y := .un) (z := .un) (u := .un) (by kernel_rfl)) (by rw [← eo, List.length_map]; have := odd_len hD; unfold LIM; lia)
            rintro k hk ps σ ⟨y, z, u, rfl⟩ hps
            have hk4 : k < 4 := by simp at hk; lia
            obtain ⟨x, hx⟩ := hD.at hk4
            have f1 := item_fold hx hk4
            refine ⟨[y, .pv (.int (k : Int)), u, (.pv (bools (D.map fun x => x.kind == 4)))], rfl, ln3 rfl, ?_⟩
            by_cases h4 : x.kind = 4
            · right
              have h4' : (x.kind == 4) = true := by simpa using h4
              have ok2 : oddK D k = [(k, false), (k, true)] := by unfold oddK; rw [hx]; exact if_pos h4
              rw [ok2] at hps ⊢
              refine ⟨by simp only [X0, X1, Xz, Option.bind_some, f1, h4'], ?_⟩
              have hpl2 : ps.length + 2 ≤ LIM := by simpa using hps
              have e2 : ([(k, false), (k, true)] : List (Nat × Bool)).map oddV = [false, true].flatMap fun b => [oddV (k, b)] := rfl
              rw [e2]
              obtain ⟨σ₂, e3, z3, r3⟩ := compP_gen0 (tp := oneP 2) (ft := fun Z => some true) (fe := emitP fun σ => ((getS 1 σ).bind fun a => ((getS 2 σ).bind fun a => some [a]).bind fun r => some (a :: r)).bind fun l => if l.length ≤ 1000 then some (PV.tup l) else none) (enc := fun b : Bool => .one (prV b)) (bs := [false, true]) (ps := ps) (σ := [y, .pv (.int (k : Int)), u, (.pv (bools (D.map fun x => x.kind == 4)))]) (fun b => [oddV (k, b)]) (fun σ => ∃ u, σ = [y, .pv (.int (k : Int)), u, (.pv (bools (D.map fun x => x.kind == 4)))]) (by
                rintro b hb ps σ ⟨u, rfl⟩ hps
                refine ⟨[y, .pv (.int (k : Int)), .pv (prV b), (.pv (bools (D.map fun x => x.kind == 4)))], rfl, ⟨_, rfl⟩, .inr ⟨rfl, [y, .pv (.int (k : Int)), .pv (prV b), (.pv (bools (D.map fun x => x.kind == 4)))], ?_, _, rfl⟩⟩
                unfold emitP
                rw [if_pos (by simp at hps; lia)]
                rfl) ⟨_, rfl⟩ (by simpa using hpl2)
              refine ⟨σ₂, ?_, _, _, _, r3⟩
              rw [← e3]
              rfl
            · left
              have h4' : (x.kind == 4) = false := by simpa using h4
              have ok2 : oddK D k = [] := by unfold oddK; rw [hx]; exact if_neg h4
              rw [ok2]
              exact ⟨by simp only [X0, X1, Xz, Option.bind_some, f1, h4'], rfl⟩
          have hodd := odd_len hD
          have hoi : itemsP (.lst ((oddL D).map oddV)) = some ((oddL D).map fun p => .one (oddV p)) := by show some (List.map _ (List.map _ _)) = _; rw [List.map_map]; rfl
          refine seqP_eq (Q55 ns D (.pv (pairsV plain)) (.pv (.int (who : Int))) (.pv (strsV [lineS D 0 plain, lineS D 1 plain, lineS D 2 plain])) (.pv (.str (lineS D 2 plain ++ [39] ++ lineS D 0 plain))) (.pv (.int (ch : Int))) (.pv (nums (closedL D who))) (.pv (.str (lineAt D who lv))) b15 (.pv (.str (leftAt D who lv))) b17 (.pv (.str hem)) (.pv (.str (leftAt D who lv ++ [92]))) (.pv (.lst ((oddL D).map oddV))) (.pv (strsV ((oddL D).map (struckS D who)))) a22 a23) ?_ ?_
          · simp only [Q55, L55, X0, X1, X7, X8, Option.bind_some, hoi]
            refine comp_goal (compP_mem (bs := oddL D) (enc := fun p : Nat × Bool => .one (oddV p)) (fun p : Nat × Bool => .str (struckS D who p)) (Ln3 [.un, (.pv (intsV (D.map It.ab))), (.pv (bools (D.map fun x => x.kind == 4))), (.pv (strsV (D.map fun x => [92, x.nm]))), (.pv (pairsV plain)), (.pv (strsV (D.map It.row))), .pv (.int (who : Int)), (.pv (strsV (D.map fun x => fourL x.st)))]) ?_ (ln3 (y := .un) (z := .un) (u := .un) (by kernel_rfl)) (by unfold LIM; lia)) fun σ' => ?_
            · rintro ⟨k, b⟩ hp σ ⟨y, z, u, rfl⟩
              obtain ⟨hk4, -, -, -⟩ := odd_mem hD hp
              obtain ⟨u1, u2, u3, p1, p2, p3, p4⟩ := pairs_set hk4 b
              have hl := hline D who (plain.set k (pr b)) hD hw (by rw [List.length_set]; rfl) (fun p hp => by
                rcases List.mem_or_eq_of_mem_set hp with h | h
                · rw [List.eq_of_mem_replicate h]; decide
                · rw [h]; cases b <;> decide)
              unfold in49 at hl
              refine ⟨[y, .pv (.int (k : Int)), .pv (prV b), .un, (.pv (intsV (D.map It.ab))), (.pv (bools (D.map fun x => x.kind == 4))), (.pv (strsV (D.map fun x => [92, x.nm]))), (.pv (pairsV plain)), (.pv (strsV (D.map It.row))), .pv (.int (who : Int)), (.pv (strsV (D.map fun x => fourL x.st)))], rfl, rfl, ?_, ln3 rfl⟩
              simp only [X0, X1, Xd, X13, Option.bind_some, Option.map_some, p1, p3, p4, hl, List.length_cons, List.length_nil, Nat.zero_add, Nat.reduceLeDiff, ↓reduceIte, p2]
              rfl
            · rw [show strsV ((oddL D).map (struckS D who)) = .lst ((oddL D).map fun p => .str (struckS D who p)) by unfold strsV; rw [List.map_map]; rfl]
              rfl
          refine seqP_eq (Q55 ns D (.pv (pairsV plain)) (.pv (.int (who : Int))) (.pv (strsV [lineS D 0 plain, lineS D 1 plain, lineS D 2 plain])) (.pv (.str (lineS D 2 plain ++ [39] ++ lineS D 0 plain))) (.pv (.int (ch : Int))) (.pv (nums (closedL D who))) (.pv (.str (lineAt D who lv))) b15 (.pv (.str (leftAt D who lv))) b17 (.pv (.str hem)) (.pv (.str (leftAt D who lv ++ [92]))) (.pv (.lst ((oddL D).map oddV))) (.pv (strsV ((oddL D).map (struckS D who)))) (.pv (bools ((oddL D).map (stayB D (closedL D who))))) a23) ?_ ?_
          · simp only [Q55, L55, X0, X1, X7, X8, Option.bind_some, hoi]
            refine comp_goal (compP_mem (bs := oddL D) (enc := fun p : Nat × Bool => .one (oddV p)) (fun p : Nat × Bool => .bool (stayB D (closedL D who) p)) (Ln3 [(.pv (intsV (D.map It.ab))), .pv (nums (closedL D who))]) ?_ (ln3 (y := .un) (z := .un) (u := .un) (by kernel_rfl)) (by unfold LIM; lia)) fun σ' => ?_
            · rintro ⟨k, b⟩ hp σ ⟨y, z, u, rfl⟩
              obtain ⟨hk4, x, hx, h4⟩ := odd_mem hD hp
              have f1 := item_nums (l := closedL D who) (by rw [hcl]; exact hk4) hk4
              have f2 := item_ab hx hk4
              have f5 : decide ((0 : Int) < (((closedL D who).getD k 0 : Nat) : Int)) = decide (0 < (closedL D who).getD k 0) := by rw [Bool.eq_iff_iff, decide_eq_true_iff, decide_eq_true_iff]; lia
              have f6 : itemP (prV b) (.int 0) = some (.str (pr b).1) := item_l0 _ _
              have f7 : ((pr b).1 == [41]) = b := by cases b <;> rfl
              have hst : stayB D (closedL D who) (k, b) = (decide (0 < (closedL D who).getD k 0) || (b && decide (0 ≤ x.ab))) := by unfold stayB; simp only [hx]
              refine ⟨[y, .pv (.int (k : Int)), .pv (prV b), (.pv (intsV (D.map It.ab))), .pv (nums (closedL D who))], rfl, rfl, ?_, ln3 rfl⟩
              rw [hst]
              generalize (closedL D who).getD k 0 = ck at *
              simp only [X0, X1, X4, X6, Xj, Xk, Xn, Xz, Option.bind_some, Option.map_some, f1, f2, f5, f6, f7]
              cases decide (0 < ck) <;> cases b <;> simp
            · rw [show bools ((oddL D).map (stayB D (closedL D who))) = .lst ((oddL D).map fun p => .bool (stayB D (closedL D who) p)) by unfold bools; rw [List.map_map]; rfl]
              rfl
          refine seqP_eq (Q55 ns D (.pv (pairsV plain)) (.pv (.int (who : Int))) (.pv (strsV [lineS D 0 plain, lineS D 1 plain, lineS D 2 plain])) (.pv (.str (lineS D 2 plain ++ [39] ++ lineS D 0 plain))) (.pv (.int (ch : Int))) (.pv (nums (closedL D who))) (.pv (.str (lineAt D who lv))) b15 (.pv (.str (leftAt D who lv))) b17 (.pv (.str hem)) (.pv (.str (leftAt D who lv ++ [92]))) (.pv (.lst ((oddL D).map oddV))) (.pv (strsV ((oddL D).map (struckS D who)))) (.pv (bools ((oddL D).map (stayB D (closedL D who))))) (.pv (strsV ((oddL D).map fun p => keep (struckS D who p))))) ?_ ?_
          · have hz : zipP [strsV ((oddL D).map (struckS D who)), bools ((oddL D).map (stayB D (closedL D who)))] = some ((oddL D).map fun p => .two (.str (struckS D who p)) (.bool (stayB D (closedL D who) p))) := by
              unfold strsV bools
              rw [List.map_map, List.map_map]
              show some (zipItems _ _) = _
              rw [zip_map]; rfl
            simp only [Q55, L55, X0, X1, X7, X8, Option.bind_some, hz]
            refine comp_goal (compP_mem (bs := oddL D) (enc := fun p : Nat × Bool => .two (.str (struckS D who p)) (.bool (stayB D (closedL D who) p))) (fun p : Nat × Bool => .str (keep (struckS D who p))) (Ln3 []) ?_ (ln3 (y := .un) (z := .un) (u := .un) (by kernel_rfl)) (by unfold LIM; lia)) fun σ' => ?_
            · rintro p hp σ ⟨y, z, u, rfl⟩
              refine ⟨[y, .pv (.str (struckS D who p)), .pv (.bool (stayB D (closedL D who) p))], rfl, rfl, ?_, ln3 rfl⟩
              rw [struck_keep hD who hp]
              cases stayB D (closedL D who) p <;> rfl
            · rw [show strsV ((oddL D).map fun p => keep (struckS D who p)) = .lst ((oddL D).map fun p => .str (keep (struckS D who p))) by unfold strsV; rw [List.map_map]; rfl]
              rfl
          refine seqP_eq (Q55 ns D (.pv (pairsV plain)) (.pv (.int (who : Int))) (.pv (strsV [lineS D 0 plain, lineS D 1 plain, lineS D 2 plain])) (.pv (.str (lineS D 2 plain ++ [39] ++ lineS D 0 plain))) (.pv (.int (ch : Int))) (.pv (nums (closedL D who))) (.pv (.str (lineAt D who lv))) b15 (.pv (.str (leftAt D who lv))) b17 (.pv (.str hem)) (.pv (.str (leftAt D who lv ++ [92]))) (.pv (.lst ((oddL D).map oddV))) (.pv (strsV ((oddL D).map (struckS D who)))) (.pv (bools ((oddL D).map (stayB D (closedL D who))))) (.pv (strsV ((oddL D).map fun p => keep (struckS D who p))))) ?_ rfl
          have hsl : sliceP (strsV [lineS D 0 plain, lineS D 1 plain, lineS D 2 plain]) (some (who : Int)) (some ((who : Int) + 1)) = some (.lst [.str (lineS D who plain)]) := by
            rw [show (who : Int) + 1 = ((who + 1 : Nat) : Int) by lia]
            unfold strsV
            rw [sliceP_lnn _ _ _ (by show 3 ≤ LIM; decide)]
            rcases who with _ | _ | _ | who
            · rfl
            · rfl
            · rfl
            · lia
          have k1 : binP .Add (.lst [.str (lineS D who plain)]) (strsV ((oddL D).map (struckS D who))) = some (.lst ((lineS D who plain :: (oddL D).map (struckS D who)).map .str)) := add_lst _ _ (by simp [LIM]; lia)
          have k2 : binP .Add (.lst [.str (lineS D who plain)]) (strsV ((oddL D).map fun p => keep (struckS D who p))) = some (.lst ((lineS D who plain :: (oddL D).map fun p => keep (struckS D who p)).map .str)) := add_lst _ _ (by simp [LIM]; lia)
          have hlw := lineS_len (who := who) hD plain_ok
          have k3 := hpre (lineS D who plain :: (oddL D).map (struckS D who)) (by simp [LIM]; lia) (by
            intro l hl
            rcases List.mem_cons.mp hl with rfl | hl
            · unfold LIM; lia
            · obtain ⟨p, hp, rfl⟩ := List.mem_map.mp hl
              have := lineS_len (who := who) hD (struck_ok p)
              unfold struckS LIM
              lia)
          rw [List.map_cons (f := keep), plain_keep hD who, List.map_map, show keep ∘ struckS D who = fun p => keep (struckS D who p) from rfl] at k3
          simp only [Q55, L55, X0, X1, Xd, X13, Option.bind_some, Option.map_some, hsl, k1, k2, k3, ne_lst_str, ↓reduceIte, Bool.false_eq_true]
        exact Nx.skip ⟨hws', .mk ..⟩
noncomputable def isInt (i : Int) : Value → Bool
  | .int j _ => i == j
  | _ => false
noncomputable def isStr (l : List Nat) : Value → Bool
  | .str s _ => s.cps.toList == l
  | _ => false
noncomputable def tupAt (K : Frag) : Value → Option (List Value)
  | .ref a => match K.lookup a with
    | some ⟨c, d, .seq xs _, sl⟩ => if c = .type "tuple" ∧ d.isNone = true ∧ sl.size = 0 then some xs.toList else none
    | _ => none
  | _ => none
noncomputable def rvIn (K : Frag) : Nat → PV → Value → Bool
  | 0, _, _ => false
  | n + 1, p, v => match p with
    | .int i => isInt i v
    | .str l => isStr l v
    | .tup l => match tupAt K v with
      | some xs => xs.length == l.length && (l.zip xs).all fun p => rvIn K n p.1 p.2
      | none => false
    | _ => false
noncomputable def fragOf (h : Heap) : Frag := (List.range 300).filterMap fun a => (h.get? a).map fun o => (a, o)
theorem fragOf_in (h : Heap) : (fragOf h).In h := by
  intro a o
  unfold fragOf
  generalize List.range 300 = l
  induction l with
  | nil => intro e; cases e
  | cons b l ih =>
    intro e
    simp only [List.filterMap_cons] at e
    split at e
    · exact ih e
    · rename_i p hp
      obtain ⟨q, hq, rfl⟩ := Option.map_eq_some_iff.mp hp
      simp only [List.lookup] at e
      split at e
      · rename_i hb; cases e; rw [beq_iff_eq.mp hb]; exact hq
      · exact ih e
noncomputable def fnParams : Stmt → Arguments
  | .FunctionDef _ a _ _ _ _ _ _ _ _ => a
  | _ => default
/-- a def's defaults: none, or a tuple -/
noncomputable def dfl (K : Frag) : Value → Option (Option (List Value))
  | .none => some none
  | .ref a => match K.lookup a with
    | some ⟨_, _, .seq xs _, _⟩ => some (some xs.toList)
    | _ => none
  | _ => none
structure FnSeen where
  body : FuncBody
  scope : Scope
  code : Bool
  clo : List (Str × Addr)
  glob : Addr
  bui : Addr
  params : Arguments
  dfl : Option (Option (List Value))
noncomputable def seeFn (K : Frag) (x : Str) : Option FnSeen := match nsIn K mainGlobals x with
  | some (some (.ref a)) => match K.lookup a with
    | some ⟨_, _, .func fd, _⟩ => some ⟨fd.body, fd.scope, codeIn K fd.code fd.qualname, fd.closure, fd.globals, fd.builtins, fd.params, dfl K fd.defaults⟩
    | _ => none
  | _ => none
noncomputable def fnWant (n : Nat) (d : Option (List Value)) : FnSeen := ⟨.stmts (fnBody (nth n)), fnScope (nth n), true, [], mainGlobals, builtinsNs, fnParams (nth n), some d⟩
noncomputable def defL : List (Str × Nat × Option (List Value)) := [("_iter_escaped_chars", 3, none), ("_strip_quoted_realnames", 4, none), ("_check_parenthesis", 5, none), ("_pre_parse_validation", 6, none), ("decode_rfc2231", 7, none),
  ("_bytes_from_decode_data", 10, none), ("_ascii_buffer", 13, none), ("_buffer", 14, none), ("_truth", 15, none), ("_b64_value", 17, none), ("a2b_base64", 18, none), ("b2a_base64", 19, none),
  ("b64encode", 21, some [.none]), ("b64decode", 22, some [.none, .bool false]), ("S_IFMT", 24, none), ("S_ISDIR", 32, none), ("filemode", 46, none), ("_law_tree", 48, none), ("_law_line", 49, none),
  ("_law_four", 50, none), ("_law_closed", 51, none), ("_law_left", 52, none), ("_law_opened", 53, none), ("_law_octets", 54, none), ("law", 55, none)]
noncomputable def buiL : List Str := ["sum", "len", "range", "max", "type", "str", "bytes", "bool", "isinstance", "enumerate", "zip", "chr"]
noncomputable def seeStr (K : Frag) (x : Str) : Option (List Nat) := match nsIn K mainGlobals x with
  | some (some (.str s _)) => some s.cps.toList
  | _ => none
noncomputable def seeByt (K : Frag) (x : Str) : Option (List UInt8) := match nsIn K mainGlobals x with
  | some (some (.bytes s _)) => some s.toList
  | _ => none
noncomputable def seeInt (K : Frag) (x : Str) : Option Int := match nsIn K mainGlobals x with
  | some (some (.int i _)) => some i
  | _ => none
noncomputable def seeTab (K : Frag) (x : Str) (p : PV) : Bool := match nsIn K mainGlobals x with
  | some (some v) => rvIn K 4 p v
  | _ => false
structure Seen where
  fns : List (Option FnSeen)
  bui : List Bool
  tick : Option (List Nat)
  b64 : Option (List UInt8)
  dir : Option Int
  tab : Bool
noncomputable def isGone (K : Frag) (x : Str) : Bool := match nsIn K mainGlobals x with
  | some none => true
  | _ => false
noncomputable def see (K : Frag) : Seen := ⟨defL.map fun p => seeFn K p.1, buiL.map (isGone K), seeStr K "TICK", seeByt K "_B64", seeInt K "S_IFDIR", seeTab K "_filemode_table" tableV⟩
noncomputable def want : Seen := ⟨defL.map fun p => some (fnWant p.2.1 p.2.2), buiL.map fun Z => true, some [39], some b64D, some 16384, true⟩
noncomputable def own (w : World) (h : Heap) : Prop := ∃ K : Frag, K.In h ∧ see K = want
noncomputable def view1 : Program := view PySem.Challenge.pw_rt0013_01 [55]
noncomputable def loose1 : List Str := PySem.Challenge.pw_rt0013_01.boundNames.filter fun n => n != "law"
theorem left1 : LeftO PySem.Challenge.pw_rt0013_01 view1 loose1 (fun Z => true) (fun s => see (fragOf s.heap)) (fun Z => want) 3004 := by
  intro w
  kernel_rfl
section
variable {K : Frag} {hb : Heap} {p : Program} {loose : List Str} {mg mb : Str → Option Value} {prog : Program} {w : World}
theorem GlobIs.top {x : Str} {v : Value} (X : K.In hb) (T : TopRead p loose mg mb hb) (e : nsIn K mainGlobals x = some (some v)) : GlobIs hb x v := fun M A E s Q env hg hbi hk hq =>
  Calls.loadGlobal_global (env := env) (by rw [hg]; exact T.g.keeps hk) (mg_of X T.g e) hq
theorem GlobIs.bui {x : Str} {v : Value} (X : K.In hb) (T : TopRead p loose mg mb hb) (e : nsIn K mainGlobals x = some none) (hv : bootBuiltins x = some v) (hn : x ≠ "__name__") : GlobIs hb x v := fun M A E s Q env hg hbi hk hq =>
  Calls.loadGlobal_builtin (env := env) (by rw [hg]; exact T.g.keeps hk) (mg_none_of X T.g e) (by rw [hbi]; exact T.b.keeps hk) ((T.builtins x hn).trans hv) hq
structure DefAt (K : Frag) (x : Str) (n : Nat) (fa : Addr) (fd : FuncData) : Prop where
  ns : nsIn K mainGlobals x = some (some (.ref fa))
  lk : ∃ oc od osl, K.lookup fa = some ⟨oc, od, .func fd, osl⟩
  body : fd.body = .stmts (fnBody (nth n))
  scope : fd.scope = fnScope (nth n)
  code : codeIn K fd.code fd.qualname = true
  clo : fd.closure = []
  glob : fd.globals = mainGlobals
  bui : fd.builtins = builtinsNs
theorem DefAt.ok {x : Str} {n : Nat} {fa : Addr} {fd : FuncData} {bn : List Str} (D : DefAt K x n fa fd) (X : K.In hb) (h1 : (fnScope (nth n)).kind = .function) (h2 : ((fnScope (nth n)).names.map (·.1)).Nodup) (h3 : bn.Nodup)
    (h4 : ∀ y ∈ bn, (fnScope (nth n)).names.lookup y = some .local ∨ (fnScope (nth n)).names.lookup y = some .cell) : FnOk hb fa fd (fnBody (nth n)) bn := by
  obtain ⟨oc, od, osl, e⟩ := D.lk
  exact ⟨⟨_, X _ _ e, rfl⟩, D.body, codeRec_of X D.code, D.clo, D.glob, D.bui, D.scope ▸ h1, D.scope ▸ h2, h3, D.scope ▸ h4⟩
end
theorem seen_at {K : Frag} (Y : see K = want) {i : Nat} {p : Str × Nat × Option (List Value)} (h : defL[i]? = some p) : seeFn K p.1 = some (fnWant p.2.1 p.2.2) := by
  have e := congrArg (fun s : Seen => s.fns[i]?) Y
  change (defL.map fun p => seeFn K p.1)[i]? = (defL.map fun p => some (fnWant p.2.1 p.2.2))[i]? at e
  rw [List.getElem?_map, List.getElem?_map, h] at e
  exact Option.some.inj e
theorem at_of {K : Frag} {x : Str} {n : Nat} {d : Option (List Value)} (h : seeFn K x = some (fnWant n d)) : ∃ fa fd, DefAt K x n fa fd ∧ fd.params = fnParams (nth n) ∧ dfl K fd.defaults = some d := by
  unfold seeFn at h
  split at h
  · rename_i a e
    split at h
    · rename_i oc od fd osl ho
      have h := Option.some.inj h
      exact ⟨a, fd, ⟨e, ⟨_, _, _, ho⟩, congrArg FnSeen.body h, congrArg FnSeen.scope h, congrArg FnSeen.code h, congrArg FnSeen.clo h, congrArg FnSeen.glob h, congrArg FnSeen.bui h⟩, congrArg FnSeen.params h, congrArg FnSeen.dfl h⟩
    · cases h
  · cases h
theorem dfl_none {K : Frag} {v : Value} (h : dfl K v = some none) : v = .none := by
  unfold dfl at h
  split at h
  · rfl
  · split at h
    · cases h
    · cases h
  · cases h
theorem dfl_some {K : Frag} {v : Value} {l : List Value} (h : dfl K v = some (some l)) : ∃ T o n, v = .ref T ∧ K.lookup T = some o ∧ o.data = .seq l.toArray n := by
  unfold dfl at h
  split at h
  · cases h
  · split at h
    · rename_i a c d xs n sl e
      cases h
      exact ⟨_, _, n, rfl, e, rfl⟩
    · cases h
  · cases h
theorem gone_at {K : Frag} (Y : see K = want) {i : Nat} {x : Str} (h : buiL[i]? = some x) : nsIn K mainGlobals x = some none := by
  have e := congrArg (fun s : Seen => s.bui[i]?) Y
  change (buiL.map (isGone K))[i]? = (buiL.map fun Z => true)[i]? at e
  rw [List.getElem?_map, List.getElem?_map, h] at e
  have e : isGone K x = true := Option.some.inj e
  unfold isGone at e
  split at e
  · assumption
  · cases e
theorem str_of {K : Frag} {x : Str} {l : List Nat} (h : seeStr K x = some l) : ∃ s t, nsIn K mainGlobals x = some (some (.str s t)) ∧ s.cps.toList = l := by
  unfold seeStr at h
  split at h
  · rename_i s t e; exact ⟨s, t, e, Option.some.inj h⟩
  · cases h
theorem byt_of {K : Frag} {x : Str} {l : List UInt8} (h : seeByt K x = some l) : ∃ s t, nsIn K mainGlobals x = some (some (.bytes s t)) ∧ s.toList = l := by
  unfold seeByt at h
  split at h
  · rename_i s t e; exact ⟨s, t, e, Option.some.inj h⟩
  · cases h
theorem int_of {K : Frag} {x : Str} {i : Int} (h : seeInt K x = some i) : ∃ t, nsIn K mainGlobals x = some (some (.int i t)) := by
  unfold seeInt at h
  split at h
  · rename_i s t e; exact ⟨t, by rw [← Option.some.inj h]; exact e⟩
  · cases h
theorem tab_of {K : Frag} {x : Str} {p : PV} (h : seeTab K x p = true) : ∃ v, nsIn K mainGlobals x = some (some v) ∧ rvIn K 4 p v = true := by
  unfold seeTab at h
  split at h
  · rename_i v e; exact ⟨v, e, h⟩
  · cases h
theorem tupAt_ok {K : Frag} {hb : Heap} (X : K.In hb) {v : Value} {xs : List Value} (h : tupAt K v = some xs) : ∃ a n, v = .ref a ∧ hb.get? a = some (tupObj xs n) := by
  unfold tupAt at h
  split at h
  · rename_i a
    split at h
    · rename_i c d ys n sl e
      split at h
      · rename_i q
        obtain ⟨rfl, q1, q2⟩ := q
        cases h
        obtain rfl := Option.isNone_iff_eq_none.mp q1
        obtain rfl := Array.eq_empty_of_size_eq_zero q2
        exact ⟨a, n, rfl, X _ _ e⟩
      · cases h
    · cases h
  · cases h
theorem rvIn_ok {K : Frag} {hb : Heap} (X : K.In hb) : ∀ (n : Nat) (p : PV) (v : Value), rvIn K n p v = true → RV hb no p v := by
  intro n
  induction n with
  | zero => intro p v h; cases h
  | succ n ih =>
    intro p v h
    cases p with
    | int i =>
      have h : isInt i v = true := h
      cases v <;> first | cases h | skip
      simp only [RV]
      exact ⟨_, by rw [beq_iff_eq.mp h]⟩
    | str l =>
      have h : isStr l v = true := h
      cases v <;> first | cases h | skip
      simp only [RV]
      exact ⟨_, by rw [← beq_iff_eq.mp h]⟩
    | tup l =>
      have h : (match tupAt K v with
        | some xs => xs.length == l.length && (l.zip xs).all fun p => rvIn K n p.1 p.2
        | none => false) = true := h
      cases ht : tupAt K v with
      | none => rw [ht] at h; cases h
      | some xs =>
        rw [ht] at h
        obtain ⟨h3, h4⟩ := Bool.and_eq_true_iff.mp h
        obtain ⟨a, k, rfl, e⟩ := tupAt_ok X ht
        simp only [RV]
        refine ⟨a, xs, k, rfl, fun q => q, e, ?_⟩
        refine RVs.of_get (beq_iff_eq.mp h3) fun i p v hp hv => ?_
        have hz : (l.zip xs)[i]? = some (p, v) := by rw [List.getElem?_zip_eq_some]; exact ⟨hp, hv⟩
        exact ih p v (List.all_eq_true.mp h4 _ (List.mem_of_getElem? hz))
    | _ => cases h
theorem len_cons {α : Type} {l : List α} {n : Nat} (h : l.length = n + 1) : ∃ a r, l = a :: r ∧ r.length = n := by
  cases l with
  | nil => cases h
  | cons a r => exact ⟨a, r, rfl, Nat.succ.inj h⟩
theorem len_nil {α : Type} {l : List α} (h : l.length = 0) : l = [] := List.length_eq_zero_iff.mp h
theorem bind_one {fd : FuncData} {a : Str} (h : ∀ t : Value, bindArgs fd ⟨[t], []⟩ = pure [(a, t)]) : ∀ l : List Value, l.length = [a].length → bindArgs fd ⟨l, []⟩ = pure ([a].zip l) := by
  intro l e0
  obtain ⟨t, l1, rfl, e1⟩ := len_cons e0
  obtain rfl := len_nil e1
  exact h t
theorem bind_three {fd : FuncData} {a b c : Str} (h : ∀ x y z : Value, bindArgs fd ⟨[x, y, z], []⟩ = pure [(a, x), (b, y), (c, z)]) : ∀ l : List Value, l.length = [a, b, c].length → bindArgs fd ⟨l, []⟩ = pure ([a, b, c].zip l) := by
  intro l e0
  obtain ⟨x, l1, rfl, e1⟩ := len_cons e0
  obtain ⟨y, l2, rfl, e2⟩ := len_cons e1
  obtain ⟨z, l3, rfl, e3⟩ := len_cons e2
  obtain rfl := len_nil e3
  exact h x y z
theorem bind_seven {fd : FuncData} {a b c d p f g : Str} (h : ∀ t u v w x y z : Value, bindArgs fd ⟨[t, u, v, w, x, y, z], []⟩ = pure [(a, t), (b, u), (c, v), (d, w), (p, x), (f, y), (g, z)]) : ∀ l : List Value, l.length = [a, b, c, d, p, f, g].length → bindArgs fd ⟨l, []⟩ = pure ([a, b, c, d, p, f, g].zip l) := by
  intro l e0
  obtain ⟨t, l1, rfl, e1⟩ := len_cons e0
  obtain ⟨u, l2, rfl, e2⟩ := len_cons e1
  obtain ⟨v, l3, rfl, e3⟩ := len_cons e2
  obtain ⟨w, l4, rfl, e4⟩ := len_cons e3
  obtain ⟨x, l5, rfl, e5⟩ := len_cons e4
  obtain ⟨y, l6, rfl, e6⟩ := len_cons e5
  obtain ⟨z, l7, rfl, e7⟩ := len_cons e6
  obtain rfl := len_nil e7
  exact h t u v w x y z
/-- what the def's scope must be like -/
structure ScOk (n : Nat) (bn : List Str) : Prop where
  h1 : (fnScope (nth n)).kind = .function
  h2 : ((fnScope (nth n)).names.map (·.1)).Nodup
  h3 : bn.Nodup
  h4 : ∀ y ∈ bn, (fnScope (nth n)).names.lookup y = some .local ∨ (fnScope (nth n)).names.lookup y = some .cell
  h5 : (fnScope (nth n)).isCoroutine = false
  h6 : (fnScope (nth n)).isGenerator = false
section
variable {K : Frag} {hb : Heap} {p : Program} {loose : List Str} {mg mb : Str → Option Value} {prog : Program} {w : World}
theorem DefAt.cb {x : Str} {n lv : Nat} {fa : Addr} {fd : FuncData} {bn : List Str} {g : List Sl → Option (PF × List Sl)} (D : DefAt K x n fa fd) (X : K.In hb) (hx : XSs prog w hb (fnScope (nth n)) lv (fnBody (nth n)) g)
    (hbind : ∀ vs : List Value, vs.length = bn.length → bindArgs fd ⟨vs, []⟩ = pure (bn.zip vs)) (o : ScOk n bn) : CB prog w hb (lv + 1) (.ref fa) (runP (fnScope (nth n)).names bn g) := by
  have ok := D.ok (hb := hb) X o.h1 o.h2 o.h3 o.h4
  have hc := CB.def (prog := prog) (w := w) (lv := lv) (g := g) ok (D.scope ▸ hx) hbind (D.scope ▸ o.h5) (D.scope ▸ o.h6)
  rw [D.scope] at hc
  exact hc
theorem DefAt.callee {x : Str} {n : Nat} {fa : Addr} {fd : FuncData} (D : DefAt K x n fa fd) (X : K.In hb) : Callee hb (.ref fa) := by
  obtain ⟨oc, od, osl, e⟩ := D.lk
  exact .func (X _ _ e) rfl
theorem DefAt.fn {x : Str} {n lv : Nat} {fa : Addr} {fd : FuncData} {bn : List Str} {g : List Sl → Option (PF × List Sl)} (D : DefAt K x n fa fd) (X : K.In hb) (T : TopRead p loose mg mb hb) (hx : XSs prog w hb (fnScope (nth n)) lv (fnBody (nth n)) g)
    (hbind : ∀ vs : List Value, vs.length = bn.length → bindArgs fd ⟨vs, []⟩ = pure (bn.zip vs)) (o : ScOk n bn) : FV prog w hb x (lv + 1) (runP (fnScope (nth n)).names bn g) :=
  ⟨.ref fa, .top X T D.ns, D.callee X, D.cb X hx hbind o⟩
theorem DefAt.kw {x : Str} {n lv : Nat} {fa : Addr} {fd : FuncData} {a₁ a₂ : Str} {g : List Sl → Option (PF × List Sl)} (D : DefAt K x n fa fd) (X : K.In hb) (T : TopRead p loose mg mb hb) (hx : XSs prog w hb (fnScope (nth n)) lv (fnBody (nth n)) g)
    (hbind : ∀ v u : Value, bindArgs fd ⟨[v], [(a₂, u)]⟩ = pure [(a₁, v), (a₂, u)]) (o : ScOk n [a₁, a₂]) : KV prog w hb x a₂ (lv + 1) (fun p q => runP (fnScope (nth n)).names [a₁, a₂] g [p, q]) := by
  have ok := D.ok (hb := hb) X o.h1 o.h2 o.h3 o.h4
  have hc := CK.def (prog := prog) (w := w) (lv := lv) (g := g) ok (D.scope ▸ hx) (fun s v u hk => BindsTo.of_eq (hbind v u)) (D.scope ▸ o.h5) (D.scope ▸ o.h6)
  rw [D.scope] at hc
  obtain ⟨oc, od, osl, e⟩ := D.lk
  exact ⟨fa, .top X T D.ns, ⟨_, _, X _ _ e, rfl⟩, hc⟩
theorem DefAt.dfl {x : Str} {n lv : Nat} {fa : Addr} {fd : FuncData} {bn : List Str} {g : List Sl → Option (PF × List Sl)} (ds : List PV) (dv : List Value) (hds : RVs hb no ds dv) (D : DefAt K x n fa fd) (X : K.In hb) (T : TopRead p loose mg mb hb) (hx : XSs prog w hb (fnScope (nth n)) lv (fnBody (nth n)) g)
    (y : Str) (ys : List Str) (hbn : bn = y :: ys) (hys : ys.length = dv.length) (hd : (∃ T o n, fd.defaults = .ref T ∧ K.lookup T = some o ∧ o.data = .seq dv.toArray n) ∧ ∀ v, ∃ k : Option (Array Value) → Sem (List (Str × Value)), bindArgs fd ⟨[v], []⟩ = seqItems? fd.defaults >>= k ∧ k (some dv.toArray) = pure ((y, v) :: ys.zip dv)) (o : ScOk n bn) :
    FV prog w hb x (lv + 1) (fun ps => runP (fnScope (nth n)).names bn g (ps ++ ds)) := by
  have ok := D.ok (hb := hb) X o.h1 o.h2 o.h3 o.h4
  obtain ⟨⟨A, oA, m, e1, e2, e4⟩, e3⟩ := hd
  have hc := CB.defD (prog := prog) (w := w) (lv := lv) (g := g) ds dv hds ok (D.scope ▸ hx) (fun s vs hk hl => by
    subst hbn
    have hl1 : vs.length = 0 + 1 := by rw [List.length_cons, hys] at hl; omega
    obtain ⟨v, r, rfl, e5⟩ := len_cons hl1
    obtain rfl := len_nil e5
    obtain ⟨k, h1, h2⟩ := e3 v
    exact BindsTo.of_defaults e1 (hk _ _ (X _ _ e2)) e4 h1 h2) (D.scope ▸ o.h5) (D.scope ▸ o.h6)
  rw [D.scope] at hc
  exact ⟨.ref fa, .top X T D.ns, D.callee X, hc⟩
theorem FV.bui {x : Str} {lv : Nat} {v : Value} {pf : List PV → Option PV} (X : K.In hb) (T : TopRead p loose mg mb hb) (e : nsIn K mainGlobals x = some none) (hv : bootBuiltins x = some v) (hn : x ≠ "__name__") (hc : Callee hb v) (h : CB prog w hb lv v pf) : FV prog w hb x lv pf :=
  ⟨v, .bui X T e hv hn, hc, h⟩
theorem GV.bty {x : Str} {t : String} (X : K.In hb) (T : TopRead p loose mg mb hb) (e : nsIn K mainGlobals x = some none) (hv : bootBuiltins x = some (.type t)) (hn : x ≠ "__name__") : GV hb x (.ty t) :=
  ⟨_, .bui X T e hv hn, by simp only [RV]⟩
end
theorem def_at {K : Frag} (Y : see K = want) {i n : Nat} {x : Str} (h : defL[i]? = some (x, n, none)) : ∃ fa fd, DefAt K x n fa fd ∧ fd.params = fnParams (nth n) ∧ fd.defaults = .none := by
  obtain ⟨fa, fd, D, e, d⟩ := at_of (seen_at Y h)
  exact ⟨fa, fd, D, e, dfl_none d⟩
noncomputable abbrev Bind1 (n : Nat) (y : Str) : Prop := ∀ fd : FuncData, fd.params = fnParams (nth n) → fd.defaults = .none → ∀ v : Value, bindArgs fd ⟨[v], []⟩ = pure [(y, v)]
noncomputable def fdUp (fd : FuncData) (p : Arguments) (d : Value) : FuncData := { fd with params := p, defaults := d }
theorem fd_up {fd : FuncData} {p : Arguments} {d : Value} (h : fd.params = p) (e : fd.defaults = d) : fd = fdUp fd p d := by subst h; subst e; rfl
theorem bup {fd : FuncData} {p : Arguments} {d : Value} {a : Args} {r : Sem (List (Str × Value))} (h : fd.params = p) (e : fd.defaults = d) (k : bindArgs (fdUp fd p d) a = r) : bindArgs fd a = r := (congrArg (fun f => bindArgs f a) (fd_up h e)).trans k
theorem b3 : Bind1 3 "addr" := fun fd h d v => bup h d (by kernel_rfl)
theorem b4 : Bind1 4 "addr" := fun fd h d v => bup h d (by kernel_rfl)
theorem b5 : Bind1 5 "addr" := fun fd h d v => bup h d (by kernel_rfl)
theorem b6 : Bind1 6 "email_header_fields" := fun fd h d v => bup h d (by kernel_rfl)
theorem b7 : Bind1 7 "s" := fun fd h d v => bup h d (by kernel_rfl)
theorem b10 : Bind1 10 "s" := fun fd h d v => bup h d (by kernel_rfl)
theorem b13 : Bind1 13 "data" := fun fd h d v => bup h d (by kernel_rfl)
theorem b14 : Bind1 14 "data" := fun fd h d v => bup h d (by kernel_rfl)
theorem b15 : Bind1 15 "x" := fun fd h d v => bup h d (by kernel_rfl)
theorem b17 : Bind1 17 "c" := fun fd h d v => bup h d (by kernel_rfl)
theorem b24 : Bind1 24 "mode" := fun fd h d v => bup h d (by kernel_rfl)
theorem b32 : Bind1 32 "mode" := fun fd h d v => bup h d (by kernel_rfl)
theorem b46 : Bind1 46 "mode" := fun fd h d v => bup h d (by kernel_rfl)
theorem b48 : Bind1 48 "script" := fun fd h d v => bup h d (by kernel_rfl)
theorem b50 : Bind1 50 "octets" := fun fd h d v => bup h d (by kernel_rfl)
theorem b53 : Bind1 53 "line" := fun fd h d v => bup h d (by kernel_rfl)
theorem b54 : Bind1 54 "line" := fun fd h d v => bup h d (by kernel_rfl)
theorem b55 : Bind1 55 "script" := fun fd h d v => bup h d (by kernel_rfl)
theorem b18 : ∀ fd : FuncData, fd.params = fnParams (nth 18) → fd.defaults = .none → ∀ v u : Value, bindArgs fd ⟨[v], [(("strict_mode" : Str), u)]⟩ = pure [(("data" : Str), v), (("strict_mode" : Str), u)] := fun fd h d v u => bup h d (by kernel_rfl)
theorem b19 : ∀ fd : FuncData, fd.params = fnParams (nth 19) → fd.defaults = .none → ∀ v u : Value, bindArgs fd ⟨[v], [(("newline" : Str), u)]⟩ = pure [(("data" : Str), v), (("newline" : Str), u)] := fun fd h d v u => bup h d (by kernel_rfl)
theorem b51 : ∀ fd : FuncData, fd.params = fnParams (nth 51) → fd.defaults = .none → ∀ a b c : Value, bindArgs fd ⟨[a, b, c], []⟩ = pure [(("modes" : Str), a), (("above" : Str), b), (("who" : Str), c)] := fun fd h d a b c => bup h d (by kernel_rfl)
theorem b49 : ∀ fd : FuncData, fd.params = fnParams (nth 49) → fd.defaults = .none → ∀ a b c d e f g : Value, bindArgs fd ⟨[a, b, c, d, e, f, g], []⟩ = pure [(("rows" : Str), a), (("folders" : Str), b), (("above" : Str), c), (("names" : Str), d), (("written" : Str), e), (("who" : Str), f), (("pairs" : Str), g)] := fun fd h q a b c d e f g => bup h q (by kernel_rfl)
theorem b52 : ∀ fd : FuncData, fd.params = fnParams (nth 52) → fd.defaults = .none → ∀ a b c d e f g : Value, bindArgs fd ⟨[a, b, c, d, e, f, g], []⟩ = pure [(("modes" : Str), a), (("above" : Str), b), (("names" : Str), c), (("stuff" : Str), d), (("who" : Str), e), (("closed" : Str), f), (("level" : Str), g)] := fun fd h q a b c d e f g => bup h q (by kernel_rfl)
theorem b21 : ∀ fd : FuncData, fd.params = fnParams (nth 21) → ∀ v : Value, ∃ k : Option (Array Value) → Sem (List (Str × Value)), bindArgs fd ⟨[v], []⟩ = seqItems? fd.defaults >>= k ∧ k (some ([.none] : List Value).toArray) = pure ((("s" : Str), v) :: [("altchars" : Str)].zip [.none]) := fun fd h v => ⟨_, bup h rfl rfl, rfl⟩
theorem b22 : ∀ fd : FuncData, fd.params = fnParams (nth 22) → ∀ v : Value, ∃ k : Option (Array Value) → Sem (List (Str × Value)), bindArgs fd ⟨[v], []⟩ = seqItems? fd.defaults >>= k ∧ k (some ([.none, .bool false] : List Value).toArray) = pure ((("s" : Str), v) :: [("altchars" : Str), ("validate" : Str)].zip [.none, .bool false]) := fun fd h v => ⟨_, bup h rfl rfl, rfl⟩
theorem sc4 : ScOk 4 [("addr" : Str)] := ⟨by kernel_rfl, by decide +kernel, by decide +kernel, by decide +kernel, by kernel_rfl, by kernel_rfl⟩
theorem sc5 : ScOk 5 [("addr" : Str)] := ⟨by kernel_rfl, by decide +kernel, by decide +kernel, by decide +kernel, by kernel_rfl, by kernel_rfl⟩
theorem sc6 : ScOk 6 [("email_header_fields" : Str)] := ⟨by kernel_rfl, by decide +kernel, by decide +kernel, by decide +kernel, by kernel_rfl, by kernel_rfl⟩
theorem sc7 : ScOk 7 [("s" : Str)] := ⟨by kernel_rfl, by decide +kernel, by decide +kernel, by decide +kernel, by kernel_rfl, by kernel_rfl⟩
theorem sc10 : ScOk 10 [("s" : Str)] := ⟨by kernel_rfl, by decide +kernel, by decide +kernel, by decide +kernel, by kernel_rfl, by kernel_rfl⟩
theorem sc13 : ScOk 13 [("data" : Str)] := ⟨by kernel_rfl, by decide +kernel, by decide +kernel, by decide +kernel, by kernel_rfl, by kernel_rfl⟩
theorem sc14 : ScOk 14 [("data" : Str)] := ⟨by kernel_rfl, by decide +kernel, by decide +kernel, by decide +kernel, by kernel_rfl, by kernel_rfl⟩
theorem sc15 : ScOk 15 [("x" : Str)] := ⟨by kernel_rfl, by decide +kernel, by decide +kernel, by decide +kernel, by kernel_rfl, by kernel_rfl⟩
theorem sc17 : ScOk 17 [("c" : Str)] := ⟨by kernel_rfl, by decide +kernel, by decide +kernel, by decide +kernel, by kernel_rfl, by kernel_rfl⟩
theorem sc18 : ScOk 18 [("data" : Str), ("strict_mode" : Str)] := ⟨by kernel_rfl, by decide +kernel, by decide +kernel, by decide +kernel, by kernel_rfl, by kernel_rfl⟩
theorem sc19 : ScOk 19 [("data" : Str), ("newline" : Str)] := ⟨by kernel_rfl, by decide +kernel, by decide +kernel, by decide +kernel, by kernel_rfl, by kernel_rfl⟩
theorem sc21 : ScOk 21 [("s" : Str), ("altchars" : Str)] := ⟨by kernel_rfl, by decide +kernel, by decide +kernel, by decide +kernel, by kernel_rfl, by kernel_rfl⟩
theorem sc22 : ScOk 22 [("s" : Str), ("altchars" : Str), ("validate" : Str)] := ⟨by kernel_rfl, by decide +kernel, by decide +kernel, by decide +kernel, by kernel_rfl, by kernel_rfl⟩
theorem sc24 : ScOk 24 [("mode" : Str)] := ⟨by kernel_rfl, by decide +kernel, by decide +kernel, by decide +kernel, by kernel_rfl, by kernel_rfl⟩
theorem sc32 : ScOk 32 [("mode" : Str)] := ⟨by kernel_rfl, by decide +kernel, by decide +kernel, by decide +kernel, by kernel_rfl, by kernel_rfl⟩
theorem sc46 : ScOk 46 [("mode" : Str)] := ⟨by kernel_rfl, by decide +kernel, by decide +kernel, by decide +kernel, by kernel_rfl, by kernel_rfl⟩
theorem sc48 : ScOk 48 [("script" : Str)] := ⟨by kernel_rfl, by decide +kernel, by decide +kernel, by decide +kernel, by kernel_rfl, by kernel_rfl⟩
theorem sc49 : ScOk 49 [("rows" : Str), ("folders" : Str), ("above" : Str), ("names" : Str), ("written" : Str), ("who" : Str), ("pairs" : Str)] := ⟨by kernel_rfl, by decide +kernel, by decide +kernel, by decide +kernel, by kernel_rfl, by kernel_rfl⟩
theorem sc50 : ScOk 50 [("octets" : Str)] := ⟨by kernel_rfl, by decide +kernel, by decide +kernel, by decide +kernel, by kernel_rfl, by kernel_rfl⟩
theorem sc51 : ScOk 51 [("modes" : Str), ("above" : Str), ("who" : Str)] := ⟨by kernel_rfl, by decide +kernel, by decide +kernel, by decide +kernel, by kernel_rfl, by kernel_rfl⟩
theorem sc52 : ScOk 52 [("modes" : Str), ("above" : Str), ("names" : Str), ("stuff" : Str), ("who" : Str), ("closed" : Str), ("level" : Str)] := ⟨by kernel_rfl, by decide +kernel, by decide +kernel, by decide +kernel, by kernel_rfl, by kernel_rfl⟩
theorem sc53 : ScOk 53 [("line" : Str)] := ⟨by kernel_rfl, by decide +kernel, by decide +kernel, by decide +kernel, by kernel_rfl, by kernel_rfl⟩
theorem sc54 : ScOk 54 [("line" : Str)] := ⟨by kernel_rfl, by decide +kernel, by decide +kernel, by decide +kernel, by kernel_rfl, by kernel_rfl⟩
theorem sc55 : ScOk 55 [("script" : Str)] := ⟨by kernel_rfl, by decide +kernel, by decide +kernel, by decide +kernel, by kernel_rfl, by kernel_rfl⟩
noncomputable def decOf (P : List PV → Option PV) (x : List Nat) : Option (List UInt8) := match P [.str x] with
  | some (.byt y) => some y
  | _ => none
theorem decOf_some {P : List PV → Option PV} {x : List Nat} {y : List UInt8} (h : decOf P x = some y) : P [.str x] = some (.byt y) := by
  unfold decOf at h
  split at h
  · rename_i z e; cases h; exact e
  · cases h
theorem decOf_of {P : List PV → Option PV} {x : List Nat} {y : List UInt8} (h : P [.str x] = some (.byt y)) : decOf P x = some y := by
  unfold decOf; rw [h]
section
variable {K : Frag} {hb : Heap} {p : Program} {loose : List Str} {mg mb : Str → Option Value} {prog : Program} {w : World}
/-- the law's own call -/
theorem whole (X : K.In hb) (T : TopRead p loose mg mb hb) (Y : see K = want) : ∃ fa pf, mg "law" = some (.ref fa) ∧ CB prog w hb 6 (.ref fa) pf ∧ ∀ ns : List Int, ns.length ≤ 63 → pf [.lst (ns.map .int)] = some (.bool true) := by
  have v_sum : FV prog w hb "sum" 0 sumP := .bui X T (gone_at Y (i := 0) rfl) rfl (by decide) (.builtin _) CB.sum
  have v_max : FV prog w hb "max" 0 maxP := .bui X T (gone_at Y (i := 3) rfl) rfl (by decide) (.builtin _) CB.max
  have v_len : FV prog w hb "len" 0 lenP := .bui X T (gone_at Y (i := 1) rfl) rfl (by decide) (.builtin _) CB.len
  have v_chr : FV prog w hb "chr" 0 chrP := .bui X T (gone_at Y (i := 11) rfl) rfl (by decide) (.builtin _) CB.chr
  have v_isi : FV prog w hb "isinstance" 0 isinstP := .bui X T (gone_at Y (i := 8) rfl) rfl (by decide) (.builtin _) CB.isinst
  have v_bytes : FV prog w hb "bytes" 0 bytesP := .bui X T (gone_at Y (i := 6) rfl) rfl (by decide) (.type _) CB.bytes
  have v_type : FV prog w hb "type" 0 typeP := .bui X T (gone_at Y (i := 4) rfl) rfl (by decide) (.type _) CB.type
  have i_range : IA prog w hb "range" 0 rangeP := ⟨.type "range", .bui X T (gone_at Y (i := 2) rfl) rfl (by decide), .type _, fun t => CI.range⟩
  have i_enu : IV prog w hb "enumerate" 0 enumP := ⟨.type "enumerate", .bui X T (gone_at Y (i := 9) rfl) rfl (by decide), .type _, fun a b c => CI.enumerate⟩
  have i_zip : IV prog w hb "zip" 0 zipP := ⟨.type "zip", .bui X T (gone_at Y (i := 10) rfl) rfl (by decide), .type _, fun a b c => CI.zip⟩
  have t_str : GV hb "str" (.ty "str") := .bty X T (gone_at Y (i := 5) rfl) rfl (by decide)
  have t_bytes : GV hb "bytes" (.ty "bytes") := .bty X T (gone_at Y (i := 6) rfl) rfl (by decide)
  have t_bool : GV hb "bool" (.ty "bool") := .bty X T (gone_at Y (i := 7) rfl) rfl (by decide)
  have g_tick : GV hb "TICK" (.str [39]) := by
    obtain ⟨s, t, e, h⟩ := str_of (congrArg Seen.tick Y)
    refine ⟨_, .top X T e, ?_⟩
    simp only [RV]; exact ⟨t, by rw [← h]⟩
  have g_b64 : GV hb "_B64" (.byt b64D) := by
    obtain ⟨s, t, e, h⟩ := byt_of (congrArg Seen.b64 Y)
    refine ⟨_, .top X T e, ?_⟩
    simp only [RV]; exact ⟨t, by rw [← h]⟩
  have g_dir : GV hb "S_IFDIR" (.int 16384) := by
    obtain ⟨t, e⟩ := int_of (congrArg Seen.dir Y)
    refine ⟨_, .top X T e, ?_⟩
    simp only [RV]; exact ⟨t, rfl⟩
  have g_tab : GV hb "_filemode_table" tableV := by
    obtain ⟨v, e, h⟩ := tab_of (congrArg Seen.tab Y)
    exact ⟨_, .top X T e, rvIn_ok X _ _ _ h⟩
  -- the generator
  obtain ⟨f3, fd3, D3, p3, q3⟩ := def_at Y (i := 0) rfl
  have B3 := b3 _ p3 q3
  obtain ⟨escP, C3, E3⟩ := run3 (prog := prog) (w := w) (hb := hb) D3.scope (D3.ok X (by kernel_rfl) (by decide +kernel) (by decide +kernel) (by decide +kernel)) (.bui X T (gone_at Y (i := 9) rfl) rfl (by decide)) B3
  have i_esc : IV prog w hb "_iter_escaped_chars" 2 escP := ⟨.ref f3, .top X T D3.ns, D3.callee X, fun a b c => C3 _⟩
  -- leaves
  obtain ⟨f14, fd14, D14, p14, q14⟩ := def_at Y (i := 7) rfl
  have B14 := b14 _ p14 q14
  obtain ⟨g14, x14, r14⟩ := run14 (prog := prog) (w := w) (hb := hb) v_type t_bytes
  have v14 := D14.fn X T x14 (bind_one B14) sc14
  obtain ⟨f15, fd15, D15, p15, q15⟩ := def_at Y (i := 8) rfl
  have B15 := b15 _ p15 q15
  obtain ⟨g15, x15, r15⟩ := run15 (prog := prog) (w := w) (hb := hb) v_type t_bool
  have v15 := D15.fn X T x15 (bind_one B15) sc15
  obtain ⟨f17, fd17, D17, p17, q17⟩ := def_at Y (i := 9) rfl
  have B17 := b17 _ p17 q17
  obtain ⟨g17, x17, r17⟩ := run17 (prog := prog) (w := w) (hb := hb)
  have v17 := D17.fn X T x17 (bind_one B17) sc17
  obtain ⟨f10, fd10, D10, p10, q10⟩ := def_at Y (i := 5) rfl
  have B10 := b10 _ p10 q10
  obtain ⟨g10, x10, r10⟩ := run10 (prog := prog) (w := w) (hb := hb) v_isi t_str
  have v10 := D10.fn X T x10 (bind_one B10) sc10
  obtain ⟨f13, fd13, D13, p13, q13⟩ := def_at Y (i := 6) rfl
  have B13 := b13 _ p13 q13
  obtain ⟨g13, x13, r13⟩ := run13 (prog := prog) (w := w) (hb := hb) v_type t_str t_bytes
  have v13 := D13.fn X T x13 (bind_one B13) sc13
  obtain ⟨f18, fd18, D18, p18, q18⟩ := def_at Y (i := 10) rfl
  have B18 := b18 _ p18 q18
  obtain ⟨g18, x18, r18⟩ := run18 (prog := prog) (w := w) (hb := hb) _ _ _ v13 v15 v17 v_bytes
  have k18 := D18.kw X T x18 B18 sc18
  obtain ⟨f19, fd19, D19, p19, q19⟩ := def_at Y (i := 11) rfl
  have B19 := b19 _ p19 q19
  obtain ⟨g19, x19, r19⟩ := run19 (prog := prog) (w := w) (hb := hb) _ _ _ v14 v15 g_b64 v_bytes
  have k19 := D19.kw X T x19 B19 sc19
  obtain ⟨f21, fd21, D21, p21, q21⟩ := at_of (seen_at Y (i := 12) rfl)
  have B21 := And.intro (dfl_some q21) (b21 _ p21)
  obtain ⟨g21, x21, r21⟩ := run21 (prog := prog) (w := w) (hb := hb) _ k19
  have v21 := DefAt.dfl [.none] [.none] (.cons (by simp only [RV]) .nil) D21 X T x21 ("s" : Str) [("altchars" : Str)] rfl rfl B21 sc21
  obtain ⟨f22, fd22, D22, p22, q22⟩ := at_of (seen_at Y (i := 13) rfl)
  have B22 := And.intro (dfl_some q22) (b22 _ p22)
  obtain ⟨g22, x22, r22⟩ := run22 (prog := prog) (w := w) (hb := hb) _ _ v10 k18
  have v22 := DefAt.dfl [.none, .bool false] [.none, .bool false] (.cons (by simp only [RV]) (.cons (by simp only [RV]) .nil)) D22 X T x22 ("s" : Str) [("altchars" : Str), ("validate" : Str)] rfl rfl B22 sc22
  obtain ⟨f24, fd24, D24, p24, q24⟩ := def_at Y (i := 14) rfl
  have B24 := b24 _ p24 q24
  obtain ⟨g24, x24, r24⟩ := run24 (prog := prog) (w := w) (hb := hb)
  have v24 := D24.fn X T x24 (bind_one B24) sc24
  obtain ⟨f32, fd32, D32, p32, q32⟩ := def_at Y (i := 15) rfl
  have B32 := b32 _ p32 q32
  obtain ⟨g32, x32, r32⟩ := run32 (prog := prog) (w := w) (hb := hb) _ v24 g_dir
  have v32 := D32.fn X T x32 (bind_one B32) sc32
  obtain ⟨f46, fd46, D46, p46, q46⟩ := def_at Y (i := 16) rfl
  have B46 := b46 _ p46 q46
  obtain ⟨g46, x46, r46⟩ := run46 (prog := prog) (w := w) (hb := hb) _ _ v24 g_tab i_enu
  have v46 := D46.fn X T x46 (bind_one B46) sc46
  -- the reader's own
  obtain ⟨f4, fd4, D4, p4, q4⟩ := def_at Y (i := 1) rfl
  have B4 := b4 _ p4 q4
  obtain ⟨g4, x4, r4⟩ := run4 (prog := prog) (w := w) (hb := hb) _ i_esc v_len
  have v4 := D4.fn X T x4 (bind_one B4) sc4
  obtain ⟨f5, fd5, D5, p5, q5⟩ := def_at Y (i := 2) rfl
  have B5 := b5 _ p5 q5
  obtain ⟨g5, x5, r5⟩ := run5 (prog := prog) (w := w) (hb := hb) _ _ v4 i_esc
  have v5 := D5.fn X T x5 (bind_one B5) sc5
  obtain ⟨f6, fd6, D6, p6, q6⟩ := def_at Y (i := 3) rfl
  have B6 := b6 _ p6 q6
  obtain ⟨g6, x6, r6⟩ := run6 (prog := prog) (w := w) (hb := hb) _ v5
  have v6 := D6.fn X T x6 (bind_one B6) sc6
  obtain ⟨f7, fd7, D7, p7, q7⟩ := def_at Y (i := 4) rfl
  have B7 := b7 _ p7 q7
  obtain ⟨g7, x7, r7⟩ := run7 (prog := prog) (w := w) (hb := hb) g_tick v_len
  have v7 := D7.fn X T x7 (bind_one B7) sc7
  -- the law's own
  obtain ⟨f48, fd48, D48, p48, q48⟩ := def_at Y (i := 17) rfl
  have B48 := b48 _ p48 q48
  obtain ⟨g48, x48, r48⟩ := run48 (prog := prog) (w := w) (hb := hb) v_sum v_max v_len i_range
  have v48 := D48.fn X T x48 (bind_one B48) sc48
  obtain ⟨f49, fd49, D49, p49, q49⟩ := def_at Y (i := 18) rfl
  have B49 := b49 _ p49 q49
  obtain ⟨g49, x49, r49⟩ := run49 (prog := prog) (w := w) (hb := hb)
  have v49 := D49.fn X T x49 (bind_seven B49) sc49
  obtain ⟨f50, fd50, D50, p50, q50⟩ := def_at Y (i := 19) rfl
  have B50 := b50 _ p50 q50
  obtain ⟨g50, x50, r50⟩ := run50 (prog := prog) (w := w) (hb := hb) v_sum v_len i_range
  have v50 := D50.fn X T x50 (bind_one B50) sc50
  obtain ⟨f51, fd51, D51, p51, q51⟩ := def_at Y (i := 20) rfl
  have B51 := b51 _ p51 q51
  obtain ⟨g51, x51, r51⟩ := run51 (prog := prog) (w := w) (hb := hb) i_range
  have v51 := D51.fn X T x51 (bind_three B51) sc51
  obtain ⟨f52, fd52, D52, p52, q52⟩ := def_at Y (i := 21) rfl
  have B52 := b52 _ p52 q52
  obtain ⟨g52, x52, r52⟩ := run52 (prog := prog) (w := w) (hb := hb) _ v50
  have v52 := D52.fn X T x52 (bind_seven B52) sc52
  obtain ⟨f53, fd53, D53, p53, q53⟩ := def_at Y (i := 22) rfl
  have B53 := b53 _ p53 q53
  obtain ⟨g53, x53, r53⟩ := run53 (prog := prog) (w := w) (hb := hb) _ i_esc v_len
  have v53 := D53.fn X T x53 (bind_one B53) sc53
  obtain ⟨f54, fd54, D54, p54, q54⟩ := def_at Y (i := 23) rfl
  have B54 := b54 _ p54 q54
  obtain ⟨g54, x54, r54⟩ := run54 (prog := prog) (w := w) (hb := hb) _ _ i_esc v_len v22
  have v54 := D54.fn X T x54 (bind_one B54) sc54
  obtain ⟨f55, fd55, D55, p55, q55⟩ := def_at Y (i := 24) rfl
  have B55 := b55 _ p55 q55
  obtain ⟨g55, x55, r55⟩ := run55 (prog := prog) (w := w) (hb := hb) _ _ _ _ _ _ _ _ _ _ _ _ _ v_sum v_max v_len i_range v_chr v_bytes i_esc i_zip v48 v46 v32 v21 v49 v7 v51 v53 v52 v4 v54 v6
  have c55 := D55.cb (prog := prog) (w := w) X x55 (bind_one B55) sc55
  refine ⟨f55, _, mg_of X T.g D55.ns, c55, fun ns hns => ?_⟩
  -- what they compute
  have s4 := r4 E3
  have s5 := r5 E3 s4
  have s18 := r18 r13 r15 r17
  have s19 := r19 r14 r15 rfl
  have sdec : ∀ st : List Nat, st.length ≤ 3 → (∀ n ∈ st, n < 256) → decOf (fun ps => runP (fnScope (nth 22)).names [("s" : Str), ("altchars" : Str), ("validate" : Str)] g22 (ps ++ [.none, .bool false])) (fourL st) = some (st.map (·.toUInt8)) := fun st h1 h2 =>
    decOf_of (r22 _ _ _ (r10 _ (fourL_lt st) (Nat.le_trans (fourL_len st h1) (by decide))) (s18 st h1 h2))
  refine r55 E3 s4 r48 (r46 r24 rfl) (r32 r24) (fun l h1 h2 => r21 _ _ (s19 l h1 h2)) r49 r7.1 r7.2 r51 (r53 E3) (r52 r50) (fun D who lv hD => ?_) (r6 s5) ns hns
  refine r54 E3 (decOf _) (fun x y h => decOf_some h) _ _ ?_ (octets_left hD sdec lv)
  have := leftAt_len hD (who := who) lv
  exact Nat.le_trans this (by decide)
end
end Mine
end
namespace Mine
noncomputable abbrev lw : OpenLaw := PySem.Challenge.rw_rt0013_01
theorem wa1 : sreFenced lw.row.prog.main = true := by kernel_rfl
theorem wa2 : ((moduleNames lw.row.prog.main.body).isEmpty || lookedIntoSs (moduleNames lw.row.prog.main.body) lw.row.prog.main.body) = true := by kernel_rfl
theorem wa3 : namesResolve lw.row.prog = true := by kernel_rfl
theorem wa4 : (lw.row.prog.boundNames.all fun n => !worldNames.contains n) = true := by kernel_rfl
theorem wa5 : noRoadLSs { strict := !(importedModules lw.row.prog.main.body).all cThrough.contains, foot := none, bare := (["vars", "dir", "locals"] : List Str).filter (readsOut lw.row.prog lw.row.prog.main.body) } lw.row.prog.main.body = true := by kernel_rfl
theorem wa6 : (namesMeet lw.row.prog lw.row.prog.main.body fun _ n => attrL n) = true := by kernel_rfl
theorem wa : looksOpen lw.row.prog = true := look_both (look_both (look_both (look_both (look_both wa1 wa2) wa3) wa4) wa5) wa6
theorem wb : lw.row.wellSaid = true := by
  refine look_both (look_both ?_ (by kernel_rfl)) (by kernel_rfl)
  iterate 13 (refine look_both ?_ (by kernel_rfl))
  exact wa
theorem wc1 : noClassBlock lw.prog lw.footing = true := by kernel_rfl
theorem wc2 : noRoadLSs { strict := true, foot := some lw.bound', writes := lw.writes, may := lw.may } lw.footing = true := by kernel_rfl
theorem wc3 : defStands lw.about lw.above = true := by kernel_rfl
theorem wc4 : lw.namesIt = true := by kernel_rfl
theorem wc5 : (lw.bound'.all fun n => !builtinNamed n || lw.about == [n] || !lw.reads n) = true := by kernel_rfl
theorem wc6 : (!lw.writes || (lw.prog.main.body.flatMap importedNames).all fun n => !lw.reads n) = true := by kernel_rfl
theorem wc7 : ((lw.prog.main.body.flatMap importedNames).all fun n => !lw.reads n || (drawsOf n lw.prog.main.body).all fun mn => mn.2 != ("attrgetter" : Str) && mn.2 != ("methodcaller" : Str)) = true := by kernel_rfl
theorem wc8 : (namesMeet lw.prog lw.footing fun sc n => (!(["type", "isinstance", "issubclass", "getattr", "hasattr"] : List Str).contains n || sc.names.lookup n == some .globalImplicit) &&
    (lw.may != some n || sc.kind == .module || sc.names.lookup n == some .globalImplicit)) = true := by kernel_rfl
theorem wc9 : namesMeet lw.prog lw.above (fun _ n => !lw.own.contains n) = true := by kernel_rfl
theorem wc10 : (namesMeet lw.prog lw.footing fun sc n => sc.kind == .module || sc.names.lookup n != some .globalExplicit) = true := by kernel_rfl
theorem ws : lw.wellSaid = true := by
  iterate 18 (refine look_both ?_ ?_)
  · exact wb
  · kernel_rfl
  · kernel_rfl
  · exact wc1
  · kernel_rfl
  · kernel_rfl
  · exact wc2
  · exact wc3
  · exact wc4
  · kernel_rfl
  · exact wc5
  · exact wc6
  · exact wc7
  · exact wc8
  · kernel_rfl
  · kernel_rfl
  · kernel_rfl
  · exact wc9
  · exact wc10
noncomputable def fnPos : Stmt → Pos
  | .FunctionDef _ _ _ _ _ _ _ _ _ p => p
  | _ => default
noncomputable def rec55 : DefRec := ⟨"law", fnParams (nth 55), fnBody (nth 55), fnScope (nth 55), fnPos (nth 55)⟩
theorem hd1 : defOf view1 PySem.Challenge.rw_rt0013_01.row.name = some (rec55, []) := by kernel_rfl
theorem hd2 : PySem.Challenge.rw_rt0013_01.row.prog.theDef PySem.Challenge.rw_rt0013_01.row.name = some (fnParams (nth 55), fnBody (nth 55), fnScope (nth 55)) := by kernel_rfl
theorem hd3 : kwWritten? rec55.params.kwonlyargs rec55.params.kw_defaults = some [] := by kernel_rfl
theorem hd4 : (chainsOk view1 && opensWell PySem.Challenge.rw_rt0013_01.row.prog && (frees PySem.Challenge.rw_rt0013_01.row.toRowW && PySem.Challenge.rw_rt0013_01.row.within.isEmpty)) = true := by kernel_rfl
theorem hd5 : PySem.Challenge.rw_rt0013_01.row.prog.bare := ⟨rfl, rfl, rfl, rfl, rfl, by decide +kernel⟩
theorem hd6 : PySem.Challenge.rw_rt0013_01.row.toRowW.promised := ⟨[.list [.int 3, .int 1]], by decide +kernel, by decide +kernel⟩
theorem vals_rv {h : Heap} : ∀ {ns : List Int} {vs : List Value}, IntsAre vs ns → RVs h no (ns.map PV.int) vs
  | [], vs, x => by cases x; exact .nil
  | n :: ns, vs, x => by
    cases x with
    | cons i t r => exact .cons (by simp only [RV]; exact ⟨_, rfl⟩) (vals_rv r)
theorem room_caller : Room 6 callerA := ⟨rfl, by decide, by decide⟩
theorem call55 : WalkO view1 loose1 (fun Z Z => True) own PySem.Challenge.rw_rt0013_01.row.toRowW rec55 [] fun f vs => PySem.call f vs := by
  intro w s0 s1 mg mb G Y fa o pm cd doc dV kV ho hdd hcd hD hmg hg args vals as hpre hlay hrd hwl hlo
  clear hdd hcd hD ho
  have T := G.T
  clear G
  obtain ⟨K, KX, KY⟩ := Y
  wrow_args hpre hlay hrd hwl hlo
  rename_i ns hs hlay0 hL1 hr1 hl2 as4 as3 la vs ras hL ra w1 r0 hI hr hc1 hc2
  clear hr1 hr hs hlay0 hL1 hl2
  obtain ⟨f, pf, e, C, E⟩ := whole (prog := PySem.Challenge.rw_rt0013_01.row.prog) (w := w) KX (topRead_of T) KY
  have ef : f = fa := by
    have := e.symm.trans hmg
    cases this; rfl
  subst ef
  clear hmg
  have hrv : RV s1.heap no (.lst (ns.map PV.int)) (.ref la) := by
    simp only [ofPy] at w1
    obtain ⟨o', ho', hc', n, hd'⟩ := hL
    cases w1 with
    | list hg' _ =>
      rw [hg'] at ho'
      cases ho'
      cases hd'
      simp only [RV]
      exact ⟨la, _, _, rfl, fun q => q, hg', vals_rv hI⟩
  refine wpAny_mono (C callerA _ s1 no [.ref la] _ _ room_caller (fun a q => q.elim) T.nolimit (fun Z Z q => q) (.cons hrv .nil) (E ns (by omega))) (fun v s' q => ?_) fun Z Z x => x
  obtain ⟨x, hv⟩ := q
  simp only [RV] at hv
  subst hv
  exact ⟨.inl ⟨.bool true, .bool true, [], rfl, fun Z => rfl, .bool _, (by wrow_post), fun Z => ⟨.nil, fun Z h => nomatch h⟩⟩, .of_keep (fun b o' q => x.heap b o' (fun k => k) q), x.os, x.bare (by rw [hg]; intro y hy; simp at hy)⟩
end Mine
theorem PySem.Challenge.cw_rt0013_01_holds : PySem.Challenge.rw_rt0013_01.Holds := by
  refine holds_law Mine.ws fun said => holds_open (q := Mine.view1) (loose := Mine.loose1) (Xt := fun Z => true) (XP := fun Z Z => True) (Yf := fun s => Mine.see (Mine.fragOf s.heap)) (Ya := fun Z => Mine.want) (YP := Mine.own) (N := 3004)
    Mine.left1 (fun w s e => ⟨_, Mine.fragOf_in _, e⟩) (fun w h h' ⟨K, X, e⟩ k => ⟨K, X.keeps k, e⟩) (fun Z Z => trivial) (fun Z Z Z Z Z => trivial) Mine.hd1 Mine.hd2 Mine.hd3 (fun Z Z => recFacts_nil rfl) rfl said Mine.hd4 Mine.hd5 Mine.hd6 Mine.call55
