import PyProof.Rows.All
import Wide.All
import OpenK.AllK
import Wide.FinOn
import PySem.Challenge.RW_xh0015_01
set_option Elab.async false
section
open PySem PySem.W PyProof.Rows
set_option maxRecDepth 100000
set_option linter.unusedVariables false
namespace Mine

noncomputable abbrev FZ := Addr → Option Obj
noncomputable abbrev OP := Obj → Prop

inductive D where
  | none | bool (b : Bool) | int (i : Int) | tup (l : List D) | lst (l : List D) | dct (l : List (Int × D))

def isList (vs : List Value) : OP := fun o => ∃ n, o = { cls := .type "list", data := .seq vs.toArray n }
def isTup (vs : List Value) : OP := fun o => ∃ n, o = { cls := .type "tuple", data := .seq vs.toArray n }
def isCell (v : Option Value) : OP := fun o => o.data = .cell v
def isNs (m : Str → Option Value) : OP := fun o => ∃ es ep, o.data = .dict es ep ∧ StrKeys es ∧ ∀ name, nsFind es name = m name
/-- int keys; no use of the program in it -/
inductive IPairs : List DictEntry → List (Int × Value) → Prop
  | nil : IPairs [] []
  | cons {e : DictEntry} {k : Int} {v : Value} {es : List DictEntry} {kvs : List (Int × Value)} : Value.isInt k e.key = true → e.hash = hashInt k → e.val = v → IPairs es kvs → IPairs (e :: es) ((k, v) :: kvs)
def isDictE (kvs : List (Int × Value)) (ep : Nat) : OP := fun o => ∃ es, o.ExactDict ∧ o.data = .dict es ep ∧ IPairs es.toList kvs ∧ (kvs.map (·.1)).Nodup
def isDict (kvs : List (Int × Value)) : OP := fun o => ∃ ep, isDictE kvs ep o

inductive Rep (Z : FZ) : Value → D → Prop
  | none : Rep Z .none .none
  | bool {b} : Rep Z (.bool b) (.bool b)
  | int {i t} : Rep Z (.int i t) (.int i)
  | tup {a o vs ds} : Z a = some o → isTup vs o → vs.length = ds.length → (∀ (i : Nat) v d, vs[i]? = some v → ds[i]? = some d → Rep Z v d) → Rep Z (.ref a) (.tup ds)
  | lst {a o vs ds} : Z a = some o → isList vs o → vs.length = ds.length → (∀ (i : Nat) v d, vs[i]? = some v → ds[i]? = some d → Rep Z v d) → Rep Z (.ref a) (.lst ds)
  | dct {a o kvs ds} : Z a = some o → isDict kvs o → kvs.map (·.1) = ds.map (·.1) → (∀ (i : Nat) kv kd, kvs[i]? = some kv → ds[i]? = some kd → Rep Z kv.2 kd.2) → Rep Z (.ref a) (.dct ds)

def RepL (Z : FZ) (vs : List Value) (ds : List D) : Prop := vs.length = ds.length ∧ ∀ (i : Nat) v d, vs[i]? = some v → ds[i]? = some d → Rep Z v d
def RepK (Z : FZ) (vs : List (Int × Value)) (ds : List (Int × D)) : Prop := vs.map (·.1) = ds.map (·.1) ∧ ∀ (i : Nat) v d, vs[i]? = some v → ds[i]? = some d → Rep Z v.2 d.2

def Zle (Z Z' : FZ) : Prop := ∀ a o, Z a = some o → Z' a = some o
theorem Rep.mono {Z Z' : FZ} (hz : Zle Z Z') {v : Value} {d : D} (r : Rep Z v d) : Rep Z' v d := by
  induction r with
  | none => exact .none
  | bool => exact .bool
  | int => exact .int
  | tup h1 h2 h3 _ ih => exact .tup (hz _ _ h1) h2 h3 ih
  | lst h1 h2 h3 _ ih => exact .lst (hz _ _ h1) h2 h3 ih
  | dct h1 h2 h3 _ ih => exact .dct (hz _ _ h1) h2 h3 ih
theorem RepL.mono {Z Z' : FZ} (hz : Zle Z Z') {vs : List Value} {ds : List D} (r : RepL Z vs ds) : RepL Z' vs ds := ⟨r.1, fun i v d h1 h2 => (r.2 i v d h1 h2).mono hz⟩
theorem RepK.mono {Z Z' : FZ} (hz : Zle Z Z') {vs : List (Int × Value)} {ds : List (Int × D)} (r : RepK Z vs ds) : RepK Z' vs ds := ⟨r.1, fun i v d h1 h2 => (r.2 i v d h1 h2).mono hz⟩

inductive Fact where
  | V (v : Value) (d : D)
  | L (vs : List Value) (ds : List D)
  | K (vs : List (Int × Value)) (ds : List (Int × D))
  | E (d : Addr) (kvs : List (Int × Value)) (ep : Nat)
  | O (a : Addr) (p : OP)
noncomputable def Fact.ok (Z : FZ) : Fact → Prop
  | .V v d => Rep Z v d
  | .L vs ds => RepL Z vs ds
  | .K vs ds => RepK Z vs ds
  | .E d kvs ep => ∃ o, Z d = some o ∧ isDictE kvs ep o
  | .O a p => ∃ o, Z a = some o ∧ p o
theorem Fact.ok.mono {Z Z' : FZ} (hz : Zle Z Z') : ∀ {f : Fact}, f.ok Z → f.ok Z'
  | .V _ _, h => Rep.mono hz h
  | .L _ _, h => RepL.mono hz h
  | .K _ _, h => RepK.mono hz h
  | .E _ _ _, h => let ⟨o, e, r⟩ := h; ⟨o, hz _ _ e, r⟩
  | .O _ _, h => let ⟨o, e, r⟩ := h; ⟨o, hz _ _ e, r⟩
def AllOk (Z : FZ) (Fs : List Fact) : Prop := ∀ f ∈ Fs, f.ok Z
theorem AllOk.add {Z : FZ} {Fs : List Fact} (h : AllOk Z Fs) {g : Fact} (hg : g.ok Z) : AllOk Z (g :: Fs) := fun f hf => by
  rcases List.mem_cons.mp hf with rfl | hf
  · exact hg
  · exact h f hf
/-- the facts tell -/
def Tells (Fs : List Fact) (g : Fact) : Prop := ∀ Z, AllOk Z Fs → g.ok Z
abbrev Kn (Fs : List Fact) (v : Value) (d : D) : Prop := Tells Fs (.V v d)
abbrev KnL (Fs : List Fact) (vs : List Value) (ds : List D) : Prop := Tells Fs (.L vs ds)
abbrev KnK (Fs : List Fact) (vs : List (Int × Value)) (ds : List (Int × D)) : Prop := Tells Fs (.K vs ds)
theorem Tells.mem {Fs : List Fact} {g : Fact} (h : g ∈ Fs) : Tells Fs g := fun _ H => H _ h
theorem Tells.up {Fs : List Fact} {f g : Fact} (h : Tells Fs g) : Tells (f :: Fs) g := fun Z H => h Z fun x hx => H x (.tail _ hx)
theorem Tells.sub {Fs Gs : List Fact} {g : Fact} (h : Tells Fs g) (hs : ∀ f ∈ Fs, Tells Gs f) : Tells Gs g := fun Z H => h Z fun x hx => hs x hx Z H
theorem Kn.int {Fs : List Fact} {i : Int} {t : Tok} : Kn Fs (.int i t) (.int i) := fun _ _ => .int
theorem Kn.bool {Fs : List Fact} {b : Bool} : Kn Fs (.bool b) (.bool b) := fun _ _ => .bool
theorem Kn.none {Fs : List Fact} : Kn Fs .none .none := fun _ _ => .none
theorem KnL.nil {Fs : List Fact} : KnL Fs [] [] := fun _ _ => ⟨rfl, fun i v d h => by simp at h⟩
theorem KnL.cons {Fs : List Fact} {v : Value} {d : D} {vs : List Value} {ds : List D} (h : Kn Fs v d) (r : KnL Fs vs ds) : KnL Fs (v :: vs) (d :: ds) := fun Z H => by
  have h1 := h Z H
  have h2 := r Z H
  refine ⟨by simp [h2.1], fun i v' d' e1 e2 => ?_⟩
  cases i with
  | zero => simp at e1 e2; subst e1; subst e2; exact h1
  | succ i => simp at e1 e2; exact h2.2 i v' d' e1 e2
theorem KnL.len {Fs : List Fact} {vs : List Value} {ds : List D} (h : KnL Fs vs ds) {Z : FZ} (H : AllOk Z Fs) : vs.length = ds.length := (h Z H).1
theorem KnL.get {Fs : List Fact} {vs : List Value} {ds : List D} (h : KnL Fs vs ds) {i : Nat} {v : Value} {d : D} (h1 : vs[i]? = some v) (h2 : ds[i]? = some d) : Kn Fs v d := fun Z H => (h Z H).2 i v d h1 h2
theorem KnL.append {Fs : List Fact} {vs ws : List Value} {ds es : List D} (h : KnL Fs vs ds) (r : KnL Fs ws es) : KnL Fs (vs ++ ws) (ds ++ es) := fun Z H => by
  have h1 := h Z H
  have h2 := r Z H
  refine ⟨by simp [h1.1, h2.1], fun i v d e1 e2 => ?_⟩
  rw [List.getElem?_append] at e1 e2
  rw [h1.1] at e1
  split at e1
  · rename_i hlt; rw [if_pos hlt] at e2; exact h1.2 i v d e1 e2
  · rename_i hlt; rw [if_neg hlt] at e2; exact h2.2 _ v d e1 e2
theorem KnK.nil {Fs : List Fact} : KnK Fs [] [] := fun _ _ => ⟨rfl, fun i v d h => by simp at h⟩

def isCodeRec (q : Str) : OP := fun o => ∃ vs t, o.data = .fields vs ∧ vs[1]? = some (.str q t)
def CodeIn (Z : FZ) (cv : Value) (q : Str) : Prop := ∃ c o, cv = .ref c ∧ Z c = some o ∧ isCodeRec q o
theorem CodeIn.mono {Z Z' : FZ} (hz : Zle Z Z') {cv : Value} {q : Str} (h : CodeIn Z cv q) : CodeIn Z' cv q := let ⟨c, o, a, b, d⟩ := h; ⟨c, o, a, hz _ _ b, d⟩

structure Cx where
  hW : Heap
  T : List Addr
  TQ : Addr → Option Str
  h0 : Heap
  Z0 : FZ
  os : OsState

structure StZ (C : Cx) (Z : FZ) (L : Addr) (m : Str → Option Value) (X : List (Addr × OP)) (Fs : List Fact) (s : Shared) : Prop where
  w0 : ∀ a o, C.hW.get? a = some o → C.h0.get? a = some o
  wsz : C.hW.objs.size ≤ C.h0.objs.size
  low : C.hW.objs.size > sysModules
  zl : ∀ a o, Z a = some o → (a == sysModules) = false
  tW : ∀ P ∈ C.T, C.hW.get? P = none ∧ C.hW.objs.size > P
  kp : ∀ a o, a ∉ C.T → C.h0.get? a = some o → s.heap.get? a = some o
  tab : ∀ P ∈ C.T, ∃ o ps, s.heap.get? P = some o ∧ o = tabObj ps ∧ TriplesOk ps.toList ∧ ∀ q, C.TQ P = some q → o = tabObj ps ∧ ∀ pos cv, codeAmong pos ps.toList = some cv → CodeIn Z cv q
  fz : ∀ a o, Z a = some o → s.heap.get? a = some o
  z0 : ∀ a, a < C.h0.objs.size → Z a = C.Z0 a
  zT : ∀ P ∈ C.T, C.Z0 P = none
  ns : s.heap.Ns L m
  L0 : C.h0.objs.size ≤ L
  ZL : Z L = none
  mu : ∀ p ∈ X, (∃ o, s.heap.get? p.1 = some o ∧ p.2 o) ∧ C.h0.objs.size ≤ p.1 ∧ Z p.1 = none ∧ p.1 ≠ L
  nd : X.Pairwise fun p q => p.1 ≠ q.1
  fs : AllOk Z Fs
  gens : AllBare s.gens
  os : s.os = C.os

def St (C : Cx) (L : Addr) (m : Str → Option Value) (X : List (Addr × OP)) (Fs : List Fact) (s : Shared) : Prop := ∃ Z, StZ C Z L m X Fs s

section
variable {C : Cx} {Z : FZ} {L : Addr} {m : Str → Option Value} {X : List (Addr × OP)} {Fs : List Fact} {s : Shared}

theorem StZ.sz (H : StZ C Z L m X Fs s) : C.h0.objs.size ≤ s.heap.objs.size := Nat.le_trans H.L0 (Nat.le_of_lt H.ns.lt)
theorem StZ.LT (H : StZ C Z L m X Fs s) : L ∉ C.T := fun h => by
  have h1 : C.hW.objs.size > L := (H.tW _ h).2; have := H.wsz; have := H.L0; (first | lia | omega)
theorem StZ.newT (H : StZ C Z L m X Fs s) {a : Addr} (ha : C.h0.objs.size ≤ a) : a ∉ C.T := fun h => by
  have h1 : C.hW.objs.size > a := (H.tW _ h).2; have := H.wsz; (first | lia | omega)
theorem StZ.ZT (H : StZ C Z L m X Fs s) {P : Addr} (hP : P ∈ C.T) : Z P = none := by
  rw [H.z0 P (by have h1 : C.hW.objs.size > P := (H.tW P hP).2; have h2 := H.wsz; exact Nat.lt_of_lt_of_le h1 h2)]; exact H.zT P hP
theorem StZ.wk (H : StZ C Z L m X Fs s) {a : Addr} {o : Obj} (e : C.hW.get? a = some o) : s.heap.get? a = some o :=
  H.kp a o (fun h => by rw [(H.tW a h).1] at e; cases e) (H.w0 a o e)
theorem St.wk (H : St C L m X Fs s) {a : Addr} {o : Obj} (e : C.hW.get? a = some o) : s.heap.get? a = some o := let ⟨_, h⟩ := H; h.wk e
theorem St.tok (H : St C L m X Fs s) (t : Nat) : St C L m X Fs { s with toks := t } := let ⟨Z, h⟩ := H
  ⟨Z, ⟨h.w0, h.wsz, h.low, h.zl, h.tW, h.kp, h.tab, h.fz, h.z0, h.zT, h.ns, h.L0, h.ZL, h.mu, h.nd, h.fs, h.gens, h.os⟩⟩
theorem St.facts (H : St C L m X Fs s) {Gs : List Fact} (h : ∀ g ∈ Gs, Tells Fs g) : St C L m X Gs s := let ⟨Z, k⟩ := H
  ⟨Z, { k with fs := fun g hg => h g hg Z k.fs }⟩
theorem St.fact (H : St C L m X Fs s) {g : Fact} (h : Tells Fs g) : St C L m X (g :: Fs) s := H.facts fun f hf => by
  rcases List.mem_cons.mp hf with rfl | hf
  · exact h
  · exact .mem hf
theorem St.noFacts (H : St C L m X Fs s) : St C L m X [] s := H.facts fun _ h => nomatch h
theorem St.drop {p : Addr × OP} (H : St C L m (p :: X) Fs s) : St C L m X Fs s := let ⟨Z, h⟩ := H
  ⟨Z, { h with mu := fun q hq => h.mu q (.tail _ hq), nd := (List.pairwise_cons.mp h.nd).2 }⟩
theorem St.perm {Y : List (Addr × OP)} (H : St C L m X Fs s) (hp : X.Perm Y) : St C L m Y Fs s := let ⟨Z, h⟩ := H
  ⟨Z, { h with mu := fun q hq => h.mu q (hp.mem_iff.mpr hq), nd := (hp.pairwise_iff fun e e' => e e'.symm).mp h.nd }⟩
theorem St.sub {Y : List (Addr × OP)} (H : St C L m X Fs s) (hp : Y.Sublist X) : St C L m Y Fs s := let ⟨Z, h⟩ := H
  ⟨Z, { h with mu := fun q hq => h.mu q (hp.subset hq), nd := h.nd.sublist hp }⟩
theorem St.swap {p q : Addr × OP} (H : St C L m (p :: q :: X) Fs s) : St C L m (q :: p :: X) Fs s := H.perm (List.Perm.swap ..)
theorem St.rot {p q r : Addr × OP} (H : St C L m (p :: q :: r :: X) Fs s) : St C L m (r :: p :: q :: X) Fs s :=
  H.perm (((List.Perm.swap r q X).cons p).trans (List.Perm.swap r p (q :: X)))
theorem St.setm {m' : Str → Option Value} (H : St C L m X Fs s) (h : m = m') : St C L m' X Fs s := h ▸ H

theorem heap_none_of_size {h : Heap} {a : Addr} (ha : h.objs.size ≤ a) : h.get? a = none := by
  cases e : h.get? a with
  | none => rfl
  | some o => exact absurd (Heap.lt_size e) (Nat.not_lt.mpr ha)
theorem StZ.fresh (H : StZ C Z L m X Fs s) {a : Addr} (ha : s.heap.objs.size ≤ a) : Z a = none := by
  cases e : Z a with
  | none => rfl
  | some o => exact absurd (Heap.lt_size (H.fz a o e)) (Nat.not_lt.mpr ha)

/-- all that stood stands; nothing else is said of what is new -/
theorem StZ.grown (H : StZ C Z L m X Fs s) {h' : Heap} {tk : Nat} (k : ∀ a o, s.heap.get? a = some o → h'.get? a = some o) :
    StZ C Z L m X Fs { s with heap := h', toks := tk } :=
  { H with
    kp := fun a o ha e => k a o (H.kp a o ha e)
    tab := fun P hP => let ⟨o, ps, e, t⟩ := H.tab P hP; ⟨o, ps, k _ _ e, t⟩
    fz := fun a o e => k a o (H.fz a o e)
    ns := H.ns.keeps k
    mu := fun p hp => let ⟨⟨o, e, q⟩, r⟩ := H.mu p hp; ⟨⟨o, k _ _ e, q⟩, r⟩ }
theorem St.grown (H : St C L m X Fs s) {h' : Heap} {tk : Nat} (k : ∀ a o, s.heap.get? a = some o → h'.get? a = some o) :
    St C L m X Fs { s with heap := h', toks := tk } := let ⟨Z, h⟩ := H; ⟨Z, h.grown k⟩

/-- a new object enters the ledger -/
theorem St.take (H : St C L m X Fs s) {a : Addr} {p : OP} {h' : Heap} {tk : Nat} (k : ∀ b o, s.heap.get? b = some o → h'.get? b = some o)
    (ha : s.heap.objs.size ≤ a) (hp : ∃ o, h'.get? a = some o ∧ p o) : St C L m ((a, p) :: X) Fs { s with heap := h', toks := tk } := by
  obtain ⟨Z, h⟩ := H
  have g := h.grown (tk := tk) k
  have hL : L < s.heap.objs.size := h.ns.lt
  refine ⟨Z, { g with mu := fun q hq => ?_, nd := ?_ }⟩
  · rcases List.mem_cons.mp hq with rfl | hq
    · exact ⟨hp, Nat.le_trans h.sz ha, h.fresh ha, fun e => by
        have e' : a = L := e
        subst e'
        exact absurd hL (Nat.not_lt.mpr ha)⟩
    · exact g.mu q hq
  · refine List.pairwise_cons.mpr ⟨fun q hq e => ?_, h.nd⟩
    obtain ⟨⟨o, e1, _⟩, _⟩ := h.mu q hq
    have h1 := Heap.lt_size e1
    have e' : a = q.1 := e
    rw [← e'] at h1
    exact absurd h1 (Nat.not_lt.mpr ha)
theorem St.push (H : St C L m X Fs s) {p : OP} {o : Obj} (hp : p o) (hf : o.isFreed = false := by rfl) : St C L m ((s.heap.objs.size, p) :: X) Fs { s with heap := s.heap.push o } :=
  (H.take (tk := s.toks) (fun b o' e => Heap.get?_push_of_some _ e) (Nat.le_refl _) ⟨o, Heap.get?_push_size _ hf, hp⟩)

/-- the head of the ledger is turned -/
theorem St.upd (H : St C L m X Fs s) {a : Addr} {p p' : OP} {Y : List (Addr × OP)} (hX : X = (a, p) :: Y) {h' : Heap} {tk : Nat} (hs : Heap.SameBut a s.heap h') (hp : ∃ o, h'.get? a = some o ∧ p' o) :
    St C L m ((a, p') :: Y) Fs { s with heap := h', toks := tk } := by
  obtain ⟨Z, h⟩ := H
  subst hX
  obtain ⟨_, ha0, haZ, haL⟩ := h.mu _ (.head _)
  have hne : ∀ q ∈ Y, q.1 ≠ a := fun q hq e => (List.pairwise_cons.mp h.nd).1 q hq e.symm
  exact ⟨Z, { h with
    kp := fun b o hb e => (hs.2 b (fun q => by subst q; exact absurd (Heap.lt_size e) (Nat.not_lt.mpr ha0))).trans (h.kp b o hb e)
    tab := fun P hP => let ⟨o, ps, e, t⟩ := h.tab P hP; ⟨o, ps, (hs.2 P (fun q => h.newT ha0 (q ▸ hP))).trans e, t⟩
    fz := fun b o e => (hs.2 b (fun q => by subst q; exact absurd e (by rw [haZ]; nofun))).trans (h.fz b o e)
    ns := h.ns.sameBut hs (fun e => haL e.symm)
    mu := fun q hq => by
      rcases List.mem_cons.mp hq with rfl | hq
      · exact ⟨hp, ha0, haZ, haL⟩
      · obtain ⟨⟨o, e, r⟩, r'⟩ := h.mu q (.tail _ hq)
        exact ⟨⟨o, (hs.2 _ (hne q hq)).trans e, r⟩, r'⟩
    nd := List.pairwise_cons.mpr ⟨fun q hq e => hne q hq e.symm, (List.pairwise_cons.mp h.nd).2⟩ }⟩

/-- the head of the ledger is turned, and new things may stand behind -/
theorem StZ.updExt {a : Addr} {p p' : OP} {Y : List (Addr × OP)} (h : StZ C Z L m ((a, p) :: Y) Fs s) {h' : Heap} {tk : Nat} (hs : Heap.ExtBut a s.heap h') (hp : ∃ o, h'.get? a = some o ∧ p' o) :
    StZ C Z L m ((a, p') :: Y) Fs { s with heap := h', toks := tk } := by
  obtain ⟨_, ha0, haZ, haL⟩ := h.mu _ (.head _)
  have hne : ∀ q ∈ Y, q.1 ≠ a := fun q hq e => (List.pairwise_cons.mp h.nd).1 q hq e.symm
  exact { h with
    kp := fun b o hb e => hs b o (fun q => by subst q; exact absurd (Heap.lt_size e) (Nat.not_lt.mpr ha0)) (h.kp b o hb e)
    tab := fun P hP => let ⟨o, ps, e, t⟩ := h.tab P hP; ⟨o, ps, hs P _ (fun q => h.newT ha0 (q ▸ hP)) e, t⟩
    fz := fun b o e => hs b o (fun q => by subst q; exact absurd e (by rw [haZ]; nofun)) (h.fz b o e)
    ns := by
      obtain ⟨o, es, ep, ho, r⟩ := h.ns
      exact ⟨o, es, ep, hs _ _ (fun e => haL e.symm) ho, r⟩
    mu := fun q hq => by
      rcases List.mem_cons.mp hq with rfl | hq
      · exact ⟨hp, ha0, haZ, haL⟩
      · obtain ⟨⟨o, e, r⟩, r'⟩ := h.mu q (.tail _ hq)
        exact ⟨⟨o, hs _ _ (hne q hq) e, r⟩, r'⟩
    nd := List.pairwise_cons.mpr ⟨fun q hq e => hne q hq e.symm, (List.pairwise_cons.mp h.nd).2⟩ }
theorem St.updExt {a : Addr} {p p' : OP} {Y : List (Addr × OP)} (H : St C L m ((a, p) :: Y) Fs s) {h' : Heap} {tk : Nat} (hs : Heap.ExtBut a s.heap h') (hp : ∃ o, h'.get? a = some o ∧ p' o) :
    St C L m ((a, p') :: Y) Fs { s with heap := h', toks := tk } := let ⟨Z, h⟩ := H; ⟨Z, h.updExt hs hp⟩
/-- the head of the ledger goes, and new things may stand behind -/
theorem St.lose {a : Addr} {p : OP} {Y : List (Addr × OP)} (H : St C L m ((a, p) :: Y) Fs s) {h' : Heap} {tk : Nat} (hs : Heap.ExtBut a s.heap h') : St C L m Y Fs { s with heap := h', toks := tk } := by
  obtain ⟨Z, h⟩ := H
  obtain ⟨_, ha0, haZ, haL⟩ := h.mu _ (.head _)
  have hne : ∀ q ∈ Y, q.1 ≠ a := fun q hq e => (List.pairwise_cons.mp h.nd).1 q hq e.symm
  exact ⟨Z, { h with
    kp := fun b o hb e => hs b o (fun q => by subst q; exact absurd (Heap.lt_size e) (Nat.not_lt.mpr ha0)) (h.kp b o hb e)
    tab := fun P hP => let ⟨o, ps, e, t⟩ := h.tab P hP; ⟨o, ps, hs P _ (fun q => h.newT ha0 (q ▸ hP)) e, t⟩
    fz := fun b o e => hs b o (fun q => by subst q; exact absurd e (by rw [haZ]; nofun)) (h.fz b o e)
    ns := by
      obtain ⟨o, es, ep, ho, r⟩ := h.ns
      exact ⟨o, es, ep, hs _ _ (fun e => haL e.symm) ho, r⟩
    mu := fun q hq => by
      obtain ⟨⟨o, e, r⟩, r'⟩ := h.mu q (.tail _ hq)
      exact ⟨⟨o, hs _ _ (hne q hq) e, r⟩, r'⟩
    nd := (List.pairwise_cons.mp h.nd).2 }⟩
/-- the head of the ledger is turned, and a new thing enters -/
theorem St.evolve {a b : Addr} {p p' q : OP} {Y : List (Addr × OP)} (H : St C L m ((a, p) :: Y) Fs s) {h' : Heap} {tk : Nat} (hs : Heap.ExtBut a s.heap h') (hp : ∃ o, h'.get? a = some o ∧ p' o)
    (hb : s.heap.objs.size ≤ b) (hq : ∃ o, h'.get? b = some o ∧ q o) : St C L m ((b, q) :: (a, p') :: Y) Fs { s with heap := h', toks := tk } := by
  obtain ⟨Z, h⟩ := H
  have g := h.updExt (tk := tk) hs hp
  have ne : ∀ {c : Addr}, c < s.heap.objs.size → c ≠ b := fun hc e => Nat.lt_irrefl _ (Nat.lt_of_lt_of_le (e ▸ hc) hb)
  have old : ∀ r ∈ (a, p) :: Y, r.1 ≠ b := fun r hr => let ⟨⟨_, e, _⟩, _⟩ := h.mu r hr; ne (Heap.lt_size e)
  refine ⟨Z, { g with mu := fun r hr => ?_, nd := List.pairwise_cons.mpr ⟨fun r hr e => ?_, g.nd⟩ }⟩
  · rcases List.mem_cons.mp hr with rfl | hr
    · exact ⟨hq, Nat.le_trans h.sz hb, h.fresh hb, fun e => ne h.ns.lt e.symm⟩
    · exact g.mu r hr
  · rcases List.mem_cons.mp hr with rfl | hr
    · exact old _ (.head _) e.symm
    · exact old r (.tail _ hr) e.symm

/-- the frame is turned -/
theorem St.frame (H : St C L m X Fs s) {m' : Str → Option Value} {h' : Heap} {tk : Nat} (hs : Heap.SameBut L s.heap h') (hn : h'.Ns L m') : St C L m' X Fs { s with heap := h', toks := tk } := by
  obtain ⟨Z, h⟩ := H
  exact ⟨Z, { h with
    kp := fun b o hb e => (hs.2 b (fun q => by subst q; exact absurd (Heap.lt_size e) (Nat.not_lt.mpr h.L0))).trans (h.kp b o hb e)
    tab := fun P hP => let ⟨o, ps, e, t⟩ := h.tab P hP; ⟨o, ps, (hs.2 P (fun q => h.LT (q ▸ hP))).trans e, t⟩
    fz := fun b o e => (hs.2 b (fun q => by subst q; exact absurd e (by rw [h.ZL]; nofun))).trans (h.fz b o e)
    ns := hn
    mu := fun q hq => let ⟨⟨o, e, r⟩, r'⟩ := h.mu q hq; ⟨⟨o, (hs.2 _ r'.2.2).trans e, r⟩, r'⟩ }⟩

/-- a table of codes is turned; its new code is laid by -/
theorem St.table (H : St C L m X Fs s) {P c' : Addr} {oc : Obj} (hP : P ∈ C.T) {h' : Heap} {tk : Nat} (hs : Heap.ExtBut P s.heap h') {ps' : Array Value} (e : h'.get? P = some (tabObj ps')) (ht : TriplesOk ps'.toList) (hc : s.heap.objs.size ≤ c') (hoc : h'.get? c' = some oc)
    (hq : ∀ q, C.TQ P = some q → ∀ pos cv, codeAmong pos ps'.toList = some cv → (∃ ps, s.heap.get? P = some (tabObj ps) ∧ codeAmong pos ps.toList = some cv) ∨ (cv = .ref c' ∧ isCodeRec q oc)) {p : OP} (hp : p oc) :
    St C L m X (.O c' p :: Fs) { s with heap := h', toks := tk } := by
  obtain ⟨Z, h⟩ := H
  have nP : ∀ {b}, C.h0.objs.size ≤ b → b ≠ P := fun hb q => h.newT hb (q ▸ hP)
  have hZc : Z c' = none := h.fresh hc
  have hle : Zle Z (fun b => if b = c' then some oc else Z b) := fun b o' e => by
    by_cases hb : b = c'
    · subst hb; rw [hZc] at e; cases e
    · simp only [hb, if_false]; exact e
  have ne : ∀ {b : Addr}, b < s.heap.objs.size → b ≠ c' := fun hb e => Nat.lt_irrefl _ (Nat.lt_of_lt_of_le (e ▸ hb) hc)
  refine ⟨fun b => if b = c' then some oc else Z b, { h with
    kp := fun b o hb e => hs b o (fun q => hb (q ▸ hP)) (h.kp b o hb e)
    zl := fun b o' e => ?_
    tab := fun Q hQ => ?_
    fz := fun b o e1 => ?_
    z0 := fun b hb => ?_
    ns := ?_
    ZL := ?_
    mu := fun q hq => ?_
    fs := AllOk.add (fun f hf => (h.fs f hf).mono hle) ⟨oc, by simp, hp⟩ }⟩
  · by_cases hb : b = c'
    · subst hb
      have h1 := Nat.le_trans h.sz hc
      have h2 := h.wsz
      have h3 := h.low
      rw [beq_eq_false_iff_ne]
      intro q
      rw [q] at h1
      exact Nat.lt_irrefl _ (Nat.lt_of_lt_of_le h3 (Nat.le_trans h2 h1))
    · simp only [hb, if_false] at e; exact h.zl b o' e
  · by_cases q : Q = P
    · subst q
      obtain ⟨o0, ps0, e0, d0, t0, c0⟩ := h.tab Q hQ
      refine ⟨_, ps', e, rfl, ht, fun q hq' => ⟨rfl, fun pos cv hcv => ?_⟩⟩
      rcases hq q hq' pos cv hcv with ⟨ps, e1, hcv1⟩ | ⟨rfl, hr⟩
      · obtain ⟨rfl, c1⟩ := c0 q hq'
        rw [e0] at e1; cases e1
        exact (c1 pos cv hcv1).mono hle
      · exact ⟨c', oc, rfl, by simp, hr⟩
    · obtain ⟨o1, qs, e1, d1, t, cc⟩ := h.tab Q hQ; exact ⟨o1, qs, hs Q _ q e1, d1, t, fun q hq => ⟨(cc q hq).1, fun pos cv hcv => ((cc q hq).2 pos cv hcv).mono hle⟩⟩
  · by_cases hb : b = c'
    · subst hb; simp only [if_true] at e1; cases e1; exact hoc
    · simp only [hb, if_false] at e1; exact hs b o (fun q => by subst q; rw [h.ZT hP] at e1; cases e1) (h.fz b o e1)
  · simp only [ne (Nat.lt_of_lt_of_le hb h.sz), if_false]; exact h.z0 b hb
  · obtain ⟨o, es, ep, ho, r⟩ := h.ns
    exact ⟨o, es, ep, hs _ _ (nP h.L0) ho, r⟩
  · simp only [ne h.ns.lt, if_false]; exact h.ZL
  · obtain ⟨⟨o, e, r⟩, r1, r2, r3⟩ := h.mu q hq
    refine ⟨⟨o, hs _ _ (nP r1) e, r⟩, r1, ?_, r3⟩
    simp only [ne (Heap.lt_size e), if_false]; exact r2

/-- a table of which no more is told -/
theorem St.genTable (H : St C L m X Fs s) {P : Addr} (hP : P ∈ C.T) (hn : C.TQ P = none) {h' : Heap} {tk : Nat} (hs : Heap.ExtBut P s.heap h') {o' : Obj} {ps' : Array Value} (e : h'.get? P = some o') (hd : o' = tabObj ps') (ht : TriplesOk ps'.toList) :
    St C L m X Fs { s with heap := h', toks := tk } := by
  obtain ⟨Z, h⟩ := H
  have nP : ∀ {b}, C.h0.objs.size ≤ b → b ≠ P := fun hb q => h.newT hb (q ▸ hP)
  refine ⟨Z, { h with
    kp := fun a o ha e => hs a o (fun q => ha (q ▸ hP)) (h.kp a o ha e)
    tab := fun Q hQ => ?_
    fz := fun b o e1 => hs b o (fun q => by subst q; rw [h.ZT hP] at e1; cases e1) (h.fz b o e1)
    ns := ?_
    mu := fun q hq => let ⟨⟨o, e, r⟩, r1, r2⟩ := h.mu q hq; ⟨⟨o, hs _ _ (nP r1) e, r⟩, r1, r2⟩ }⟩
  · by_cases q : Q = P
    · subst q; exact ⟨o', ps', e, hd, ht, fun q hq => by rw [hn] at hq; cases hq⟩
    · obtain ⟨o1, qs, e1, d1, r⟩ := h.tab Q hQ; exact ⟨o1, qs, hs Q _ q e1, d1, r⟩
  · obtain ⟨o, es, ep, ho, r⟩ := h.ns
    exact ⟨o, es, ep, hs _ _ (nP h.L0) ho, r⟩
/-- generators were made -/
theorem St.genned (H : St C L m X Fs s) {h' : Heap} {tk : Nat} {gs : Array GenState} (k : ∀ a o, s.heap.get? a = some o → h'.get? a = some o) (hg : AllBare gs) : St C L m X Fs { s with heap := h', toks := tk, gens := gs } := by
  obtain ⟨Z, h⟩ := H
  have g := h.grown (tk := tk) k
  exact ⟨Z, ⟨g.w0, g.wsz, g.low, g.zl, g.tW, g.kp, g.tab, g.fz, g.z0, g.zT, g.ns, g.L0, g.ZL, g.mu, g.nd, g.fs, hg, g.os⟩⟩

/-- the head of the ledger is laid by for good -/
theorem St.freeze (H : St C L m X Fs s) {a : Addr} {p : OP} {Y : List (Addr × OP)} (hX : X = (a, p) :: Y) {g : Fact} (hg : ∀ Z o, AllOk Z Fs → Z a = some o → p o → g.ok Z) : St C L m Y (g :: Fs) s := by
  obtain ⟨Z, h⟩ := H
  subst hX
  obtain ⟨⟨o, ho, hpo⟩, ha0, haZ, haL⟩ := h.mu _ (.head _)
  replace ho : s.heap.get? a = some o := ho
  have hne : ∀ q ∈ Y, q.1 ≠ a := fun q hq e => (List.pairwise_cons.mp h.nd).1 q hq e.symm
  have hle : Zle Z (fun b => if b = a then some o else Z b) := fun b o' e => by
    by_cases hb : b = a
    · subst hb; rw [haZ] at e; cases e
    · simp only [hb, if_false]; exact e
  have hok : AllOk (fun b => if b = a then some o else Z b) Fs := fun f hf => (h.fs f hf).mono hle
  refine ⟨fun b => if b = a then some o else Z b, { h with
    fz := fun b o' e => ?_
    zl := fun b o' e => ?_
    tab := fun P hP => let ⟨o, ps, e, d, t, c⟩ := h.tab P hP; ⟨o, ps, e, d, t, fun q hq => ⟨(c q hq).1, fun pos cv hcv => ((c q hq).2 pos cv hcv).mono hle⟩⟩
    z0 := fun b hb => ?_
    ZL := ?_
    mu := fun q hq => ?_
    nd := (List.pairwise_cons.mp h.nd).2
    fs := fun f hf => ?_ }⟩
  · by_cases hb : b = a
    · subst hb
      have h1 : C.h0.objs.size ≤ b := ha0
      have h2 := h.wsz
      have h3 := h.low
      rw [beq_eq_false_iff_ne]
      intro q
      rw [q] at h1
      exact Nat.lt_irrefl _ (Nat.lt_of_lt_of_le h3 (Nat.le_trans h2 h1))
    · simp only [hb, if_false] at e; exact h.zl b o' e
  · by_cases hb : b = a
    · subst hb; simp only [if_true] at e; cases e; exact ho
    · simp only [hb, if_false] at e; exact h.fz b o' e
  · have : b ≠ a := fun q => by
      subst q
      have : C.h0.objs.size ≤ b := ha0
      (first | lia | omega)
    simp only [this, if_false]; exact h.z0 b hb
  · have : L ≠ a := fun q => haL q.symm
    simp only [this, if_false]; exact h.ZL
  · obtain ⟨r1, r2, r3, r4⟩ := h.mu q (.tail _ hq)
    refine ⟨r1, r2, ?_, r4⟩
    simp only [hne q hq, if_false]; exact r3
  · rcases List.mem_cons.mp hf with rfl | hf
    · exact hg _ o hok (by simp) hpo
    · exact hok f hf

theorem StZ.addFact (H : StZ C Z L m X Fs s) {g : Fact} (hg : g.ok Z) : StZ C Z L m X (g :: Fs) s := { H with fs := H.fs.add hg }
theorem St.get (H : St C L m X Fs s) {p : Addr × OP} (hp : p ∈ X) : ∃ o, s.heap.get? p.1 = some o ∧ p.2 o := let ⟨_, h⟩ := H; (h.mu p hp).1
theorem St.ns (H : St C L m X Fs s) : s.heap.Ns L m := let ⟨_, h⟩ := H; h.ns

/-- the same, with its items told -/
theorem St.listF (H : St C L m X Fs s) {a : Addr} {ds : List D} (h : Kn Fs (.ref a) (.lst ds)) : ∃ vs, (∃ o, s.heap.get? a = some o ∧ isList vs o) ∧ vs.length = ds.length ∧ St C L m X (.L vs ds :: Fs) s := by
  obtain ⟨Z, k⟩ := H
  cases h Z k.fs with
  | lst h1 h2 h3 h4 => exact ⟨_, ⟨_, k.fz _ _ h1, h2⟩, h3, Z, k.addFact ⟨h3, h4⟩⟩
theorem St.tupF (H : St C L m X Fs s) {a : Addr} {ds : List D} (h : Kn Fs (.ref a) (.tup ds)) : ∃ vs, (∃ o, s.heap.get? a = some o ∧ isTup vs o) ∧ vs.length = ds.length ∧ St C L m X (.L vs ds :: Fs) s := by
  obtain ⟨Z, k⟩ := H
  cases h Z k.fs with
  | tup h1 h2 h3 h4 => exact ⟨_, ⟨_, k.fz _ _ h1, h2⟩, h3, Z, k.addFact ⟨h3, h4⟩⟩
theorem St.dctF (H : St C L m X Fs s) {a : Addr} {ds : List (Int × D)} (h : Kn Fs (.ref a) (.dct ds)) : ∃ kvs ep, kvs.map (·.1) = ds.map (·.1) ∧ (a == sysModules) = false ∧ St C L m X (.E a kvs ep :: .K kvs ds :: Fs) s := by
  obtain ⟨Z, k⟩ := H
  cases h Z k.fs with
  | dct h1 h2 h3 h4 =>
    obtain ⟨ep, h2⟩ := h2
    exact ⟨_, ep, h3, k.zl _ _ h1, Z, (k.addFact (g := .K _ ds) ⟨h3, h4⟩).addFact ⟨_, h1, h2⟩⟩
theorem St.dctE (H : St C L m X Fs s) {a : Addr} {kvs : List (Int × Value)} {ep : Nat} (h : Tells Fs (.E a kvs ep)) : ∃ o, s.heap.get? a = some o ∧ isDictE kvs ep o := by
  obtain ⟨Z, k⟩ := H
  obtain ⟨o, e, r⟩ := h Z k.fs
  exact ⟨o, k.fz _ _ e, r⟩
theorem Kn.isRef_lst {v : Value} {ds : List D} (H : St C L m X Fs s) (h : Kn Fs v (.lst ds)) : ∃ a, v = .ref a := by
  obtain ⟨Z, k⟩ := H; cases h Z k.fs; exact ⟨_, rfl⟩
theorem Kn.isRef_tup {v : Value} {ds : List D} (H : St C L m X Fs s) (h : Kn Fs v (.tup ds)) : ∃ a, v = .ref a := by
  obtain ⟨Z, k⟩ := H; cases h Z k.fs; exact ⟨_, rfl⟩
theorem Kn.isRef_dct {v : Value} {ds : List (Int × D)} (H : St C L m X Fs s) (h : Kn Fs v (.dct ds)) : ∃ a, v = .ref a := by
  obtain ⟨Z, k⟩ := H; cases h Z k.fs; exact ⟨_, rfl⟩
theorem Kn.isInt {v : Value} {i : Int} (H : St C L m X Fs s) (h : Kn Fs v (.int i)) : ∃ t, v = .int i t := by
  obtain ⟨Z, k⟩ := H; cases h Z k.fs; exact ⟨_, rfl⟩
theorem Kn.isBool {v : Value} {i : Bool} (H : St C L m X Fs s) (h : Kn Fs v (.bool i)) : v = .bool i := by
  obtain ⟨Z, k⟩ := H; cases h Z k.fs; rfl
end

/-- a call begins: all that stands is to stand behind it -/
structure Enter (C : Cx) (L : Addr) (m : Str → Option Value) (X : List (Addr × OP)) (Fs : List Fact) (s : Shared) (C' : Cx) : Prop where
  hW : C'.hW = C.hW
  T : C'.T = C.T
  TQ : C'.TQ = C.TQ
  begin : ∀ {h1 : Heap} {L' : Addr} {m' : Str → Option Value} {X' : List (Addr × OP)} {tk : Nat}, (∀ a o, s.heap.get? a = some o → h1.get? a = some o) → s.heap.objs.size ≤ L' → h1.Ns L' m' →
    (∀ p ∈ X', (∃ o, h1.get? p.1 = some o ∧ p.2 o) ∧ s.heap.objs.size ≤ p.1 ∧ p.1 ≠ L') → (X'.Pairwise fun p q => p.1 ≠ q.1) → St C' L' m' X' Fs { s with heap := h1, toks := tk }
  back : ∀ {L' : Addr} {m' : Str → Option Value} {X' : List (Addr × OP)} {Gs : List Fact} {s' : Shared}, St C' L' m' X' Gs s' → St C L m X (Gs ++ Fs) s'

theorem St.enter {C : Cx} {L : Addr} {m : Str → Option Value} {X : List (Addr × OP)} {Fs : List Fact} {s : Shared} (H : St C L m X Fs s) : ∃ C', Enter C L m X Fs s C' := by
  obtain ⟨Z, h⟩ := H
  refine ⟨{ C with h0 := s.heap, Z0 := Z }, ⟨rfl, rfl, rfl, ?_, ?_⟩⟩
  · intro h1 L' m' X' tk k hL hn hX hp
    have fr : ∀ {a}, s.heap.objs.size ≤ a → Z a = none := fun ha => h.fresh ha
    exact ⟨Z, {
      w0 := fun a o e => h.wk e
      wsz := Nat.le_trans h.wsz h.sz
      low := h.low
      zl := fun a o e => h.zl a o e
      tW := h.tW
      kp := fun a o _ e => k a o e
      tab := fun P hP => let ⟨o, ps, e, t⟩ := h.tab P hP; ⟨o, ps, k _ _ e, t⟩
      fz := fun a o e => k a o (h.fz a o e)
      z0 := fun _ _ => rfl
      zT := fun P hP => h.ZT hP
      ns := hn
      L0 := hL
      ZL := fr hL
      mu := fun p hp => let ⟨a, b, c⟩ := hX p hp; ⟨a, b, fr b, c⟩
      nd := hp
      fs := h.fs
      gens := h.gens
      os := h.os }⟩
  · rintro L' m' X' Gs s' ⟨Z', h'⟩
    have hz0 : ∀ a, a < s.heap.objs.size → Z' a = Z a := h'.z0
    have hk : ∀ a o, a ∉ C.T → s.heap.get? a = some o → s'.heap.get? a = some o := h'.kp
    have hsz : s.heap.objs.size ≤ s'.heap.objs.size := h'.sz
    have hle : Zle Z Z' := fun a o e => (hz0 a (Heap.lt_size (h.fz a o e))).trans e
    exact ⟨Z', {
      w0 := h.w0
      wsz := h.wsz
      low := h.low
      zl := h'.zl
      tW := h.tW
      kp := fun a o ha e => hk a o ha (h.kp a o ha e)
      tab := h'.tab
      fz := h'.fz
      z0 := fun a ha => (hz0 a (Nat.lt_of_lt_of_le ha h.sz)).trans (h.z0 a ha)
      zT := h.zT
      ns := by
        obtain ⟨o, es, ep, ho, r⟩ := h.ns
        exact ⟨o, es, ep, hk _ _ h.LT ho, r⟩
      L0 := h.L0
      ZL := (hz0 _ h.ns.lt).trans h.ZL
      mu := fun p hp => by
        obtain ⟨⟨o, e, q⟩, r1, r2, r3⟩ := h.mu p hp
        exact ⟨⟨o, hk _ _ (h.newT r1) e, q⟩, r1, (hz0 _ (Heap.lt_size e)).trans r2, r3⟩
      nd := h.nd
      fs := fun f hf => by
        rcases List.mem_append.mp hf with hf | hf
        · exact h'.fs f hf
        · exact (h.fs f hf).mono hle
      gens := h'.gens
      os := h'.os }⟩

/-- a comprehension's frame -/
theorem St.compIn {C : Cx} {L : Addr} {m : Str → Option Value} {X : List (Addr × OP)} {Fs : List Fact} {s : Shared} (H : St C L m X Fs s) {h1 : Heap} {L' : Addr} {m' : Str → Option Value} {X' : List (Addr × OP)} {tk : Nat}
    (k : ∀ a o, s.heap.get? a = some o → h1.get? a = some o) (hL : s.heap.objs.size ≤ L') (hn : h1.Ns L' m')
    (hX : ∀ p ∈ X', (∃ o, h1.get? p.1 = some o ∧ p.2 o) ∧ s.heap.objs.size ≤ p.1 ∧ p.1 ≠ L') (hp : X'.Pairwise fun p q => p.1 ≠ q.1) : St C L' m' (X' ++ (L, isNs m) :: X) Fs { s with heap := h1, toks := tk } := by
  obtain ⟨Z, h⟩ := H
  have g := h.grown (tk := tk) k
  have old : ∀ q ∈ (L, isNs m) :: X, q.1 < s.heap.objs.size := fun q hq => by
    rcases List.mem_cons.mp hq with rfl | hq
    · exact h.ns.lt
    · obtain ⟨⟨o, e, _⟩, _⟩ := h.mu q hq; exact Heap.lt_size e
  refine ⟨Z, { g with ns := hn, L0 := Nat.le_trans h.sz hL, ZL := h.fresh hL, mu := fun q hq => ?_, nd := ?_ }⟩
  · rcases List.mem_append.mp hq with hq | hq
    · obtain ⟨a, b, c⟩ := hX q hq
      exact ⟨a, Nat.le_trans h.sz b, h.fresh b, c⟩
    · have hlt := old q hq
      rcases List.mem_cons.mp hq with rfl | hq
      · obtain ⟨o, es, ep, ho, r⟩ := g.ns
        exact ⟨⟨o, ho, es, ep, r⟩, h.L0, h.ZL, fun (q : L = L') => Nat.lt_irrefl _ (Nat.lt_of_lt_of_le (q ▸ hlt) hL)⟩
      · obtain ⟨a, b, c, d⟩ := g.mu q hq
        exact ⟨a, b, c, fun e => Nat.lt_irrefl _ (Nat.lt_of_lt_of_le (e ▸ hlt) hL)⟩
  · refine List.pairwise_append.mpr ⟨hp, List.pairwise_cons.mpr ⟨fun q hq e => (h.mu q hq).2.2.2 e.symm, h.nd⟩, fun a ha b hb e => ?_⟩
    have h1 := (hX a ha).2.1
    have h2 := old b hb
    rw [e] at h1
    exact Nat.lt_irrefl _ (Nat.lt_of_lt_of_le h2 h1)
theorem St.compOut {C : Cx} {L L' : Addr} {m m' : Str → Option Value} {X : List (Addr × OP)} {Fs : List Fact} {s : Shared} (H : St C L' m' ((L, isNs m) :: X) Fs s) : St C L m X Fs s := by
  obtain ⟨Z, h⟩ := H
  obtain ⟨⟨o, ho, es, ep, r⟩, a, b, c⟩ := h.mu _ (.head _)
  exact ⟨Z, { h with ns := ⟨o, es, ep, ho, r⟩, L0 := a, ZL := b, mu := fun q hq => let ⟨r1, r2, r3, r4⟩ := h.mu q (.tail _ hq); ⟨r1, r2, r3, fun e => (List.pairwise_cons.mp h.nd).1 q hq e.symm⟩, nd := (List.pairwise_cons.mp h.nd).2 }⟩

/-- room for k more calls, one within the other -/
def Room (A : Around) (k : Nat) : Prop := A.handled = none ∧ A.depth + k < recursionLimit ∧ A.units + 8 * k < cLine
theorem Room.mono {A : Around} {k j : Nat} (h : Room A k) (hj : j ≤ k) : Room A j := ⟨h.1, by have := h.2.1; (first | lia | omega), by have := h.2.2; (first | lia | omega)⟩
theorem Room.deeper {A : Around} {env : Env} {k : Nat} (h : Room A (k + 1)) : Room (A.deeper env) k := ⟨h.1, by
  show A.depth + 1 + k < _; have := h.2.1; (first | lia | omega), by show A.units + 3 + 8 * k < _; have := h.2.2; (first | lia | omega)⟩
theorem Room.depth {A : Around} {k : Nat} (h : Room A k) : A.depth < recursionLimit := by have := h.2.1; (first | lia | omega)
theorem Room.units {A : Around} {k : Nat} (h : Room A k) : A.units < cLine := by have := h.2.2; (first | lia | omega)
end Mine
end
section
open PySem PySem.W PyProof.Rows
set_option maxRecDepth 100000
set_option linter.unusedVariables false
namespace Mine

noncomputable abbrev upd (m : Str → Option Value) (x : Str) (v : Value) : Str → Option Value := fun y => if y = x then some v else m y

/-- the defs of a program -/
noncomputable def defOf (p : Program) (x : Str) : Arguments × List Stmt × Scope :=
  (p.main.body.findSome? fun st => match st with
    | .FunctionDef n a b _ _ _ sc _ _ _ => if n == x then some (a, b, sc) else none
    | _ => none).getD ({ posonlyargs := [], args := [], vararg := none, kwonlyargs := [], kw_defaults := [], kwarg := none, defaults := [] }, [], { kind := .function, names := [], isGenerator := false, isCoroutine := false })

structure Def (p : Program) (x : Str) where
  a : Arguments
  b : List Stmt
  sc : Scope
  eq : defOf p x = (a, b, sc)

/-- the world: what the top has left -/
structure Wd (hW : Heap) (mg : Str → Option Value) : Prop where
  g : hW.Ns mainGlobals mg
  b : ∃ mb, hW.Ns builtinsNs mb ∧ ∀ x : Str, x ≠ "__name__" → mb x = bootBuiltins x
  nolimit : hW.NoLimit
  sys : ∀ o, hW.get? sysModules = some o → True
  bm : ∃ bm ob, mg "__builtins__" = some (.ref bm) ∧ bm ≠ builtinsNs ∧ hW.get? bm = some ob ∧ ob.cls = .type "module" ∧ ob.dict = some builtinsNs ∧ ob.data = .plain

structure FnIs (hW : Heap) (mg : Str → Option Value) {p : Program} {x : Str} (d : Def p x) (f : Addr) (c : Addr) : Prop where
  val : mg x = some (.ref f)
  obj : ∃ oc od sl doc pm ct, hW.get? f = some ⟨oc, od, .func (fnOf x x d.a d.b d.sc .none .none doc pm none (.ref c) ct), sl⟩
  code : hW.CodeRec (.ref c) x

section
variable {prog : Program} {w : World} {A : Around} {E : Value → Shared → Prop} {C : Cx} {L : Addr} {m : Str → Option Value} {X : List (Addr × OP)} {Fs : List Fact} {s : Shared} {env : Env} {mg : Str → Option Value}

theorem codeRec_wk (H : St C L m X Fs s) {c : Value} {q : Str} (h : C.hW.CodeRec c q) : s.heap.CodeRec c q := h.keeps fun _ _ e => H.wk e

def Leaves (C : Cx) (L : Addr) (m : Str → Option Value) (X : List (Addr × OP)) (Fs : List Fact) (C' : Cx) (Q : Value → Shared → Prop) (fl : Flow) (s'' : Shared) : Prop :=
  ∃ L'' m'' X'' Gs, St C' L'' m'' X'' Gs s'' ∧ ∀ s', St C L m X (Gs ++ Fs) s' → Q (match fl with | .ret v => v | _ => .none) s'

theorem call_fn {fd : FuncData} {o : Obj} {f : Addr} {args : List Value} {binds : List (Str × Value)} {body : List Stmt} {k : Nat} {Q : Value → Shared → Prop}
    (H : St C L m X Fs s) (hlim : C.hW.NoLimit) (hR : Room A (k + 1)) (ho : s.heap.get? f = some o) (hd : o.data = .func fd) (hcd : s.heap.CodeRec fd.code fd.qualname) (hbody : fd.body = .stmts body)
    (hbind : bindArgs fd ⟨args, []⟩ = pure binds) (hcell : ∀ x ∈ fd.scope.names, x.2 ≠ .cell) (hl : ∀ x ∈ binds, fd.scope.names.lookup x.1 = some .local)
    (hk : fd.scope.kind = .function) (hco : fd.scope.isCoroutine = false) (hgen : fd.scope.isGenerator = false)
    (h : ∀ C' L' s₁ env, Enter C L m X Fs s C' → env = newEnv fd.scope L' fd.globals fd.closure (fd.qualname ++ ".<locals>.") (some f) fd.code none fd.builtins → Room (A.deeper env) k → St C' L' (fun x => binds.reverse.lookup x) [] Fs s₁ →
      wpAny (model prog w) (A.deeper env) (execs body env) (Leaves C L m X Fs C' Q) (fun _ _ => False) s₁) :
    wpAny (model prog w) A (call (.ref f) args) Q E s := by
  obtain ⟨C', hE⟩ := H.enter
  refine wpAny_call (codeAny_call_function hR.depth ho hd hco hgen hbody hcd ?_)
  rw [hbind]
  refine wpAny_pure (wpAny_newFunctionEnv hcell hl (fun h₁ hns hsb => ?_) hk)
  have old : ∀ b o, s.heap.get? b = some o → h₁.get? b = some o := fun b o e => hsb.extBut b o (Nat.ne_of_lt (Heap.lt_size e)) (Heap.get?_push_of_some _ e)
  refine ⟨(hlim.keeps fun b o e => H.wk e).keeps old, ?_⟩
  have S : St C' s.heap.objs.size (fun x => binds.reverse.lookup x) [] Fs { s with heap := h₁, toks := s.toks + binds.length } :=
    hE.begin old (Nat.le_refl _) hns (fun p hp => nomatch hp) .nil
  refine codeAny_func (wpAny_mono (h C' _ _ _ hE rfl hR.deeper S) (fun fl s'' hl => ?_) fun _ _ x => x.elim)
  obtain ⟨L'', m'', X'', Gs, S'', hq⟩ := hl
  exact hq s'' (hE.back S'')

/-- how a body may end -/
structure Back (C : Cx) (L : Addr) (m : Str → Option Value) (X : List (Addr × OP)) (Fs : List Fact) (C' : Cx) (Q : Value → Shared → Prop) (R : Flow → Shared → Prop) : Prop where
  ret : ∀ {L' : Addr} {m' : Str → Option Value} {X' : List (Addr × OP)} {Gs : List Fact} {v : Value} {s'' : Shared}, St C' L' m' X' Gs s'' → (∀ s', St C L m X (Gs ++ Fs) s' → Q v s') → R (.ret v) s''
  next : ∀ {L' : Addr} {m' : Str → Option Value} {X' : List (Addr × OP)} {Gs : List Fact} {s'' : Shared}, St C' L' m' X' Gs s'' → (∀ s', St C L m X (Gs ++ Fs) s' → Q .none s') → R .next s''
theorem leavesBack {C' : Cx} {Q : Value → Shared → Prop} : Back C L m X Fs C' Q (Leaves C L m X Fs C' Q) := ⟨fun S h => ⟨_, _, _, _, S, h⟩, fun S h => ⟨_, _, _, _, S, h⟩⟩
/-- a def of the top, without cells -/
theorem call_g {p : Program} {x : Str} {d : Def p x} {f c : Addr} {args : List Value} (names : List Str) {k : Nat} {Q : Value → Shared → Prop}
    (hlim : C.hW.NoLimit) (hf : FnIs C.hW mg d f c) (H : St C L m X Fs s) (hR : Room A (k + 1))
    (h : ∀ C' L' s₁ R E', Back C L m X Fs C' Q R → Enter C L m X Fs s C' → Room (A.deeper (envX x d.sc L' f (.ref c) [])) k → St C' L' (fun x => (names.zip args).reverse.lookup x) [] Fs s₁ →
      wpAny (model prog w) (A.deeper (envX x d.sc L' f (.ref c) [])) (execs d.b (envX x d.sc L' f (.ref c) [])) R E' s₁)
    (hbind : ∀ doc pm ct, bindArgs (fnOf x x d.a d.b d.sc .none .none doc pm none (.ref c) ct) ⟨args, []⟩ = pure (names.zip args) := by intros; rfl) (hcell : ∀ x ∈ d.sc.names, x.2 ≠ .cell := by decide)
    (hn : ∀ x ∈ names, d.sc.names.lookup x = some .local := by decide)
    (hk : d.sc.kind = .function := by rfl) (hco : d.sc.isCoroutine = false := by rfl) (hgen : d.sc.isGenerator = false := by rfl) :
    wpAny (model prog w) A (call (.ref f) args) Q E s := by
  obtain ⟨oc, od, sl, doc, pm, ct, ho⟩ := hf.obj
  exact call_fn H hlim hR (H.wk ho) rfl (codeRec_wk H hf.code) rfl (hbind doc pm ct) hcell (fun y hy => hn _ (List.of_mem_zip hy).1) hk hco hgen (fun C' L' s₁ env hE he hr S => by subst he; exact h C' L' s₁ _ _ leavesBack hE hr S)

theorem St.front {g : Fact} {Gs : List Fact} (H : St C L m X Gs s) (hg : Tells Gs g) (hs : ∀ f ∈ Fs, f ∈ Gs) : St C L m X (g :: Fs) s := H.facts fun f hf => by
  rcases List.mem_cons.mp hf with rfl | hf
  · exact hg
  · exact .mem (hs f hf)

/-! ## statements -/
theorem x_ret {e : Expr} {pos : Pos} {rest : List Stmt} {Q : Flow → Shared → Prop} (h : wpAny (model prog w) A (eval e env) (fun v => Q (.ret v)) E s) : wpAny (model prog w) A (execs (.Return (some e) pos :: rest) env) Q E s :=
  wpAny_execs_cons (wpAny_Return_some h)
theorem x_assign {x : Str} {px : Pos} {value : Expr} {pos : Pos} {rest : List Stmt} {Q : Flow → Shared → Prop} (h : wpAny (model prog w) A (eval value env) (fun v s₁ => wpAny (model prog w) A (storeName env x v) (fun _ s₂ => wpAny (model prog w) A (execs rest env) Q E s₂) E s₁) E s)
    (hs : swapsWith value (some (.Name x px)) pos.line env = pure false := by rfl) : wpAny (model prog w) A (execs (.Assign [.Name x px] value pos :: rest) env) Q E s :=
  wpAny_execs_cons (wpAny_Assign_Name h hs)
theorem x_assignSub {o i : Expr} {px : Pos} {value : Expr} {pos : Pos} {rest : List Stmt} {Q : Flow → Shared → Prop}
    (h : wpAny (model prog w) A (eval value env) (fun v s₁ => wpAny (model prog w) A (eval o env) (fun ov s₂ => wpAny (model prog w) A (eval i env) (fun iv s₃ => wpAny (model prog w) A (setItem ov iv v) (fun _ s₄ => wpAny (model prog w) A (execs rest env) Q E s₄) E s₃) E s₂) E s₁) E s)
    (hs : swapsWith value (some (.Subscript o i px)) pos.line env = pure false := by rfl) : wpAny (model prog w) A (execs (.Assign [.Subscript o i px] value pos :: rest) env) Q E s :=
  wpAny_execs_cons (wpAny_Assign_Subscript h hs)
theorem x_assignTup {elts : List Expr} {k : Nat} {px pos : Pos} {value : Expr} {rest : List Stmt} {Q : Flow → Shared → Prop}
    (h : wpAny (model prog w) A (eval value env) (fun v s₁ => wpAny (model prog w) A (assign (.Tuple elts k px) env v) (fun _ s₂ => wpAny (model prog w) A (execs rest env) Q E s₂) E s₁) E s)
    (hs : swapsWithSole [.Tuple elts k px] value pos.line env = pure false := by rfl) (hw : swappedStores [.Tuple elts k px] value env = pure none := by rfl) : wpAny (model prog w) A (execs (.Assign [.Tuple elts k px] value pos :: rest) env) Q E s :=
  wpAny_execs_cons (Assign_Tuple h hs hw)
theorem x_aug {x : Str} {px : Pos} {op : Operator} {value : Expr} {pos : Pos} {rest : List Stmt} {Q : Flow → Shared → Prop}
    (h : wpAny (model prog w) A (loadName env x) (fun old s₁ => wpAny (model prog w) A (eval value env) (fun v s₂ => wpAny (model prog w) A (inplaceOp op old v) (fun r s₃ => wpAny (model prog w) A (storeName env x r) (fun _ s₄ => wpAny (model prog w) A (execs rest env) Q E s₄) E s₃) E s₂) E s₁) E s) :
    wpAny (model prog w) A (execs (.AugAssign (.Name x px) op value pos :: rest) env) Q E s := wpAny_execs_cons (wpAny_AugAssign_Name h)
theorem x_nil {Q : Flow → Shared → Prop} (h : Q .next s) : wpAny (model prog w) A (execs [] env) Q E s := wpAny_execs_nil h
/-- an if that comes back, then the rest -/
def Then (M : Model) (A : Around) (rest : List Stmt) (env : Env) (Q : Flow → Shared → Prop) (E : Value → Shared → Prop) (f : Flow) (s : Shared) : Prop := match f with | .next => wpAny M A (execs rest env) Q E s | f => Q f s
theorem x_if {test : Expr} {body orelse : List Stmt} {pos : Pos} {rest : List Stmt} {Q : Flow → Shared → Prop}
    (h : wpAny (model prog w) A (isTrue test env (eval test env)) (fun b s₂ => if b then wpAny (model prog w) A (execs body env) (Then (model prog w) A rest env Q E) E s₂ else wpAny (model prog w) A (execs orelse env) (Then (model prog w) A rest env Q E) E s₂) E s) :
    wpAny (model prog w) A (execs (.If test body orelse pos :: rest) env) Q E s := wpAny_execs_cons (wpAny_If h)
theorem x_for {target iter : Expr} {body : List Stmt} {pos : Pos} {rest : List Stmt} {Q : Flow → Shared → Prop}
    (h : wpAny (model prog w) A (eval iter env) (fun x s₁ => wpAny (model prog w) A (pyIter x) (fun it s₂ =>
      codeAny (model prog w) A (.forLoop target it body [] env) (fun r s' => match r with | .ok f => Then (model prog w) A rest env Q E f s' | .error e => cameBackBy (model prog w) A env E e s') s₂) E s₁) E s)
    (hs : ∀ x, foldedSetIterable iter env x = pure x := by intro _; rfl) : wpAny (model prog w) A (execs (.For target iter body [] pos :: rest) env) Q E s := wpAny_execs_cons (wpAny_For h hs)

/-! ## names -/
theorem r_local {x : Str} {pos : Pos} {v : Value} {Q : Value → Shared → Prop} (H : St C L m X Fs s) (hm : m x = some v) (h : Q v s) (hL : env.locals = L := by rfl) (hk : env.scope.kind = .function := by rfl) (hl : env.kindOf x = some .local := by rfl)
    (hd : (x == ("__debug__" : Str)) = false := by decide) : wpAny (model prog w) A (eval (.Name x pos) env) Q E s :=
  wpAny_Name (wpAny_loadName_local hk hl (hL ▸ H.ns) hm h) hd
theorem r_loadLocal {x : Str} {v : Value} {Q : Value → Shared → Prop} (H : St C L m X Fs s) (hm : m x = some v) (h : Q v s) (hL : env.locals = L := by rfl) (hk : env.scope.kind = .function := by rfl) (hl : env.kindOf x = some .local := by rfl) :
    wpAny (model prog w) A (loadName env x) Q E s := wpAny_loadName_local hk hl (hL ▸ H.ns) hm h
theorem r_store {x : Str} {v : Value} {Q : Unit → Shared → Prop} (H : St C L m X Fs s) (h : ∀ s', St C L (upd m x v) X Fs s' → Q () s') (hL : env.locals = L := by rfl) (hl : env.kindOf x = some .local := by rfl)
    (hp : (env.scope.kind == .class || (env.scope.kind == .module && env.locals != env.globals)) = false := by rfl) : wpAny (model prog w) A (storeName env x v) Q E s := by
  subst hL
  exact wpAny_storeName_local hl H.ns (fun h' hn hs => h _ (H.frame hs hn)) hp
theorem r_cellName {x : Str} {pos : Pos} {c : Addr} {v : Value} {Q : Value → Shared → Prop} (H : St C L m X Fs s) (hp : (c, isCell (some v)) ∈ X) (h : Q v s) (hc : env.cells.lookup x = some c := by rfl) (hk : env.scope.kind = .function := by rfl) (hl : env.kindOf x = some .cell := by rfl)
    (hd : (x == ("__debug__" : Str)) = false := by decide) : wpAny (model prog w) A (eval (.Name x pos) env) Q E s :=
  wpAny_Name (wpAny_loadName_cell hk hl hc (H.get hp) h) hd
theorem r_freeName {x : Str} {pos : Pos} {c : Addr} {v : Value} {Q : Value → Shared → Prop} (H : St C L m X Fs s) (hp : (c, isCell (some v)) ∈ X) (h : Q v s) (hc : env.cells.lookup x = some c := by rfl) (hk : env.scope.kind = .function := by rfl) (hl : env.kindOf x = some .free := by rfl)
    (hd : (x == ("__debug__" : Str)) = false := by decide) (hn : (x == ("__classdict__" : Str)) = false := by decide) : wpAny (model prog w) A (eval (.Name x pos) env) Q E s :=
  wpAny_Name (wpAny_loadName_free hk hl hc (H.get hp) h hn) hd
theorem r_global {x : Str} {pos : Pos} {v : Value} {Q : Value → Shared → Prop} (W : Wd C.hW mg) (H : St C L m X Fs s) (hv : mg x = some v) (h : Q v s) (hG : env.globals = mainGlobals := by rfl) (hk : env.scope.kind = .function := by rfl) (hx : env.kindOf x = some .globalImplicit := by rfl)
    (hd : (x == ("__debug__" : Str)) = false := by decide) : wpAny (model prog w) A (eval (.Name x pos) env) Q E s :=
  Calls.Name_function_global hk hx (Calls.loadGlobal_global (env := env) (hG ▸ W.g.keeps fun _ _ e => H.wk e) hv h) hd
theorem r_builtin {x : Str} {pos : Pos} {v : Value} {Q : Value → Shared → Prop} (W : Wd C.hW mg) (H : St C L m X Fs s) (hn : mg x = none) (h : Q v s) (hv : bootBuiltins x = some v := by rfl) (hG : env.globals = mainGlobals := by rfl) (hB : env.builtins = builtinsNs := by rfl) (hk : env.scope.kind = .function := by rfl)
    (hx : env.kindOf x = some .globalImplicit := by rfl) (hd : (x == ("__debug__" : Str)) = false := by decide) (hnn : x ≠ "__name__" := by decide) : wpAny (model prog w) A (eval (.Name x pos) env) Q E s := by
  obtain ⟨mb, hb, hbb⟩ := W.b
  exact Calls.Name_function_global hk hx (Calls.loadGlobal_builtin (env := env) (hG ▸ W.g.keeps fun _ _ e => H.wk e) hn (hB ▸ hb.keeps fun _ _ e => H.wk e) ((hbb x hnn).trans hv) h) hd

/-! ## ints -/
theorem r_int {i : Int} {k : Nat} {pos : Pos} {Q : Value → Shared → Prop} (H : St C L m X Fs s) (h : ∀ t s', St C L m X Fs s' → Q (.int i t) s') : wpAny (model prog w) A (eval (.Constant (.int i) k pos) env) Q E s := wpAny_Constant_int (h _ _ (H.tok _))
variable {a b : Int} {t u : Tok} {Q : Value → Shared → Prop}
theorem r_add (H : St C L m X Fs s) (h : ∀ t s', St C L m X Fs s' → Q (.int (a + b) t) s') : wpAny (model prog w) A (binaryOp .Add (.int a t) (.int b u)) Q E s := add_int (h _ _ (H.tok _))
theorem r_sub (H : St C L m X Fs s) (h : ∀ t s', St C L m X Fs s' → Q (.int (a - b) t) s') : wpAny (model prog w) A (binaryOp .Sub (.int a t) (.int b u)) Q E s := sub_int (h _ _ (H.tok _))
theorem r_mul (H : St C L m X Fs s) (hm : IntMulOk a b) (h : ∀ t s', St C L m X Fs s' → Q (.int (a * b) t) s') : wpAny (model prog w) A (binaryOp .Mult (.int a t) (.int b u)) Q E s := mul_int (h _ _ (H.tok _)) hm
theorem r_mod (H : St C L m X Fs s) (hb : b ≠ 0) (h : ∀ t s', St C L m X Fs s' → Q (.int (a.fmod b) t) s') : wpAny (model prog w) A (binaryOp .Mod (.int a t) (.int b u)) Q E s := mod_int' hb (h _ _ (H.tok _))
theorem r_neg (H : St C L m X Fs s) (h : ∀ t s', St C L m X Fs s' → Q (.int (-a) t) s') : wpAny (model prog w) A (unaryOp .USub (.int a t)) Q E s := neg_int (h _ _ (H.tok _))
end
end Mine
end
section
open PySem PySem.W PyProof.Rows
set_option maxRecDepth 100000
set_option linter.unusedVariables false
namespace Mine
theorem len_two {α : Type} {l : List α} (h : l.length = 2) : ∃ a b, l = [a, b] := by
  obtain ⟨a, l, rfl⟩ := List.exists_cons_of_length_eq_add_one h
  obtain ⟨b, l, rfl⟩ := List.exists_cons_of_length_eq_add_one (Nat.succ.inj h)
  exact ⟨a, b, by rw [List.eq_nil_of_length_eq_zero (Nat.succ.inj (Nat.succ.inj h))]⟩
theorem len_five {α : Type} {l : List α} (h : l.length = 5) : ∃ a b c d e, l = [a, b, c, d, e] := by
  obtain ⟨a, l, rfl⟩ := List.exists_cons_of_length_eq_add_one h
  obtain ⟨b, l, rfl⟩ := List.exists_cons_of_length_eq_add_one (Nat.succ.inj h)
  obtain ⟨c, l, rfl⟩ := List.exists_cons_of_length_eq_add_one (Nat.succ.inj (Nat.succ.inj h))
  obtain ⟨d, e, rfl⟩ := len_two (Nat.succ.inj (Nat.succ.inj (Nat.succ.inj h)))
  exact ⟨a, b, c, d, e, rfl⟩
theorem range_pick {α : Type} : ∀ (X : List α), (List.range X.length).filterMap (X[·]?) = X
  | [] => rfl
  | a :: X => by
    rw [List.length_cons, List.range_succ_eq_map, List.filterMap_cons, List.filterMap_map]
    simp only [List.getElem?_cons_zero, Function.comp_def, List.getElem?_cons_succ]
    rw [range_pick X]
/-- a list in another order -/
theorem perm_idx {α : Type} {X : List α} (n : Nat) (is : List Nat) (h : is.Perm (List.range n)) (hn : X.length = n := by rfl) : X.Perm (is.filterMap (X[·]?)) := by
  subst hn
  exact (List.Perm.of_eq (range_pick X).symm).trans (h.symm.filterMap _)

/-! ## the bridge to the library's words -/
theorem IPairs.length {es : List DictEntry} {kvs : List (Int × Value)} (h : IPairs es kvs) : es.length = kvs.length := by
  induction h with
  | nil => rfl
  | cons _ _ _ _ ih => simp [ih]
theorem IPairs.pairs {prog : Program} {w : World} {es : List DictEntry} {kvs : List (Int × Value)} (h : IPairs es kvs) : Pairs (intKind prog w) es kvs := by
  induction h with
  | nil => exact .nil
  | cons h1 _ h3 _ ih => exact .cons h1 h3 ih
theorem IPairs.keys {prog : Program} {w : World} {es : List DictEntry} {kvs : List (Int × Value)} (h : IPairs es kvs) : ∀ e ∈ es, ∃ k, (intKind prog w).is k e.key = true ∧ e.hash = (intKind prog w).hash k := by
  induction h with
  | nil => intro e he; cases he
  | cons h1 h2 _ _ ih =>
    intro e he
    rcases List.mem_cons.mp he with rfl | he
    · exact ⟨_, h1, h2⟩
    · exact ih e he
theorem IPairs.of {prog : Program} {w : World} {es : List DictEntry} {kvs : List (Int × Value)} (h : Pairs (intKind prog w) es kvs) (hk : ∀ e ∈ es, ∃ k, (intKind prog w).is k e.key = true ∧ e.hash = (intKind prog w).hash k) : IPairs es kvs := by
  induction h with
  | nil => exact .nil
  | @cons e kv es kvs h1 h2 _ ih =>
    obtain ⟨k, e1, e2⟩ := hk e (.head _)
    have : k = kv.1 := (intKind prog w).inj _ _ _ e1 h1
    subst this
    exact .cons h1 e2 h2 (ih fun e he => hk e (.tail _ he))
section
variable {prog : Program} {w : World} {h : Heap} {a : Addr} {kvs : List (Int × Value)} {ep : Nat} {vs : List Value} {o : Obj}
theorem dictAt_of (e : h.get? a = some o) (x : isDictE kvs ep o) : h.DictAt (intKind prog w) a kvs ep := by
  obtain ⟨es, h1, h2, h3, h4⟩ := x
  exact ⟨o, es, e, h1, h2, fun e he => h3.keys e (by simpa using he), h3.pairs, h4⟩
theorem dictOf_of (e : h.get? a = some o) (x : isDict kvs o) : h.DictOf (intKind prog w) a kvs := let ⟨_, x⟩ := x; (dictAt_of e x).dictOf
theorem isDict_of (x : h.DictOf (intKind prog w) a kvs) : ∃ o, h.get? a = some o ∧ isDict kvs o := by
  obtain ⟨o, es, ep, e, h1, h2, h3, h4, h5⟩ := x
  exact ⟨o, e, ep, es, h1, h2, .of h4 fun e he => h3 e (by simpa using he), h5⟩
theorem list_of (e : h.get? a = some o) (x : isList vs o) : h.IsList a vs.toArray := by obtain ⟨n, rfl⟩ := x; exact ⟨_, e, rfl, n, rfl⟩
theorem plain_of (e : h.get? a = some o) (x : isList vs o) : h.PlainList a vs.toArray := by obtain ⟨n, rfl⟩ := x; exact ⟨n, e⟩
theorem isList_of {vs : Array Value} (x : h.PlainList a vs) : ∃ o, h.get? a = some o ∧ isList vs.toList o := by obtain ⟨n, e⟩ := x; exact ⟨_, e, n, by simp⟩
theorem tup_of (e : h.get? a = some o) (x : isTup vs o) : h.IsTuple a vs.toArray := by obtain ⟨n, rfl⟩ := x; exact ⟨_, e, rfl, n, rfl⟩
end

section
variable {C : Cx} {L : Addr} {m : Str → Option Value} {X Y : List (Addr × OP)} {Fs : List Fact} {s : Shared} {a : Addr}
theorem St.item {vs : List Value} {ds : List D} {i : Nat} {v : Value} {d : D} (H : St C L m X (.L vs ds :: Fs) s) (h1 : vs[i]? = some v) (h2 : ds[i]? = some d) : St C L m X (.V v d :: Fs) s := H.facts fun f hf => by
  rcases List.mem_cons.mp hf with rfl | hf
  · exact KnL.get (.mem (.head _)) h1 h2
  · exact .mem (.tail _ hf)
theorem St.order (H : St C L m X Fs s) (n : Nat) (is : List Nat) (h : is.Perm (List.range n)) (hn : X.length = n := by rfl) (hY : is.filterMap (X[·]?) = Y := by kernel_rfl) : St C L m Y Fs s := hY ▸ H.perm (perm_idx n is h hn)
theorem St.tail {f : Fact} (H : St C L m X (f :: Fs) s) : St C L m X Fs s := H.facts fun g hg => .mem (.tail _ hg)
theorem St.freezeL {vs : List Value} {ds : List D} (H : St C L m ((a, isList vs) :: X) Fs s) (hv : KnL Fs vs ds) : St C L m X (.V (.ref a) (.lst ds) :: Fs) s :=
  H.freeze rfl fun Z o hf e hp => let ⟨h1, h2⟩ := hv Z hf; .lst e hp h1 h2
theorem St.freezeT {vs : List Value} {ds : List D} (H : St C L m ((a, isTup vs) :: X) Fs s) (hv : KnL Fs vs ds) : St C L m X (.V (.ref a) (.tup ds) :: Fs) s :=
  H.freeze rfl fun Z o hf e hp => let ⟨h1, h2⟩ := hv Z hf; .tup e hp h1 h2
theorem St.freezeD {kvs : List (Int × Value)} {ds : List (Int × D)} (H : St C L m ((a, isDict kvs) :: X) Fs s) (hv : KnK Fs kvs ds) : St C L m X (.V (.ref a) (.dct ds) :: Fs) s :=
  H.freeze rfl fun Z o hf e hp => let ⟨h1, h2⟩ := hv Z hf; .dct e hp h1 h2
theorem KnK.keys {kvs : List (Int × Value)} {ds : List (Int × D)} (h : KnK Fs kvs ds) (H : St C L m X Fs s) : kvs.map (·.1) = ds.map (·.1) := let ⟨Z, k⟩ := H; (h Z k.fs).1
theorem KnL.length {vs : List Value} {ds : List D} (h : KnL Fs vs ds) (H : St C L m X Fs s) : vs.length = ds.length := let ⟨Z, k⟩ := H; (h Z k.fs).1
theorem KnK.get {kvs : List (Int × Value)} {ds : List (Int × D)} (h : KnK Fs kvs ds) {i : Nat} {kv : Int × Value} {kd : Int × D} (h1 : kvs[i]? = some kv) (h2 : ds[i]? = some kd) : Kn Fs kv.2 kd.2 := fun Z H => (h Z H).2 i kv kd h1 h2
end

section
variable {prog : Program} {w : World} {A : Around} {E : Value → Shared → Prop} {C : Cx} {L : Addr} {m : Str → Option Value} {X : List (Addr × OP)} {Fs : List Fact} {s : Shared} {env : Env} {mg : Str → Option Value}

/-! ## displays -/
def TupEnd (Q : Value → Shared → Prop) (vs : List Value) (s : Shared) : Prop := vs.length ≤ sizeLine ∧ Q (.ref s.heap.objs.size) { s with heap := s.heap.push { cls := .type "tuple", data := .seq vs.toArray } }
def ListEnd (Q : Value → Shared → Prop) (vs : List Value) (s : Shared) : Prop := vs.length ≤ sizeLine ∧ Q (.ref s.heap.objs.size) { s with heap := s.heap.push { cls := .type "list", data := .seq vs.toArray } }
theorem r_tuple {elts : List Expr} {k : Nat} {pos : Pos} {Q : Value → Shared → Prop} (h : wpAny (model prog w) A (spliced (backTo pos (starEach elts env))) (TupEnd Q) E s) : wpAny (model prog w) A (eval (.Tuple elts k pos) env) Q E s := wpAny_Tuple h
theorem r_list {elts : List Expr} {pos : Pos} {Q : Value → Shared → Prop} (h : wpAny (model prog w) A (spliced (backTo pos (starEach elts env))) (ListEnd Q) E s) : wpAny (model prog w) A (eval (.List elts pos) env) Q E s := wpAny_List h
theorem r_tupEnd {vs : List Value} {ds : List D} {Q : Value → Shared → Prop} (H : St C L m X Fs s) (hv : KnL Fs vs ds) (h : ∀ a s', St C L m X (.V (.ref a) (.tup ds) :: Fs) s' → Q (.ref a) s') (hl : vs.length ≤ sizeLine := by (simp only [List.length_cons, List.length_nil, sizeLine_eq]; (first | lia | omega))) : TupEnd Q vs s :=
  ⟨hl, h _ _ ((H.push (p := isTup vs) ⟨0, rfl⟩).freezeT hv)⟩
theorem r_listEnd {vs : List Value} {Q : Value → Shared → Prop} (H : St C L m X Fs s) (h : ∀ a s', St C L m ((a, isList vs) :: X) Fs s' → Q (.ref a) s') (hl : vs.length ≤ sizeLine := by (simp only [List.length_cons, List.length_nil, sizeLine_eq]; (first | lia | omega))) : ListEnd Q vs s :=
  ⟨hl, h _ _ (H.push (p := isList vs) ⟨0, rfl⟩)⟩
theorem r_dict0 {pos : Pos} {Q : Value → Shared → Prop} (H : St C L m X Fs s) (h : ∀ a s', St C L m ((a, isDict []) :: X) Fs s' → Q (.ref a) s') : wpAny (model prog w) A (eval (.Dict [] [] pos) env) Q E s :=
  wpAny_Dict_empty (h _ _ (H.push (p := isDict []) ⟨0, #[], ⟨rfl, rfl, rfl⟩, rfl, .nil, .nil⟩))

/-! ## unpacking -/
theorem r_unpack {elts : List Expr} {k : Nat} {pos : Pos} {a : Addr} {ds : List D} {Q : Unit → Shared → Prop} (hh : A.handled = none) (H : St C L m X Fs s) (ht : Kn Fs (.ref a) (.tup ds)) (hn : (assignEach elts env).length = ds.length) (hstar : (assignEach elts env).findIdx? (·.1) = none)
    (h : ∀ vs s', vs.length = ds.length → St C L m X (.L vs ds :: Fs) s' → wpAny (model prog w) A (assignInOrder ((assignEach elts env).map (·.2)) vs) Q E s') : wpAny (model prog w) A (assign (.Tuple elts k pos) env (.ref a)) Q E s := by
  obtain ⟨vs, ⟨o, ho, hp⟩, hlen, H1⟩ := H.tupF ht
  refine wpAny_assign_Tuple hh (tup_of ho hp) (by rw [hn, ← hlen]; simp) hstar fun h' hx => ?_
  have keep : ∀ b o, s.heap.get? b = some o → h'.get? b = some o := fun b o e => hx b o (Nat.ne_of_lt (Heap.lt_size e)) e
  exact h vs _ hlen (H1.grown (tk := s.toks) keep)
theorem r_inOrder {t : Value → Sem Unit} {ts : List (Value → Sem Unit)} {x : Value} {xs : List Value} {Q : Unit → Shared → Prop} (h : wpAny (model prog w) A (t x) (fun _ s' => wpAny (model prog w) A (assignInOrder ts xs) Q E s') E s) :
    wpAny (model prog w) A (assignInOrder (t :: ts) (x :: xs)) Q E s := by
  show wpAny _ _ (do holding xs (t x); assignInOrder ts xs) Q E s
  exact wpAny_bind (wpAny_holding h)
theorem r_inOrder0 {ts : List (Value → Sem Unit)} {Q : Unit → Shared → Prop} (h : Q () s) : wpAny (model prog w) A (assignInOrder ts []) Q E s := by
  cases ts <;> exact wpAny_pure h

/-! ## sources of a walk -/
abbrev Goes (prog : Program) (w : World) (A : Around) (target : Expr) (it : Value) (Q : Value → Shared → Prop) (E : Value → Shared → Prop) (s : Shared) : Prop :=
  wpAny (model prog w) A (pyNext it) (fun r s₁ => match r with | none => False | some x => wpAny (model prog w) A (letOwnedTupleGo target it x) (fun _ s₂ => Q x s₂) E s₁) E s
structure Src (prog : Program) (w : World) (target : Expr) (it : Value) (ds : List D) (R : Nat → List (Addr × OP)) (Re : List (Addr × OP)) (Gs : List Fact) : Prop where
  item : ∀ (i : Nat) (d : D), ds[i]? = some d → ∀ (A : Around) (E : Value → Shared → Prop) (C : Cx) (L : Addr) (m : Str → Option Value) (X : List (Addr × OP)) (Fs : List Fact) (s : Shared) (Q : Value → Shared → Prop), A.handled = none → (∀ g ∈ Gs, Tells Fs g) → St C L m (R i ++ X) Fs s →
    (∀ x s', St C L m (R (i + 1) ++ X) (.V x d :: Fs) s' → Q x s') → Goes prog w A target it Q E s
  done : ∀ (A : Around) (E : Value → Shared → Prop) (C : Cx) (L : Addr) (m : Str → Option Value) (X : List (Addr × OP)) (Fs : List Fact) (s : Shared) (Q : Shared → Prop), A.handled = none → (∀ g ∈ Gs, Tells Fs g) → St C L m (R ds.length ++ X) Fs s →
    (∀ s', St C L m (Re ++ X) Fs s' → Q s') → wpAny (model prog w) A (pyNext it) (fun r s₁ => match r with | none => Q s₁ | some _ => False) E s

theorem r_loop {target : Expr} {it : Value} {ds : List D} {R : Nat → List (Addr × OP)} {Re : List (Addr × OP)} {Gs : List Fact} {body : List Stmt} {RR : Result → Shared → Prop} (S : Src prog w target it ds R Re Gs) (hh : A.handled = none)
    (J : Nat → (Str → Option Value) → List (Addr × OP) → List Fact → Prop) (H : St C L m (R 0 ++ X) Fs s) (hG : ∀ g ∈ Gs, Tells Fs g) (h0 : J 0 m X Fs)
    (step : ∀ E' R' i d x m X Fs s, (∀ {s₃}, (∃ m' X' Fs', J (i + 1) m' X' Fs' ∧ (∀ g ∈ Gs, Tells Fs' g) ∧ St C L m' (R (i + 1) ++ X') Fs' s₃) → R' .next s₃) → (∀ {v s₃}, RR (.ok (.ret v)) s₃ → R' (.ret v) s₃) → ds[i]? = some d → J i m X Fs → (∀ g ∈ Gs, Tells Fs g) → St C L m (R (i + 1) ++ X) (.V x d :: Fs) s →
      wpAny (model prog w) A (assign target env x) (fun _ s₂ => wpAny (model prog w) A (execs body env) R' E' s₂) E' s)
    (fin : ∀ m X Fs s, J ds.length m X Fs → St C L m (Re ++ X) Fs s → RR (.ok .next) s) : codeAny (model prog w) A (.forLoop target it body [] env) RR s := by
  refine codeAny_forLoop_any (fun n s => ∃ i m X Fs, n = ds.length + 1 - i ∧ i ≤ ds.length ∧ J i m X Fs ∧ (∀ g ∈ Gs, Tells Fs g) ∧ St C L m (R i ++ X) Fs s) ?_ (ds.length + 1) ⟨0, m, X, Fs, rfl, Nat.zero_le _, h0, hG, H⟩
  rintro n s ⟨i, m, X, Fs, rfl, hi, hJ, hG, H⟩
  rcases Nat.lt_or_ge i ds.length with hlt | hge
  · have hd : ds[i]? = some ds[i] := List.getElem?_eq_getElem hlt
    refine wpAny_mono (S.item i _ hd A _ C L m X Fs s (fun x s₂ => wpAny (model prog w) A (assign target env x) (fun _ s₂ => wpAny (model prog w) A (execs body env) (fun f s₃ => match f with
        | .next | .cont => ∃ m, m < ds.length + 1 - i ∧ ∃ i m' X Fs, m = ds.length + 1 - i ∧ i ≤ ds.length ∧ J i m' X Fs ∧ (∀ g ∈ Gs, Tells Fs g) ∧ St C L m' (R i ++ X) Fs s₃
        | .brk => RR (.ok .next) s₃
        | .ret v => RR (.ok (.ret v)) s₃) (notedBy (model prog w) A env fun e s' => RR (.error e) s') s₂) (notedBy (model prog w) A env fun e s' => RR (.error e) s') s₂) hh hG H ?_) (fun r s₁ h₁ => ?_) fun _ _ x => x
    · intro x s' S'
      refine wpAny_mono (step _ (fun f s₃ => match f with
        | .next | .cont => ∃ m' X' Fs', J (i + 1) m' X' Fs' ∧ (∀ g ∈ Gs, Tells Fs' g) ∧ St C L m' (R (i + 1) ++ X') Fs' s₃
        | .brk => False
        | .ret v => RR (.ok (.ret v)) s₃) i _ x m X Fs s' (fun h => h) (fun h => h) hd hJ hG S') (fun _ s₂ h₂ => wpAny_mono h₂ (fun f s₃ h₃ => ?_) fun _ _ x => x) fun _ _ x => x
      have key : (∃ m' X' Fs', J (i + 1) m' X' Fs' ∧ (∀ g ∈ Gs, Tells Fs' g) ∧ St C L m' (R (i + 1) ++ X') Fs' s₃) → ∃ m, m < ds.length + 1 - i ∧ ∃ i m' X Fs, m = ds.length + 1 - i ∧ i ≤ ds.length ∧ J i m' X Fs ∧ (∀ g ∈ Gs, Tells Fs g) ∧ St C L m' (R i ++ X) Fs s₃ :=
        fun ⟨m', X', Fs', a, b, c⟩ => ⟨ds.length + 1 - (i + 1), by (first | lia | omega), i + 1, m', X', Fs', rfl, hlt, a, b, c⟩
      cases f with
      | next => exact key h₃
      | cont => exact key h₃
      | brk => exact h₃.elim
      | ret v => exact h₃
    · cases r with
      | none => exact h₁.elim
      | some x => exact h₁
  · have hn : i = ds.length := Nat.le_antisymm hi hge
    subst hn
    refine wpAny_mono (S.done A _ C L m X Fs s (fun s' => RR (.ok .next) s') hh hG H fun s' S' => fin m X Fs s' hJ S') (fun r s₁ h₁ => ?_) fun _ _ x => x
    cases r with
    | none => exact wpAny_execs_nil h₁
    | some x => exact h₁.elim

/-! lists and tuples -/
def isLIter (l : Addr) (i : Nat) : OP := fun o => o.cls = .type "list_iterator" ∧ o.data = .fields #[.ref l, .int i 0]
def isTIter (l : Addr) (i : Nat) : OP := fun o => o.cls = .type "tuple_iterator" ∧ o.data = .fields #[.ref l, .int i 0]
theorem r_iterList {l : Addr} {ds : List D} {Q : Value → Shared → Prop} (H : St C L m X Fs s) (hv : Kn Fs (.ref l) (.lst ds)) (h : ∀ it s', St C L m ((it, isLIter l 0) :: X) Fs s' → Q (.ref it) s') : wpAny (model prog w) A (pyIter (.ref l)) Q E s := by
  obtain ⟨vs, ⟨o, ho, hp⟩, hlen, H1⟩ := H.listF hv
  exact wpAny_pyIter_list (list_of ho hp) (h _ _ (H.push (p := isLIter l 0) ⟨rfl, rfl⟩))
theorem r_iterTup {l : Addr} {ds : List D} {Q : Value → Shared → Prop} (H : St C L m X Fs s) (hv : Kn Fs (.ref l) (.tup ds)) (h : ∀ it s', St C L m ((it, isTIter l 0) :: X) Fs s' → Q (.ref it) s') : wpAny (model prog w) A (pyIter (.ref l)) Q E s := by
  obtain ⟨vs, ⟨o, ho, hp⟩, hlen, H1⟩ := H.tupF hv
  exact wpAny_pyIter_tuple (tup_of ho hp) (h _ _ (H.push (p := isTIter l 0) ⟨rfl, rfl⟩))

theorem getElem_of {vs : List Value} {ds : List D} {i : Nat} {d : D} (hl : vs.length = ds.length) (hd : ds[i]? = some d) : ∃ v, vs[i]? = some v := by
  have : i < ds.length := (List.getElem?_eq_some_iff.mp hd).1
  exact ⟨vs[i], List.getElem?_eq_getElem (by (first | lia | omega))⟩
/-- an iterator of another make gives no tuple of its own -/
theorem owned_not {T : String} {elts : List Expr} {k : Nat} {pos : Pos} {it : Addr} {o : Obj} {x : Value} {Q : Unit → Shared → Prop} (ho : s.heap.get? it = some o) (hc : o.cls = .type T)
    (hT : ["enumerate", "zip", "dict_itemiterator", "dict_reverseitemiterator", "odict_iterator", "itertools.zip_longest", "itertools.pairwise"].contains T = false) (h : Q () s) : wpAny (model prog w) A (letOwnedTupleGo (.Tuple elts k pos) (.ref it) x) Q E s := by
  unfold letOwnedTupleGo
  cases x with
  | ref a =>
    refine wpAny_bind (wpAny_load ho ?_)
    rw [hc]
    split
    · rename_i n vs e1 e2
      cases e1
      rw [hT]
      exact wpAny_pure h
    · exact wpAny_pure h
  | _ => exact wpAny_pure h

theorem src_list {l it : Addr} {ds : List D} {target : Expr} (ht : (∃ x p, target = .Name x p) ∨ ∃ e k p, target = .Tuple e k p) : Src prog w target (.ref it) ds (fun i => [(it, isLIter l i)]) [] [.V (.ref l) (.lst ds)] where
  item := fun i d hd A E C L m X Fs s Q hh hG H hQ => by
    obtain ⟨vs, ⟨o, ho, hp⟩, hlen, H1⟩ := H.listF (hG _ (.head _))
    obtain ⟨v, hv⟩ := getElem_of hlen hd
    obtain ⟨oi, hoi, hci, hdi⟩ := H.get (.head _)
    refine wpAny_pyNext_list_item (x := v) ⟨oi, hoi, hci, hdi⟩ (list_of ho hp) (by simpa using hv) fun h' hit hs => ?_
    have H2 := (H1.upd (p' := isLIter l (i + 1)) rfl (tk := s.toks) hs (let ⟨o, a, b⟩ := hit; ⟨o, a, b⟩)).item hv hd
    rcases ht with ⟨x, p, rfl⟩ | ⟨e, k, p, rfl⟩
    · exact wpAny_pure (hQ v _ H2)
    · obtain ⟨o', ho', hc', _⟩ := hit
      exact owned_not ho' hc' (by decide) (hQ v _ H2)
  done := fun A E C L m X Fs s Q hh hG H hQ => by
    obtain ⟨vs, ⟨o, ho, hp⟩, hlen, H1⟩ := H.listF (hG _ (.head _))
    obtain ⟨oi, hoi, hci, hdi⟩ := H.get (.head _)
    refine wpAny_pyNext_list_end hh ⟨oi, hoi, hci, hdi⟩ (list_of ho hp) (by simp [hlen]) fun h' hx => ?_
    exact hQ _ (H.lose (tk := s.toks) hx)
theorem src_tup {l it : Addr} {ds : List D} {target : Expr} (ht : (∃ x p, target = .Name x p) ∨ ∃ e k p, target = .Tuple e k p) : Src prog w target (.ref it) ds (fun i => [(it, isTIter l i)]) [] [.V (.ref l) (.tup ds)] where
  item := fun i d hd A E C L m X Fs s Q hh hG H hQ => by
    obtain ⟨vs, ⟨o, ho, hp⟩, hlen, H1⟩ := H.tupF (hG _ (.head _))
    obtain ⟨v, hv⟩ := getElem_of hlen hd
    obtain ⟨oi, hoi, hci, hdi⟩ := H.get (.head _)
    refine wpAny_pyNext_tuple_item (x := v) ⟨oi, hoi, hci, hdi⟩ (tup_of ho hp) (by simpa using hv) fun h' hit hs => ?_
    have H2 := (H1.upd (p' := isTIter l (i + 1)) rfl (tk := s.toks) hs (let ⟨o, a, b⟩ := hit; ⟨o, a, b⟩)).item hv hd
    rcases ht with ⟨x, p, rfl⟩ | ⟨e, k, p, rfl⟩
    · exact wpAny_pure (hQ v _ H2)
    · obtain ⟨o', ho', hc', _⟩ := hit
      exact owned_not ho' hc' (by decide) (hQ v _ H2)
  done := fun A E C L m X Fs s Q hh hG H hQ => by
    obtain ⟨vs, ⟨o, ho, hp⟩, hlen, H1⟩ := H.tupF (hG _ (.head _))
    obtain ⟨oi, hoi, hci, hdi⟩ := H.get (.head _)
    refine wpAny_pyNext_tuple_end hh ⟨oi, hoi, hci, hdi⟩ (tup_of ho hp) (by simp [hlen]) fun h' hx => ?_
    exact hQ _ (H.lose (tk := s.toks) hx)

/-! ranges by ones -/
def isRange (a b : Int) : OP := fun o => ∃ t u v, o = { cls := .type "range", dict := none, data := .fields #[.int a t, .int b u, .int 1 v], slots := #[] }
def isRIter (x left : Int) : OP := fun o => o = { cls := .type "range_iterator", dict := none, data := .fields #[rawInt x, rawInt left, rawInt 1], slots := #[] }
noncomputable def zRange (a b : Int) : List D := (List.range (b - a).toNat).map fun (i : Nat) => D.int (a + (i : Int))
theorem r_range1 {b : Int} {t : Tok} {Q : Value → Shared → Prop} (H : St C L m X Fs s) (h : ∀ r s', St C L m ((r, isRange 0 b) :: X) Fs s' → Q (.ref r) s') : wpAny (model prog w) A (call (.type "range") [.int b t]) Q E s :=
  call_range_1 (h _ _ ((H.push (p := isRange 0 b) ⟨_, _, _, rfl⟩).tok _))
theorem r_range2 {a b : Int} {t u : Tok} {Q : Value → Shared → Prop} (H : St C L m X Fs s) (h : ∀ r s', St C L m ((r, isRange a b) :: X) Fs s' → Q (.ref r) s') : wpAny (model prog w) A (call (.type "range") [.int a t, .int b u]) Q E s :=
  call_range_2 (h _ _ ((H.push (p := isRange a b) ⟨_, _, _, rfl⟩).tok _))
theorem r_iterRange {r : Addr} {a b : Int} {Q : Value → Shared → Prop} (H : St C L m ((r, isRange a b) :: X) Fs s) (ha : -(2 ^ 62) ≤ a ∧ a < 2 ^ 62) (hb : -(2 ^ 62) ≤ b ∧ b < 2 ^ 62)
    (h : ∀ it s', St C L m ((it, isRIter (a + (0 : Nat)) ((b - a).toNat - (0 : Nat))) :: X) Fs s' → Q (.ref it) s') : wpAny (model prog w) A (pyIter (.ref r)) Q E s := by
  obtain ⟨o, ho, t, u, v, rfl⟩ := H.get (.head _)
  refine wpAny_pyIter_range ho (small_one ha.1 ha.2 hb.1 hb.2) (h _ _ ((H.push (p := isRIter _ _) ?_).swap.drop))
  have e : (if a < b then b - a else 0) = (((b - a).toNat : Int) - ((0 : Nat) : Int)) := by split <;> (first | lia | omega)
  rw [rangeSize_one, e]
  simp [isRIter]
theorem src_range {it : Addr} {a b : Int} {x : Str} {p : Pos} : Src prog w (.Name x p) (.ref it) (zRange a b) (fun i => [(it, isRIter (a + i) ((b - a).toNat - i))]) [] [] where
  item := fun i d hd A E C L m X Fs s Q hh hG H hQ => by
    obtain ⟨oi, hoi, rfl⟩ := H.get (.head _)
    have hlt : i < (b - a).toNat := by have := (List.getElem?_eq_some_iff.mp hd).1; simpa [zRange] using this
    have hd' : d = .int (a + i) := by
      unfold zRange at hd
      rw [List.getElem?_map, List.getElem?_range hlt] at hd
      simpa using hd.symm
    subst hd'
    refine wpAny_pyNext_range_item hoi (by (first | lia | omega)) fun h' hit hs => ?_
    refine wpAny_pure (hQ _ _ ((H.upd (p' := isRIter (a + (i + 1 : Nat)) ((b - a).toNat - (i + 1 : Nat))) rfl (tk := s.toks + 1) hs ⟨_, hit, ?_⟩).fact Kn.int))
    have e1 : a + (i : Int) + 1 = a + ((i + 1 : Nat) : Int) := by (first | lia | omega)
    have e2 : ((b - a).toNat : Int) - (i : Int) - 1 = ((b - a).toNat : Int) - ((i + 1 : Nat) : Int) := by (first | lia | omega)
    rw [← e1, ← e2]
    rfl
  done := fun A E C L m X Fs s Q hh hG H hQ => by
    obtain ⟨oi, hoi, rfl⟩ := H.get (.head _)
    refine wpAny_pyNext_range_end hh hoi (by simp [zRange]) fun h' hx => ?_
    exact hQ _ (H.lose (tk := s.toks) hx)
end
end Mine
end
section
open PySem PySem.W PyProof.Rows
set_option maxRecDepth 100000
set_option linter.unusedVariables false
namespace Mine

def isItemsView (d : Addr) : OP := fun o => o.cls = .type "dict_items" ∧ o.data = .fields #[.ref d]
def isValuesView (d : Addr) : OP := fun o => o.cls = .type "dict_values" ∧ o.data = .fields #[.ref d]
def isItems (d : Addr) (i n ep : Nat) : OP := fun o => ∃ ok ov, o = { cls := .type "dict_itemiterator", dict := none, data := .fields #[.none, .bool false, .ref d, .int i 0, .int n 0, .int ep 0, ok, ov], slots := #[] }
def isItemsOut (a d : Addr) (i n ep : Nat) : OP := fun o => ∃ ok ov, o = { cls := .type "dict_itemiterator", dict := none, data := .fields #[rawInt a, .bool false, .ref d, .int i 0, .int n 0, .int ep 0, ok, ov], slots := #[] }
def isVals (d : Addr) (i n ep : Nat) : OP := fun o => o.cls = .type "dict_valueiterator" ∧ o.data = .fields #[.ref d, .int i 0, .int n 0, .int ep 0]
def isKeys (d : Addr) (i n ep : Nat) : OP := fun o => o.cls = .type "dict_keyiterator" ∧ o.data = .fields #[.ref d, .int i 0, .int n 0, .int ep 0]

section
variable {prog : Program} {w : World} {A : Around} {E : Value → Shared → Prop} {C : Cx} {L : Addr} {m : Str → Option Value} {X : List (Addr × OP)} {Fs : List Fact} {s : Shared} {env : Env} {mg : Str → Option Value}

theorem St.notSys (H : St C L m X Fs s) {p : Addr × OP} (hp : p ∈ X) : (p.1 == sysModules) = false := by
  obtain ⟨Z, h⟩ := H
  have h1 := (h.mu p hp).2.1
  have h2 := h.wsz
  have h3 := h.low
  rw [beq_eq_false_iff_ne]
  intro q
  rw [q] at h1
  exact Nat.lt_irrefl _ (Nat.lt_of_lt_of_le h3 (Nat.le_trans h2 h1))

/-! ## methods of a dict that stands -/
theorem m_items {d : Addr} {ds : List (Int × D)} {pos : Pos} {Q : Value → Shared → Prop} (H : St C L m X Fs s) (hd : Kn Fs (.ref d) (.dct ds))
    (h : ∀ v kvs ep s', kvs.map (·.1) = ds.map (·.1) → St C L m ((v, isItemsView d) :: X) (.E d kvs ep :: .K kvs ds :: Fs) s' → Q (.ref v) s') : MethodOn prog w A "items" pos (.ref d) [] Q E s := by
  obtain ⟨kvs, ep, hk, hsys, H1⟩ := H.dctF hd
  obtain ⟨o, ho, hp⟩ := H1.dctE (.mem (.head _))
  have hm : s.heap.DictOf (intKind prog w) d kvs := (dictAt_of ho hp).dictOf
  exact ⟨"dict", "dict.items", F.plainAttrs_dict, F.slot_dict_items, F.type_dict_items, hm.typeIs, hm.mapOf.noDict,
    method_meetsIn F.slot_dict_items F.entry_dict_items rfl (PySem.evalArgs_none ⟨rfl, hm.typeIs, F.args_dict_items_1 _, _, meets_dict_items (intKind prog w) d hsys, ⟨kvs, hm⟩, (by
      exact h _ kvs ep _ hk (H1.push (p := isItemsView d) ⟨rfl, rfl⟩))⟩)⟩
theorem m_values {d : Addr} {ds : List (Int × D)} {pos : Pos} {Q : Value → Shared → Prop} (H : St C L m X Fs s) (hd : Kn Fs (.ref d) (.dct ds))
    (h : ∀ v kvs ep s', kvs.map (·.1) = ds.map (·.1) → St C L m ((v, isValuesView d) :: X) (.E d kvs ep :: .K kvs ds :: Fs) s' → Q (.ref v) s') : MethodOn prog w A "values" pos (.ref d) [] Q E s := by
  obtain ⟨kvs, ep, hk, hsys, H1⟩ := H.dctF hd
  obtain ⟨o, ho, hp⟩ := H1.dctE (.mem (.head _))
  have hm : s.heap.DictOf (intKind prog w) d kvs := (dictAt_of ho hp).dictOf
  exact ⟨"dict", "dict.values", F.plainAttrs_dict, F.slot_dict_values, F.type_dict_values, hm.typeIs, hm.mapOf.noDict,
    method_meetsIn F.slot_dict_values F.entry_dict_values rfl (PySem.evalArgs_none ⟨rfl, hm.typeIs, F.args_dict_values_1 _, _, meets_dict_values (intKind prog w) d hsys, ⟨kvs, hm⟩, (by
      exact h _ kvs ep _ hk (H1.push (p := isValuesView d) ⟨rfl, rfl⟩))⟩)⟩

/-! ## walks over a dict -/
theorem r_iterItems {v d : Addr} {kvs : List (Int × Value)} {ep : Nat} {Q : Value → Shared → Prop} (H : St C L m ((v, isItemsView d) :: X) Fs s) (he : Tells Fs (.E d kvs ep))
    (h : ∀ it s', St C L m ((it, isItems d 0 kvs.length ep) :: X) Fs s' → Q (.ref it) s') : wpAny (model prog w) A (pyIter (.ref v)) Q E s := by
  obtain ⟨o, ho, hp⟩ := H.dctE he
  obtain ⟨ov, hov, hc, hd⟩ := H.get (.head _)
  exact wpAny_pyIter_items (knd := intKind prog w) ⟨ov, hov, hc, hd⟩ (dictAt_of ho hp) (h _ _ ((H.push (p := isItems d 0 kvs.length ep) ⟨.none, .none, rfl⟩).swap.drop))
theorem r_iterVals {v d : Addr} {kvs : List (Int × Value)} {ep : Nat} {Q : Value → Shared → Prop} (H : St C L m ((v, isValuesView d) :: X) Fs s) (he : Tells Fs (.E d kvs ep))
    (h : ∀ it s', St C L m ((it, isVals d 0 kvs.length ep) :: X) Fs s' → Q (.ref it) s') : wpAny (model prog w) A (pyIter (.ref v)) Q E s := by
  obtain ⟨o, ho, hp⟩ := H.dctE he
  obtain ⟨ov, hov, hc, hd⟩ := H.get (.head _)
  exact wpAny_pyIter_values (knd := intKind prog w) ⟨ov, hov, hc, hd⟩ (dictAt_of ho hp) (h _ _ ((H.push (p := isVals d 0 kvs.length ep) ⟨rfl, rfl⟩).swap.drop))
theorem r_iterKeys {d : Addr} {ds : List (Int × D)} {Q : Value → Shared → Prop} (H : St C L m X Fs s) (hd : Kn Fs (.ref d) (.dct ds))
    (h : ∀ it kvs ep s', kvs.map (·.1) = ds.map (·.1) → St C L m ((it, isKeys d 0 kvs.length ep) :: X) (.E d kvs ep :: .K kvs ds :: Fs) s' → Q (.ref it) s') : wpAny (model prog w) A (pyIter (.ref d)) Q E s := by
  obtain ⟨kvs, ep, hk, hsys, H1⟩ := H.dctF hd
  obtain ⟨o, ho, hp⟩ := H1.dctE (.mem (.head _))
  exact wpAny_pyIter_dict (knd := intKind prog w) hsys (dictAt_of ho hp) (h _ kvs ep _ hk (H1.push (p := isKeys d 0 kvs.length ep) ⟨rfl, rfl⟩))

theorem keys_len {kvs : List (Int × Value)} {ds : List (Int × D)} (h : kvs.map (·.1) = ds.map (·.1)) : kvs.length = ds.length := by
  have := congrArg List.length h; simpa using this
theorem keys_get {kvs : List (Int × Value)} {ds : List (Int × D)} (h : kvs.map (·.1) = ds.map (·.1)) {i : Nat} {k : Int} {d : D} (hd : ds[i]? = some (k, d)) : ∃ v, kvs[i]? = some (k, v) := by
  have hl := keys_len h
  have hi : i < ds.length := (List.getElem?_eq_some_iff.mp hd).1
  have e := congrArg (fun l => l[i]?) h
  simp only [List.getElem?_map, hd, Option.map_some] at e
  rw [List.getElem?_eq_getElem (by (first | lia | omega))] at e ⊢
  simp only [Option.map_some, Option.some.injEq] at e
  exact ⟨kvs[i].2, by rw [← e]⟩

theorem src_items {it d : Addr} {kvs : List (Int × Value)} {ds : List (Int × D)} {ep : Nat} {e : List Expr} {k : Nat} {p : Pos} (hk : kvs.map (·.1) = ds.map (·.1)) :
    Src prog w (.Tuple e k p) (.ref it) (ds.map fun x => .tup [.int x.1, x.2]) (fun i => [(it, isItems d i kvs.length ep)]) [] [.E d kvs ep, .K kvs ds] where
  item := fun i dd hd A E C L m X Fs s Q hh hG H hQ => by
    rw [List.getElem?_map] at hd
    cases hdi : ds[i]? with
    | none => rw [hdi] at hd; cases hd
    | some kd =>
      obtain ⟨k0, d0⟩ := kd
      rw [hdi] at hd
      simp only [Option.map_some, Option.some.injEq] at hd
      subst hd
      obtain ⟨v, hv⟩ := keys_get hk hdi
      obtain ⟨o, ho, hp⟩ := H.dctE (hG _ (.head _))
      obtain ⟨oi, hoi, ok, ov, rfl⟩ := H.get (.head _)
      refine wpAny_pyNext_items_item (knd := intKind prog w) hoi (dictAt_of ho hp) hv fun key h' hkey hout htup hsz hkeep => ?_
      obtain ⟨t, rfl⟩ := Value.isInt_shape hkey
      have H1 := St.evolve (q := isTup [.int k0 t, v]) H (tk := s.toks) hkeep ⟨_, hout, (show isItemsOut s.heap.objs.size d (i + 1) kvs.length ep _ from ⟨_, _, rfl⟩)⟩ (Nat.le_refl _) ⟨_, htup, 0, rfl⟩
      refine wpAny_letOwnedTupleGo_items hout fun h'' he hs => hQ _ _ ?_
      have H2 := (H1.swap.upd (p' := isItems d (i + 1) kvs.length ep) rfl (tk := s.toks) hs ⟨_, he, _, _, rfl⟩).swap
      exact H2.freezeT (.cons Kn.int (.cons (KnK.get (hG _ (.tail _ (.head _))) hv hdi) .nil))
  done := fun A E C L m X Fs s Q hh hG H hQ => by
    obtain ⟨o, ho, hp⟩ := H.dctE (hG _ (.head _))
    obtain ⟨oi, hoi, ok, ov, rfl⟩ := H.get (.head _)
    have hl := keys_len hk
    refine wpAny_pyNext_items_end (knd := intKind prog w) hh hoi (dictAt_of ho hp) (by simp [hl]) fun h' hx => ?_
    exact hQ _ (H.lose (tk := s.toks) hx)
theorem src_vals {it d : Addr} {kvs : List (Int × Value)} {ds : List (Int × D)} {ep : Nat} {x : Str} {p : Pos} (hk : kvs.map (·.1) = ds.map (·.1)) :
    Src prog w (.Name x p) (.ref it) (ds.map (·.2)) (fun i => [(it, isVals d i kvs.length ep)]) [] [.E d kvs ep, .K kvs ds] where
  item := fun i dd hd A E C L m X Fs s Q hh hG H hQ => by
    rw [List.getElem?_map] at hd
    cases hdi : ds[i]? with
    | none => rw [hdi] at hd; cases hd
    | some kd =>
      obtain ⟨k0, d0⟩ := kd
      rw [hdi] at hd
      simp only [Option.map_some, Option.some.injEq] at hd
      subst hd
      obtain ⟨v, hv⟩ := keys_get hk hdi
      obtain ⟨o, ho, hp⟩ := H.dctE (hG _ (.head _))
      obtain ⟨oi, hoi, hci, hdi'⟩ := H.get (.head _)
      refine wpAny_pyNext_values_item (knd := intKind prog w) ⟨oi, hoi, hci, hdi'⟩ (dictAt_of ho hp) hv fun h' hit hs => ?_
      exact wpAny_pure (hQ _ _ ((H.upd (p' := isVals d (i + 1) kvs.length ep) rfl (tk := s.toks) hs (let ⟨o, a, b⟩ := hit; ⟨o, a, b⟩)).fact (KnK.get (hG _ (.tail _ (.head _))) hv hdi)))
  done := fun A E C L m X Fs s Q hh hG H hQ => by
    obtain ⟨o, ho, hp⟩ := H.dctE (hG _ (.head _))
    rw [List.length_map, ← keys_len hk] at H
    obtain ⟨oi, hoi, hci, hdi'⟩ := H.get (.head _)
    refine wpAny_pyNext_values_end (knd := intKind prog w) hh ⟨oi, hoi, hci, hdi'⟩ (dictAt_of ho hp) (by simp) fun h' hx => ?_
    exact hQ _ (H.lose (tk := s.toks) hx)
theorem src_keys {it d : Addr} {kvs : List (Int × Value)} {ds : List (Int × D)} {ep : Nat} {x : Str} {p : Pos} (hk : kvs.map (·.1) = ds.map (·.1)) :
    Src prog w (.Name x p) (.ref it) (ds.map fun x => .int x.1) (fun i => [(it, isKeys d i kvs.length ep)]) [] [.E d kvs ep, .K kvs ds] where
  item := fun i dd hd A E C L m X Fs s Q hh hG H hQ => by
    rw [List.getElem?_map] at hd
    cases hdi : ds[i]? with
    | none => rw [hdi] at hd; cases hd
    | some kd =>
      obtain ⟨k0, d0⟩ := kd
      rw [hdi] at hd
      simp only [Option.map_some, Option.some.injEq] at hd
      subst hd
      obtain ⟨v, hv⟩ := keys_get hk hdi
      obtain ⟨o, ho, hp⟩ := H.dctE (hG _ (.head _))
      obtain ⟨oi, hoi, hci, hdi'⟩ := H.get (.head _)
      refine wpAny_pyNext_dict_item (knd := intKind prog w) ⟨oi, hoi, hci, hdi'⟩ (dictAt_of ho hp) hv fun key h' hkey hit hs => ?_
      obtain ⟨t, rfl⟩ := Value.isInt_shape hkey
      exact wpAny_pure (hQ _ _ ((H.upd (p' := isKeys d (i + 1) kvs.length ep) rfl (tk := s.toks) hs (let ⟨o, a, b⟩ := hit; ⟨o, a, b⟩)).fact Kn.int))
  done := fun A E C L m X Fs s Q hh hG H hQ => by
    obtain ⟨o, ho, hp⟩ := H.dctE (hG _ (.head _))
    rw [List.length_map, ← keys_len hk] at H
    obtain ⟨oi, hoi, hci, hdi'⟩ := H.get (.head _)
    refine wpAny_pyNext_dict_end (knd := intKind prog w) hh ⟨oi, hoi, hci, hdi'⟩ (dictAt_of ho hp) (by simp) fun h' hx => ?_
    exact hQ _ (H.lose (tk := s.toks) hx)

/-! ## a dict in hand -/
theorem r_dictSet {d : Addr} {kvs : List (Int × Value)} {k : Int} {t : Tok} {v : Value} {Q : Unit → Shared → Prop} (H : St C L m ((d, isDict kvs) :: X) Fs s) (hsz : kvs.length ≤ sizeLine)
    (h : ∀ s', St C L m ((d, isDict (stored kvs k v)) :: X) Fs s' → Q () s') : wpAny (model prog w) A (setItem (.ref d) (.int k t) v) Q E s := by
  obtain ⟨o, ho, hp⟩ := H.get (.head _)
  exact wpAny_setItem_pairs (knd := intKind prog w) (intKind_is prog w k t) (dictOf_of ho hp) (fun h' hm hs => h _ (H.upd rfl hs (isDict_of hm))) hsz
theorem r_dictIn {d : Addr} {kvs : List (Int × Value)} {k : Int} {t : Tok} {Q : Value → Shared → Prop} (H : St C L m X Fs s) (hm : (d, isDict kvs) ∈ X)
    (h : ∀ s', St C L m X Fs s' → Q (.bool (valueAt kvs k).isSome) s') : wpAny (model prog w) A (compareOp .In (.int k t) (.ref d)) Q E s := by
  obtain ⟨o, ho, hp⟩ := H.get hm
  exact wpAny_in_of (knd := intKind prog w) (intKind_is prog w k t) (H.notSys hm) (dictOf_of ho hp).mapOf (h _ (H.tok _))
theorem r_dictGet {d : Addr} {kvs : List (Int × Value)} {k : Int} {t : Tok} {v : Value} {Q : Value → Shared → Prop} (H : St C L m X Fs s) (hm : (d, isDict kvs) ∈ X) (hv : valueAt kvs k = some v)
    (h : ∀ s', St C L m X Fs s' → Q v s') : wpAny (model prog w) A (getItem (.ref d) (.int k t)) Q E s := by
  obtain ⟨o, ho, hp⟩ := H.get hm
  exact wpAny_getItem_of (knd := intKind prog w) (intKind_is prog w k t) (dictOf_of ho hp).mapOf hv (h _ (H.tok _))
end
end Mine
end
section
open PySem PySem.W PyProof.Rows
set_option maxRecDepth 100000
set_option linter.unusedVariables false
namespace Mine

/-! ## tables as lists -/
noncomputable def put {α : Type} (l : List (Int × α)) (k : Int) (a : α) : List (Int × α) := if l.any (fun p => decide (p.1 = k)) then l.map (fun p => if p.1 = k then (p.1, a) else p) else l ++ [(k, a)]
noncomputable def look {α : Type} (l : List (Int × α)) (k : Int) : Option α := (l.find? fun p => decide (p.1 = k)).map (·.2)
theorem stored_eq (kvs : List (Int × Value)) (k : Int) (v : Value) : stored kvs k v = put kvs k v := rfl
theorem valueAt_eq (kvs : List (Int × Value)) (k : Int) : valueAt kvs k = look kvs k := rfl
noncomputable def mapV {α β : Type} (f : α → β) (l : List (Int × α)) : List (Int × β) := l.map fun p => (p.1, f p.2)
theorem mapV_keys {α β : Type} (f : α → β) (l : List (Int × α)) : (mapV f l).map (·.1) = l.map (·.1) := by simp [mapV]
theorem look_mapV {α β : Type} (f : α → β) (l : List (Int × α)) (k : Int) : look (mapV f l) k = (look l k).map f := by
  induction l with
  | nil => rfl
  | cons p l ih =>
    simp only [look, mapV, List.map_cons, List.find?_cons] at ih ⊢
    by_cases h : p.1 = k
    · simp [h]
    · simp only [h, decide_false]; exact ih
theorem put_mapV {α β : Type} (f : α → β) (l : List (Int × α)) (k : Int) (a : α) : put (mapV f l) k (f a) = mapV f (put l k a) := by
  have e : (mapV f l).any (fun p => decide (p.1 = k)) = l.any (fun p => decide (p.1 = k)) := by simp [mapV, List.any_map, Function.comp_def]
  unfold put
  rw [e]
  split
  · simp only [mapV, List.map_map]
    apply List.map_congr_left
    intro p _
    by_cases h : p.1 = k <;> simp [h]
  · simp [mapV]
theorem look_none {α : Type} {l : List (Int × α)} {k : Int} (h : k ∉ l.map (·.1)) : look l k = none := by
  induction l with
  | nil => rfl
  | cons p l ih =>
    simp only [List.map_cons, List.mem_cons, not_or] at h
    have : ¬ p.1 = k := fun e => h.1 e.symm
    simp only [look, List.find?_cons, this, decide_false] at ih ⊢
    exact ih h.2
theorem put_new {α : Type} {l : List (Int × α)} {k : Int} (h : k ∉ l.map (·.1)) (a : α) : put l k a = l ++ [(k, a)] := by
  unfold put
  rw [if_neg]
  intro q
  obtain ⟨p, hp, e⟩ := List.any_eq_true.mp q
  exact h (List.mem_map.mpr ⟨p, hp, by simpa using e⟩)
theorem put_keys {α : Type} (l : List (Int × α)) (k : Int) (a : α) : (put l k a).map (·.1) = if k ∈ l.map (·.1) then l.map (·.1) else l.map (·.1) ++ [k] := by
  by_cases h : k ∈ l.map (·.1)
  · rw [if_pos h]
    unfold put
    rw [if_pos]
    · rw [List.map_map]; apply List.map_congr_left; intro p _; by_cases e : p.1 = k <;> simp [e]
    · obtain ⟨p, hp, e⟩ := List.mem_map.mp h
      exact List.any_eq_true.mpr ⟨p, hp, by simpa using e⟩
  · rw [if_neg h, put_new h]; simp
theorem put_length {α : Type} (l : List (Int × α)) (k : Int) (a : α) : (put l k a).length ≤ l.length + 1 := by
  unfold put
  split <;> simp
theorem put_nodup {α : Type} {l : List (Int × α)} (h : (l.map (·.1)).Nodup) (k : Int) (a : α) : ((put l k a).map (·.1)).Nodup := by
  rw [put_keys]
  split
  · exact h
  · rename_i hk
    refine List.nodup_append.mpr ⟨h, by simp, fun x hx y hy => ?_⟩
    rw [List.mem_singleton.mp hy]
    exact fun e => hk (e ▸ hx)

theorem RepK.nil_ok {Z : FZ} : RepK Z [] [] := ⟨rfl, fun i v d h => by simp at h⟩
theorem RepK.cons_ok {Z : FZ} {k : Int} {v : Value} {d : D} {vs : List (Int × Value)} {ds : List (Int × D)} (h : Rep Z v d) (r : RepK Z vs ds) : RepK Z ((k, v) :: vs) ((k, d) :: ds) := by
  refine ⟨by simp [r.1], fun i v' d' e1 e2 => ?_⟩
  cases i with
  | zero => simp at e1 e2; subst e1; subst e2; exact h
  | succ i => simp at e1 e2; exact r.2 i v' d' e1 e2
theorem RepK.inv {Z : FZ} {kv : Int × Value} {kd : Int × D} {vs : List (Int × Value)} {ds : List (Int × D)} (h : RepK Z (kv :: vs) (kd :: ds)) : kv.1 = kd.1 ∧ Rep Z kv.2 kd.2 ∧ RepK Z vs ds := by
  have h1 := h.1
  simp only [List.map_cons, List.cons.injEq] at h1
  exact ⟨h1.1, h.2 0 kv kd rfl rfl, h1.2, fun i v d e1 e2 => h.2 (i + 1) v d (by simpa using e1) (by simpa using e2)⟩
theorem RepK.ind {Z : FZ} {P : List (Int × Value) → List (Int × D) → Prop} (h0 : P [] []) (h1 : ∀ k v d vs ds, Rep Z v d → RepK Z vs ds → P vs ds → P ((k, v) :: vs) ((k, d) :: ds)) :
    ∀ {vs : List (Int × Value)} {ds : List (Int × D)}, RepK Z vs ds → P vs ds
  | [], [], _ => h0
  | [], _ :: _, h => by have := h.1; simp at this
  | _ :: _, [], h => by have := h.1; simp at this
  | (k, v) :: vs, (k', d) :: ds, h => by
    obtain ⟨e, r, t⟩ := h.inv
    have e : k = k' := e
    subst e
    exact h1 k v d vs ds r t (RepK.ind h0 h1 t)
theorem RepK.snoc {Z : FZ} {k : Int} {v : Value} {d : D} {vs : List (Int × Value)} {ds : List (Int × D)} (h : Rep Z v d) (r : RepK Z vs ds) : RepK Z (vs ++ [(k, v)]) (ds ++ [(k, d)]) :=
  RepK.ind (P := fun vs ds => RepK Z (vs ++ [(k, v)]) (ds ++ [(k, d)])) (.cons_ok h .nil_ok) (fun _ _ _ _ _ r1 _ ih => .cons_ok r1 ih) r
theorem RepK.put_ok {Z : FZ} {k : Int} {v : Value} {d : D} {vs : List (Int × Value)} {ds : List (Int × D)} (r : RepK Z vs ds) (h : Rep Z v d) : RepK Z (put vs k v) (put ds k d) := by
  have e : vs.any (fun p => decide (p.1 = k)) = ds.any (fun p => decide (p.1 = k)) :=
    RepK.ind (P := fun vs ds => vs.any (fun p => decide (p.1 = k)) = ds.any (fun p => decide (p.1 = k))) rfl (fun _ _ _ _ _ _ _ ih => by simp only [List.any_cons, ih]) r
  unfold put
  rw [e]
  split
  · exact RepK.ind (P := fun vs ds => RepK Z (vs.map fun p => if p.1 = k then (p.1, v) else p) (ds.map fun p => if p.1 = k then (p.1, d) else p)) .nil_ok
      (fun k' v' d' vs ds r1 _ ih => by
        simp only [List.map_cons]
        by_cases e : k' = k
        · simp only [e, if_true]; exact .cons_ok h ih
        · simp only [e, if_false]; exact .cons_ok r1 ih) r
  · exact r.snoc h
theorem RepK.look_some {Z : FZ} {k : Int} {d : D} {vs : List (Int × Value)} {ds : List (Int × D)} (r : RepK Z vs ds) (h : look ds k = some d) : ∃ v, look vs k = some v ∧ Rep Z v d :=
  RepK.ind (P := fun vs ds => look ds k = some d → ∃ v, look vs k = some v ∧ Rep Z v d) (fun h => by cases h)
    (fun k' v' d' vs ds r1 _ ih h => by
      simp only [look, List.find?_cons] at h ih ⊢
      by_cases e : k' = k
      · simp only [e, decide_true, Option.map_some, Option.some.injEq] at h ⊢
        subst h; exact ⟨v', rfl, r1⟩
      · simp only [e, decide_false] at h ⊢
        exact ih h) r h
theorem KnK.put {Fs : List Fact} {k : Int} {v : Value} {d : D} {vs : List (Int × Value)} {ds : List (Int × D)} (r : KnK Fs vs ds) (h : Kn Fs v d) : KnK Fs (put vs k v) (put ds k d) := fun Z H => RepK.put_ok (r Z H) (h Z H)
theorem KnK.lookD {C : Cx} {L : Addr} {m : Str → Option Value} {X : List (Addr × OP)} {Fs : List Fact} {s : Shared} {k : Int} {d : D} {vs : List (Int × Value)} {ds : List (Int × D)} (H : St C L m X Fs s) (r : KnK Fs vs ds) (h : look ds k = some d) :
    ∃ v, look vs k = some v ∧ St C L m X (.V v d :: Fs) s := by
  obtain ⟨Z, S⟩ := H
  obtain ⟨v, e, q⟩ := (r Z S.fs).look_some h
  exact ⟨v, e, Z, S.addFact q⟩
theorem look_isSome {α : Type} {l : List (Int × α)} {k : Int} : (look l k).isSome = true ↔ k ∈ l.map (·.1) := by
  induction l with
  | nil => simp [look]
  | cons p l ih =>
    simp only [look, List.find?_cons, List.map_cons, List.mem_cons] at ih ⊢
    by_cases e : p.1 = k
    · simp [e]
    · have : ¬ k = p.1 := fun q => e q.symm
      simp only [e, decide_false, this, false_or]; exact ih
theorem look_keys {α β : Type} {l : List (Int × α)} {l' : List (Int × β)} (h : l.map (·.1) = l'.map (·.1)) (k : Int) : (look l k).isSome = (look l' k).isSome := by
  rw [Bool.eq_iff_iff, look_isSome, look_isSome, h]

/-- one table put to another -/
noncomputable def mergeW {α : Type} (f : α → α → α) (a b : List (Int × α)) : List (Int × α) := b.foldl (fun acc p => put acc p.1 (match look acc p.1 with | some o => f o p.2 | none => p.2)) a

section
variable {prog : Program} {w : World} {A : Around} {E : Value → Shared → Prop} {C : Cx} {L : Addr} {m : Str → Option Value} {X : List (Addr × OP)} {Fs : List Fact} {s : Shared} {env : Env} {mg : Str → Option Value}

theorem r_unpack2 {x y : Str} {px py pos : Pos} {k : Nat} {v : Value} {d1 d2 : D} {Q : Unit → Shared → Prop} (hh : A.handled = none) (H : St C L m X Fs s) (ht : Kn Fs v (.tup [d1, d2]))
    (h : ∀ a b s', St C L (upd (upd m x a) y b) X (.V a d1 :: .V b d2 :: Fs) s' → Q () s') (hL : env.locals = L := by rfl) (hx : env.kindOf x = some .local := by rfl) (hy : env.kindOf y = some .local := by rfl)
    (hp : (env.scope.kind == .class || (env.scope.kind == .module && env.locals != env.globals)) = false := by rfl) : wpAny (model prog w) A (assign (.Tuple [.Name x px, .Name y py] k pos) env v) Q E s := by
  obtain ⟨a, rfl⟩ := ht.isRef_tup H
  refine r_unpack hh H ht rfl rfl fun vs s' hl S => ?_
  obtain ⟨a, b, rfl⟩ := len_two hl
  · have S2 : St C L m X (.V a d1 :: .V b d2 :: Fs) s' := S.facts fun f hf => by
      rcases List.mem_cons.mp hf with rfl | hf
      · exact KnL.get (i := 0) (.mem (.head _)) rfl rfl
      · rcases List.mem_cons.mp hf with rfl | hf
        · exact KnL.get (i := 1) (.mem (.head _)) rfl rfl
        · exact .mem (.tail _ hf)
    refine r_inOrder (wpAny_assign_Name (r_store S2 (fun s2 S3 => ?_) hL hx hp))
    refine r_inOrder (wpAny_assign_Name (r_store S3 (fun s3 S4 => ?_) hL hy hp))
    exact r_inOrder0 (h _ _ _ S4)

/-- calls by a name -/
theorem FnIs.at {p : Program} {x : Str} {d : Def p x} {f c : Addr} (hf : FnIs C.hW mg d f c) (H : St C L m X Fs s) : FnAt f s.heap := let ⟨oc, od, sl, doc, pm, ct, ho⟩ := hf.obj; ⟨_, _, _, _, H.wk ho⟩
theorem r_call {p : Program} {x : Str} {d : Def p x} {f c : Addr} {e : Expr} {rest : List Expr} {px pos : Pos} {Q : Value → Shared → Prop} (W : Wd C.hW mg) (hf : FnIs C.hW mg d f c) (H : St C L m X Fs s)
    (h : wpAny (model prog w) A (spliced (backTo pos (starEach (e :: rest) env))) (fun vs s₂ => FnAt f s₂.heap ∧ wpAny (model prog w) A (call (.ref f) vs) Q E s₂) E s)
    (hG : env.globals = mainGlobals := by rfl) (hk : env.scope.kind = .function := by rfl) (hx : env.kindOf x = some .globalImplicit := by rfl) (hd : (x == ("__debug__" : Str)) = false := by decide)
    (he : starEach (e :: rest) env = (false, eval e env) :: starEach rest env := by rfl) (hplain : (backTo pos (starEach rest env)).any (·.1) = false := by rfl) : wpAny (model prog w) A (eval (.Call (.Name x px) (e :: rest) [] pos) env) Q E s :=
  PyProof.Rows.Call_ (r_global W H hf.val (callWith_F (first := []) (hf.at H) (by simpa using h) he hplain) hG hk hx hd)
/-- calls of a built-in by its name -/
theorem r_callB {x : Str} {id : String} {e : Expr} {rest : List Expr} {px pos : Pos} {Q : Value → Shared → Prop} (W : Wd C.hW mg) (H : St C L m X Fs s) (hn : mg x = none)
    (h : wpAny (model prog w) A (spliced (backTo pos (starEach (e :: rest) env))) (fun vs s₂ => wpAny (model prog w) A (call (.builtin id) vs) Q E s₂) E s) (hv : bootBuiltins x = some (.builtin id) := by rfl)
    (hG : env.globals = mainGlobals := by rfl) (hB : env.builtins = builtinsNs := by rfl) (hk : env.scope.kind = .function := by rfl) (hx : env.kindOf x = some .globalImplicit := by rfl) (hd : (x == ("__debug__" : Str)) = false := by decide)
    (hnn : x ≠ "__name__" := by decide) (he : starEach (e :: rest) env = (false, eval e env) :: starEach rest env := by rfl) (hplain : (backTo pos (starEach rest env)).any (·.1) = false := by rfl) :
    wpAny (model prog w) A (eval (.Call (.Name x px) (e :: rest) [] pos) env) Q E s :=
  PyProof.Rows.Call_ (r_builtin W H hn (callWith_builtin1 h he hplain) hv hG hB hk hx hd hnn)
variable {a b : Int} {t u : Tok}
theorem r_iadd {Q : Value → Shared → Prop} (H : St C L m X Fs s) (h : ∀ t s', St C L m X Fs s' → Q (.int (a + b) t) s') : wpAny (model prog w) A (inplaceOp .Add (.int a t) (.int b u)) Q E s := wpAny_iadd_int (h _ _ (H.tok _))
theorem r_isiInt {Q : Value → Shared → Prop} (H : St C L m X Fs s) (h : ∀ s', St C L m X Fs s' → Q (.bool false) s') : wpAny (model prog w) A (call (.builtin "isinstance") [.int a t, .type "tuple"]) Q E s := IsiPair.int_tuple (h _ (H.tok _))
theorem r_isiTup {c : Addr} {ds : List D} {Q : Value → Shared → Prop} (H : St C L m X Fs s) (hc : Kn Fs (.ref c) (.tup ds)) (h : Q (.bool true) s) : wpAny (model prog w) A (call (.builtin "isinstance") [.ref c, .type "tuple"]) Q E s := by
  obtain ⟨vs, ⟨o, ho, hp⟩, _, _⟩ := H.tupF hc
  exact IsiPair.tuple_tuple ho (by obtain ⟨n, rfl⟩ := hp; rfl) h
theorem St.unL {v : Value} {d : D} {vs : List Value} {ds : List D} (H : St C L m X (.L (v :: vs) (d :: ds) :: Fs) s) : St C L m X (.L vs ds :: .V v d :: Fs) s := H.facts fun f hf => by
  rcases List.mem_cons.mp hf with rfl | hf
  · exact fun Z H => by
      have h := H _ (.head _)
      exact ⟨by have := h.1; simpa using this, fun i v' d' e1 e2 => h.2 (i + 1) v' d' (by simpa using e1) (by simpa using e2)⟩
  · rcases List.mem_cons.mp hf with rfl | hf
    · exact KnL.get (i := 0) (.mem (.head _)) rfl rfl
    · exact .mem (.tail _ hf)
end
end Mine
end
section
open PySem PySem.W PyProof.Rows
set_option maxRecDepth 100000
set_option linter.unusedVariables false
namespace Mine

/-! ## bits -/
theorem bits_le {a : Int} {k : Nat} (h : a.natAbs < 2 ^ k) : Builtin.Int.intBits a ≤ k := by
  unfold Builtin.Int.intBits
  split
  · exact Nat.zero_le _
  · rename_i h0
    have hne : a.natAbs ≠ 0 := by simpa using h0
    have := (Nat.log2_lt hne).mpr h
    (first | lia | omega)
theorem mulOk_left {a b : Int} (h : a.natAbs < 2 ^ 64) : IntMulOk a b := .of_left (bits_le h)
theorem mulOk_right {a b : Int} (h : b.natAbs < 2 ^ 64) : IntMulOk a b := .of_right (bits_le h)
theorem mulOk_small {a b : Int} (h : a < 2 ^ 63) (h' : -(2 ^ 63) < a) : IntMulOk a b := mulOk_left (by (first | lia | omega))

def isFn (name qual : Str) (params : Arguments) (body : List Stmt) (scope : Scope) (clos : List (Str × Addr)) (cv : Value) : OP :=
  fun o => ∃ doc pm ctv, o = { cls := .type "function", data := .func (fnX name qual params body scope clos .none .none doc pm none cv ctv) }

theorem codeAmong_append {pos pos' : Pos} {c cv : Value} : ∀ (l : List Value), TriplesOk l → codeAmong pos' (l ++ [rawInt pos.line, rawInt pos.col, c]) = some cv → codeAmong pos' l = some cv ∨ cv = c
  | [], _, h => by
    right
    simp only [List.nil_append, codeAmong, rawInt] at h
    split at h
    · exact (Option.some.inj h).symm
    · cases h
  | .int a _ :: .int b _ :: x :: r, ht, h => by
    simp only [List.cons_append, codeAmong] at h ⊢
    split at h
    · left; rename_i hc; rw [if_pos hc]; exact h
    · rename_i hc; rw [if_neg hc]; exact codeAmong_append r ht h

section
variable {prog : Program} {w : World} {A : Around} {E : Value → Shared → Prop} {C : Cx} {L : Addr} {m : Str → Option Value} {X : List (Addr × OP)} {Fs : List Fact} {s : Shared} {env : Env} {mg : Str → Option Value}

theorem St.factO {a : Addr} {p : OP} (H : St C L m X Fs s) (h : Tells Fs (.O a p)) : ∃ o, s.heap.get? a = some o ∧ p o := by
  obtain ⟨Z, k⟩ := H
  obtain ⟨o, e, q⟩ := h Z k.fs
  exact ⟨o, k.fz _ _ e, q⟩
theorem St.freezeO {a : Addr} {p : OP} (H : St C L m ((a, p) :: X) Fs s) : St C L m X (.O a p :: Fs) s := H.freeze rfl fun Z o hf e hp => ⟨o, e, hp⟩
theorem codeRec_of_O {c : Addr} {q : Str} (H : St C L m X Fs s) (h : Tells Fs (.O c (isCodeRec q))) : s.heap.CodeRec (.ref c) q := by
  obtain ⟨o, e, vs, t, h1, h2⟩ := H.factO h
  exact ⟨c, o, vs, t, rfl, e, h1, h2⟩

/-! ## a def within a def -/
theorem St.tabGet (H : St C L m X Fs s) {P : Addr} (hP : P ∈ C.T) {q : Str} (hq : C.TQ P = some q) : ∃ ps, s.heap.get? P = some (tabObj ps) ∧ TriplesOk ps.toList ∧ ∀ pos cv, codeAmong pos ps.toList = some cv → ∃ c, cv = .ref c ∧ St C L m X (.O c (isCodeRec q) :: Fs) s := by
  obtain ⟨Z, h⟩ := H
  obtain ⟨o, ps, e, d, t, c⟩ := h.tab P hP
  obtain ⟨ho, hc⟩ := c q hq
  subst ho
  refine ⟨ps, e, t, fun pos cv hcv => ?_⟩
  obtain ⟨c, o, rfl, e2, r⟩ := hc pos cv hcv
  exact ⟨c, rfl, Z, h.addFact ⟨o, e2, r⟩⟩
theorem r_def {name : Str} {params : Arguments} {body : List Stmt} {scope : Scope} {pos : Pos} {clos : List (Str × Addr)} {c P : Addr} {rest : List Stmt} {Q : Flow → Shared → Prop} (W : Wd C.hW mg) (H : St C L m X Fs s) (hc : env.code = .ref c) (hC : CodeHd C.hW c P) (hP : P ∈ C.T)
    (hq : C.TQ P = some (qualnameIn env name name))
    (h : ∀ f c' s', St C L m X (.O f (isFn name (qualnameIn env name name) params body scope clos (.ref c')) :: .O c' (isCodeRec (qualnameIn env name name)) :: Fs) s' → wpAny (model prog w) A (storeName env name (.ref f)) (fun _ s'' => wpAny (model prog w) A (execs rest env) Q E s'') E s')
    (hcl : closureFor scope env = pure clos := by rfl) (hG : env.globals = mainGlobals := by rfl) (hd0 : params.defaults = [] := by rfl) (hk0 : params.kw_defaults = [] := by rfl) (ha : annTrees params none env = [] := by rfl) :
    wpAny (model prog w) A (execs (.FunctionDef name params body [] none [] scope none name pos :: rest) env) Q E s := by
  refine wpAny_execs_cons (nestDef_K hd0 hk0 ha ?_)
  obtain ⟨bm, ob, b1, b2, b3, b4, b5, b6⟩ := W.bm
  have hPn : C.hW.get? P = none := by obtain ⟨Z, k⟩ := H; exact (k.tW P hP).1
  have hbP : bm ≠ P := fun e => by rw [e, hPn] at b3; cases b3
  have hgP : mainGlobals ≠ P := fun e => by obtain ⟨o, es, ep, ho, _⟩ := W.g; rw [e, hPn] at ho; cases ho
  have hbG : bm ≠ mainGlobals := fun e => by
    obtain ⟨o, es, ep, ho, hd, _⟩ := W.g
    rw [← e, b3] at ho; cases ho
    rw [b6] at hd; cases hd
  have hgs : s.heap.Ns mainGlobals mg := W.g.keeps fun _ _ e => H.wk e
  have hbs : s.heap.BuiltinsAt mg P := ⟨bm, ob, b1, b2, hbG, hbP, H.wk b3, b4, b5, b6⟩
  obtain ⟨ps, e, t, hcodes⟩ := H.tabGet hP hq
  cases hf : codeAmong pos ps.toList with
  | some cv =>
    obtain ⟨c', rfl, H2⟩ := hcodes pos cv hf
    refine makeFunction_hit hcl hG hgs hc (hC.keeps fun _ _ e => H.wk e) e t hf hbs fun ctv doc h' tk k hz => ?_
    have H3 := H2.grown (tk := tk) k
    exact h _ c' _ ((H3.push (p := isFn name (qualnameIn env name name) params body scope clos (.ref c')) ⟨_, _, _, rfl⟩).freezeO)
  | none =>
    refine makeFunction_K hcl hG hgs hc (hC.keeps fun _ _ e => H.wk e) e t hf hgP hbs fun c' ctv doc h' tk hx hge hlt hrec htab => ?_
    obtain ⟨c0, oc, vs, tq, e0, hoc, hd, hv⟩ := hrec
    cases e0
    have ht' : TriplesOk (ps ++ #[rawInt pos.line, rawInt pos.col, Value.ref c']).toList := by
      rw [show (ps ++ #[rawInt pos.line, rawInt pos.col, Value.ref c']).toList = ps.toList ++ [rawInt pos.line, rawInt pos.col, .ref c'] by simp]
      exact TriplesOk_snoc _ _ _ _ t
    have H3 := H.table (tk := tk) (p := isCodeRec (qualnameIn env name name)) hP hx htab ht' hge hoc (fun q hq' pos' cv hcv => by
      rw [show (ps ++ #[rawInt pos.line, rawInt pos.col, Value.ref c']).toList = ps.toList ++ [rawInt pos.line, rawInt pos.col, .ref c'] by simp] at hcv
      rcases codeAmong_append _ t hcv with h1 | h1
      · exact .inl ⟨ps, e, h1⟩
      · rw [hq] at hq'; cases hq'
        exact .inr ⟨h1, vs, tq, hd, hv⟩) ⟨vs, tq, hd, hv⟩
    exact h _ c' _ ((H3.push (p := isFn name (qualnameIn env name name) params body scope clos (.ref c')) ⟨_, _, _, rfl⟩).freezeO)

/-! ## a def of the top with cells -/
theorem cellsFrom_keys : ∀ (names : List (Str × NameKind)) (n k : Nat) (acc acc' : List (Str × Addr)), acc.map (·.1) = acc'.map (·.1) → (cellsFrom n names acc).map (·.1) = (cellsFrom k names acc').map (·.1)
  | [], _, _, _, _, h => h
  | (x, kind) :: r, n, k, acc, acc', h => by
    unfold cellsFrom
    split
    · exact cellsFrom_keys r _ _ _ _ (by simp [h])
    · exact cellsFrom_keys r _ _ _ _ h
theorem lookup_mem_nodup {α : Type} : ∀ {l : List (Str × α)} (hn : (l.map (·.1)).Nodup) {p : Str × α}, p ∈ l → l.lookup p.1 = some p.2
  | (k, v) :: r, hn, p, hp => by
    rw [List.map_cons, List.nodup_cons] at hn
    rw [List.lookup_cons]
    rcases List.mem_cons.mp hp with rfl | hp
    · simp
    · have : (p.1 == k) = false := by
        rw [beq_eq_false_iff_ne]
        intro e
        exact hn.1 (List.mem_map.mpr ⟨p, hp, e⟩)
      rw [this]
      exact lookup_mem_nodup hn.2 hp
theorem call_gC {p : Program} {x : Str} {d : Def p x} {f c : Addr} {args : List Value} (names : List Str) {k : Nat} {Q : Value → Shared → Prop}
    (hlim : C.hW.NoLimit) (hf : FnIs C.hW mg d f c) (H : St C L m X Fs s) (hR : Room A (k + 1))
    (h : ∀ C' L' cs s₁ R E', Back C L m X Fs C' Q R → cs = cellsFrom (L' + 1) d.sc.names [] → Enter C L m X Fs s C' → Room (A.deeper (envX x d.sc L' f (.ref c) cs)) k →
      St C' L' (bindL (envX x d.sc L' f (.ref c) cs).kindOf (names.zip args) fun _ => none) (cs.map fun p => (p.2, isCell (bindC (envX x d.sc L' f (.ref c) cs).kindOf (names.zip args) (fun _ => none) p.1))) Fs s₁ →
      wpAny (model prog w) (A.deeper (envX x d.sc L' f (.ref c) cs)) (execs d.b (envX x d.sc L' f (.ref c) cs)) R E' s₁)
    (hbind : ∀ doc pm ct, bindArgs (fnOf x x d.a d.b d.sc .none .none doc pm none (.ref c) ct) ⟨args, []⟩ = pure (names.zip args) := by intros; rfl)
    (hn : ∀ x ∈ names, d.sc.names.lookup x = some .local ∨ d.sc.names.lookup x = some .cell := by decide) (hnd : ((cellsFrom 0 d.sc.names []).map (·.1)).Nodup := by decide)
    (hk : d.sc.kind = .function := by rfl) (hco : d.sc.isCoroutine = false := by rfl) (hgen : d.sc.isGenerator = false := by rfl) :
    wpAny (model prog w) A (call (.ref f) args) Q E s := by
  obtain ⟨oc, od, sl, doc, pm, ct, ho⟩ := hf.obj
  obtain ⟨C', hE⟩ := H.enter
  have hnd' : ((cellsFrom (s.heap.objs.size + 1) d.sc.names []).map (·.1)).Nodup := by rw [cellsFrom_keys _ _ 0 [] [] rfl]; exact hnd
  refine wpAny_call (codeAny_call_cells hR.depth (H.wk ho) rfl ((hlim.keeps fun b o e => H.wk e)) (codeRec_wk H hf.code) rfl (hbind doc pm ct) rfl (fun y hy => ?_) (fun s₁ I => ?_) hco hgen hk)
  · rcases hn _ (List.of_mem_zip hy).1 with q | q
    · exact .inl q
    · exact .inr ⟨q, cellsFrom_some _ _ _ (.inl q)⟩
  · obtain ⟨h₁, tk, rfl⟩ := I.toInCall.same
    have S : St C' s.heap.objs.size (bindL (envX x d.sc s.heap.objs.size f (.ref c) (cellsFrom (s.heap.objs.size + 1) d.sc.names [])).kindOf (names.zip args) fun _ => none)
        ((cellsFrom (s.heap.objs.size + 1) d.sc.names []).map fun p => (p.2, isCell (bindC (envX x d.sc s.heap.objs.size f (.ref c) (cellsFrom (s.heap.objs.size + 1) d.sc.names [])).kindOf (names.zip args) (fun _ => none) p.1))) Fs { s with heap := h₁, toks := tk } := by
      refine hE.begin I.toInCall.keep (Nat.le_refl _) I.toInCall.ns (fun q hq => ?_) ?_
      · obtain ⟨q', hq', rfl⟩ := List.mem_map.mp hq
        have hab := I.above q'.1 q'.2 hq'
        exact ⟨I.cell q'.1 q'.2 (lookup_mem_nodup hnd' hq'), Nat.le_of_lt hab, Nat.ne_of_gt hab⟩
      · exact List.pairwise_map.mpr I.apart
    refine wpAny_mono (h C' _ _ _ _ (fun _ _ => False) leavesBack rfl hE hR.deeper S) (fun fl s'' hl => ?_) fun _ _ x => x.elim
    obtain ⟨L'', m'', X'', Gs, S'', hq⟩ := hl
    exact hq s'' (hE.back S'')

/-! ## a call of a def within a def: all that is in hand is lent -/
def Lends (C : Cx) (L L' : Addr) (m : Str → Option Value) (Q : Value → Shared → Prop) (fl : Flow) (s'' : Shared) : Prop :=
  ∃ m'' X'' Gs, St C L' m'' ((L, isNs m) :: X'') Gs s'' ∧ ∀ s', St C L m X'' Gs s' → Q (match fl with | .ret v => v | _ => .none) s'
structure Lent (C : Cx) (L L' : Addr) (m : Str → Option Value) (Q : Value → Shared → Prop) (R : Flow → Shared → Prop) : Prop where
  ret : ∀ {m'' : Str → Option Value} {X'' : List (Addr × OP)} {Gs : List Fact} {v : Value} {s'' : Shared}, St C L' m'' ((L, isNs m) :: X'') Gs s'' → (∀ s', St C L m X'' Gs s' → Q v s') → R (.ret v) s''
  next : ∀ {m'' : Str → Option Value} {X'' : List (Addr × OP)} {Gs : List Fact} {s'' : Shared}, St C L' m'' ((L, isNs m) :: X'') Gs s'' → (∀ s', St C L m X'' Gs s' → Q .none s') → R .next s''
theorem lendsLent {L' : Addr} {Q : Value → Shared → Prop} : Lent C L L' m Q (Lends C L L' m Q) := ⟨fun S h => ⟨_, _, _, S, h⟩, fun S h => ⟨_, _, _, S, h⟩⟩
theorem call_in {name qual : Str} {params : Arguments} {body : List Stmt} {scope : Scope} {clos : List (Str × Addr)} {f c' : Addr} {args : List Value} (names : List Str) {k : Nat} {Q : Value → Shared → Prop} (hlim : C.hW.NoLimit) (H : St C L m X Fs s) (hR : Room A (k + 1))
    (hf : Tells Fs (.O f (isFn name qual params body scope clos (.ref c')))) (hc : Tells Fs (.O c' (isCodeRec qual)))
    (h : ∀ L' s₁ R E', Lent C L L' m Q R → Room (A.deeper (envX qual scope L' f (.ref c') clos)) k → St C L' (fun x => (names.zip args).reverse.lookup x) ((L, isNs m) :: X) Fs s₁ →
      wpAny (model prog w) (A.deeper (envX qual scope L' f (.ref c') clos)) (execs body (envX qual scope L' f (.ref c') clos)) R E' s₁)
    (hbind : ∀ doc pm ct, bindArgs (fnX name qual params body scope clos .none .none doc pm none (.ref c') ct) ⟨args, []⟩ = pure (names.zip args) := by intros; rfl) (hcell : ∀ x ∈ scope.names, x.2 ≠ .cell := by decide)
    (hn : ∀ x ∈ names, scope.names.lookup x = some .local := by decide)
    (hk : scope.kind = .function := by rfl) (hco : scope.isCoroutine = false := by rfl) (hgen : scope.isGenerator = false := by rfl) :
    wpAny (model prog w) A (call (.ref f) args) Q E s := by
  obtain ⟨o, ho, doc, pm, ctv, rfl⟩ := H.factO hf
  refine wpAny_call (codeAny_call_function hR.depth ho rfl hco hgen rfl (codeRec_of_O H hc) ?_)
  rw [hbind]
  refine wpAny_pure (wpAny_newFunctionEnv hcell (fun y hy => hn _ (List.of_mem_zip hy).1) (fun h₁ hns hsb => ?_) hk)
  have old : ∀ b o, s.heap.get? b = some o → h₁.get? b = some o := fun b o e => hsb.extBut b o (Nat.ne_of_lt (Heap.lt_size e)) (Heap.get?_push_of_some _ e)
  refine ⟨(hlim.keeps fun b o e => H.wk e).keeps old, ?_⟩
  have S : St C s.heap.objs.size (fun x => (names.zip args).reverse.lookup x) ((L, isNs m) :: X) Fs { s with heap := h₁, toks := s.toks + (names.zip args).length } :=
    H.compIn (X' := []) old (Nat.le_refl _) hns (fun p hp => nomatch hp) .nil
  refine codeAny_func (wpAny_mono (h _ _ _ (fun _ _ => False) lendsLent hR.deeper S) (fun fl s'' hl => ?_) fun _ _ x => x.elim)
  obtain ⟨m'', X'', Gs, S'', hq⟩ := hl
  exact hq s'' S''.compOut

/-! ## items, lengths, truth -/
def SubOn (prog : Program) (w : World) (A : Around) (o i : Value) (Q : Value → Shared → Prop) (E : Value → Shared → Prop) (s : Shared) : Prop :=
  ∃ T id, typeLookup (.type T) "__getitem__" = pure (some (.builtin id)) ∧ s.TypeIs o T ∧ wpAny (model prog w) A (getItem o i) Q E s
theorem r_item {value slice : Expr} {pos : Pos} {Q : Value → Shared → Prop} (h : wpAny (model prog w) A (eval value env) (fun o s₁ => wpAny (model prog w) A (eval slice env) (fun i s₂ => SubOn prog w A o i Q E s₂) E s₁) E s)
    (hs : ∀ o i, subscripted slice false o i = operate [o, i] (getItem o i) ∨ subscripted slice false o i = operate [i, o] (getItem o i) := by intro _ _; first | exact .inl rfl | exact .inr rfl) :
    wpAny (model prog w) A (eval (.Subscript value slice pos) env) Q E s := by
  rw [eval_Subscript]
  refine wpAny_bind (wpAny_mono h (fun o s₁ h₁ => wpAny_bind (wpAny_holding (wpAny_mono h₁ (fun i s₂ h₂ => wpAny_bind (wpAny_standAt ?_)) fun _ _ x => x))) fun _ _ x => x)
  obtain ⟨T, id, hl, hT, hg⟩ := h₂
  refine wpAny_bind ?_
  rw [getitemInPython_of_ne hT.not_modules]
  refine wpAny_bind (wpAny_specialOf hT hl ?_)
  have fin : wpAny (model prog w) A (subscripted slice false o i) (fun r s₃ => wpAny (model prog w) A (letTemporaryGo value o r >>= fun _ => pure r) Q E s₃) E s₂ := by
    rcases hs o i with e | e <;> rw [e] <;>
    exact wpAny_operating (wpAny_mono hg (fun r s₃ h₃ => wpAny_bind (wpAny_letTemporaryGo (wpAny_pure h₃))) fun _ _ x => x)
  first
    | exact wpAny_pure (wpAny_bind fin)
    | exact wpAny_bind (wpAny_pure (wpAny_bind fin))
    | exact wpAny_bind fin
theorem sub_list {l : Addr} {ds : List D} {k : Int} {t : Tok} {d : D} {Q : Value → Shared → Prop} (H : St C L m X Fs s) (hl : Kn Fs (.ref l) (.lst ds)) (h0 : 0 ≤ k) (hk : k < 2 ^ 63) (hd : ds[k.toNat]? = some d)
    (h : ∀ v s', St C L m X (.V v d :: Fs) s' → Q v s') : SubOn prog w A (.ref l) (.int k t) Q E s := by
  obtain ⟨vs, ⟨o, ho, hp⟩, hlen, H1⟩ := H.listF hl
  obtain ⟨v, hv⟩ := getElem_of hlen hd
  exact ⟨"list", _, slot_list_getitem.lookup, (list_of ho hp).typeIs, wpAny_getItem_list (list_of ho hp) h0 hk (x := v) (by simpa using hv) (h v _ (H1.item hv hd))⟩
theorem sub_listX {l : Addr} {vs : List Value} {k : Int} {t : Tok} {v : Value} {Q : Value → Shared → Prop} (H : St C L m X Fs s) (hl : (l, isList vs) ∈ X) (h0 : 0 ≤ k) (hk : k < 2 ^ 63) (hv : vs[k.toNat]? = some v) (h : Q v s) :
    SubOn prog w A (.ref l) (.int k t) Q E s := by
  obtain ⟨o, ho, hp⟩ := H.get hl
  exact ⟨"list", _, slot_list_getitem.lookup, (list_of ho hp).typeIs, wpAny_getItem_list (list_of ho hp) h0 hk (x := v) (by simpa using hv) h⟩
theorem sub_tup {l : Addr} {ds : List D} {k : Int} {t : Tok} {d : D} {Q : Value → Shared → Prop} (H : St C L m X Fs s) (hl : Kn Fs (.ref l) (.tup ds)) (h0 : 0 ≤ k) (hk : k < 2 ^ 63) (hd : ds[k.toNat]? = some d)
    (h : ∀ v s', St C L m X (.V v d :: Fs) s' → Q v s') : SubOn prog w A (.ref l) (.int k t) Q E s := by
  obtain ⟨vs, ⟨o, ho, hp⟩, hlen, H1⟩ := H.tupF hl
  obtain ⟨v, hv⟩ := getElem_of hlen hd
  have hi : k.toNat < vs.length := (List.getElem?_eq_some_iff.mp hv).1
  obtain ⟨n, rfl⟩ := hp
  exact ⟨"tuple", _, F.slot_tuple_getitem.lookup, ⟨_, ho, rfl⟩, getItem_tuple (items := vs.toArray) ⟨_, ho, rfl, n, rfl⟩ (by (first | lia | omega)) hk (seqIndex_of h0 (by rw [List.size_toArray]; (first | lia | omega))) (x := v) (by simpa using hv) (h v _ (H1.item hv hd))⟩
theorem sub_dictX {d : Addr} {kvs : List (Int × Value)} {k : Int} {t : Tok} {v : Value} {Q : Value → Shared → Prop} (H : St C L m X Fs s) (hm : (d, isDict kvs) ∈ X) (hv : look kvs k = some v)
    (h : ∀ s', St C L m X Fs s' → Q v s') : SubOn prog w A (.ref d) (.int k t) Q E s := by
  obtain ⟨o, ho, hp⟩ := H.get hm
  exact ⟨"dict", _, slot_dict_getitem.lookup, (dictOf_of (prog := prog) (w := w) ho hp).typeIs, r_dictGet H hm hv h⟩
theorem len_list' {l : Addr} {ds : List D} {Q : Value → Shared → Prop} (H : St C L m X Fs s) (hl : Kn Fs (.ref l) (.lst ds)) (hs : ds.length ≤ sizeLine) (h : ∀ t s', St C L m X Fs s' → Q (.int ds.length t) s') : wpAny (model prog w) A (call (.builtin "len") [.ref l]) Q E s := by
  obtain ⟨vs, ⟨o, ho, hp⟩, hlen, H1⟩ := H.listF hl
  refine PySem.Calls.call_len_list (list_of ho hp) (by rw [List.size_toArray, hlen]; rw [sizeLine_eq] at hs; (first | lia | omega)) ?_
  have := h (s.toks + 1) _ (H.tok (s.toks + 1 + 1))
  rw [List.size_toArray, hlen]; exact this
theorem len_listX {l : Addr} {vs : List Value} {Q : Value → Shared → Prop} (H : St C L m X Fs s) (hl : (l, isList vs) ∈ X) (hs : vs.length ≤ sizeLine) (h : ∀ t s', St C L m X Fs s' → Q (.int vs.length t) s') : wpAny (model prog w) A (call (.builtin "len") [.ref l]) Q E s := by
  obtain ⟨o, ho, hp⟩ := H.get hl
  refine PySem.Calls.call_len_list (list_of ho hp) (by rw [List.size_toArray]; rw [sizeLine_eq] at hs; (first | lia | omega)) ?_
  rw [List.size_toArray]; exact h _ _ (H.tok (s.toks + 1 + 1))
theorem truthy_lst {l : Addr} {ds : List D} {Q : Bool → Shared → Prop} (H : St C L m X Fs s) (hl : Kn Fs (.ref l) (.lst ds)) (hs : ds.length ≤ sizeLine) (h : ∀ s', St C L m X Fs s' → Q (!ds.isEmpty) s') : wpAny (model prog w) A (truthy (.ref l)) Q E s := by
  obtain ⟨vs, ⟨o, ho, hp⟩, hlen, H1⟩ := H.listF hl
  refine wpAny_truthy_list (list_of ho hp) (by rw [List.size_toArray, hlen]; rw [sizeLine_eq] at hs; (first | lia | omega)) ?_
  have e : vs.toArray.isEmpty = ds.isEmpty := by
    rw [List.isEmpty_toArray]
    cases vs <;> cases ds <;> simp at hlen ⊢
  rw [e]; exact h _ (H.tok _)

variable {a b : Int} {t u : Tok}
theorem r_shl {Q : Value → Shared → Prop} (H : St C L m X Fs s) (hn : 0 ≤ b) (hsz : (Builtin.Int.intBits a : Int) + b ≤ 2 ^ 27) (h : ∀ t s', St C L m X Fs s' → Q (.int (a * 2 ^ b.toNat) t) s') : wpAny (model prog w) A (binaryOp .LShift (.int a t) (.int b u)) Q E s := lshift_int hn hsz (h _ _ (H.tok _))
theorem r_shr {Q : Value → Shared → Prop} (H : St C L m X Fs s) (hn : 0 ≤ b) (h : ∀ t s', St C L m X Fs s' → Q (.int (a.fdiv (2 ^ b.toNat)) t) s') : wpAny (model prog w) A (binaryOp .RShift (.int a t) (.int b u)) Q E s := rshift_int hn (h _ _ (H.tok _))
theorem r_xor {Q : Value → Shared → Prop} (H : St C L m X Fs s) (h : ∀ t s', St C L m X Fs s' → Q (.int (Builtin.bitXor a b) t) s') : wpAny (model prog w) A (binaryOp .BitXor (.int a t) (.int b u)) Q E s := xor_int (h _ _ (H.tok _))
theorem r_fdiv {Q : Value → Shared → Prop} (H : St C L m X Fs s) (hb : b ≠ 0) (hp : Builtin.divisionGoesByPylong a b = false) (h : ∀ t s', St C L m X Fs s' → Q (.int (a.fdiv b) t) s') : wpAny (model prog w) A (binaryOp .FloorDiv (.int a t) (.int b u)) Q E s := floordiv_int hb (h _ _ (H.tok _)) (.inl hp)
theorem r_inv {Q : Value → Shared → Prop} (H : St C L m X Fs s) (h : ∀ t s', St C L m X Fs s' → Q (.int (-a - 1) t) s') : wpAny (model prog w) A (unaryOp .Invert (.int a t)) Q E s := invert_int (h _ _ (H.tok _))
theorem FnAt.ofO {f : Addr} {name qual : Str} {params : Arguments} {body : List Stmt} {scope : Scope} {clos : List (Str × Addr)} {cv : Value} (H : St C L m X Fs s) (hf : Tells Fs (.O f (isFn name qual params body scope clos cv))) : FnAt f s.heap := by
  obtain ⟨o, ho, doc, pm, ctv, rfl⟩ := H.factO hf
  exact ⟨_, _, _, _, ho⟩
theorem r_storeCell {x : Str} {c : Addr} {v : Value} {v0 : Option Value} {Q : Unit → Shared → Prop} (H : St C L m ((c, isCell v0) :: X) Fs s) (h : ∀ s', St C L m ((c, isCell (some v)) :: X) Fs s' → Q () s') (hc : env.cells.lookup x = some c := by rfl) (hk : env.scope.kind = .function := by rfl) (hl : env.kindOf x = some .cell := by rfl) :
    wpAny (model prog w) A (storeName env x v) Q E s :=
  wpAny_storeName_cell hk hl hc (H.get (.head _)) (fun h' hv hs => h _ (H.upd rfl (tk := s.toks) hs hv))
theorem r_callFree {x : Str} {c f : Addr} {e : Expr} {rest : List Expr} {px pos : Pos} {Q : Value → Shared → Prop} (H : St C L m X Fs s) (hp : (c, isCell (some (.ref f))) ∈ X) (hF : FnAt f s.heap)
    (h : wpAny (model prog w) A (spliced (backTo pos (starEach (e :: rest) env))) (fun vs s₂ => FnAt f s₂.heap ∧ wpAny (model prog w) A (call (.ref f) vs) Q E s₂) E s)
    (hc : env.cells.lookup x = some c := by rfl) (hk : env.scope.kind = .function := by rfl) (hl : env.kindOf x = some .free := by rfl) (hd : (x == ("__debug__" : Str)) = false := by decide) (hn : (x == ("__classdict__" : Str)) = false := by decide)
    (he : starEach (e :: rest) env = (false, eval e env) :: starEach rest env := by rfl) (hplain : (backTo pos (starEach rest env)).any (·.1) = false := by rfl) : wpAny (model prog w) A (eval (.Call (.Name x px) (e :: rest) [] pos) env) Q E s :=
  PyProof.Rows.Call_ (r_freeName H hp (callWith_F (first := []) hF (by simpa using h) he hplain) hc hk hl hd hn)
theorem r_callCell {x : Str} {c f : Addr} {e : Expr} {rest : List Expr} {px pos : Pos} {Q : Value → Shared → Prop} (H : St C L m X Fs s) (hp : (c, isCell (some (.ref f))) ∈ X) (hF : FnAt f s.heap)
    (h : wpAny (model prog w) A (spliced (backTo pos (starEach (e :: rest) env))) (fun vs s₂ => FnAt f s₂.heap ∧ wpAny (model prog w) A (call (.ref f) vs) Q E s₂) E s)
    (hc : env.cells.lookup x = some c := by rfl) (hk : env.scope.kind = .function := by rfl) (hl : env.kindOf x = some .cell := by rfl) (hd : (x == ("__debug__" : Str)) = false := by decide)
    (he : starEach (e :: rest) env = (false, eval e env) :: starEach rest env := by rfl) (hplain : (backTo pos (starEach rest env)).any (·.1) = false := by rfl) : wpAny (model prog w) A (eval (.Call (.Name x px) (e :: rest) [] pos) env) Q E s :=
  PyProof.Rows.Call_ (r_cellName H hp (callWith_F (first := []) hF (by simpa using h) he hplain) hc hk hl hd)
end
end Mine
end
section
open PySem PySem.W PyProof.Rows
set_option maxRecDepth 100000
set_option linter.unusedVariables false
namespace Mine
section
variable {prog : Program} {w : World} {A : Around} {E : Value → Shared → Prop} {C : Cx} {L : Addr} {m : Str → Option Value} {X : List (Addr × OP)} {Fs : List Fact} {s : Shared} {env : Env} {mg : Str → Option Value}

theorem isL_of {h : Heap} {a : Addr} {o : Obj} {vs : List Value} (e : h.get? a = some o) (x : isList vs o) : ∃ n, IsL h a vs.toArray n := by obtain ⟨n, rfl⟩ := x; exact ⟨n, e⟩
theorem St.updList {l : Addr} {vs ws : List Value} {n : Nat} {f : Array Value → Array Value} {tk : Nat} (H : St C L m ((l, isList vs) :: X) Fs s) (hl : IsL s.heap l vs.toArray n) (hf : f vs.toArray = ws.toArray) :
    St C L m ((l, isList ws) :: X) Fs { s with heap := s.heap.update l (Obj.mapSeq f), toks := tk } :=
  H.upd rfl (Heap.SameBut.update ..) ⟨_, hl.update f, by rw [hf]; exact ⟨_, rfl⟩⟩

theorem perm_last {α : Type} (p : α) : ∀ (A X : List α), (A ++ p :: X).Perm (p :: A ++ X) := fun A X => List.perm_middle
theorem St.rot4 {p q r u : Addr × OP} (H : St C L m (p :: q :: r :: u :: X) Fs s) : St C L m (u :: p :: q :: r :: X) Fs s := H.perm (perm_last u [p, q, r] X)
theorem St.rot5 {p q r u v : Addr × OP} (H : St C L m (p :: q :: r :: u :: v :: X) Fs s) : St C L m (v :: p :: q :: r :: u :: X) Fs s := H.perm (perm_last v [p, q, r, u] X)
theorem St.rot6 {p q r u v x : Addr × OP} (H : St C L m (p :: q :: r :: u :: v :: x :: X) Fs s) : St C L m (x :: p :: q :: r :: u :: v :: X) Fs s := H.perm (perm_last x [p, q, r, u, v] X)
theorem St.drop2 {p q : Addr × OP} (H : St C L m (p :: q :: X) Fs s) : St C L m (p :: X) Fs s := H.swap.drop

/-! append, reverse, count -/
def AppOn (l : Addr) (Q : Value → Shared → Prop) (v : Value) (s : Shared) : Prop := ∃ vs, (∃ o, s.heap.get? l = some o ∧ isList vs o) ∧ vs.length ≤ sizeLine ∧ ∀ n, IsL s.heap l vs.toArray n → Q .none { s with heap := s.heap.update l (Obj.mapSeq fun x => x.push v) }
theorem m_append {l : Addr} {pos : Pos} {x : Sem Value} {Q : Value → Shared → Prop} {vs : List Value} (H : St C L m X Fs s) (hl : (l, isList vs) ∈ X) (h : wpAny (model prog w) A x (AppOn l Q) E s) : MethodOn prog w A "append" pos (.ref l) [(false, x)] Q E s := by
  obtain ⟨o, ho, hp⟩ := H.get hl
  obtain ⟨n, hl⟩ := isL_of ho hp
  refine ⟨"list", "list.append", F.plainAttrs_list, F.slot_list_append, F.type_list_append, hl.isList.typeIs, (fun a e => by cases e; exact ⟨_, hl, rfl⟩), P.append_list (wpAny_mono h (fun v s₁ h₁ => ?_) fun _ _ e => e)⟩
  obtain ⟨vs, ⟨o, ho, hp⟩, hsz, hq⟩ := h₁
  obtain ⟨n, hl⟩ := isL_of ho hp
  exact ⟨vs.toArray, n, by simpa using hsz, hl, hq n hl⟩
theorem r_append {l : Addr} {vs : List Value} {v : Value} {Q : Value → Shared → Prop} (H : St C L m ((l, isList vs) :: X) Fs s) (hsz : vs.length ≤ sizeLine) (h : ∀ s', St C L m ((l, isList (vs ++ [v])) :: X) Fs s' → Q .none s') : AppOn l Q v s :=
  ⟨vs, H.get (.head _), hsz, fun n hl => h _ (H.updList (f := fun x => x.push v) (ws := vs ++ [v]) (tk := s.toks) hl (by simp))⟩
theorem m_reverse {l : Addr} {vs : List Value} {pos : Pos} {Q : Value → Shared → Prop} (H : St C L m ((l, isList vs) :: X) Fs s) (hsz : vs.length ≤ sizeLine) (h : ∀ s', St C L m ((l, isList vs.reverse) :: X) Fs s' → Q .none s') : MethodOn prog w A "reverse" pos (.ref l) [] Q E s := by
  obtain ⟨o, ho, hp⟩ := H.get (.head _)
  obtain ⟨n, hl⟩ := isL_of ho hp
  exact ⟨"list", "list.reverse", F.plainAttrs_list, F.slot_list_reverse, F.type_list_reverse, hl.isList.typeIs, (fun a e => by cases e; exact ⟨_, hl, rfl⟩), P.reverse_list hl (h _ (H.updList (f := fun x => x.reverse) (ws := vs.reverse) (tk := s.toks) hl (by simp))) (by simpa using hsz)⟩

/-! a list of any make: in the ledger, or laid by -/
def LAt (s : Shared) (l : Addr) (vs : List Value) : Prop := ∃ o, s.heap.get? l = some o ∧ isList vs o
theorem LAt.isL {l : Addr} {vs : List Value} (h : LAt s l vs) : ∃ n, IsL s.heap l vs.toArray n := let ⟨_, e, x⟩ := h; isL_of e x
theorem r_addList {l b : Addr} {vs ws : List Value} {Q : Value → Shared → Prop} (H : St C L m X Fs s) (hl : LAt s l vs) (hb : LAt s b ws) (hsz : vs.length + ws.length ≤ sizeLine)
    (h : ∀ c s', St C L m ((c, isList (vs ++ ws)) :: X) Fs s' → Q (.ref c) s') : wpAny (model prog w) A (binaryOp .Add (.ref l) (.ref b)) Q E s := by
  obtain ⟨n, hl⟩ := hl.isL
  obtain ⟨k, hb⟩ := hb.isL
  exact P.add_list hl hb (h _ _ (H.push (p := isList (vs ++ ws)) ⟨0, by simp⟩)) (by simpa using hsz)

theorem fold_rep (vs : List Value) : ∀ (k : Nat) (acc : Array Value), (List.replicate k vs.toArray).foldl (fun a b => a ++ b) acc = (acc.toList ++ (List.replicate k vs).flatten).toArray
  | 0, acc => by simp
  | k + 1, acc => by
    rw [List.replicate_succ, List.foldl_cons, fold_rep vs k]
    simp [List.replicate_succ]
theorem r_mulList {l : Addr} {vs : List Value} {x : Int} {u : Tok} {Q : Value → Shared → Prop} (H : St C L m X Fs s) (hl : LAt s l vs) (hlo : -(2 ^ 63 : Int) ≤ x) (hhi : x < 2 ^ 63) (hne : vs ≠ []) (hsz : vs.length * x.toNat ≤ 2 ^ 24)
    (h : ∀ c s', St C L m ((c, isList (List.replicate x.toNat vs).flatten) :: X) Fs s' → Q (.ref c) s') : wpAny (model prog w) A (binaryOp .Mult (.ref l) (.int x u)) Q E s := by
  obtain ⟨n, hl⟩ := hl.isL
  have key := H.push (p := isList (List.replicate x.toNat vs).flatten) (o := { cls := .type "list", data := .seq (List.foldl (fun x1 x2 => x1 ++ x2) #[] (List.replicate (if vs.toArray.isEmpty = true then 0 else x.toNat) vs.toArray)) })
    ⟨0, by rw [if_neg (by simpa using hne), fold_rep]; simp⟩
  exact wpAny_binaryOp_repeat_ref (T := "list") (U := "int") (by decide) ⟨_, hl, rfl⟩ (fun s' => typeIs_int s' x u) noFill_list_mul F.fills_int_mul F.slot_int_rmul repeat_list F.slot_int_index.lookup
    (call_meets F.slot_int_rmul (typeIs_int s x u) F.entry_int_rmul (F.args_int_rmul_2 _ _) (int___rmul___int_list x u l vs.toArray n)
      ⟨hl, rfl, ⟨_, hl, rfl⟩, call_meets F.slot_list_mul ⟨_, hl, rfl⟩ F.entry_list_mul (F.args_list_mul_2 _ _)
        (AutoListH.list___mul___list_int_3 l vs.toArray n x u (by simp [Builtin.List.listFitsIndex]; (first | lia | omega)) (by simp; (first | lia | omega)) (by simp [Builtin.List.listTooLong, sizeLine]; (first | lia | omega)))
        ⟨hl, h _ _ key⟩⟩)

theorem r_iaddList {l b : Addr} {vs ws : List Value} {Q : Value → Shared → Prop} (H : St C L m ((l, isList vs) :: X) Fs s) (hb : LAt s b ws) (hsz : vs.length + ws.length ≤ sizeLine)
    (h : ∀ s', St C L m ((l, isList (vs ++ ws)) :: X) Fs s' → Q (.ref l) s') : wpAny (model prog w) A (inplaceOp .Add (.ref l) (.ref b)) Q E s := by
  obtain ⟨n, hl⟩ := LAt.isL (s := s) (H.get (.head _))
  obtain ⟨k, hb⟩ := hb.isL
  unfold inplaceOp
  refine wpAny_holding ?_
  have hfi : fillsInplaceSlot (.type "list") "add" (Operator.Add == .Add) = pure false := by
    unfold fillsInplaceSlot
    show (typeLookup (.type "list") (dunderI "add") >>= fun fi => pure (fi.isSome && !isSeqSlot fi)) = pure false
    rw [F.slot_list_iadd.lookup]; rfl
  refine wpAny_bind (wpAny_typeOf hl.isList.typeIs (wpAny_bind (wpAny_of_eq hfi ?_)))
  show wpAny (model prog w) A (if false = true then _ else _) Q E s
  rw [if_neg Bool.false_ne_true]
  refine wpAny_bind (wpAny_binaryOp1_none (nm := "add") hl.isList.typeIs hb.isList.typeIs noFill_list_add ?_)
  refine wpAny_bind (wpAny_of_eq (PySem.seqSlot_of F.slot_list_iadd.lookup (by decide +kernel)) ?_)
  refine wpAny_bind (wpAny_rule ?_)
  exact (call_meets F.slot_list_iadd hl.isList.typeIs F.entry_list_iadd (F.args_list_iadd_2 _ _) (AutoSeq1.list___iadd___list_list_0 l vs.toArray n b ws.toArray k (by simp [Builtin.List.listTooLong, sizeLine_eq] at hsz ⊢; (first | lia | omega)) (by simp; (first | lia | omega)) (by simp; (first | lia | omega)))
    ⟨hl, hb, h _ (H.updList (f := fun x => x ++ ws.toArray) (ws := vs ++ ws) hl (by simp))⟩)


/-! an item is set -/
theorem setItem_upd {l : Addr} {items : Array Value} {n k : Nat} {i : Int} {t : Tok} {v : Value} {Q : Unit → Shared → Prop} (hl : IsL s.heap l items n) (hk : k < items.size) (hfit : i < 2 ^ 63) (hi : i = (k : Int))
    (h : Q () { s with heap := s.heap.update l (Obj.mapSeq (·.setIfInBounds k v)) }) : wpAny (model prog w) A (setItem (.ref l) (.int i t) v) Q E s := by
  have hT : s.TypeIs (.ref l) "list" := hl.isList.typeIs
  have ei : items[k]? = some items[k] := Array.getElem?_eq_getElem hk
  unfold setItem
  with_reducible refine wpAny_holding ?_
  refine wpAny_bind (wpAny_sequenceKey hT (by decide) ?_)
  refine wpAny_bind (wpAny_callSpecial?_slot (name := Str.ofString "__setitem__") hT PySem.slot_list_setitem (wpAny_call_entry PySem.slot_list_setitem hT PySem.entry_list_setitem ?_ (PySem.args_list_setitem _ _ _)))
  show wpAny _ _ (Builtin.List.listSubscript? (.int i t) >>= _) _ _ s
  refine wpAny_bind (wpAny_listSubscript_int (fitsIndex_of (by (first | lia | omega)) hfit) ?_)
  clear hfit
  subst hi
  show wpAny _ _ ((seqItemAt l k >>= fun r => pure (r.map (k, ·))) >>= _) _ _ s
  refine wpAny_bind (wpAny_bind (wpAny_seqItemAt hl rfl (wpAny_pure ?_)))
  rw [ei]
  show wpAny _ _ (setSeqItemAt l k v >>= _) _ _ s
  refine wpAny_bind (wpAny_setSeqItemAt hl rfl ?_)
  first
    | exact wpAny_bind (wpAny_pure (wpAny_pure ⟨.none, rfl, wpAny_pure h⟩))
    | exact wpAny_pure ⟨.none, rfl, wpAny_pure h⟩
theorem r_setItemL {l : Addr} {vs : List Value} {k : Nat} {t : Tok} {v : Value} {Q : Unit → Shared → Prop} (H : St C L m ((l, isList vs) :: X) Fs s) (hk : k < vs.length) (hsz : vs.length ≤ sizeLine)
    (h : ∀ s', St C L m ((l, isList (vs.set k v)) :: X) Fs s' → Q () s') : wpAny (model prog w) A (setItem (.ref l) (.int (k : Int) t) v) Q E s := by
  obtain ⟨n, hl⟩ := LAt.isL (s := s) (H.get (.head _))
  exact setItem_upd hl (by simpa using hk) (by rw [sizeLine_eq] at hsz; (first | lia | omega)) rfl (h _ (H.updList (ws := vs.set k v) (tk := s.toks) hl (by simp)))

/-! bits, divmod -/
theorem m_bits {a : Int} {t : Tok} {pos : Pos} {Q : Value → Shared → Prop} (H : St C L m X Fs s) (h : ∀ u s', St C L m X Fs s' → Q (.int (Builtin.Int.intBits a) u) s') : MethodOn prog w A "bit_length" pos (.int a t) [] Q E s :=
  ⟨"int", "int.bit_length", F.plainAttrs_int, F.slot_int_bit_length, F.type_int_bit_length, typeIs_int s a t, (fun a e => by cases e), Calls.callWith_builtin rfl (PySem.evalArgs_none (call_int_bit_length (h _ _ (H.tok _))))⟩
theorem r_divmod {a b : Int} {t u : Tok} {Q : Value → Shared → Prop} (H : St C L m X Fs s) (hb : b ≠ 0) (hp : Builtin.divisionGoesByPylong a b = false) (h : ∀ c s', St C L m X (.V (.ref c) (.tup [.int (a.fdiv b), .int (a.fmod b)]) :: Fs) s' → Q (.ref c) s') :
    wpAny (model prog w) A (call (.builtin "divmod") [.int a t, .int b u]) Q E s :=
  divmod_int hb (h _ _ (((H.tok (s.toks + 1 + 1)).push (p := isTup [.int (a.fdiv b) s.toks, .int (a.fmod b) (s.toks + 1)]) ⟨0, rfl⟩).freezeT (.cons Kn.int (.cons Kn.int .nil)))) (.inl hp)

/-! statements -/
theorem x_expr {e : Expr} {pos : Pos} {rest : List Stmt} {Q : Flow → Shared → Prop} (h : wpAny (model prog w) A (eval e env) (fun v s' => v = .none ∧ wpAny (model prog w) A (execs rest env) Q E s') E s)
    (hi : interactive env = false := by rfl) (hs : swapsWith e none pos.line env = pure false := by rfl) : wpAny (model prog w) A (execs (.Expr e pos :: rest) env) Q E s :=
  wpAny_execs_cons (wpAny_Expr (wpAny_mono h (fun v s' h' => by obtain ⟨rfl, h'⟩ := h'; exact h') fun _ _ x => x) hi hs)
theorem x_ret0 {pos : Pos} {rest : List Stmt} {Q : Flow → Shared → Prop} (h : Q (.ret .none) s) : wpAny (model prog w) A (execs (.Return none pos :: rest) env) Q E s := wpAny_execs_cons (wpAny_Return_none h)

theorem truthy_i {a : Int} {t : Tok} {Q : Bool → Shared → Prop} (H : St C L m X Fs s) (h : ∀ s', St C L m X Fs s' → Q (a != 0) s') : wpAny (model prog w) A (truthy (.int a t)) Q E s := PyProof.Rows.truthy_int (h _ (by first | exact H | exact H.tok _))

/-! slices -/
def isSlice (l u st : Value) : OP := fun o => o.cls = .type "slice" ∧ o.data = .fields #[l, u, st]
theorem slice_of {h : Heap} {a : Addr} {o : Obj} {l u st : Value} (e : h.get? a = some o) (x : isSlice l u st o) : h.IsSliceOf a l u st := ⟨o, e, x.1, x.2⟩
theorem r_slice {lower upper step : Option Expr} {p : Pos} {Q : Value → Shared → Prop}
    (h : wpAny (model prog w) A (evalPart lower env) (fun l s₁ => wpAny (model prog w) A (evalPart upper env) (fun u s₂ => wpAny (model prog w) A (evalPart step env) (fun st s₃ =>
      ∃ C L m X Fs, St C L m X Fs s₃ ∧ ∀ c s', St C L m ((c, isSlice l u st) :: X) Fs s' → Q (.ref c) s') E s₂) E s₁) E s) : wpAny (model prog w) A (eval (.Slice lower upper step p) env) Q E s :=
  wpAny_Slice (wpAny_mono h (fun l _ h => wpAny_mono h (fun u _ h => wpAny_mono h (fun st s₃ h => by obtain ⟨C, L, m, X, Fs, S, h⟩ := h; exact h _ _ (S.push (p := isSlice l u st) ⟨rfl, rfl⟩)) fun _ _ x => x) fun _ _ x => x) fun _ _ x => x)
theorem sub_slice {l sl : Addr} {vs : List Value} {vl vu : Value} {lo hi : Option Int} {Q : Value → Shared → Prop} (H : St C L m ((sl, isSlice vl vu .none) :: X) Fs s) (hl : LAt s l vs) (pl : IsPart vl lo) (pu : IsPart vu hi) (hsz : vs.length ≤ sizeLine)
    (h : ∀ c s', St C L m ((c, isList (slicePick vs.toArray lo hi none).toList) :: X) Fs s' → Q (.ref c) s') : SubOn prog w A (.ref l) (.ref sl) Q E s := by
  obtain ⟨n, hl⟩ := hl.isL
  obtain ⟨o, ho, hp⟩ := H.get (.head _)
  exact ⟨"list", _, PySem.slot_list_getitem.lookup, hl.isList.typeIs, wpAny_getItem_list_slice hl.isList (slice_of ho hp) pl pu .none nofun (h _ _ (H.drop.push (p := isList (slicePick vs.toArray lo hi none).toList) ⟨0, by simp⟩)) (by simpa using hsz)⟩
end
end Mine
end
section
open PySem PySem.W PyProof.Rows
set_option maxRecDepth 100000
set_option linter.unusedVariables false
namespace Mine
section
variable {prog : Program} {w : World} {A : Around} {E : Value → Shared → Prop} {C : Cx} {L : Addr} {m : Str → Option Value} {X : List (Addr × OP)} {Fs : List Fact} {s : Shared} {env : Env} {mg : Str → Option Value}

/-- calls of a built-in type by its name -/
theorem r_callT {x : Str} {T : String} {e : Expr} {rest : List Expr} {px pos : Pos} {Q : Value → Shared → Prop} (W : Wd C.hW mg) (H : St C L m X Fs s) (hn : mg x = none)
    (h : wpAny (model prog w) A (spliced (backTo pos (starEach (e :: rest) env))) (fun vs s₂ => wpAny (model prog w) A (call (.type T) vs) Q E s₂) E s) (hv : bootBuiltins x = some (.type T) := by rfl)
    (hG : env.globals = mainGlobals := by rfl) (hB : env.builtins = builtinsNs := by rfl) (hk : env.scope.kind = .function := by rfl) (hx : env.kindOf x = some .globalImplicit := by rfl) (hd : (x == ("__debug__" : Str)) = false := by decide)
    (hnn : x ≠ "__name__" := by decide) (he : starEach (e :: rest) env = (false, eval e env) :: starEach rest env := by rfl) (hplain : (backTo pos (starEach rest env)).any (·.1) = false := by rfl) :
    wpAny (model prog w) A (eval (.Call (.Name x px) (e :: rest) [] pos) env) Q E s :=
  PyProof.Rows.Call_ (r_builtin W H hn (PyProof.Rows.callWith_type1 h he hplain) hv hG hB hk hx hd hnn)

def isLRev (l : Addr) (i : Int) : OP := fun o => o.cls = .type "list_reverseiterator" ∧ o.data = .fields #[.ref l, rawInt i]
theorem r_reversed {l : Addr} {ds : List D} {Q : Value → Shared → Prop} (H : St C L m X Fs s) (hv : Kn Fs (.ref l) (.lst ds)) (h : ∀ it s', St C L m ((it, isLRev l ((ds.length : Int) - 1 - ((0 : Nat) : Int))) :: X) Fs s' → Q (.ref it) s') : wpAny (model prog w) A (call (.type "reversed") [.ref l]) Q E s := by
  obtain ⟨vs, ⟨o, ho, hp⟩, hlen, H1⟩ := H.listF hv
  refine call_reversed_list (list_of ho hp) (h _ _ (H.push (p := isLRev l ((ds.length : Int) - 1 - ((0 : Nat) : Int))) ⟨rfl, ?_⟩))
  rw [List.size_toArray, hlen, Int.ofNat_zero, Int.sub_zero]; rfl
theorem r_iterR {l it : Addr} {i : Int} {Q : Value → Shared → Prop} (H : St C L m X Fs s) (hm : (it, isLRev l i) ∈ X) (h : Q (.ref it) s) : wpAny (model prog w) A (pyIter (.ref it)) Q E s := by
  obtain ⟨o, ho, hp⟩ := H.get hm
  exact wpAny_pyIter_revIter ⟨o, ho, hp⟩ h
theorem src_rev {l it : Addr} {ds : List D} {x : Str} {p : Pos} : Src prog w (.Name x p) (.ref it) ds.reverse (fun i => [(it, isLRev l ((ds.length : Int) - 1 - (i : Int)))]) [] [.V (.ref l) (.lst ds)] where
  item := fun i d hd A E C L m X Fs s Q hh hG H hQ => by
    have hi : i < ds.length := by have := (List.getElem?_eq_some_iff.mp hd).1; simpa using this
    rw [List.getElem?_reverse hi] at hd
    obtain ⟨vs, ⟨o, ho, hp⟩, hlen, H1⟩ := H.listF (hG _ (.head _))
    obtain ⟨oi, hoi, hit⟩ := H.get (.head _)
    obtain ⟨v, hv⟩ := getElem_of hlen hd
    have e : (ds.length : Int) - 1 - (i : Int) = ((ds.length - 1 - i : Nat) : Int) := by (first | lia | omega)
    rw [e] at hit
    have hx : vs.toArray[ds.length - 1 - i]? = some v := by simpa using hv
    refine wpAny_pyNext_rev_item (i := ds.length - 1 - i) ⟨oi, hoi, hit⟩ (list_of ho hp) hx fun h' hr hs => ?_
    refine wpAny_pure ?_
    have e2 : ((ds.length - 1 - i : Nat) : Int) - 1 = (ds.length : Int) - 1 - ((i + 1 : Nat) : Int) := by (first | lia | omega)
    rw [e2] at hr
    exact hQ _ _ ((H1.upd (p' := isLRev l ((ds.length : Int) - 1 - ((i + 1 : Nat) : Int))) rfl (tk := s.toks) hs hr).item hv hd)
  done := fun A E C L m X Fs s Q hh hG H hQ => by
    obtain ⟨oi, hoi, hit⟩ := H.get (.head _)
    rw [List.length_reverse] at hit
    have e : (ds.length : Int) - 1 - (ds.length : Int) = -1 := by (first | lia | omega)
    rw [e] at hit
    exact wpAny_pyNext_rev_end hh ⟨oi, hoi, hit⟩ fun h' hx => hQ _ (H.lose (tk := s.toks) hx)

end
end Mine
end
section
open PySem PySem.W PyProof.Rows
set_option maxRecDepth 100000
set_option linter.unusedVariables false
namespace Mine
section
variable {prog : Program} {w : World} {A : Around} {E : Value → Shared → Prop} {C : Cx} {L : Addr} {m : Str → Option Value} {X : List (Addr × OP)} {Fs : List Fact} {s : Shared} {env : Env} {mg : Str → Option Value}

/-- two frames change their parts -/
theorem St.swapFrame {L' : Addr} {m' : Str → Option Value} (H : St C L' m' ((L, isNs m) :: X) Fs s) : St C L m ((L', isNs m') :: X) Fs s := by
  obtain ⟨Z, h⟩ := H
  obtain ⟨⟨o, ho, es, ep, r⟩, a, b, c⟩ := h.mu _ (.head _)
  have hn := h.ns
  refine ⟨Z, { h with ns := ⟨o, es, ep, ho, r⟩, L0 := a, ZL := b, mu := fun q hq => ?_, nd := ?_ }⟩
  · rcases List.mem_cons.mp hq with rfl | hq
    · obtain ⟨o', es', ep', ho', r'⟩ := hn
      exact ⟨⟨o', ho', es', ep', r'⟩, h.L0, h.ZL, fun e => c e.symm⟩
    · obtain ⟨r1, r2, r3, r4⟩ := h.mu q (.tail _ hq)
      exact ⟨r1, r2, r3, fun e => (List.pairwise_cons.mp h.nd).1 q hq e.symm⟩
  · exact List.pairwise_cons.mpr ⟨fun q hq e => (h.mu q (.tail _ hq)).2.2.2 e.symm, (List.pairwise_cons.mp h.nd).2⟩
/-- a comprehension's frame goes -/
theorem St.compGone {L' : Addr} {m' : Str → Option Value} {h' : Heap} {tk : Nat} (H : St C L' m' ((L, isNs m) :: X) Fs s) (hs : Heap.SameBut L' s.heap h') : St C L m X Fs { s with heap := h', toks := tk } := H.swapFrame.lose hs.extBut

theorem cellsFrom_acc : ∀ (names : List (Str × NameKind)) (n : Nat) (acc : List (Str × Addr)), cellsFrom n names acc = cellsFrom n names [] ++ acc
  | [], _, _ => rfl
  | (x, kind) :: r, n, acc => by
    unfold cellsFrom
    split
    · rw [cellsFrom_acc r _ ((x, n) :: acc), cellsFrom_acc r _ [(x, n)]]; simp
    · exact cellsFrom_acc r _ acc
/-- the environment of a comprehension -/
noncomputable def cenvOf (scope : Scope) (own cl : List (Str × Addr)) (L' : Addr) (env : Env) : Env :=
  { scope := relabel scope env, locals := L', globals := env.globals, cells := own ++ cl, qual := env.qual, func := none, code := env.code, frame := env.frame, builtins := env.builtins }
noncomputable def ownX (own : List (Str × Addr)) (cv : Addr → Option Value) : List (Addr × OP) := own.map fun p => (p.2, isCell (cv p.2))

theorem r_compEnv {scope : Scope} {cl : List (Str × Addr)} {Q : Env → Shared → Prop} (H : St C L m X Fs s)
    (h : ∀ L' own s', own = cellsFrom (L' + 1) scope.names [] → St C L' (fun _ => none) (ownX own (fun _ => none) ++ (L, isNs m) :: X) Fs s' →
      Q { scope := scope, locals := L', globals := env.globals, cells := own ++ cl, qual := env.qual, func := none, code := env.code, frame := env.frame, builtins := env.builtins } s') :
    wpAny (model prog w) A (newFunctionEnv scope env.globals cl [] env.qual none .none (some env)) Q E s := by
  simp only [newFunctionEnv, Option.isSome_some, if_true]
  refine wpAny_bind (wpAny_alloc ?_)
  refine wpAny_bind (wpAny_layCells _ (fun name kind cells => by cases hkc : kind == NameKind.cell <;> simp [hkc]) _ _ _ _ ?_)
  have ok := cellsFrom_ok scope.names (s.heap.push { cls := .type "dict", data := .dict #[] }) (s.heap.objs.size + 1) [] ⟨fun _ _ hm => (nomatch hm), List.Pairwise.nil⟩ (by rw [Heap.size_push]; exact Nat.le_refl _)
  rw [Heap.size_push] at ok
  rw [show ({ s with heap := s.heap.push { cls := .type "dict", data := .dict #[] } } : Shared).heap.objs.size = s.heap.objs.size + 1 from Heap.size_push .., cellsFrom_acc]
  have old : ∀ b o, s.heap.get? b = some o → (pushCells (s.heap.push { cls := .type "dict", data := .dict #[] }) scope.names).get? b = some o := fun b o e => pushCells_keeps _ _ b o (Heap.get?_push_of_some _ e)
  have S : St C s.heap.objs.size (fun _ => none) (ownX (cellsFrom (s.heap.objs.size + 1) scope.names []) (fun _ => none) ++ (L, isNs m) :: X) Fs { s with heap := pushCells (s.heap.push { cls := .type "dict", data := .dict #[] }) scope.names, toks := s.toks } := by
    refine H.compIn (tk := s.toks) old (Nat.le_refl _) ((Heap.Ns.new s.heap (.type "dict")).keeps (pushCells_keeps _ _)) (fun p hp => ?_) ?_
    · obtain ⟨q, hq, rfl⟩ := List.mem_map.mp hp
      obtain ⟨h1, h2⟩ := ok.empty q.1 q.2 hq
      exact ⟨h1, Nat.le_of_succ_le h2, Nat.ne_of_gt h2⟩
    · exact List.pairwise_map.mpr ok.apart
  have hQ := h _ _ _ rfl S
  refine wpAny_bind ?_
  rw [List.forIn_nil]
  exact wpAny_pure (wpAny_pure hQ)

/-- the walk of a comprehension -/
theorem r_compLoop {e target iter : Expr} {ifs : List Expr} {d : Nat} {it acc : Value} {emit : Sem Unit} {ds : List D} {R : Nat → List (Addr × OP)} {Re : List (Addr × OP)} {Gs : List Fact} {RR : Result → Shared → Prop} (S : Src prog w target it ds R Re Gs) (hh : A.handled = none)
    (J : Nat → (Str → Option Value) → List (Addr × OP) → List Fact → Prop) (H : St C L m (R 0 ++ X) Fs s) (hG : ∀ g ∈ Gs, Tells Fs g) (h0 : J 0 m X Fs)
    (ht : compTurn e d it acc env = (standAt iter.pos >>= fun _ => pyNext it >>= fun r => match r with
      | none => pure (.done .next)
      | some v => letOwnedTupleGo target it v >>= fun _ => assign target env v >>= fun _ =>
        (forIn ifs true fun c r => if r = true then do let ok ← isTrue c env (eval c env); pure (ForInStep.yield ok) else pure (ForInStep.yield r)) >>= fun ok =>
        if ok = true then emit >>= fun _ => again (.compLoop e d it acc env) else again (.compLoop e d it acc env)))
    (step : ∀ E' i d x m X Fs s, ds[i]? = some d → J i m X Fs → (∀ g ∈ Gs, Tells Fs g) → St C L m (R (i + 1) ++ X) (.V x d :: Fs) s →
      wpAny (model prog w) A (assign target env x) (fun _ s₂ => wpAny (model prog w) A (forIn ifs true fun c r => if r = true then do let ok ← isTrue c env (eval c env); pure (ForInStep.yield ok) else pure (ForInStep.yield r)) (fun ok s₃ =>
        if ok = true then wpAny (model prog w) A emit (fun _ s₄ => ∃ m' X' Fs', J (i + 1) m' X' Fs' ∧ (∀ g ∈ Gs, Tells Fs' g) ∧ St C L m' (R (i + 1) ++ X') Fs' s₄) E' s₃
        else ∃ m' X' Fs', J (i + 1) m' X' Fs' ∧ (∀ g ∈ Gs, Tells Fs' g) ∧ St C L m' (R (i + 1) ++ X') Fs' s₃) E' s₂) E' s)
    (fin : ∀ m X Fs s, J ds.length m X Fs → St C L m (Re ++ X) Fs s → RR (.ok .next) s)
    (hq : (Code.compLoop e d it acc env).quiet = true) (hA : A.under (.compLoop e d it acc env) = A)
    (hd : (model prog w).den (.compLoop e d it acc env) = (compTurn e d it acc env).onRaise (fun x => do noteFrame x env; theTreesLotGoes x)) :
    codeAny (model prog w) A (.compLoop e d it acc env) RR s := by
  refine codeAny_loop hq (fun n s => ∃ i m X Fs, n = ds.length + 1 - i ∧ i ≤ ds.length ∧ J i m X Fs ∧ (∀ g ∈ Gs, Tells Fs g) ∧ St C L m (R i ++ X) Fs s) ?_ (ds.length + 1) ⟨0, m, X, Fs, rfl, Nat.zero_le _, h0, hG, H⟩
  rintro n s ⟨i, m, X, Fs, rfl, hi, hJ, hG, H⟩
  rw [hA, hd, ht]
  refine wpAny_noted (wpAny_bind (wpAny_standAt (wpAny_bind ?_)))
  rcases Nat.lt_or_ge i ds.length with hlt | hge
  · have hd : ds[i]? = some ds[i] := List.getElem?_eq_getElem hlt
    refine wpAny_mono (S.item i _ hd A _ C L m X Fs s (fun x s₂ => wpAny (model prog w) A (assign target env x) (fun _ s₂ => wpAny (model prog w) A (forIn ifs true fun c r => if r = true then do let ok ← isTrue c env (eval c env); pure (ForInStep.yield ok) else pure (ForInStep.yield r)) (fun ok s₃ =>
        if ok = true then wpAny (model prog w) A emit (fun _ s₄ => ∃ m' X' Fs', J (i + 1) m' X' Fs' ∧ (∀ g ∈ Gs, Tells Fs' g) ∧ St C L m' (R (i + 1) ++ X') Fs' s₄) (notedBy (model prog w) A env fun e s' => RR (.error e) s') s₃
        else ∃ m' X' Fs', J (i + 1) m' X' Fs' ∧ (∀ g ∈ Gs, Tells Fs' g) ∧ St C L m' (R (i + 1) ++ X') Fs' s₃) (notedBy (model prog w) A env fun e s' => RR (.error e) s') s₂) (notedBy (model prog w) A env fun e s' => RR (.error e) s') s₂) hh hG H ?_) (fun r s₁ h₁ => ?_) fun _ _ x => x
    · intro x s' S'
      exact step _ i _ x m X Fs s' hd hJ hG S'
    · cases r with
      | none => exact h₁.elim
      | some x =>
        have key : ∀ s', (∃ m' X' Fs', J (i + 1) m' X' Fs' ∧ (∀ g ∈ Gs, Tells Fs' g) ∧ St C L m' (R (i + 1) ++ X') Fs' s') → ∃ m, m < ds.length + 1 - i ∧ ∃ i m' X Fs, m = ds.length + 1 - i ∧ i ≤ ds.length ∧ J i m' X Fs ∧ (∀ g ∈ Gs, Tells Fs g) ∧ St C L m' (R i ++ X) Fs s' :=
          fun s' ⟨m', X', Fs', a, b, c⟩ => ⟨ds.length + 1 - (i + 1), by (first | lia | omega), i + 1, m', X', Fs', rfl, hlt, a, b, c⟩
        refine wpAny_bind (wpAny_mono h₁ (fun _ s₂ h₂ => wpAny_bind (wpAny_mono h₂ (fun _ s₃ h₃ => wpAny_bind (wpAny_mono h₃ (fun ok s₄ h₄ => ?_) fun _ _ x => x)) fun _ _ x => x)) fun _ _ x => x)
        cases ok with
        | false => exact wpAny_pure ⟨rfl, key _ h₄⟩
        | true => exact wpAny_bind (wpAny_mono h₄ (fun _ s₅ h₅ => wpAny_pure ⟨rfl, key _ h₅⟩) fun _ _ x => x)
  · have hn : i = ds.length := Nat.le_antisymm hi hge
    subst hn
    refine wpAny_mono (S.done A _ C L m X Fs s (fun s' => RR (.ok .next) s') hh hG H fun s' S' => fin m X Fs s' hJ S') (fun r s₁ h₁ => ?_) fun _ _ x => x
    cases r with
    | none => exact wpAny_pure h₁
    | some x => exact h₁.elim
end
end Mine
end
section
open PySem PySem.W PyProof.Rows
set_option maxRecDepth 100000
set_option linter.unusedVariables false
namespace Mine

theorem perm_count {α : Type} {l l' : List α} (h : ∀ (_ : DecidableEq α) a, l.count a = l'.count a) : l.Perm l' := by
  classical
  exact List.perm_iff_count.mpr fun a => h _ a
theorem perm_hide {α : Type} (R : List α) (a : α) (c : List α) (l : α) (X : List α) : (R ++ (a :: (c ++ l :: X))).Perm (c ++ l :: (X ++ (R ++ [a]))) :=
  perm_count fun _ x => by simp only [List.count_append, List.count_cons, List.count_nil]; (first | lia | omega)
theorem perm_in {α : Type} (R : List α) (a : α) (c : List α) (l : α) (X : List α) : (c ++ l :: (a :: (R ++ X))).Perm (R ++ (a :: (c ++ l :: X))) :=
  perm_count fun _ x => by simp only [List.count_append, List.count_cons]; (first | lia | omega)
theorem perm_out {α : Type} (R : List α) (a : α) (c : List α) (l : α) (X : List α) : (R ++ (a :: (c ++ l :: X))).Perm (a :: c ++ l :: (R ++ X)) :=
  perm_count fun _ x => by simp only [List.count_append, List.count_cons]; (first | lia | omega)
theorem take_filterMap {α β : Type} {l : List α} {i : Nat} {a : α} (f : α → Option β) (h : l[i]? = some a) : (l.take (i + 1)).filterMap f = (l.take i).filterMap f ++ (f a).toList := by
  rw [List.take_add_one, h, List.filterMap_append]
  cases e : f a <;> simp [e]

section
variable {prog : Program} {w : World} {A : Around} {E : Value → Shared → Prop} {C : Cx} {L : Addr} {m : Str → Option Value} {X : List (Addr × OP)} {Fs : List Fact} {s : Shared} {env : Env} {mg : Str → Option Value}

/-! an iterator gives itself -/
def Again (prog : Program) (w : World) (it : Value) (s : Shared) : Prop := ∀ (A : Around) (E : Value → Shared → Prop) (Q : Value → Shared → Prop), Q it s → wpAny (model prog w) A (pyIter it) Q E s
theorem again_list {l it : Addr} {i : Nat} (H : St C L m ((it, isLIter l i) :: X) Fs s) : Again prog w (.ref it) s := fun A E Q h => by
  obtain ⟨o, ho, h1, h2⟩ := H.get (.head _)
  exact wpAny_pyIter_listiter ⟨o, ho, h1, h2⟩ h
theorem again_tup {l it : Addr} {i : Nat} (H : St C L m ((it, isTIter l i) :: X) Fs s) : Again prog w (.ref it) s := fun A E Q h => by
  obtain ⟨o, ho, h1, h2⟩ := H.get (.head _)
  exact wpAny_pyIter_tupleiter ⟨o, ho, h1, h2⟩ h
theorem again_range {it : Addr} {x left : Int} (H : St C L m ((it, isRIter x left) :: X) Fs s) : Again prog w (.ref it) s := fun A E Q h => by
  obtain ⟨o, ho, rfl⟩ := H.get (.head _)
  exact wpAny_pyIter_rangeiter ho h
theorem again_items {d it : Addr} {i n ep : Nat} (H : St C L m ((it, isItems d i n ep) :: X) Fs s) : Again prog w (.ref it) s := fun A E Q h => by
  obtain ⟨o, ho, ok, ov, rfl⟩ := H.get (.head _)
  have hT : s.TypeIs (.ref it) "dict_itemiterator" := ⟨_, ho, rfl⟩
  refine wpAny_pyIter_slot hT F.slot_dict_itemiterator_iter (wpAny_call_entry F.slot_dict_itemiterator_iter hT kcp_entry ?_ (F.args_dict_itemiterator_iter_1 _))
  show wpAny _ _ (ret (.ref it)) _ _ s
  exact wpAny_pure ⟨_, rfl, "dict_itemiterator", _, hT, F.slot_dict_itemiterator_next.lookup, h⟩

noncomputable abbrev tests (ifs : List Expr) (env : Env) : Sem Bool := forIn ifs true fun c r => if r = true then do let ok ← isTrue c env (eval c env); pure (ForInStep.yield ok) else pure (ForInStep.yield r)
theorem t_nil {Q : Bool → Shared → Prop} (h : Q true s) : wpAny (model prog w) A (tests [] env) Q E s := wpAny_pure h
theorem t_one {c : Expr} {Q : Bool → Shared → Prop} (h : wpAny (model prog w) A (isTrue c env (eval c env)) Q E s) : wpAny (model prog w) A (tests [c] env) Q E s := wpAny_tests_one h

/-- what follows the iterator of a comprehension -/
def CompGo (prog : Program) (w : World) (A : Around) (env : Env) (e : Expr) (scope : Scope) (cl : List (Str × Addr)) (newAcc : Sem Value) (use : Option (Value → Sem Unit)) (it : Value) (Q : Value → Shared → Prop) (E : Value → Shared → Prop) (s : Shared) : Prop :=
  wpAny (model prog w) A newAcc (fun acc s₃ => wpAny (model prog w) A (newFunctionEnv scope env.globals cl [] env.qual none .none (some env)) (fun cenv s₄ =>
    codeAny (model prog w) A (.compStart e 0 it acc { cenv with scope := relabel scope env }) (compPost (model prog w) A E use Q acc cenv.locals) s₄) E s₃) E s
theorem r_listComp {elt target iter : Expr} {ifs : List Expr} {scope : Scope} {pos : Pos} {cl : List (Str × Addr)} {Q : Value → Shared → Prop}
    (h : wpAny (model prog w) A (eval iter env) (fun x s₁ => wpAny (model prog w) A (pyIter x) (fun it s₂ => CompGo prog w A env (.ListComp elt [⟨target, iter, ifs, 0⟩] scope pos) scope cl (newList []) none it Q E s₂) E s₁) E s)
    (hs : ∀ x, foldedSetIterable iter env x = pure x := by intro _; rfl) (hclos : closureFor scope env = pure cl := by rfl) (hkind : scope.kind = .function := by rfl)
    (hnames : ∀ x ∈ scope.names, x.2 = .local → scope.names.lookup x.1 = some .local := by decide) : wpAny (model prog w) A (eval (.ListComp elt [⟨target, iter, ifs, 0⟩] scope pos) env) Q E s := by
  rw [eval_ListComp]
  exact wpAny_comprehension_free rfl hs hclos hkind hnames h
theorem r_listGo {α : Type} {elt target iter : Expr} {ifs : List Expr} {scope : Scope} {pos : Pos} {cl : List (Str × Addr)} {it : Value} {l : List α} {emb : α → D} {R : Nat → List (Addr × OP)} {Re : List (Addr × OP)} {Gs : List Fact} {use : Option (Value → Sem Unit)} {Q : Value → Shared → Prop}
    (S : Src prog w target it (l.map emb) R Re Gs) (hh : A.handled = none) (H : St C L m (R 0 ++ X) Fs s) (hG : ∀ g ∈ Gs, Tells Fs g) (hag : ∀ C L m X Fs s, St C L m (R 0 ++ X) Fs s → Again prog w it s) (hsz : l.length ≤ sizeLine) (g : α → Option D)
    (step : ∀ (E' : Value → Shared → Prop) (Hid : List (Addr × OP)) (L' : Addr) (own : List (Str × Addr)) (cv : Addr → Option Value) (i : Nat) (a : α) (x : Value) (m' : Str → Option Value) (Fs' : List Fact) (s' : Shared), own = cellsFrom (L' + 1) scope.names [] → l[i]? = some a → (∀ f ∈ Fs, Tells Fs' f) → St C L' m' (ownX own cv ++ (L, isNs m) :: (X ++ Hid)) (.V x (emb a) :: Fs') s' →
      wpAny (model prog w) A (assign target (cenvOf scope own cl L' env) x) (fun _ s₂ => wpAny (model prog w) A (tests ifs (cenvOf scope own cl L' env)) (fun ok s₃ => match g a with
        | some d' => ok = true ∧ wpAny (model prog w) A (eval elt (cenvOf scope own cl L' env)) (fun y s₄ => ∃ cv' m'' Fs'', (∀ f ∈ Fs', Tells Fs'' f) ∧ Kn Fs'' y d' ∧ St C L' m'' (ownX own cv' ++ (L, isNs m) :: (X ++ Hid)) Fs'' s₄) E' s₃
        | none => ok = false ∧ ∃ cv' m'' Fs'', (∀ f ∈ Fs', Tells Fs'' f) ∧ St C L' m'' (ownX own cv' ++ (L, isNs m) :: (X ++ Hid)) Fs'' s₃) E' s₂) E' s')
    (fin : ∀ (acc L' : Addr) (m' : Str → Option Value) (s' : Shared), St C L' m' ((L, isNs m) :: (Re ++ X)) (.V (.ref acc) (.lst (l.filterMap g)) :: Fs) s' → compPost (model prog w) A E use Q (.ref acc) L' (.ok .next) s') :
    CompGo prog w A env (.ListComp elt [⟨target, iter, ifs, 0⟩] scope pos) scope cl (newList []) use it Q E s := by
  refine wpAny_newObj_type (hd := by size_fits) ?_
  have H1 := H.push (p := isList []) (o := { cls := .type "list", data := .seq ([] : List Value).toArray }) ⟨0, rfl⟩
  generalize s.heap.objs.size = acc at H1 ⊢
  refine r_compEnv H1 fun L' own s' ho H2 => ?_
  show codeAny _ A (.compStart _ 0 it (.ref acc) (cenvOf scope own cl L' env)) _ _
  have H3 : St C L' (fun _ => none) (R 0 ++ ((acc, isList []) :: (ownX own (fun _ => none) ++ (L, isNs m) :: X))) Fs s' := H2.perm (perm_in ..)
  have loop : codeAny (model prog w) A (.compLoop (.ListComp elt [⟨target, iter, ifs, 0⟩] scope pos) 0 it (.ref acc) (cenvOf scope own cl L' env)) (compPost (model prog w) A E use Q (.ref acc) L') s' := by
    refine r_compLoop (e := .ListComp elt [⟨target, iter, ifs, 0⟩] scope pos) (iter := iter) (ifs := ifs) (emit := (do let _ ← call (.builtin "list.append") [.ref acc, ← eval elt (cenvOf scope own cl L' env)])) (RR := compPost (model prog w) A E use Q (.ref acc) L') S hh
      (fun i m' Y Fs' => ∃ cv ys, Y = (acc, isList ys) :: (ownX own cv ++ (L, isNs m) :: X) ∧ KnL Fs' ys ((l.take i).filterMap g) ∧ ∀ f ∈ Fs, Tells Fs' f) H3 hG ⟨_, [], rfl, .nil, fun f hf => .mem hf⟩ rfl ?_ ?_ rfl rfl rfl
    · rintro E' i d x m' Y Fs' s hd ⟨cv, ys, rfl, hys, hFs⟩ hG' S'
      obtain ⟨a, ha, rfl⟩ : ∃ a, l[i]? = some a ∧ d = emb a := by
        rw [List.getElem?_map] at hd
        cases e : l[i]? with
        | none => rw [e] at hd; cases hd
        | some a => rw [e] at hd; exact ⟨a, rfl, (Option.some.inj hd).symm⟩
      have hil : i < l.length := (List.getElem?_eq_some_iff.mp ha).1
      refine wpAny_mono (step E' _ L' own cv i a x m' Fs' s ho ha hFs (S'.perm (perm_hide ..))) (fun _ s₂ h₂ => wpAny_mono h₂ (fun ok s₃ h₃ => ?_) fun _ _ e => e) fun _ _ e => e
      cases hg : g a with
      | none =>
        rw [hg] at h₃
        obtain ⟨rfl, cv', m'', Fs'', hm, S3⟩ := h₃
        rw [if_neg Bool.false_ne_true]
        refine ⟨m'', _, Fs'', ⟨cv', ys, rfl, ?_, fun f hf => (hFs f hf).sub hm⟩, fun g' hg' => (hG' g' hg').sub (fun f hf => ?_), S3.perm (perm_hide ..).symm⟩
        · rw [take_filterMap g ha, hg, Option.toList_none, List.append_nil]; exact hys.sub hm
        · exact hm f hf
      | some d' =>
        rw [hg] at h₃
        obtain ⟨rfl, h₃⟩ := h₃
        rw [if_pos rfl]
        refine wpAny_bind (wpAny_mono h₃ (fun y s₄ h₄ => ?_) fun _ _ e => e)
        obtain ⟨cv', m'', Fs'', hm, hy, S4⟩ := h₄
        have S5 : St C L' m'' ((acc, isList ys) :: (R (i + 1) ++ (ownX own cv' ++ (L, isNs m) :: X))) Fs'' s₄ := S4.perm ((perm_hide ..).symm.trans List.perm_middle)
        obtain ⟨n, hl⟩ := LAt.isL (s := s₄) (S5.get (.head _))
        have hyl : ys.length ≤ l.length := by
          rw [hys.length S'.tail, List.length_filterMap_eq_countP]
          refine Nat.le_trans List.countP_le_length ?_
          rw [List.length_take]; (first | lia | omega)
        refine wpAny_bind (call_meets F.slot_list_append hl.isList.typeIs F.entry_list_append (F.args_list_append_2 _ _) (list_append acc ys.toArray n y (by simp; (first | lia | omega))) ⟨hl, ?_⟩)
        refine wpAny_pure ⟨m'', (acc, isList (ys ++ [y])) :: (ownX own cv' ++ (L, isNs m) :: X), Fs'', ⟨cv', ys ++ [y], rfl, ?_, fun f hf => (hFs f hf).sub hm⟩, fun g' hg' => (hG' g' hg').sub (fun f hf => hm f hf), ?_⟩
        · rw [take_filterMap g ha, hg]
          exact KnL.append (hys.sub hm) (.cons hy .nil)
        · exact (S5.updList (f := fun x => x.push y) (ws := ys ++ [y]) (tk := s₄.toks) hl (by simp)).perm List.perm_middle.symm
    · rintro m' Y Fs' s ⟨cv, ys, rfl, hys, hFs⟩ S'
      rw [List.length_map, List.take_length] at hys
      have S1 := (S'.perm List.perm_middle).freezeL hys
      have S2 : St C L' m' (ownX own cv ++ ((L, isNs m) :: (Re ++ X))) (.V (.ref acc) (.lst (l.filterMap g)) :: Fs') s :=
        S1.perm (perm_count fun _ x => by simp only [List.count_append, List.count_cons]; (first | lia | omega))
      refine fin acc L' m' s ((S2.sub (List.sublist_append_right ..)).facts fun f hf => ?_)
      rcases List.mem_cons.mp hf with rfl | hf
      · exact .mem (.head _)
      · exact (hFs f hf).up
  exact codeAny_compStart_list loop (hag _ _ _ _ _ _ H3 _ _ _ loop)

/-- a list comprehension whose value is at hand -/
theorem r_listEndC {acc L' : Addr} {m' : Str → Option Value} {l : List D} {Q : Value → Shared → Prop} (S : St C L' m' ((L, isNs m) :: X) (.V (.ref acc) (.lst l) :: Fs) s) (h : ∀ s', St C L m X (.V (.ref acc) (.lst l) :: Fs) s' → Q (.ref acc) s') :
    compPost (model prog w) A E none Q (.ref acc) L' (.ok .next) s :=
  ⟨m', S.ns, fun h' hs => h _ (S.compGone (tk := s.toks) hs)⟩
end
end Mine
end
section
open PySem PySem.W PyProof.Rows
set_option maxRecDepth 100000
set_option linter.unusedVariables false
namespace Mine
noncomputable def putAll {α : Type} (l : List (Int × α)) : List (Int × α) := l.foldl (fun acc p => put acc p.1 p.2) []
theorem putAll_snoc {α : Type} (l : List (Int × α)) (p : Int × α) : putAll (l ++ [p]) = put (putAll l) p.1 p.2 := by simp [putAll, List.foldl_append]
theorem putAll_len {α : Type} (l : List (Int × α)) : (putAll l).length ≤ l.length := by
  suffices h : ∀ acc : List (Int × α), (l.foldl (fun acc p => put acc p.1 p.2) acc).length ≤ acc.length + l.length by simpa [putAll] using h []
  induction l with
  | nil => intro acc; simp
  | cons p r ih =>
    intro acc
    rw [List.foldl_cons, List.length_cons]
    have := ih (put acc p.1 p.2)
    have h2 := put_length acc p.1 p.2
    (first | lia | omega)
section
variable {prog : Program} {w : World} {A : Around} {E : Value → Shared → Prop} {C : Cx} {L : Addr} {m : Str → Option Value} {X : List (Addr × OP)} {Fs : List Fact} {s : Shared} {env : Env} {mg : Str → Option Value}

theorem r_dictComp {kx vx target iter : Expr} {ifs : List Expr} {scope : Scope} {pos : Pos} {cl : List (Str × Addr)} {Q : Value → Shared → Prop}
    (h : wpAny (model prog w) A (eval iter env) (fun x s₁ => wpAny (model prog w) A (pyIter x) (fun it s₂ => CompGo prog w A env (.DictComp kx vx [⟨target, iter, ifs, 0⟩] scope pos) scope cl newDict none it Q E s₂) E s₁) E s)
    (hs : ∀ x, foldedSetIterable iter env x = pure x := by intro _; rfl) (hclos : closureFor scope env = pure cl := by rfl) (hkind : scope.kind = .function := by rfl)
    (hnames : ∀ x ∈ scope.names, x.2 = .local → scope.names.lookup x.1 = some .local := by decide) : wpAny (model prog w) A (eval (.DictComp kx vx [⟨target, iter, ifs, 0⟩] scope pos) env) Q E s := by
  show wpAny _ _ (comprehension (.DictComp kx vx [⟨target, iter, ifs, 0⟩] scope pos) scope env _ newDict _ (eval iter env)) _ _ _
  exact wpAny_comprehension_free rfl hs hclos hkind hnames h
theorem r_dictGo {α : Type} {kx vx target iter : Expr} {ifs : List Expr} {scope : Scope} {pos : Pos} {cl : List (Str × Addr)} {it : Value} {l : List α} {emb : α → D} {R : Nat → List (Addr × OP)} {Re : List (Addr × OP)} {Gs : List Fact} {use : Option (Value → Sem Unit)} {Q : Value → Shared → Prop}
    (S : Src prog w target it (l.map emb) R Re Gs) (hh : A.handled = none) (H : St C L m (R 0 ++ X) Fs s) (hG : ∀ g ∈ Gs, Tells Fs g) (hag : ∀ C L m X Fs s, St C L m (R 0 ++ X) Fs s → Again prog w it s) (hsz : l.length ≤ sizeLine) (g : α → Option (Int × D))
    (step : ∀ (E' : Value → Shared → Prop) (Hid : List (Addr × OP)) (L' : Addr) (own : List (Str × Addr)) (cv : Addr → Option Value) (i : Nat) (a : α) (x : Value) (m' : Str → Option Value) (Fs' : List Fact) (s' : Shared), own = cellsFrom (L' + 1) scope.names [] → l[i]? = some a → (∀ f ∈ Fs, Tells Fs' f) → St C L' m' (ownX own cv ++ (L, isNs m) :: (X ++ Hid)) (.V x (emb a) :: Fs') s' →
      wpAny (model prog w) A (assign target (cenvOf scope own cl L' env) x) (fun _ s₂ => wpAny (model prog w) A (tests ifs (cenvOf scope own cl L' env)) (fun ok s₃ => match g a with
        | some d' => ok = true ∧ wpAny (model prog w) A (eval kx (cenvOf scope own cl L' env)) (fun kv s₄ => (∃ t, kv = .int d'.1 t) ∧ wpAny (model prog w) A (eval vx (cenvOf scope own cl L' env)) (fun y s₄ => ∃ cv' m'' Fs'', (∀ f ∈ Fs', Tells Fs'' f) ∧ Kn Fs'' y d'.2 ∧ St C L' m'' (ownX own cv' ++ (L, isNs m) :: (X ++ Hid)) Fs'' s₄) E' s₄) E' s₃
        | none => ok = false ∧ ∃ cv' m'' Fs'', (∀ f ∈ Fs', Tells Fs'' f) ∧ St C L' m'' (ownX own cv' ++ (L, isNs m) :: (X ++ Hid)) Fs'' s₃) E' s₂) E' s')
    (fin : ∀ (acc L' : Addr) (m' : Str → Option Value) (s' : Shared), St C L' m' ((L, isNs m) :: (Re ++ X)) (.V (.ref acc) (.dct (putAll (l.filterMap g))) :: Fs) s' → compPost (model prog w) A E use Q (.ref acc) L' (.ok .next) s') :
    CompGo prog w A env (.DictComp kx vx [⟨target, iter, ifs, 0⟩] scope pos) scope cl newDict use it Q E s := by
  refine wpAny_newObj_type ?_
  have H1 := H.push (p := isDict []) (o := { cls := .type "dict", data := .dict #[] }) ⟨0, #[], ⟨rfl, rfl, rfl⟩, rfl, .nil, .nil⟩
  generalize s.heap.objs.size = acc at H1 ⊢
  refine r_compEnv H1 fun L' own s' ho H2 => ?_
  show codeAny _ A (.compStart _ 0 it (.ref acc) (cenvOf scope own cl L' env)) _ _
  have H3 : St C L' (fun _ => none) (R 0 ++ ((acc, isDict []) :: (ownX own (fun _ => none) ++ (L, isNs m) :: X))) Fs s' := H2.perm (perm_in ..)
  have loop : codeAny (model prog w) A (.compLoop (.DictComp kx vx [⟨target, iter, ifs, 0⟩] scope pos) 0 it (.ref acc) (cenvOf scope own cl L' env)) (compPost (model prog w) A E use Q (.ref acc) L') s' := by
    refine r_compLoop (e := .DictComp kx vx [⟨target, iter, ifs, 0⟩] scope pos) (iter := iter) (ifs := ifs) (emit := (do
            let kv ← eval kx (cenvOf scope own cl L' env)
            let vv ← holding [kv] (eval vx (cenvOf scope own cl L' env))
            standAt { kx.pos with endLine := vx.pos.endLine, endCol := vx.pos.endCol }
            holding [kv, vv] (dictSet acc kv vv))) (RR := compPost (model prog w) A E use Q (.ref acc) L') S hh
      (fun i m' Y Fs' => ∃ cv kvs, Y = (acc, isDict kvs) :: (ownX own cv ++ (L, isNs m) :: X) ∧ KnK Fs' kvs (putAll ((l.take i).filterMap g)) ∧ ∀ f ∈ Fs, Tells Fs' f) H3 hG ⟨_, [], rfl, .nil, fun f hf => .mem hf⟩ rfl ?_ ?_ rfl rfl rfl
    · rintro E' i d x m' Y Fs' s hd ⟨cv, ys, rfl, hys, hFs⟩ hG' S'
      obtain ⟨a, ha, rfl⟩ : ∃ a, l[i]? = some a ∧ d = emb a := by
        rw [List.getElem?_map] at hd
        cases e : l[i]? with
        | none => rw [e] at hd; cases hd
        | some a => rw [e] at hd; exact ⟨a, rfl, (Option.some.inj hd).symm⟩
      have hil : i < l.length := (List.getElem?_eq_some_iff.mp ha).1
      refine wpAny_mono (step E' _ L' own cv i a x m' Fs' s ho ha hFs (S'.perm (perm_hide ..))) (fun _ s₂ h₂ => wpAny_mono h₂ (fun ok s₃ h₃ => ?_) fun _ _ e => e) fun _ _ e => e
      cases hg : g a with
      | none =>
        rw [hg] at h₃
        obtain ⟨rfl, cv', m'', Fs'', hm, S3⟩ := h₃
        rw [if_neg Bool.false_ne_true]
        refine ⟨m'', _, Fs'', ⟨cv', ys, rfl, ?_, fun f hf => (hFs f hf).sub hm⟩, fun g' hg' => (hG' g' hg').sub (fun f hf => ?_), S3.perm (perm_hide ..).symm⟩
        · rw [take_filterMap g ha, hg, Option.toList_none, List.append_nil]; exact hys.sub hm
        · exact hm f hf
      | some d' =>
        rw [hg] at h₃
        obtain ⟨rfl, h₃⟩ := h₃
        rw [if_pos rfl]
        refine wpAny_bind (wpAny_mono h₃ (fun kv s₄ h₄ => ?_) fun _ _ e => e)
        obtain ⟨⟨t, rfl⟩, h₄⟩ := h₄
        refine wpAny_bind (wpAny_holding (wpAny_mono h₄ (fun y s₅ h₅ => ?_) fun _ _ e => e))
        obtain ⟨cv', m'', Fs'', hm, hy, S4⟩ := h₅
        have S5 : St C L' m'' ((acc, isDict ys) :: (R (i + 1) ++ (ownX own cv' ++ (L, isNs m) :: X))) Fs'' s₅ := S4.perm ((perm_hide ..).symm.trans List.perm_middle)
        have hyl : ys.length ≤ l.length := by
          have h1 := congrArg List.length (hys.keys S'.tail)
          rw [List.length_map, List.length_map] at h1
          have h2 := putAll_len ((l.take i).filterMap g)
          have h3 : ((l.take i).filterMap g).length ≤ (l.take i).length := List.length_filterMap_le _ _
          rw [List.length_take] at h3; (first | lia | omega)
        obtain ⟨o, ho', hp⟩ := S5.get (.head _)
        refine wpAny_bind (wpAny_standAt (wpAny_holding (wpAny_dictSet_pairs (knd := intKind prog w) (intKind_is prog w d'.1 t) (dictOf_of ho' hp) (fun h' hm' hs => ?_) (by (first | lia | omega)))))
        refine ⟨m'', (acc, isDict (put ys d'.1 y)) :: (ownX own cv' ++ (L, isNs m) :: X), Fs'', ⟨cv', put ys d'.1 y, rfl, ?_, fun f hf => (hFs f hf).sub hm⟩, fun g' hg' => (hG' g' hg').sub (fun f hf => hm f hf), ?_⟩
        · rw [take_filterMap g ha, hg]
          show KnK Fs'' _ (putAll (_ ++ [d']))
          rw [putAll_snoc]
          exact KnK.put (hys.sub hm) hy
        · exact (S5.upd rfl (tk := s₅.toks + 1) hs (isDict_of hm')).perm List.perm_middle.symm
    · rintro m' Y Fs' s ⟨cv, ys, rfl, hys, hFs⟩ S'
      rw [List.length_map, List.take_length] at hys
      have S1 := (S'.perm List.perm_middle).freezeD hys
      have S2 : St C L' m' (ownX own cv ++ ((L, isNs m) :: (Re ++ X))) (.V (.ref acc) (.dct (putAll (l.filterMap g))) :: Fs') s :=
        S1.perm (perm_count fun _ x => by simp only [List.count_append, List.count_cons]; (first | lia | omega))
      refine fin acc L' m' s ((S2.sub (List.sublist_append_right ..)).facts fun f hf => ?_)
      rcases List.mem_cons.mp hf with rfl | hf
      · exact .mem (.head _)
      · exact (hFs f hf).up
  exact codeAny_compStart_dict loop (hag _ _ _ _ _ _ H3 _ _ _ loop)
theorem r_dictEndC {acc L' : Addr} {m' : Str → Option Value} {l : List (Int × D)} {Q : Value → Shared → Prop} (S : St C L' m' ((L, isNs m) :: X) (.V (.ref acc) (.dct l) :: Fs) s) (h : ∀ s', St C L m X (.V (.ref acc) (.dct l) :: Fs) s' → Q (.ref acc) s') :
    compPost (model prog w) A E none Q (.ref acc) L' (.ok .next) s :=
  ⟨m', S.ns, fun h' hs => h _ (S.compGone (tk := s.toks) hs)⟩

/-- a list comprehension that is stored by a name at once -/
theorem x_assignComp {y : Str} {py : Pos} {elt target iter : Expr} {ifs : List Expr} {scope : Scope} {pos spos : Pos} {cl : List (Str × Addr)} {rest : List Stmt} {Q : Flow → Shared → Prop}
    (h : wpAny (model prog w) A (eval iter env) (fun x s₁ => wpAny (model prog w) A (pyIter x) (fun it s₂ => CompGo prog w A env (.ListComp elt [⟨target, iter, ifs, 0⟩] scope pos) scope cl (newList []) (some (assign (.Name y py) env)) it (fun _ s' => wpAny (model prog w) A (execs rest env) Q E s') E s₂) E s₁) E s)
    (hsw : swapsWith (.ListComp elt [⟨target, iter, ifs, 0⟩] scope pos) (some (.Name y py)) spos.line env = pure true := by rfl) (hs : ∀ x, foldedSetIterable iter env x = pure x := by intro _; rfl) (hclos : closureFor scope env = pure cl := by rfl) (hkind : scope.kind = .function := by rfl)
    (hnames : ∀ x ∈ scope.names, x.2 = .local → scope.names.lookup x.1 = some .local := by decide) :
    wpAny (model prog w) A (execs (.Assign [.Name y py] (.ListComp elt [⟨target, iter, ifs, 0⟩] scope pos) spos :: rest) env) Q E s := by
  refine wpAny_execs_cons ?_
  rw [exec_Assign_Name_used _ _ _ _ hsw]
  refine wpAny_bind (wpAny_standAt (wpAny_bind ?_))
  show wpAny _ A (do let _ ← comprehension (.ListComp elt [⟨target, iter, ifs, 0⟩] scope pos) scope env _ (newList []) false (eval iter env) (some (assign (.Name y py) env))) _ _ s
  exact wpAny_bind (wpAny_mono (wpAny_comprehension_free rfl hs hclos hkind hnames h) (fun _ s' hq => wpAny_pure (wpAny_pure hq)) fun _ _ e => e)
theorem r_usedC {acc L' : Addr} {m' : Str → Option Value} {l : List D} {y : Str} {py : Pos} {Q : Value → Shared → Prop} (S : St C L' m' ((L, isNs m) :: X) (.V (.ref acc) (.lst l) :: Fs) s) (h : ∀ s', St C L (upd m y (.ref acc)) X (.V (.ref acc) (.lst l) :: Fs) s' → Q .none s')
    (hL : env.locals = L := by rfl) (hl : env.kindOf y = some .local := by rfl) (hp : (env.scope.kind == .class || (env.scope.kind == .module && env.locals != env.globals)) = false := by rfl) :
    compPost (model prog w) A E (some (assign (.Name y py) env)) Q (.ref acc) L' (.ok .next) s :=
  wpAny_assign_Name (r_store S.swapFrame (fun s' S' => ⟨m', by
    obtain ⟨o, ho, es, ep, r⟩ := S'.get (.head _)
    exact ⟨o, es, ep, ho, r⟩, fun h' hs => h _ (S'.lose (tk := s'.toks) hs.extBut)⟩) hL hl hp)
end
end Mine
end
section
open PySem PySem.W PyProof.Rows
set_option maxRecDepth 100000
set_option linter.unusedVariables false
namespace Mine
section
variable {prog : Program} {w : World} {A : Around} {E : Value → Shared → Prop} {s : Shared}

/-- a tuple's iterator, drawn from by another -/
theorem drawsTup (hh : A.handled = none) (it l : Addr) (hne : l ≠ it) (items : Array Value) :
    Draws prog w A it [it, l] items.size (fun i v => items[i]? = some v) (fun i h => h.IsTupleIter it l i ∧ h.IsTuple l items) where
  live := fun _ _ st => let ⟨o, ho, _⟩ := st.1; ⟨o, ho⟩
  frame := fun _ _ _ st hk => ⟨st.1.at fun o e => hk it (by simp) o e, st.2.at fun o e => hk l (by simp) o e⟩
  item := fun i s Q E hi st hQ => by
    have hx : items[i]? = some items[i] := Array.getElem?_eq_getElem hi
    obtain ⟨⟨o, ho, hc, hd⟩, ht⟩ := id st
    obtain ⟨ol, hol, _, nl, hdl⟩ := ht
    unfold Builtin.SmallTypes.nextOf
    refine wpAny_bind (wpAny_callSpecial?_slot (name := Str.ofString "__next__") st.1.typeIs F.slot_tuple_iterator_next (wpAny_call_entry F.slot_tuple_iterator_next st.1.typeIs F.entry_tuple_iterator_next ?_ (F.args_tuple_iterator_next_1 _)))
    show wpAny _ _ (field (.ref it) 0 >>= _) _ _ s
    refine wpAny_bind (wpAny_field ho hd (x := .ref l) rfl ?_)
    show wpAny _ _ (if (Value.ref l == Value.none) = true then _ else _) _ _ s
    rw [if_neg (show ¬ ((Value.ref l == Value.none) = true) from Bool.false_ne_true)]
    show wpAny _ _ (field (.ref it) 1 >>= _) _ _ s
    refine wpAny_bind (wpAny_field ho hd (x := .int i 0) rfl ?_)
    show wpAny _ _ (seqItems? (.ref l) >>= _) _ _ s
    refine wpAny_bind (wpAny_seqItems hol hdl ?_)
    simp only [Int.toNat_natCast, hx]
    have hs := Heap.SameBut.update s.heap it (Obj.mapFields fun fs => fs.set! 1 (rawInt (i + 1)))
    refine wpAny_bind (wpAny_setField ho hd (by simp) (wpAny_pure ⟨items[i], rfl, wpAny_pure (hQ _ _ s.toks hx ⟨?_, st.2.extBut (Heap.SameBut.update ..).extBut hne⟩ (Heap.SameBut.update ..))⟩))
    exact ⟨_, Heap.get?_update_self _ ho (Obj.isFreed_of_fields (Obj.data_mapFields hd _)), (Obj.cls_mapFields ..).trans hc, by rw [Obj.data_mapFields hd]; simp [rawInt]⟩
  done := fun s Q E st hE => by
    have hx : items[items.size]? = none := Array.getElem?_eq_none (Nat.le_refl _)
    obtain ⟨⟨o, ho, hc, hd⟩, ht⟩ := id st
    obtain ⟨ol, hol, _, nl, hdl⟩ := ht
    unfold Builtin.SmallTypes.nextOf
    refine wpAny_bind (wpAny_callSpecial?_slot (name := Str.ofString "__next__") st.1.typeIs F.slot_tuple_iterator_next (wpAny_call_entry F.slot_tuple_iterator_next st.1.typeIs F.entry_tuple_iterator_next ?_ (F.args_tuple_iterator_next_1 _)))
    show wpAny _ _ (field (.ref it) 0 >>= _) _ _ s
    refine wpAny_bind (wpAny_field ho hd (x := .ref l) rfl ?_)
    show wpAny _ _ (if (Value.ref l == Value.none) = true then _ else _) _ _ s
    rw [if_neg (show ¬ ((Value.ref l == Value.none) = true) from Bool.false_ne_true)]
    show wpAny _ _ (field (.ref it) 1 >>= _) _ _ s
    refine wpAny_bind (wpAny_field ho hd (x := .int items.size 0) rfl ?_)
    show wpAny _ _ (seqItems? (.ref l) >>= _) _ _ s
    refine wpAny_bind (wpAny_seqItems hol hdl ?_)
    simp only [Int.toNat_natCast, hx]
    refine wpAny_bind (wpAny_rule (wpAny_bind (wpAny_setField ho hd (by simp) ?_)))
    show wpAny _ _ (newExc (.type "StopIteration") [] >>= _) _ _ _
    refine wpAny_bind ?_
    simp only [newExc, newTuple]
    refine wpAny_bind (wpAny_newObj_type ?_ (by size_fits))
    refine wpAny_bind (m := firstArgMember _ _) (wpAny_of_eq (a := Value.none) (by first | rfl | (simp only [firstArgMember]; rfl)) ?_)
    refine wpAny_newObj_type ?_ (by size_fits)
    simp only [raiseNew]
    refine wpAny_bind (wpAny_handled ?_)
    first | rw [show A.in1.handled = none from hh] | rw [hh]
    refine wpAny_bind (wpAny_pure (wpAny_throw ?_))
    exact hE _ _ (((Heap.SameBut.update ..).extBut.push _).push _) ⟨_, Heap.get?_push_size _ rfl, rfl⟩
end
end Mine
end
section
open PySem PySem.W PyProof.Rows
set_option maxRecDepth 100000
set_option linter.unusedVariables false
namespace Mine
structure Zipped (z TI TO i1 i2 : Addr) (fp1 fp2 : List Addr) : Prop where
  TIz : TI ≠ z
  TOz : TO ≠ z
  i1z : i1 ≠ z
  i2z : i2 ≠ z
  TITO : TI ≠ TO
  TIi1 : TI ≠ i1
  TIi2 : TI ≠ i2
  TOi1 : TO ≠ i1
  TOi2 : TO ≠ i2
  i12 : i1 ≠ i2
  z1 : z ∉ fp1
  z2 : z ∉ fp2
  T1 : TO ∉ fp1
  T2 : TO ∉ fp2
  i2f1 : i2 ∉ fp1
  i1f2 : i1 ∉ fp2
  in1 : i1 ∈ fp1
  in2 : i2 ∈ fp2
section
variable {prog : Program} {w : World} {A : Around} {E : Value → Shared → Prop} {s : Shared} {z TI TO i1 i2 : Addr} {fp1 fp2 : List Addr} {n i : Nat} {P1 P2 : Nat → Value → Prop} {S1 S2 : Nat → Heap → Prop}

theorem zipD_item {a b : Value} {Q : Value → Shared → Prop} (Z : Zipped z TI TO i1 i2 fp1 fp2) (D1 : Draws prog w A i1 fp1 n P1 S1) (D2 : Draws prog w A i2 fp2 n P2 S2)
    (hz : IsZip s.heap z TI TO .none) (hTI : IsPair s.heap TI (.ref i1) (.ref i2)) (hTO : IsPair s.heap TO a b) (h1 : S1 i s.heap) (h2 : S2 i s.heap) (hi : i < n)
    (hQ : ∀ x y h' tk, P1 i x → P2 i y → IsZip h' z TI TO (rawInt s.heap.objs.size) → IsPair h' TO x y → S1 (i + 1) h' → S2 (i + 1) h' → IsPair h' s.heap.objs.size x y → h'.objs.size = s.heap.objs.size + 1 →
      (∀ c o, c ≠ z → c ≠ TO → c ≠ i1 → c ≠ i2 → s.heap.get? c = some o → h'.get? c = some o) → Q (.ref s.heap.objs.size) { s with heap := h', toks := tk }) :
    wpAny (model prog w) A (Builtin.«zip.__next__» ⟨[.ref z], []⟩) (fun fin s' => ∃ v, fin = .done (.ret v) ∧ Q v s') E s := by
  show wpAny _ _ (field (.ref z) 2 >>= _) _ _ _
  refine wpAny_bind (wpAny_field hz rfl (x := .bool false) rfl ?_)
  show wpAny _ _ (field (.ref z) 3 >>= _) _ _ _
  refine wpAny_bind (wpAny_field hz rfl (x := .ref TI) rfl (wpAny_bind (wpAny_seqItems hTI rfl ?_)))
  show wpAny _ _ (Builtin.SmallTypes.ownedTupleIsFree (.ref z) >>= _) _ _ _
  refine wpAny_bind ?_
  unfold Builtin.SmallTypes.ownedTupleIsFree
  refine wpAny_bind (wpAny_field hz rfl (x := .none) rfl (wpAny_pure ?_))
  simp only [if_true]
  refine wpAny_bind (wpAny_rule (wpAny_bind (wpAny_field hz rfl (x := .ref TO) rfl (wpAny_bind (wpAny_setField_rec hz (by simp) fun h₁ hz₁ s₁ => ?_)))))
  replace hz₁ : IsZip h₁ z TI TO .ellipsis := hz₁
  refine wpAny_bind ?_
  simp only [List.zipIdx_cons, List.zipIdx_nil, List.forIn_cons, List.forIn_nil]
  refine wpAny_bind (wpAny_bind (wpAny_onRaise ?_))
  show wpAny _ _ (Builtin.SmallTypes.nextOf (.ref i1) >>= _) _ _ _
  have h1₁ : S1 i h₁ := D1.frame _ _ _ h1 fun c hc o e => s₁.extBut _ _ (fun q => Z.z1 (q ▸ hc)) e
  refine wpAny_bind (D1.item i _ _ _ hi h1₁ fun x h₂ tk₂ hx h1₂ s₂ => wpAny_pure ?_)
  have hTO₂ : IsPair h₂ TO a b := s₂.extBut _ _ Z.TOi1 (s₁.extBut _ _ Z.TOz hTO)
  refine wpAny_bind (wpAny_seqItems hTO₂ rfl (wpAny_bind (wpAny_updateSeq_pair hTO₂ fun h₃ hTO₃ s₃ => ?_)))
  replace hTO₃ : IsPair h₃ TO x b := hTO₃
  refine wpAny_bind (wpAny_letGo (wpAny_pure ?_))
  refine wpAny_bind (wpAny_bind (wpAny_onRaise ?_))
  show wpAny _ _ (Builtin.SmallTypes.nextOf (.ref i2) >>= _) _ _ _
  have h2₃ : S2 i h₃ := D2.frame _ _ _ h2 fun c hc o e => s₃.extBut _ _ (fun q => Z.T2 (q ▸ hc)) (s₂.extBut _ _ (fun q => Z.i1f2 (q ▸ hc)) (s₁.extBut _ _ (fun q => Z.z2 (q ▸ hc)) e))
  refine wpAny_bind (D2.item i _ _ _ hi h2₃ fun y h₄ tk₄ hy h2₄ s₄ => wpAny_pure ?_)
  have hTO₄ : IsPair h₄ TO x b := s₄.extBut _ _ Z.TOi2 hTO₃
  refine wpAny_bind (wpAny_seqItems hTO₄ rfl (wpAny_bind (wpAny_updateSeq_pair hTO₄ fun h₅ hTO₅ s₅ => ?_)))
  replace hTO₅ : IsPair h₅ TO x y := hTO₅
  refine wpAny_bind (wpAny_letGo (wpAny_pure (wpAny_pure ?_)))
  refine wpAny_bind (wpAny_seqItems hTO₅ rfl (wpAny_bind (wpAny_newTuple ?_)))
  have hsz : h₅.objs.size = s.heap.objs.size := by rw [s₅.1, s₄.1, s₃.1, s₂.1, s₁.1]
  have hz₅ : IsZip h₅ z TI TO .ellipsis := s₅.extBut _ _ Z.TOz.symm (s₄.extBut _ _ Z.i2z.symm (s₃.extBut _ _ Z.TOz.symm (s₂.extBut _ _ Z.i1z.symm hz₁)))
  have hk₅ : ∀ c o, c ≠ z → c ≠ TO → c ≠ i1 → c ≠ i2 → s.heap.get? c = some o → h₅.get? c = some o := fun c o c1 c2 c3 c4 e => s₅.extBut _ _ c2 (s₄.extBut _ _ c4 (s₃.extBut _ _ c2 (s₂.extBut _ _ c3 (s₁.extBut _ _ c1 e))))
  have h1₅ : S1 (i + 1) h₅ := D1.frame _ _ _ h1₂ fun c hc o e => s₅.extBut _ _ (fun q => Z.T1 (q ▸ hc)) (s₄.extBut _ _ (fun q => Z.i2f1 (q ▸ hc)) (s₃.extBut _ _ (fun q => Z.T1 (q ▸ hc)) e))
  have h2₅ : S2 (i + 1) h₅ := D2.frame _ _ _ h2₄ fun c hc o e => s₅.extBut _ _ (fun q => Z.T2 (q ▸ hc)) e
  have hzlt : z < h₅.objs.size := Heap.lt_size hz₅
  show wpAny _ _ (Builtin.SmallTypes.ownedTupleHandOut (.ref z) (.ref h₅.objs.size) >>= _) _ _ _
  refine wpAny_bind ?_
  unfold Builtin.SmallTypes.ownedTupleHandOut
  have hz₆ : IsZip (h₅.push { cls := .type "tuple", data := .seq #[x, y] }) z TI TO .ellipsis := Heap.get?_push_of_some _ hz₅
  refine wpAny_bind (wpAny_setField_rec hz₆ (by simp) fun h₇ hz₇ s₇ => ?_)
  replace hz₇ : IsZip h₇ z TI TO (rawInt h₅.objs.size) := hz₇
  refine wpAny_setField_rec hz₇ (by simp) fun h₈ hz₈ s₈ => ?_
  replace hz₈ : IsZip h₈ z TI TO (rawInt h₅.objs.size) := hz₈
  have up : ∀ c o, c ≠ z → h₅.get? c = some o → h₈.get? c = some o := fun c o c1 e => s₈.extBut _ _ c1 (s₇.extBut _ _ c1 (Heap.get?_push_of_some _ e))
  have hT₈ : IsPair h₈ h₅.objs.size x y := s₈.extBut _ _ (Nat.ne_of_gt hzlt) (s₇.extBut _ _ (Nat.ne_of_gt hzlt) (Heap.get?_push_size _ rfl))
  have hz8 : h₈.objs.size = h₅.objs.size + 1 := by rw [s₈.1, s₇.1, Heap.size_push]
  rw [hsz] at hz₈ hT₈ hz8
  refine wpAny_pure ⟨_, rfl, ?_⟩
  show Q (.ref h₅.objs.size) _
  rw [hsz]
  exact hQ x y h₈ tk₄ hx hy hz₈ (up _ _ Z.TOz hTO₅) (D1.frame _ _ _ h1₅ fun c hc o e => up _ o (fun q => Z.z1 (q ▸ hc)) e) (D2.frame _ _ _ h2₅ fun c hc o e => up _ o (fun q => Z.z2 (q ▸ hc)) e) hT₈ hz8
    fun c o c1 c2 c3 c4 e => up c o c1 (hk₅ c o c1 c2 c3 c4 e)

theorem zipD_end {a b : Value} {Q : Fin → Shared → Prop} (Z : Zipped z TI TO i1 i2 fp1 fp2) (D1 : Draws prog w A i1 fp1 n P1 S1)
    (hz : IsZip s.heap z TI TO .none) (hTI : IsPair s.heap TI (.ref i1) (.ref i2)) (hTO : IsPair s.heap TO a b) (h1 : S1 n s.heap)
    (hE : ∀ h' e, (∀ c o, c ≠ z → c ≠ TO → c ≠ i1 → c ≠ i2 → s.heap.get? c = some o → h'.get? c = some o) → (∃ o, h'.get? e = some o ∧ o.cls = .type "StopIteration") → E (.ref e) { s with heap := h' }) :
    wpAny (model prog w) A (Builtin.«zip.__next__» ⟨[.ref z], []⟩) Q E s := by
  show wpAny _ _ (field (.ref z) 2 >>= _) _ _ _
  refine wpAny_bind (wpAny_field hz rfl (x := .bool false) rfl ?_)
  show wpAny _ _ (field (.ref z) 3 >>= _) _ _ _
  refine wpAny_bind (wpAny_field hz rfl (x := .ref TI) rfl (wpAny_bind (wpAny_seqItems hTI rfl ?_)))
  show wpAny _ _ (Builtin.SmallTypes.ownedTupleIsFree (.ref z) >>= _) _ _ _
  refine wpAny_bind ?_
  unfold Builtin.SmallTypes.ownedTupleIsFree
  refine wpAny_bind (wpAny_field hz rfl (x := .none) rfl (wpAny_pure ?_))
  simp only [if_true]
  refine wpAny_bind (wpAny_rule (wpAny_bind (wpAny_field hz rfl (x := .ref TO) rfl (wpAny_bind (wpAny_setField_rec hz (by simp) fun h₁ hz₁ s₁ => ?_)))))
  replace hz₁ : IsZip h₁ z TI TO .ellipsis := hz₁
  refine wpAny_bind ?_
  simp only [List.zipIdx_cons, List.zipIdx_nil, List.forIn_cons, List.forIn_nil]
  refine wpAny_bind (wpAny_bind (wpAny_onRaise ?_))
  show wpAny _ _ (Builtin.SmallTypes.nextOf (.ref i1) >>= _) _ _ _
  have h1₁ : S1 n h₁ := D1.frame _ _ _ h1 fun c hc o e => s₁.extBut _ _ (fun q => Z.z1 (q ▸ hc)) e
  refine wpAny_bind (D1.done _ _ _ h1₁ fun h₂ e s₂ he => ?_)
  obtain ⟨oe, hoe, hce⟩ := he
  have hz₂ : IsZip h₂ z TI TO .ellipsis := s₂ _ _ Z.i1z.symm hz₁
  have hez : e ≠ z := fun x => by subst x; rw [hz₂] at hoe; cases hoe; simp at hce
  exact wpAny_setField_rec hz₂ (by simp) fun h₃ _ s₃ => hE h₃ e (fun c o c1 _ c3 _ x => s₃.extBut _ _ c1 (s₂ _ _ c3 (s₁.extBut _ _ c1 x))) ⟨oe, s₃.extBut _ _ hez hoe, hce⟩

/-- the walk of a zip over two sources -/
theorem walksZip (hh : A.handled = none) (Z : Zipped z TI TO i1 i2 fp1 fp2) (D1 : Draws prog w A.in1 i1 fp1 n P1 S1) (D2 : Draws prog w A.in1 i2 fp2 n P2 S2) :
    WalksU prog w A z (z :: TI :: TO :: (fp1 ++ fp2)) [z, TO, i1, i2] n (fun i vals => ∃ x y, P1 i x ∧ P2 i y ∧ vals = #[x, y])
      (fun i h => IsZip h z TI TO .none ∧ IsPair h TI (.ref i1) (.ref i2) ∧ (∃ a b, IsPair h TO a b) ∧ S1 i h ∧ S2 i h)
      (fun i T h => IsZip h z TI TO (rawInt T) ∧ IsPair h TI (.ref i1) (.ref i2) ∧ (∃ a b, IsPair h TO a b) ∧ S1 (i + 1) h ∧ S2 (i + 1) h ∧ T ≠ z ∧ T ≠ TO ∧ T ≠ i1 ∧ T ≠ i2) where
  sub := fun c hc => by
    have h1 := Z.in1
    have h2 := Z.in2
    simp at hc ⊢
    rcases hc with rfl | rfl | rfl | rfl <;> simp [*]
  frame := fun i h h' st hk => by
    obtain ⟨hz, hTI, ⟨a, b, hTO⟩, h1, h2⟩ := st
    exact ⟨hk z (by simp) _ hz, hk TI (by simp) _ hTI, ⟨a, b, hk TO (by simp) _ hTO⟩, D1.frame _ _ _ h1 fun c hc o e => hk c (by simp [hc]) o e, D2.frame _ _ _ h2 fun c hc o e => hk c (by simp [hc]) o e⟩
  item := fun i s Q E hi st hQ => by
    obtain ⟨hz, hTI, ⟨a, b, hTO⟩, h1, h2⟩ := st
    have hT : s.TypeIs (.ref z) "zip" := ⟨_, hz, rfl⟩
    have lt : ∀ {c o}, s.heap.get? c = some o → s.heap.objs.size ≠ c := fun e => Nat.ne_of_gt (Heap.lt_size e)
    unfold pyNext
    refine wpAny_bind (wpAny_attempt (wpAny_callSpecial?_slot (name := Str.ofString "__next__") hT F.slot_zip_next (wpAny_call_entry F.slot_zip_next hT F.entry_zip_next
      (zipD_item Z D1 D2 hz hTI hTO h1 h2 hi fun x y h' tk hx hy b1 b2 b3 b4 b5 b6 hk => wpAny_pure ?_) (F.args_zip_next_1 _))))
    exact hQ s.heap.objs.size #[x, y] h' tk ⟨x, y, hx, hy, rfl⟩ ⟨_, b5, rfl, _, rfl⟩
      ⟨b1, hk _ _ Z.TIz Z.TITO Z.TIi1 Z.TIi2 hTI, ⟨_, _, b2⟩, b3, b4, lt hz, lt hTO, (by obtain ⟨_, e⟩ := D1.live _ _ h1; exact lt e), (by obtain ⟨_, e⟩ := D2.live _ _ h2; exact lt e)⟩
      fun c o hc e => hk c o (fun x => hc (by simp [x])) (fun x => hc (by simp [x])) (fun x => hc (by simp [x])) (fun x => hc (by simp [x])) e
  go := fun elts k pos i T s Q E hm hQ => by
    obtain ⟨hz, hTI, ⟨a, b, hTO⟩, h1, h2, _⟩ := hm
    refine wpAny_letOwnedTupleGo_zip hz fun h' hz' hs' => hQ h' ⟨hz', hs'.extBut _ _ Z.TIz hTI, ⟨a, b, hs'.extBut _ _ Z.TOz hTO⟩, D1.frame _ _ _ h1 fun c hc o e => hs'.extBut _ _ (fun q => Z.z1 (q ▸ hc)) e,
      D2.frame _ _ _ h2 fun c hc o e => hs'.extBut _ _ (fun q => Z.z2 (q ▸ hc)) e⟩ fun c o hc e => hs'.extBut _ _ (fun x => hc (by simp [x])) e
  apart := fun i T h hm hT => by
    obtain ⟨_, _, _, _, _, t1, t2, t3, t4⟩ := hm
    simp at hT
    rcases hT with rfl | rfl | rfl | rfl
    · exact t1 rfl
    · exact t2 rfl
    · exact t3 rfl
    · exact t4 rfl
  done := fun s Q E st hQ => by
    obtain ⟨hz, hTI, ⟨a, b, hTO⟩, h1, h2⟩ := st
    have hT : s.TypeIs (.ref z) "zip" := ⟨_, hz, rfl⟩
    unfold pyNext
    refine wpAny_bind (wpAny_attempt (wpAny_callSpecial?_slot (name := Str.ofString "__next__") hT F.slot_zip_next (wpAny_call_entry F.slot_zip_next hT F.entry_zip_next
      (zipD_end Z D1 hz hTI hTO h1 fun h' e hk he => ?_) (F.args_zip_next_1 _))))
    obtain ⟨o, ho, hc⟩ := he
    refine wpAny_bind (wpAny_isInstance (T := "StopIteration") (b := true) ⟨o, ho, hc⟩ isSubtype_stop ?_)
    exact wpAny_pure (hQ _ s.toks fun c o hc e => hk c o (fun x => hc (by simp [x])) (fun x => hc (by simp [x])) (fun x => hc (by simp [x])) (fun x => hc (by simp [x])) e)
  self := fun i s Q E st hQ => wpAny_pyIter_zip st.1 hQ

/-! a zip of two tuples is made -/
noncomputable abbrev zt1 (h : Heap) (l1 : Addr) : Heap := h.push { cls := .type "tuple_iterator", data := .fields #[.ref l1, .int 0 0] }
noncomputable abbrev zt2 (h : Heap) (l1 l2 : Addr) : Heap := (zt1 h l1).push { cls := .type "tuple_iterator", data := .fields #[.ref l2, .int 0 0] }
noncomputable abbrev zt3 (h : Heap) (l1 l2 : Addr) : Heap := (zt2 h l1 l2).push { cls := .type "tuple", data := .seq #[.ref h.objs.size, .ref (zt1 h l1).objs.size] }
noncomputable abbrev zt4 (h : Heap) (l1 l2 : Addr) : Heap := (zt3 h l1 l2).push { cls := .type "tuple", data := .seq #[.none, .none] }
noncomputable abbrev zt5 (h : Heap) (l1 l2 : Addr) : Heap := (zt4 h l1 l2).push { cls := .type "zip", data := .fields #[.none, .bool false, .bool false, .ref (zt2 h l1 l2).objs.size, .ref (zt3 h l1 l2).objs.size] }
theorem zipT_new (l1 l2 : Addr) (xs ys : Array Value) :
    Meets (Builtin.«zip.__new__» ⟨[.type "zip", .ref l1, .ref l2], []⟩) (fun _ R s => s.heap.IsTuple l1 xs ∧ s.heap.IsTuple l2 ys ∧ R (.ok (.ret (.ref (zt4 s.heap l1 l2).objs.size))) { s with heap := zt5 s.heap l1 l2 }) :=
  .of_wp fun prog w A R s h => by
    obtain ⟨hp, g, d, tk, os⟩ := s; obtain ⟨hl1, hl2, h⟩ := h
    have hsub := sub_zip
    have hL1 : Heap.IsTuple (Shared.heap ⟨hp, g, d, tk, os⟩) l1 xs := hl1
    have hL2 : Heap.IsTuple (Shared.heap ⟨hp.push { cls := .type "tuple_iterator", data := .fields #[.ref l1, .int 0 0] }, g, d, tk, os⟩) l2 ys := by
      obtain ⟨o, ho, r⟩ := hl2; exact ⟨o, Heap.get?_push_of_some _ ho, r⟩
    wp_walk using wpAny_pyIter_tuple hL1, wpAny_pyIter_tuple hL2
    exact ⟨_, rfl, h⟩
theorem call_zipT {l1 l2 : Addr} {xs ys : Array Value} {Q : Value → Shared → Prop} (hl1 : s.heap.IsTuple l1 xs) (hl2 : s.heap.IsTuple l2 ys)
    (h : ∀ h', IsZip h' (s.heap.objs.size + 4) (s.heap.objs.size + 2) (s.heap.objs.size + 3) .none → IsPair h' (s.heap.objs.size + 2) (.ref s.heap.objs.size) (.ref (s.heap.objs.size + 1)) →
      IsPair h' (s.heap.objs.size + 3) .none .none → h'.IsTupleIter s.heap.objs.size l1 0 → h'.IsTupleIter (s.heap.objs.size + 1) l2 0 → h'.objs.size = s.heap.objs.size + 5 →
      (∀ c o, s.heap.get? c = some o → h'.get? c = some o) → Q (.ref (s.heap.objs.size + 4)) { s with heap := h' }) :
    wpAny (model prog w) A (call (.type "zip") [.ref l1, .ref l2]) Q E s := by
  refine callType_new F.called_zip (by decide) (F.typeCall_zip_2 _ _) (F.newCall_zip_2 _ _) (fun obj => F.args_object_init_3 obj _ _) F.entry_zip_new (zipT_new l1 l2 xs ys) ⟨hl1, hl2, ?_⟩
  have z1 : (zt1 s.heap l1).objs.size = s.heap.objs.size + 1 := Heap.size_push ..
  have z2 : (zt2 s.heap l1 l2).objs.size = s.heap.objs.size + 2 := by rw [Heap.size_push, z1]
  have z3 : (zt3 s.heap l1 l2).objs.size = s.heap.objs.size + 3 := by rw [Heap.size_push, z2]
  have z4 : (zt4 s.heap l1 l2).objs.size = s.heap.objs.size + 4 := by rw [Heap.size_push, z3]
  have z5 : (zt5 s.heap l1 l2).objs.size = s.heap.objs.size + 5 := by rw [Heap.size_push, z4]
  have g5 : (zt5 s.heap l1 l2).get? (zt4 s.heap l1 l2).objs.size = some _ := Heap.get?_push_size _ rfl
  have g4 : (zt5 s.heap l1 l2).get? (zt3 s.heap l1 l2).objs.size = some _ := Heap.get?_push_of_some _ (Heap.get?_push_size _ rfl)
  have g3 : (zt5 s.heap l1 l2).get? (zt2 s.heap l1 l2).objs.size = some _ := Heap.get?_push_of_some _ (Heap.get?_push_of_some _ (Heap.get?_push_size _ rfl))
  have g2 : (zt5 s.heap l1 l2).get? (zt1 s.heap l1).objs.size = some _ := Heap.get?_push_of_some _ (Heap.get?_push_of_some _ (Heap.get?_push_of_some _ (Heap.get?_push_size _ rfl)))
  have g1 : (zt5 s.heap l1 l2).get? s.heap.objs.size = some _ := Heap.get?_push_of_some _ (Heap.get?_push_of_some _ (Heap.get?_push_of_some _ (Heap.get?_push_of_some _ (Heap.get?_push_size _ rfl))))
  show _ ∧ _
  rw [z2, z3, z4] at g5
  rw [z1, z2] at g3
  rw [z3] at g4
  rw [z1] at g2
  rw [z4]
  exact ⟨⟨_, g5, rfl⟩, h _ g5 g3 g4 ⟨_, g1, rfl, rfl⟩ ⟨_, g2, rfl, rfl⟩ z5 fun c o x => Heap.get?_push_of_some _ (Heap.get?_push_of_some _ (Heap.get?_push_of_some _ (Heap.get?_push_of_some _ (Heap.get?_push_of_some _ x))))⟩
end
end Mine
end
section
open PySem PySem.W PyProof.Rows
set_option maxRecDepth 100000
set_option linter.unusedVariables false
namespace Mine
theorem enumT_new (l : Addr) (items : Array Value) :
    Meets (Builtin.«enumerate.__new__» ⟨[.type "enumerate", .ref l], []⟩) (fun _ R s => s.heap.IsTuple l items ∧
      R (.ok (.ret (.ref (s.heap.push { cls := .type "tuple_iterator", data := .fields #[.ref l, .int 0 0] }).objs.size)))
        { s with heap := (s.heap.push { cls := .type "tuple_iterator", data := .fields #[.ref l, .int 0 0] }).push { cls := .type "enumerate", data := .fields #[.none, .bool false, .ref s.heap.objs.size, rawInt 0, .none, .none] } }) :=
  .of_wp fun prog w A R s h => by
    obtain ⟨hp, g, d, tk, os⟩ := s; obtain ⟨hl, h⟩ := h
    have hsub := sub_enumerate
    have hL : Heap.IsTuple (Shared.heap ⟨hp, g, d, tk, os⟩) l items := hl
    wp_walk using wpAny_pyIter_tuple hL
    refine wpAny_stack_any fun st => wpAny_pure ?_
    split
    · rename_i c _ _ _ _ _
      cases (c == Value.type "enumerate")
      · wp_walk using wpAny_pyIter_tuple hL
        exact ⟨_, rfl, h⟩
      · wp_walk using wpAny_pyIter_tuple hL
        exact ⟨_, rfl, h⟩
    · wp_walk using wpAny_pyIter_tuple hL
      exact ⟨_, rfl, h⟩
section
variable {prog : Program} {w : World} {A : Around} {E : Value → Shared → Prop} {C : Cx} {L : Addr} {m : Str → Option Value} {X : List (Addr × OP)} {Fs : List Fact} {s : Shared} {env : Env} {mg : Str → Option Value}

theorem call_enumT {l : Addr} {items : Array Value} {Q : Value → Shared → Prop} (hl : s.heap.IsTuple l items)
    (h : ∀ h', IsEnum h' (s.heap.objs.size + 1) s.heap.objs.size 0 .none → h'.IsTupleIter s.heap.objs.size l 0 → h'.objs.size = s.heap.objs.size + 2 →
      (∀ b o, s.heap.get? b = some o → h'.get? b = some o) → Q (.ref (s.heap.objs.size + 1)) { s with heap := h' }) :
    wpAny (model prog w) A (call (.type "enumerate") [.ref l]) Q E s := by
  refine callType_new F.called_enumerate (by decide) (F.typeCall_enumerate_1 _) (F.newCall_enumerate_1 _) (fun obj => F.args_object_init_2 obj _) F.entry_enumerate_new (enumT_new l items) ⟨hl, ?_⟩
  have hz : (s.heap.push { cls := .type "tuple_iterator", data := .fields #[.ref l, .int 0 0] }).objs.size = s.heap.objs.size + 1 := Heap.size_push ..
  have g2 : ((s.heap.push { cls := .type "tuple_iterator", data := .fields #[.ref l, .int 0 0] }).push { cls := .type "enumerate", data := .fields #[.none, .bool false, .ref s.heap.objs.size, rawInt 0, .none, .none] }).get? (s.heap.push { cls := .type "tuple_iterator", data := .fields #[.ref l, .int 0 0] }).objs.size = some _ := Heap.get?_push_size _ rfl
  have g1 : ((s.heap.push { cls := .type "tuple_iterator", data := .fields #[.ref l, .int 0 0] }).push { cls := .type "enumerate", data := .fields #[.none, .bool false, .ref s.heap.objs.size, rawInt 0, .none, .none] }).get? s.heap.objs.size = some _ := Heap.get?_push_of_some _ (Heap.get?_push_size _ rfl)
  show _ ∧ _
  rw [hz] at g2 ⊢
  exact ⟨⟨_, g2, rfl⟩, h _ g2 ⟨_, g1, rfl, rfl⟩ (by rw [Heap.size_push, hz]) fun c o x => Heap.get?_push_of_some _ (Heap.get?_push_of_some _ x)⟩

def isEnumO (it : Addr) (i : Nat) : OP := fun o => ∃ old, o = { cls := .type "enumerate", dict := none, data := .fields #[.none, .bool false, .ref it, rawInt i, .none, old], slots := #[] }
/-- two of the ledger are turned at once, and a new thing enters -/
theorem St.two {a b c : Addr} {p q p' q' r : OP} {Y : List (Addr × OP)} (H : St C L m ((a, p) :: (b, q) :: Y) Fs s) {h' : Heap} {tk : Nat} (hs : ∀ d o, d ≠ a → d ≠ b → s.heap.get? d = some o → h'.get? d = some o)
    (hp : ∃ o, h'.get? a = some o ∧ p' o) (hq : ∃ o, h'.get? b = some o ∧ q' o) (hc : s.heap.objs.size ≤ c) (hr : ∃ o, h'.get? c = some o ∧ r o) : St C L m ((c, r) :: (a, p') :: (b, q') :: Y) Fs { s with heap := h', toks := tk } := by
  obtain ⟨Z, h⟩ := H
  obtain ⟨⟨oa, eoa, _⟩, ha0, haZ, haL⟩ := h.mu _ (.head _)
  obtain ⟨⟨ob, eob, _⟩, hb0, hbZ, hbL⟩ := h.mu _ (.tail _ (.head _))
  have nd1 := List.pairwise_cons.mp h.nd
  have nd2 := List.pairwise_cons.mp nd1.2
  have hab : a ≠ b := nd1.1 _ (.head _)
  have na : ∀ q ∈ Y, q.1 ≠ a := fun q hq e => nd1.1 q (.tail _ hq) e.symm
  have nb : ∀ q ∈ Y, q.1 ≠ b := fun q hq e => nd2.1 q hq e.symm
  have ne : ∀ {d : Addr}, d < s.heap.objs.size → d ≠ c := fun hd e => Nat.lt_irrefl _ (Nat.lt_of_lt_of_le (e ▸ hd) hc)
  have lt0 : ∀ {d : Addr} {o : Obj}, C.h0.get? d = some o → d ≠ a ∧ d ≠ b := fun e => ⟨fun q => by subst q; exact absurd (Heap.lt_size e) (Nat.not_lt.mpr ha0), fun q => by subst q; exact absurd (Heap.lt_size e) (Nat.not_lt.mpr hb0)⟩
  refine ⟨Z, { h with
    kp := fun d o hd e => hs d o (lt0 e).1 (lt0 e).2 (h.kp d o hd e)
    tab := fun P hP => let ⟨o, ps, e, t⟩ := h.tab P hP; ⟨o, ps, hs P _ (fun q => h.newT ha0 (q ▸ hP)) (fun q => h.newT hb0 (q ▸ hP)) e, t⟩
    fz := fun d o e => hs d o (fun q => by subst q; exact absurd e (by rw [haZ]; nofun)) (fun q => by subst q; exact absurd e (by rw [hbZ]; nofun)) (h.fz d o e)
    ns := by
      obtain ⟨o, es, ep, ho, r⟩ := h.ns
      exact ⟨o, es, ep, hs _ _ (fun e => haL e.symm) (fun e => hbL e.symm) ho, r⟩
    mu := fun x hx => by
      rcases List.mem_cons.mp hx with rfl | hx
      · exact ⟨hr, Nat.le_trans h.sz hc, h.fresh hc, fun e => ne h.ns.lt e.symm⟩
      · rcases List.mem_cons.mp hx with rfl | hx
        · exact ⟨hp, ha0, haZ, haL⟩
        · rcases List.mem_cons.mp hx with rfl | hx
          · exact ⟨hq, hb0, hbZ, hbL⟩
          · obtain ⟨⟨o, e, y⟩, y'⟩ := h.mu x (.tail _ (.tail _ hx))
            exact ⟨⟨o, hs _ _ (na x hx) (nb x hx) e, y⟩, y'⟩
    nd := List.pairwise_cons.mpr ⟨fun x hx e => ?_, List.pairwise_cons.mpr ⟨fun x hx e => ?_, List.pairwise_cons.mpr ⟨nd2.1, nd2.2⟩⟩⟩ }⟩
  · rcases List.mem_cons.mp hx with rfl | hx
    · exact ne (Heap.lt_size eoa) e.symm
    · rcases List.mem_cons.mp hx with rfl | hx
      · exact ne (Heap.lt_size eob) e.symm
      · obtain ⟨⟨o, e', y⟩, y'⟩ := h.mu x (.tail _ (.tail _ hx))
        exact ne (Heap.lt_size e') e.symm
  · rcases List.mem_cons.mp hx with rfl | hx
    · exact hab e
    · exact na x hx e.symm

theorem St.take2 (H : St C L m X Fs s) {a b : Addr} {p q : OP} {h' : Heap} {tk : Nat} (k : ∀ c o, s.heap.get? c = some o → h'.get? c = some o)
    (ha : s.heap.objs.size ≤ a) (hb : s.heap.objs.size ≤ b) (hab : b ≠ a) (hp : ∃ o, h'.get? a = some o ∧ p o) (hq : ∃ o, h'.get? b = some o ∧ q o) : St C L m ((b, q) :: (a, p) :: X) Fs { s with heap := h', toks := tk } := by
  obtain ⟨Z, h⟩ := H
  have g := h.grown (tk := tk) k
  have ne : ∀ {d c : Addr}, d < s.heap.objs.size → s.heap.objs.size ≤ c → d ≠ c := fun hd hc e => Nat.lt_irrefl _ (Nat.lt_of_lt_of_le (e ▸ hd) hc)
  have lt : ∀ x ∈ X, x.1 < s.heap.objs.size := fun x hx => let ⟨⟨_, e, _⟩, _⟩ := h.mu x hx; Heap.lt_size e
  refine ⟨Z, { g with mu := fun x hx => ?_, nd := List.pairwise_cons.mpr ⟨fun x hx e => ?_, List.pairwise_cons.mpr ⟨fun x hx e => ne (lt x hx) ha e.symm, h.nd⟩⟩ }⟩
  · rcases List.mem_cons.mp hx with rfl | hx
    · exact ⟨hq, Nat.le_trans h.sz hb, h.fresh hb, fun e => ne h.ns.lt hb e.symm⟩
    · rcases List.mem_cons.mp hx with rfl | hx
      · exact ⟨hp, Nat.le_trans h.sz ha, h.fresh ha, fun e => ne h.ns.lt ha e.symm⟩
      · exact g.mu x hx
  · rcases List.mem_cons.mp hx with rfl | hx
    · exact hab e
    · exact ne (lt x hx) hb e.symm
theorem r_enumT {l : Addr} {ds : List D} {Q : Value → Shared → Prop} (H : St C L m X Fs s) (hv : Kn Fs (.ref l) (.tup ds)) (h : ∀ e it s', St C L m ((e, isEnumO it 0) :: (it, isTIter l 0) :: X) Fs s' → Q (.ref e) s') : wpAny (model prog w) A (call (.type "enumerate") [.ref l]) Q E s := by
  obtain ⟨vs, ⟨o, ho, hp⟩, hlen, H1⟩ := H.tupF hv
  refine call_enumT (tup_of ho hp) fun h' he hit hsz hk => h _ s.heap.objs.size _ ?_
  obtain ⟨oi, hoi, hi1, hi2⟩ := hit
  exact H.take2 (tk := s.toks) hk (Nat.le_refl _) (Nat.le_succ _) (Nat.succ_ne_self _) ⟨oi, hoi, hi1, hi2⟩ ⟨_, he, .none, rfl⟩
theorem r_enumL {l : Addr} {ds : List D} {Q : Value → Shared → Prop} (H : St C L m X Fs s) (hv : Kn Fs (.ref l) (.lst ds)) (h : ∀ e it s', St C L m ((e, isEnumO it 0) :: (it, isLIter l 0) :: X) Fs s' → Q (.ref e) s') : wpAny (model prog w) A (call (.type "enumerate") [.ref l]) Q E s := by
  obtain ⟨vs, ⟨o, ho, n, hp⟩, hlen, H1⟩ := H.listF hv
  subst hp
  refine call_enumerate_1 ho fun h' he hit hsz hk => h _ s.heap.objs.size _ ?_
  obtain ⟨oi, hoi, hi1, hi2⟩ := hit
  exact H.take2 (tk := s.toks) hk (Nat.le_refl _) (Nat.le_succ _) (Nat.succ_ne_self _) ⟨oi, hoi, hi1, hi2⟩ ⟨_, he, .none, rfl⟩
theorem r_iterEnum {e it : Addr} {i : Nat} {Q : Value → Shared → Prop} (H : St C L m X Fs s) (hm : (e, isEnumO it i) ∈ X) (h : Q (.ref e) s) : wpAny (model prog w) A (pyIter (.ref e)) Q E s := by
  obtain ⟨o, ho, old, rfl⟩ := H.get hm
  exact wpAny_pyIter_enum ho h
theorem again_enum {e it : Addr} {i : Nat} (H : St C L m ((e, isEnumO it i) :: X) Fs s) : Again prog w (.ref e) s := fun A E Q h => r_iterEnum H (.head _) h

/-- the numbers beside the data -/
noncomputable def numbered (ds : List D) : List D := ds.zipIdx.map fun p => .tup [.int (p.2 : Int), p.1]
theorem numbered_get {ds : List D} {i : Nat} {d : D} (h : (numbered ds)[i]? = some d) : ∃ x, ds[i]? = some x ∧ d = .tup [.int (i : Int), x] := by
  simp only [numbered, List.getElem?_map, List.getElem?_zipIdx, Option.map_map] at h
  cases e : ds[i]? with
  | none => rw [e] at h; cases h
  | some x => rw [e] at h; simp at h; exact ⟨x, rfl, h.symm⟩
theorem numbered_len (ds : List D) : (numbered ds).length = ds.length := by simp [numbered]
theorem src_enumT {l e it : Addr} {ds : List D} {el : List Expr} {k : Nat} {p : Pos} : Src prog w (.Tuple el k p) (.ref e) (numbered ds) (fun i => [(e, isEnumO it i), (it, isTIter l i)]) [(e, isEnumO it ds.length)] [.V (.ref l) (.tup ds)] where
  item := fun i d hd A E C L m X Fs s Q hh hG H hQ => by
    obtain ⟨x, hx, rfl⟩ := numbered_get hd
    obtain ⟨vs, ⟨o, ho, hp⟩, hlen, H1⟩ := H.tupF (hG _ (.head _))
    obtain ⟨v, hv⟩ := getElem_of hlen hx
    obtain ⟨oe, hoe, old, rfl⟩ := H.get (.head _)
    obtain ⟨oi, hoi, hi1, hi2⟩ := H.get (.tail _ (.head _))
    have hne : l ≠ it := by
      obtain ⟨Z, z⟩ := H
      have hz := (z.mu _ (.tail _ (.head _))).2.2.1
      intro q
      cases hG _ (.head _) Z z.fs with
      | tup h1 => rw [q] at h1; rw [show Z it = none from hz] at h1; cases h1
    have hel : e ≠ l := by
      obtain ⟨Z, z⟩ := H
      have hz := (z.mu _ (.head _)).2.2.1
      intro q
      cases hG _ (.head _) Z z.fs with
      | tup h1 => rw [← q] at h1; rw [show Z e = none from hz] at h1; cases h1
    have hei : e ≠ it := by obtain ⟨Z, z⟩ := H; exact (List.pairwise_cons.mp z.nd).1 _ (.head _)
    have hil : i < vs.toArray.size := by have := (List.getElem?_eq_some_iff.mp hv).1; simpa using this
    refine wpAny_pyNext_enum_itemD (drawsTup (A := A.in1) hh it l hne vs.toArray) hoe ⟨⟨oi, hoi, hi1, hi2⟩, tup_of ho hp⟩ hil hei (by simp [hel, hei]) fun y h' tk hy hout hst htup hsz hk => ?_
    have ey : y = v := by
      have : vs.toArray[i]? = some v := by simpa using hv
      rw [this] at hy; exact (Option.some.inj hy).symm
    subst ey
    obtain ⟨⟨oi', hoi', hj1, hj2⟩, _⟩ := hst
    let p1 : OP := fun o => o = { cls := .type "enumerate", dict := none, data := .fields #[rawInt s.heap.objs.size, .bool false, .ref it, rawInt ((i : Int) + 1), .none, y], slots := #[] }
    have S1 := St.two (r := isTup [.int i tk, y]) (p' := p1) (q' := isTIter l (i + 1)) (tk := tk + 1) H1 hk ⟨_, hout, rfl⟩ ⟨oi', hoi', hj1, hj2⟩ (Nat.le_refl _) ⟨_, htup, 0, rfl⟩
    refine wpAny_letOwnedTupleGo_enum hout fun h'' he' hs' => ?_
    have S2 := (S1.swap.upd (p' := isEnumO it (i + 1)) rfl (tk := tk + 1) hs' ⟨_, he', _, rfl⟩).swap
    have S3 := S2.freezeT (ds := [.int (i : Int), x]) (.cons Kn.int (.cons (KnL.get (.mem (.head _)) hv hx) .nil))
    exact hQ _ _ (S3.facts fun f hf => by
      rcases List.mem_cons.mp hf with rfl | hf
      · exact .mem (.head _)
      · exact .mem (.tail _ (.tail _ hf)))
  done := fun A E C L m X Fs s Q hh hG H hQ => by
    rw [numbered_len] at H
    obtain ⟨vs, ⟨o, ho, hp⟩, hlen, H1⟩ := H.tupF (hG _ (.head _))
    obtain ⟨oe, hoe, old, rfl⟩ := H.get (.head _)
    obtain ⟨oi, hoi, hi1, hi2⟩ := H.get (.tail _ (.head _))
    have hne : l ≠ it := by
      obtain ⟨Z, z⟩ := H
      have hz := (z.mu _ (.tail _ (.head _))).2.2.1
      intro q
      cases hG _ (.head _) Z z.fs with
      | tup h1 => rw [q] at h1; rw [show Z it = none from hz] at h1; cases h1
    have hn : vs.toArray.size = ds.length := by simpa using hlen
    refine wpAny_pyNext_enum_endD (drawsTup (A := A.in1) hh it l hne vs.toArray) hoe ⟨⟨oi, hoi, hi1, by rw [hn]; exact hi2⟩, tup_of ho hp⟩ fun h' hx => ?_
    exact hQ _ (H.swap.lose (tk := s.toks) hx)
end
end Mine
end
section
open PySem PySem.W PyProof.Rows PySem.SeqAt
set_option maxRecDepth 100000
set_option linter.unusedVariables false
namespace Mine
section
variable {prog : Program} {w : World} {A : Around} {E : Value → Shared → Prop} {s : Shared}

theorem IPairs.getE {es : List DictEntry} {kvs : List (Int × Value)} (h : IPairs es kvs) : ∀ {i : Nat} {e : DictEntry}, es[i]? = some e → ∃ k v, kvs[i]? = some (k, v) ∧ Value.isInt k e.key = true ∧ e.hash = hashInt k ∧ e.val = v := by
  induction h with
  | nil => intro i e h; simp at h
  | cons h1 h2 h3 _ ih =>
    intro i e h
    cases i with
    | zero => simp at h; subst h; exact ⟨_, _, rfl, h1, h2, h3⟩
    | succ i => simp at h; obtain ⟨k, v, e1, r⟩ := ih h; exact ⟨k, v, by simpa using e1, r⟩
theorem IPairs.find (prog : Program) (w : World) {es : List DictEntry} {kvs : List (Int × Value)} (h : IPairs es kvs) {k : Int} {v : Value} (hl : look kvs k = some v) : ∃ j e, es.findIdx? (fun e => Value.isInt k e.key) = some j ∧ es[j]? = some e ∧ e.val = v := by
  induction h with
  | nil => cases hl
  | @cons e k' v' es kvs h1 h2 h3 _ ih =>
    by_cases hk : k' = k
    · subst hk
      simp only [look, List.find?_cons, decide_true, Option.map_some, Option.some.injEq] at hl
      exact ⟨0, e, by simp [List.findIdx?_cons, h1], rfl, h3.trans hl⟩
    · have hn : Value.isInt k e.key = false := by
        cases hb : Value.isInt k e.key with
        | false => rfl
        | true => exact absurd ((intKind prog w).inj _ _ _ h1 hb) hk
      have hl' : look kvs k = some v := by simpa [look, List.find?_cons, hk] using hl
      obtain ⟨j, e', e1, e2, e3⟩ := ih hl'
      exact ⟨j + 1, e', by simp [List.findIdx?_cons, hn, e1], by simpa using e2, e3⟩

theorem samePairs_T {id : String} {a b : Addr} {oa ob : Obj} {ka kb : List (Int × Value)} {ea eb : Nat} {Q : Bool → Shared → Prop} (ha : s.heap.get? a = some oa) (hb : s.heap.get? b = some ob) (xa : isDictE ka ea oa) (xb : isDictE kb eb ob)
    (na : (a == sysModules) = false) (nb : (b == sysModules) = false) (hlen : ka.length = kb.length) (heq : ∀ k v, (k, v) ∈ ka → ∃ u, look kb k = some u ∧ EqAt A s v u true) (h : Q true s) : wpAny (model prog w) A (Builtin.Dict.samePairs id a b) Q E s := by
  obtain ⟨esa, ca, da, pa, nda⟩ := xa
  obtain ⟨esb, cb, db, pb, ndb⟩ := xb
  have la : esa.size = ka.length := by have := pa.length; simpa using this
  have lb : esb.size = kb.length := by have := pb.length; simpa using this
  unfold Builtin.Dict.samePairs Builtin.Dict.showsAll
  rw [na, nb]
  simp only [Bool.false_eq_true, if_false]
  refine wpAny_bind (wpAny_pure (wpAny_bind (wpAny_pure ?_)))
  refine wpAny_bind (wpAny_dictEntries ha da (wpAny_bind (wpAny_dictEntries hb db ?_)))
  have hne : (esa.size != esb.size) = false := by rw [la, lb, hlen]; simp
  rw [hne]
  simp only [Bool.false_eq_true, if_false]
  refine wpAny_bind (wpAny_dictEpoch ha da ?_)
  refine wpAny_bind ?_
  rw [Std.Legacy.Range.forIn_eq_forIn_range']
  simp only [Std.Legacy.Range.size, Nat.sub_zero, Nat.add_sub_cancel, Nat.div_one]
  refine wpAny_forIn_list _ (fun rest b s' => s' = s ∧ b.1 = none ∧ ∃ i, rest = List.range' i (esa.size - i) ∧ i ≤ esa.size) _ ?_ ?_ _ _ ⟨rfl, rfl, 0, by simp, Nat.zero_le _⟩
  · rintro x rest st s' ⟨rfl, hst, i, hr, hi⟩
    have hlt : i < esa.size := by
      rcases Nat.lt_or_ge i esa.size with h | h
      · exact h
      · rw [Nat.sub_eq_zero_of_le h] at hr; simp at hr
    obtain ⟨rfl, hrest⟩ : x = i ∧ rest = List.range' (i + 1) (esa.size - (i + 1)) := by
      have e : esa.size - i = (esa.size - (i + 1)) + 1 := by (first | lia | omega)
      rw [e, List.range'_succ] at hr
      injection hr with h1 h2
      exact ⟨h1, h2⟩
    refine wpAny_bind (wpAny_dictEntries ha da ?_)
    rw [Array.getElem?_eq_getElem hlt]
    obtain ⟨k, v, hkv, hkey, hhash, hval⟩ := pa.getE (i := x) (e := esa[x]) (by simp [hlt])
    obtain ⟨u, hu, hq⟩ := heq k v (List.mem_of_getElem? hkv)
    obtain ⟨j, f, hf1, hf2, hf3⟩ := pb.find prog w hu
    refine wpAny_bind (wpAny_holding ?_)
    rw [hhash, hval]
    refine wpAny_bind (wpAny_dictFind_of (knd := intKind prog w) hkey hb db (fun e he => pb.keys e (by simpa using he)) ?_)
    have e1 : esb.findIdx? (fun e => (intKind prog w).is k e.key) = some j := by rw [show esb = esb.toList.toArray by simp, List.findIdx?_toArray]; exact hf1
    have e2 : esb[j]? = some f := by simpa using hf2
    rw [e1]
    refine wpAny_bind (wpAny_dictEntries hb db ?_)
    rw [e2]
    refine wpAny_holding ?_
    rw [hf3]
    refine hq prog w _ _ ?_
    simp only [Bool.not_true, Bool.false_eq_true, if_false]
    refine wpAny_bind (wpAny_dictEpoch ha da ?_)
    rw [if_neg (by simp)]
    exact wpAny_pure ⟨rfl, rfl, x + 1, hrest, hlt⟩
  · rintro st s' ⟨rfl, hst, i, hr, hi⟩
    obtain ⟨b1, b2⟩ := st
    simp only at hst
    subst hst
    exact wpAny_pure h

theorem samePairs_F {id : String} {a b : Addr} {oa ob : Obj} {ka kb : List (Int × Value)} {ea eb : Nat} {Q : Bool → Shared → Prop} (ha : s.heap.get? a = some oa) (hb : s.heap.get? b = some ob) (xa : isDictE ka ea oa) (xb : isDictE kb eb ob)
    (na : (a == sysModules) = false) (nb : (b == sysModules) = false) (hlen : ka.length ≠ kb.length) (h : Q false s) : wpAny (model prog w) A (Builtin.Dict.samePairs id a b) Q E s := by
  obtain ⟨esa, ca, da, pa, nda⟩ := xa
  obtain ⟨esb, cb, db, pb, ndb⟩ := xb
  have la : esa.size = ka.length := by have := pa.length; simpa using this
  have lb : esb.size = kb.length := by have := pb.length; simpa using this
  unfold Builtin.Dict.samePairs Builtin.Dict.showsAll
  rw [na, nb]
  simp only [Bool.false_eq_true, if_false]
  refine wpAny_bind (wpAny_pure (wpAny_bind (wpAny_pure ?_)))
  refine wpAny_bind (wpAny_dictEntries ha da (wpAny_bind (wpAny_dictEntries hb db ?_)))
  have hne : (esa.size != esb.size) = true := by rw [la, lb]; simpa using hlen
  rw [hne]
  simp only [if_true]
  exact wpAny_bind (wpAny_rule (wpAny_pure h))

theorem dictType {a : Addr} {o : Obj} {kvs : List (Int × Value)} {ep : Nat} (ha : s.heap.get? a = some o) (x : isDictE kvs ep o) : s.TypeIs (.ref a) "dict" := by
  obtain ⟨es, h1, _⟩ := x
  exact ⟨o, ha, h1.1⟩
theorem rcDict {a b : Addr} {oa ob : Obj} {ka kb : List (Int × Value)} {ea eb : Nat} {r : Bool} (ha : s.heap.get? a = some oa) (hb : s.heap.get? b = some ob) (xa : isDictE ka ea oa) (xb : isDictE kb eb ob) (hu : A.units < cLine)
    (hp : ∀ (prog : Program) (w : World) (id : String) (E : Value → Shared → Prop) (Q : Bool → Shared → Prop), Q r s → wpAny (model prog w) A.in1 (Builtin.Dict.samePairs id a b) Q E s) : RcAt A s (.ref a) (.ref b) r := fun prog w E Q h => by
  refine wpAny_richCompare_same_room (op := .Eq) (dictType ha xa) (dictType hb xb) F.slot_dict_eq (wpAny_call_entry F.slot_dict_eq (dictType ha xa) F.entry_dict_eq ?_ (F.args_dict_eq_2 _ _)) hu
  show wpAny _ _ (Builtin.Dict.dictSlotArgs "__eq__" ⟨[.ref a, .ref b], []⟩ >>= _) _ _ s
  refine wpAny_bind (wpAny_of_eq (a := (Value.ref a, Value.ref b)) rfl ?_)
  refine wpAny_bind (wpAny_isInstance (T := "dict") (b := true) (dictType hb xb) F.sub_dict_dict ?_)
  simp only [Bool.not_true, Bool.false_eq_true, if_false]
  refine wpAny_bind (m := Builtin.Dict.addrOf _) (wpAny_of_eq (a := a) rfl (wpAny_bind (m := Builtin.Dict.addrOf _) (wpAny_of_eq (a := b) rfl ?_)))
  refine wpAny_bind (hp prog w _ _ _ ?_)
  exact wpAny_pure ⟨_, rfl, (fun x => nomatch x), by cases r <;> exact h⟩
end
end Mine
end
section
open PySem PySem.W PyProof.Rows PySem.SeqAt
set_option maxRecDepth 100000
set_option linter.unusedVariables false
namespace Mine
/-- two data are one, dicts in any order -/
noncomputable def SameN : Nat → D → D → Prop
  | _, .none, .none => True
  | _, .bool a, .bool b => a = b
  | _, .int a, .int b => a = b
  | n + 1, .tup l, .tup l' => l.length = l'.length ∧ ∀ (i : Nat) d e, l[i]? = some d → l'[i]? = some e → SameN n d e
  | n + 1, .lst l, .lst l' => l.length = l'.length ∧ ∀ (i : Nat) d e, l[i]? = some d → l'[i]? = some e → SameN n d e
  | n + 1, .dct l, .dct l' => l.length = l'.length ∧ ∀ k d, (k, d) ∈ l → ∃ e, look l' k = some e ∧ SameN n d e
  | _, _, _ => False
section
variable {prog : Program} {w : World} {A : Around} {E : Value → Shared → Prop} {s : Shared} {Z : FZ}
theorem all_true {n : Nat} : (List.range n).all (fun _ => true) = true := by simp
theorem isDict_get {kvs : List (Int × Value)} {o : Obj} (x : isDict kvs o) : ∃ ep, isDictE kvs ep o := x

theorem rcB (A : Around) (b : Bool) : RcAt A s (.bool b) (.bool b) true ∧ EqAt A s (.bool b) (.bool b) true := by
  have h1 := RcAt.bool_bool (A := A) (s := s) b b
  have h2 := EqAt.bool_bool (A := A) (s := s) b b
  rw [beq_self_eq_true] at h1 h2
  exact ⟨h1, h2⟩
theorem rcI (A : Around) (b : Int) (t u : Tok) : RcAt A s (.int b t) (.int b u) true ∧ EqAt A s (.int b t) (.int b u) true := by
  have h1 := RcAt.int_int (A := A) (s := s) b t b u
  have h2 := EqAt.int_int (A := A) (s := s) b t b u
  rw [beq_self_eq_true] at h1 h2
  exact ⟨h1, h2⟩
theorem rc_same (hz : ∀ a o, Z a = some o → s.heap.get? a = some o) (hl : ∀ a o, Z a = some o → (a == sysModules) = false) : ∀ (n : Nat) (A : Around) (v u : Value) (d e : D), SameN n d e → Rep Z v d → Rep Z u e → A.units + n < cLine → RcAt A s v u true ∧ EqAt A s v u true := by
  intro n
  induction n with
  | zero =>
    intro A v u d e h hv hu hr
    cases hv <;> cases hu <;> first | exact False.elim h | skip
    · exact ⟨RcAt.none_none, EqAt.same _⟩
    · change _ = _ at h; subst h; exact rcB A _
    · change _ = _ at h; subst h; exact rcI A _ _ _
  | succ n ih =>
    intro A v u d e h hv hu hr
    have hr' : A.units < cLine := by (first | lia | omega)
    have ref : ∀ a b : Addr, RcAt A s (.ref a) (.ref b) true → RcAt A s (.ref a) (.ref b) true ∧ EqAt A s (.ref a) (.ref b) true := fun a b hrc => ⟨hrc, by
      by_cases hab : a = b
      · subst hab; exact EqAt.same _
      · exact EqAt.of_refs hab hrc⟩
    cases hv with
    | none => cases hu <;> first | exact False.elim h | exact ⟨RcAt.none_none, EqAt.same _⟩
    | bool => cases hu <;> first | exact False.elim h | (change _ = _ at h; subst h; exact rcB A _)
    | int => cases hu <;> first | exact False.elim h | (change _ = _ at h; subst h; exact rcI A _ _ _)
    | @tup a o vs ds h1 h2 h3 h4 =>
      cases hu with
      | @tup b o' us es g1 g2 g3 g4 =>
        change _ ∧ _ at h
        have hlen : vs.length = us.length := by rw [h3, g3, h.1]
        have key := RcAt.tuples (A := A) (e := fun _ => true) (tup_of (hz _ _ h1) h2) (tup_of (hz _ _ g1) g2) hr' (fun j j1 j2 => by
          have j1' : j < vs.length := by simpa using j1
          have j2' : j < us.length := by simpa using j2
          have k1 : vs[j]? = some vs[j] := List.getElem?_eq_getElem j1'
          have k2 : us[j]? = some us[j] := List.getElem?_eq_getElem j2'
          have m1 : ds[j]? = some (ds[j]'(by (first | lia | omega))) := List.getElem?_eq_getElem (by (first | lia | omega))
          have m2 : es[j]? = some (es[j]'(by (first | lia | omega))) := List.getElem?_eq_getElem (by (first | lia | omega))
          simpa using (ih A.in1 _ _ _ _ (h.2 j _ _ m1 m2) (h4 j _ _ k1 m1) (g4 j _ _ k2 m2) (by show A.units + 1 + n < cLine; (first | lia | omega))).2)
        rw [all_true, List.size_toArray, List.size_toArray, hlen, beq_self_eq_true] at key
        exact ref a b key
      | _ => exact False.elim h
    | @lst a o vs ds h1 h2 h3 h4 =>
      cases hu with
      | @lst b o' us es g1 g2 g3 g4 =>
        change _ ∧ _ at h
        have hlen : vs.length = us.length := by rw [h3, g3, h.1]
        have key := RcAt.lists (A := A) (e := fun _ => true) (list_of (hz _ _ h1) h2) (list_of (hz _ _ g1) g2) (by simpa using hlen) hr' (fun j j1 j2 => by
          have j1' : j < vs.length := by simpa using j1
          have j2' : j < us.length := by simpa using j2
          have k1 : vs[j]? = some vs[j] := List.getElem?_eq_getElem j1'
          have k2 : us[j]? = some us[j] := List.getElem?_eq_getElem j2'
          have m1 : ds[j]? = some (ds[j]'(by (first | lia | omega))) := List.getElem?_eq_getElem (by (first | lia | omega))
          have m2 : es[j]? = some (es[j]'(by (first | lia | omega))) := List.getElem?_eq_getElem (by (first | lia | omega))
          simpa using (ih A.in1 _ _ _ _ (h.2 j _ _ m1 m2) (h4 j _ _ k1 m1) (g4 j _ _ k2 m2) (by show A.units + 1 + n < cLine; (first | lia | omega))).2)
        rw [all_true] at key
        exact ref a b key
      | _ => exact False.elim h
    | @dct a o vs ds h1 h2 h3 h4 =>
      cases hu with
      | @dct b o' us es g1 g2 g3 g4 =>
        change _ ∧ _ at h
        obtain ⟨ea, xa⟩ := h2
        obtain ⟨eb, xb⟩ := g2
        have la : vs.length = ds.length := by have := congrArg List.length h3; simpa using this
        have lb : us.length = es.length := by have := congrArg List.length g3; simpa using this
        refine ref a b (rcDict (hz _ _ h1) (hz _ _ g1) xa xb hr' fun prog w id E Q hq => samePairs_T (hz _ _ h1) (hz _ _ g1) xa xb (hl _ _ h1) (hl _ _ g1) (by (first | lia | omega)) (fun k v hkv => ?_) hq)
        obtain ⟨i, hi, hkv⟩ := List.getElem_of_mem hkv
        have k1 : vs[i]? = some (k, v) := by rw [List.getElem?_eq_getElem hi, hkv]
        have m1 : ds[i]? = some (ds[i]'(by (first | lia | omega))) := List.getElem?_eq_getElem (by (first | lia | omega))
        have hk : (ds[i]'(by (first | lia | omega))).1 = k := by
          have e1 := congrArg (fun l => l[i]?) h3
          simp only [List.getElem?_map, k1, m1, Option.map_some, Option.some.injEq] at e1
          exact e1.symm
        obtain ⟨e, he, hs⟩ := h.2 k (ds[i]'(by (first | lia | omega))).2 (by rw [← hk]; exact List.getElem_mem _)
        obtain ⟨u, hu1, hu2⟩ := RepK.look_some (vs := us) ⟨g3, g4⟩ he
        exact ⟨u, hu1, (ih A.in1 _ _ _ _ hs (h4 i _ _ k1 m1) hu2 (by show A.units + 1 + n < cLine; (first | lia | omega))).2⟩
      | _ => exact False.elim h

theorem SameN.refl_of : ∀ (n : Nat) (d : D), (∀ m, m ≤ n → True) → SameN n d d → SameN n d d := fun _ _ _ h => h
end

section
variable {prog : Program} {w : World} {A : Around} {E : Value → Shared → Prop} {C : Cx} {L : Addr} {m : Str → Option Value} {X : List (Addr × OP)} {Fs : List Fact} {s : Shared} {env : Env} {mg : Str → Option Value}

theorem r_eqSame {n : Nat} {v u : Value} {d e : D} {Q : Value → Shared → Prop} (H : St C L m X Fs s) (hv : Kn Fs v d) (hu : Kn Fs u e) (h : SameN n d e) (hr : A.units + n < cLine) (hQ : Q (.bool true) s) : wpAny (model prog w) A (compareOp .Eq v u) Q E s := by
  obtain ⟨Z, k⟩ := H
  exact (rc_same k.fz k.zl n A v u d e h (hv Z k.fs) (hu Z k.fs) hr).1 prog w E Q hQ
theorem eqAt_St {n : Nat} {v u : Value} {d e : D} (H : St C L m X Fs s) (hv : Kn Fs v d) (hu : Kn Fs u e) (h : SameN n d e) (hr : A.units + n < cLine) : EqAt A s v u true := by
  obtain ⟨Z, k⟩ := H
  exact (rc_same k.fz k.zl n A v u d e h (hv Z k.fs) (hu Z k.fs) hr).2
/-- two lists that are one: != says no -/
theorem r_neLists {n : Nat} {a b : Addr} {l l' : List D} {Q : Value → Shared → Prop} (H : St C L m X Fs s) (hv : Kn Fs (.ref a) (.lst l)) (hu : Kn Fs (.ref b) (.lst l')) (h : SameN (n + 1) (.lst l) (.lst l')) (hr : A.units + (n + 1) < cLine) (hQ : Q (.bool false) s) :
    wpAny (model prog w) A (compareOp .NotEq (.ref a) (.ref b)) Q E s := by
  obtain ⟨Z, k⟩ := H
  have hv' := hv Z k.fs
  have hu' := hu Z k.fs
  cases hv' with
  | @lst _ o vs _ h1 h2 h3 h4 =>
  cases hu' with
  | @lst _ o' us _ g1 g2 g3 g4 =>
  change _ ∧ _ at h
  have hlen : vs.length = us.length := by rw [h3, g3, h.1]
  have key := RcNeAt.lists (A := A) (e := fun _ => true) (list_of (k.fz _ _ h1) h2) (list_of (k.fz _ _ g1) g2) (by simpa using hlen) (by (first | lia | omega)) (fun j j1 j2 => by
    have j1' : j < vs.length := by simpa using j1
    have j2' : j < us.length := by simpa using j2
    have k1 : vs[j]? = some vs[j] := List.getElem?_eq_getElem j1'
    have k2 : us[j]? = some us[j] := List.getElem?_eq_getElem j2'
    have m1 : l[j]? = some (l[j]'(by (first | lia | omega))) := List.getElem?_eq_getElem (by (first | lia | omega))
    have m2 : l'[j]? = some (l'[j]'(by (first | lia | omega))) := List.getElem?_eq_getElem (by (first | lia | omega))
    simpa using (rc_same k.fz k.zl n A.in1 _ _ _ _ (h.2 j _ _ m1 m2) (h4 j _ _ k1 m1) (g4 j _ _ k2 m2) (by show A.units + 1 + n < cLine; (first | lia | omega))).2)
  rw [all_true] at key
  exact key prog w E Q hQ
theorem r_eqLen {a b : Addr} {l l' : List D} {Q : Value → Shared → Prop} (H : St C L m X Fs s) (hv : Kn Fs (.ref a) (.lst l)) (hu : Kn Fs (.ref b) (.lst l')) (hne : l.length ≠ l'.length) (hr : A.units < cLine) (hQ : Q (.bool false) s) :
    wpAny (model prog w) A (compareOp .Eq (.ref a) (.ref b)) Q E s := by
  obtain ⟨vs, ⟨o, ho, hp⟩, h1, _⟩ := H.listF hv
  obtain ⟨us, ⟨o', ho', hp'⟩, h2, _⟩ := H.listF hu
  exact eq_list_lengthsAt (list_of ho hp) (list_of ho' hp') (by simpa using (show vs.length ≠ us.length by (first | lia | omega))) hr hQ
end
end Mine
end
section
open PySem PySem.W PyProof.Rows PySem.SeqAt
set_option maxRecDepth 100000
set_option linter.unusedVariables false
namespace Mine
section
variable {prog : Program} {w : World} {A : Around} {E : Value → Shared → Prop} {C : Cx} {L : Addr} {m : Str → Option Value} {X : List (Addr × OP)} {Fs : List Fact} {s : Shared} {env : Env} {mg : Str → Option Value}

/-! sums -/
theorem ints_all {Fs : List Fact} {vs : List Value} {ns : List Int} (hv : KnL Fs vs (ns.map .int)) (H : St C L m X Fs s) : ∃ xs : Array (Int × Tok), vs.toArray = intItems xs ∧ xs.toList.map (·.1) = ns := by
  obtain ⟨Z, k⟩ := H
  obtain ⟨h1, h2⟩ := hv Z k.fs
  rw [List.length_map] at h1
  clear hv
  induction ns generalizing vs with
  | nil =>
    cases vs with
    | nil => exact ⟨#[], by simp [intItems], rfl⟩
    | cons => simp at h1
  | cons n r ih =>
    cases vs with
    | nil => simp at h1
    | cons v vs =>
      obtain ⟨xs, e1, e2⟩ := ih (vs := vs) (by simpa using h1) (fun i v d a b => h2 (i + 1) v d (by simpa using a) (by simpa using b))
      have h0 := h2 0 v (.int n) rfl rfl
      cases h0 with
      | @int _ t =>
      refine ⟨((n, t) :: xs.toList).toArray, ?_, by simp [e2]⟩
      have e1' : vs = (intItems xs).toList := by rw [← e1]
      rw [e1']; simp [intItems]
theorem r_sum {l : Addr} {ns : List Int} {Q : Value → Shared → Prop} (hh : A.handled = none) (H : St C L m X Fs s) (hv : Kn Fs (.ref l) (.lst (ns.map .int))) (h : ∀ t s', St C L m X Fs s' → Q (.int ns.sum t) s') : wpAny (model prog w) A (call (.builtin "sum") [.ref l]) Q E s := by
  obtain ⟨vs, ⟨o, ho, hp⟩, hlen, H1⟩ := H.listF hv
  obtain ⟨xs, e1, e2⟩ := ints_all (.mem (.head _)) H1
  have hl := list_of ho hp
  rw [e1] at hl
  refine sum_intListG hh hl fun h' tk t' hk => ?_
  rw [preSum_eq, List.take_of_length_le (by simp), e2]
  exact h t' _ (H.grown (tk := tk) hk)

/-! powers -/
theorem r_pow {a b : Int} {t u : Tok} {Q : Value → Shared → Prop} (H : St C L m X Fs s) (hn : 0 ≤ b) (hsz : (Builtin.Int.intBits a : Int) * b ≤ 2 ^ 27) (h : ∀ t s', St C L m X Fs s' → Q (.int (a ^ b.toNat) t) s') : wpAny (model prog w) A (binaryOp .Pow (.int a t) (.int b u)) Q E s := PyProof.Rows.pow_int hn hsz (h _ _ (H.tok _))

/-! a dict laid by -/
theorem m_get2 {d : Addr} {ds : List (Int × D)} {x y : Sem Value} {pos : Pos} {Q : Value → Shared → Prop} (H : St C L m X Fs s) (hd : Kn Fs (.ref d) (.dct ds))
    (h : wpAny (model prog w) A x (fun kv s₁ => wpAny (model prog w) A y (fun dv s₂ => ∃ C L m X Fs k t, kv = .int k t ∧ St C L m X Fs s₂ ∧ Kn Fs (.ref d) (.dct ds) ∧
      (∀ e v s', look ds k = some e → St C L m X (.V v e :: Fs) s' → Q v s') ∧ (∀ s', look ds k = none → St C L m X Fs s' → Q dv s')) E s₁) E s) : MethodOn prog w A "get" pos (.ref d) [(false, x), (false, y)] Q E s := by
  obtain ⟨kvs, ep, hk, hsys, H1⟩ := H.dctF hd
  obtain ⟨o, ho, hp⟩ := H1.dctE (.mem (.head _))
  have hm : s.heap.DictOf (intKind prog w) d kvs := (dictAt_of ho hp).dictOf
  refine ⟨"dict", "dict.get", F.plainAttrs_dict, F.slot_dict_get, F.type_dict_get, hm.typeIs, hm.mapOf.noDict, wpAny_dict_get2 (knd := intKind prog w) hsys (wpAny_mono h (fun kv s₁ h₁ => wpAny_mono h₁ (fun dv s₂ h₂ => ?_) fun _ _ e => e) fun _ _ e => e)⟩
  obtain ⟨C, L, m, X, Fs, k, t, rfl, S, hd2, hs, hn⟩ := h₂
  obtain ⟨kvs2, ep2, hk2, _, S1⟩ := S.dctF hd2
  obtain ⟨o2, ho2, hp2⟩ := S1.dctE (.mem (.head _))
  refine ⟨k, _, intKind_is prog w k t, (dictAt_of ho2 hp2).dictOf.mapOf, ?_⟩
  rw [valueAt_eq]
  cases e : look ds k with
  | some x =>
    obtain ⟨v, ev, S2⟩ := KnK.lookD S1 (.mem (.tail _ (.head _))) e
    rw [ev]
    exact hs x v _ e ((S2.tok (s₂.toks + 1)).facts fun f hf => by
      rcases List.mem_cons.mp hf with rfl | hf
      · exact .mem (.head _)
      · exact .mem (.tail _ (.tail _ (.tail _ hf))))
  | none =>
    have : look kvs2 k = none := by
      have h2 := look_keys hk2 k
      rw [e] at h2
      exact Option.isNone_iff_eq_none.mp (by rw [← Option.not_isSome, h2]; rfl)
    rw [this]
    exact hn _ e (S.tok (s₂.toks + 1))

/-! dict displays -/
def DictEnd (prog : Program) (w : World) (a : Addr) (Q : Value → Shared → Prop) (vs : List (Value × Value)) (s₁ : Shared) : Prop :=
  ∃ C L m X Fs kvs, Carries (intKind prog w) vs kvs ∧ St C L m ((a, isDict []) :: X) Fs s₁ ∧ ∀ s', St C L m ((a, isDict (merged [] kvs)) :: X) Fs s' → Q (.ref a) s'
theorem r_dict {keys : List (Option Expr)} {values : List Expr} {pos : Pos} {pairs : List (Sem Value × Sem Value)} {Q : Value → Shared → Prop} (H : St C L m X Fs s)
    (hshape : (evalEachOpt keys env).zip ((evalEach values env).map fun v => do let x ← v; standAt pos; pure x) = pairs.map fun p => (some p.1, p.2)) (h0 : pairs ≠ []) (hlen : pairs.length ≤ 15)
    (h : ∀ a s', St C L m ((a, isDict []) :: X) Fs s' → wpAny (model prog w) A (evalPairs pairs) (DictEnd prog w a Q) E s') : wpAny (model prog w) A (eval (.Dict keys values pos) env) Q E s := by
  have H1 := H.push (p := isDict []) (o := { cls := .type "dict", data := .dict #[] }) ⟨0, #[], ⟨rfl, rfl, rfl⟩, rfl, .nil, .nil⟩
  refine wpAny_Dict_pairs (knd := intKind prog w) hshape h0 hlen (wpAny_mono (h _ _ H1) (fun vs s₁ h₁ => ?_) fun _ _ e => e)
  obtain ⟨C, L, m, X, Fs, kvs, hc, S, hQ⟩ := h₁
  obtain ⟨o, ho, hp⟩ := S.get (.head _)
  exact ⟨kvs, hc, dictOf_of ho hp, fun h' hm hs => hQ _ (S.upd rfl (tk := s₁.toks + vs.length) hs (isDict_of hm))⟩
theorem p_nil {Q : List (Value × Value) → Shared → Prop} (h : Q [] s) : wpAny (model prog w) A (evalPairs []) Q E s := evalPairs_nil h
theorem p_cons {k v : Expr} {pos : Pos} {rest : List (Sem Value × Sem Value)} {Q : List (Value × Value) → Shared → Prop}
    (h : wpAny (model prog w) A (eval k env) (fun kv s₁ => wpAny (model prog w) A (eval v env) (fun vv s₂ => wpAny (model prog w) A (evalPairs rest) (fun vs s₃ => Q ((kv, vv) :: vs) s₃) E s₂) E s₁) E s) :
    wpAny (model prog w) A (evalPairs ((eval k env, (do let x ← eval v env; standAt pos; pure x)) :: rest)) Q E s :=
  evalPairs_cons (wpAny_mono h (fun kv s₁ h₁ => wpAny_bind (wpAny_mono h₁ (fun vv s₂ h₂ => wpAny_bind (wpAny_standAt (wpAny_pure h₂))) fun _ _ e => e)) fun _ _ e => e)
theorem d_end1 {a : Addr} {k : Int} {t : Tok} {v : Value} {d : D} {Q : Value → Shared → Prop} (S : St C L m ((a, isDict []) :: X) Fs s) (hv : Kn Fs v d) (h : ∀ s', St C L m X (.V (.ref a) (.dct [(k, d)]) :: Fs) s' → Q (.ref a) s') : DictEnd prog w a Q [(.int k t, v)] s :=
  ⟨C, L, m, X, Fs, [(k, v)], ⟨intKind_is prog w k t, rfl, trivial⟩, S, fun s' S' => h s' (S'.freezeD (kvs := [(k, v)]) (fun Z H => .cons_ok (hv Z H) .nil_ok))⟩
theorem d_end2 {a : Addr} {k k' : Int} {t t' : Tok} {v v' : Value} {d d' : D} {Q : Value → Shared → Prop} (S : St C L m ((a, isDict []) :: X) Fs s) (hv : Kn Fs v d) (hv' : Kn Fs v' d') (hk : k ≠ k') (h : ∀ s', St C L m X (.V (.ref a) (.dct [(k, d), (k', d')]) :: Fs) s' → Q (.ref a) s') : DictEnd prog w a Q [(.int k t, v), (.int k' t', v')] s :=
  ⟨C, L, m, X, Fs, [(k, v), (k', v')], ⟨intKind_is prog w k t, rfl, intKind_is prog w k' t', rfl, trivial⟩, S, fun s' S' => h s' (by
    have e : merged [] [(k, v), (k', v')] = [(k, v), (k', v')] := by
      show stored (stored [] k v) k' v' = _
      rw [stored_eq, stored_eq]
      have e1 : put ([] : List (Int × Value)) k v = [(k, v)] := rfl
      rw [e1, put_new (by simpa using fun e => hk e.symm)]
      rfl
    rw [e] at S'
    exact S'.freezeD (kvs := [(k, v), (k', v')]) (fun Z H => .cons_ok (hv Z H) (.cons_ok (hv' Z H) .nil_ok)))⟩

/-! membership -/
theorem r_notInDict {d : Addr} {kvs : List (Int × Value)} {k : Int} {t : Tok} {Q : Value → Shared → Prop} (H : St C L m X Fs s) (hm : (d, isDict kvs) ∈ X)
    (h : ∀ s', St C L m X Fs s' → Q (.bool (!(look kvs k).isSome)) s') : wpAny (model prog w) A (compareOp .NotIn (.int k t) (.ref d)) Q E s := by
  obtain ⟨o, ho, hp⟩ := H.get hm
  exact wpAny_notIn_of (knd := intKind prog w) (intKind_is prog w k t) (H.notSys hm) (dictOf_of ho hp).mapOf (h _ (H.tok _))
/-- an empty list among lists of which none is empty -/
theorem r_nilIn {a l : Addr} {ds : List D} {Q : Value → Shared → Prop} (H : St C L m X Fs s) (hl : Kn Fs (.ref l) (.lst ds)) (ha : Kn Fs (.ref a) (.lst [])) (hd : ∀ d ∈ ds, ∃ e r, d = .lst (e :: r)) (hr : A.units + 1 < cLine)
    (h : Q (.bool false) s) : wpAny (model prog w) A (compareOp .In (.ref a) (.ref l)) Q E s := by
  obtain ⟨vs, ⟨o, ho, hp⟩, hlen, H1⟩ := H.listF hl
  have key : (vs.toArray.any fun _ => false) = false := by simp
  refine in_listAt (fun _ => false) (list_of ho hp) (fun y hy => ?_) (by rw [key]; exact h)
  obtain ⟨i, hi, rfl⟩ := List.getElem_of_mem (show y ∈ vs by simpa using hy)
  have m1 : ds[i]? = some (ds[i]'(by (first | lia | omega))) := List.getElem?_eq_getElem (by (first | lia | omega))
  obtain ⟨e, r, hd1⟩ := hd (ds[i]'(by (first | lia | omega))) (List.getElem_mem _)
  obtain ⟨Z, z⟩ := H1
  have hy' := (z.fs _ (.head _) : RepL Z vs ds).2 i _ _ (List.getElem?_eq_getElem hi) m1
  have ha' := ha Z (fun f hf => z.fs f (.tail _ hf))
  rw [hd1] at hy'
  generalize vs[i] = y at hy' ⊢
  cases hy' with
  | @lst b ob us _ h1 h2 h3 h4 =>
  cases ha' with
  | @lst _ oa ws _ g1 g2 g3 g4 =>
    refine EqAt.of_refs (fun q => ?_) (RcAt.lists_lengths (list_of (z.fz _ _ h1) h2) (list_of (z.fz _ _ g1) g2) (by simp [h3, g3]) (by show A.units + 1 < cLine; exact hr))
    subst q
    rw [h1] at g1; cases g1
    obtain ⟨n, rfl⟩ := h2
    obtain ⟨n', e⟩ := g2
    simp only [Obj.mk.injEq, Data.seq.injEq, Array.mk.injEq, true_and, and_true] at e
    have e' : us = ws := e.1
    rw [e'] at h3
    simp at g3 h3
    rw [g3] at h3; cases h3
end
end Mine
end
section
open PySem PySem.W PyProof.Rows PySem.SeqAt
set_option maxRecDepth 100000
set_option linter.unusedVariables false
namespace Mine
section
variable {prog : Program} {w : World} {A : Around} {E : Value → Shared → Prop} {C : Cx} {L : Addr} {m : Str → Option Value} {X : List (Addr × OP)} {Fs : List Fact} {s : Shared} {env : Env} {mg : Str → Option Value}

/-- x, y = e, f -/
def Two (prog : Program) (w : World) (A : Around) (env : Env) (x y : Str) (rest : List Stmt) (Q : Flow → Shared → Prop) (E : Value → Shared → Prop) (a b : Value) (s₂ : Shared) : Prop :=
  ∃ C L m X Fs, St C L m X Fs s₂ ∧ ∀ s', St C L m X Fs s' → wpAny (model prog w) A (storeName env y b) (fun _ s₃ => wpAny (model prog w) A (storeName env x a) (fun _ s₄ => wpAny (model prog w) A (execs rest env) Q E s₄) E s₃) E s'
theorem x_swap2 {x y : Str} {px py tpos vpos pos : Pos} {k k' : Nat} {e f : Expr} {rest : List Stmt} {Q : Flow → Shared → Prop} (hh : A.handled = none)
    (h : wpAny (model prog w) A (eval e env) (fun a s₁ => wpAny (model prog w) A (eval f env) (fun b s₂ => Two prog w A env x y rest Q E a b s₂) E s₁) E s)
    (he : starEach [e, f] env = (false, eval e env) :: starEach [f] env := by rfl) (hf : starEach [f] env = (false, eval f env) :: starEach [] env := by rfl)
    (hs : swapsWithSole [.Tuple [.Name x px, .Name y py] k tpos] (.Tuple [e, f] k' vpos) pos.line env = pure false := by rfl)
    (hw : swappedStores [.Tuple [.Name x px, .Name y py] k tpos] (.Tuple [e, f] k' vpos) env = pure (some [x, y]) := by rfl) :
    wpAny (model prog w) A (execs (.Assign [.Tuple [.Name x px, .Name y py] k tpos] (.Tuple [e, f] k' vpos) pos :: rest) env) Q E s := by
  refine wpAny_execs_cons (Assign_Tuple_swapped (r_tuple ?_) hs hw)
  refine wpAny_items_cons (wpAny_mono h (fun a s₁ h₁ => wpAny_items_cons (wpAny_mono h₁ (fun b s₂ h₂ => wpAny_items_nil ⟨by simp [sizeLine_eq], ?_⟩) fun _ _ e => e) hf) fun _ _ e => e) he
  obtain ⟨C, L, m, X, Fs, S, h₂⟩ := h₂
  have S1 := S.push (p := isTup [a, b]) (o := { cls := .type "tuple", data := .seq ([a, b] : List Value).toArray }) ⟨0, rfl⟩
  obtain ⟨o, ho, hp⟩ := S1.get (.head _)
  refine wpAny_unpackItems_tuple (items := #[a, b]) hh (tup_of ho hp) fun h' hx => ?_
  have S2 := S1.drop.grown (h' := h') (tk := s₂.toks) (fun c o e => hx c o (Nat.ne_of_lt (Heap.lt_size e)) e)
  exact r_inOrder (wpAny_bindName (wpAny_mono (h₂ _ S2) (fun _ s₃ h₃ => r_inOrder (wpAny_bindName (wpAny_mono h₃ (fun _ s₄ h₄ => r_inOrder0 h₄) fun _ _ e => e))) fun _ _ e => e))

/-- a tuple that is about to be unpacked -/
theorem r_tupEndX {vs : List Value} {Q : Value → Shared → Prop} (H : St C L m X Fs s) (h : ∀ a s', St C L m ((a, isTup vs) :: X) Fs s' → Q (.ref a) s') (hl : vs.length ≤ sizeLine := by (simp only [List.length_cons, List.length_nil, sizeLine_eq]; (first | lia | omega))) : TupEnd Q vs s :=
  ⟨hl, h _ _ (H.push (p := isTup vs) ⟨0, rfl⟩)⟩
theorem r_unpackX {elts : List Expr} {k : Nat} {pos : Pos} {a : Addr} {vs : List Value} {Q : Unit → Shared → Prop} (hh : A.handled = none) (H : St C L m ((a, isTup vs) :: X) Fs s) (hn : (assignEach elts env).length = vs.length) (hstar : (assignEach elts env).findIdx? (·.1) = none)
    (h : ∀ s', St C L m X Fs s' → wpAny (model prog w) A (assignInOrder ((assignEach elts env).map (·.2)) vs) Q E s') : wpAny (model prog w) A (assign (.Tuple elts k pos) env (.ref a)) Q E s := by
  obtain ⟨o, ho, hp⟩ := H.get (.head _)
  refine wpAny_assign_Tuple hh (tup_of ho hp) (by rw [hn]; simp) hstar fun h' hx => ?_
  exact h _ (H.drop.grown (tk := s.toks) fun b o e => hx b o (Nat.ne_of_lt (Heap.lt_size e)) e)

/-- x, y = a list of two -/
theorem r_unpackL2 {x y : Str} {px py pos : Pos} {k : Nat} {l : Addr} {d1 d2 : D} {Q : Unit → Shared → Prop} (hh : A.handled = none) (H : St C L m X Fs s) (ht : Kn Fs (.ref l) (.lst [d1, d2]))
    (h : ∀ a b s', St C L (upd (upd m x a) y b) X (.V a d1 :: .V b d2 :: Fs) s' → Q () s') (hL : env.locals = L := by rfl) (hx' : env.kindOf x = some .local := by rfl) (hy : env.kindOf y = some .local := by rfl)
    (hp : (env.scope.kind == .class || (env.scope.kind == .module && env.locals != env.globals)) = false := by rfl) : wpAny (model prog w) A (assign (.Tuple [.Name x px, .Name y py] k pos) env (.ref l)) Q E s := by
  obtain ⟨vs, ⟨o, ho, hpl⟩, hlen, H1⟩ := H.listF ht
  obtain ⟨a, b, rfl⟩ := len_two hlen
  have S2 : St C L m X (.V a d1 :: .V b d2 :: Fs) s := H1.facts fun f hf => by
    rcases List.mem_cons.mp hf with rfl | hf
    · exact KnL.get (i := 0) (.mem (.head _)) rfl rfl
    · rcases List.mem_cons.mp hf with rfl | hf
      · exact KnL.get (i := 1) (.mem (.head _)) rfl rfl
      · exact .mem (.tail _ hf)
  have hl := list_of ho hpl
  have hlt : l ≠ s.heap.objs.size := Nat.ne_of_lt (Heap.lt_size ho)
  rw [arm_assign_Tuple]
  refine wpAny_bind (wpAny_standAt ?_)
  unfold unpack
  refine wpAny_bind (wpAny_holding ?_)
  show wpAny _ _ (unpackItems (.ref l) 2 none) _ _ _
  unfold unpackItems
  refine wpAny_bind ?_
  unfold notIterableAtAll
  refine wpAny_bind (wpAny_specialOf hl.typeIs F.slot_list_iter.lookup ?_)
  refine wpAny_pure ?_
  simp only [Bool.false_eq_true, if_false]
  refine wpAny_bind (wpAny_holding (wpAny_pyIter_list hl ?_))
  have hit : (s.heap.push { cls := .type "list_iterator", data := .fields #[.ref l, .int 0 0] }).IsListIter s.heap.objs.size l 0 := ⟨_, Heap.get?_push_size _ rfl, rfl, rfl⟩
  have hl1 : (s.heap.push { cls := .type "list_iterator", data := .fields #[.ref l, .int 0 0] }).IsList l ([a, b] : List Value).toArray := hl.push _
  refine wpAny_bind (wpAny_holding ?_)
  show wpAny _ _ (pyNext (.ref s.heap.objs.size) >>= _) _ _ _
  refine wpAny_bind (wpAny_pyNext_list_item hit hl1 (x := a) rfl fun h1 hit1 hs1 => ?_)
  refine wpAny_bind (wpAny_holding ?_)
  show wpAny _ _ (pyNext (.ref s.heap.objs.size) >>= _) _ _ _
  have hl2 := hl1.extBut hs1.extBut hlt
  refine wpAny_bind (wpAny_pyNext_list_item hit1 hl2 (x := b) rfl fun h2 hit2 hs2 => ?_)
  refine wpAny_bind (wpAny_holding ?_)
  show wpAny _ _ (pure []) _ _ _
  refine wpAny_pure (wpAny_pure (wpAny_pure ?_))
  rw [if_neg (by simp)]
  have hl3 := hl2.extBut hs2.extBut hlt
  refine wpAny_bind (wpAny_holding (wpAny_pyNext_list_end hh hit2 hl3 rfl fun h3 hx => ?_))
  simp only [Option.isSome_none, Bool.false_eq_true, if_false]
  refine wpAny_pure ?_
  have S3 := S2.grown (h' := h3) (tk := s.toks) (fun c o e => hx c o (Nat.ne_of_lt (Heap.lt_size e)) (hs2.extBut c o (Nat.ne_of_lt (Heap.lt_size e)) (hs1.extBut c o (Nat.ne_of_lt (Heap.lt_size e)) (Heap.get?_push_of_some _ e))))
  refine r_inOrder (wpAny_assign_Name (r_store S3 (fun s2 S4 => ?_) hL hx' hp))
  refine r_inOrder (wpAny_assign_Name (r_store S4 (fun s3 S5 => ?_) hL hy hp))
  exact r_inOrder0 (h _ _ _ S5)

theorem ep_some {e : Expr} {Q : Value → Shared → Prop} (h : wpAny (model prog w) A (eval e env) Q E s) : wpAny (model prog w) A (evalPart (some e) env) Q E s := h
theorem ep_none {Q : Value → Shared → Prop} (h : Q .none s) : wpAny (model prog w) A (evalPart none env) Q E s := wpAny_pure h
theorem pick_from {vs : List Value} {k : Nat} : (slicePick vs.toArray (some (k : Int)) none none).toList = vs.drop k := by rw [slicePick_from']

/-- rules for values laid by -/
theorem truthy_lstK {l : Addr} {ds : List D} {Q : Bool → Shared → Prop} (H : St C L m X Fs s) (hl : Kn Fs (.ref l) (.lst ds)) (hs : ds.length ≤ sizeLine) (h : ∀ s', St C L m X Fs s' → Q (!ds.isEmpty) s') : wpAny (model prog w) A (truthy (.ref l)) Q E s := truthy_lst H hl hs h
end
end Mine
end
section
open PySem PySem.W PyProof.Rows
set_option maxRecDepth 100000
set_option linter.unusedVariables false
namespace Mine
noncomputable abbrev pw := PySem.Challenge.pw_xh0015_01
noncomputable def d_add : Def pw "add_callers" := ⟨_, _, _, rfl⟩
noncomputable abbrev ls (x : String) : Str := Str.ofString x

section
variable {prog : Program} {w : World} {A : Around} {E : Value → Shared → Prop} {C : Cx} {L : Addr} {m : Str → Option Value} {X : List (Addr × OP)} {Fs : List Fact} {s : Shared} {env : Env} {mg : Str → Option Value}

theorem St.nodup {d : Addr} {ds : List (Int × D)} (H : St C L m X Fs s) (h : Kn Fs (.ref d) (.dct ds)) : (ds.map (·.1)).Nodup := by
  obtain ⟨kvs, ep, hk, hsys, H1⟩ := H.dctF h
  obtain ⟨o, ho, es, _, _, _, hn⟩ := H1.dctE (.mem (.head _))
  rw [← hk]; exact hn

theorem take_snoc {α : Type} {l : List α} {i : Nat} {a : α} (h : l[i]? = some a) : l.take (i + 1) = l.take i ++ [a] := by
  rw [List.take_add_one, h]; rfl
theorem nodup_take_get {l : List (Int × D)} (hn : (l.map (·.1)).Nodup) {i : Nat} {k : Int} {d : D} (h : l[i]? = some (k, d)) : k ∉ (l.take i).map (·.1) := by
  have hi : i < l.length := (List.getElem?_eq_some_iff.mp h).1
  have e : l = l.take i ++ (k, d) :: l.drop (i + 1) := by
    rw [List.getElem?_eq_getElem hi] at h
    rw [← Option.some.inj h, List.getElem_cons_drop, List.take_append_drop]
  rw [e, List.map_append, List.map_cons] at hn
  exact fun hm => (List.nodup_append.mp hn).2.2 k hm k (.head _) rfl

/-- what the branch for a name met before does -/
def Plus (prog : Program) (w : World) (hW : Heap) (T : List Addr) (TQ : Addr → Option Str) {α : Type} (emb : α → D) (f : α → α → α) (A : Around) (env : Env) (body : List Stmt) (k : Nat) (o x : α) : Prop :=
  ∀ (E' : Value → Shared → Prop) (C1 : Cx) (m : Str → Option Value) (X : List (Addr × OP)) (Fs : List Fact) (s : Shared) (Q : Flow → Shared → Prop) (a : Addr) (kvs : List (Int × Value)) (key : Int) (tk : Tok) (vc vo : Value), C1.hW = hW → C1.T = T → C1.TQ = TQ →
    St C1 env.locals m ((a, isDict kvs) :: X) Fs s → m "func" = some (.int key tk) → m "caller" = some vc → m "new_callers" = some (.ref a) → Kn Fs vc (emb x) → look kvs key = some vo → Kn Fs vo (emb o) → kvs.length ≤ sizeLine →
    (∀ v s', St C1 env.locals m ((a, isDict (put kvs key v)) :: X) (.V v (emb (f o x)) :: Fs) s' → Q .next s') → wpAny (model prog w) A (execs body env) Q E' s

noncomputable def addBranch : List Stmt := match d_add.b with
  | [_, _, .For _ _ [.If _ b _ _] _ _, _] => b
  | _ => []

theorem add_callers_gen {α : Type} (emb : α → D) (f : α → α → α) {fa ca : Addr} {va vb : Value} {A0 B0 : List (Int × α)} {k : Nat} {Q : Value → Shared → Prop}
    (W : Wd C.hW mg) (hf : FnIs C.hW mg d_add fa ca) (H : St C L m X Fs s) (hR : Room A (k + 1)) (ha : Kn Fs va (.dct (mapV emb A0))) (hb : Kn Fs vb (.dct (mapV emb B0))) (hsz : A0.length + B0.length ≤ sizeLine)
    (hplus : ∀ A' L' o x, Room A' k → (∃ i : Nat, ∃ key, B0[i]? = some (key, x) ∧ look (mergeW f A0 (B0.take i)) key = some o) → Plus prog w C.hW C.T C.TQ emb f A' (envX "add_callers" d_add.sc L' fa (.ref ca) []) addBranch k o x)
    (h : ∀ v s', St C L m X (.V v (.dct (mapV emb (mergeW f A0 B0))) :: Fs) s' → Q v s') : wpAny (model prog w) A (call (.ref fa) [va, vb]) Q E s := by
  obtain ⟨ta, rfl⟩ := ha.isRef_dct H
  obtain ⟨tb, rfl⟩ := hb.isRef_dct H
  have hn := H.nodup ha
  refine call_g ["target", "source"] (k := k) W.nolimit hf H hR fun C' L' s₁ R0 E0 hBk hE hR' S => ?_
  have W' : Wd C'.hW mg := hE.hW ▸ W
  refine wpAny_execs_cons (wpAny_Assign_Name (r_dict0 S fun a s S => ?_))
  refine r_store S fun s S => ?_
  refine wpAny_execs_cons (wpAny_For (wpAny_Call_method0_late rfl rfl (r_local S rfl (m_items S ha fun v kvs ep s hk S => ?_))))
  refine r_iterItems S (.mem (.head _)) fun it s S => ?_
  refine r_loop (X := [(a, isDict [])]) (src_items hk) hR'.1 (fun i m X Fs' => m "source" = some (.ref tb) ∧ m "new_callers" = some (.ref a) ∧ ∃ kvs, X = [(a, isDict kvs)] ∧ KnK Fs' kvs ((mapV emb A0).take i) ∧ kvs.length ≤ i ∧ ∀ f ∈ Fs, Tells Fs' f)
    S (fun g hg => .mem (by rcases List.mem_cons.mp hg with rfl | hg; exact .head _; rcases List.mem_cons.mp hg with rfl | hg; exact .tail _ (.head _); cases hg))
    ⟨rfl, rfl, [], rfl, .nil, Nat.zero_le _, fun f hf => .mem (.tail _ (.tail _ hf))⟩ ?_ ?_
  · rintro E' R1 i d x m1 X1 Fs1 s hN hV hd ⟨hsrc, hnc, kvs1, rfl, hK, hl, hFs⟩ hG S
    rw [List.getElem?_map] at hd
    cases hdi : (mapV emb A0)[i]? with
    | none => rw [hdi] at hd; cases hd
    | some kd =>
      obtain ⟨k0, d0⟩ := kd
      rw [hdi] at hd
      simp only [Option.map_some, Option.some.injEq] at hd
      subst hd
      refine r_unpack2 hR'.1 S (.mem (.head _)) fun vk vv s S => ?_
      obtain ⟨t, rfl⟩ := Kn.isInt S (.mem (.head _))
      refine wpAny_execs_cons (wpAny_Assign_Subscript (r_local S rfl (r_local S hnc (r_local S rfl ?_))))
      have hi : i < A0.length := by have := (List.getElem?_eq_some_iff.mp hdi).1; simpa [mapV] using this
      refine r_dictSet (X := [_]) S.swap (by (first | lia | omega)) fun s S => wpAny_execs_nil ?_
      refine hN ⟨_, [(a, isDict _)], _, ?_, fun g hg => (hG g hg).up.up.up, S.swap⟩
      refine ⟨hsrc, hnc, _, rfl, ?_, ?_, fun f hf => ((hFs f hf).up.up.up)⟩
      · rw [take_snoc hdi, ← put_new (nodup_take_get hn hdi)]
        exact KnK.put hK.up.up.up (.mem (.tail _ (.head _)))
      · rw [stored_eq]; have := put_length kvs1 k0 vv; (first | lia | omega)
  · rintro m1 X1 Fs1 s ⟨hsrc, hnc, kvs1, rfl, hK, hl, hFs⟩ S
    rw [List.length_map, List.take_length] at hK
    rw [List.length_map] at hl
    refine wpAny_execs_cons (wpAny_For (wpAny_Call_method0_late rfl rfl (r_local S hsrc (m_items S (hb.sub hFs) fun v kvs ep s hk S => ?_))))
    refine r_iterItems S (.mem (.head _)) fun it s S => ?_
    refine r_loop (X := [(a, isDict kvs1)]) (src_items hk) hR'.1 (fun i m X Fs' => m "new_callers" = some (.ref a) ∧ ∃ kvs, X = [(a, isDict kvs)] ∧ KnK Fs' kvs (mapV emb (mergeW f A0 (B0.take i))) ∧ kvs.length ≤ A0.length + i ∧ ∀ f ∈ Fs, Tells Fs' f)
      S (fun g hg => .mem (by rcases List.mem_cons.mp hg with rfl | hg; exact .head _; rcases List.mem_cons.mp hg with rfl | hg; exact .tail _ (.head _); cases hg))
      ⟨hnc, kvs1, rfl, hK.up.up, by simpa [mapV] using hl, fun f hf => (hFs f hf).up.up⟩ ?_ ?_
    · rintro E' R1 i d x m1 X1 Fs1 s hN hV hd ⟨hnc, kvs2, rfl, hK, hl, hFs⟩ hG S
      rw [List.getElem?_map] at hd
      cases hdi : B0[i]? with
      | none => simp [mapV, hdi] at hd
      | some kd =>
        obtain ⟨k0, x0⟩ := kd
        have hd' : d = .tup [.int k0, emb x0] := by simpa [mapV, hdi] using hd.symm
        subst hd'
        have hi : i < B0.length := (List.getElem?_eq_some_iff.mp hdi).1
        have hm : mergeW f A0 (B0.take (i + 1)) = put (mergeW f A0 (B0.take i)) k0 (match look (mergeW f A0 (B0.take i)) k0 with | some o => f o x0 | none => x0) := by
          rw [take_snoc hdi]; unfold mergeW; rw [List.foldl_append]; rfl
        refine r_unpack2 hR'.1 S (.mem (.head _)) fun vk vv s S => ?_
        obtain ⟨t, rfl⟩ := Kn.isInt S (.mem (.head _))
        refine wpAny_execs_cons (wpAny_If (wpAny_isTrue_Compare1 (r_local S rfl (r_local S hnc (r_dictIn S (.tail _ (.head _)) fun s S => wpAny_truthy_bool ?_)))))
        cases hlk : look (mergeW f A0 (B0.take i)) k0 with
        | some o =>
          have hlk' : look (mapV emb (mergeW f A0 (B0.take i))) k0 = some (emb o) := by rw [look_mapV, hlk]; rfl
          obtain ⟨vo, e, S⟩ := KnK.lookD S hK.up.up.up hlk'
          rw [valueAt_eq, e]
          refine hplus _ _ o x0 hR' ⟨i, k0, hdi, hlk⟩ _ C' _ _ _ s _ a kvs2 k0 t vv vo hE.hW hE.T hE.TQ S.swap rfl rfl hnc (.mem (.tail _ (.tail _ (.head _)))) e (.mem (.head _)) (by (first | lia | omega)) fun v s S => wpAny_execs_nil ?_
          refine hN ⟨_, [(a, isDict _)], _, ?_, fun g hg => (hG g hg).up.up.up.up.up, S.swap⟩
          refine ⟨hnc, _, rfl, ?_, ?_, fun f hf => ((hFs f hf).up.up.up.up.up)⟩
          · rw [hm, hlk]
            dsimp only
            rw [← put_mapV]
            exact KnK.put hK.up.up.up.up.up (.mem (.head _))
          · have := put_length kvs2 k0 v; (first | lia | omega)
        | none =>
          have hno : look kvs2 k0 = none := by
            have h1 := KnK.keys hK.up.up.up S
            have h2 := look_keys h1 k0
            rw [look_mapV, hlk] at h2
            exact Option.isNone_iff_eq_none.mp (by rw [← Option.not_isSome, h2]; rfl)
          rw [valueAt_eq, hno]
          refine wpAny_execs_cons (wpAny_Assign_Subscript (r_local S rfl (r_local S hnc (r_local S rfl ?_))))
          refine r_dictSet (X := [_]) S.swap (by (first | lia | omega)) fun s S => wpAny_execs_nil (wpAny_execs_nil ?_)
          refine hN ⟨_, [(a, isDict _)], _, ?_, fun g hg => (hG g hg).up.up.up, S.swap⟩
          refine ⟨hnc, _, rfl, ?_, ?_, fun f hf => ((hFs f hf).up.up.up)⟩
          · rw [hm, hlk]
            dsimp only
            rw [← put_mapV]
            exact KnK.put hK.up.up.up (.mem (.tail _ (.head _)))
          · rw [stored_eq]; have := put_length kvs2 k0 vv; (first | lia | omega)
    · rintro m1 X1 Fs1 s ⟨hnc, kvs2, rfl, hK, hl, hFs⟩ S
      have e : ((mapV emb B0).map fun x : Int × D => D.tup [.int x.1, x.2]).length = B0.length := by simp [mapV]
      rw [e, List.take_length] at hK
      have S2 := St.freezeD (X := []) S hK
      refine wpAny_execs_cons (wpAny_Return_some (r_local S2 hnc ?_))
      refine hBk.ret S2 fun s' S' => h _ s' (S'.facts fun g hg => ?_)
      rcases List.mem_cons.mp hg with rfl | hg
      · exact .mem (.head _)
      · exact .mem (List.mem_append_right _ hg)
end
end Mine
end
section
open PySem PySem.W PyProof.Rows
set_option maxRecDepth 100000
set_option linter.unusedVariables false
namespace Mine
noncomputable def d_count : Def pw "count_calls" := ⟨_, _, _, rfl⟩
noncomputable def d_stats : Def pw "add_func_stats" := ⟨_, _, _, rfl⟩
noncomputable def d_ist : Def pw "ISTERMINAL" := ⟨_, _, _, rfl⟩
noncomputable def d_isn : Def pw "ISNONTERMINAL" := ⟨_, _, _, rfl⟩
noncomputable def d_eof : Def pw "ISEOF" := ⟨_, _, _, rfl⟩
section
variable {prog : Program} {w : World} {A : Around} {E : Value → Shared → Prop} {C : Cx} {L : Addr} {m : Str → Option Value} {X : List (Addr × OP)} {Fs : List Fact} {s : Shared} {env : Env} {mg : Str → Option Value}

theorem up1 {g : Fact} {Gs : List Fact} (H : St C L m X Gs s) (h : ∀ f ∈ g :: Fs, Tells Gs f) : St C L m X (g :: Fs) s := H.facts h
theorem back1 {g : Fact} {Gs : List Fact} (S : St C L m X (g :: Gs ++ Fs) s) : St C L m X (g :: Fs) s := S.facts fun f hf => by
  rcases List.mem_cons.mp hf with rfl | hf
  · exact .mem (.head _)
  · exact .mem (List.mem_append_right _ hf)
theorem back0 {Gs : List Fact} (S : St C L m X (Gs ++ Fs) s) : St C L m X Fs s := S.facts fun f hf => .mem (List.mem_append_right _ hf)

theorem plus_int {hW : Heap} {T : List Addr} {TQ : Addr → Option Str} {fa ca L' : Addr} {k : Nat} {o x : Int} (W : Wd hW mg) (hi : mg "isinstance" = none) (ht : mg "tuple" = none) :
    Plus prog w hW T TQ .int (· + ·) A (envX "add_callers" d_add.sc L' fa (.ref ca) []) addBranch k o x := by
  intro E' C1 m X Fs s Q a kvs key tk vc vo hW hT hTQ S hfu hca hnc hx hl ho hsz h
  have W1 : Wd C1.hW mg := hW ▸ W
  obtain ⟨tx, rfl⟩ := hx.isInt S
  obtain ⟨to, rfl⟩ := ho.isInt S
  refine wpAny_execs_cons (wpAny_If (wpAny_isTrue_value (r_callB W1 S hi (wpAny_items_cons (r_local S hca (wpAny_items_cons (r_builtin W1 S ht (wpAny_items_nil (r_isiInt S fun s S => wpAny_truthy_bool ?_)) (v := .type "tuple"))))))))
  refine wpAny_execs_cons (wpAny_AugAssign_SubscriptAny (r_local S hnc (r_local S hfu (r_dictGet S (.head _) hl fun s S => r_local S hca (r_iadd S fun t s S => r_dictSet S hsz fun s S => wpAny_execs_nil (wpAny_execs_nil ?_))))))
  exact h _ _ (S.fact Kn.int)

theorem get_map {α β : Type} {l : List α} {f : α → β} {i : Nat} {d : β} (h : (l.map f)[i]? = some d) : ∃ y, l[i]? = some y ∧ d = f y := by
  rw [List.getElem?_map] at h
  cases e : l[i]? with
  | none => rw [e] at h; cases h
  | some y => rw [e] at h; exact ⟨y, rfl, (Option.some.inj h).symm⟩
theorem mapV_vals {α β : Type} (f : α → β) (l : List (Int × α)) : (mapV f l).map (·.2) = (l.map (·.2)).map f := by simp [mapV]
theorem sum_take {l : List Int} {i : Nat} {a : Int} (h : l[i]? = some a) : (l.take (i + 1)).sum = (l.take i).sum + a := by
  rw [take_snoc h, List.sum_append]; simp
theorem count_ok {fa ca : Addr} {va : Value} {A0 : List (Int × Int)} {Q : Value → Shared → Prop}
    (W : Wd C.hW mg) (hf : FnIs C.hW mg d_count fa ca) (H : St C L m X Fs s) (hR : Room A 1) (ha : Kn Fs va (.dct (mapV .int A0)))
    (h : ∀ t s', St C L m X Fs s' → Q (.int (A0.map (·.2)).sum t) s') : wpAny (model prog w) A (call (.ref fa) [va]) Q E s := by
  obtain ⟨ta, rfl⟩ := ha.isRef_dct H
  refine call_g ["callers"] (k := 0) W.nolimit hf H hR fun C' L' s₁ R0 E0 hBk hE hR' S => ?_
  have W' : Wd C'.hW mg := hE.hW ▸ W
  refine wpAny_execs_cons (wpAny_Assign_Name (r_int S fun t s S => r_store S fun s S => ?_))
  refine wpAny_execs_cons (wpAny_For (wpAny_Call_method0_late rfl rfl (r_local S rfl (m_values S ha fun v kvs ep s hk S => r_iterVals S (.mem (.head _)) fun it s S => ?_))))
  refine r_loop (X := []) (src_vals hk) hR'.1 (fun i m X Fs' => (∃ t, m "nc" = some (.int (((A0.map (·.2)).take i).sum) t)) ∧ X = [] ∧ ∀ f ∈ Fs, Tells Fs' f)
    S (fun g hg => .mem (by rcases List.mem_cons.mp hg with rfl | hg; exact .head _; rcases List.mem_cons.mp hg with rfl | hg; exact .tail _ (.head _); cases hg))
    ⟨⟨_, rfl⟩, rfl, fun f hf => .mem (.tail _ (.tail _ hf))⟩ ?_ ?_
  · rintro E' R1 i d x m1 X1 Fs1 s hN hV hd ⟨⟨t0, hnc⟩, rfl, hFs⟩ hG S
    rw [mapV_vals] at hd
    obtain ⟨y, hdi, rfl⟩ := get_map hd
    obtain ⟨tx, rfl⟩ := Kn.isInt S (.mem (.head _))
    refine wpAny_assign_Name (r_store S fun s S => ?_)
    refine wpAny_execs_cons (wpAny_AugAssign_Name (r_loadLocal S hnc (r_local S rfl (r_iadd S fun t s S => r_store S fun s S => wpAny_execs_nil ?_))))
    refine hN ⟨_, [], _, ?_, fun g hg => (hG g hg).up, S⟩
    exact ⟨⟨t, by rw [sum_take hdi]; rfl⟩, rfl, fun f hf => (hFs f hf).up⟩
  · rintro m1 X1 Fs1 s ⟨⟨t0, hnc⟩, rfl, hFs⟩ S
    rw [show (((mapV D.int A0).map (·.2)).length) = (A0.map (·.2)).length by simp [mapV], List.take_length] at hnc
    refine wpAny_execs_cons (wpAny_Return_some (r_local S hnc ?_))
    exact hBk.ret S fun s' S' => h _ s' (back0 S')

noncomputable def stat (a b c d : Int) (t : List (Int × Int)) : D := .tup [.int a, .int b, .int c, .int d, .dct (mapV .int t)]
theorem add_int_ok {fa ca : Addr} {va vb : Value} {A0 B0 : List (Int × Int)} {Q : Value → Shared → Prop} (W : Wd C.hW mg) (hi : mg "isinstance" = none) (ht : mg "tuple" = none)
    (hf : FnIs C.hW mg d_add fa ca) (H : St C L m X Fs s) (hR : Room A 1) (ha : Kn Fs va (.dct (mapV .int A0))) (hb : Kn Fs vb (.dct (mapV .int B0))) (hsz : A0.length + B0.length ≤ sizeLine)
    (h : ∀ v s', St C L m X (.V v (.dct (mapV .int (mergeW (· + ·) A0 B0))) :: Fs) s' → Q v s') : wpAny (model prog w) A (call (.ref fa) [va, vb]) Q E s :=
  add_callers_gen (k := 0) .int (· + ·) W hf H hR ha hb hsz (fun A' L' o x _ _ => plus_int W hi ht) h
theorem stats_ok {fs cs fa ca : Addr} {va vb : Value} {a1 a2 a3 a4 b1 b2 b3 b4 : Int} {A0 B0 : List (Int × Int)} {Q : Value → Shared → Prop} (W : Wd C.hW mg) (hi : mg "isinstance" = none) (ht : mg "tuple" = none)
    (hs : FnIs C.hW mg d_stats fs cs) (hf : FnIs C.hW mg d_add fa ca) (H : St C L m X Fs s) (hR : Room A 2) (ha : Kn Fs va (stat a1 a2 a3 a4 A0)) (hb : Kn Fs vb (stat b1 b2 b3 b4 B0)) (hsz : A0.length + B0.length ≤ sizeLine)
    (h : ∀ v s', St C L m X (.V v (stat (b1 + a1) (b2 + a2) (b3 + a3) (b4 + a4) (mergeW (· + ·) A0 B0)) :: Fs) s' → Q v s') : wpAny (model prog w) A (call (.ref fs) [va, vb]) Q E s := by
  obtain ⟨ta, rfl⟩ := ha.isRef_tup H
  obtain ⟨tb, rfl⟩ := hb.isRef_tup H
  refine call_g ["target", "source"] (k := 1) W.nolimit hs H hR fun C' L' s₁ R0 E0 hBk hE hR' S => ?_
  have W' : Wd C'.hW mg := hE.hW ▸ W
  have hf' : FnIs C'.hW mg d_add fa ca := hE.hW ▸ hf
  refine wpAny_execs_cons (Assign_Tuple (r_local S rfl (r_unpack hR'.1 S hb rfl rfl fun vs s hl S => ?_)))
  obtain ⟨x1, x2, x3, x4, x5, rfl⟩ := len_five hl
  have S := S.unL.unL.unL.unL.unL.tail
  refine r_inOrder (wpAny_assign_Name (r_store S fun s S => r_inOrder (wpAny_assign_Name (r_store S fun s S => r_inOrder (wpAny_assign_Name (r_store S fun s S => r_inOrder (wpAny_assign_Name (r_store S fun s S => r_inOrder (wpAny_assign_Name (r_store S fun s S => r_inOrder0 ?_)))))))))) 
  refine wpAny_execs_cons (Assign_Tuple (r_local S rfl (r_unpack hR'.1 S ha.up.up.up.up.up rfl rfl fun vs s hl S => ?_)))
  obtain ⟨y1, y2, y3, y4, y5, rfl⟩ := len_five hl
  have S := S.unL.unL.unL.unL.unL.tail
  refine r_inOrder (wpAny_assign_Name (r_store S fun s S => r_inOrder (wpAny_assign_Name (r_store S fun s S => r_inOrder (wpAny_assign_Name (r_store S fun s S => r_inOrder (wpAny_assign_Name (r_store S fun s S => r_inOrder (wpAny_assign_Name (r_store S fun s S => r_inOrder0 ?_)))))))))) 
  refine x_ret (r_tuple ?_)
  obtain ⟨tb1, rfl⟩ := Kn.isInt S (.mem (.tail _ (.tail _ (.tail _ (.tail _ (.tail _ (.tail _ (.tail _ (.tail _ (.tail _ (.head _)))))))))))
  obtain ⟨tb2, rfl⟩ := Kn.isInt S (.mem (.tail _ (.tail _ (.tail _ (.tail _ (.tail _ (.tail _ (.tail _ (.tail _ (.head _))))))))))
  obtain ⟨tb3, rfl⟩ := Kn.isInt S (.mem (.tail _ (.tail _ (.tail _ (.tail _ (.tail _ (.tail _ (.tail _ (.head _)))))))))
  obtain ⟨tb4, rfl⟩ := Kn.isInt S (.mem (.tail _ (.tail _ (.tail _ (.tail _ (.tail _ (.tail _ (.head _))))))))
  obtain ⟨ta1, rfl⟩ := Kn.isInt S (.mem (.tail _ (.tail _ (.tail _ (.tail _ (.head _))))))
  obtain ⟨ta2, rfl⟩ := Kn.isInt S (.mem (.tail _ (.tail _ (.tail _ (.head _)))))
  obtain ⟨ta3, rfl⟩ := Kn.isInt S (.mem (.tail _ (.tail _ (.head _))))
  obtain ⟨ta4, rfl⟩ := Kn.isInt S (.mem (.tail _ (.head _)))
  refine wpAny_items_cons (wpAny_BinOp (r_local S rfl (r_local S rfl (r_add S fun t1 s S => ?_))))
  refine wpAny_items_cons (wpAny_BinOp (r_local S rfl (r_local S rfl (r_add S fun t2 s S => ?_))))
  refine wpAny_items_cons (wpAny_BinOp (r_local S rfl (r_local S rfl (r_add S fun t3 s S => ?_))))
  refine wpAny_items_cons (wpAny_BinOp (r_local S rfl (r_local S rfl (r_add S fun t4 s S => ?_))))
  refine wpAny_items_cons (r_call W' hf' S (wpAny_items_cons (r_local S rfl (wpAny_items_cons (r_local S rfl (wpAny_items_nil ⟨hf'.at S, ?_⟩))))))
  refine add_int_ok W' hi ht hf' S hR' (.mem (.head _)) (.mem (.tail _ (.tail _ (.tail _ (.tail _ (.tail _ (.head _))))))) hsz fun v s S => wpAny_items_nil ?_
  refine r_tupEnd S (.cons Kn.int (.cons Kn.int (.cons Kn.int (.cons Kn.int (.cons (.mem (.head _)) .nil))))) fun a s S => ?_
  exact hBk.ret S fun s' S' => h _ s' (back1 S')
end
end Mine
end
section
open PySem PySem.W PyProof.Rows
set_option maxRecDepth 100000
set_option linter.unusedVariables false
namespace Mine
noncomputable def d_d2i : Def pw "_digits2int" := ⟨_, _, _, rfl⟩
structure IDef (b : List Stmt) where
  a : Arguments
  body : List Stmt
  sc : Scope
  pos : Pos
  rest : List Stmt
  eq : b = .FunctionDef "inner" a body [] none [] sc none "inner" pos :: rest
noncomputable def i_d2i : IDef d_d2i.b := ⟨_, _, _, _, _, rfl⟩
noncomputable def dsum (n : Nat) : List Int → Int
  | [] => 0
  | d :: r => d + 2 ^ n * dsum n r
theorem dsum_append (n : Nat) (a b : List Int) : dsum n (a ++ b) = dsum n a + 2 ^ (n * a.length) * dsum n b := by
  induction a with
  | nil => simp [dsum]
  | cons x r ih =>
    simp only [List.cons_append, dsum, ih, List.length_cons]
    rw [Int.mul_add, ← Int.mul_assoc, ← Int.pow_add, Int.add_assoc, Nat.mul_add, Nat.mul_one, Nat.add_comm (n * r.length) n]
theorem dsum_bound (n B : Nat) (hn : 1 ≤ n) (l : List Int) (h : ∀ d ∈ l, d.natAbs < 2 ^ B) : (dsum n l).natAbs < 2 ^ (B + n * l.length) := by
  suffices hs : (dsum n l).natAbs + 2 ^ B ≤ 2 ^ B * 2 ^ (n * l.length) by
    rw [Nat.pow_add]; have := Nat.pow_pos (n := B) (show 0 < 2 by decide); (first | lia | omega)
  induction l with
  | nil => simp [dsum]
  | cons x r ih =>
    have h1 := h x (.head _)
    have h2 := ih fun d hd => h d (.tail _ hd)
    have h3 : (dsum n (x :: r)).natAbs ≤ x.natAbs + 2 ^ n * (dsum n r).natAbs := by
      simp only [dsum]
      refine Nat.le_trans (Int.natAbs_add_le _ _) ?_
      rw [Int.natAbs_mul, Int.natAbs_pow]
      exact Nat.le_refl _
    rw [List.length_cons, Nat.mul_add, Nat.mul_one, Nat.pow_add, ← Nat.mul_assoc]
    have h4 : 2 ≤ 2 ^ n := by calc 2 = 2 ^ 1 := rfl
      _ ≤ 2 ^ n := Nat.pow_le_pow_right (by decide) hn
    have h5 : 2 ^ n * ((dsum n r).natAbs + 2 ^ B) ≤ 2 ^ n * (2 ^ B * 2 ^ (n * r.length)) := Nat.mul_le_mul_left _ h2
    rw [Nat.mul_add] at h5
    have h6 : 2 * 2 ^ B ≤ 2 ^ n * 2 ^ B := Nat.mul_le_mul_right _ h4
    rw [Nat.mul_comm (2 ^ B * 2 ^ (n * r.length)) (2 ^ n)]
    (first | lia | omega)
section
variable {prog : Program} {w : World} {A : Around} {E : Value → Shared → Prop} {C : Cx} {L : Addr} {m : Str → Option Value} {X : List (Addr × OP)} {Fs : List Fact} {s : Shared} {env : Env} {mg : Str → Option Value}


theorem half_eq (a b : Nat) : ((a : Int) + (b : Int)).fdiv (2 ^ (1 : Int).toNat) = (((a + b) / 2 : Nat) : Int) := by
  rw [fdiv_two]; (first | lia | omega)

theorem d2i_inner {ci cn cd f c' vd : Addr} {qual : Str} {tn : Tok} {ds : List Int} {nb : Nat} (hnb : 1 ≤ nb ∧ nb ≤ 64) (hlen : ds.length ≤ 64) (hB : ∀ d ∈ ds, d.natAbs < 2 ^ 64) :
    ∀ (sz lo hi : Nat) (t1 t2 : Tok) {A : Around} {E : Value → Shared → Prop} {C : Cx} {L : Addr} {m : Str → Option Value} {X : List (Addr × OP)} {Fs : List Fact} {s : Shared} {Q : Value → Shared → Prop}, hi - lo ≤ sz → lo < hi → hi ≤ ds.length → C.hW.NoLimit → St C L m X Fs s → Room A (sz + 1) →
    (cd, isCell (some (.ref vd))) ∈ X → (cn, isCell (some (.int (nb : Int) tn))) ∈ X → (ci, isCell (some (.ref f))) ∈ X →
    Tells Fs (.O f (isFn "inner" qual i_d2i.a i_d2i.body i_d2i.sc [("n", cn), ("inner", ci), ("digits", cd)] (.ref c'))) → Tells Fs (.O c' (isCodeRec qual)) → Kn Fs (.ref vd) (.lst (ds.map .int)) →
    (∀ t s', St C L m X Fs s' → Q (.int (dsum nb ((ds.drop lo).take (hi - lo))) t) s') → wpAny (model prog w) A (call (.ref f) [.int (lo : Int) t1, .int (hi : Int) t2]) Q E s
  | 0, lo, hi, t1, t2, A, E, C, L, m, X, Fs, s, Q, hsz, hlt, hhi, hlim, S, hR, hcd, hcn, hci, hf, hc, hd, h => by (first | lia | omega)
  | sz + 1, lo, hi, t1, t2, A, E, C, L, m, X, Fs, s, Q, hsz, hlt, hhi, hlim, S, hR, hcd, hcn, hci, hf, hc, hd, h => by
    refine call_in ["L", "R"] (k := sz + 1) hlim S hR hf hc fun L' s₁ R0 E0 hBk hR' S => ?_
    refine x_if (wpAny_isTrue_Compare1 (wpAny_BinOp (r_local S rfl (r_int S fun t s S => r_add S fun t s S => r_local S rfl (PyProof.Rows.eq_int (wpAny_truthy_bool ?_))))))
    by_cases he : lo + 1 = hi
    · rw [if_pos (by simp; (first | lia | omega))]
      have hlo : lo < ds.length := by (first | lia | omega)
      refine x_ret (r_item (r_freeName S (.tail _ hcd) (r_local S rfl (sub_list S hd (by (first | lia | omega)) (by (first | lia | omega)) (d := .int ds[lo]) (by simp [hlo]) fun v s S => ?_))))
      obtain ⟨t, rfl⟩ := Kn.isInt S (.mem (.head _))
      refine hBk.ret S.tail fun s' S' => ?_
      have e : dsum nb ((ds.drop lo).take (hi - lo)) = ds[lo] := by
        rw [show hi - lo = 0 + 1 by (first | lia | omega), List.drop_eq_getElem_cons hlo, List.take_succ_cons, List.take_zero]; simp only [dsum, Int.mul_zero, Int.add_zero]
      rw [← e]; exact h _ s' S'
    · rw [if_neg (by simp; (first | lia | omega))]
      refine x_nil (x_assign (wpAny_BinOp (wpAny_BinOp (r_local S rfl (r_local S rfl (r_add S fun t s S => r_int S fun t s S => r_shr S (by decide) fun t s S => ?_))))))
      rw [half_eq]
      generalize hm : (lo + hi) / 2 = mid
      have h1 : lo < mid := by (first | lia | omega)
      have h2 : mid < hi := by (first | lia | omega)
      refine r_store S fun s S => x_assign (wpAny_BinOp (wpAny_BinOp (r_local S rfl (r_local S rfl (r_sub S fun t s S => r_freeName S (.tail _ hcn) (r_mul S (mulOk_small (by (first | lia | omega)) (by (first | lia | omega))) fun t s S => ?_))))))
      have esh : ((mid : Int) - (lo : Int)) * (nb : Int) = (((mid - lo) * nb : Nat) : Int) := by
        rw [Int.natCast_mul, Int.ofNat_sub (Nat.le_of_lt h1)]
      have hshle : (mid - lo) * nb ≤ 64 * 64 := Nat.mul_le_mul (by (first | lia | omega)) hnb.2
      rw [esh]
      refine r_store S fun s S => x_ret (wpAny_BinOp (wpAny_BinOp (r_callFree S (.tail _ hci) (FnAt.ofO S hf) (wpAny_items_cons (r_local S rfl (wpAny_items_cons (r_local S rfl (wpAny_items_nil ⟨FnAt.ofO S hf, ?_⟩))))))))
      refine d2i_inner hnb hlen hB sz mid hi _ _ (by (first | lia | omega)) h2 hhi hlim S hR' (.tail _ hcd) (.tail _ hcn) (.tail _ hci) hf hc hd fun t s S => ?_
      have hb1 : (dsum nb ((ds.drop mid).take (hi - mid))).natAbs < 2 ^ (64 + nb * ((ds.drop mid).take (hi - mid)).length) := dsum_bound nb 64 hnb.1 _ fun d hd => hB d (List.mem_of_mem_drop (List.mem_of_mem_take hd))
      have hl1 : ((ds.drop mid).take (hi - mid)).length = hi - mid := by simp; (first | lia | omega)
      rw [hl1] at hb1
      have hb2 : nb * (hi - mid) ≤ 64 * 64 := Nat.mul_le_mul hnb.2 (by (first | lia | omega))
      refine r_local S rfl (r_shl S (by (first | lia | omega)) (by have := bits_le hb1; (first | lia | omega)) fun t s S => ?_)
      refine r_callFree S (.tail _ hci) (FnAt.ofO S hf) (wpAny_items_cons (r_local S rfl (wpAny_items_cons (r_local S rfl (wpAny_items_nil ⟨FnAt.ofO S hf, ?_⟩)))))
      refine d2i_inner hnb hlen hB sz lo mid _ _ (by (first | lia | omega)) h1 (by (first | lia | omega)) hlim S hR' (.tail _ hcd) (.tail _ hcn) (.tail _ hci) hf hc hd fun t s S => ?_
      refine r_add S fun t s S => ?_
      refine hBk.ret S fun s' S' => ?_
      have e : dsum nb ((ds.drop lo).take (hi - lo)) = dsum nb ((ds.drop mid).take (hi - mid)) * 2 ^ (((mid - lo) * nb : Nat) : Int).toNat + dsum nb ((ds.drop lo).take (mid - lo)) := by
        have e1 : (ds.drop lo).take (hi - lo) = (ds.drop lo).take (mid - lo) ++ (ds.drop mid).take (hi - mid) := by
          rw [show hi - lo = (mid - lo) + (hi - mid) by (first | lia | omega), List.take_add, List.drop_drop, show lo + (mid - lo) = mid by (first | lia | omega)]
        have e2 : ((ds.drop lo).take (mid - lo)).length = mid - lo := by simp; (first | lia | omega)
        rw [e1, dsum_append, e2, Int.toNat_natCast, Int.mul_comm (dsum nb _), Int.add_comm, Nat.mul_comm nb]
      rw [← e]; exact h _ s' S'

theorem d2i_ok {fa ca P va : Addr} {tn : Tok} {ds : List Int} {nb : Nat} {Q : Value → Shared → Prop} (W : Wd C.hW mg) (hl : mg "len" = none) (hf : FnIs C.hW mg d_d2i fa ca) (hC : CodeHd C.hW ca P) (hP : P ∈ C.T) (hq : C.TQ P = some ("_digits2int" ++ ".<locals>." ++ "inner"))
    (H : St C L m X Fs s) (hR : Room A 70) (hd : Kn Fs (.ref va) (.lst (ds.map .int))) (hnb : 1 ≤ nb ∧ nb ≤ 64) (hlen : ds.length ≤ 64) (hB : ∀ d ∈ ds, d.natAbs < 2 ^ 64)
    (h : ∀ t s', St C L m X Fs s' → Q (.int (dsum nb ds) t) s') : wpAny (model prog w) A (call (.ref fa) [.ref va, .int (nb : Int) tn]) Q E s := by
  refine call_gC ["digits", "n"] (k := 69) W.nolimit hf H hR fun C' L' cs s₁ R0 E0 hBk hcs hE hR' S => ?_
  obtain ⟨cd, cn, ci, rfl⟩ : ∃ cd cn ci, cs = [((Str.ofString "inner"), ci), ((Str.ofString "n"), cn), ((Str.ofString "digits"), cd)] := ⟨_, _, _, hcs⟩
  have W' : Wd C'.hW mg := hE.hW ▸ W
  have S : St C' L' _ [(ci, isCell none), (cn, isCell (some (.int (nb : Int) tn))), (cd, isCell (some (.ref va)))] Fs s₁ := S
  refine r_def W' S rfl (hE.hW ▸ hC) (hE.T ▸ hP) (by rw [hE.TQ]; exact hq) fun f c' s S => ?_
  refine r_storeCell S fun s S => ?_
  refine x_ret (wpAny_IfExp (wpAny_isTrue_value (r_cellName S (.tail _ (.tail _ (.head _))) (truthy_lst S hd.up.up (by rw [List.length_map, sizeLine_eq]; (first | lia | omega)) fun s S => ?_))))
  have hf2 : ∀ {Gs : List Fact} {g1 g2 : Fact}, Tells (g1 :: g2 :: Gs) g1 := .mem (.head _)
  match ds, hd, hlen, hB, h with
  | [], hd, hlen, hB, h =>
    refine r_int S fun t s S => hBk.ret S fun s' S' => h t s' (S'.facts fun g hg => .mem (List.mem_append_right _ hg))
  | x :: r, hd, hlen, hB, h =>
    refine r_callCell S (.head _) (FnAt.ofO S (.mem (.head _))) (wpAny_items_cons (r_int S fun t1 s S => wpAny_items_cons (r_callB W' S hl (wpAny_items_cons (r_cellName S (.tail _ (.tail _ (.head _))) (wpAny_items_nil (len_list' S hd.up.up (by rw [List.length_map, sizeLine_eq]; (first | lia | omega)) fun t2 s S => wpAny_items_nil ⟨FnAt.ofO S (.mem (.head _)), ?_⟩)))))))
    rw [List.length_map]
    refine d2i_inner (lo := 0) (hi := (x :: r).length) hnb hlen hB 64 _ _ (by (first | lia | omega)) (by simp) (Nat.le_refl _) W'.nolimit S (hR'.mono (by decide)) (.tail _ (.tail _ (.head _))) (.tail _ (.head _)) (.head _) (.mem (.head _)) (.mem (.tail _ (.head _))) hd.up.up fun t s S => ?_
    refine hBk.ret S fun s' S' => ?_
    rw [Nat.sub_zero, List.drop_zero, List.take_length]
    exact h t s' (S'.facts fun g hg => .mem (List.mem_append_right _ hg))
end
end Mine
end
section
open PySem PySem.W PyProof.Rows
set_option maxRecDepth 100000
set_option linter.unusedVariables false
namespace Mine
noncomputable def d_i2d : Def pw "_int2digits" := ⟨_, _, _, rfl⟩
structure IDef2 (b : List Stmt) where
  one : Stmt
  a : Arguments
  body : List Stmt
  sc : Scope
  pos : Pos
  rest : List Stmt
  eq : b = one :: .FunctionDef "inner" a body [] none [] sc none "inner" pos :: rest
noncomputable def i_i2d : IDef2 d_i2d.b := ⟨_, _, _, _, _, _, rfl⟩

noncomputable def digs (n : Nat) : Nat → Nat → List Int
  | 0, _ => []
  | k + 1, x => ((x % 2 ^ n : Nat) : Int) :: digs n k (x / 2 ^ n)
theorem digs_len (n : Nat) : ∀ k x, (digs n k x).length = k
  | 0, _ => rfl
  | k + 1, x => by simp [digs, digs_len n k]
theorem digs_add (n k : Nat) : ∀ j x, digs n (j + k) x = digs n j (x % 2 ^ (n * j)) ++ digs n k (x / 2 ^ (n * j))
  | 0, x => by simp [digs]
  | j + 1, x => by
    rw [show j + 1 + k = (j + k) + 1 by (first | lia | omega)]
    have e : n * (j + 1) = n + n * j := by rw [Nat.mul_add, Nat.mul_one, Nat.add_comm]
    simp only [digs, digs_add n k j, List.cons_append]
    rw [e, Nat.pow_add, Nat.mod_mul_right_mod, Nat.mod_mul_right_div_self, Nat.div_div_eq_div_mul]
theorem digs_one {n x : Nat} (h : x < 2 ^ n) : digs n 1 x = [(x : Int)] := by simp [digs, Nat.mod_eq_of_lt h]
theorem digs_mem {n : Nat} : ∀ {k x} {d : Int}, d ∈ digs n k x → 0 ≤ d ∧ d < 2 ^ n
  | k + 1, x, d, h => by
    rcases List.mem_cons.mp h with rfl | h
    · refine ⟨by (first | lia | omega), ?_⟩
      have := Nat.mod_lt x (Nat.two_pow_pos n)
      have h2 : ((2 ^ n : Nat) : Int) = 2 ^ n := by simp
      (first | lia | omega)
    · exact digs_mem h
theorem and_high (x k : Nat) : x &&& (x / 2 ^ k * 2 ^ k) = x / 2 ^ k * 2 ^ k := by
  apply Nat.eq_of_testBit_eq
  intro i
  rw [Nat.testBit_and, Nat.testBit_mul_two_pow]
  by_cases h : k ≤ i
  · simp only [h, decide_true, Bool.true_and, Nat.testBit_div_two_pow, Nat.sub_add_cancel h, Bool.and_self]
  · simp [h]
theorem xor_low (x k : Nat) : Builtin.bitXor (x : Int) (((x / 2 ^ k * 2 ^ k : Nat)) : Int) = ((x % 2 ^ k : Nat) : Int) := by
  rw [bitXor_and, bitAnd_pp (by (first | lia | omega)) (by (first | lia | omega)), Int.toNat_natCast, Int.toNat_natCast, and_high]
  have := Nat.div_add_mod x (2 ^ k)
  rw [Nat.mul_comm] at this
  (first | lia | omega)

abbrev IsInts (vs : List Value) (ds : List Int) : Prop := KnL [] vs (ds.map .int)
theorem KnL.up0 {Fs : List Fact} {vs : List Value} {ds : List D} (h : KnL [] vs ds) : KnL Fs vs ds := fun Z _ => h Z (fun _ h => nomatch h)
theorem KnL.len0 {vs : List Value} {ds : List D} (h : KnL [] vs ds) : vs.length = ds.length := (h (fun _ => none) (fun _ h => nomatch h)).1
theorem KnL.set {Fs : List Fact} {vs : List Value} {ds : List D} {v : Value} {d : D} (h : KnL Fs vs ds) (hv : Kn Fs v d) (k : Nat) : KnL Fs (vs.set k v) (ds.set k d) := fun Z H => by
  have h1 := h Z H
  refine ⟨by simp [h1.1], fun i v' d' e1 e2 => ?_⟩
  by_cases e : k = i
  · subst e
    rw [List.getElem?_set_self'] at e1 e2
    cases hx : vs[k]? with
    | none => rw [hx] at e1; cases e1
    | some x =>
      cases hy : ds[k]? with
      | none => rw [hy] at e2; cases e2
      | some y => rw [hx] at e1; rw [hy] at e2; cases e1; cases e2; exact hv Z H
  · rw [List.getElem?_set_ne e] at e1 e2
    exact h1.2 i v' d' e1 e2
theorem IsInts.set {vs : List Value} {ds : List Int} (h : IsInts vs ds) (k : Nat) (d : Int) (t : Tok) : IsInts (vs.set k (.int d t)) (ds.set k d) := by
  have := KnL.set h (Kn.int (i := d) (t := t)) k
  rw [← List.map_set] at this
  exact this

/-- a run is laid over -/
noncomputable def lay (ds : List Int) (lo : Nat) (xs : List Int) : List Int := ds.take lo ++ xs ++ ds.drop (lo + xs.length)
theorem lay_len {ds xs : List Int} {lo : Nat} (h : lo + xs.length ≤ ds.length) : (lay ds lo xs).length = ds.length := by simp [lay]; (first | lia | omega)
theorem lay_one {ds : List Int} {lo : Nat} {d : Int} (h : lo < ds.length) : ds.set lo d = lay ds lo [d] := by
  rw [List.set_eq_take_append_cons_drop, if_pos h]
  simp [lay]
theorem lay_lay {ds xs ys : List Int} {lo : Nat} (h : lo + xs.length ≤ ds.length) : lay (lay ds lo xs) (lo + xs.length) ys = lay ds lo (xs ++ ys) := by
  have e1 : (ds.take lo ++ xs).length = lo + xs.length := by simp; (first | lia | omega)
  unfold lay
  rw [List.take_append, e1, Nat.sub_self, List.take_zero, List.append_nil, List.take_of_length_le (by (first | lia | omega)), List.drop_append, e1, List.drop_of_length_le (by (first | lia | omega)), List.nil_append, List.drop_drop]
  simp only [List.append_assoc, List.length_append]
  rw [show lo + xs.length + (lo + xs.length + ys.length - (lo + xs.length)) = lo + (xs.length + ys.length) by (first | lia | omega)]
theorem lay_all {ds xs : List Int} (h : xs.length = ds.length) : lay ds 0 xs = xs := by simp [lay, h]

section
variable {prog : Program} {w : World} {A : Around} {E : Value → Shared → Prop} {C : Cx} {L : Addr} {m : Str → Option Value} {X : List (Addr × OP)} {Fs : List Fact} {s : Shared} {env : Env} {mg : Str → Option Value}

theorem i2d_inner {ci cn cd f c' la : Addr} {qual : Str} {tn : Tok} {nb : Nat} (hnb : 1 ≤ nb ∧ nb ≤ 64) :
    ∀ (sz lo hi x : Nat) (ds : List Int) (vs : List Value) (t0 t1 t2 : Tok) {A : Around} {E : Value → Shared → Prop} {C : Cx} {L : Addr} {m : Str → Option Value} {Y : List (Addr × OP)} {Fs : List Fact} {s : Shared} {Q : Value → Shared → Prop}, hi - lo ≤ sz → lo < hi → hi ≤ ds.length → ds.length ≤ 128 → x < 2 ^ (nb * (hi - lo)) → C.hW.NoLimit → St C L m ((la, isList vs) :: Y) Fs s → Room A (sz + 1) → IsInts vs ds →
    (cd, isCell (some (.ref la))) ∈ Y → (cn, isCell (some (.int (nb : Int) tn))) ∈ Y → (ci, isCell (some (.ref f))) ∈ Y →
    Tells Fs (.O f (isFn "inner" qual i_i2d.a i_i2d.body i_i2d.sc [("n", cn), ("inner", ci), ("a_digits", cd)] (.ref c'))) → Tells Fs (.O c' (isCodeRec qual)) →
    (∀ vs' s', IsInts vs' (lay ds lo (digs nb (hi - lo) x)) → St C L m ((la, isList vs') :: Y) Fs s' → Q .none s') → wpAny (model prog w) A (call (.ref f) [.int (x : Int) t0, .int (lo : Int) t1, .int (hi : Int) t2]) Q E s
  | 0, lo, hi, x, ds, vs, t0, t1, t2, A, E, C, L, m, Y, Fs, s, Q, hsz, hlt, hhi, hds, hx, hlim, S, hR, hi0, hcd, hcn, hci, hf, hc, h => by (first | lia | omega)
  | sz + 1, lo, hi, x, ds, vs, t0, t1, t2, A, E, C, L, m, Y, Fs, s, Q, hsz, hlt, hhi, hds, hx, hlim, S, hR, hi0, hcd, hcn, hci, hf, hc, h => by
    refine call_in ["x", "L", "R"] (k := sz + 1) hlim S hR hf hc fun L' s₁ R0 E0 hBk hR' S => ?_
    have hvl : vs.length = ds.length := by rw [hi0.len0, List.length_map]
    refine x_if (wpAny_isTrue_Compare1 (wpAny_BinOp (r_local S rfl (r_int S fun t s S => r_add S fun t s S => r_local S rfl (PyProof.Rows.eq_int (wpAny_truthy_bool ?_))))))
    by_cases he : lo + 1 = hi
    · rw [if_pos (by simp; (first | lia | omega))]
      refine x_assignSub (r_local S rfl (r_freeName S (.tail _ (.tail _ hcd)) (r_local S rfl ?_)))
      refine r_setItemL S.swap (by (first | lia | omega)) (by rw [sizeLine_eq]; (first | lia | omega)) fun s S => ?_
      refine x_ret0 ?_
      refine hBk.ret S.swap fun s' S' => ?_
      refine h _ s' ?_ S'
      rw [show hi - lo = 1 by (first | lia | omega)] at hx ⊢
      rw [digs_one (by simpa using hx), ← lay_one (by (first | lia | omega))]
      exact hi0.set lo _ _
    · rw [if_neg (by simp; (first | lia | omega))]
      refine x_nil (x_assign (wpAny_BinOp (wpAny_BinOp (r_local S rfl (r_local S rfl (r_add S fun t s S => r_int S fun t s S => r_shr S (by decide) fun t s S => ?_))))))
      rw [half_eq]
      generalize hm : (lo + hi) / 2 = mid
      have h1 : lo < mid := by (first | lia | omega)
      have h2 : mid < hi := by (first | lia | omega)
      refine r_store S fun s S => x_assign (wpAny_BinOp (wpAny_BinOp (r_local S rfl (r_local S rfl (r_sub S fun t s S => r_freeName S (.tail _ (.tail _ hcn)) (r_mul S (mulOk_small (by (first | lia | omega)) (by (first | lia | omega))) fun t s S => ?_))))))
      have esh : ((mid : Int) - (lo : Int)) * (nb : Int) = ((nb * (mid - lo) : Nat) : Int) := by
        rw [Int.natCast_mul, Int.ofNat_sub (Nat.le_of_lt h1), Int.mul_comm]
      have hshle : nb * (mid - lo) ≤ 64 * 128 := Nat.mul_le_mul hnb.2 (by (first | lia | omega))
      rw [esh]
      generalize hsh : nb * (mid - lo) = sh at *
      refine r_store S fun s S => x_assign (wpAny_BinOp (r_local S rfl (r_local S rfl (r_shr S (by (first | lia | omega)) fun t s S => ?_))))
      have eup : (x : Int).fdiv (2 ^ ((sh : Nat) : Int).toNat) = ((x / 2 ^ sh : Nat) : Int) := by
        rw [Int.toNat_natCast, Int.fdiv_eq_ediv_of_nonneg _ (Int.pow_nonneg (by decide)), Int.natCast_ediv, Int.natCast_pow]; rfl
      rw [eup]
      refine r_store S fun s S => x_assign (wpAny_BinOp (r_local S rfl (wpAny_BinOp (r_local S rfl (r_local S rfl (r_shl S (by (first | lia | omega)) ?_ fun t s S => r_xor S fun t s S => ?_))))))
      · have hb : (((x / 2 ^ sh : Nat) : Int)).natAbs < 2 ^ (nb * (hi - lo)) := by rw [Int.natAbs_natCast]; exact Nat.lt_of_le_of_lt (Nat.div_le_self ..) hx
        have hb1 := bits_le hb
        have hb2 : nb * (hi - lo) ≤ 64 * 128 := Nat.mul_le_mul hnb.2 (by (first | lia | omega))
        (first | lia | omega)
      have elo : Builtin.bitXor (x : Int) (((x / 2 ^ sh : Nat) : Int) * 2 ^ ((sh : Nat) : Int).toNat) = ((x % 2 ^ sh : Nat) : Int) := by
        rw [← xor_low, Int.toNat_natCast, Int.natCast_mul, Int.natCast_pow]; rfl
      rw [elo]
      refine r_store S fun s S => x_expr (r_callFree S (.tail _ (.tail _ hci)) (FnAt.ofO S hf) (wpAny_items_cons (r_local S rfl (wpAny_items_cons (r_local S rfl (wpAny_items_cons (r_local S rfl (wpAny_items_nil ⟨FnAt.ofO S hf, ?_⟩))))))))
      have hadd : hi - lo = (mid - lo) + (hi - mid) := by (first | lia | omega)
      have hdl : (digs nb (mid - lo) (x % 2 ^ sh)).length = mid - lo := digs_len ..
      refine i2d_inner hnb sz lo mid _ ds vs _ _ _ (by (first | lia | omega)) h1 (by (first | lia | omega)) hds (by rw [hsh]; exact Nat.mod_lt _ (Nat.two_pow_pos _)) hlim S.swap hR' hi0 (.tail _ hcd) (.tail _ hcn) (.tail _ hci) hf hc fun vs1 s hi1 S => ⟨rfl, ?_⟩
      have S := S.swap
      refine x_expr (r_callFree S (.tail _ (.tail _ hci)) (FnAt.ofO S hf) (wpAny_items_cons (r_local S rfl (wpAny_items_cons (r_local S rfl (wpAny_items_cons (r_local S rfl (wpAny_items_nil ⟨FnAt.ofO S hf, ?_⟩))))))))
      have hl1 : (lay ds lo (digs nb (mid - lo) (x % 2 ^ sh))).length = ds.length := lay_len (by (first | lia | omega))
      refine i2d_inner hnb sz mid hi _ _ vs1 _ _ _ (by (first | lia | omega)) h2 (by (first | lia | omega)) (by (first | lia | omega)) ?_ hlim S.swap hR' hi1 (.tail _ hcd) (.tail _ hcn) (.tail _ hci) hf hc fun vs2 s hi2 S => ⟨rfl, ?_⟩
      · rw [Nat.div_lt_iff_lt_mul (Nat.two_pow_pos _), ← hsh, ← Nat.pow_add, ← Nat.mul_add]
        rw [show hi - mid + (mid - lo) = hi - lo by (first | lia | omega)]; exact hx
      refine x_nil (hBk.next S.swap fun s' S' => ?_)
      refine h _ s' ?_ S'
      rw [hadd, digs_add, hsh]
      have := lay_lay (ds := ds) (xs := digs nb (mid - lo) (x % 2 ^ sh)) (ys := digs nb (hi - mid) (x / 2 ^ sh)) (lo := lo) (by (first | lia | omega))
      rw [hdl, show lo + (mid - lo) = mid by (first | lia | omega)] at this
      rw [← this]; exact hi2

/-- the count of digits -/
noncomputable def ndig (n x : Nat) : Nat := (Builtin.Int.intBits (x : Int) + n - 1) / n
theorem lt_bits (x : Nat) : x < 2 ^ Builtin.Int.intBits (x : Int) := by
  unfold Builtin.Int.intBits
  by_cases h : x = 0
  · subst h; decide
  · have : ((x : Int) == 0) = false := by rw [beq_eq_false_iff_ne]; (first | lia | omega)
    rw [this]
    simp only [Bool.false_eq_true, if_false, Int.natAbs_natCast]
    exact Nat.lt_log2_self
theorem lt_ndig {n x : Nat} (hn : 1 ≤ n) : x < 2 ^ (n * ndig n x) := by
  refine Nat.lt_of_lt_of_le (lt_bits x) (Nat.pow_le_pow_right (by decide) ?_)
  unfold ndig
  have := Nat.div_add_mod (Builtin.Int.intBits (x : Int) + n - 1) n
  have h2 := Nat.mod_lt (Builtin.Int.intBits (x : Int) + n - 1) (show n > 0 by (first | lia | omega))
  (first | lia | omega)
theorem ndig_pos {n x : Nat} (hn : 1 ≤ n) (hx : 0 < x) : 0 < ndig n x := by
  rcases Nat.eq_zero_or_pos (ndig n x) with h | h
  · have := lt_ndig (n := n) (x := x) hn
    rw [h] at this; simp at this; (first | lia | omega)
  · exact h
theorem ndig_zero {n : Nat} (hn : 1 ≤ n) : ndig n 0 = 0 := by
  unfold ndig
  rw [show Builtin.Int.intBits ((0 : Nat) : Int) = 0 from rfl]
  exact Nat.div_eq_of_lt (by (first | lia | omega))
theorem ints_rep (k : Nat) (d : Int) (t : Tok) : IsInts (List.replicate k (.int d t)) (List.replicate k d) := fun Z _ => by
  refine ⟨by simp, fun i v d' e1 e2 => ?_⟩
  rw [List.map_replicate] at e2
  rw [List.getElem?_replicate] at e1 e2
  split at e1
  · rename_i h; rw [if_pos h] at e2; cases e1; cases e2; exact .int
  · cases e1
theorem flat_one {α : Type} (k : Nat) (a : α) : (List.replicate k [a]).flatten = List.replicate k a := by
  induction k with
  | zero => rfl
  | succ k ih => rw [List.replicate_succ, List.flatten_cons, ih]; rfl

theorem i2d_ok {fa ca P : Addr} {t0 tn : Tok} {x nb : Nat} {Q : Value → Shared → Prop} (W : Wd C.hW mg) (hl : mg "len" = none) (hf : FnIs C.hW mg d_i2d fa ca) (hC : CodeHd C.hW ca P) (hP : P ∈ C.T) (hq : C.TQ P = some ("_int2digits" ++ ".<locals>." ++ "inner"))
    (H : St C L m X Fs s) (hR : Room A 130) (hnb : 1 ≤ nb ∧ nb ≤ 64) (hb : ndig nb x ≤ 128)
    (h : ∀ c s', St C L m X (.V (.ref c) (.lst ((digs nb (ndig nb x) x).map .int)) :: Fs) s' → Q (.ref c) s') : wpAny (model prog w) A (call (.ref fa) [.int (x : Int) t0, .int (nb : Int) tn]) Q E s := by
  refine call_gC ["a", "n"] (k := 129) W.nolimit hf H hR fun C' L' cs s₁ R0 E0 hBk hcs hE hR' S => ?_
  obtain ⟨ci, cd, cn, rfl⟩ : ∃ ci cd cn, cs = [((Str.ofString "inner"), ci), ((Str.ofString "a_digits"), cd), ((Str.ofString "n"), cn)] := ⟨_, _, _, hcs⟩
  have W' : Wd C'.hW mg := hE.hW ▸ W
  have S : St C' L' _ [(ci, isCell none), (cd, isCell none), (cn, isCell (some (.int (nb : Int) tn)))] Fs s₁ := S
  refine x_assign (wpAny_BinOp (r_list (wpAny_items_cons (r_int S fun t s S => wpAny_items_nil (r_listEnd S fun la s S => ?_)))))
  refine wpAny_BinOp (wpAny_BinOp (wpAny_BinOp ?_))
  refine wpAny_Call_method0_late rfl rfl (r_local S rfl (m_bits S fun u s S => ?_))
  refine r_cellName S (.tail _ (.tail _ (.tail _ (.head _)))) (r_add S fun u s S => r_int S fun u s S => r_sub S fun u s S => r_cellName S (.tail _ (.tail _ (.tail _ (.head _)))) ?_)
  refine r_fdiv S (by (first | lia | omega)) (PyProof.noPylong_small (by (first | lia | omega))) fun u s S => ?_
  have ed : ((Builtin.Int.intBits (x : Int) : Int) + (nb : Int) - 1).fdiv (nb : Int) = (ndig nb x : Int) := by
    rw [Int.fdiv_eq_ediv_of_nonneg _ (by (first | lia | omega)), ndig, Int.natCast_ediv]
    congr 1; (first | lia | omega)
  rw [ed]
  refine r_mulList S (S.get (.head _)) (by (first | lia | omega)) (by (first | lia | omega)) (by simp) (by simp; (first | lia | omega)) fun lb s S => ?_
  rw [Int.toNat_natCast, flat_one] at S
  refine r_storeCell S.drop2.rot fun s S => ?_
  refine r_def W' S.rot rfl (hE.hW ▸ hC) (hE.T ▸ hP) (by rw [hE.TQ]; exact hq) fun f c' s S => ?_
  refine r_storeCell S fun s S => ?_
  have S := S.rot
  have hv0 : IsInts (List.replicate (ndig nb x) (Value.int 0 t)) (List.replicate (ndig nb x) 0) := ints_rep _ _ _
  have hl0 : (List.replicate (ndig nb x) (0 : Int)).length = ndig nb x := List.length_replicate ..
  have hx := lt_ndig (n := nb) (x := x) hnb.1
  refine x_if (wpAny_isTrue_value (r_local S rfl (truthy_i S fun s S => ?_)))
  have hcl : (((x : Int) != 0) = true) = ¬ x = 0 := by simp
  simp only [hcl]
  by_cases h0 : x = 0
  · rw [if_neg (by simpa using h0)]
    have e0 : ndig nb x = 0 := by rw [h0]; exact ndig_zero hnb.1
    refine x_nil (x_ret (r_cellName S (.tail _ (.tail _ (.head _))) ?_))
    refine hBk.ret (S.freezeL (ds := (digs nb (ndig nb x) x).map .int) ?_) fun s' S' => h _ s' ?_
    · rw [e0]; exact .nil
    · exact S'.facts fun f hf => by
        rcases List.mem_cons.mp hf with rfl | hf
        · exact .mem (.head _)
        · exact .mem (List.mem_append_right _ hf)
  · rw [if_pos (by simpa using h0)]
    refine x_expr (r_callCell S (.tail _ (.head _)) (FnAt.ofO S (.mem (.head _))) (wpAny_items_cons (r_local S rfl (wpAny_items_cons (r_int S fun t1 s S => wpAny_items_cons (r_callB W' S hl ?_))))))
    refine wpAny_items_cons (r_cellName S (.tail _ (.tail _ (.head _))) (wpAny_items_nil (len_listX S (.head _) (by simp [sizeLine_eq]; (first | lia | omega)) fun t2 s S => wpAny_items_nil ⟨FnAt.ofO S (.mem (.head _)), ?_⟩)))
    rw [List.length_replicate]
    refine i2d_inner (lo := 0) (hi := ndig nb x) hnb 128 _ _ _ _ _ _ (by (first | lia | omega)) (ndig_pos hnb.1 (by (first | lia | omega))) (by (first | lia | omega)) (by (first | lia | omega)) (by simpa using hx) W'.nolimit S (hR'.mono (by decide)) hv0 (.tail _ (.head _)) (.tail _ (.tail _ (.head _))) (.head _) (.mem (.head _)) (.mem (.tail _ (.head _))) fun vs s hv S => ⟨rfl, ?_⟩
    rw [Nat.sub_zero, lay_all (by rw [digs_len, hl0])] at hv
    refine x_nil (x_ret (r_cellName S (.tail _ (.tail _ (.head _))) ?_))
    refine hBk.ret (S.freezeL hv.up0) fun s' S' => h _ s' ?_
    exact S'.facts fun f hf => by
        rcases List.mem_cons.mp hf with rfl | hf
        · exact .mem (.head _)
        · exact .mem (List.mem_append_right _ hf)
end
end Mine
end
section
open PySem PySem.W PyProof.Rows
set_option maxRecDepth 100000
set_option linter.unusedVariables false
namespace Mine
noncomputable def d_div2n : Def pw "_div2n1n" := ⟨_, _, _, rfl⟩
noncomputable def d_pos : Def pw "_divmod_pos" := ⟨_, _, _, rfl⟩
noncomputable def d_divmod : Def pw "int_divmod" := ⟨_, _, _, rfl⟩

/-- what the long arithmetic leans on -/
structure Glo (hW : Heap) (T : List Addr) (TQ : Addr → Option Str) (mg : Str → Option Value) : Prop where
  W : Wd hW mg
  len : mg "len" = none
  divmod : mg "divmod" = none
  reversed : mg "reversed" = none
  lim : ∃ t, mg "_DIV_LIMIT" = some (.int 4000 t)
  i2d : ∃ f c P, FnIs hW mg d_i2d f c ∧ CodeHd hW c P ∧ P ∈ T ∧ TQ P = some ("_int2digits" ++ ".<locals>." ++ "inner")
  d2i : ∃ f c P, FnIs hW mg d_d2i f c ∧ CodeHd hW c P ∧ P ∈ T ∧ TQ P = some ("_digits2int" ++ ".<locals>." ++ "inner")
  div2n : ∃ f c, FnIs hW mg d_div2n f c
  pos : ∃ f c, FnIs hW mg d_pos f c
  idm : ∃ f c, FnIs hW mg d_divmod f c
theorem Enter.glo {C C' : Cx} {L : Addr} {m : Str → Option Value} {X : List (Addr × OP)} {Fs : List Fact} {s : Shared} {mg : Str → Option Value} (hE : Enter C L m X Fs s C') (G : Glo C.hW C.T C.TQ mg) : Glo C'.hW C'.T C'.TQ mg := by
  rw [hE.hW, hE.T, hE.TQ]; exact G

section
variable {prog : Program} {w : World} {A : Around} {E : Value → Shared → Prop} {C : Cx} {L : Addr} {m : Str → Option Value} {X : List (Addr × OP)} {Fs : List Fact} {s : Shared} {env : Env} {mg : Str → Option Value}

theorem back1' {g : Fact} {Gs : List Fact} (S : St C L m X (g :: Gs ++ Fs) s) : St C L m X (g :: Fs) s := S.facts fun f hf => by
  rcases List.mem_cons.mp hf with rfl | hf
  · exact .mem (.head _)
  · exact .mem (.tail _ (List.mem_append_right _ hf))
theorem div2n_ok {fa ca : Addr} {a b n : Int} {ta tb tn : Tok} {Q : Value → Shared → Prop} (G : Glo C.hW C.T C.TQ mg) (hf : FnIs C.hW mg d_div2n fa ca) (H : St C L m X Fs s) (hR : Room A 1) (hb : b ≠ 0) (hbs : b.natAbs < 2 ^ 30) (ha : (Builtin.Int.intBits a : Int) - n ≤ 4000)
    (h : ∀ c s', St C L m X (.V (.ref c) (.tup [.int (a.fdiv b), .int (a.fmod b)]) :: Fs) s' → Q (.ref c) s') : wpAny (model prog w) A (call (.ref fa) [.int a ta, .int b tb, .int n tn]) Q E s := by
  refine call_g ["a", "b", "n"] (k := 0) G.W.nolimit hf H hR fun C' L' s₁ R0 E0 hBk hE hR' S => ?_
  have G' := hE.glo G
  obtain ⟨tl, hl⟩ := G'.lim
  refine x_if (wpAny_isTrue_Compare1 (wpAny_BinOp ?_))
  refine wpAny_Call_method0_late rfl rfl (r_local S rfl (m_bits S fun u s S => ?_))
  refine r_local S rfl (r_sub S fun u s S => r_global G'.W S hl (PyProof.Rows.le_int (wpAny_truthy_bool ?_)))
  rw [if_pos (by simpa using ha)]
  refine x_ret (r_callB G'.W S G'.divmod ?_)
  refine wpAny_items_cons (r_local S rfl (wpAny_items_cons (r_local S rfl (wpAny_items_nil ?_))))
  refine r_divmod S hb (PyProof.noPylong_small (by (first | lia | omega))) fun c s S => ?_
  exact hBk.ret S fun s' S' => h c s' (back1' S')

/-- long division, digit by digit -/
theorem dsum_digs (n : Nat) : ∀ k x, dsum n (digs n k x) = ((x % 2 ^ (n * k) : Nat) : Int)
  | 0, x => by simp [digs, dsum, Nat.mod_one]
  | k + 1, x => by
    simp only [digs, dsum, dsum_digs n k]
    have e : n * (k + 1) = n + n * k := by rw [Nat.mul_add, Nat.mul_one, Nat.add_comm]
    rw [e, Nat.pow_add, Nat.mod_mul, Int.natCast_add, Int.natCast_mul, Int.natCast_pow]
    rfl
theorem digs_get {n k x i : Nat} (hi : i < k) : (digs n k x)[i]? = some (((x / 2 ^ (n * i)) % 2 ^ n : Nat) : Int) := by
  induction k generalizing x i with
  | zero => (first | lia | omega)
  | succ k ih =>
    cases i with
    | zero => simp [digs]
    | succ i =>
      simp only [digs, List.getElem?_cons_succ]
      rw [ih (by (first | lia | omega)), Nat.div_div_eq_div_mul, ← Nat.pow_add, show n * (i + 1) = n + n * i by rw [Nat.mul_add, Nat.mul_one, Nat.add_comm]]
/-- a step from the top -/
theorem div_step {n b v d : Nat} (hb : 0 < b) : (v * n + d) / b = (v / b) * n + ((v % b) * n + d) / b ∧ (v * n + d) % b = ((v % b) * n + d) % b := by
  have e : v * n + d = ((v % b) * n + d) + (v / b * n) * b := by
    have := Nat.div_add_mod v b
    calc v * n + d = (b * (v / b) + v % b) * n + d := by rw [this]
      _ = ((v % b) * n + d) + (v / b * n) * b := by rw [Nat.add_mul, Nat.mul_comm b, Nat.mul_assoc, Nat.mul_assoc, Nat.mul_comm b n]; (first | lia | omega)
  constructor
  · conv => lhs; rw [e]
    rw [Nat.add_mul_div_right _ _ hb, Nat.add_comm]
  · conv => lhs; rw [e]
    rw [Nat.add_mul_mod_self_right]

theorem IsInts.snoc {vs : List Value} {qs : List Int} (h : IsInts vs qs) (q : Int) (t : Tok) : IsInts (vs ++ [.int q t]) (qs ++ [q]) := by
  have := KnL.append h (KnL.cons (Kn.int (Fs := []) (i := q) (t := t)) .nil)
  have e : (qs ++ [q]).map D.int = qs.map D.int ++ [D.int q] := by simp
  rw [IsInts, e]; exact this
theorem IsInts.rev {vs : List Value} {qs : List Int} (h : IsInts vs qs) : IsInts vs.reverse qs.reverse := fun Z _ => by
  obtain ⟨h1, h2⟩ := h Z (fun _ h => nomatch h)
  refine ⟨by simpa using h1, fun i v d e1 e2 => ?_⟩
  rw [List.map_reverse] at e2
  have hi : i < vs.length := by have := (List.getElem?_eq_some_iff.mp e1).1; simpa using this
  have hi2 : i < (qs.map D.int).length := by (first | lia | omega)
  rw [List.getElem?_reverse hi] at e1
  rw [List.getElem?_reverse hi2, ← h1] at e2
  exact h2 _ v d e1 e2

theorem pos_ok {fa ca : Addr} {x b : Nat} {ta tb : Tok} {Q : Value → Shared → Prop} (G : Glo C.hW C.T C.TQ mg) (hf : FnIs C.hW mg d_pos fa ca) (H : St C L m X Fs s) (hR : Room A 140) (hb : 0 < b) (hbs : b < 2 ^ 20) (hx : ndig (Builtin.Int.intBits (b : Int)) x ≤ 64)
    (h : ∀ c s', St C L m X (.V (.ref c) (.tup [.int ((x / b : Nat) : Int), .int ((x % b : Nat) : Int)]) :: Fs) s' → Q (.ref c) s') : wpAny (model prog w) A (call (.ref fa) [.int (x : Int) ta, .int (b : Int) tb]) Q E s := by
  refine call_g ["a", "b"] (k := 139) G.W.nolimit hf H hR fun C' L' s₁ R0 E0 hBk hE hR' S => ?_
  have G' := hE.glo G
  obtain ⟨f1, c1, P1, hf1, hC1, hP1, hq1⟩ := G'.i2d
  obtain ⟨f2, c2, P2, hf2, hC2, hP2, hq2⟩ := G'.d2i
  obtain ⟨f3, c3, hf3⟩ := G'.div2n
  refine x_assign (wpAny_Call_method0_late rfl rfl (r_local S rfl (m_bits S fun u s S => r_store S fun s S => ?_)))
  have hnb : 1 ≤ Builtin.Int.intBits (b : Int) ∧ Builtin.Int.intBits (b : Int) ≤ 20 := by
    refine ⟨?_, bits_le (by rw [Int.natAbs_natCast]; exact hbs)⟩
    rcases Nat.eq_zero_or_pos (Builtin.Int.intBits (b : Int)) with e | e
    · have := lt_bits b; rw [e] at this; simp at this; (first | lia | omega)
    · exact e
  have hbl := lt_bits b
  generalize hnn : Builtin.Int.intBits (b : Int) = nb at *
  have hp20 : 2 ^ nb ≤ 2 ^ 20 := Nat.pow_le_pow_right (by decide) hnb.2
  refine x_assign (r_call G'.W hf1 S (wpAny_items_cons (r_local S rfl (wpAny_items_cons (r_local S rfl (wpAny_items_nil ⟨hf1.at S, ?_⟩))))))
  refine i2d_ok G'.W G'.len hf1 hC1 hP1 hq1 S (hR'.mono (by decide)) ⟨hnb.1, by (first | lia | omega)⟩ (by (first | lia | omega)) fun la s S => r_store S fun s S => ?_
  generalize hk : ndig nb x = k at *
  have hxk : x < 2 ^ (nb * k) := by rw [← hk]; exact lt_ndig hnb.1
  refine x_assign (r_int S fun t s S => r_store S fun s S => ?_)
  refine x_assign (r_list (wpAny_items_nil (r_listEnd S fun lq s S => r_store S fun s S => ?_)))
  refine x_for (r_callT G'.W S G'.reversed (wpAny_items_cons (r_local S rfl (wpAny_items_nil (r_reversed S (.mem (.head _)) fun it s S => r_iterR S (.head _) ?_)))))
  refine r_loop (X := [(lq, isList [])]) src_rev hR'.1 (fun i m X Fs' => (∃ t, m "b" = some (.int (b : Int) t)) ∧ (∃ t, m "n" = some (.int (nb : Int) t)) ∧ (∃ t, m "r" = some (.int ((x / 2 ^ (nb * (k - i)) % b : Nat) : Int) t)) ∧ m "q_digits" = some (.ref lq) ∧
      (∃ vs qs, X = [(lq, isList vs)] ∧ IsInts vs qs ∧ qs.length = i ∧ dsum nb qs.reverse = ((x / 2 ^ (nb * (k - i)) / b : Nat) : Int) ∧ ∀ q ∈ qs, q.natAbs < 2 ^ 64) ∧ ∀ f ∈ Fs, Tells Fs' f)
    S (fun g hg => by rcases List.mem_cons.mp hg with rfl | hg; exact .mem (.head _); cases hg) ?_ ?_ ?_
  · refine ⟨⟨_, rfl⟩, ⟨_, rfl⟩, ⟨t, ?_⟩, rfl, ⟨[], [], rfl, .nil, rfl, ?_, by simp⟩, fun f hf => .mem (.tail _ hf)⟩
    · rw [Nat.sub_zero, Nat.div_eq_of_lt hxk]; simp; rfl
    · rw [Nat.sub_zero, Nat.div_eq_of_lt hxk]; simp [dsum]
  · rintro E' R1 i d v m X Fs1 s hN hV hd ⟨⟨tb, hmb⟩, ⟨tn, hmn⟩, ⟨tr, hmr⟩, hmq, ⟨vs, qs, rfl, hqs, hlen, hsum, hbd⟩, hFs⟩ hG S
    have hik : i < k := by have := (List.getElem?_eq_some_iff.mp hd).1; simpa [digs_len] using this
    rw [List.getElem?_reverse (by simpa [digs_len] using hik), List.length_map, digs_len, List.getElem?_map, digs_get (by (first | lia | omega))] at hd
    cases hd
    generalize hv : x / 2 ^ (nb * (k - i)) = v at *
    generalize hd : x / 2 ^ (nb * (k - 1 - i)) % 2 ^ nb = d at *
    have hdl : d < 2 ^ nb := by rw [← hd]; exact Nat.mod_lt _ (Nat.two_pow_pos _)
    have hrl : v % b < b := Nat.mod_lt _ hb
    have hvn : x / 2 ^ (nb * (k - (i + 1))) = v * 2 ^ nb + d := by
      rw [← hd, ← hv, show k - (i + 1) = k - 1 - i by (first | lia | omega), show nb * (k - i) = nb * (k - 1 - i) + nb by rw [← Nat.mul_succ]; congr 1; (first | lia | omega), Nat.pow_add, ← Nat.div_div_eq_div_mul]
      exact (Nat.div_add_mod' _ _).symm
    have hrm : (v % b) * 2 ^ nb + d < 2 ^ 40 := by
      have h1 : (v % b) * 2 ^ nb ≤ (2 ^ 20 - 1) * 2 ^ nb := Nat.mul_le_mul_right _ (by (first | lia | omega))
      have h2 : (2 ^ 20 - 1) * 2 ^ nb + d < 2 ^ 20 * 2 ^ nb := by (first | lia | omega)
      have h3 : 2 ^ 20 * 2 ^ nb ≤ 2 ^ 20 * 2 ^ 20 := Nat.mul_le_mul_left _ hp20
      (first | lia | omega)
    obtain ⟨td, rfl⟩ := Kn.isInt S (.mem (.head _))
    refine wpAny_assign_Name (r_store S fun s S => ?_)
    refine x_assignTup (r_call G'.W hf3 S ?_)
    refine wpAny_items_cons (wpAny_BinOp (wpAny_BinOp (r_local S hmr (r_local S hmn (r_shl S (by (first | lia | omega)) ?_ fun t s S => r_local S rfl (r_add S fun t s S => ?_))))))
    · have := bits_le (a := ((v % b : Nat) : Int)) (k := 20) (by rw [Int.natAbs_natCast]; (first | lia | omega))
      (first | lia | omega)
    refine wpAny_items_cons (r_local S hmb (wpAny_items_cons (r_local S hmn (wpAny_items_nil ⟨hf3.at S, ?_⟩))))
    have ea : ((v % b : Nat) : Int) * 2 ^ ((nb : Nat) : Int).toNat + (d : Int) = (((v % b) * 2 ^ nb + d : Nat) : Int) := by
      rw [Int.toNat_natCast, Int.natCast_add, Int.natCast_mul, Int.natCast_pow]; rfl
    rw [ea]
    refine div2n_ok G' hf3 S (hR'.mono (by decide)) (by (first | lia | omega)) (by (first | lia | omega)) ?_ fun c s S => ?_
    · have := bits_le (a := (((v % b) * 2 ^ nb + d : Nat) : Int)) (k := 40) (by rw [Int.natAbs_natCast]; exact hrm)
      (first | lia | omega)
    rw [Int.fdiv_eq_ediv_of_nonneg _ (by (first | lia | omega)), Int.fmod_eq_emod_of_nonneg _ (by (first | lia | omega)), ← Int.natCast_ediv, ← Int.natCast_emod] at S
    refine r_unpack2 hR'.1 S (.mem (.head _)) fun a' b' s S => ?_
    obtain ⟨ta', rfl⟩ := Kn.isInt S (.mem (.head _))
    obtain ⟨tb', rfl⟩ := Kn.isInt S (.mem (.tail _ (.head _)))
    refine x_expr ?_
    refine wpAny_Call_method1_late rfl rfl rfl (r_local S hmq (m_append S (.tail _ (.head _)) (r_local S rfl (r_append S.swap ?_ fun s S => ⟨rfl, x_nil ?_⟩))))
    · have := hqs.len0; rw [List.length_map] at this; rw [sizeLine_eq]; (first | lia | omega)
    obtain ⟨hs1, hs2⟩ := div_step (n := 2 ^ nb) (v := v) (d := d) hb
    refine hN ⟨_, [_], _, ?_, fun g hg => (hG g hg).up.up.up.up, S.swap⟩
    refine ⟨⟨_, hmb⟩, ⟨_, hmn⟩, ⟨tb', ?_⟩, hmq, ⟨_, _, rfl, hqs.snoc _ ta', by simp [hlen], ?_, ?_⟩, fun f hf => (hFs f hf).up.up.up.up⟩
    · rw [hvn, hs2]; rfl
    · rw [hvn, hs1, List.reverse_append, List.reverse_singleton, List.singleton_append, dsum, hsum, Int.natCast_add, Int.natCast_mul, Int.natCast_pow, Int.mul_comm, Int.add_comm]; rfl
    · intro q hq
      rcases List.mem_append.mp hq with hq | hq
      · exact hbd q hq
      · rw [List.mem_singleton.mp hq, Int.natAbs_natCast]
        exact Nat.lt_of_le_of_lt (Nat.div_le_self ..) (by (first | lia | omega))
  · rintro m X Fs1 s ⟨⟨tb, hmb⟩, ⟨tn, hmn⟩, ⟨tr, hmr⟩, hmq, ⟨vs, qs, rfl, hqs, hlen, hsum, hbd⟩, hFs⟩ S
    rw [List.length_reverse, List.length_map, digs_len] at hlen hsum hmr
    rw [Nat.sub_self, Nat.mul_zero, Nat.pow_zero, Nat.div_one] at hsum hmr
    have hvl : vs.length = k := by have := hqs.len0; rw [List.length_map] at this; (first | lia | omega)
    refine x_expr (wpAny_Call_method0_late rfl rfl (r_local S hmq (m_reverse S (by rw [sizeLine_eq]; (first | lia | omega)) fun s S => ⟨rfl, ?_⟩)))
    have S := S.freezeL hqs.rev.up0
    refine x_assign (r_call G'.W hf2 S (wpAny_items_cons (r_local S hmq (wpAny_items_cons (r_local S hmn (wpAny_items_nil ⟨hf2.at S, ?_⟩))))))
    refine d2i_ok G'.W G'.len hf2 hC2 hP2 hq2 S (hR'.mono (by decide)) (.mem (.head _)) ⟨hnb.1, by (first | lia | omega)⟩ (by rw [List.length_reverse]; (first | lia | omega)) (fun d hd => hbd d (List.mem_reverse.mp hd)) fun t s S => r_store S fun s S => ?_
    rw [hsum] at S
    refine x_ret (r_tuple (wpAny_items_cons (r_local S rfl (wpAny_items_cons (r_local S hmr (wpAny_items_nil (r_tupEnd S (.cons Kn.int (.cons Kn.int .nil)) fun c s S => ?_)))))))
    refine hBk.ret S fun s' S' => h c s' (S'.facts fun f hf => ?_)
    rcases List.mem_cons.mp hf with rfl | hf
    · exact .mem (.head _)
    · exact .mem (List.mem_append_right _ hf)
end
end Mine
end
section
open PySem PySem.W PyProof.Rows
set_option maxRecDepth 100000
set_option linter.unusedVariables false
namespace Mine
section
variable {prog : Program} {w : World} {A : Around} {E : Value → Shared → Prop} {C : Cx} {L : Addr} {m : Str → Option Value} {X : List (Addr × OP)} {Fs : List Fact} {s : Shared} {env : Env} {mg : Str → Option Value}

noncomputable def qr (a b : Int) : D := .tup [.int (a.fdiv b), .int (a.fmod b)]
theorem ndig_small {n x : Nat} (hn : 1 ≤ n) (hx : x < 2 ^ 60) : ndig n x ≤ 64 := by
  have h1 := bits_le (a := (x : Int)) (k := 60) (by rw [Int.natAbs_natCast]; exact hx)
  unfold ndig
  refine Nat.div_le_of_le_mul ?_
  have : 1 * 64 ≤ n * 64 := Nat.mul_le_mul_right _ hn
  have h3 : n + 60 ≤ n * 64 := by (first | lia | omega)
  (first | lia | omega)
theorem idm_nn {fa ca : Addr} {a b : Int} {ta tb : Tok} {Q : Value → Shared → Prop} (G : Glo C.hW C.T C.TQ mg) (hf : FnIs C.hW mg d_divmod fa ca) (H : St C L m X Fs s) (hR : Room A 141) (hb : 0 < b) (hbs : b < 2 ^ 20) (ha : 0 ≤ a) (has : a < 2 ^ 60)
    (h : ∀ c s', St C L m X (.V (.ref c) (qr a b) :: Fs) s' → Q (.ref c) s') : wpAny (model prog w) A (call (.ref fa) [.int a ta, .int b tb]) Q E s := by
  refine call_g ["a", "b"] (k := 140) G.W.nolimit hf H hR fun C' L' s₁ R0 E0 hBk hE hR' S => ?_
  have G' := hE.glo G
  obtain ⟨f1, c1, hf1⟩ := G'.pos
  refine x_if (wpAny_isTrue_Compare1 (r_local S rfl (r_int S fun t s S => PyProof.Rows.eq_int (wpAny_truthy_bool ?_))))
  rw [if_neg (by simp; (first | lia | omega))]
  refine x_if (wpAny_isTrue_Compare1 (r_local S rfl (r_int S fun t s S => PyProof.Rows.lt_int (wpAny_truthy_bool ?_))))
  rw [if_neg (by simp; (first | lia | omega))]
  refine x_if (wpAny_isTrue_Compare1 (r_local S rfl (r_int S fun t s S => PyProof.Rows.lt_int (wpAny_truthy_bool ?_))))
  rw [if_neg (by simp; (first | lia | omega))]
  obtain ⟨x, rfl⟩ := Int.eq_ofNat_of_zero_le ha
  obtain ⟨y, rfl⟩ := Int.eq_ofNat_of_zero_le (Int.le_of_lt hb)
  refine x_ret (r_call G'.W hf1 S (wpAny_items_cons (r_local S rfl (wpAny_items_cons (r_local S rfl (wpAny_items_nil ⟨hf1.at S, ?_⟩))))))
  refine pos_ok G' hf1 S (hR'.mono (by decide)) (by (first | lia | omega)) (by (first | lia | omega)) (ndig_small ?_ (by (first | lia | omega))) fun c s S => ?_
  · rcases Nat.eq_zero_or_pos (Builtin.Int.intBits (y : Int)) with e | e
    · have := lt_bits y; rw [e] at this; simp at this; (first | lia | omega)
    · exact e
  have e : D.tup [.int ((x / y : Nat) : Int), .int ((x % y : Nat) : Int)] = qr x y := by
    rw [qr, Int.fdiv_eq_ediv_of_nonneg _ (by (first | lia | omega)), Int.fmod_eq_emod_of_nonneg _ (by (first | lia | omega)), Int.natCast_ediv, Int.natCast_emod]
  rw [e] at S
  exact hBk.ret S fun s' S' => h c s' (back1' S')
theorem idm_p {fa ca : Addr} {a b : Int} {ta tb : Tok} {Q : Value → Shared → Prop} (G : Glo C.hW C.T C.TQ mg) (hf : FnIs C.hW mg d_divmod fa ca) (H : St C L m X Fs s) (hR : Room A 142) (hb : 0 < b) (hbs : b < 2 ^ 20) (has : a.natAbs < 2 ^ 60)
    (h : ∀ c s', St C L m X (.V (.ref c) (qr a b) :: Fs) s' → Q (.ref c) s') : wpAny (model prog w) A (call (.ref fa) [.int a ta, .int b tb]) Q E s := by
  by_cases ha : 0 ≤ a
  · exact idm_nn G hf H (hR.mono (by decide)) hb hbs ha (by (first | lia | omega)) h
  refine call_g ["a", "b"] (k := 141) G.W.nolimit hf H hR fun C' L' s₁ R0 E0 hBk hE hR' S => ?_
  have G' := hE.glo G
  have hf' : FnIs C'.hW mg d_divmod fa ca := hE.hW ▸ hf
  refine x_if (wpAny_isTrue_Compare1 (r_local S rfl (r_int S fun t s S => PyProof.Rows.eq_int (wpAny_truthy_bool ?_))))
  rw [if_neg (by simp; (first | lia | omega))]
  refine x_if (wpAny_isTrue_Compare1 (r_local S rfl (r_int S fun t s S => PyProof.Rows.lt_int (wpAny_truthy_bool ?_))))
  rw [if_neg (by simp; (first | lia | omega))]
  refine x_if (wpAny_isTrue_Compare1 (r_local S rfl (r_int S fun t s S => PyProof.Rows.lt_int (wpAny_truthy_bool ?_))))
  rw [if_pos (by simp; (first | lia | omega))]
  refine x_assignTup (r_call G'.W hf' S (wpAny_items_cons (wpAny_UnaryOp (r_local S rfl (r_inv S fun t s S => wpAny_items_cons (r_local S rfl (wpAny_items_nil ⟨hf'.at S, ?_⟩)))))))
  refine idm_nn G' hf' S hR' hb hbs (by (first | lia | omega)) (by (first | lia | omega)) fun c s S => r_unpack2 hR'.1 S (.mem (.head _)) fun q r s S => ?_
  obtain ⟨tq, rfl⟩ := Kn.isInt S (.mem (.head _))
  obtain ⟨tr, rfl⟩ := Kn.isInt S (.mem (.tail _ (.head _)))
  refine x_ret (r_tuple (wpAny_items_cons (wpAny_UnaryOp (r_local S rfl (r_inv S fun t s S => wpAny_items_cons (wpAny_BinOp (r_local S rfl (wpAny_UnaryOp (r_local S rfl (r_inv S fun t s S => r_add S fun t s S => wpAny_items_nil ?_))))))))))
  refine r_tupEnd S (.cons Kn.int (.cons Kn.int .nil)) fun c s S => ?_
  have e : D.tup [.int (-(-a - 1).fdiv b - 1), .int (b + (-(-a - 1).fmod b - 1))] = qr a b := by
    have key : a / b = -((-a - 1) / b) - 1 ∧ a % b = b + (-((-a - 1) % b) - 1) := by
      rw [Int.ediv_emod_unique hb]
      have h1 := Int.emod_add_mul_ediv (-a - 1) b
      have h2 := Int.emod_nonneg (-a - 1) (show b ≠ 0 by (first | lia | omega))
      have h3 := Int.emod_lt_of_pos (-a - 1) hb
      refine ⟨?_, by (first | lia | omega), by (first | lia | omega)⟩
      rw [Int.mul_sub, Int.mul_neg, Int.mul_one]
      generalize b * ((-a - 1) / b) = u at *
      (first | lia | omega)
    rw [qr, Int.fdiv_eq_ediv_of_nonneg _ (Int.le_of_lt hb), Int.fmod_eq_emod_of_nonneg _ (Int.le_of_lt hb), Int.fdiv_eq_ediv_of_nonneg _ (Int.le_of_lt hb), Int.fmod_eq_emod_of_nonneg _ (Int.le_of_lt hb), key.1, key.2]
  rw [e] at S
  refine hBk.ret S fun s' S' => h c s' (S'.facts fun f hf => ?_)
  rcases List.mem_cons.mp hf with rfl | hf
  · exact .mem (.head _)
  · exact .mem (List.mem_append_right _ hf)
theorem idm_ok {fa ca : Addr} {a b : Int} {ta tb : Tok} {Q : Value → Shared → Prop} (G : Glo C.hW C.T C.TQ mg) (hf : FnIs C.hW mg d_divmod fa ca) (H : St C L m X Fs s) (hR : Room A 143) (hb : b ≠ 0) (hbs : b.natAbs < 2 ^ 20) (has : a.natAbs < 2 ^ 60)
    (h : ∀ c s', St C L m X (.V (.ref c) (qr a b) :: Fs) s' → Q (.ref c) s') : wpAny (model prog w) A (call (.ref fa) [.int a ta, .int b tb]) Q E s := by
  by_cases hp : 0 < b
  · exact idm_p G hf H (hR.mono (by decide)) hp (by (first | lia | omega)) has h
  refine call_g ["a", "b"] (k := 142) G.W.nolimit hf H hR fun C' L' s₁ R0 E0 hBk hE hR' S => ?_
  have G' := hE.glo G
  have hf' : FnIs C'.hW mg d_divmod fa ca := hE.hW ▸ hf
  refine x_if (wpAny_isTrue_Compare1 (r_local S rfl (r_int S fun t s S => PyProof.Rows.eq_int (wpAny_truthy_bool ?_))))
  rw [if_neg (by simp; (first | lia | omega))]
  refine x_if (wpAny_isTrue_Compare1 (r_local S rfl (r_int S fun t s S => PyProof.Rows.lt_int (wpAny_truthy_bool ?_))))
  rw [if_pos (by simp; (first | lia | omega))]
  refine x_assignTup (r_call G'.W hf' S (wpAny_items_cons (wpAny_UnaryOp (r_local S rfl (r_neg S fun t s S => wpAny_items_cons (wpAny_UnaryOp (r_local S rfl (r_neg S fun t s S => wpAny_items_nil ⟨hf'.at S, ?_⟩))))))))
  refine idm_p G' hf' S hR' (by (first | lia | omega)) (by (first | lia | omega)) (by (first | lia | omega)) fun c s S => r_unpack2 hR'.1 S (.mem (.head _)) fun q r s S => ?_
  obtain ⟨tq, rfl⟩ := Kn.isInt S (.mem (.head _))
  obtain ⟨tr, rfl⟩ := Kn.isInt S (.mem (.tail _ (.head _)))
  refine x_ret (r_tuple (wpAny_items_cons (r_local S rfl (wpAny_items_cons (wpAny_UnaryOp (r_local S rfl (r_neg S fun t s S => wpAny_items_nil ?_)))))))
  refine r_tupEnd S (.cons Kn.int (.cons Kn.int .nil)) fun c s S => ?_
  have e : D.tup [.int ((-a).fdiv (-b)), .int (-(-a).fmod (-b))] = qr a b := by
    rw [qr, Int.neg_fdiv_neg, Int.neg_fmod_neg, Int.neg_neg]
  rw [e] at S
  refine hBk.ret S fun s' S' => h c s' (S'.facts fun f hf => ?_)
  rcases List.mem_cons.mp hf with rfl | hf
  · exact .mem (.head _)
  · exact .mem (List.mem_append_right _ hf)
end
end Mine
end
section
open PySem PySem.W PyProof.Rows
set_option maxRecDepth 100000
set_option linter.unusedVariables false
namespace Mine
section
variable {prog : Program} {w : World} {A : Around} {E : Value → Shared → Prop} {C : Cx} {L : Addr} {m : Str → Option Value} {X : List (Addr × OP)} {Fs : List Fact} {s : Shared} {env : Env} {mg : Str → Option Value}

noncomputable def pr (p : Int × Int) : D := .tup [.int p.1, .int p.2]
noncomputable def plus2 (o x : Int × Int) : Int × Int := (x.1 + o.1, x.2 + o.2)
theorem ne_add {N a b : Nat} (h : a ≠ b) : ((N + a : Nat) : Addr) ≠ ((N + b : Nat) : Addr) := fun q => h (Nat.add_left_cancel q)
theorem lt_ne {N t a : Nat} (h : t < N) : ((t : Nat) : Addr) ≠ ((N + a : Nat) : Addr) := fun q => by
  have q' : t = N + a := q
  (first | lia | omega)
theorem tab_code {c P : Addr} (H : St C L m X Fs s) (hC : CodeHd C.hW c P) (hP : P ∈ C.T) : ∃ ps, s.heap.IsCode c P ps ∧ s.heap.TableAt c P ps := by
  obtain ⟨Z, h⟩ := H
  obtain ⟨op, ps, e, hd, ht, _⟩ := h.tab P hP
  subst hd
  have hC' := hC.keeps fun a o e => h.wk e
  exact ⟨ps, hC'.code e ht, hC'.tab e⟩
theorem genCode {M : Model} {env : Env} {c P : Addr} {ps : Array Value} {pos : Pos} {qualname : Str} {scope : Scope} {Q : Value → Shared → Prop} (hc : env.code = .ref c) (hok : s.heap.IsCode c P ps) (htab : s.heap.TableAt c P ps)
    (hQ : ∀ code h' tk ps', Heap.ExtBut P s.heap h' → h'.IsCode c P ps' → h'.TableAt c P ps' → Q code { s with heap := h', toks := tk }) : wpAny M A (genexprCode env pos qualname scope) Q E s := by
  cases hf : codeAmong pos ps.toList with
  | some cv => exact wpAny_genexprCode_hit hc hok hf (hQ cv s.heap s.toks ps (Heap.ExtBut.refl _ _) hok htab)
  | none => exact wpAny_genexprCodeX hc hok htab hf fun c' h' tk hx _ _ hcode _ ht _ => hQ _ _ _ _ hx hcode ht

theorem plus_pair {hW : Heap} {T : List Addr} {TQ : Addr → Option Str} {fa ca P L' : Addr} {o x : Int × Int} (W : Wd hW mg) (hi : mg "isinstance" = none) (ht : mg "tuple" = none) (hz : mg "zip" = none)
    (hC : CodeHd hW ca P) (hP : P ∈ T) (hn : TQ P = none) (hR : Room A 2) :
    Plus prog w hW T TQ pr plus2 A (envX "add_callers" d_add.sc L' fa (.ref ca) []) addBranch 2 o x := by
  intro E' C1 m X Fs s Q a kvs key tk vc vo hW hT hTQ S hfu hca hnc hx hl ho hsz' h
  subst hW hT hTQ
  obtain ⟨tx, rfl⟩ := hx.isRef_tup S
  obtain ⟨to, rfl⟩ := ho.isRef_tup S
  refine wpAny_execs_cons (wpAny_If (wpAny_isTrue_value (r_callB W S hi (wpAny_items_cons (r_local S hca (wpAny_items_cons (r_builtin W S ht (wpAny_items_nil (r_isiTup S hx (wpAny_truthy_bool ?_))) (v := .type "tuple"))))))))
  rw [if_pos rfl]
  refine x_assignSub (r_callT W S ht (wpAny_items_cons ?_))
  refine wpAny_GeneratorExp_walksQT hR.1 rfl rfl (by decide) (by decide) (by decide) (by decide) (by decide) rfl hR.depth ?_ (fun _ => rfl)
  refine r_callT W S hz (wpAny_items_cons (r_local S hca (wpAny_items_cons (r_item (r_local S hnc (r_local S hfu (sub_dictX S (.head _) hl fun s S => wpAny_items_nil ?_)))))))
  obtain ⟨xs, ⟨ox, hox, hpx⟩, hlx, Sx⟩ := S.tupF hx
  obtain ⟨ys, ⟨oy, hoy, hpy⟩, hly, Sy⟩ := S.tupF ho
  obtain ⟨x1, x2, rfl⟩ := len_two hlx
  obtain ⟨y1, y2, rfl⟩ := len_two hly
  have Sx := Sx.unL.unL.tail
  have Sy := Sy.unL.unL.tail
  obtain ⟨tx1, rfl⟩ := Kn.isInt Sx (.mem (.tail _ (.head _)))
  obtain ⟨tx2, rfl⟩ := Kn.isInt Sx (.mem (.head _))
  obtain ⟨ty1, rfl⟩ := Kn.isInt Sy (.mem (.tail _ (.head _)))
  obtain ⟨ty2, rfl⟩ := Kn.isInt Sy (.mem (.head _))
  clear Sx Sy
  refine call_zipT (tup_of hox hpx) (tup_of hoy hpy) fun h1 hz1 hTI hTO hi1 hi2 hsz1 hk1 => ?_
  have S1 := S.grown (tk := s.toks) hk1
  refine wpAny_pyIter_zip hz1 ⟨W.nolimit.keeps fun b o e => S1.wk e, ?_⟩
  obtain ⟨ps, hcode, htab⟩ := tab_code S1 hC hP
  refine genCode rfl hcode htab fun code h2 tk2 ps2 hx2 hcode2 htab2 => ?_
  obtain ⟨oc2, vs2, file2, tf2, fl2, tg2, inF2, text2, tt2, op2, q1, q2, q3, q4, q5, q6, q7, q8', q9', q10, q11⟩ := id hcode2
  obtain ⟨_, q8⟩ := htab2
  have S2 := S1.genTable (tk := tk2) hP hn hx2 q8 rfl q10
  obtain ⟨bm, ob, b1, b2, b3, b4, b5, b6⟩ := W.bm
  refine wpAny_builtinsFor (globals := mainGlobals) (W.g.keeps fun b o e => S2.wk e) b1 b2 (S2.wk b3) b4 b5 b6 ?_
  have hPlt : P < C1.hW.objs.size := by obtain ⟨Z, h⟩ := S; exact (h.tW P hP).2
  have hPs : P < s.heap.objs.size := by
    obtain ⟨Z, h⟩ := S
    exact Nat.lt_of_lt_of_le hPlt (Nat.le_trans h.wsz h.sz)
  have htxs : tx < s.heap.objs.size := Heap.lt_size hox
  have htys : to < s.heap.objs.size := Heap.lt_size hoy
  generalize hN : s.heap.objs.size = N at *
  have nP : ∀ {b : Addr}, N ≤ b → b ≠ P := fun hb q => Nat.lt_irrefl _ (Nat.lt_of_lt_of_le hPs (q ▸ hb))
  have up : ∀ b o, b ≠ P → h1.get? b = some o → h2.get? b = some o := fun b o hb e => hx2 b o hb e
  have htxP : tx ≠ P := fun q => by
    obtain ⟨_, _, _, _, _, _, _, _, _, op, _, _, _, _, _, _, _, r8, r9, _, _⟩ := id hcode
    rw [← q, hk1 _ _ hox] at r8; cases r8
    obtain ⟨n, rfl⟩ := hpx; cases r9
  have htoP : to ≠ P := fun q => by
    obtain ⟨_, _, _, _, _, _, _, _, _, op, _, _, _, _, _, _, _, r8, r9, _, _⟩ := id hcode
    rw [← q, hk1 _ _ hoy] at r8; cases r8
    obtain ⟨n, rfl⟩ := hpy; cases r9
  have hp1 : h2.IsTuple tx #[.int x.1 tx1, .int x.2 tx2] := tup_of (up _ _ htxP (hk1 _ _ hox)) hpx
  have hp2 : h2.IsTuple to #[.int o.1 ty1, .int o.2 ty2] := tup_of (up _ _ htoP (hk1 _ _ hoy)) hpy
  have Zp : Zipped (N + 4) (N + 2) (N + 3) N (N + 1) [N, tx] [N + 1, to] := by
    have e0 : ∀ a, a ≠ 0 → ((N + a : Nat) : Addr) ≠ N := fun a h => ne_add (b := 0) h
    refine ⟨ne_add (by decide), ne_add (by decide), (e0 4 (by decide)).symm, ne_add (by decide), ne_add (by decide), e0 2 (by decide), ne_add (by decide), e0 3 (by decide), ne_add (by decide), (e0 1 (by decide)).symm, ?_, ?_, ?_, ?_, ?_, ?_, .head _, .head _⟩
    all_goals simp only [List.mem_cons, List.not_mem_nil, or_false, not_or]
    · exact ⟨e0 4 (by decide), (lt_ne htxs).symm⟩
    · exact ⟨ne_add (by decide), (lt_ne htys).symm⟩
    · exact ⟨e0 3 (by decide), (lt_ne htxs).symm⟩
    · exact ⟨ne_add (by decide), (lt_ne htys).symm⟩
    · exact ⟨e0 1 (by decide), (lt_ne htxs).symm⟩
    · exact ⟨(e0 1 (by decide)).symm, (lt_ne (a := 0) htys).symm⟩
  have n0 : ∀ a, ((N + a : Nat) : Addr) ≠ P := fun a => nP (Nat.le_add_right N a)
  have hz2 : IsZip h2 (N + 4) (N + 2) (N + 3) .none := up _ _ (n0 4) hz1
  have hTI2 : IsPair h2 (N + 2) (.ref N) (.ref (N + 1)) := up _ _ (n0 2) hTI
  have hTO2 : IsPair h2 (N + 3) .none .none := up _ _ (n0 3) hTO
  have hi12 : h2.IsTupleIter N tx 0 := hi1.at fun o e => up _ o (n0 0) e
  have hi22 : h2.IsTupleIter (N + 1) to 0 := hi2.at fun o e => up _ o (n0 1) e
  have hN4 : (N + 4 : Nat) < h2.objs.size := Heap.lt_size hz2
  have hcs : cStatics < N := by
    obtain ⟨Z, h⟩ := S
    have h3 : C1.hW.objs.size ≤ s.heap.objs.size := Nat.le_trans h.wsz h.sz
    rw [hN] at h3
    obtain ⟨_, hn', _⟩ := W.nolimit
    exact Nat.lt_of_lt_of_le hn'.lt h3
  have D1 : ∀ A' : Around, A'.handled = none → Draws prog w A'.in1 N [N, tx] 2 (fun i v => (#[.int x.1 tx1, .int x.2 tx2] : Array Value)[i]? = some v) (fun i h => h.IsTupleIter N tx i ∧ h.IsTuple tx #[.int x.1 tx1, .int x.2 tx2]) :=
    fun A' hA => drawsTup (A := A'.in1) hA N tx (lt_ne (a := 0) htxs) #[.int x.1 tx1, .int x.2 tx2]
  have D2 : ∀ A' : Around, A'.handled = none → Draws prog w A'.in1 (N + 1) [N + 1, to] 2 (fun i v => (#[.int o.1 ty1, .int o.2 ty2] : Array Value)[i]? = some v) (fun i h => h.IsTupleIter (N + 1) to i ∧ h.IsTuple to #[.int o.1 ty1, .int o.2 ty2]) :=
    fun A' hA => drawsTup (A := A'.in1) hA (N + 1) to (lt_ne htys) #[.int o.1 ty1, .int o.2 ty2]
  let F : Nat → Value → Prop := fun i v => ∃ t, v = .int (if i = 0 then x.1 + o.1 else x.2 + o.2) t
  have hlt : ∀ a, a ≤ 4 → (N + a : Nat) < h2.objs.size := fun a ha => Nat.lt_of_le_of_lt (Nat.add_le_add_left ha N) hN4
  refine ⟨N + 4, _, _, 2, _, _, _, fun _ => true, F, rfl, fun A' hA => walksZip hA Zp (D1 A' hA) (D2 A' hA), ?_, ⟨hz2, hTI2, ⟨_, _, hTO2⟩, ⟨hi12, hp1⟩, ⟨hi22, hp2⟩⟩, ?_, W.nolimit.keeps fun b o e => S2.wk e, ?_, ?_, ?_⟩
  · rintro i vals ⟨va, vb, _, _, rfl⟩; exact ⟨va, vb, rfl⟩
  · intro b hb
    simp only [List.mem_cons, List.mem_append, List.not_mem_nil, or_false] at hb
    rcases hb with rfl | rfl | rfl | (rfl | rfl) | rfl | rfl
    · exact hN4
    · exact hlt 2 (by decide)
    · exact hlt 3 (by decide)
    · exact hlt 0 (by decide)
    · exact Nat.lt_trans htxs (hlt 0 (by decide))
    · exact hlt 1 (by decide)
    · exact Nat.lt_trans htys (hlt 0 (by decide))
  · simp only [List.mem_cons, List.not_mem_nil, or_false, not_or]
    exact ⟨lt_ne hcs, lt_ne hcs, lt_ne (a := 0) hcs, lt_ne hcs⟩
  · intro href hkr
    refine ⟨fun A' E' i va vb t m2 hA hP hns hma hmb hk => ?_, fun A' E' i va vb t m2 hA hP _ hns hma hmb hk => ?_⟩
    · exact t_nil ⟨rfl, t.heap, t.toks, rfl, fun _ _ e => e⟩
    · obtain ⟨va', vb', h1', h2', e⟩ := hP
      simp only [Array.mk.injEq, List.cons.injEq, and_true] at e
      obtain ⟨rfl, rfl⟩ := e
      match i with
      | 0 =>
        simp at h1' h2'
        subst h1' h2'
        refine wpAny_BinOp (wpAny_Name (wpAny_loadName_local rfl rfl hns hma (wpAny_Name (wpAny_loadName_local rfl rfl hns hmb ?_) (by decide))) (by decide))
        exact PyProof.Rows.add_int ⟨⟨_, rfl⟩, t.heap, _, rfl, fun _ _ e => e⟩
      | 1 =>
        simp at h1' h2'
        subst h1' h2'
        refine wpAny_BinOp (wpAny_Name (wpAny_loadName_local rfl rfl hns hma (wpAny_Name (wpAny_loadName_local rfl rfl hns hmb ?_) (by decide))) (by decide))
        exact PyProof.Rows.add_int ⟨⟨_, rfl⟩, t.heap, _, rfl, fun _ _ e => e⟩
      | i + 2 => simp at h1'
  · intro g h5 tk5 gs hgs hg5 hsz5 hk5 hW5 hG5
    refine wpAny_items_nil (call_tuple_gen hW5.in4_3 (fun i s h => h.1.typeIs) hG5 ?_ (.head _) (fun s' acc hm hacc => ?_) (by decide))
    · intro b hb
      show b < h5.objs.size
      rw [hsz5]
      rcases List.mem_cons.mp hb with rfl | hb
      · exact Nat.lt_succ_self _
      · rcases List.mem_cons.mp hb with rfl | hb
        · exact Nat.lt_succ_of_lt hg5
        · exact Nat.lt_succ_of_lt (Nat.lt_trans (List.mem_range.mp hb) hg5)
    · have hd := hm.drawn
      have ho := hm.os
      have hgn := hm.gens
      have hmh := hm.heap
      obtain ⟨hp', gn', d', tk', os'⟩ := s'
      replace hd : d' = s.drawn := hd
      replace ho : os' = s.os := ho
      subst hd ho
      have hbare : AllBare gn' := AllBare.moved (AllBare.push (by obtain ⟨Z, h⟩ := S; exact h.gens) hgs) hgn
      have key : ∀ b o, b < N → h2.get? b = some o → hp'.get? b = some o := fun b o hb e => by
        have hNh : N < h2.objs.size := hlt 0 (by decide)
        refine hmh b o (fun hm' => ?_) (hk5 b o e)
        simp only [List.mem_cons, List.not_mem_nil, or_false] at hm'
        rcases hm' with q | q | q | q | q
        · exact Nat.lt_irrefl _ (Nat.lt_trans (q ▸ hb) hNh)
        · exact lt_ne hb q
        · exact lt_ne hb q
        · exact lt_ne (a := 0) hb q
        · exact lt_ne hb q
      have S3 := (S.genTable (tk := tk') hP hn (h' := hp') (fun b o hb e => key b o (by rw [← hN]; exact Heap.lt_size e) (up _ _ hb (hk1 _ _ e))) (key P _ hPs q8) rfl q10).genned (tk := tk') (h' := hp') (gs := gn') (fun a o e => e) hbare
      obtain ⟨hsz, hall⟩ := hacc
      replace hsz : acc.size = 2 := hsz
      obtain ⟨i0, e0, t0, ev0⟩ := hall 0 acc[0] (Array.getElem?_eq_getElem (by (first | lia | omega)))
      obtain ⟨i1, e1, t1, ev1⟩ := hall 1 acc[1] (Array.getElem?_eq_getElem (by (first | lia | omega)))
      have e0' : i0 = 0 := by
        have : (some 0 : Option Nat) = some i0 := e0
        exact (Option.some.inj this).symm
      have e1' : i1 = 1 := by
        have : (some 1 : Option Nat) = some i1 := e1
        exact (Option.some.inj this).symm
      subst e0' e1'
      have ea : acc = ([.int (x.1 + o.1) t0, .int (x.2 + o.2) t1] : List Value).toArray := by
        apply Array.ext
        · simp [hsz]
        · intro j h1 h2
          match j with
          | 0 => simpa using ev0
          | 1 => simpa using ev1
          | j + 2 => (first | lia | omega)
      subst ea
      have S4 := (S3.push (p := isTup [.int (x.1 + o.1) t0, .int (x.2 + o.2) t1]) (o := { cls := .type "tuple", data := .seq ([.int (x.1 + o.1) t0, .int (x.2 + o.2) t1] : List Value).toArray }) ⟨0, rfl⟩).freezeT (ds := [.int (x.1 + o.1), .int (x.2 + o.2)]) (.cons Kn.int (.cons Kn.int .nil))
      refine r_local S4 hnc (r_local S4 hfu (r_dictSet S4 hsz' fun s S => x_nil (x_nil ?_)))
      exact h _ _ S

theorem add_pair_ok {fa ca P : Addr} {va vb : Value} {A0 B0 : List (Int × (Int × Int))} {Q : Value → Shared → Prop} (W : Wd C.hW mg) (hi : mg "isinstance" = none) (ht : mg "tuple" = none) (hz : mg "zip" = none)
    (hC : CodeHd C.hW ca P) (hP : P ∈ C.T) (hn : C.TQ P = none) (hf : FnIs C.hW mg d_add fa ca) (H : St C L m X Fs s) (hR : Room A 3) (ha : Kn Fs va (.dct (mapV pr A0))) (hb : Kn Fs vb (.dct (mapV pr B0))) (hsz : A0.length + B0.length ≤ sizeLine)
    (h : ∀ v s', St C L m X (.V v (.dct (mapV pr (mergeW plus2 A0 B0))) :: Fs) s' → Q v s') : wpAny (model prog w) A (call (.ref fa) [va, vb]) Q E s :=
  add_callers_gen (k := 2) pr plus2 W hf H hR ha hb hsz (fun A' L' o x hR' _ => plus_pair W hi ht hz hC hP hn hR') h
end
end Mine
end
section
open PySem PySem.W PyProof.Rows PySem.SeqAt
set_option maxRecDepth 100000
set_option linter.unusedVariables false
namespace Mine
/-- what the law leans on -/
structure LG (hW : Heap) (T : List Addr) (TQ : Addr → Option Str) (mg : Str → Option Value) : Prop where
  glo : Glo hW T TQ mg
  isi : mg "isinstance" = none
  tup : mg "tuple" = none
  zip : mg "zip" = none
  range : mg "range" = none
  sum : mg "sum" = none
  enum : mg "enumerate" = none
  nt : ∃ t, mg "NT_OFFSET" = some (.int 256 t)
  em : ∃ t, mg "ENDMARKER" = some (.int 0 t)
  ist : ∃ f c, FnIs hW mg d_ist f c
  isn : ∃ f c, FnIs hW mg d_isn f c
  eof : ∃ f c, FnIs hW mg d_eof f c
  stats : ∃ f c, FnIs hW mg d_stats f c
  count : ∃ f c, FnIs hW mg d_count f c
  add : ∃ f c P, FnIs hW mg d_add f c ∧ CodeHd hW c P ∧ P ∈ T ∧ TQ P = none
theorem LG.W {hW : Heap} {T : List Addr} {TQ : Addr → Option Str} {mg : Str → Option Value} (G : LG hW T TQ mg) : Wd hW mg := G.glo.W
theorem Enter.lg {C C' : Cx} {L : Addr} {m : Str → Option Value} {X : List (Addr × OP)} {Fs : List Fact} {s : Shared} {mg : Str → Option Value} (hE : Enter C L m X Fs s C') (G : LG C.hW C.T C.TQ mg) : LG C'.hW C'.T C'.TQ mg := by
  rw [hE.hW, hE.T, hE.TQ]; exact G

theorem KnL.drop {Fs : List Fact} {vs : List Value} {ds : List D} (h : KnL Fs vs ds) (k : Nat) : KnL Fs (vs.drop k) (ds.drop k) := fun Z H => by
  obtain ⟨h1, h2⟩ := h Z H
  refine ⟨by simp [h1], fun i v d e1 e2 => h2 (k + i) v d ?_ ?_⟩
  · rw [List.getElem?_drop] at e1; exact e1
  · rw [List.getElem?_drop] at e2; exact e2
theorem filterMap_if {l : List Int} (p : Int → Bool) : (l.filterMap fun a => if p a = true then some (D.int a) else none) = (l.filter p).map .int := by
  induction l with
  | nil => rfl
  | cons a r ih =>
    rw [List.filterMap_cons, List.filter_cons]
    cases h : p a <;> simp [h, ih]

section
variable {prog : Program} {w : World} {A : Around} {E : Value → Shared → Prop} {C : Cx} {L : Addr} {m : Str → Option Value} {X : List (Addr × OP)} {Fs : List Fact} {s : Shared} {env : Env} {mg : Str → Option Value}

theorem ist_ok {fa ca : Addr} {x : Int} {t : Tok} {Q : Value → Shared → Prop} (G : LG C.hW C.T C.TQ mg) (hf : FnIs C.hW mg d_ist fa ca) (H : St C L m X Fs s) (hR : Room A 1) (h : ∀ s', St C L m X Fs s' → Q (.bool (decide (x < 256))) s') : wpAny (model prog w) A (call (.ref fa) [.int x t]) Q E s := by
  refine call_g ["x"] (k := 0) G.W.nolimit hf H hR fun C' L' s₁ R0 E0 hBk hE hR' S => ?_
  have G' := hE.lg G
  obtain ⟨t, ht⟩ := G'.nt
  exact x_ret (wpAny_Compare1 (r_local S rfl (r_global G'.W S ht (PyProof.Rows.lt_int (hBk.ret S fun s' S' => h s' (back0 S'))))))
theorem isn_ok {fa ca : Addr} {x : Int} {t : Tok} {Q : Value → Shared → Prop} (G : LG C.hW C.T C.TQ mg) (hf : FnIs C.hW mg d_isn fa ca) (H : St C L m X Fs s) (hR : Room A 1) (h : ∀ s', St C L m X Fs s' → Q (.bool (decide (256 ≤ x))) s') : wpAny (model prog w) A (call (.ref fa) [.int x t]) Q E s := by
  refine call_g ["x"] (k := 0) G.W.nolimit hf H hR fun C' L' s₁ R0 E0 hBk hE hR' S => ?_
  have G' := hE.lg G
  obtain ⟨t, ht⟩ := G'.nt
  exact x_ret (wpAny_Compare1 (r_local S rfl (r_global G'.W S ht (PyProof.Rows.ge_int (hBk.ret S fun s' S' => h s' (back0 S'))))))
theorem eof_ok {fa ca : Addr} {x : Int} {t : Tok} {Q : Value → Shared → Prop} (G : LG C.hW C.T C.TQ mg) (hf : FnIs C.hW mg d_eof fa ca) (H : St C L m X Fs s) (hR : Room A 1) (h : ∀ s', St C L m X Fs s' → Q (.bool (x == 0)) s') : wpAny (model prog w) A (call (.ref fa) [.int x t]) Q E s := by
  refine call_g ["x"] (k := 0) G.W.nolimit hf H hR fun C' L' s₁ R0 E0 hBk hE hR' S => ?_
  have G' := hE.lg G
  obtain ⟨t, ht⟩ := G'.em
  exact x_ret (wpAny_Compare1 (r_local S rfl (r_global G'.W S ht (PyProof.Rows.eq_int (hBk.ret S fun s' S' => h s' (back0 S'))))))

end
end Mine
end
section
open PySem PySem.W PyProof.Rows
set_option maxRecDepth 100000
set_option linter.unusedVariables false
namespace Mine
/-! ## a call from the top -/
section
variable {prog : Program} {w : World} {A : Around} {E : Value → Shared → Prop} {s : Shared} {mg mb : Str → Option Value} {hW h : Heap} {tabs : List (Addr × Addr)} {p q : Program} {loose : List Str} {mean : ExcName → Option Value}

theorem call_top {x : Str} {d : Def p x} {f c : Addr} {args : List Value} (names : List Str) {k : Nat} {Q : Value → Shared → Prop} {T : List Addr} {TQ : Addr → Option Str} {Z0 : FZ} {Fs : List Fact}
    (hlim : hW.NoLimit) (hf : FnIs hW mg d f c) (hw : ∀ a o, hW.get? a = some o → s.heap.get? a = some o) (hsz : hW.objs.size ≤ s.heap.objs.size) (hlow : hW.objs.size > sysModules)
    (hT : ∀ P ∈ T, hW.get? P = none ∧ hW.objs.size > P) (htab : ∀ P ∈ T, s.heap.get? P = some (tabObj #[])) (hZ : ∀ a o, Z0 a = some o → s.heap.get? a = some o ∧ (a == sysModules) = false) (hZT : ∀ P ∈ T, Z0 P = none) (hfs : AllOk Z0 Fs) (hgens : AllBare s.gens) (hR : Room A (k + 1))
    (hbody : ∀ L' cs s₁, cs = cellsFrom (L' + 1) d.sc.names [] → Room (A.deeper (envX x d.sc L' f (.ref c) cs)) k →
      St ⟨hW, T, TQ, s.heap, Z0, s.os⟩ L' (bindL (envX x d.sc L' f (.ref c) cs).kindOf (names.zip args) fun _ => none) (cs.map fun p => (p.2, isCell (bindC (envX x d.sc L' f (.ref c) cs).kindOf (names.zip args) (fun _ => none) p.1))) Fs s₁ →
      wpAny (model prog w) (A.deeper (envX x d.sc L' f (.ref c) cs)) (execs d.b (envX x d.sc L' f (.ref c) cs)) (fun fl s'' => Q (match fl with | .ret v => v | _ => .none) s'') (fun _ _ => False) s₁)
    (hbind : ∀ doc pm ct, bindArgs (fnOf x x d.a d.b d.sc .none .none doc pm none (.ref c) ct) ⟨args, []⟩ = pure (names.zip args) := by intros; rfl)
    (hn : ∀ x ∈ names, d.sc.names.lookup x = some .local ∨ d.sc.names.lookup x = some .cell := by decide) (hnd : ((cellsFrom 0 d.sc.names []).map (·.1)).Nodup := by decide)
    (hk : d.sc.kind = .function := by rfl) (hco : d.sc.isCoroutine = false := by rfl) (hgen : d.sc.isGenerator = false := by rfl) :
    wpAny (model prog w) A (call (.ref f) args) Q E s := by
  obtain ⟨oc, od, sl, doc, pm, ct, ho⟩ := hf.obj
  have hnd' : ((cellsFrom (s.heap.objs.size + 1) d.sc.names []).map (·.1)).Nodup := by rw [cellsFrom_keys _ _ 0 [] [] rfl]; exact hnd
  have fresh : ∀ {a}, s.heap.objs.size ≤ a → Z0 a = none := fun {a} ha => by
    cases e : Z0 a with
    | none => rfl
    | some o => exact absurd (Heap.lt_size (hZ a o e).1) (Nat.not_lt.mpr ha)
  refine wpAny_call (codeAny_call_cells hR.depth (hw _ _ ho) rfl (hlim.keeps hw) (hf.code.keeps hw) rfl (hbind doc pm ct) rfl (fun y hy => ?_) (fun s₁ I => ?_) hco hgen hk)
  · rcases hn _ (List.of_mem_zip hy).1 with q | q
    · exact .inl q
    · exact .inr ⟨q, cellsFrom_some _ _ _ (.inl q)⟩
  · obtain ⟨h₁, tk, rfl⟩ := I.toInCall.same
    refine wpAny_mono (hbody _ _ _ rfl hR.deeper ?_) (fun fl s'' hl => hl) fun _ _ x => x.elim
    exact ⟨Z0, {
      w0 := hw
      wsz := hsz
      low := hlow
      zl := fun a o e => (hZ a o e).2
      tW := hT
      kp := fun a o _ e => I.toInCall.keep a o e
      tab := fun P hP => ⟨_, #[], I.toInCall.keep _ _ (htab P hP), rfl, trivial, fun q _ => ⟨rfl, fun pos cv e => nomatch e⟩⟩
      fz := fun a o e => I.toInCall.keep a o (hZ a o e).1
      z0 := fun _ _ => rfl
      zT := hZT
      ns := I.toInCall.ns
      L0 := Nat.le_refl _
      ZL := fresh (Nat.le_refl _)
      mu := fun q hq => by
        obtain ⟨q', hq', rfl⟩ := List.mem_map.mp hq
        have hab := I.above q'.1 q'.2 hq'
        exact ⟨I.cell q'.1 q'.2 (lookup_mem_nodup hnd' hq'), Nat.le_of_lt hab, fresh (Nat.le_of_lt hab), Nat.ne_of_gt hab⟩
      nd := List.pairwise_map.mpr I.apart
      fs := hfs
      gens := hgens
      os := rfl }⟩

/-! ## what the top has left -/
theorem wd_of (hT : TabsAt tabs h) (T : Top p loose mean mg mb h) : Wd (ghostOf h tabs) mg where
  g := ghost_ns hT T.g
  b := ⟨mb, ghost_ns hT T.b, T.builtins⟩
  nolimit := let ⟨mc, a, r⟩ := T.nolimit; ⟨mc, ghost_ns hT a, r⟩
  sys := fun _ _ => trivial
  bm := let ⟨bm, ob, a1, a2, a3, a4, r⟩ := T.bmain; ⟨bm, ob, a1, a2, ghost_get hT a3 (fun q => by rw [q] at a4; cases a4), a4, r⟩
noncomputable def recOf (p : Program) (x : Str) : Option (Arguments × List Stmt × Scope) := ((recsOf p).find? fun e => e.name == x).map fun r => (r.params, r.body, r.scope)
theorem recOf_some {x : Str} {a : Arguments} {b : List Stmt} {sc : Scope} (hr : recOf p x = some (a, b, sc)) : ∃ pos, (recsOf p).find? (fun e => e.name == x) = some ⟨x, a, b, sc, pos⟩ := by
  unfold recOf at hr
  cases e : (recsOf p).find? (fun e => e.name == x) with
  | none => rw [e] at hr; cases hr
  | some r =>
    rw [e] at hr
    have hn : r.name = x := beq_iff_eq.mp (List.find?_some (p := fun e : DefRec => e.name == x) e)
    obtain ⟨n, a', b', sc', pos⟩ := r
    cases hr
    have hn : n = x := hn
    subst hn
    exact ⟨pos, rfl⟩
theorem codeRec_ghost {cv : Value} {x : Str} (hT : TabsAt tabs h) (hc : h.CodeRec cv x) : (ghostOf h tabs).CodeRec cv x := by
  obtain ⟨c, oc, vs, t, rfl, e, hd, hv⟩ := hc
  exact ⟨c, oc, vs, t, rfl, ghost_get hT e (fun q => by rw [q] at hd; cases hd; cases hv), hd, hv⟩
theorem fnIs_of {x : Str} (d : Def q x) (hT : TabsAt tabs h) (T : Top p loose mean mg mb h) (hr : recOf p x = some (d.a, d.b, d.sc)) : ∃ f c, FnIs (ghostOf h tabs) mg d f c := by
  obtain ⟨pos, hr⟩ := recOf_some hr
  obtain ⟨f, o, pm, code, doc, h1, h2, h3, h4⟩ := T.fn _ (List.mem_of_find?_eq_some hr)
  obtain ⟨oc, od, dt, sl⟩ := o
  cases h3
  obtain ⟨c, oc', vs, t, rfl, r⟩ := h4
  exact ⟨f, c, h1, ⟨oc, od, sl, doc, pm, _, ghost_get hT h2 (fun q => by cases q)⟩, codeRec_ghost hT ⟨c, oc', vs, t, rfl, r⟩⟩
theorem codeHd_ghost {c P : Addr} (hT : TabsAt tabs h) (hC : CodeHd h c P) : CodeHd (ghostOf h tabs) c P := by
  obtain ⟨o, vs, file, tf, flags, tg, inF, text, tt, e1, r1, r⟩ := hC
  exact ⟨o, vs, file, tf, flags, tg, inF, text, tt, ghost_get hT e1 (fun q => by rw [q] at r1; cases r1), r1, r⟩
/-- a def of the top: its code, the code's table -/
def TabOf (h : Heap) (x : Str) (q : Addr × Addr) : Prop := ∃ o es ep f fo fd oc vs, h.get? mainGlobals = some o ∧ o.data = .dict es ep ∧ nsFind es x = some (.ref f) ∧ h.get? f = some fo ∧ fo.data = .func fd ∧ fd.code = .ref q.1 ∧ h.get? q.1 = some oc ∧ oc.data = .fields vs ∧ vs[11]? = some (.ref q.2)
theorem TabOf.keeps {h' : Heap} {x : Str} {q : Addr × Addr} (t : TabOf h x q) (k : ∀ b o, h.get? b = some o → h'.get? b = some o) : TabOf h' x q := by
  obtain ⟨o, es, ep, f, fo, fd, oc, vs, e1, e2, e3, e4, e5, e6, e7, e8⟩ := t
  exact ⟨o, es, ep, f, fo, fd, oc, vs, k _ _ e1, e2, e3, k _ _ e4, e5, e6, k _ _ e7, e8⟩
noncomputable def tabAt (h : Heap) (x : Str) : Option (Addr × Addr) := match h.nsMap mainGlobals x with
  | some (.ref f) => (match h.get? f with
    | some ⟨_, _, .func fd, _⟩ => (match fd.code with
      | .ref c => (match h.get? c with
        | some ⟨_, _, .fields vs, _⟩ => (match (vs[11]? : Option Value) with
          | some (.ref P) => some (c, P)
          | _ => none)
        | _ => none)
      | _ => none)
    | _ => none)
  | _ => none
theorem tabOf_at {x : Str} {q : Addr × Addr} (e : tabAt h x = some q) : TabOf h x q := by
  unfold tabAt at e
  split at e
  · rename_i f hf
    unfold Heap.nsMap at hf
    split at hf
    · rename_i o ho
      split at hf
      · rename_i es ep hd
        split at e
        · rename_i hfo
          split at e
          · rename_i c hc
            split at e
            · rename_i hco
              split at e
              · rename_i P hP
                cases e
                exact ⟨o, es, ep, f, _, _, _, _, ho, hd, hf, hfo, rfl, hc, hco, rfl, hP⟩
              · cases e
            · cases e
          · cases e
        · cases e
      · cases hf
    · cases hf
  · cases e
theorem tab_facts {x : Str} {c P : Addr} {a : Arguments} {b : List Stmt} {sc : Scope} (T : Top p loose mean mg mb h) (hx : TabOf h x (c, P)) (hr : recOf p x = some (a, b, sc)) :
    CodeHd h c P ∧ h.get? P = some (tabObj #[]) ∧ ∀ f o fd, mg x = some (.ref f) → h.get? f = some o → o.data = .func fd → fd.code = .ref c := by
  obtain ⟨pos, hr⟩ := recOf_some hr
  obtain ⟨f, o, fd, c', P', h1, h2, h3, h4, h5, h6⟩ := T.tab _ (List.mem_of_find?_eq_some hr)
  obtain ⟨o0, es, ep, f', fo, fd', oc, vs, e1, e2, e3, e4, e5, e6, e7, e8, e9⟩ := hx
  obtain ⟨og, esg, epg, g1, g2, _, g4⟩ := T.g
  rw [e1] at g1; cases g1
  rw [e2] at g2; cases g2
  have h1' : mg x = some (.ref f) := h1
  rw [g4, h1'] at e3; cases e3
  rw [h2] at e4; cases e4
  rw [h3] at e5; cases e5
  rw [h4] at e6; cases e6
  have h6' := h6
  obtain ⟨⟨oc', vs', k1, _, k3, k4⟩, k5⟩ := h6'
  have e7' : h.get? c = some oc := e7
  rw [e7'] at k1; cases k1
  rw [e8] at k3; cases k3
  rw [e9] at k4; cases k4
  refine ⟨CodeHd.of h5 h6, k5, fun f2 o2 fd2 i1 i2 i3 => ?_⟩
  rw [h1'] at i1; cases i1
  rw [h2] at i2; cases i2
  rw [h3] at i3; cases i3
  exact h4
theorem fnIs_tab {x : Str} (d : Def q x) {c P : Addr} (hT : TabsAt tabs h) (T : Top p loose mean mg mb h) (hx : TabOf h x (c, P)) (hr : recOf p x = some (d.a, d.b, d.sc)) :
    ∃ f, FnIs (ghostOf h tabs) mg d f c ∧ CodeHd (ghostOf h tabs) c P := by
  obtain ⟨f, c', hf⟩ := fnIs_of d hT T hr
  obtain ⟨hC, _, hc⟩ := tab_facts T hx hr
  obtain ⟨oc, od, sl, doc, pm, ct, ho⟩ := hf.obj
  have e := hc _ _ _ hf.val (of_hideAll _ ho) rfl
  cases e
  exact ⟨f, hf, codeHd_ghost hT hC⟩
theorem freeName {x : Str} (T : Top p loose mean mg mb h) (e : (!startupNames.contains x && !loose.contains x && !((recsOf p).map (·.name)).contains x && !((litsOf p).map (·.1)).contains x && !((clssOf p loose).map (·.name)).contains x) = true) : mg x = none := by
  simp only [Bool.and_eq_true, Bool.not_eq_true', List.contains_eq_mem, decide_eq_false_iff_not] at e
  exact T.free x e.1.1.1.1 e.1.1.1.2 e.1.1.2 e.1.2 e.2
theorem constInt {x : Str} {i : Int} (T : Top p loose mean mg mb h) (e : valOf p x = some (.int i)) : ∃ t, mg x = some (.int i t) := by
  obtain ⟨v, hv, hr⟩ := T.const x _ e
  cases hr h with
  | int _ t => exact ⟨t, hv⟩
end
end Mine
end
section
open PySem PySem.W PyProof.Rows
set_option maxRecDepth 100000
set_option linter.unusedVariables false
namespace Mine
/-- what the text's top has to be, each by computation -/
structure TopOk (p : Program) (loose : List Str) : Prop where
  free : ∀ x ∈ (["len", "divmod", "reversed", "isinstance", "tuple", "zip", "range", "sum", "enumerate"] : List Str), (!startupNames.contains x && !loose.contains x && !((recsOf p).map (·.name)).contains x && !((litsOf p).map (·.1)).contains x && !((clssOf p loose).map (·.name)).contains x) = true
  lim : valOf p "_DIV_LIMIT" = some (.int 4000)
  nt : valOf p "NT_OFFSET" = some (.int 256)
  em : valOf p "ENDMARKER" = some (.int 0)
  i2d : recOf p "_int2digits" = some (d_i2d.a, d_i2d.b, d_i2d.sc)
  d2i : recOf p "_digits2int" = some (d_d2i.a, d_d2i.b, d_d2i.sc)
  div2n : recOf p "_div2n1n" = some (d_div2n.a, d_div2n.b, d_div2n.sc)
  pos : recOf p "_divmod_pos" = some (d_pos.a, d_pos.b, d_pos.sc)
  idm : recOf p "int_divmod" = some (d_divmod.a, d_divmod.b, d_divmod.sc)
  ist : recOf p "ISTERMINAL" = some (d_ist.a, d_ist.b, d_ist.sc)
  isn : recOf p "ISNONTERMINAL" = some (d_isn.a, d_isn.b, d_isn.sc)
  eof : recOf p "ISEOF" = some (d_eof.a, d_eof.b, d_eof.sc)
  stats : recOf p "add_func_stats" = some (d_stats.a, d_stats.b, d_stats.sc)
  count : recOf p "count_calls" = some (d_count.a, d_count.b, d_count.sc)
  add : recOf p "add_callers" = some (d_add.a, d_add.b, d_add.sc)
/-- what the hook has seen -/
structure Seen (h : Heap) (c1 P1 c2 P2 c3 P3 : Addr) : Prop where
  t1 : TabOf h "_int2digits" (c1, P1)
  t2 : TabOf h "_digits2int" (c2, P2)
  t3 : TabOf h "add_callers" (c3, P3)
  n12 : P1 ≠ P2
  n13 : P1 ≠ P3
  n23 : P2 ≠ P3
noncomputable def tqOf (P1 P2 : Addr) : Addr → Option Str := fun P => if P = P1 then some (Str.ofString ("_int2digits" ++ ".<locals>." ++ "inner")) else if P = P2 then some (Str.ofString ("_digits2int" ++ ".<locals>." ++ "inner")) else none
section
variable {prog : Program} {w : World} {A : Around} {E : Value → Shared → Prop} {s : Shared} {mg mb : Str → Option Value} {h : Heap} {p q : Program} {loose : List Str} {mean : ExcName → Option Value} {c1 P1 c2 P2 c3 P3 : Addr}
theorem tabs_of (T : Top p loose mean mg mb h) (X : Seen h c1 P1 c2 P2 c3 P3) (O : TopOk p loose) : TabsAt [(c1, P1), (c2, P2), (c3, P3)] h := by
  intro q hq
  rcases List.mem_cons.mp hq with rfl | hq
  · obtain ⟨a, b, _⟩ := tab_facts T X.t1 O.i2d; exact ⟨a, b⟩
  · rcases List.mem_cons.mp hq with rfl | hq
    · obtain ⟨a, b, _⟩ := tab_facts T X.t2 O.d2i; exact ⟨a, b⟩
    · rcases List.mem_cons.mp hq with rfl | hq
      · obtain ⟨a, b, _⟩ := tab_facts T X.t3 O.add; exact ⟨a, b⟩
      · cases hq
theorem lg_of (T : Top p loose mean mg mb h) (X : Seen h c1 P1 c2 P2 c3 P3) (O : TopOk p loose) : LG (ghostOf h [(c1, P1), (c2, P2), (c3, P3)]) [P1, P2, P3] (tqOf P1 P2) mg := by
  have hT := tabs_of T X O
  have fr : ∀ x ∈ (["len", "divmod", "reversed", "isinstance", "tuple", "zip", "range", "sum", "enumerate"] : List Str), mg x = none := fun x hx => freeName T (O.free x hx)
  obtain ⟨f1, hf1, hc1⟩ := fnIs_tab d_i2d hT T X.t1 O.i2d
  obtain ⟨f2, hf2, hc2⟩ := fnIs_tab d_d2i hT T X.t2 O.d2i
  obtain ⟨f3, hf3, hc3⟩ := fnIs_tab d_add hT T X.t3 O.add
  refine {
    glo := {
      W := wd_of hT T
      len := fr _ (.head _)
      divmod := fr _ (.tail _ (.head _))
      reversed := fr _ (.tail _ (.tail _ (.head _)))
      lim := constInt T O.lim
      i2d := ⟨f1, c1, P1, hf1, hc1, .head _, by simp [tqOf]⟩
      d2i := ⟨f2, c2, P2, hf2, hc2, .tail _ (.head _), by simp [tqOf, X.n12.symm]⟩
      div2n := fnIs_of d_div2n hT T O.div2n
      pos := fnIs_of d_pos hT T O.pos
      idm := fnIs_of d_divmod hT T O.idm }
    isi := fr _ (.tail _ (.tail _ (.tail _ (.head _))))
    tup := fr _ (.tail _ (.tail _ (.tail _ (.tail _ (.head _)))))
    zip := fr _ (.tail _ (.tail _ (.tail _ (.tail _ (.tail _ (.head _))))))
    range := fr _ (.tail _ (.tail _ (.tail _ (.tail _ (.tail _ (.tail _ (.head _)))))))
    sum := fr _ (.tail _ (.tail _ (.tail _ (.tail _ (.tail _ (.tail _ (.tail _ (.head _))))))))
    enum := fr _ (.tail _ (.tail _ (.tail _ (.tail _ (.tail _ (.tail _ (.tail _ (.tail _ (.head _)))))))))
    nt := constInt T O.nt
    em := constInt T O.em
    ist := fnIs_of d_ist hT T O.ist
    isn := fnIs_of d_isn hT T O.isn
    eof := fnIs_of d_eof hT T O.eof
    stats := fnIs_of d_stats hT T O.stats
    count := fnIs_of d_count hT T O.count
    add := ⟨f3, c3, P3, hf3, hc3, .tail _ (.tail _ (.head _)), by simp [tqOf, X.n13.symm, X.n23.symm]⟩ }

/-- the script, as it is laid -/
theorem well_ints {P : Params} {va : Addr} {ns : List Int} (hw : Well P h (.ref va) (ofPy (.list (ns.map .int)))) : ∃ vs, h.get? va = some { cls := .type "list", data := .seq vs.toArray } ∧ IsInts vs ns := by
  have key : ∀ (ns : List Int) (vs : List Value), WellAll P h vs (ofPys (ns.map .int)) → IsInts vs ns := by
    intro ns
    induction ns with
    | nil => intro vs hv; cases hv; exact .nil
    | cons n ns ih =>
      intro vs hv
      cases hv with
      | cons h1 h2 =>
        cases h1
        exact .cons Kn.int (ih _ h2)
  cases hw with
  | list h1 h2 => exact ⟨_, h1, key _ _ h2⟩

/-- what stands behind the call -/
def Fin (s₁ : Shared) (s' : Shared) : Prop := OldK s₁.heap s'.heap ∧ s'.os = s₁.os ∧ AllBare s'.gens
theorem fin_of {hW : Heap} {T : List Addr} {TQ : Addr → Option Str} {Z0 : FZ} {tabs : List (Addr × Addr)} {L : Addr} {m : Str → Option Value} {X : List (Addr × OP)} {Fs : List Fact} {s' : Shared} (hT : TabsAt tabs s.heap) (eT : T = tabs.map (·.2)) (H : St ⟨hW, T, TQ, s.heap, Z0, s.os⟩ L m X Fs s') : Fin s s' := by
  obtain ⟨Z, k⟩ := H
  subst eT
  refine ⟨⟨fun b o e => ?_, fun b o e => ?_⟩, k.os, k.gens⟩
  · by_cases hb : b ∈ tabs.map (·.2)
    · obtain ⟨o', ps, e1, e2, _⟩ := k.tab b hb
      obtain ⟨r, hr, rfl⟩ := List.mem_map.mp hb
      obtain ⟨hc, e3⟩ := hT r hr
      have e4 : some o = some (tabObj #[]) := e.symm.trans e3
      cases e4
      subst e2
      exact .inr (.inl ⟨(hc.tab e3).isCodeTable, rfl, #[], ps, rfl, by rw [e1]; simp⟩)
    · exact .inl (k.kp b o hb e)
  · by_cases hb : b ∈ tabs.map (·.2)
    · obtain ⟨o', ps, e1, _⟩ := k.tab b hb
      exact ⟨o', e1⟩
    · exact ⟨o, k.kp b o hb e⟩
/-- a law's call -/
theorem law_call {x : Str} {d : Def q x} {f c va : Addr} {ns : List Int} {P : Params} (names : List Str) (T : Top p loose mean mg mb s.heap) (X : Seen s.heap c1 P1 c2 P2 c3 P3) (O : TopOk p loose)
    (hf : FnIs (ghostOf s.heap [(c1, P1), (c2, P2), (c3, P3)]) mg d f c) (hwl : Well P s.heap (.ref va) (ofPy (.list (ns.map .int)))) (hsys : (va == sysModules) = false) (hg : s.gens = #[]) (hA : A = callerA)
    (hbody : ∀ C L' cs s₁ (Fs : List Fact), C.hW = ghostOf s.heap [(c1, P1), (c2, P2), (c3, P3)] → C.T = [P1, P2, P3] → C.TQ = tqOf P1 P2 → cs = cellsFrom (L' + 1) d.sc.names [] → Room (A.deeper (envX x d.sc L' f (.ref c) cs)) 199 → Kn Fs (.ref va) (.lst (ns.map .int)) →
      St C L' (bindL (envX x d.sc L' f (.ref c) cs).kindOf (names.zip [.ref va]) fun _ => none) (cs.map fun p => (p.2, isCell (bindC (envX x d.sc L' f (.ref c) cs).kindOf (names.zip [.ref va]) (fun _ => none) p.1))) Fs s₁ →
      wpAny (model prog w) (A.deeper (envX x d.sc L' f (.ref c) cs)) (execs d.b (envX x d.sc L' f (.ref c) cs)) (fun fl s'' => (∃ L'' m'' X'' Gs, St C L'' m'' X'' Gs s'') ∧ fl = .ret (.bool true)) (fun _ _ => False) s₁)
    (hbind : ∀ doc pm ct, bindArgs (fnOf x x d.a d.b d.sc .none .none doc pm none (.ref c) ct) ⟨[.ref va], []⟩ = pure (names.zip [.ref va]) := by intros; rfl)
    (hn : ∀ x ∈ names, d.sc.names.lookup x = some .local ∨ d.sc.names.lookup x = some .cell := by decide) (hnd : ((cellsFrom 0 d.sc.names []).map (·.1)).Nodup := by decide)
    (hk : d.sc.kind = .function := by rfl) (hco : d.sc.isCoroutine = false := by rfl) (hgen : d.sc.isGenerator = false := by rfl) :
    wpAny (model prog w) A (call (.ref f) [.ref va]) (fun v s' => v = .bool true ∧ Fin s s') E s := by
  have hT := tabs_of T X O
  have G := lg_of T X O
  obtain ⟨vs, hva, hvs⟩ := well_ints hwl
  have htab : ∀ P ∈ [P1, P2, P3], s.heap.get? P = some (tabObj #[]) := fun P hP => by
    have : P ∈ [(c1, P1), (c2, P2), (c3, P3)].map (·.2) := hP
    obtain ⟨r, hr, rfl⟩ := List.mem_map.mp this
    exact (hT r hr).2
  subst hA
  have key := call_top (prog := prog) (w := w) (E := E) (A := callerA) (s := s) (T := [P1, P2, P3]) (TQ := tqOf P1 P2) (k := 199) (Z0 := fun a => if a = va then some { cls := .type "list", data := .seq vs.toArray } else none) (Fs := [.V (.ref va) (.lst (ns.map .int))])
    (Q := fun v s' => (∃ L'' m'' X'' Gs, St ⟨ghostOf s.heap [(c1, P1), (c2, P2), (c3, P3)], [P1, P2, P3], tqOf P1 P2, s.heap, fun a => if a = va then some { cls := .type "list", data := .seq vs.toArray } else none, s.os⟩ L'' m'' X'' Gs s') ∧ v = .bool true)
    names G.W.nolimit hf (fun a o e => of_hideAll _ e) (Nat.le_of_eq (hideAll_size _ _)) ?_ ?_ htab ?_ ?_ ?_ (.of_eq hg) ⟨rfl, by decide, by decide⟩ ?_ hbind hn hnd hk hco hgen
  · refine wpAny_mono key (fun v s' hq => ?_) fun _ _ e => e
    obtain ⟨⟨L'', m'', X'', Gs, S⟩, hv⟩ := hq
    exact ⟨hv, fin_of hT rfl S⟩
  · obtain ⟨o, es, ep, ho, _⟩ := G.W.g
    exact Nat.lt_trans (by decide) (Heap.lt_size ho)
  · intro P hP
    exact ⟨hideAll_none _ hP, by rw [ghostOf, hideAll_size]; exact Heap.lt_size (htab P hP)⟩
  · intro a o e
    by_cases ha : a = va
    · subst ha; simp only [if_true] at e; cases e; exact ⟨hva, hsys⟩
    · simp only [ha, if_false] at e; cases e
  · intro P hP
    by_cases ha : P = va
    · subst ha
      have := htab P hP
      rw [hva] at this
      cases this
    · simp only [ha, if_false]
  · intro f' hf'
    rcases List.mem_cons.mp hf' with rfl | hf'
    · have hr := hvs (fun a => if a = va then some { cls := .type "list", data := .seq vs.toArray } else none) (fun _ h => nomatch h)
      exact .lst (o := { cls := .type "list", data := .seq vs.toArray }) (by simp) ⟨0, rfl⟩ hr.1 hr.2
    · cases hf'
  · intro L' cs s₁ hcs hR S
    refine wpAny_mono (hbody _ L' cs s₁ _ rfl rfl rfl hcs hR (.mem (.head _)) S) (fun fl s'' hq => ?_) fun _ _ e => e
    obtain ⟨h1, rfl⟩ := hq
    exact ⟨h1, rfl⟩
end
end Mine
end
section
open PySem PySem.W PyProof.Rows PySem.SeqAt
set_option maxRecDepth 100000
set_option linter.unusedVariables false
namespace Mine
noncomputable def d_lrules : Def pw "_law_rules" := ⟨_, _, _, rfl⟩

noncomputable def cntT (l : List Int) : Int := ((l.filter (fun x => decide (x < 256))).length : Int)
noncomputable def cntN (l : List Int) : Int := (((l.drop 1).filter (fun x => decide (256 ≤ x))).length : Int)
noncomputable def rstep (st : List (Int × Int) × List Int) (x : Int) : List (Int × Int) × List Int := if x = 0 then (st.1 ++ [(cntT st.2, cntN st.2)], []) else (st.1, st.2 ++ [x])
noncomputable def rulesOf (row : List Int) : List (Int × Int) := (row.foldl rstep ([], [])).1
section
variable {prog : Program} {w : World} {A : Around} {E : Value → Shared → Prop} {C : Cx} {L : Addr} {m : Str → Option Value} {X : List (Addr × OP)} {Fs : List Fact} {s : Shared} {env : Env} {mg : Str → Option Value}

theorem lrules_ok {fa ca va : Addr} {row : List Int} {Q : Value → Shared → Prop} (G : LG C.hW C.T C.TQ mg) (hf : FnIs C.hW mg d_lrules fa ca) (H : St C L m X Fs s) (hR : Room A 2) (hv : Kn Fs (.ref va) (.lst (row.map .int))) (hsz : row.length ≤ 1000)
    (h : ∀ c s', St C L m X (.V (.ref c) (.lst ((rulesOf row).map pr)) :: Fs) s' → Q (.ref c) s') : wpAny (model prog w) A (call (.ref fa) [.ref va]) Q E s := by
  refine call_g ["row"] (k := 1) G.W.nolimit hf H hR fun C' L' s₁ R0 E0 hBk hE hR' S => ?_
  have G' := hE.lg G
  obtain ⟨f1, c1, hf1⟩ := G'.ist
  obtain ⟨f2, c2, hf2⟩ := G'.isn
  obtain ⟨f3, c3, hf3⟩ := G'.eof
  refine x_swap2 hR'.1 (r_list (wpAny_items_nil (r_listEnd S fun lr s S => r_list (wpAny_items_nil (r_listEnd S fun lu s S => ⟨_, _, _, _, _, S, fun s S => r_store S fun s S => r_store S fun s S => ?_⟩)))))
  refine x_for (r_local S rfl (r_iterList S hv fun it s S => ?_))
  refine r_loop (src_list (.inl ⟨_, _, rfl⟩)) hR'.1 (fun i m X Fs' => ∃ lu vr vu, m "rules" = some (.ref lr) ∧ m "rule" = some (.ref lu) ∧ X = [(lr, isList vr), (lu, isList vu)] ∧ KnL Fs' vr ((((row.take i).foldl rstep ([], [])).1).map pr) ∧ IsInts vu ((row.take i).foldl rstep ([], [])).2 ∧ vr.length ≤ i ∧ vu.length ≤ i ∧ ∀ f ∈ Fs, Tells Fs' f)
    (X := [(lr, isList []), (lu, isList [])]) (S.perm ((List.Perm.swap ..).cons _)) (fun g hg => by rcases List.mem_cons.mp hg with rfl | hg; exact hv; cases hg) ⟨lu, [], [], rfl, rfl, rfl, .nil, .nil, Nat.zero_le _, Nat.zero_le _, fun f hf => .mem hf⟩ ?_ ?_
  · rintro E' R1 i d x m X Fs1 s hN hV hd ⟨lu, vr, vu, hmr, hmu, rfl, hvr, hvu, hlr, hlu, hFs⟩ hG S
    obtain ⟨y, hy, rfl⟩ := get_map hd
    obtain ⟨ty, rfl⟩ := Kn.isInt S (.mem (.head _))
    have hil : i < row.length := (List.getElem?_eq_some_iff.mp hy).1
    have hst : (row.take (i + 1)).foldl rstep ([], []) = rstep ((row.take i).foldl rstep ([], [])) y := by rw [take_snoc hy, List.foldl_append]; rfl
    generalize hacc : (row.take i).foldl rstep ([], []) = acc at *
    refine wpAny_assign_Name (r_store S fun s S => ?_)
    refine x_if (wpAny_isTrue_value (r_call G'.W hf3 S (wpAny_items_cons (r_local S rfl (wpAny_items_nil ⟨hf3.at S, eof_ok G' hf3 S hR' fun s S => wpAny_truthy_bool ?_⟩)))))
    by_cases h0 : y = 0
    · rw [if_pos (by simpa using h0)]
      refine x_expr ?_
      refine wpAny_Call_method1_late rfl rfl rfl (r_local S hmr (m_append S (.tail _ (.head _)) (r_tuple ?_)))
      have S := (S.rot).freezeL hvu.up0
      have hul : vu.length = acc.2.length := by rw [hvu.len0, List.length_map]
      refine wpAny_items_cons (r_callB G'.W S G'.glo.len (wpAny_items_cons (r_listComp (r_local S hmu (r_iterList S (.mem (.head _)) fun it2 s S => ?_)))))
      refine r_listGo (l := acc.2) (emb := D.int) (src_list (.inl ⟨_, _, rfl⟩)) hR'.1 S (fun g hg => by rcases List.mem_cons.mp hg with rfl | hg; exact .mem (.head _); cases hg) (fun C L m X Fs s S => again_list S) (by rw [sizeLine_eq]; (first | lia | omega))
        (fun a => if decide (a < 256) = true then some (D.int a) else none) ?_ ?_
      · rintro E2 Hid L2 own cv j a x m2 Fs2 s ho ha hFs2 S
        have ho : own = [] := ho
        subst ho
        obtain ⟨ta, rfl⟩ := Kn.isInt S (.mem (.head _))
        refine wpAny_assign_Name (r_store S fun s S => ?_)
        refine t_one (wpAny_isTrue_value (r_call G'.W hf1 S (wpAny_items_cons (r_local S rfl (wpAny_items_nil ⟨hf1.at S, ist_ok G' hf1 S hR' fun s S => wpAny_truthy_bool ?_⟩)))))
        cases hc : decide (a < 256)
        · exact ⟨rfl, cv, _, _, fun f hf => (Tells.mem hf).up, S⟩
        · exact ⟨rfl, r_local S rfl ⟨cv, _, _, fun f hf => (Tells.mem hf).up, Kn.int, S⟩⟩
      · intro acc2 L2 m2 s S
        refine r_listEndC S fun s S => wpAny_items_nil ?_
        rw [filterMap_if] at S
        refine len_list' S (.mem (.head _)) (by rw [List.length_map, sizeLine_eq]; have := List.length_filter_le (fun a => decide (a < 256)) acc.2; (first | lia | omega)) fun t1 s S => ?_
        refine wpAny_items_cons (r_callB G'.W S G'.glo.len (wpAny_items_cons (r_listComp (r_item (r_local S hmu (r_slice (ep_some (r_int S fun t s S => ep_none (ep_none ⟨_, _, _, _, _, S, fun sl s S => ?_⟩)))))))))
        obtain ⟨ws, hat, hwl, S⟩ := S.listF (a := lu) (ds := acc.2.map .int) (.mem (.tail _ (.head _)))
        refine sub_slice S hat (.int 1 t) .none (by rw [hwl, List.length_map, sizeLine_eq]; (first | lia | omega)) fun sc s S => ?_
        rw [show ((1 : Int)) = ((1 : Nat) : Int) from rfl, pick_from] at S
        have S := S.freezeL (ds := (acc.2.drop 1).map .int) (by rw [List.map_drop]; exact KnL.drop (.mem (.head _)) 1)
        refine r_iterList S (.mem (.head _)) fun it3 s S => ?_
        refine r_listGo (l := acc.2.drop 1) (emb := D.int) (src_list (.inl ⟨_, _, rfl⟩)) hR'.1 S (fun g hg => by rcases List.mem_cons.mp hg with rfl | hg; exact .mem (.head _); cases hg) (fun C L m X Fs s S => again_list S) (by rw [sizeLine_eq, List.length_drop]; (first | lia | omega))
          (fun a => if decide (256 ≤ a) = true then some (D.int a) else none) ?_ ?_
        · rintro E2 Hid L2 own cv j a x m2 Fs2 s ho ha hFs2 S
          have ho : own = [] := ho
          subst ho
          obtain ⟨ta, rfl⟩ := Kn.isInt S (.mem (.head _))
          refine wpAny_assign_Name (r_store S fun s S => ?_)
          refine t_one (wpAny_isTrue_value (r_call G'.W hf2 S (wpAny_items_cons (r_local S rfl (wpAny_items_nil ⟨hf2.at S, isn_ok G' hf2 S hR' fun s S => wpAny_truthy_bool ?_⟩)))))
          cases hc : decide (256 ≤ a)
          · exact ⟨rfl, cv, _, _, fun f hf => (Tells.mem hf).up, S⟩
          · exact ⟨rfl, r_local S rfl ⟨cv, _, _, fun f hf => (Tells.mem hf).up, Kn.int, S⟩⟩
        · intro acc3 L3 m3 s S
          refine r_listEndC S fun s S => wpAny_items_nil ?_
          rw [filterMap_if] at S
          refine len_list' S (.mem (.head _)) (by rw [List.length_map, sizeLine_eq]; have := List.length_filter_le (fun a => decide (256 ≤ a)) (acc.2.drop 1); rw [List.length_drop] at this; (first | lia | omega)) fun t2 s S => wpAny_items_nil ?_
          refine r_tupEnd S (ds := [.int (cntT acc.2), .int (cntN acc.2)]) ?_ fun tp s S => ?_
          · rw [List.length_map, List.length_map]; exact .cons Kn.int (.cons Kn.int .nil)
          refine r_append S.swap (by rw [sizeLine_eq]; (first | lia | omega)) fun s S => ⟨rfl, ?_⟩
          refine x_assign (r_list (wpAny_items_nil (r_listEnd S fun lu2 s S => r_store S fun s S => x_nil (x_nil ?_))))
          refine hN ⟨_, [(lr, _), (lu2, isList [])], _, ?_, ?_, S.rot.perm ((List.Perm.swap ..).cons _)⟩
          · refine ⟨lu2, _, [], hmr, rfl, rfl, ?_, ?_, by simp; (first | lia | omega), Nat.zero_le _, fun f hf => (hFs f hf).up.up.up.up.up.up.up⟩
            · rw [hst, rstep, if_pos h0, List.map_append]
              exact KnL.append (hvr.up.up.up.up.up.up.up) (.cons (.mem (.head _)) .nil)
            · rw [hst, rstep, if_pos h0]; exact .nil
          · exact fun g hg => (hG g hg).up.up.up.up.up.up.up
    · rw [if_neg (by simpa using h0)]
      refine x_expr (wpAny_Call_method1_late rfl rfl rfl (r_local S hmu (m_append S (.tail _ (.tail _ (.head _))) (r_local S rfl ?_))))
      refine r_append S.rot (by rw [sizeLine_eq]; (first | lia | omega)) fun s S => ⟨rfl, x_nil (x_nil ?_)⟩
      refine hN ⟨_, [(lr, _), (lu, _)], _, ?_, ?_, S.perm (((List.Perm.swap ..).trans ((List.Perm.swap ..).cons _)))⟩
      · refine ⟨lu, _, _, hmr, hmu, rfl, ?_, ?_, by (first | lia | omega), by simp; (first | lia | omega), fun f hf => (hFs f hf).up⟩
        · rw [hst, rstep, if_neg h0]; exact hvr.up
        · rw [hst, rstep, if_neg h0]; exact hvu.snoc y ty
      · exact fun g hg => (hG g hg).up
  · rintro m X Fs1 s ⟨lu, vr, vu, hmr, hmu, rfl, hvr, hvu, hlr, hlu, hFs⟩ S
    rw [List.length_map, List.take_length] at hvr
    have S : St C' L' m [(lr, isList vr), (lu, isList vu)] Fs1 s := S
    have S := S.freezeL hvr
    refine x_ret (r_local S hmr (hBk.ret S fun s' S' => h lr s' (S'.facts fun f hf => ?_)))
    rcases List.mem_cons.mp hf with rfl | hf
    · exact .mem (.head _)
    · exact .mem (List.mem_append_right _ hf)
end
end Mine
end
section
open PySem PySem.W PyProof.Rows PySem.SeqAt
set_option maxRecDepth 100000
set_option linter.unusedVariables false
namespace Mine
noncomputable def d_lnumber : Def pw "_law_number" := ⟨_, _, _, rfl⟩
theorem zRange0 (n : Nat) : zRange 0 (n : Int) = (List.range n).map fun (i : Nat) => D.int (i : Int) := by
  unfold zRange
  rw [show ((n : Int) - 0).toNat = n by (first | lia | omega)]
  apply List.map_congr_left
  intro i _
  simp
noncomputable def numTab (tab : List (Int × Int)) (p : Int) : List Int := (List.range 12).map fun (i : Nat) => ((look tab (i : Int)).getD 0).fmod p
section
variable {prog : Program} {w : World} {A : Around} {E : Value → Shared → Prop} {C : Cx} {L : Addr} {m : Str → Option Value} {X : List (Addr × OP)} {Fs : List Fact} {s : Shared} {env : Env} {mg : Str → Option Value}

theorem src_range0 {it : Addr} {n : Nat} {x : Str} {p : Pos} : Src prog w (.Name x p) (.ref it) ((List.range n).map fun (i : Nat) => D.int (i : Int)) (fun i => [(it, isRIter (0 + i) (((n : Int) - 0).toNat - i))]) [] [] := by
  rw [← zRange0]; exact src_range
theorem lnumber_ok {fa ca vt : Addr} {tab : List (Int × Int)} {p : Int} {nb : Nat} {tp tb : Tok} {Q : Value → Shared → Prop} (G : LG C.hW C.T C.TQ mg) (hf : FnIs C.hW mg d_lnumber fa ca) (H : St C L m X Fs s) (hR : Room A 72) (hv : Kn Fs (.ref vt) (.dct (mapV .int tab)))
    (hp : 0 < p ∧ p < 2 ^ 60) (hnb : 1 ≤ nb ∧ nb ≤ 64) (h : ∀ t s', St C L m X Fs s' → Q (.int (dsum nb (numTab tab p)) t) s') : wpAny (model prog w) A (call (.ref fa) [.ref vt, .int p tp, .int (nb : Int) tb]) Q E s := by
  refine call_gC ["table", "prime", "bits"] (k := 71) G.W.nolimit hf H hR fun C' L' cs s₁ R0 E0 hBk hcs hE hR' S => ?_
  obtain ⟨cp, ct, rfl⟩ : ∃ cp ct, cs = [((Str.ofString "prime"), cp), ((Str.ofString "table"), ct)] := ⟨_, _, hcs⟩
  have G' := hE.lg G
  obtain ⟨f2, c2, P2, hf2, hC2, hP2, hq2⟩ := G'.glo.d2i
  have S : St C' L' _ [(cp, isCell (some (.int p tp))), (ct, isCell (some (.ref vt)))] Fs s₁ := S
  refine x_ret (r_call G'.W hf2 S (wpAny_items_cons (r_listComp (r_callT G'.W S G'.range (wpAny_items_cons (r_int S fun t s S => wpAny_items_nil (r_range1 S fun r s S => r_iterRange S (by decide) (by decide) fun it s S => ?_)))))))
  refine r_listGo (l := List.range 12) (emb := fun (i : Nat) => D.int (i : Int)) (src_range0 (n := 12)) hR'.1 S (fun g hg => nomatch hg) (fun C L m X Fs s S => again_range S) (by simp [sizeLine_eq]) (fun i => some (D.int (((look tab (i : Int)).getD 0).fmod p))) ?_ ?_
  · rintro E2 Hid L2 own cv j a x m2 Fs2 s ho ha hFs2 S
    have ho : own = [] := ho
    subst ho
    obtain ⟨ta, rfl⟩ := Kn.isInt S (.mem (.head _))
    refine wpAny_assign_Name (r_store S fun s S => t_nil ⟨rfl, ?_⟩)
    have hva : Kn (.V (.int (a : Int) ta) (.int (a : Int)) :: Fs2) (.ref vt) (.dct (mapV .int tab)) := fun Z H => hv Z fun f hf => hFs2 f hf Z fun g hg => H g (.tail _ hg)
    refine wpAny_BinOp (wpAny_Call_method2_late rfl rfl rfl (r_cellName S (.tail _ (.tail _ (.head _))) (m_get2 S hva (r_local S rfl (r_int S fun t s S => ⟨_, _, _, _, _, _, _, rfl, S, hva, ?_, ?_⟩)))))
    · intro e v s he S
      rw [look_mapV] at he
      cases hl : look tab (a : Int) with
      | none => rw [hl] at he; cases he
      | some n =>
        rw [hl] at he; cases he
        obtain ⟨tv, rfl⟩ := Kn.isInt S (.mem (.head _))
        refine r_cellName S (.tail _ (.head _)) (r_mod S (by (first | lia | omega)) fun t s S => ?_)
        exact ⟨cv, _, _, fun f hf => (Tells.mem hf).up.up, Kn.int, S⟩
    · intro s he S
      rw [look_mapV] at he
      have hl : look tab (a : Int) = none := by cases hl : look tab (a : Int) with
        | none => rfl
        | some n => rw [hl] at he; cases he
      rw [hl]
      refine r_cellName S (.tail _ (.head _)) (r_mod S (by (first | lia | omega)) fun t s S => ?_)
      exact ⟨cv, _, _, fun f hf => (Tells.mem hf).up, Kn.int, S⟩
  · intro acc L2 m2 s S
    refine r_listEndC S fun s S => wpAny_items_cons (r_local S rfl (wpAny_items_nil ⟨hf2.at S, ?_⟩))
    have e : (List.range 12).filterMap (fun (i : Nat) => some (D.int (((look tab (i : Int)).getD 0).fmod p))) = (numTab tab p).map .int := by rw [List.filterMap_eq_map', numTab, List.map_map]; rfl
    rw [e] at S
    refine d2i_ok G'.W G'.glo.len hf2 hC2 hP2 hq2 S (hR'.mono (by decide)) (.mem (.head _)) hnb (by simp [numTab]) (fun d hd => ?_) fun t s S => hBk.ret S fun s' S' => h t s' (S'.facts fun f hf => .mem (List.mem_append_right _ hf))
    obtain ⟨i, _, rfl⟩ := List.mem_map.mp hd
    have h1 := Int.fmod_nonneg_of_pos ((look tab (i : Int)).getD 0) hp.1
    have h2 := Int.fmod_lt_of_pos ((look tab (i : Int)).getD 0) hp.1
    (first | lia | omega)
end
end Mine
end
section
open PySem PySem.W PyProof.Rows PySem.SeqAt
set_option maxRecDepth 100000
set_option linter.unusedVariables false
namespace Mine
noncomputable def d_lled : Def pw "_law_led" := ⟨_, _, _, rfl⟩
noncomputable def dg (nb x k : Nat) : Nat := x / 2 ^ (nb * k) % 2 ^ nb
noncomputable def ledRow (nb p fig x i : Nat) (t : List (Int × Int)) (n : Nat) : List (Int × Int) := (List.range n).foldl (fun t j => put t (((8 * i + j : Nat)) : Int) ((dg nb x (8 * (p * i + fig) + p * j + fig) : Nat) : Int)) t
noncomputable def ledTab (nb p fig x n : Nat) : List (Int × Int) := (List.range n).foldl (fun t i => ledRow nb p fig x i t ((7 - fig) / p + 1)) []
noncomputable def ledN (nb p fig x : Nat) : Int := dsum nb (numTab (ledTab nb p fig x 2) (p : Int))
theorem digs_pad {nb x k : Nat} (hnb : 1 ≤ nb) (hk : k < ndig nb x + 64) : (digs nb (ndig nb x) x ++ List.replicate 64 0)[k]? = some ((dg nb x k : Nat) : Int) := by
  rcases Nat.lt_or_ge k (ndig nb x) with h | h
  · rw [List.getElem?_append_left (by rw [digs_len]; exact h), digs_get h]; rfl
  · rw [List.getElem?_append_right (by rw [digs_len]; exact h), digs_len, List.getElem?_replicate, if_pos (by (first | lia | omega))]
    have h1 := lt_ndig (n := nb) (x := x) hnb
    have h2 : 2 ^ (nb * ndig nb x) ≤ 2 ^ (nb * k) := Nat.pow_le_pow_right (by decide) (Nat.mul_le_mul_left _ h)
    rw [dg, Nat.div_eq_of_lt (Nat.lt_of_lt_of_le h1 h2), Nat.zero_mod]; rfl
theorem digs_last {nb x : Nat} (hnb : 1 ≤ nb) (hx : 0 < x) : dg nb x (ndig nb x - 1) ≠ 0 := by
  have hp := ndig_pos hnb hx
  have h1 := lt_ndig (n := nb) (x := x) hnb
  intro h0
  have hlt : x / 2 ^ (nb * (ndig nb x - 1)) < 2 ^ nb := by
    rw [Nat.div_lt_iff_lt_mul (Nat.two_pow_pos _), ← Nat.pow_add]
    have e : nb + nb * (ndig nb x - 1) = nb * ndig nb x := by
      have : nb * ndig nb x = nb * (ndig nb x - 1 + 1) := by rw [Nat.sub_add_cancel hp]
      rw [this, Nat.mul_add, Nat.mul_one, Nat.add_comm]
    rw [e]; exact h1
  rw [dg, Nat.mod_eq_of_lt hlt] at h0
  have h2 : x < 2 ^ (nb * (ndig nb x - 1)) := by
    rcases Nat.lt_or_ge x (2 ^ (nb * (ndig nb x - 1))) with h | h
    · exact h
    · have := Nat.div_pos h (Nat.two_pow_pos _); (first | lia | omega)
  have h3 : Builtin.Int.intBits (x : Int) ≤ nb * (ndig nb x - 1) := bits_le (by rw [Int.natAbs_natCast]; exact h2)
  have h4 : ndig nb x ≤ ndig nb x - 1 := by
    conv => lhs; unfold ndig
    have : (Builtin.Int.intBits (x : Int) + nb - 1) / nb ≤ (nb * (ndig nb x - 1) + nb - 1) / nb := Nat.div_le_div_right (by (first | lia | omega))
    have e2 : (nb * (ndig nb x - 1) + nb - 1) / nb = ndig nb x - 1 := by
      rw [show nb * (ndig nb x - 1) + nb - 1 = (nb - 1) + nb * (ndig nb x - 1) by (first | lia | omega), Nat.add_mul_div_left _ _ (by (first | lia | omega)), Nat.div_eq_of_lt (by (first | lia | omega))]; (first | lia | omega)
    (first | lia | omega)
  (first | lia | omega)
section
variable {prog : Program} {w : World} {A : Around} {E : Value → Shared → Prop} {C : Cx} {L : Addr} {m : Str → Option Value} {X : List (Addr × OP)} {Fs : List Fact} {s : Shared} {env : Env} {mg : Str → Option Value}

theorem St.noX (H : St C L m X Fs s) : St C L m [] Fs s := H.sub (List.nil_sublist _)
theorem mulOk_sum {a b : Int} {k l : Nat} (ha : a.natAbs < 2 ^ k) (hb : b.natAbs < 2 ^ l) (hkl : k + l ≤ 10000) : IntMulOk a b := by
  have h1 := bits_le ha
  have h2 := bits_le hb
  unfold IntMulOk
  have : Builtin.Int.intTooBig (Builtin.Int.intBits a + Builtin.Int.intBits b) = false := by
    unfold Builtin.Int.intTooBig
    have hb : (10000 : Int) ≤ bitsLine := by decide
    rw [decide_eq_false_iff_not]
    (first | lia | omega)
  rw [this]; simp
/-- two lists of one number each -/
theorem r_eqOne {a b : Addr} {x y : Int} {Q : Value → Shared → Prop} (H : St C L m X Fs s) (ha : Kn Fs (.ref a) (.lst [.int x])) (hb : Kn Fs (.ref b) (.lst [.int y])) (hr : A.units < cLine) (h : Q (.bool (x == y)) s) : wpAny (model prog w) A (compareOp .Eq (.ref a) (.ref b)) Q E s := by
  obtain ⟨vs, ⟨o, ho, hp⟩, h1, S1⟩ := H.listF ha
  obtain ⟨us, ⟨o', ho', hp'⟩, h2, S2⟩ := H.listF hb
  obtain ⟨v, rfl⟩ := List.length_eq_one_iff.mp h1
  obtain ⟨u, rfl⟩ := List.length_eq_one_iff.mp h2
  obtain ⟨tv, rfl⟩ := Kn.isInt (i := x) S1 (KnL.get (i := 0) (.mem (.head _)) rfl rfl)
  obtain ⟨tu, rfl⟩ := Kn.isInt (i := y) S2 (KnL.get (i := 0) (.mem (.head _)) rfl rfl)
  refine eq_listAt (e := fun _ => x == y) (list_of ho hp) (list_of ho' hp') rfl hr (fun j j1 j2 => ?_) ?_
  · have j0 : j = 0 := by simp at j1; (first | lia | omega)
    subst j0
    exact EqAt.int_int x tv y tu
  · have e : (List.range ([Value.int x tv] : List Value).toArray.size).all (fun _ => x == y) = (x == y) := by simp [List.range_succ]
    rw [e]; exact h

set_option maxHeartbeats 2000000 in
theorem lled_ok {fa ca fn cn : Addr} {st un p fig nb : Nat} {t1 t2 t3 t4 t5 : Tok} {Q : Value → Shared → Prop} (G : LG C.hW C.T C.TQ mg) (hf : FnIs C.hW mg d_lled fa ca) (hn : FnIs C.hW mg d_lnumber fn cn) (H : St C L m X Fs s) (hR : Room A 132)
    (hp : p = 2 ∨ p = 3) (hfig : fig < p) (hnb : 8 ≤ nb ∧ nb ≤ 16) (hst : st < 2 ^ 200) (hun : un < 2 ^ 200) (hbig : ndig nb (st * un ^ (p - 1)) ≤ 128)
    (h : ∀ t s', St C L m X Fs s' → Q (.int (ledN nb p fig (st * un ^ (p - 1))) t) s') : wpAny (model prog w) A (call (.ref fa) [.int (st : Int) t1, .int (un : Int) t2, .int (p : Int) t3, .int (fig : Int) t4, .int (nb : Int) t5]) Q E s := by
  refine call_g ["state", "under", "prime", "figure", "bits"] (k := 131) G.W.nolimit hf H hR fun C' L' s₁ R0 E0 hBk hE hR' S => ?_
  have G' := hE.lg G
  have hn' : FnIs C'.hW mg d_lnumber fn cn := hE.hW ▸ hn
  obtain ⟨f1, c1, P1, hf1, hC1, hP1, hq1⟩ := G'.glo.i2d
  refine x_assign (r_call G'.W hf1 S (wpAny_items_cons (wpAny_BinOp (r_local S rfl (wpAny_BinOp (r_local S rfl (wpAny_BinOp (r_local S rfl (r_int S fun t s S => r_sub S fun t s S => r_pow S (by (first | lia | omega)) ?_ fun t s S => r_mul S ?_ fun t s S => wpAny_items_cons (r_local S rfl (wpAny_items_nil ⟨hf1.at S, ?_⟩)))))))))))
  · have := bits_le (a := (un : Int)) (k := 200) (by rw [Int.natAbs_natCast]; exact hun)
    have h3 : (p : Int) - 1 ≤ 2 := by (first | lia | omega)
    have h4 : (Builtin.Int.intBits (un : Int) : Int) * ((p : Int) - 1) ≤ 200 * 2 := Int.mul_le_mul (by (first | lia | omega)) h3 (by (first | lia | omega)) (by (first | lia | omega))
    (first | lia | omega)
  · refine mulOk_sum (k := 200) (l := 400) (by rw [Int.natAbs_natCast]; exact hst) ?_ (by decide)
    rw [Int.natAbs_pow, Int.natAbs_natCast]
    refine Nat.lt_of_le_of_lt (m := (2 ^ 200 - 1) ^ 2) ?_ (by decide)
    have e : ((p : Int) - 1).toNat = p - 1 := by (first | lia | omega)
    rw [e]
    rcases hp with rfl | rfl
    · refine Nat.le_trans (Nat.pow_le_pow_left (show un ≤ 2 ^ 200 - 1 by (first | lia | omega)) 1) (by decide)
    · exact Nat.pow_le_pow_left (show un ≤ 2 ^ 200 - 1 by (first | lia | omega)) 2
  have ex : (st : Int) * (un : Int) ^ ((p : Int) - 1).toNat = ((st * un ^ (p - 1) : Nat) : Int) := by
    rw [show ((p : Int) - 1).toNat = p - 1 by (first | lia | omega), Int.natCast_mul, Int.natCast_pow]
  rw [ex]
  generalize st * un ^ (p - 1) = x at *
  refine i2d_ok G'.W G'.glo.len hf1 hC1 hP1 hq1 S (hR'.mono (by decide)) ⟨by (first | lia | omega), by (first | lia | omega)⟩ hbig fun la s S => r_store S fun s S => ?_
  have hla : ∀ {Gs : List Fact}, Kn (.V (.ref la) (.lst ((digs nb (ndig nb x) x).map .int)) :: Gs) (.ref la) (.lst ((digs nb (ndig nb x) x).map .int)) := .mem (.head _)
  refine x_if (wpAny_isTrue_Compare1 (r_item (r_local S rfl (r_slice (ep_some (wpAny_UnaryOp (r_int S fun t s S => r_neg S fun t s S => ep_none (ep_none ⟨_, _, _, _, _, S, fun sl s S => ?_⟩))))))))
  obtain ⟨ws, hat, hwl, S⟩ := S.listF hla
  have hdl : ws.length = ndig nb x := by rw [hwl, List.length_map, digs_len]
  refine sub_slice S hat (.int (-1) t) .none (by rw [sizeLine_eq]; (first | lia | omega)) fun sc s S => ?_
  have epick : (slicePick ws.toArray (some (-1)) none none).toList = ws.drop (ws.length - 1) := by
    have := slicePick_last ws.toArray 1 (Nat.le_refl _)
    rw [show (-((1 : Nat) : Int)) = -1 from rfl] at this
    rw [this]; simp
  rw [epick] at S
  have S := S.freezeL (ds := ((digs nb (ndig nb x) x).map D.int).drop (ndig nb x - 1)) (by rw [hdl]; exact KnL.drop (.mem (.head _)) _)
  refine r_list (wpAny_items_cons (r_int S fun t s S => wpAny_items_nil (r_listEnd S fun lz s S => ?_)))
  have S := S.freezeL (ds := [.int 0]) (.cons Kn.int .nil)
  have hlast : ∀ (Q : Value → Shared → Prop), Q (.bool false) s → wpAny (model prog w) (A.deeper (envX "_law_led" d_lled.sc L' fa (.ref ca) [])) (compareOp .Eq (.ref sc) (.ref lz)) Q E0 s := fun Q hQ => by
    have hu : (A.deeper (envX "_law_led" d_lled.sc L' fa (.ref ca) [])).units < cLine := by have := hR'.2.2; (first | lia | omega)
    rcases Nat.eq_zero_or_pos x with h0 | h0
    · subst h0
      rw [ndig_zero (by (first | lia | omega))] at S
      exact r_eqLen S (.mem (.tail _ (.head _))) (.mem (.head _)) (by simp [digs]) hu hQ
    · have hnp := ndig_pos (n := nb) (by (first | lia | omega)) h0
      have e : ((digs nb (ndig nb x) x).map D.int).drop (ndig nb x - 1) = [.int ((dg nb x (ndig nb x - 1) : Nat) : Int)] := by
        rw [List.drop_eq_getElem_cons (by rw [List.length_map, digs_len]; (first | lia | omega)), List.drop_eq_nil_of_le (by rw [List.length_map, digs_len]; (first | lia | omega))]
        have := digs_get (n := nb) (k := ndig nb x) (x := x) (i := ndig nb x - 1) (by (first | lia | omega))
        rw [List.getElem?_eq_getElem (by rw [digs_len]; (first | lia | omega))] at this
        rw [List.getElem_map, Option.some.inj this]; rfl
      rw [e] at S
      refine r_eqOne S (.mem (.tail _ (.head _))) (.mem (.head _)) hu ?_
      have hne := digs_last (nb := nb) (x := x) (by (first | lia | omega)) h0
      have : (((dg nb x (ndig nb x - 1) : Nat) : Int) == 0) = false := by rw [beq_eq_false_iff_ne]; (first | lia | omega)
      rw [this]; exact hQ
  refine hlast _ (wpAny_truthy_bool ?_)
  rw [if_neg Bool.false_ne_true]
  refine x_nil ?_
  refine x_swap2 hR'.1 (wpAny_BinOp (r_local S rfl (wpAny_BinOp (r_list (wpAny_items_cons (r_int S fun t0 s S => wpAny_items_nil (r_listEnd S fun lz2 s S => r_int S fun t64 s S => ?_)))))))
  refine r_mulList S (S.get (.head _)) (by decide) (by decide) (by simp) (by simp) fun lm s S => ?_
  rw [show ((64 : Int)).toNat = 64 from rfl, flat_one] at S
  obtain ⟨us, hat2, hul, S⟩ := S.listF (a := la) (ds := (digs nb (ndig nb x) x).map .int) (.mem (.tail _ (.tail _ (.tail _ (.head _)))))
  refine r_addList S hat2 (S.get (.head _)) (by rw [hul, List.length_map, digs_len, List.length_replicate, sizeLine_eq]; (first | lia | omega)) fun c s S => ?_
  have S := S.freezeL (ds := (digs nb (ndig nb x) x ++ List.replicate 64 0).map .int) (by rw [List.map_append]; exact KnL.append (.mem (.head _)) (ints_rep 64 0 t0).up0)
  have S := S.noX
  have hFs0 : ∀ f ∈ Fs, Tells (.V (.ref c) (.lst ((digs nb (ndig nb x) x ++ List.replicate 64 0).map .int)) :: Fs) f := fun f hf => .mem (.tail _ hf)
  have S : St C' L' _ [] (.V (.ref c) (.lst ((digs nb (ndig nb x) x ++ List.replicate 64 0).map .int)) :: Fs) s := S.facts fun f hf => by
    rcases List.mem_cons.mp hf with rfl | hf
    · exact .mem (.head _)
    · exact .mem (.tail _ (.tail _ (.tail _ (.tail _ (.tail _ (.tail _ hf))))))
  clear hlast
  refine r_dict0 S fun ld s S => ⟨_, _, _, _, _, S, fun s S => r_store S fun s S => r_store S fun s S => ?_⟩
  refine x_for (r_tuple (wpAny_items_cons (r_int S fun u0 s S => wpAny_items_cons (r_int S fun u1 s S => wpAny_items_nil (r_tupEnd S (ds := (List.range 2).map fun (i : Nat) => D.int (i : Int)) (.cons Kn.int (.cons Kn.int .nil)) fun lt s S => r_iterTup S (.mem (.head _)) fun it s S => ?_)))))
  refine r_loop (src_tup (.inl ⟨_, _, rfl⟩)) hR'.1 (fun i m X Fs' => m "found" = some (.ref c) ∧ m "table" = some (.ref ld) ∧ m "prime" = some (.int (p : Int) t3) ∧ m "figure" = some (.int (fig : Int) t4) ∧ m "bits" = some (.int (nb : Int) t5) ∧
      (∃ kvs, X = [(ld, isDict kvs)] ∧ KnK Fs' kvs (mapV .int (ledTab nb p fig x i)) ∧ kvs.length ≤ 8 * i) ∧ Kn Fs' (.ref c) (.lst ((digs nb (ndig nb x) x ++ List.replicate 64 0).map .int)) ∧ ∀ f ∈ Fs, Tells Fs' f)
    (X := [(ld, isDict [])]) S (fun g hg => by rcases List.mem_cons.mp hg with rfl | hg; exact .mem (.head _); cases hg) ⟨rfl, rfl, rfl, rfl, rfl, ⟨[], rfl, .nil, Nat.zero_le _⟩, .mem (.tail _ (.head _)), fun f hf => .mem (.tail _ (.tail _ hf))⟩ ?_ ?_
  · rintro E' R1 i d v m X Fs1 s hN hV hd ⟨hmf, hmt, hmp, hmg, hmb, ⟨kvs, rfl, hK, hkl⟩, hc, hFs⟩ hG S
    have hi2 : i < 2 := by have := (List.getElem?_eq_some_iff.mp hd).1; simpa using this
    have hd' : d = .int (i : Int) := by
      rw [List.getElem?_map, List.getElem?_range hi2] at hd
      exact (Option.some.inj hd).symm
    subst hd'
    obtain ⟨ti, rfl⟩ := Kn.isInt S (.mem (.head _))
    refine wpAny_assign_Name (r_store S fun s S => ?_)
    refine x_for (r_callT G'.W S G'.range (wpAny_items_cons (wpAny_BinOp (wpAny_BinOp (wpAny_BinOp (r_int S fun t s S => r_local S hmg (r_sub S fun t s S => r_local S hmp (r_fdiv S (by (first | lia | omega)) (PyProof.noPylong_small (by (first | lia | omega))) fun t s S => r_int S fun t s S => r_add S fun t s S => wpAny_items_nil ?_))))))))
    have hn : ((7 : Int) - (fig : Int)).fdiv (p : Int) + 1 = (((7 - fig) / p + 1 : Nat) : Int) := by
      rw [Int.fdiv_eq_ediv_of_nonneg _ (by (first | lia | omega)), Int.natCast_add, Int.natCast_ediv, Int.ofNat_sub (by (first | lia | omega))]; rfl
    rw [hn]
    have hnle : (7 - fig) / p + 1 ≤ 4 := by
      have : (7 - fig) / p ≤ (7 - fig) / 2 := Nat.div_le_div_left (by (first | lia | omega)) (by decide)
      (first | lia | omega)
    generalize hnn : (7 - fig) / p + 1 = n at *
    refine r_range1 S fun r s S => r_iterRange S (by (first | lia | omega)) (by (first | lia | omega)) fun it2 s S => ?_
    refine r_loop (src_range0 (n := n)) hR'.1 (fun j m X Fs' => m "found" = some (.ref c) ∧ m "table" = some (.ref ld) ∧ m "prime" = some (.int (p : Int) t3) ∧ m "figure" = some (.int (fig : Int) t4) ∧ m "bits" = some (.int (nb : Int) t5) ∧ m "i" = some (.int (i : Int) ti) ∧
      (∃ kvs, X = [(it, isTIter lt (i + 1)), (ld, isDict kvs)] ∧ KnK Fs' kvs (mapV .int (ledRow nb p fig x i (ledTab nb p fig x i) j)) ∧ kvs.length ≤ 8 * i + j) ∧ ∀ f ∈ Fs1, Tells Fs' f)
      (X := [(it, isTIter lt (i + 1)), (ld, isDict kvs)]) S (fun g hg => nomatch hg) ⟨hmf, hmt, hmp, hmg, hmb, rfl, ⟨kvs, rfl, hK.up, by (first | lia | omega)⟩, fun f hf => .mem (.tail _ hf)⟩ ?_ ?_
    · rintro E2 R1 j d v m X Fs2 s hN hV hd ⟨hmf, hmt, hmp, hmg, hmb, hmi, ⟨kvs, rfl, hK, hkl⟩, hFs2⟩ hG2 S
      have hjn : j < n := by have := (List.getElem?_eq_some_iff.mp hd).1; simpa using this
      have hd' : d = .int (j : Int) := by
        rw [List.getElem?_map, List.getElem?_range hjn] at hd
        exact (Option.some.inj hd).symm
      subst hd'
      obtain ⟨tj, rfl⟩ := Kn.isInt S (.mem (.head _))
      have hkb : 8 * (p * i + fig) + p * j + fig < 64 := by rcases hp with rfl | rfl <;> (first | lia | omega)
      refine wpAny_assign_Name (r_store S fun s S => ?_)
      refine x_assignSub (r_item (r_local S hmf ?_))
      refine wpAny_BinOp (wpAny_BinOp (wpAny_BinOp (r_int S fun t s S => ?_)))
      refine wpAny_BinOp (wpAny_BinOp (r_local S hmp (r_local S hmi (r_mul S (mulOk_small (by (first | lia | omega)) (by (first | lia | omega))) fun t s S => r_local S hmg (r_add S fun t s S => ?_)))))
      refine r_mul S (mulOk_small (by decide) (by decide)) fun t s S => ?_
      refine wpAny_BinOp (r_local S hmp (r_local S rfl (r_mul S (mulOk_small (by (first | lia | omega)) (by (first | lia | omega))) fun t s S => r_add S fun t s S => r_local S hmg (r_add S fun t s S => ?_))))
      have ek : (8 : Int) * ((p : Int) * (i : Int) + (fig : Int)) + (p : Int) * (j : Int) + (fig : Int) = ((8 * (p * i + fig) + p * j + fig : Nat) : Int) := by
        simp only [Int.natCast_add, Int.natCast_mul]; rfl
      rw [ek]
      refine sub_list S ((hc.sub hFs2).up) (by (first | lia | omega)) (by (first | lia | omega)) (d := .int ((dg nb x (8 * (p * i + fig) + p * j + fig) : Nat) : Int)) ?_ fun v s S => ?_
      · rw [Int.toNat_natCast, List.getElem?_map, digs_pad (by (first | lia | omega)) (by (first | lia | omega))]; rfl
      refine r_local S hmt (wpAny_BinOp (wpAny_BinOp (r_int S fun t s S => r_local S hmi (r_mul S (mulOk_small (by decide) (by decide)) fun t s S => r_local S rfl (r_add S fun t s S => ?_)))))
      have ekk : (8 : Int) * (i : Int) + (j : Int) = ((8 * i + j : Nat) : Int) := by (first | lia | omega)
      rw [ekk]
      refine r_dictSet S.rot (by rw [sizeLine_eq]; (first | lia | omega)) fun s S => x_nil ?_
      refine hN ⟨_, [(it, isTIter lt (i + 1)), (ld, isDict _)], _, ?_, (by intro g hg; cases hg), S.perm ((List.Perm.swap ..).trans ((List.Perm.swap ..).cons _))⟩
      refine ⟨hmf, hmt, hmp, hmg, hmb, hmi, ⟨_, rfl, ?_, ?_⟩, fun f hf => (hFs2 f hf).up.up⟩
      · rw [ledRow, List.range_succ, List.foldl_append, List.foldl_cons, List.foldl_nil, ← put_mapV]
        exact KnK.put hK.up.up (.mem (.head _))
      · have := put_length kvs (((8 * i + j : Nat)) : Int) v; rw [stored_eq]; (first | lia | omega)
    · rintro m X Fs2 s ⟨hmf, hmt, hmp, hmg, hmb, hmi, ⟨kvs, rfl, hK, hkl⟩, hFs2⟩ S
      rw [List.length_map, List.length_range] at hK hkl
      refine x_nil ?_
      refine hN ⟨_, [(ld, isDict kvs)], Fs2, ?_, fun g hg => ((hG g hg).sub hFs2), S⟩
      refine ⟨hmf, hmt, hmp, hmg, hmb, ⟨kvs, rfl, ?_, by (first | lia | omega)⟩, hc.sub hFs2, fun f hf => (hFs f hf).sub hFs2⟩
      rw [ledTab, List.range_succ, List.foldl_append, List.foldl_cons, List.foldl_nil, hnn]
      rw [ledTab, hnn] at hK
      exact hK
  · rintro m X Fs1 s ⟨hmf, hmt, hmp, hmg, hmb, ⟨kvs, rfl, hK, hkl⟩, hc, hFs⟩ S
    rw [List.length_map, List.length_range] at hK
    have S : St C' L' m [(ld, isDict kvs)] Fs1 s := S
    have S := S.freezeD hK
    refine x_ret (r_call G'.W hn' S (wpAny_items_cons (r_local S hmt (wpAny_items_cons (r_local S hmp (wpAny_items_cons (r_local S hmb (wpAny_items_nil ⟨hn'.at S, ?_⟩))))))))
    refine lnumber_ok G' hn' S (hR'.mono (by decide)) (.mem (.head _)) ⟨by (first | lia | omega), by (first | lia | omega)⟩ ⟨by (first | lia | omega), by (first | lia | omega)⟩ fun t s S => hBk.ret S fun s' S' => h t s' (S'.facts fun f hf => .mem (List.mem_append_right _ hf))
end
end Mine
end
section
open PySem PySem.W PyProof.Rows PySem.SeqAt
set_option maxRecDepth 100000
set_option linter.unusedVariables false
namespace Mine
noncomputable def d_lread : Def pw "_law_read" := ⟨_, _, _, rfl⟩
/-- the state behind a figure -/
noncomputable def led (nb p un st fig : Nat) : Nat := (ledN nb p fig (st * un ^ (p - 1))).toNat
noncomputable def walk (nb p un : Nat) : Nat → Nat → Nat → List Int → List Int
  | 0, _, _, last => last
  | t + 1, n, st, last => walk nb p un t (n / p) (led nb p un st (n % p)) (if n / p = 0 then last ++ [((led nb p un st (n % p) % 2 ^ nb : Nat) : Int)] else last)
noncomputable def toldOf (nb p un st0 : Nat) (n : Nat) : List (List Int) := (List.range n).map fun size => walk nb p un (9 - 2 * p) size st0 []
theorem dsum_nonneg {n : Nat} {l : List Int} (h : ∀ d ∈ l, 0 ≤ d ∧ d < 2 ^ n) : 0 ≤ dsum n l ∧ dsum n l < 2 ^ (n * l.length) := by
  induction l with
  | nil => simp [dsum]
  | cons x r ih =>
    obtain ⟨h1, h2⟩ := ih fun d hd => h d (.tail _ hd)
    obtain ⟨h3, h4⟩ := h x (.head _)
    have hp : (0 : Int) < 2 ^ n := Int.pow_pos (by decide)
    refine ⟨?_, ?_⟩
    · have := Int.mul_nonneg (Int.le_of_lt hp) h1; simp only [dsum]; (first | lia | omega)
    · rw [List.length_cons, Nat.mul_add, Nat.mul_one, Int.pow_add, Int.mul_comm]
      simp only [dsum]
      have h5 : (2 : Int) ^ n * (dsum n r + 1) ≤ 2 ^ n * 2 ^ (n * r.length) := Int.mul_le_mul_of_nonneg_left (by (first | lia | omega)) (Int.le_of_lt hp)
      rw [Int.mul_add, Int.mul_one] at h5
      (first | lia | omega)
theorem ledN_bound {nb p fig x : Nat} (hp : p = 2 ∨ p = 3) (hnb : 8 ≤ nb) : 0 ≤ ledN nb p fig x ∧ ledN nb p fig x < 2 ^ (nb * 12) := by
  have h := dsum_nonneg (n := nb) (l := numTab (ledTab nb p fig x 2) (p : Int)) (fun d hd => by
    obtain ⟨i, _, rfl⟩ := List.mem_map.mp hd
    have h1 := Int.fmod_nonneg_of_pos ((look (ledTab nb p fig x 2) (i : Int)).getD 0) (show (0 : Int) < p by (first | lia | omega))
    have h2 := Int.fmod_lt_of_pos ((look (ledTab nb p fig x 2) (i : Int)).getD 0) (show (0 : Int) < p by (first | lia | omega))
    have h3 : (2 : Int) ^ 8 ≤ 2 ^ nb := by
      have : (2 : Nat) ^ 8 ≤ 2 ^ nb := Nat.pow_le_pow_right (by decide) hnb
      have e : ((2 ^ nb : Nat) : Int) = 2 ^ nb := by rw [Int.natCast_pow]; rfl
      rw [← e]; (first | lia | omega)
    have h4 : (2 : Int) ^ 8 = 256 := by decide
    (first | lia | omega))
  have hl : (numTab (ledTab nb p fig x 2) (p : Int)).length = 12 := by simp [numTab]
  rw [hl] at h
  exact h
theorem led_lt {nb p un st fig : Nat} (hp : p = 2 ∨ p = 3) (hnb : 8 ≤ nb) : led nb p un st fig < 2 ^ (nb * 12) := by
  have h := ledN_bound (fig := fig) (x := st * un ^ (p - 1)) hp hnb
  have e : ((2 ^ (nb * 12) : Nat) : Int) = 2 ^ (nb * 12) := by rw [Int.natCast_pow]; rfl
  unfold led
  (first | lia | omega)
theorem led_eq {nb p un st fig : Nat} (hp : p = 2 ∨ p = 3) (hnb : 8 ≤ nb) : ledN nb p fig (st * un ^ (p - 1)) = (led nb p un st fig : Int) := by
  have h := ledN_bound (fig := fig) (x := st * un ^ (p - 1)) hp hnb
  unfold led; (first | lia | omega)
theorem big_ok {nb p un st : Nat} (hp : p = 2 ∨ p = 3) (hnb : 8 ≤ nb) (hs : st < 2 ^ (nb * 12)) (hu : un < 2 ^ (nb * 12)) : ndig nb (st * un ^ (p - 1)) ≤ 128 := by
  have h1 : st * un ^ (p - 1) < 2 ^ (nb * 36) := by
    have e : nb * 36 = nb * 12 + (nb * 12 + nb * 12) := by (first | lia | omega)
    have hu2 : un ^ (p - 1) < 2 ^ (nb * 12 + nb * 12) := by
      rw [Nat.pow_add]
      have hpos := Nat.two_pow_pos (nb * 12)
      rcases hp with rfl | rfl
      · show un ^ 1 < _
        rw [Nat.pow_one]
        exact Nat.lt_of_lt_of_le hu (Nat.le_mul_of_pos_right _ hpos)
      · show un ^ 2 < _
        rw [Nat.pow_two]
        exact Nat.mul_lt_mul_of_lt_of_le hu (Nat.le_of_lt hu) hpos
    rw [e, Nat.pow_add 2 (nb * 12)]
    exact Nat.mul_lt_mul_of_lt_of_le hs (Nat.le_of_lt hu2) (Nat.two_pow_pos _)
  have h2 := bits_le (a := ((st * un ^ (p - 1) : Nat) : Int)) (k := nb * 36) (by rw [Int.natAbs_natCast]; exact h1)
  unfold ndig
  refine Nat.div_le_of_le_mul ?_
  (first | lia | omega)
/-- what is kept of the states met -/
def Memo (nb p un : Nat) (kvs : List (Int × Value)) : Prop := ∀ k v, look kvs k = some v → ∃ st fig, fig < p ∧ k = ((st * p + fig : Nat) : Int) ∧ ∃ t, v = .int (led nb p un st fig : Int) t
theorem look_put {α : Type} (l : List (Int × α)) (k k' : Int) (a : α) : look (put l k a) k' = if k' = k then some a else look l k' := by
  by_cases hm : k ∈ l.map (·.1)
  · have hany : l.any (fun p => decide (p.1 = k)) = true := by
      obtain ⟨p, hp, e⟩ := List.mem_map.mp hm
      exact List.any_eq_true.mpr ⟨p, hp, by simpa using e⟩
    unfold put
    rw [if_pos hany]
    clear hany
    induction l with
    | nil => simp at hm
    | cons p r ih =>
      by_cases hpk : p.1 = k
      · simp only [List.map_cons, hpk, if_true, look, List.find?_cons]
        by_cases hk : k' = k
        · subst hk; simp
        · have : ¬ k = k' := fun e => hk e.symm
          simp only [this, decide_false, hk, if_false]
          by_cases hr : k ∈ r.map (·.1)
          · have := ih hr
            simp only [look, hk, if_false] at this
            exact this
          · have e : r.map (fun p => if p.1 = k then (p.1, a) else p) = r := by
              conv => rhs; rw [← List.map_id r]
              apply List.map_congr_left
              intro q hq
              have : ¬ q.1 = k := fun e => hr (List.mem_map.mpr ⟨q, hq, e⟩)
              simp [this]
            rw [e]
      · have hr : k ∈ r.map (·.1) := by
          rcases List.mem_cons.mp hm with h | h
          · exact absurd h.symm hpk
          · exact h
        have := ih hr
        simp only [List.map_cons, hpk, if_false, look, List.find?_cons] at this ⊢
        by_cases hk' : p.1 = k'
        · have hne : ¬ k' = k := fun e => hpk (hk'.trans e)
          simp [hk', hne]
        · simp only [hk', decide_false]; exact this
  · rw [put_new hm]
    have : ∀ l : List (Int × α), look (l ++ [(k, a)]) k' = match look l k' with | some x => some x | none => if k' = k then some a else none := by
      intro l
      induction l with
      | nil =>
        by_cases hk : k' = k
        · subst hk; simp [look]
        · have : ¬ k = k' := fun e => hk e.symm
          simp [look, hk, this]
      | cons p r ih =>
        simp only [look, List.cons_append, List.find?_cons] at ih ⊢
        by_cases hp : p.1 = k'
        · simp [hp]
        · simp only [hp, decide_false]; exact ih
    rw [this]
    by_cases hk : k' = k
    · subst hk; rw [look_none hm]
    · rw [if_neg hk, if_neg hk]; cases look l k' <;> rfl
theorem Memo.put {nb p un st fig : Nat} {kvs : List (Int × Value)} {t : Tok} (h : Memo nb p un kvs) (hf : fig < p) : Memo nb p un (put kvs ((st * p + fig : Nat) : Int) (.int (led nb p un st fig : Int) t)) := fun k v e => by
  rw [look_put] at e
  by_cases hk : k = ((st * p + fig : Nat) : Int)
  · rw [if_pos hk] at e; cases e; exact ⟨st, fig, hf, hk, t, rfl⟩
  · rw [if_neg hk] at e; exact h k v e
theorem Memo.get {nb p un st fig : Nat} {kvs : List (Int × Value)} {v : Value} (h : Memo nb p un kvs) (hf : fig < p) (e : look kvs ((st * p + fig : Nat) : Int) = some v) : ∃ t, v = .int (led nb p un st fig : Int) t := by
  obtain ⟨st', fig', hf', hk, t, rfl⟩ := h _ _ e
  have hk : st * p + fig = st' * p + fig' := by exact_mod_cast hk
  have h1 : fig = fig' := by
    have a := congrArg (· % p) hk
    simp only [Nat.mul_comm _ p, Nat.mul_add_mod, Nat.mod_eq_of_lt hf, Nat.mod_eq_of_lt hf'] at a
    exact a
  have h2 : st = st' := by
    subst h1
    have : st * p = st' * p := by (first | lia | omega)
    exact Nat.eq_of_mul_eq_mul_right (by (first | lia | omega)) this
  subst h1 h2
  exact ⟨t, rfl⟩
section
variable {prog : Program} {w : World} {A : Around} {E : Value → Shared → Prop} {C : Cx} {L : Addr} {m : Str → Option Value} {X : List (Addr × OP)} {Fs : List Fact} {s : Shared} {env : Env} {mg : Str → Option Value}
/-- the frame and the facts are packed -/
theorem St.pack (H : St C L m X Fs s) {goal : Prop} (k : ∀ mc Fc, (∀ x, mc x = m x) → (∀ f, Tells Fs f → Tells Fc f) → St C L mc X Fc s → goal) : goal := k m Fs (fun _ => rfl) (fun _ h => h) H
/-- an if of which both ways end alike -/
theorem x_ifP {test : Expr} {body orelse : List Stmt} {pos : Pos} {rest : List Stmt} {Q : Flow → Shared → Prop} (P : Shared → Prop)
    (h : wpAny (model prog w) A (isTrue test env (eval test env)) (fun b s₂ => if b then wpAny (model prog w) A (execs body env) (fun f s => f = .next ∧ P s) E s₂ else wpAny (model prog w) A (execs orelse env) (fun f s => f = .next ∧ P s) E s₂) E s)
    (hP : ∀ s, P s → wpAny (model prog w) A (execs rest env) Q E s) : wpAny (model prog w) A (execs (.If test body orelse pos :: rest) env) Q E s :=
  x_if (wpAny_mono h (fun b s₂ h₂ => by
    cases b with
    | true => exact wpAny_mono h₂ (fun f s h => by obtain ⟨rfl, h⟩ := h; exact hP s h) fun _ _ e => e
    | false => exact wpAny_mono h₂ (fun f s h => by obtain ⟨rfl, h⟩ := h; exact hP s h) fun _ _ e => e) fun _ _ e => e)
end
end Mine
end
section
open PySem PySem.W PyProof.Rows PySem.SeqAt
set_option maxRecDepth 100000
set_option linter.unusedVariables false
namespace Mine
/-- a size on its way: the number itself, or its complement -/
noncomputable def way (tu n : Nat) : Int := if tu = 0 then (n : Int) else -(n : Int) - 1
theorem way_step {tu n p : Nat} {sg : Int} (ht : tu < 2) (hp : p = 2 ∨ p = 3) (hs : sg = 1 ∨ sg = -1) :
    (way tu n * sg).fdiv ((p : Int) * sg) = way tu (n / p) ∧ (way tu n * sg).fmod ((p : Int) * sg) * sg = (if tu = 0 then ((n % p : Nat) : Int) else (p : Int) - 1 - ((n % p : Nat) : Int)) := by
  have hpp : (0 : Int) ≤ p := by (first | lia | omega)
  have key : (way tu n).fdiv (p : Int) = way tu (n / p) ∧ (way tu n).fmod (p : Int) = (if tu = 0 then ((n % p : Nat) : Int) else (p : Int) - 1 - ((n % p : Nat) : Int)) := by
    rw [Int.fdiv_eq_ediv_of_nonneg _ hpp, Int.fmod_eq_emod_of_nonneg _ hpp]
    unfold way
    rcases hp with rfl | rfl <;> by_cases h0 : tu = 0 <;> simp only [h0, if_true, if_false] <;> (first | lia | omega)
  rcases hs with rfl | rfl
  · simpa using key
  · rw [Int.mul_neg, Int.mul_one, Int.mul_neg, Int.mul_one, Int.neg_fdiv_neg, Int.neg_fmod_neg, Int.mul_neg, Int.mul_one, Int.neg_neg]
    exact key
section
variable {prog : Program} {w : World} {A : Around} {E : Value → Shared → Prop} {C : Cx} {L : Addr} {m : Str → Option Value} {X : List (Addr × OP)} {Fs : List Fact} {s : Shared} {env : Env} {mg : Str → Option Value}

set_option maxHeartbeats 4000000 in
theorem lread_ok {fa ca fl cl fn cn : Addr} {st0 un p most nb : Nat} {t1 t2 t3 t4 t5 : Tok} {Q : Value → Shared → Prop} (G : LG C.hW C.T C.TQ mg) (hf : FnIs C.hW mg d_lread fa ca) (hl : FnIs C.hW mg d_lled fl cl) (hn : FnIs C.hW mg d_lnumber fn cn) (H : St C L m X Fs s) (hR : Room A 150)
    (hp : p = 2 ∨ p = 3) (hnb : 8 ≤ nb ∧ nb ≤ 16) (hmost : most ≤ 15) (hst : st0 < 2 ^ (nb * 12)) (hun : un < 2 ^ (nb * 12))
    (h : ∀ c s', St C L m X (.V (.ref c) (.lst ((toldOf nb p un st0 (most + 1)).map fun l => .lst (l.map .int))) :: Fs) s' → Q (.ref c) s') : wpAny (model prog w) A (call (.ref fa) [.int (st0 : Int) t1, .int (un : Int) t2, .int (p : Int) t3, .int (most : Int) t4, .int (nb : Int) t5]) Q E s := by
  refine call_g ["start", "under", "prime", "most", "bits"] (k := 149) G.W.nolimit hf H hR fun C' L' s₁ R0 E0 hBk hE hR' S => ?_
  have G' := hE.lg G
  have hn' : FnIs C'.hW mg d_lnumber fn cn := hE.hW ▸ hn
  have hl' : FnIs C'.hW mg d_lled fl cl := hE.hW ▸ hl
  obtain ⟨fd, cd, hfd⟩ := G'.glo.idm
  refine x_swap2 hR'.1 (r_dict0 S fun lw s S => r_list (wpAny_items_nil (r_listEnd S fun lt s S => ⟨_, _, _, _, _, S, fun s S => r_store S fun s S => r_store S fun s S => ?_⟩)))
  refine x_for (r_callT G'.W S G'.range (wpAny_items_cons (wpAny_BinOp (r_local S rfl (r_int S fun t s S => r_add S fun t s S => wpAny_items_nil ?_)))))
  rw [show (most : Int) + 1 = ((most + 1 : Nat) : Int) by (first | lia | omega)]
  refine r_range1 S fun r s S => r_iterRange S (by (first | lia | omega)) (by (first | lia | omega)) fun it s S => ?_
  refine r_loop (src_range0 (n := most + 1)) hR'.1 (fun i m X Fs' => m "start" = some (.int (st0 : Int) t1) ∧ m "under" = some (.int (un : Int) t2) ∧ m "prime" = some (.int (p : Int) t3) ∧ m "bits" = some (.int (nb : Int) t5) ∧ m "ways" = some (.ref lw) ∧ m "told" = some (.ref lt) ∧
      (∃ kvs vt, X = [(lw, isDict kvs), (lt, isList vt)] ∧ Memo nb p un kvs ∧ kvs.length ≤ 8 * i ∧ KnL Fs' vt ((toldOf nb p un st0 i).map fun l => .lst (l.map .int)) ∧ vt.length = i) ∧ ∀ f ∈ Fs, Tells Fs' f)
    (X := [(lw, isDict []), (lt, isList [])]) (S.perm ((List.Perm.swap ..).cons _)) (by intro g hg; cases hg) ⟨rfl, rfl, rfl, rfl, rfl, rfl, ⟨[], [], rfl, fun k v e => by (cases e), Nat.zero_le _, .nil, rfl⟩, fun f hf => .mem hf⟩ ?_ ?_
  · rintro E' R1 i d v m X Fs1 s hN hV hd ⟨hms, hmu, hmp, hmb, hmw, hmt, ⟨kvs, vt, rfl, hM, hkl, hvt, hvl⟩, hFs⟩ hG S
    have hi : i < most + 1 := by have := (List.getElem?_eq_some_iff.mp hd).1; simpa using this
    have hd' : d = .int (i : Int) := by
      rw [List.getElem?_map, List.getElem?_range hi] at hd
      exact (Option.some.inj hd).symm
    subst hd'
    obtain ⟨ti, rfl⟩ := Kn.isInt S (.mem (.head _))
    refine wpAny_assign_Name (r_store S fun s S => ?_)
    refine x_assignTup (r_tuple (wpAny_items_cons (wpAny_BinOp (r_local S rfl (r_int S fun t s S => r_mod S (by decide) fun tt s S => wpAny_items_cons (wpAny_BinOp (r_int S fun t s S => ?_)))))))
    refine wpAny_BinOp (wpAny_BinOp (wpAny_BinOp (r_local S rfl (r_int S fun t s S => r_fdiv S (by decide) (PyProof.noPylong_small (by decide)) fun t s S => r_int S fun t s S => r_mod S (by decide) fun t s S => r_int S fun t s S => r_mul S (mulOk_right (by decide)) fun t s S => r_sub S fun ts s S => ?_))))
    refine wpAny_items_cons (r_local S hms (wpAny_items_cons (r_list (wpAny_items_nil (r_listEnd S fun ll s S => wpAny_items_nil (r_tupEndX S fun tp s S => ?_))))))
    have e1 : ((i : Int)).fmod 2 = ((i % 2 : Nat) : Int) := by rw [Int.fmod_eq_emod_of_nonneg _ (by decide)]; rfl
    rw [e1] at S
    generalize htu : i % 2 = tu at *
    have htu2 : tu < 2 := by (first | lia | omega)
    generalize hsg : (1 : Int) - (((i : Int).fdiv 2).fmod 2) * 2 = sg at *
    have hsg1 : sg = 1 ∨ sg = -1 := by
      rw [Int.fdiv_eq_ediv_of_nonneg _ (by decide), Int.fmod_eq_emod_of_nonneg _ (by decide)] at hsg
      (first | lia | omega)
    refine r_unpackX hR'.1 S rfl rfl fun s S => ?_
    refine r_inOrder (wpAny_assign_Name (r_store S fun s S => r_inOrder (wpAny_assign_Name (r_store S fun s S => r_inOrder (wpAny_assign_Name (r_store S fun s S => r_inOrder (wpAny_assign_Name (r_store S fun s S => r_inOrder0 ?_))))))))
    refine x_assign (r_item (r_tuple (wpAny_items_cons (r_local S rfl (wpAny_items_cons (wpAny_UnaryOp (r_local S rfl (r_inv S fun t s S => wpAny_items_nil ?_))))))))
    refine r_tupEnd S (ds := [.int (i : Int), .int (-(i : Int) - 1)]) (.cons Kn.int (.cons Kn.int .nil)) fun tq s S => ?_
    refine r_local S rfl (sub_tup S (.mem (.head _)) (by (first | lia | omega)) (by (first | lia | omega)) (d := .int (way tu i)) ?_ fun v s S => ?_)
    · have : tu = 0 ∨ tu = 1 := by (first | lia | omega)
      rcases this with rfl | rfl <;> rfl
    obtain ⟨tl, rfl⟩ := Kn.isInt S (.mem (.head _))
    have hFs2 : ∀ f ∈ Fs1, Tells (.V (.int (way tu i) tl) (.int (way tu i)) :: .V (.ref tq) (.tup [.int (i : Int), .int (-(i : Int) - 1)]) :: .V (.int (i : Int) ti) (.int (i : Int)) :: Fs1) f := fun f hf => .mem (.tail _ (.tail _ (.tail _ hf)))
    refine r_store S fun s S => ?_
    refine x_for (r_callT G'.W S G'.range (wpAny_items_cons (wpAny_BinOp (r_int S fun t s S => wpAny_BinOp (r_int S fun t s S => r_local S hmp (r_mul S (mulOk_small (by decide) (by decide)) fun t s S => r_sub S fun t s S => wpAny_items_nil ?_))))))
    rw [show (9 : Int) - 2 * (p : Int) = ((9 - 2 * p : Nat) : Int) by (first | lia | omega)]
    refine r_range1 S fun r2 s S => r_iterRange S (by (first | lia | omega)) (by (first | lia | omega)) fun it2 s S => ?_
    refine r_loop (src_range0 (n := 9 - 2 * p)) hR'.1 (fun j m X Fs' => m "start" = some (.int (st0 : Int) t1) ∧ m "under" = some (.int (un : Int) t2) ∧ m "prime" = some (.int (p : Int) t3) ∧ m "bits" = some (.int (nb : Int) t5) ∧ m "ways" = some (.ref lw) ∧ m "told" = some (.ref lt) ∧
        m "turned" = some (.int (tu : Int) tt) ∧ m "sign" = some (.int sg ts) ∧ m "last" = some (.ref ll) ∧
        (∃ (n st : Nat) (last : List Int) (tl tst : Tok) (kvs : List (Int × Value)) (vl : List Value), m "left" = some (.int (way tu n) tl) ∧ m "state" = some (.int (st : Int) tst) ∧ X = [(ll, isList vl), (it, isRIter (0 + ((i + 1 : Nat) : Int)) (((((most + 1 : Nat) : Int) - 0).toNat : Int) - ((i + 1 : Nat) : Int))), (lw, isDict kvs), (lt, isList vt)] ∧
          IsInts vl last ∧ vl.length ≤ j ∧ Memo nb p un kvs ∧ kvs.length ≤ 8 * i + j ∧ st < 2 ^ (nb * 12) ∧ n ≤ 30 ∧ walk nb p un (9 - 2 * p - j) n st last = walk nb p un (9 - 2 * p) i st0 []) ∧ ∀ f ∈ Fs1, Tells Fs' f)
      (X := [(ll, isList []), (it, isRIter (0 + ((i + 1 : Nat) : Int)) (((((most + 1 : Nat) : Int) - 0).toNat : Int) - ((i + 1 : Nat) : Int))), (lw, isDict kvs), (lt, isList vt)]) S (by intro g hg; cases hg)
      ⟨hms, hmu, hmp, hmb, hmw, hmt, rfl, rfl, rfl, ⟨i, st0, [], tl, t1, kvs, [], rfl, rfl, rfl, .nil, Nat.zero_le _, hM, by (first | lia | omega), hst, by (first | lia | omega), rfl⟩, hFs2⟩ ?_ ?_
    · rintro E2 R1 j d v m X Fs2 s hN hV hd ⟨hms, hmu, hmp, hmb, hmw, hmt, hmtu, hmsg, hmla, ⟨n, st, last, tl, tst, kvs, vl, hmle, hmst, rfl, hvl2, hvll, hM, hkl, hst, hnn, hwalk⟩, hFs2⟩ hG2 S
      have hjT : j < 9 - 2 * p := by have := (List.getElem?_eq_some_iff.mp hd).1; simpa using this
      refine wpAny_assign_Name (r_store S fun s S => ?_)
      obtain ⟨hq, hrm⟩ := way_step (n := n) htu2 hp hsg1
      have hwb : way tu n < 2 ^ 63 ∧ -(2 ^ 63) < way tu n ∧ (way tu n * sg).natAbs < 2 ^ 60 := by
        unfold way
        rcases hsg1 with rfl | rfl <;> split <;> (first | lia | omega)
      refine x_assignTup (r_call G'.W hfd S (wpAny_items_cons (wpAny_BinOp (r_local S hmle (r_local S hmsg (r_mul S (mulOk_small hwb.1 hwb.2.1) fun t s S => ?_))))))
      refine wpAny_items_cons (wpAny_BinOp (r_local S hmp (r_local S hmsg (r_mul S (mulOk_small (by (first | lia | omega)) (by (first | lia | omega))) fun t s S => wpAny_items_nil ⟨hfd.at S, ?_⟩))))
      refine idm_ok G'.glo hfd S (hR'.mono (by decide)) (by rcases hsg1 with rfl | rfl <;> (first | lia | omega)) (by rcases hsg1 with rfl | rfl <;> (first | lia | omega)) hwb.2.2 fun c s S => ?_
      rw [qr, hq] at S
      generalize hrem : (way tu n * sg).fmod ((p : Int) * sg) = rem at *
      refine r_unpack2 hR'.1 S (.mem (.head _)) fun v1 v2 s S => ?_
      obtain ⟨tv1, rfl⟩ := Kn.isInt S (.mem (.head _))
      obtain ⟨tv2, rfl⟩ := Kn.isInt S (.mem (.tail _ (.head _)))
      have hremb : rem < 2 ^ 63 ∧ -(2 ^ 63) < rem := by
        have hnp : n % p < p := Nat.mod_lt _ (by (first | lia | omega))
        rcases hsg1 with rfl | rfl <;> by_cases h0 : tu = 0 <;> simp only [h0, if_true, if_false] at hrm <;> (first | lia | omega)
      refine x_assign (r_item (r_tuple (wpAny_items_cons (wpAny_BinOp (r_local S rfl (r_local S hmsg (r_mul S (mulOk_small hremb.1 hremb.2) fun t s S => ?_)))))))
      refine wpAny_items_cons (wpAny_BinOp (wpAny_BinOp (r_local S hmp (r_int S fun t s S => r_sub S fun t s S => wpAny_BinOp (r_local S rfl (r_local S hmsg (r_mul S (mulOk_small hremb.1 hremb.2) fun t s S => r_sub S fun t s S => wpAny_items_nil ?_)))))))
      refine r_tupEnd S (ds := [.int (rem * sg), .int ((p : Int) - 1 - rem * sg)]) (.cons Kn.int (.cons Kn.int .nil)) fun tq s S => ?_
      refine r_local S hmtu (sub_tup S (.mem (.head _)) (by (first | lia | omega)) (by (first | lia | omega)) (d := .int ((n % p : Nat) : Int)) ?_ fun v s S => ?_)
      · have : tu = 0 ∨ tu = 1 := by (first | lia | omega)
        rcases this with h0 | h0
        · rw [hrm, h0]; simp
        · rw [hrm, h0]; simp; (first | lia | omega)
      obtain ⟨tfg, rfl⟩ := Kn.isInt S (.mem (.head _))
      have hmod : n % p < p := Nat.mod_lt _ (by (first | lia | omega))
      refine r_store S fun s S => ?_
      refine S.pack fun mc Fc hmc hFc S => ?_
      have m_st : mc "start" = some (.int (st0 : Int) t1) := (hmc _).trans hms
      have m_un : mc "under" = some (.int (un : Int) t2) := (hmc _).trans hmu
      have m_pr : mc "prime" = some (.int (p : Int) t3) := (hmc _).trans hmp
      have m_bi : mc "bits" = some (.int (nb : Int) t5) := (hmc _).trans hmb
      have m_wa : mc "ways" = some (.ref lw) := (hmc _).trans hmw
      have m_to : mc "told" = some (.ref lt) := (hmc _).trans hmt
      have m_tu : mc "turned" = some (.int (tu : Int) tt) := (hmc _).trans hmtu
      have m_sg : mc "sign" = some (.int sg ts) := (hmc _).trans hmsg
      have m_la : mc "last" = some (.ref ll) := (hmc _).trans hmla
      have m_le : mc "left" = some (.int (way tu (n / p)) tv1) := (hmc _).trans rfl
      have m_sa : mc "state" = some (.int (st : Int) tst) := (hmc _).trans hmst
      have m_fg : mc "figure" = some (.int ((n % p : Nat) : Int) tfg) := (hmc _).trans rfl
      have hFs3 : ∀ f ∈ Fs1, Tells Fc f := fun f hf => hFc f (((hFs2 f hf).up.up.up.up.up.up))
      clear hmc hFc
      have ekey : (st : Int) * (p : Int) + ((n % p : Nat) : Int) = ((st * p + n % p : Nat) : Int) := by rw [Int.natCast_add, Int.natCast_mul]
      have hspb : (st : Int) * (p : Int) = ((st * p : Nat) : Int) := by rw [Int.natCast_mul]
      have hst200 : st < 2 ^ 200 := Nat.lt_of_lt_of_le hst (Nat.pow_le_pow_right (by decide) (by (first | lia | omega)))
      have hun200 : un < 2 ^ 200 := Nat.lt_of_lt_of_le hun (Nat.pow_le_pow_right (by decide) (by (first | lia | omega)))
      refine x_ifP (fun s => ∃ kvs' t', look kvs' ((st * p + n % p : Nat) : Int) = some (.int (led nb p un st (n % p) : Int) t') ∧ Memo nb p un kvs' ∧ kvs'.length ≤ 8 * i + j + 1 ∧ St C' L' mc [(it2, isRIter (0 + ((j + 1 : Nat) : Int)) (((((9 - 2 * p : Nat) : Int) - 0).toNat : Int) - ((j + 1 : Nat) : Int))), (ll, isList vl), (it, isRIter (0 + ((i + 1 : Nat) : Int)) (((((most + 1 : Nat) : Int) - 0).toNat : Int) - ((i + 1 : Nat) : Int))), (lw, isDict kvs'), (lt, isList vt)] Fc s) ?_ ?_
      · refine wpAny_isTrue_Compare1 (wpAny_BinOp (wpAny_BinOp (r_local S m_sa (r_local S m_pr (r_mul S (mulOk_right (by (first | lia | omega))) fun t s S => r_local S m_fg (r_add S fun t s S => r_local S m_wa ?_))))))
        rw [ekey]
        refine r_notInDict S (.tail _ (.tail _ (.tail _ (.head _)))) fun s S => wpAny_truthy_bool ?_
        cases hlk : look kvs ((st * p + n % p : Nat) : Int) with
        | some v =>
          obtain ⟨t', rfl⟩ := hM.get hmod hlk
          rw [if_neg (by simp)]
          exact x_nil ⟨rfl, kvs, t', hlk, hM, by (first | lia | omega), S⟩
        | none =>
          rw [if_pos (by simp)]
          refine x_assignSub (r_call G'.W hl' S (wpAny_items_cons (r_local S m_sa (wpAny_items_cons (r_local S m_un (wpAny_items_cons (r_local S m_pr (wpAny_items_cons (r_local S m_fg (wpAny_items_cons (r_local S m_bi (wpAny_items_nil ⟨hl'.at S, ?_⟩))))))))))))
          refine lled_ok G' hl' hn' S (hR'.mono (by decide)) hp hmod hnb hst200 hun200 (big_ok hp hnb.1 hst hun) fun tv s S => ?_
          rw [led_eq hp hnb.1]
          refine r_local S m_wa (wpAny_BinOp (wpAny_BinOp (r_local S m_sa (r_local S m_pr (r_mul S (mulOk_right (by (first | lia | omega))) fun t s S => r_local S m_fg (r_add S fun t s S => ?_))))))
          rw [ekey]
          refine r_dictSet S.rot4 (by rw [sizeLine_eq]; (first | lia | omega)) fun s S => ?_
          rw [stored_eq] at S
          refine x_nil ⟨rfl, put kvs ((st * p + n % p : Nat) : Int) (.int (led nb p un st (n % p) : Int) tv), tv, ?_, hM.put hmod, ?_, S.perm ?_⟩
          · rw [look_put, if_pos rfl]
          · exact Nat.le_trans (put_length ..) (by (first | lia | omega))
          · exact perm_idx 5 [1, 2, 3, 0, 4] (by decide)
      rintro s ⟨kvs2, t2', hlk, hM2, hkl2, S⟩
      refine x_assign (r_item (r_local S m_wa (wpAny_BinOp (wpAny_BinOp (r_local S m_sa (r_local S m_pr (r_mul S (mulOk_right (by (first | lia | omega))) fun t s S => r_local S m_fg (r_add S fun t s S => ?_))))))))
      rw [ekey]
      refine sub_dictX S (.tail _ (.tail _ (.tail _ (.head _)))) hlk fun s S => r_store S fun s S => ?_
      refine x_if (wpAny_isTrue_Compare1 (r_local S rfl (r_int S fun t s S => PyProof.Rows.lt_int (wpAny_truthy_bool ?_))))
      rw [if_neg (by simp)]
      refine x_nil (x_if (wpAny_isTrue_Compare1 (r_local S m_le (wpAny_UnaryOp (r_local S m_tu (r_neg S fun t s S => PyProof.Rows.eq_int (wpAny_truthy_bool ?_)))))))
      have hTj : 9 - 2 * p - j = 9 - 2 * p - (j + 1) + 1 := by (first | lia | omega)
      rw [hTj] at hwalk
      have hn30 : n / p ≤ 30 := Nat.le_trans (Nat.div_le_self ..) hnn
      have hcond : (way tu (n / p) == -(tu : Int)) = true ↔ n / p = 0 := by
        rw [beq_iff_eq]
        have : tu = 0 ∨ tu = 1 := by (first | lia | omega)
        generalize n / p = q
        rcases this with rfl | rfl
        · rw [way, if_pos rfl]; (first | lia | omega)
        · rw [way, if_neg (by decide)]; (first | lia | omega)
      by_cases hz : n / p = 0
      · rw [if_pos (hcond.mpr hz)]
        have h2b : (2 : Int) ^ ((nb : Nat) : Int).toNat = ((2 ^ nb : Nat) : Int) := by rw [Int.toNat_natCast, Int.natCast_pow]; rfl
        refine x_expr (wpAny_Call_method1_late rfl rfl rfl (r_local S m_la (m_append S (.tail _ (.head _)) (wpAny_BinOp (r_local S rfl (wpAny_BinOp (r_int S fun t s S => r_local S m_bi (r_pow S (by (first | lia | omega)) ?_ fun t s S => r_mod S ?_ fun t s S => ?_))))))))
        · have e2 : Builtin.Int.intBits 2 = 2 := by decide
          rw [e2]; (first | lia | omega)
        · rw [h2b]; have := Nat.two_pow_pos nb; (first | lia | omega)
        rw [h2b, Int.fmod_eq_emod_of_nonneg _ (Int.natCast_nonneg _), ← Int.natCast_emod]
        refine r_append S.swap (by rw [sizeLine_eq]; (first | lia | omega)) fun s S => ⟨rfl, x_nil (x_nil ?_)⟩
        refine hN ⟨_, [(ll, _), (it, _), (lw, _), (lt, _)], Fc, ?_, (by intro g hg; cases hg), S.swap⟩
        refine ⟨m_st, m_un, m_pr, m_bi, m_wa, m_to, m_tu, m_sg, m_la, ⟨n / p, led nb p un st (n % p), _, tv1, t2', kvs2, _, m_le, rfl, rfl, hvl2.snoc _ t, by simp; (first | lia | omega), hM2, by (first | lia | omega), led_lt hp hnb.1, hn30, ?_⟩, hFs3⟩
        rw [← hwalk, walk, if_pos hz]
      · rw [if_neg (fun h => hz (hcond.mp h))]
        refine x_nil (x_nil ?_)
        refine hN ⟨_, [(ll, _), (it, _), (lw, _), (lt, _)], Fc, ?_, (by intro g hg; cases hg), S⟩
        refine ⟨m_st, m_un, m_pr, m_bi, m_wa, m_to, m_tu, m_sg, m_la, ⟨n / p, led nb p un st (n % p), last, tv1, t2', kvs2, vl, m_le, rfl, rfl, hvl2, by (first | lia | omega), hM2, by (first | lia | omega), led_lt hp hnb.1, hn30, ?_⟩, hFs3⟩
        rw [← hwalk, walk, if_neg hz]
    · rintro m X Fs2 s ⟨hms, hmu, hmp, hmb, hmw, hmt, hmtu, hmsg, hmla, ⟨n, st, last, tl, tst, kvs, vl, hmle, hmst, rfl, hvl2, hvll, hM, hkl, hst, hnn, hwalk⟩, hFs2⟩ S
      rw [List.length_map, List.length_range, Nat.sub_self, walk] at hwalk
      rw [List.length_map, List.length_range] at hkl
      have S : St C' L' m [(ll, isList vl), (it, isRIter (0 + ((i + 1 : Nat) : Int)) (((((most + 1 : Nat) : Int) - 0).toNat : Int) - ((i + 1 : Nat) : Int))), (lw, isDict kvs), (lt, isList vt)] Fs2 s := S
      have S := S.freezeL hvl2.up0
      refine x_expr (wpAny_Call_method1_late rfl rfl rfl (r_local S hmt (m_append S (.tail _ (.tail _ (.head _))) (r_local S hmla ?_))))
      refine r_append S.rot (by rw [sizeLine_eq]; (first | lia | omega)) fun s S => ⟨rfl, x_nil ?_⟩
      refine hN ⟨_, [(lw, _), (lt, _)], _, ?_, (by intro g hg; cases hg), S.perm ((List.Perm.swap ..).trans ((List.Perm.swap ..).cons _))⟩
      refine ⟨hms, hmu, hmp, hmb, hmw, hmt, ⟨kvs, _, rfl, hM, by (first | lia | omega), ?_, by simp; (first | lia | omega)⟩, fun f hf => ((hFs f hf).sub hFs2).up⟩
      have e : toldOf nb p un st0 (i + 1) = toldOf nb p un st0 i ++ [last] := by
        rw [toldOf, List.range_succ, List.map_append, List.map_singleton, ← hwalk]; rfl
      rw [e, List.map_append]
      exact KnL.append ((hvt.sub fun f hf => hFs2 f hf).up) (.cons (.mem (.head _)) .nil)
  · rintro m X Fs1 s ⟨hms, hmu, hmp, hmb, hmw, hmt, ⟨kvs, vt, rfl, hM, hkl, hvt, hvl⟩, hFs⟩ S
    rw [List.length_map, List.length_range] at hvt
    have S : St C' L' m [(lw, isDict kvs), (lt, isList vt)] Fs1 s := S
    have S := (S.swap).freezeL hvt
    refine x_ret (r_local S hmt (hBk.ret S fun s' S' => h lt s' (S'.facts fun f hf => ?_)))
    rcases List.mem_cons.mp hf with rfl | hf
    · exact .mem (.head _)
    · exact .mem (List.mem_append_right _ hf)
end
end Mine
end
section
open PySem PySem.W PyProof.Rows
set_option maxRecDepth 100000
set_option linter.unusedVariables false
namespace Mine
theorem filterMap_lt {α β : Type} {f : α → Option β} {l : List α} {a : α} (ha : a ∈ l) (h : f a = none) : (l.filterMap f).length < l.length := by
  induction l with
  | nil => cases ha
  | cons b r ih =>
    have hle := List.length_filterMap_le f r
    rcases List.mem_cons.mp ha with rfl | ha
    · rw [List.filterMap_cons, h, List.length_cons]; exact Nat.lt_succ_of_le hle
    · have := ih ha
      rw [List.filterMap_cons, List.length_cons]
      cases f b with
      | none => exact Nat.lt_succ_of_lt this
      | some c => rw [List.length_cons]; exact Nat.succ_lt_succ this
/-- a target with a cell: no stores are swapped -/
theorem sw_cell {ts : List Expr} {k : Nat} {tpos : Pos} {value : Expr} {env : Env} {x : Str} {p : Pos} (hm : Expr.Name x p ∈ ts) (hx : env.kindOf x = some .cell) : swappedStores [.Tuple ts k tpos] value env = pure none := by
  unfold swappedStores
  split
  · rename_i ts' vs he
    have ht : ts' = ts := by
      cases value <;> simp at he
      exact he.1.symm
    subst ht
    split
    · rfl
    · split
      · rfl
      · dsimp only
        rw [if_pos]
        rw [Bool.or_eq_true]
        left
        rw [bne_iff_ne]
        refine Nat.ne_of_lt (filterMap_lt hm ?_)
        simp [hx]
  · rfl
section
variable {prog : Program} {w : World} {A : Around} {E : Value → Shared → Prop} {C : Cx} {L : Addr} {m : Str → Option Value} {X : List (Addr × OP)} {Fs : List Fact} {s : Shared} {env : Env} {mg : Str → Option Value}
theorem x_assignTupC {elts : List Expr} {k : Nat} {px pos : Pos} {value : Expr} {rest : List Stmt} {Q : Flow → Shared → Prop} (x : Str) (p : Pos) (hm : Expr.Name x p ∈ elts)
    (h : wpAny (model prog w) A (eval value env) (fun v s₁ => wpAny (model prog w) A (assign (.Tuple elts k px) env v) (fun _ s₂ => wpAny (model prog w) A (execs rest env) Q E s₂) E s₁) E s)
    (hx : env.kindOf x = some .cell := by rfl) (hs : swapsWithSole [.Tuple elts k px] value pos.line env = pure false := by rfl) : wpAny (model prog w) A (execs (.Assign [.Tuple elts k px] value pos :: rest) env) Q E s :=
  wpAny_execs_cons (Assign_Tuple h hs (sw_cell hm hx))

theorem r_dict1 {kx vx : Expr} {pos : Pos} {Q : Value → Shared → Prop} (H : St C L m X Fs s)
    (h : ∀ a s', St C L m ((a, isDict []) :: X) Fs s' → wpAny (model prog w) A (eval kx env) (fun kv s₁ => wpAny (model prog w) A (eval vx env) (fun vv s₂ => DictEnd prog w a Q [(kv, vv)] s₂) E s₁) E s') :
    wpAny (model prog w) A (eval (.Dict [some kx] [vx] pos) env) Q E s :=
  r_dict (pairs := [(eval kx env, (do let x ← eval vx env; standAt pos; pure x))]) H rfl (by simp) (by simp) fun a s' S => p_cons (wpAny_mono (h a s' S) (fun kv s₁ h₁ => wpAny_mono h₁ (fun vv s₂ h₂ => p_nil h₂) fun _ _ e => e) fun _ _ e => e)
theorem r_dict2 {kx vx ky vy : Expr} {pos : Pos} {Q : Value → Shared → Prop} (H : St C L m X Fs s)
    (h : ∀ a s', St C L m ((a, isDict []) :: X) Fs s' → wpAny (model prog w) A (eval kx env) (fun kv s₁ => wpAny (model prog w) A (eval vx env) (fun vv s₂ => wpAny (model prog w) A (eval ky env) (fun kv' s₃ => wpAny (model prog w) A (eval vy env) (fun vv' s₄ => DictEnd prog w a Q [(kv, vv), (kv', vv')] s₄) E s₃) E s₂) E s₁) E s') :
    wpAny (model prog w) A (eval (.Dict [some kx, some ky] [vx, vy] pos) env) Q E s :=
  r_dict (pairs := [(eval kx env, (do let x ← eval vx env; standAt pos; pure x)), (eval ky env, (do let x ← eval vy env; standAt pos; pure x))]) H rfl (by simp) (by simp) fun a s' S =>
    p_cons (wpAny_mono (h a s' S) (fun kv s₁ h₁ => wpAny_mono h₁ (fun vv s₂ h₂ => p_cons (wpAny_mono h₂ (fun kv' s₃ h₃ => wpAny_mono h₃ (fun vv' s₄ h₄ => p_nil h₄) fun _ _ e => e) fun _ _ e => e)) fun _ _ e => e) fun _ _ e => e)
end
end Mine
end
section
open PySem PySem.W PyProof.Rows PySem.SeqAt
set_option maxRecDepth 100000
set_option linter.unusedVariables false
namespace Mine
noncomputable def d_ltrees : Def pw "_law_trees" := ⟨_, _, _, rfl⟩
theorem IsInts.at {vs : List Value} {ns : List Int} (h : IsInts vs ns) {i : Nat} {n : Int} (e : ns[i]? = some n) : ∃ t, vs[i]? = some (.int n t) := by
  obtain ⟨h1, h2⟩ := h (fun _ => none) (fun _ h => nomatch h)
  have hi : i < ns.length := (List.getElem?_eq_some_iff.mp e).1
  have hv : vs[i]? = some (vs[i]'(by rw [h1, List.length_map]; exact hi)) := List.getElem?_eq_getElem _
  have h3 := h2 i _ (.int n) hv (by rw [List.getElem?_map, e]; rfl)
  generalize vs[i]'(by rw [h1, List.length_map]; exact hi) = v at hv h3
  cases h3 with
  | @int _ t => exact ⟨t, hv⟩
/-- the counts, as far as they are known: trees, pairs, threes -/
noncomputable def at' (l : List Int) (i : Nat) : Int := l[i]?.getD 0
noncomputable def conv (a b : List Int) (n : Nat) : Int := ((List.range (n - 1)).map fun i => at' a (1 + i) * at' b (n - (1 + i))).sum
noncomputable def manyOf (w0 w1 w2 w3 : List Int) (n : Nat) (r : Nat × Nat) : Int := at' (if r.2 = 0 then w0 else if r.2 = 1 then w1 else if r.2 = 2 then w2 else w3) (n - r.1)
structure Ws where
  w1 : List Int
  w2 : List Int
  w3 : List Int
noncomputable def zeroth (most : Nat) : List Int := 1 :: List.replicate most 0
noncomputable def treeStep (most : Nat) (rules : List (Nat × Nat)) (w : Ws) (n : Nat) : Ws :=
  let w2 := w.w2 ++ [conv w.w1 w.w1 n]
  let w3 := w.w3 ++ [conv w.w1 w2 n]
  ⟨w.w1 ++ [(rules.map (manyOf (zeroth most) w.w1 w2 w3 n)).sum], w2, w3⟩
noncomputable def treesOf (most : Nat) (rules : List (Nat × Nat)) (k : Nat) : Ws := (List.range k).foldl (fun w i => treeStep most rules w (i + 1)) ⟨[0], [0], [0]⟩
theorem treesOf_succ (most : Nat) (rules : List (Nat × Nat)) (k : Nat) : treesOf most rules (k + 1) = treeStep most rules (treesOf most rules k) (k + 1) := by
  rw [treesOf, List.range_succ, List.foldl_append]; rfl
theorem treesOf_len (most : Nat) (rules : List (Nat × Nat)) : ∀ k, (treesOf most rules k).w1.length = k + 1 ∧ (treesOf most rules k).w2.length = k + 1 ∧ (treesOf most rules k).w3.length = k + 1
  | 0 => ⟨rfl, rfl, rfl⟩
  | k + 1 => by
    obtain ⟨h1, h2, h3⟩ := treesOf_len most rules k
    rw [treesOf_succ]
    simp [treeStep, h1, h2, h3]
theorem treesOf_mono (most : Nat) (rules : List (Nat × Nat)) : ∀ {k i : Nat}, i ≤ k → (∀ x ∈ (treesOf most rules i).w1, x ∈ (treesOf most rules k).w1) ∧ (∀ x ∈ (treesOf most rules i).w2, x ∈ (treesOf most rules k).w2)
  | 0, i, h => by
    have : i = 0 := by (first | lia | omega)
    subst this; exact ⟨fun x h => h, fun x h => h⟩
  | k + 1, i, h => by
    by_cases e : i = k + 1
    · subst e; exact ⟨fun x h => h, fun x h => h⟩
    · obtain ⟨h1, h2⟩ := treesOf_mono most rules (k := k) (i := i) (by (first | lia | omega))
      rw [treesOf_succ]
      exact ⟨fun x hx => List.mem_append_left _ (h1 x hx), fun x hx => List.mem_append_left _ (h2 x hx)⟩
/-- small enough all along -/
def Small (l : List Int) : Prop := ∀ x ∈ l, x.natAbs < 2 ^ 63
theorem Small.at {l : List Int} (h : Small l) (i : Nat) : (at' l i).natAbs < 2 ^ 63 := by
  unfold at'
  cases e : l[i]? with
  | none => simp
  | some x => exact h x (List.mem_of_getElem? e)
theorem at_get {l : List Int} {i : Nat} (h : i < l.length) : l[i]? = some (at' l i) := by
  rw [at', List.getElem?_eq_getElem h]; rfl

section
variable {prog : Program} {w : World} {A : Around} {E : Value → Shared → Prop} {C : Cx} {L : Addr} {m : Str → Option Value} {X : List (Addr × OP)} {Fs : List Fact} {s : Shared} {env : Env} {mg : Str → Option Value}

theorem zRange1 (n : Nat) : zRange 1 (n : Int) = (List.range (n - 1)).map fun (i : Nat) => D.int ((1 + i : Nat) : Int) := by
  unfold zRange
  rw [show ((n : Int) - 1).toNat = n - 1 by (first | lia | omega)]
  apply List.map_congr_left
  intro i _
  simp
theorem src_range1 {it : Addr} {n : Nat} {x : Str} {p : Pos} : Src prog w (.Name x p) (.ref it) ((List.range (n - 1)).map fun (i : Nat) => D.int ((1 + i : Nat) : Int)) (fun i => [(it, isRIter (1 + i) (((n : Int) - 1).toNat - i))]) [] [] := by
  rw [← zRange1]; exact src_range
theorem St.rot7 {p q r u v x y : Addr × OP} (H : St C L m (p :: q :: r :: u :: v :: x :: y :: X) Fs s) : St C L m (y :: p :: q :: r :: u :: v :: x :: X) Fs s := H.perm (perm_last y [p, q, r, u, v, x] X)
theorem m_getInt {d : Addr} {tb : List (Int × Int)} {x y : Sem Value} {pos : Pos} {Q : Value → Shared → Prop} (H : St C L m X Fs s) (hd : Kn Fs (.ref d) (.dct (mapV .int tb)))
    (h : wpAny (model prog w) A x (fun kv s₁ => wpAny (model prog w) A y (fun dv s₂ => ∃ C L m X Fs k t z u, kv = .int k t ∧ dv = .int z u ∧ St C L m X Fs s₂ ∧ Kn Fs (.ref d) (.dct (mapV .int tb)) ∧ ∀ v s', St C L m X Fs s' → Q (.int ((look tb k).getD z) v) s') E s₁) E s) : MethodOn prog w A "get" pos (.ref d) [(false, x), (false, y)] Q E s :=
  m_get2 H hd (wpAny_mono h (fun kv s₁ h₁ => wpAny_mono h₁ (fun dv s₂ h₂ => by
    obtain ⟨C, L, m, X, Fs, k, t, z, u, rfl, rfl, S, hd2, hQ⟩ := h₂
    refine ⟨_, _, _, _, _, k, t, rfl, S, hd2, fun e v s' he S' => ?_, fun s' he S' => ?_⟩
    · rw [look_mapV] at he
      cases hl : look tb k with
      | none => rw [hl] at he; cases he
      | some n =>
        rw [hl] at he; cases he
        obtain ⟨tv, rfl⟩ := Kn.isInt S' (.mem (.head _))
        have := hQ tv s' S'.tail
        rw [hl] at this; exact this
    · rw [look_mapV] at he
      have hl : look tb k = none := by cases hl : look tb k with
        | none => rfl
        | some n => rw [hl] at he; cases he
      have := hQ u s' S'
      rw [hl] at this; exact this) fun _ _ e => e) fun _ _ e => e)
/-- the sums of one size -/
noncomputable def entOf (n : Int) (manys : List (Int × Int)) : Int × Int × Int × Int × List (Int × Int) :=
  manys.foldl (fun e x => (x.1 + e.1, x.1 * x.2 + e.2.1, x.1 * (n - x.2) + e.2.2.1, x.1 * n + e.2.2.2.1, mergeW (· + ·) e.2.2.2.2 [(x.2, x.1)])) (0, 0, 0, 0, [])
theorem entOf_snoc (n : Int) (l : List (Int × Int)) (x : Int × Int) : entOf n (l ++ [x]) = (x.1 + (entOf n l).1, x.1 * x.2 + (entOf n l).2.1, x.1 * (n - x.2) + (entOf n l).2.2.1, x.1 * n + (entOf n l).2.2.2.1, mergeW (· + ·) (entOf n l).2.2.2.2 [(x.2, x.1)]) := by
  rw [entOf, List.foldl_append]; rfl
theorem put_sum {l : List (Int × Int)} {k a : Int} (hn : (l.map (·.1)).Nodup) : ((put l k a).map (·.2)).sum = (l.map (·.2)).sum + a - (look l k).getD 0 := by
  by_cases hk : k ∈ l.map (·.1)
  · have hany : l.any (fun p => decide (p.1 = k)) = true := by
      obtain ⟨p, hp, e⟩ := List.mem_map.mp hk
      exact List.any_eq_true.mpr ⟨p, hp, by simpa using e⟩
    unfold put
    rw [if_pos hany]
    clear hany
    induction l with
    | nil => simp at hk
    | cons p r ih =>
      rw [List.map_cons, List.nodup_cons] at hn
      by_cases hp : p.1 = k
      · have e : r.map (fun q => if q.1 = k then (q.1, a) else q) = r := by
          conv => rhs; rw [← List.map_id r]
          apply List.map_congr_left
          intro q hq
          have : ¬ q.1 = k := fun e => hn.1 (List.mem_map.mpr ⟨q, hq, e.trans hp.symm⟩)
          simp [this]
        simp only [List.map_cons, hp, if_true, e, List.sum_cons, look, List.find?_cons, decide_true, Option.map_some, Option.getD_some]
        (first | lia | omega)
      · have hr : k ∈ r.map (·.1) := by
          rcases List.mem_cons.mp hk with h | h
          · exact absurd h.symm hp
          · exact h
        have := ih hn.2 hr
        simp only [List.map_cons, hp, if_false, List.sum_cons, look, List.find?_cons, decide_false] at this ⊢
        (first | lia | omega)
  · rw [put_new hk, look_none hk, List.map_append, List.sum_append]; simp
theorem entOf_ok (n : Int) (l : List (Int × Int)) (h : ∀ x ∈ l, x.2 = 0 ∨ x.2 = 1) :
    (entOf n l).2.1 = (look (entOf n l).2.2.2.2 1).getD 0 ∧ (entOf n l).2.2.1 = (entOf n l).1 * n - (entOf n l).2.1 ∧ (entOf n l).2.2.2.1 = (entOf n l).1 * n ∧ ((entOf n l).2.2.2.2.map (·.2)).sum = (entOf n l).1 ∧
      ((entOf n l).2.2.2.2.map (·.1)).Nodup ∧ (entOf n l).1 = (l.map (·.1)).sum := by
  suffices hs : ∀ r : List (Int × Int), (∀ x ∈ r, x.2 = 0 ∨ x.2 = 1) → (entOf n r.reverse).2.1 = (look (entOf n r.reverse).2.2.2.2 1).getD 0 ∧ (entOf n r.reverse).2.2.1 = (entOf n r.reverse).1 * n - (entOf n r.reverse).2.1 ∧ (entOf n r.reverse).2.2.2.1 = (entOf n r.reverse).1 * n ∧ ((entOf n r.reverse).2.2.2.2.map (·.2)).sum = (entOf n r.reverse).1 ∧
      ((entOf n r.reverse).2.2.2.2.map (·.1)).Nodup ∧ (entOf n r.reverse).1 = (r.reverse.map (·.1)).sum by
    have := hs l.reverse (fun x hx => h x (List.mem_reverse.mp hx)); simpa using this
  intro r
  induction r with
  | nil => intro _; refine ⟨rfl, ?_, ?_, rfl, by simp [entOf], rfl⟩ <;> simp [entOf]
  | cons x r ih =>
    intro hx
    obtain ⟨h1, h2, h3, h4, h5, h6⟩ := ih fun y hy => hx y (.tail _ hy)
    have hx1 := hx x (.head _)
    rw [List.reverse_cons, entOf_snoc]
    generalize entOf n r.reverse = e at *
    obtain ⟨e0, e1, e2, e3, tb⟩ := e
    simp only at h1 h2 h3 h4 h5 h6 ⊢
    have hm : mergeW (· + ·) tb [(x.2, x.1)] = put tb x.2 ((look tb x.2).getD 0 + x.1) := by
      show put tb x.2 _ = _
      cases look tb x.2 <;> simp
    rw [hm]
    refine ⟨?_, ?_, ?_, ?_, put_nodup h5 _ _, ?_⟩
    · rw [look_put]
      rcases hx1 with h | h
      · rw [h, if_neg (by decide), ← h1]; (first | lia | omega)
      · rw [h, if_pos rfl, Option.getD_some, ← h1]; (first | lia | omega)
    · rw [Int.add_mul, Int.mul_sub]; (first | lia | omega)
    · rw [Int.add_mul]; (first | lia | omega)
    · rw [put_sum h5]; (first | lia | omega)
    · rw [List.map_append, List.sum_append, ← h6]; simp; (first | lia | omega)
theorem merge_one (A : List (Int × Int)) (k v : Int) : (mergeW (· + ·) A [(k, v)]).length ≤ A.length + 1 := by
  show (put A k _).length ≤ _
  exact put_length ..
theorem entOf_len (n : Int) (l : List (Int × Int)) : (entOf n l).2.2.2.2.length ≤ l.length := by
  suffices h : ∀ r : List (Int × Int), (entOf n r.reverse).2.2.2.2.length ≤ r.length by have := h l.reverse; simpa using this
  intro r
  induction r with
  | nil => exact Nat.zero_le _
  | cons x r ih =>
    rw [List.reverse_cons, entOf_snoc, List.length_cons]
    exact Nat.le_trans (merge_one ..) (Nat.succ_le_succ ih)
noncomputable def statE (e : Int × Int × Int × Int × List (Int × Int)) : D := stat e.1 e.2.1 e.2.2.1 e.2.2.2.1 e.2.2.2.2
/-- an item of an item of a list in hand -/
theorem sub_intX {l : Addr} {vs : List Value} {ns : List Int} {i : Nat} {t : Tok} {Q : Value → Shared → Prop} (H : St C L m X Fs s) (hl : (l, isList vs) ∈ X) (hv : IsInts vs ns) (hi : i < ns.length) (hb : ns.length ≤ 2 ^ 24) (h : ∀ u, Q (.int (at' ns i) u) s) : SubOn prog w A (.ref l) (.int (i : Int) t) Q E s := by
  obtain ⟨u, e⟩ := hv.at (at_get hi)
  exact sub_listX H hl (by (first | lia | omega)) (by (first | lia | omega)) (by rw [Int.toNat_natCast]; exact e) (h u)

set_option maxHeartbeats 4000000 in
theorem ltrees_ok {fa ca vr : Addr} {rules : List (Nat × Nat)} {most : Nat} {t1 : Tok} {Q : Value → Shared → Prop} (G : LG C.hW C.T C.TQ mg) (hf : FnIs C.hW mg d_ltrees fa ca) (H : St C L m X Fs s) (hR : Room A 10)
    (hv : Kn Fs (.ref vr) (.lst (rules.map fun r => pr ((r.1 : Int), (r.2 : Int))))) (hrl : rules.length ≤ 10) (hr : ∀ r ∈ rules, r.1 ≤ 1 ∧ r.2 ≤ 3 ∧ (r.2 = 1 → r.1 = 1)) (hmost : most ≤ 15) (hsm : Small (treesOf most rules most).w1 ∧ Small (treesOf most rules most).w2)
    (h : ∀ c s', St C L m X (.V (.ref c) (.lst ((treesOf most rules most).w1.map .int)) :: Fs) s' → Q (.ref c) s') : wpAny (model prog w) A (call (.ref fa) [.ref vr, .int (most : Int) t1]) Q E s := by
  refine call_gC ["rules", "most"] (k := 9) G.W.nolimit hf H hR fun C' L' cs s₁ R0 E0 hBk hcs hE hR' S => ?_
  obtain ⟨c2, c1, rfl⟩ : ∃ c2 c1, cs = [((Str.ofString "size"), c2), ((Str.ofString "ways"), c1)] := ⟨_, _, hcs⟩
  have G' := hE.lg G
  obtain ⟨f1, k1, hf1⟩ := G'.stats
  obtain ⟨f2, k2, hf2⟩ := G'.count
  obtain ⟨f3, k3, P3, hf3, _⟩ := G'.add
  have S : St C' L' _ [(c2, isCell none), (c1, isCell none)] Fs s₁ := S
  refine wpAny_execs_cons ?_
  refine Assign_Tuple ?_ ?_ ?_
  case refine_2 => rfl
  case refine_3 => exact sw_cell (x := "ways") (.tail _ (.head _)) rfl
  refine r_tuple ?_
  refine wpAny_items_cons ?_
  refine r_tuple ?_
  refine wpAny_items_cons ?_
  refine r_int S fun u0 s S => ?_
  refine wpAny_items_cons ?_
  refine r_int S fun u1 s S => ?_
  refine wpAny_items_cons ?_
  refine r_int S fun u2 s S => ?_
  refine wpAny_items_cons ?_
  refine r_int S fun u3 s S => ?_
  refine wpAny_items_cons ?_
  refine r_dict0 S fun ld s S => ?_
  have S := S.freezeD (ds := []) .nil
  refine wpAny_items_nil (r_tupEnd S (ds := [.int 0, .int 0, .int 0, .int 0, .dct []]) (.cons Kn.int (.cons Kn.int (.cons Kn.int (.cons Kn.int (.cons (.mem (.head _)) .nil))))) fun ln s S => ?_)
  refine wpAny_items_cons (r_list (wpAny_items_cons (wpAny_BinOp (r_list (wpAny_items_cons (r_int S fun v0 s S => wpAny_items_nil (r_listEnd S fun b0 s S => wpAny_BinOp (r_list (wpAny_items_cons (r_int S fun v1' s S => wpAny_items_nil (r_listEnd S fun b1 s S => r_local S rfl ?_)))))))))))
  refine r_mulList S (S.get (.head _)) (by (first | lia | omega)) (by (first | lia | omega)) (by simp) (by simp; (first | lia | omega)) fun b2 s S => ?_
  rw [Int.toNat_natCast, flat_one] at S
  refine r_addList S (S.get (.tail _ (.tail _ (.head _)))) (S.get (.head _)) (by simp [sizeLine_eq]; (first | lia | omega)) fun a0 s S => ?_
  have S : St C' L' _ [(a0, isList (.int 1 v0 :: List.replicate most (.int 0 v1'))), (c2, isCell none), (c1, isCell none)] _ s := S.sub (.cons₂ _ (.cons _ (.cons _ (.cons _ (List.Sublist.refl _)))))
  refine wpAny_items_cons ?_
  refine r_list (wpAny_items_cons ?_)
  refine r_int S fun x1 s S => wpAny_items_nil (r_listEnd S fun a1 s S => ?_)
  refine wpAny_items_cons ?_
  refine r_list (wpAny_items_cons ?_)
  refine r_int S fun x2 s S => wpAny_items_nil (r_listEnd S fun a2 s S => ?_)
  refine wpAny_items_cons ?_
  refine r_list (wpAny_items_cons ?_)
  refine r_int S fun x3 s S => wpAny_items_nil (r_listEnd S fun a3 s S => ?_)
  refine wpAny_items_nil (r_listEnd S fun lw s S => ?_)
  refine wpAny_items_nil (r_tupEndX S fun tp s S => ?_)
  refine r_unpackX hR'.1 S rfl rfl fun s S => ?_
  refine r_inOrder (wpAny_assign_Name (r_store S fun s S => ?_))
  refine S.pack fun mc Fc hmc hFc S => ?_
  have m_ru : mc "rules" = some (.ref vr) := (hmc _).trans rfl
  have m_mo : mc "most" = some (.int (most : Int) t1) := (hmc _).trans rfl
  have m_no : mc "none" = some (.ref ln) := (hmc _).trans rfl
  have hFs1 : ∀ f ∈ Fs, Tells Fc f := fun f hf => hFc f (.mem (.tail _ (.tail _ hf)))
  have hno : Kn Fc (.ref ln) (stat 0 0 0 0 []) := hFc _ (.mem (.head _))
  clear hmc hFc
  have S : St C' L' mc [(c1, isCell none), (c2, isCell none), (lw, isList [.ref a0, .ref a1, .ref a2, .ref a3]), (a1, isList [.int 0 x1]), (a2, isList [.int 0 x2]), (a3, isList [.int 0 x3]), (a0, isList (.int 1 v0 :: List.replicate most (.int 0 v1')))] Fc s :=
    S.order 7 [6, 5, 0, 3, 2, 1, 4] (by decide)
  refine r_inOrder (wpAny_assign_Name (r_storeCell S fun s S => r_inOrder0 ?_))
  refine x_for ?_
  refine r_callT G'.W S G'.range (wpAny_items_cons ?_)
  refine r_int S fun t s S => wpAny_items_cons ?_
  refine wpAny_BinOp (r_local S m_mo (r_int S fun t s S => r_add S fun t s S => wpAny_items_nil ?_))
  rw [show (most : Int) + 1 = ((most + 1 : Nat) : Int) by (first | lia | omega)]
  refine r_range2 S fun r s S => r_iterRange S (by decide) (by (first | lia | omega)) fun it s S => ?_
  refine r_loop (src_range1 (n := most + 1)) hR'.1 (fun i m X Fs' => m "rules" = some (.ref vr) ∧ m "most" = some (.int (most : Int) t1) ∧ m "none" = some (.ref ln) ∧
      (∃ co v1 v2 v3, X = [(c1, isCell (some (.ref lw))), (c2, isCell co), (lw, isList [.ref a0, .ref a1, .ref a2, .ref a3]), (a1, isList v1), (a2, isList v2), (a3, isList v3), (a0, isList (.int 1 v0 :: List.replicate most (.int 0 v1')))] ∧
        IsInts v1 (treesOf most rules i).w1 ∧ IsInts v2 (treesOf most rules i).w2 ∧ IsInts v3 (treesOf most rules i).w3) ∧ ∀ f ∈ Fc, Tells Fs' f)
    S (by intro g hg; cases hg) ⟨m_ru, m_mo, m_no, ⟨none, _, _, _, rfl, ints_rep 1 0 x1, ints_rep 1 0 x2, ints_rep 1 0 x3⟩, fun f hf => .mem hf⟩ ?_ ?_
  · rintro E' R1 i d v m X Fs1 s hN hV hd ⟨hmr, hmm, hmn, ⟨co, v1, v2, v3, rfl, hv1, hv2, hv3⟩, hFs⟩ hG S
    have hi : i < most := by have := (List.getElem?_eq_some_iff.mp hd).1; simpa using this
    have hd' : d = .int ((1 + i : Nat) : Int) := by
      rw [List.getElem?_map, List.getElem?_range (by (first | lia | omega))] at hd
      exact (Option.some.inj hd).symm
    subst hd'
    obtain ⟨ti, rfl⟩ := Kn.isInt S (.mem (.head _))
    rw [show 1 + i = i + 1 by (first | lia | omega)] at S ⊢
    obtain ⟨hl1, hl2, hl3⟩ := treesOf_len most rules i
    refine wpAny_assign_Name (r_storeCell S.rot fun s S => ?_)
    have hw1 : (treesOf most rules i).w1.length ≤ 16 := by (first | lia | omega)
    have sm1 : Small (treesOf most rules i).w1 := fun x hx => hsm.1 x ((treesOf_mono most rules (by (first | lia | omega))).1 x hx)
    generalize hWW : treesOf most rules i = W at *
    refine x_expr ?_
    refine wpAny_Call_method1_late rfl rfl rfl ?_
    refine r_item (r_cellName S (.tail _ (.tail _ (.head _))) ?_)
    refine r_int S fun t s S => sub_listX S (.tail _ (.tail _ (.tail _ (.head _)))) (by decide) (by decide) (v := .ref a2) rfl ?_
    refine m_append S (.tail _ (.tail _ (.tail _ (.tail _ (.tail _ (.head _)))))) ?_
    refine r_callB G'.W S G'.sum (wpAny_items_cons ?_)
    refine r_listComp ?_
    refine r_callT G'.W S G'.range (wpAny_items_cons ?_)
    refine r_int S fun t s S => wpAny_items_cons ?_
    refine r_cellName S (.head _) (wpAny_items_nil ?_)
    refine r_range2 S fun r s S => r_iterRange S (by decide) (by (first | lia | omega)) fun it2 s S => ?_
    refine r_listGo (l := List.range (i + 1 - 1)) (emb := fun (k : Nat) => D.int ((1 + k : Nat) : Int)) (src_range1 (n := i + 1)) hR'.1 S (by intro g hg; cases hg) (fun C L m X Fs s S => again_range S) (by simp [sizeLine_eq]; (first | lia | omega))
      (fun k => some (D.int (at' W.w1 (1 + k) * at' W.w1 (i + 1 - (1 + k))))) ?_ ?_
    · rintro E2 Hid L2 own cv j k x m2 Fs2 s ho hk hFs2 S
      have ho : own = [] := ho
      subst ho
      have hki : k < i := by have := (List.getElem?_eq_some_iff.mp hk); obtain ⟨h1, h2⟩ := this; simp at h1 h2; (first | lia | omega)
      obtain ⟨tk, rfl⟩ := Kn.isInt S (.mem (.head _))
      refine wpAny_assign_Name (r_store S fun s S => t_nil ⟨rfl, ?_⟩)
      refine wpAny_BinOp ?_
      refine r_item (r_item (r_cellName S (.tail _ (.tail _ (.tail _ (.head _)))) ?_))
      have esub : ((i + 1 : Nat) : Int) - ((1 + k : Nat) : Int) = ((i + 1 - (1 + k) : Nat) : Int) := by (first | lia | omega)
      refine r_int S fun t s S => sub_listX S (.tail _ (.tail _ (.tail _ (.tail _ (.head _))))) (by decide) (by decide) (v := .ref a1) rfl ?_
      refine r_local S rfl (sub_intX S (.tail _ (.tail _ (.tail _ (.tail _ (.tail _ (.head _)))))) hv1 (by (first | lia | omega)) (by (first | lia | omega)) fun u => ?_)
      refine r_item (r_item (r_cellName S (.tail _ (.tail _ (.tail _ (.head _)))) ?_))
      refine r_int S fun t s S => sub_listX S (.tail _ (.tail _ (.tail _ (.tail _ (.head _))))) (by decide) (by decide) (v := .ref a1) rfl ?_
      refine wpAny_BinOp (r_cellName S (.tail _ (.head _)) (r_local S rfl (r_sub S fun t s S => ?_)))
      rw [esub]
      refine sub_intX S (.tail _ (.tail _ (.tail _ (.tail _ (.tail _ (.head _)))))) hv1 (by (first | lia | omega)) (by (first | lia | omega)) fun u2 => ?_
      refine r_mul S (mulOk_left (Nat.lt_trans (sm1.at _) (by decide))) fun t s S => ?_
      exact ⟨cv, _, _, fun f hf => (Tells.mem hf).up, Kn.int, S⟩
    · intro acc L2 m2 s S
      refine r_listEndC S fun s S => wpAny_items_nil ?_
      have e : (List.range (i + 1 - 1)).filterMap (fun (k : Nat) => some (D.int (at' W.w1 (1 + k) * at' W.w1 (i + 1 - (1 + k))))) = ((List.range (i + 1 - 1)).map fun k => at' W.w1 (1 + k) * at' W.w1 (i + 1 - (1 + k))).map D.int := by rw [List.filterMap_eq_map', List.map_map]; rfl
      rw [e] at S
      refine r_sum hR'.1 S (.mem (.head _)) fun tsum s S => ?_
      have hl2v : v2.length = i + 1 := by rw [hv2.len0, List.length_map, hl2]
      have hl3v : v3.length = i + 1 := by rw [hv3.len0, List.length_map, hl3]
      refine r_append S.rot6 (by rw [sizeLine_eq]; (first | lia | omega)) fun s S => ⟨rfl, ?_⟩
      have hv2' : IsInts (v2 ++ [.int (conv W.w1 W.w1 (i + 1)) tsum]) (W.w2 ++ [conv W.w1 W.w1 (i + 1)]) := hv2.snoc _ tsum
      refine S.pack fun mc Fd hmc hFd S => ?_
      have m_ru : mc "rules" = some (.ref vr) := (hmc _).trans hmr
      have m_mo : mc "most" = some (.int (most : Int) t1) := (hmc _).trans hmm
      have m_no : mc "none" = some (.ref ln) := (hmc _).trans hmn
      have hFs2 : ∀ f ∈ Fc, Tells Fd f := fun f hf => hFd f ((hFs f hf).up.up)
      clear hmc hFd
      have S : St C' L' mc [(c2, isCell (some (.int ((i + 1 : Nat) : Int) ti))), (it, isRIter (1 + ((i + 1 : Nat) : Int)) (((((most + 1 : Nat) : Int) - 1).toNat : Int) - ((i + 1 : Nat) : Int))), (c1, isCell (some (.ref lw))), (lw, isList [.ref a0, .ref a1, .ref a2, .ref a3]), (a1, isList v1), (a2, isList (v2 ++ [.int (conv W.w1 W.w1 (i + 1)) tsum])), (a3, isList v3), (a0, isList (.int 1 v0 :: List.replicate most (.int 0 v1')))] Fd s :=
        S.order 8 [1, 2, 3, 4, 5, 0, 6, 7] (by decide)
      generalize hw2 : W.w2 ++ [conv W.w1 W.w1 (i + 1)] = w2 at *
      generalize v2 ++ [.int (conv W.w1 W.w1 (i + 1)) tsum] = v2' at *
      have hl2' : w2.length = i + 2 := by rw [← hw2]; simp [hl2]
      refine x_expr ?_
      refine wpAny_Call_method1_late rfl rfl rfl ?_
      refine r_item (r_cellName S (.tail _ (.tail _ (.head _))) ?_)
      refine r_int S fun t s S => sub_listX S (.tail _ (.tail _ (.tail _ (.head _)))) (by decide) (by decide) (v := .ref a3) rfl ?_
      refine m_append S (.tail _ (.tail _ (.tail _ (.tail _ (.tail _ (.tail _ (.head _))))))) ?_
      refine r_callB G'.W S G'.sum (wpAny_items_cons ?_)
      refine r_listComp ?_
      refine r_callT G'.W S G'.range (wpAny_items_cons ?_)
      refine r_int S fun t s S => wpAny_items_cons ?_
      refine r_cellName S (.head _) (wpAny_items_nil ?_)
      refine r_range2 S fun r s S => r_iterRange S (by decide) (by (first | lia | omega)) fun it2 s S => ?_
      refine r_listGo (l := List.range (i + 1 - 1)) (emb := fun (k : Nat) => D.int ((1 + k : Nat) : Int)) (src_range1 (n := i + 1)) hR'.1 S (by intro g hg; cases hg) (fun C L m X Fs s S => again_range S) (by simp [sizeLine_eq]; (first | lia | omega))
        (fun k => some (D.int (at' W.w1 (1 + k) * at' w2 (i + 1 - (1 + k))))) ?_ ?_
      · rintro E2 Hid L2 own cv j k x m2 Fs2 s ho hk hFs2 S
        have ho : own = [] := ho
        subst ho
        have hki : k < i := by have := (List.getElem?_eq_some_iff.mp hk); obtain ⟨h1, h2⟩ := this; simp at h1 h2; (first | lia | omega)
        obtain ⟨tk, rfl⟩ := Kn.isInt S (.mem (.head _))
        refine wpAny_assign_Name (r_store S fun s S => t_nil ⟨rfl, ?_⟩)
        refine wpAny_BinOp ?_
        refine r_item (r_item (r_cellName S (.tail _ (.tail _ (.tail _ (.head _)))) ?_))
        have esub : ((i + 1 : Nat) : Int) - ((1 + k : Nat) : Int) = ((i + 1 - (1 + k) : Nat) : Int) := by (first | lia | omega)
        refine r_int S fun t s S => sub_listX S (.tail _ (.tail _ (.tail _ (.tail _ (.head _))))) (by decide) (by decide) (v := .ref a1) rfl ?_
        refine r_local S rfl (sub_intX S (.tail _ (.tail _ (.tail _ (.tail _ (.tail _ (.head _)))))) hv1 (by (first | lia | omega)) (by (first | lia | omega)) fun u => ?_)
        refine r_item (r_item (r_cellName S (.tail _ (.tail _ (.tail _ (.head _)))) ?_))
        refine r_int S fun t s S => sub_listX S (.tail _ (.tail _ (.tail _ (.tail _ (.head _))))) (by decide) (by decide) (v := .ref a2) rfl ?_
        refine wpAny_BinOp (r_cellName S (.tail _ (.head _)) (r_local S rfl (r_sub S fun t s S => ?_)))
        rw [esub]
        refine sub_intX S (.tail _ (.tail _ (.tail _ (.tail _ (.tail _ (.tail _ (.head _))))))) hv2' (by (first | lia | omega)) (by (first | lia | omega)) fun u2 => ?_
        refine r_mul S (mulOk_left (Nat.lt_trans (sm1.at _) (by decide))) fun t s S => ?_
        exact ⟨cv, _, _, fun f hf => (Tells.mem hf).up, Kn.int, S⟩
      · intro acc3 L3 m3 s S
        refine r_listEndC S fun s S => wpAny_items_nil ?_
        have e : (List.range (i + 1 - 1)).filterMap (fun (k : Nat) => some (D.int (at' W.w1 (1 + k) * at' w2 (i + 1 - (1 + k))))) = ((List.range (i + 1 - 1)).map fun k => at' W.w1 (1 + k) * at' w2 (i + 1 - (1 + k))).map D.int := by rw [List.filterMap_eq_map', List.map_map]; rfl
        rw [e] at S
        refine r_sum hR'.1 S (.mem (.head _)) fun tsum3 s S => ?_
        refine r_append S.rot7 (by rw [sizeLine_eq]; (first | lia | omega)) fun s S => ⟨rfl, ?_⟩
        change St _ _ _ ((a3, isList (v3 ++ [.int (conv W.w1 w2 (i + 1)) tsum3])) :: _) _ _ at S
        have hv3' : IsInts (v3 ++ [.int (conv W.w1 w2 (i + 1)) tsum3]) (W.w3 ++ [conv W.w1 w2 (i + 1)]) := hv3.snoc _ tsum3
        refine S.pack fun mc Fe hmc hFe S => ?_
        have m_ru2 : mc "rules" = some (.ref vr) := (hmc _).trans m_ru
        have m_mo2 : mc "most" = some (.int (most : Int) t1) := (hmc _).trans m_mo
        have m_no2 : mc "none" = some (.ref ln) := (hmc _).trans m_no
        have hFs3 : ∀ f ∈ Fc, Tells Fe f := fun f hf => hFe f ((hFs2 f hf).up)
        clear hmc hFe
        have S : St C' L' mc [(c2, isCell (some (.int ((i + 1 : Nat) : Int) ti))), (it, isRIter (1 + ((i + 1 : Nat) : Int)) (((((most + 1 : Nat) : Int) - 1).toNat : Int) - ((i + 1 : Nat) : Int))), (c1, isCell (some (.ref lw))), (lw, isList [.ref a0, .ref a1, .ref a2, .ref a3]), (a1, isList v1), (a2, isList v2'), (a3, isList (v3 ++ [.int (conv W.w1 w2 (i + 1)) tsum3])), (a0, isList (.int 1 v0 :: List.replicate most (.int 0 v1')))] Fe s :=
          S.order 8 [1, 2, 3, 4, 5, 6, 0, 7] (by decide)
        generalize hw3 : W.w3 ++ [conv W.w1 w2 (i + 1)] = w3 at *
        generalize v3 ++ [.int (conv W.w1 w2 (i + 1)) tsum3] = v3' at *
        have hl3' : w3.length = i + 2 := by rw [← hw3]; simp [hl3]
        have hv0' : IsInts (.int 1 v0 :: List.replicate most (.int 0 v1')) (zeroth most) := KnL.cons Kn.int (ints_rep most 0 v1')
        have hvr : Kn Fe (.ref vr) (.lst (rules.map fun r => pr ((r.1 : Int), (r.2 : Int)))) := hv.sub fun f hf => (hFs1 f hf).sub hFs3
        have hno2 : Kn Fe (.ref ln) (stat 0 0 0 0 []) := hno.sub hFs3
        refine x_assign (r_local S m_no2 (r_store S fun s S => ?_))
        refine x_for (r_local S m_ru2 (r_iterList S hvr fun itr s S => ?_))
        refine r_loop (src_list (.inr ⟨_, _, _, rfl⟩)) hR'.1 (fun k m X Fs' => m "rules" = some (.ref vr) ∧ m "most" = some (.int (most : Int) t1) ∧ m "none" = some (.ref ln) ∧
            (∃ ve, m "entry" = some ve ∧ Kn Fs' ve (statE (entOf ((i + 1 : Nat) : Int) ((rules.take k).map fun r => (manyOf (zeroth most) W.w1 w2 w3 (i + 1) r, (r.1 : Int)))))) ∧
            X = [(c2, isCell (some (.int ((i + 1 : Nat) : Int) ti))), (it, isRIter (1 + ((i + 1 : Nat) : Int)) (((((most + 1 : Nat) : Int) - 1).toNat : Int) - ((i + 1 : Nat) : Int))), (c1, isCell (some (.ref lw))), (lw, isList [.ref a0, .ref a1, .ref a2, .ref a3]), (a1, isList v1), (a2, isList v2'), (a3, isList v3'), (a0, isList (.int 1 v0 :: List.replicate most (.int 0 v1')))] ∧ ∀ f ∈ Fe, Tells Fs' f)
          S (by intro g hg; rcases List.mem_cons.mp hg with rfl | hg; exact hvr; cases hg) ⟨m_ru2, m_mo2, m_no2, ⟨_, rfl, hno2⟩, rfl, fun f hf => .mem hf⟩ ?_ ?_
        · rintro E2 R1 k d v m X Fs2 s hN hV hd ⟨hmr, hmm, hmn, ⟨ve, hme, hve⟩, rfl, hFs4⟩ hG2 S
          obtain ⟨r, hrk, rfl⟩ := get_map hd
          obtain ⟨hr1, hr2, hr3⟩ := hr r (List.mem_of_getElem? hrk)
          refine r_unpack2 hR'.1 S (.mem (.head _)) fun vl vh s S => ?_
          obtain ⟨tl, rfl⟩ := Kn.isInt S (.mem (.head _))
          obtain ⟨th, rfl⟩ := Kn.isInt S (.mem (.tail _ (.head _)))
          have hpick : ∃ ah vsh wh, ([Value.ref a0, .ref a1, .ref a2, .ref a3] : List Value)[r.2]? = some (.ref ah) ∧ IsInts vsh wh ∧ wh.length ≤ 20 ∧ i + 1 - r.1 < wh.length ∧ manyOf (zeroth most) W.w1 w2 w3 (i + 1) r = at' wh (i + 1 - r.1) ∧
              (ah, isList vsh) ∈ [(a0, isList (.int 1 v0 :: List.replicate most (.int 0 v1'))), (a1, isList v1), (a2, isList v2'), (a3, isList v3')] := by
            have : r.2 = 0 ∨ r.2 = 1 ∨ r.2 = 2 ∨ r.2 = 3 := by (first | lia | omega)
            unfold manyOf
            rcases this with h | h | h | h
            · exact ⟨a0, _, zeroth most, by rw [h]; rfl, hv0', by simp [zeroth]; (first | lia | omega), by simp [zeroth]; (first | lia | omega), by rw [if_pos h], .head _⟩
            · exact ⟨a1, _, W.w1, by rw [h]; rfl, hv1, by (first | lia | omega), by have := hr3 h; (first | lia | omega), by rw [if_neg (by (first | lia | omega)), if_pos h], .tail _ (.head _)⟩
            · exact ⟨a2, _, w2, by rw [h]; rfl, hv2', by (first | lia | omega), by (first | lia | omega), by rw [if_neg (by (first | lia | omega)), if_neg (by (first | lia | omega)), if_pos h], .tail _ (.tail _ (.head _))⟩
            · exact ⟨a3, _, w3, by rw [h]; rfl, hv3', by (first | lia | omega), by (first | lia | omega), by rw [if_neg (by (first | lia | omega)), if_neg (by (first | lia | omega)), if_neg (by (first | lia | omega))], .tail _ (.tail _ (.tail _ (.head _)))⟩
          obtain ⟨ah, vsh, wh, hget, hints, hwl, hwi, hmany, hmem⟩ := hpick
          have hmemS : ∀ {Y : List (Addr × OP)} {q1 q2 q3 q4 q5 : Addr × OP}, (ah, isList vsh) ∈ q1 :: q2 :: q3 :: q4 :: q5 :: (a1, isList v1) :: (a2, isList v2') :: (a3, isList v3') :: (a0, isList (.int 1 v0 :: List.replicate most (.int 0 v1'))) :: Y := by
            intro Y q1 q2 q3 q4 q5
            simp only [List.mem_cons, List.not_mem_nil, or_false] at hmem ⊢
            rcases hmem with h | h | h | h <;> simp [h]
          refine x_assign (r_item (r_item (r_cellName S (.tail _ (.tail _ (.tail _ (.head _)))) ?_)))
          refine r_local S rfl (sub_listX S (.tail _ (.tail _ (.tail _ (.tail _ (.head _))))) (by (first | lia | omega)) (by (first | lia | omega)) (v := .ref ah) (by rw [Int.toNat_natCast]; exact hget) ?_)
          refine wpAny_BinOp (r_cellName S (.tail _ (.head _)) (r_local S rfl (r_sub S fun t s S => ?_)))
          have esub : ((i + 1 : Nat) : Int) - ((r.1 : Nat) : Int) = ((i + 1 - r.1 : Nat) : Int) := by (first | lia | omega)
          rw [esub]
          refine sub_intX S hmemS hints hwi (by (first | lia | omega)) fun um => r_store S fun s S => ?_
          rw [← hmany] at S
          generalize hmn' : manyOf (zeroth most) W.w1 w2 w3 (i + 1) r = mny at *
          refine x_assign (r_call G'.W hf1 S (wpAny_items_cons ?_))
          refine r_local S hme (wpAny_items_cons ?_)
          refine r_tuple ?_
          refine wpAny_items_cons ?_
          refine r_local S rfl (wpAny_items_cons ?_)
          refine wpAny_BinOp (r_local S rfl (r_local S rfl (r_mul S (mulOk_right (by (first | lia | omega))) fun t s S => wpAny_items_cons ?_)))
          refine wpAny_BinOp (r_local S rfl (wpAny_BinOp (r_cellName S (.tail _ (.head _)) (r_local S rfl (r_sub S fun t s S => r_mul S (mulOk_right (by (first | lia | omega))) fun t s S => wpAny_items_cons ?_)))))
          refine wpAny_BinOp (r_local S rfl (r_cellName S (.tail _ (.head _)) (r_mul S (mulOk_right (by (first | lia | omega))) fun t s S => wpAny_items_cons ?_)))
          refine r_dict1 S fun ld2 s S => ?_
          refine r_local S rfl (r_local S rfl ?_)
          refine d_end1 S Kn.int fun s S => ?_
          refine wpAny_items_nil ?_
          refine r_tupEnd S (ds := [.int mny, .int (mny * (r.1 : Int)), .int (mny * (((i + 1 : Nat) : Int) - (r.1 : Int))), .int (mny * ((i + 1 : Nat) : Int)), .dct (mapV .int [((r.1 : Int), mny)])]) (.cons Kn.int (.cons Kn.int (.cons Kn.int (.cons Kn.int (.cons (.mem (.head _)) .nil))))) fun tp2 s S => ?_
          refine wpAny_items_nil ⟨hf1.at S, ?_⟩
          refine stats_ok G'.W G'.isi G'.tup hf1 hf3 S (hR'.mono (by decide)) (show Kn _ ve (stat _ _ _ _ _) from hve.up.up.up.up.up) (show Kn _ _ (stat _ _ _ _ [((r.1 : Int), mny)]) from .mem (.head _)) ?_ fun v s S => r_store S fun s S => x_nil ?_
          · have h1 := entOf_len ((i + 1 : Nat) : Int) ((rules.take k).map fun r => (manyOf (zeroth most) W.w1 w2 w3 (i + 1) r, (r.1 : Int)))
            rw [List.length_map, List.length_take] at h1
            rw [sizeLine_eq, List.length_singleton]; (first | lia | omega)
          refine hN ⟨_, _, _, ?_, ?_, S⟩
          · refine ⟨hmr, hmm, hmn, ⟨v, rfl, ?_⟩, rfl, fun f hf => (hFs4 f hf).up.up.up.up.up.up⟩
            rw [take_snoc hrk, List.map_append, List.map_singleton, entOf_snoc, hmn']
            exact .mem (.head _)
          · exact fun g hg => (hG2 g hg).up.up.up.up.up.up
        · rintro m X Fs2 s ⟨hmr, hmm, hmn, ⟨ve, hme, hve⟩, rfl, hFs4⟩ S
          rw [List.length_map, List.take_length] at hve
          obtain ⟨g1, g2, g3, g4, g5, g6⟩ := entOf_ok ((i + 1 : Nat) : Int) (rules.map fun r => (manyOf (zeroth most) W.w1 w2 w3 (i + 1) r, (r.1 : Int))) (fun x hx => by
            obtain ⟨r, hr', rfl⟩ := List.mem_map.mp hx
            have := (hr r hr').1
            show (r.1 : Int) = 0 ∨ (r.1 : Int) = 1
            (first | lia | omega))
          have hel := entOf_len ((i + 1 : Nat) : Int) (rules.map fun r => (manyOf (zeroth most) W.w1 w2 w3 (i + 1) r, (r.1 : Int)))
          rw [List.length_map] at hel
          generalize hE : entOf ((i + 1 : Nat) : Int) (rules.map fun r => (manyOf (zeroth most) W.w1 w2 w3 (i + 1) r, (r.1 : Int))) = ENT at *
          obtain ⟨e0, e1, e2, e3, tb⟩ := ENT
          simp only at g1 g2 g3 g4 g5 g6 hel
          have hve' : Kn Fs2 ve (stat e0 e1 e2 e3 tb) := hve
          obtain ⟨ae, rfl⟩ := hve'.isRef_tup S
          have S : St C' L' m [(c2, isCell (some (.int ((i + 1 : Nat) : Int) ti))), (it, isRIter (1 + ((i + 1 : Nat) : Int)) (((((most + 1 : Nat) : Int) - 1).toNat : Int) - ((i + 1 : Nat) : Int))), (c1, isCell (some (.ref lw))), (lw, isList [.ref a0, .ref a1, .ref a2, .ref a3]), (a1, isList v1), (a2, isList v2'), (a3, isList v3'), (a0, isList (.int 1 v0 :: List.replicate most (.int 0 v1')))] Fs2 s := S
          refine x_assign ?_
          refine wpAny_Call_method2_late rfl rfl rfl ?_
          refine r_item (r_local S hme (r_int S fun t s S => sub_tup S hve' (by decide) (by decide) (d := .dct (mapV .int tb)) rfl fun v s S => ?_))
          obtain ⟨ad, rfl⟩ := Kn.isRef_dct S (.mem (.head _))
          refine m_getInt S (.mem (.head _)) (r_int S fun t s S => r_int S fun t' s S => ⟨_, _, _, _, _, _, _, _, _, rfl, rfl, S, .mem (.head _), fun tt s S => r_store S fun s S => ?_⟩)
          rw [← g1] at S
          refine S.pack fun mc Ff hmc hFf S => ?_
          have m_en : mc "entry" = some (.ref ae) := (hmc _).trans hme
          have m_tp : mc "top" = some (.int e1 tt) := (hmc _).trans rfl
          have m_nn : mc "none" = some (.ref ln) := (hmc _).trans hmn
          have m_rr : mc "rules" = some (.ref vr) := (hmc _).trans hmr
          have m_mm : mc "most" = some (.int (most : Int) t1) := (hmc _).trans hmm
          have h_en : Kn Ff (.ref ae) (stat e0 e1 e2 e3 tb) := hFf _ hve'.up
          have hFs5 : ∀ f ∈ Fc, Tells Ff f := fun f hf => hFf f (((hFs3 f hf).sub hFs4).up)
          have h_nn : Kn Ff (.ref ln) (stat 0 0 0 0 []) := hno.sub hFs5
          clear hmc hFf
          refine x_if (wpAny_isTrue_Compare1 ?_)
          refine r_list (wpAny_items_cons ?_)
          refine r_call G'.W hf2 S (wpAny_items_cons ?_)
          refine r_item (r_local S m_en (r_int S fun t s S => sub_tup S h_en (by decide) (by decide) (d := .dct (mapV .int tb)) rfl fun v s S => ?_))
          obtain ⟨ad2, rfl⟩ := Kn.isRef_dct S (.mem (.head _))
          refine wpAny_items_nil ⟨hf2.at S, ?_⟩
          refine count_ok G'.W hf2 S (hR'.mono (by decide)) (.mem (.head _)) fun tc s S => ?_
          rw [g4]
          refine wpAny_items_cons ?_
          refine r_item (r_local S m_en (r_int S fun t s S => sub_tup S h_en.up (by decide) (by decide) (d := .int e1) rfl fun v s S => ?_))
          obtain ⟨tq1, rfl⟩ := Kn.isInt S (.mem (.head _))
          refine wpAny_items_cons ?_
          refine r_item (r_local S m_en (r_int S fun t s S => sub_tup S h_en.up.up (by decide) (by decide) (d := .int e2) rfl fun v s S => ?_))
          obtain ⟨tq2, rfl⟩ := Kn.isInt S (.mem (.head _))
          refine wpAny_items_cons ?_
          refine r_item (r_local S m_en (r_int S fun t s S => sub_tup S h_en.up.up.up (by decide) (by decide) (d := .int e3) rfl fun v s S => ?_))
          obtain ⟨tq3, rfl⟩ := Kn.isInt S (.mem (.head _))
          refine wpAny_items_cons ?_
          refine r_item (r_local S m_nn (r_int S fun t s S => sub_tup S h_nn.up.up.up.up (by decide) (by decide) (d := .dct []) rfl fun v s S => ?_))
          refine wpAny_items_nil (r_listEnd S fun la s S => ?_)
          have S := S.freezeL (ds := [.int e0, .int e1, .int e2, .int e3, .dct []]) (.cons Kn.int (.cons Kn.int (.cons Kn.int (.cons Kn.int (.cons (.mem (.head _)) .nil)))))
          refine r_list (wpAny_items_cons ?_)
          refine r_item (r_local S m_en (r_int S fun t s S => sub_tup S h_en.up.up.up.up.up.up (by decide) (by decide) (d := .int e0) rfl fun v s S => ?_))
          obtain ⟨tr0, rfl⟩ := Kn.isInt S (.mem (.head _))
          refine wpAny_items_cons ?_
          refine r_local S m_tp (wpAny_items_cons ?_)
          refine wpAny_BinOp (wpAny_BinOp ?_)
          refine r_item (r_local S m_en (r_int S fun t s S => sub_tup S h_en.up.up.up.up.up.up.up (by decide) (by decide) (d := .int e0) rfl fun v s S => ?_))
          obtain ⟨tr1, rfl⟩ := Kn.isInt S (.mem (.head _))
          refine r_cellName S (.head _) (r_mul S (mulOk_right (by (first | lia | omega))) fun t s S => r_local S m_tp (r_sub S fun t s S => wpAny_items_cons ?_))
          refine wpAny_BinOp ?_
          refine r_item (r_local S m_en (r_int S fun t s S => sub_tup S h_en.up.up.up.up.up.up.up.up (by decide) (by decide) (d := .int e0) rfl fun v s S => ?_))
          obtain ⟨tr2, rfl⟩ := Kn.isInt S (.mem (.head _))
          refine r_cellName S (.head _) (r_mul S (mulOk_right (by (first | lia | omega))) fun t s S => wpAny_items_cons ?_)
          refine r_dict0 S fun ld3 s S => ?_
          have S := S.freezeD (ds := []) .nil
          refine wpAny_items_nil (r_listEnd S fun lb s S => ?_)
          have S := S.freezeL (ds := [.int e0, .int e1, .int (e0 * ((i + 1 : Nat) : Int) - e1), .int (e0 * ((i + 1 : Nat) : Int)), .dct []]) (.cons Kn.int (.cons Kn.int (.cons Kn.int (.cons Kn.int (.cons (.mem (.head _)) .nil)))))
          have hsame : SameN 2 (.lst [.int e0, .int e1, .int e2, .int e3, .dct []]) (.lst [.int e0, .int e1, .int (e0 * ((i + 1 : Nat) : Int) - e1), .int (e0 * ((i + 1 : Nat) : Int)), .dct []]) := by
            refine ⟨rfl, fun j d e h1 h2 => ?_⟩
            match j with
            | 0 => cases h1; cases h2; exact rfl
            | 1 => cases h1; cases h2; exact rfl
            | 2 => cases h1; cases h2; exact g2
            | 3 => cases h1; cases h2; exact g3
            | 4 => cases h1; cases h2; exact ⟨rfl, fun k d hm => nomatch hm⟩
            | j + 5 => simp at h1
          refine r_neLists (n := 1) S (.mem (.tail _ (.tail _ (.tail _ (.tail _ (.tail _ (.head _))))))) (.mem (.head _)) hsame (by have := hR'.2.2; (first | lia | omega)) (wpAny_truthy_bool ?_)
          rw [if_neg Bool.false_ne_true]
          refine x_nil (x_expr ?_)
          refine wpAny_Call_method1_late rfl rfl rfl ?_
          refine r_item (r_cellName S (.tail _ (.tail _ (.head _))) ?_)
          refine r_int S fun t s S => sub_listX S (.tail _ (.tail _ (.tail _ (.head _)))) (by decide) (by decide) (v := .ref a1) rfl ?_
          refine m_append S (.tail _ (.tail _ (.tail _ (.tail _ (.head _))))) ?_
          refine r_item (r_local S m_en (r_int S fun t s S => sub_tup S (h_en.up.up.up.up.up.up.up.up.up.up.up) (by decide) (by decide) (d := .int e0) rfl fun v s S => ?_))
          obtain ⟨tr4, rfl⟩ := Kn.isInt S (.mem (.head _))
          have hl1v : v1.length = i + 1 := by rw [hv1.len0, List.length_map, hl1]
          refine r_append S.rot5 (by rw [sizeLine_eq]; (first | lia | omega)) fun s S => ⟨rfl, x_nil ?_⟩
          have hstep : treesOf most rules (i + 1) = ⟨W.w1 ++ [e0], w2, w3⟩ := by
            rw [treesOf_succ, hWW, treeStep, hw2, hw3, g6, List.map_map]; rfl
          have S : St C' L' mc [(it, isRIter (1 + ((i + 1 : Nat) : Int)) (((((most + 1 : Nat) : Int) - 1).toNat : Int) - ((i + 1 : Nat) : Int))), (c1, isCell (some (.ref lw))), (c2, isCell (some (.int ((i + 1 : Nat) : Int) ti))), (lw, isList [.ref a0, .ref a1, .ref a2, .ref a3]), (a1, isList (v1 ++ [.int e0 tr4])), (a2, isList v2'), (a3, isList v3'), (a0, isList (.int 1 v0 :: List.replicate most (.int 0 v1')))] _ s :=
            S.order 8 [2, 3, 1, 4, 0, 5, 6, 7] (by decide)
          refine hN ⟨mc, _, _, ?_, (by intro g hg; cases hg), S⟩
          refine ⟨m_rr, m_mm, m_nn, ⟨_, _, _, _, rfl, ?_, ?_, ?_⟩, fun f hf => (hFs5 f hf).up.up.up.up.up.up.up.up.up.up.up.up⟩
          · rw [hstep]; exact hv1.snoc _ tr4
          · rw [hstep]; exact hv2'
          · rw [hstep]; exact hv3'
  · rintro m X Fs1 s ⟨hmr, hmm, hmn, ⟨co, v1, v2, v3, rfl, hv1, hv2, hv3⟩, hFs⟩ S
    rw [List.length_map, List.length_range, Nat.add_sub_cancel] at hv1
    have S : St C' L' m [(c1, isCell (some (.ref lw))), (c2, isCell co), (lw, isList [.ref a0, .ref a1, .ref a2, .ref a3]), (a1, isList v1), (a2, isList v2), (a3, isList v3), (a0, isList (.int 1 v0 :: List.replicate most (.int 0 v1')))] Fs1 s := S
    refine x_ret (r_item (r_cellName S (.head _) ?_))
    refine r_int S fun t s S => sub_listX S (.tail _ (.tail _ (.head _))) (by decide) (by decide) (v := .ref a1) rfl ?_
    refine hBk.ret (S.rot4.freezeL hv1.up0) fun s' S' => h a1 s' (S'.facts fun f hf => ?_)
    rcases List.mem_cons.mp hf with rfl | hf
    · exact .mem (.head _)
    · exact .mem (List.mem_append_right _ hf)
end
end Mine
end
section
open PySem PySem.W PyProof.Rows
set_option maxRecDepth 100000
set_option linter.unusedVariables false
namespace Mine
theorem KnL.pickI {Fs : List Fact} {vs : List Value} {ds : List D} (h : KnL Fs vs ds) (is : List Nat) : KnL Fs (is.filterMap (vs[·]?)) (is.filterMap (ds[·]?)) := by
  induction is with
  | nil => exact .nil
  | cons i r ih =>
    intro Z H
    obtain ⟨h1, h2⟩ := h Z H
    rw [List.filterMap_cons, List.filterMap_cons]
    rcases Nat.lt_or_ge i vs.length with hi | hi
    · have e1 : vs[i]? = some vs[i] := List.getElem?_eq_getElem hi
      have e2 : ds[i]? = some (ds[i]'(by (first | lia | omega))) := List.getElem?_eq_getElem (by (first | lia | omega))
      rw [e1, e2]
      exact KnL.cons (fun Z' H' => (h Z' H').2 i _ _ e1 e2) ih Z H
    · have e1 : vs[i]? = none := List.getElem?_eq_none hi
      have e2 : ds[i]? = none := List.getElem?_eq_none (by (first | lia | omega))
      rw [e1, e2]; exact ih Z H
noncomputable def picks (ns : List Int) (lo hi st : Option Int) : List Int := (sliceRange (sliceBounds lo hi st ns.length).1 (sliceBounds lo hi st ns.length).2.1 (sliceBounds lo hi st ns.length).2.2).filterMap (ns[·]?)
section
variable {prog : Program} {w : World} {A : Around} {E : Value → Shared → Prop} {C : Cx} {L : Addr} {m : Str → Option Value} {X : List (Addr × OP)} {Fs : List Fact} {s : Shared} {env : Env} {mg : Str → Option Value}
/-- a slice with a step, of a list of numbers laid by: some numbers -/
theorem sub_sliceI {l sl : Addr} {ns : List Int} {vl vu vst : Value} {lo hi st : Option Int} {Q : Value → Shared → Prop} (H : St C L m ((sl, isSlice vl vu vst) :: X) Fs s) (hl : Kn Fs (.ref l) (.lst (ns.map .int))) (pl : IsPart vl lo) (pu : IsPart vu hi) (ps : IsPart vst st) (h0 : st ≠ some 0) (hsz : ns.length ≤ sizeLine)
    (h : ∀ (c : Addr) (s' : Shared), (picks ns lo hi st).length ≤ ns.length → St C L m X (.V (.ref c) (.lst ((picks ns lo hi st).map .int)) :: Fs) s' → Q (.ref c) s') : SubOn prog w A (.ref l) (.ref sl) Q E s := by
  obtain ⟨vs, ⟨ol, hol, hpl⟩, hlen, H1⟩ := H.listF hl
  obtain ⟨o, ho, hp⟩ := H.get (.head _)
  have hsz' : vs.toArray.size ≤ sizeLine := by rw [List.size_toArray, hlen, List.length_map]; exact hsz
  refine ⟨"list", _, PySem.slot_list_getitem.lookup, (list_of hol hpl).typeIs, wpAny_getItem_list_slice (list_of hol hpl) (slice_of ho hp) pl pu ps h0 ?_ hsz'⟩
  let is := sliceRange (sliceBounds lo hi st vs.toArray.size).1 (sliceBounds lo hi st vs.toArray.size).2.1 (sliceBounds lo hi st vs.toArray.size).2.2
  have hk : KnL (.L vs (ns.map .int) :: Fs) (slicePick vs.toArray lo hi st).toList ((is.filterMap (ns[·]?)).map .int) := by
    have h1 := KnL.pickI (Fs := .L vs (ns.map .int) :: Fs) (vs := vs) (ds := ns.map .int) (.mem (.head _)) is
    have e1 : (slicePick vs.toArray lo hi st).toList = is.filterMap (vs[·]?) := by
      unfold slicePick
      simp [is]
    have e2 : is.filterMap ((ns.map D.int)[·]?) = (is.filterMap (ns[·]?)).map .int := by
      rw [List.map_filterMap]
      congr 1
      funext i
      rw [List.getElem?_map]
    rw [e1, ← e2]; exact h1
  have S1 := (H1.drop.push (p := isList (slicePick vs.toArray lo hi st).toList) (o := { cls := .type "list", data := .seq (slicePick vs.toArray lo hi st) }) ⟨0, by simp⟩).freezeL hk
  have hn : vs.toArray.size = ns.length := by rw [List.size_toArray, hlen, List.length_map]
  have ep : is.filterMap (ns[·]?) = picks ns lo hi st := by show _ = List.filterMap _ _; simp only [is, hn]
  rw [ep] at S1 hk
  refine h _ _ ?_ (S1.facts fun f hf => ?_)
  · have h2 := slicePick_size_le vs.toArray lo hi st
    have h3 := hk.length H1
    rw [List.length_map, Array.length_toList] at h3
    (first | lia | omega)
  · rcases List.mem_cons.mp hf with rfl | hf
    · exact .mem (.head _)
    · exact .mem (.tail _ (.tail _ hf))
end
end Mine
end
section
open PySem PySem.W PyProof.Rows PySem.SeqAt
set_option maxRecDepth 100000
set_option linter.unusedVariables false
namespace Mine
noncomputable def d_law : Def pw "law" := ⟨_, _, _, rfl⟩
structure LL (hW : Heap) (T : List Addr) (TQ : Addr → Option Str) (mg : Str → Option Value) : Prop where
  lg : LG hW T TQ mg
  lrules : ∃ f c, FnIs hW mg d_lrules f c
  ltrees : ∃ f c, FnIs hW mg d_ltrees f c
  lnumber : ∃ f c, FnIs hW mg d_lnumber f c
  lled : ∃ f c, FnIs hW mg d_lled f c
  lread : ∃ f c, FnIs hW mg d_lread f c
theorem Enter.ll {C C' : Cx} {L : Addr} {m : Str → Option Value} {X : List (Addr × OP)} {Fs : List Fact} {s : Shared} {mg : Str → Option Value} (hE : Enter C L m X Fs s C') (G : LL C.hW C.T C.TQ mg) : LL C'.hW C'.T C'.TQ mg := by
  rw [hE.hW, hE.T, hE.TQ]; exact G
noncomputable def cellOf (ns : List Int) (p : Nat × Int) : Int := p.2 + ((picks ns (some (p.1 : Int)) (some 60) (some 4)).map fun x => x.fmod (10 ^ (6 : Int).toNat)).sum
section
variable {prog : Program} {w : World} {A : Around} {E : Value → Shared → Prop} {C : Cx} {L : Addr} {m : Str → Option Value} {X : List (Addr × OP)} {Fs : List Fact} {s : Shared} {env : Env} {mg : Str → Option Value}

noncomputable abbrev lawEnv (L fa ca c1 c2 c3 c4 c5 c6 : Addr) : Env := envX "law" d_law.sc L fa (.ref ca) [((Str.ofString "told"), c1), ((Str.ofString "trees"), c2), ((Str.ofString "both"), c3), ((Str.ofString "bits"), c4), ((Str.ofString "prime"), c5), ((Str.ofString "script"), c6)]
set_option maxHeartbeats 4000000 in
theorem law_checks {fa ca c1 c2 c3 c4 c5 c6 lc : Addr} {hd le : Int} {th tl : Tok} {Q : Flow → Shared → Prop} (G : LG C.hW C.T C.TQ mg) (H : St C L m X Fs s) (hR : Room A 10) (m_he : m "head" = some (.int hd th)) (m_le : m "letter" = some (.int le tl)) (hhd : 256 ≤ hd) (hle : 0 < le ∧ le < 256)
    (h : ∀ m' Fs' s', (∀ x : Str, x ≠ "symbol" → m' x = m x) → (∀ f ∈ Fs, Tells Fs' f) → St C L m' X Fs' s' → wpAny (model prog w) A (execs (d_law.b.drop 4) (lawEnv L fa ca c1 c2 c3 c4 c5 c6)) Q E s') :
    wpAny (model prog w) A (execs (d_law.b.drop 3) (lawEnv L fa ca c1 c2 c3 c4 c5 c6)) Q E s := by
  obtain ⟨f1, k1, hf1⟩ := G.ist
  obtain ⟨f2, k2, hf2⟩ := G.isn
  obtain ⟨f3, k3, hf3⟩ := G.eof
  have S := H
  refine x_for (r_list ?_)
  refine wpAny_items_cons (r_local S m_he (wpAny_items_cons (r_local S m_le (wpAny_items_cons (r_int S fun t0 s S => wpAny_items_cons (r_int S fun t1 s S => wpAny_items_cons (r_int S fun t2 s S => wpAny_items_cons ?_)))))))
  refine wpAny_UnaryOp (r_int S fun t s S => r_neg S fun t3 s S => wpAny_items_nil (r_listEnd S fun ll s S => ?_))
  have S := S.freezeL (ds := [hd, le, 0, 255, 256, -256].map .int) (.cons Kn.int (.cons Kn.int (.cons Kn.int (.cons Kn.int (.cons Kn.int (.cons Kn.int .nil))))))
  refine r_iterList S (.mem (.head _)) fun it s S => ?_
  refine r_loop (src_list (.inl ⟨_, _, rfl⟩)) hR.1 (fun i m' X' Fs' => (∀ x : Str, x ≠ "symbol" → m' x = m x) ∧ X' = X ∧ ∀ f ∈ Fs, Tells Fs' f) S (fun g hg => by rcases List.mem_cons.mp hg with rfl | hg; exact .mem (.head _); cases hg) ⟨fun _ _ => rfl, rfl, fun f hf => (Tells.mem hf).up⟩ ?_ ?_
  · rintro E' R1 i d x m' X' Fs1 s hN hV hd' ⟨hm, rfl, hFs⟩ hG S
    obtain ⟨y, hy, rfl⟩ := get_map hd'
    obtain ⟨ty, rfl⟩ := Kn.isInt S (.mem (.head _))
    refine wpAny_assign_Name (r_store S fun s S => ?_)
    refine x_if (wpAny_isTrue_Compare1 (r_list (wpAny_items_cons ?_)))
    refine wpAny_Compare1 (r_call G.W hf1 S (wpAny_items_cons (r_local S rfl (wpAny_items_nil ⟨hf1.at S, ist_ok G hf1 S (hR.mono (by decide)) fun s S => ?_⟩))))
    refine wpAny_Compare1 (r_local S rfl (r_int S fun t s S => PyProof.Rows.lt_int (PyProof.Rows.is_bool ?_)))
    refine wpAny_items_cons (wpAny_Compare1 (r_call G.W hf2 S (wpAny_items_cons (r_local S rfl (wpAny_items_nil ⟨hf2.at S, isn_ok G hf2 S (hR.mono (by decide)) fun s S => ?_⟩)))))
    refine wpAny_Compare1 (r_local S rfl (r_int S fun t s S => PyProof.Rows.gt_int (PyProof.Rows.is_bool ?_)))
    refine wpAny_items_cons (wpAny_Compare1 (r_call G.W hf3 S (wpAny_items_cons (r_local S rfl (wpAny_items_nil ⟨hf3.at S, eof_ok G hf3 S (hR.mono (by decide)) fun s S => ?_⟩)))))
    refine wpAny_Compare1 (r_local S rfl (r_int S fun t s S => PyProof.Rows.eq_int (PyProof.Rows.is_bool (wpAny_items_nil ?_))))
    have e1 : (decide (y < 256) == decide (y < 256)) = true := by simp
    have e2 : (decide (256 ≤ y) == decide (255 < y)) = true := by rw [beq_iff_eq, decide_eq_decide]; (first | lia | omega)
    have e3 : ((y == 0) == (y == 0)) = true := by simp
    rw [e1, e2, e3]
    refine r_listEnd S fun l1 s S => ?_
    have S := S.freezeL (ds := [.bool true, .bool true, .bool true]) (.cons Kn.bool (.cons Kn.bool (.cons Kn.bool .nil)))
    refine wpAny_BinOp (r_list (wpAny_items_cons (wpAny_Constant_bool (wpAny_items_nil (r_listEnd S fun l2 s S => r_int S fun t s S => ?_)))))
    refine r_mulList S (S.get (.head _)) (by decide) (by decide) (by simp) (by simp) fun l3 s S => ?_
    have S := S.freezeL (ds := [.bool true, .bool true, .bool true]) (.cons Kn.bool (.cons Kn.bool (.cons Kn.bool .nil)))
    refine r_neLists (n := 1) S (.mem (.tail _ (.head _))) (.mem (.head _)) ⟨rfl, fun i d e h1 h2 => ?_⟩ (by have := hR.2.2; (first | lia | omega)) (wpAny_truthy_bool ?_)
    · rcases i with _ | _ | _ | i <;> cases h1 <;> cases h2 <;> rfl
    rw [if_neg (by decide)]
    refine x_nil (x_nil ?_)
    refine hN ⟨_, X', _, ⟨fun x hx => ?_, rfl, fun f hf => (hFs f hf).up.up.up⟩, fun g hg => (hG g hg).up.up.up, S.drop⟩
    rw [upd, if_neg hx]; exact hm x hx
  · rintro m' X' Fs' s ⟨hm, rfl, hFs⟩ S
    exact h _ _ _ hm hFs S
end
end Mine
end
section
open PySem PySem.W PyProof.Rows PySem.SeqAt
set_option maxRecDepth 100000
set_option linter.unusedVariables false
namespace Mine
section
variable {prog : Program} {w : World} {A : Around} {E : Value → Shared → Prop} {C : Cx} {L : Addr} {m : Str → Option Value} {X : List (Addr × OP)} {Fs : List Fact} {s : Shared} {env : Env} {mg : Str → Option Value}
/-- the cells of law -/
noncomputable abbrev lawCells (c1 c2 c3 c4 c5 c6 : Addr) (told trees both bits prime : Option Value) (va : Addr) : List (Addr × OP) :=
  [(c1, isCell told), (c2, isCell trees), (c3, isCell both), (c4, isCell bits), (c5, isCell prime), (c6, isCell (some (.ref va)))]
set_option maxHeartbeats 4000000 in
theorem law_head {fa ca va c1 c2 c3 c4 c5 c6 : Addr} {ns : List Int} {Q : Flow → Shared → Prop} (G : LG C.hW C.T C.TQ mg) (S : St C L m (lawCells c1 c2 c3 c4 c5 c6 none none none none none va) Fs s) (hR : Room A 199) (hv : Kn Fs (.ref va) (.lst (ns.map .int))) (hsz : ns.length ≤ 2 ^ 20)
    (h : ∀ (p nb most : Nat) (hd le a0 a1 a2 a3 : Int) (th tl tm tpr tbi : Tok) (acc : Addr) m' Fs' s', (p = 2 ∨ p = 3) → (8 ≤ nb ∧ nb ≤ 16) → most = 30 / p → 256 ≤ hd → (0 < le ∧ le < 256) →
      m' "cells" = some (.ref acc) → m' "head" = some (.int hd th) → m' "letter" = some (.int le tl) → m' "most" = some (.int (most : Int) tm) → Kn Fs' (.ref acc) (.lst [.int a0, .int a1, .int a2, .int a3]) →
      St C L m' (lawCells c1 c2 c3 c4 c5 c6 none none none (some (.int (nb : Int) tbi)) (some (.int (p : Int) tpr)) va) Fs' s' → wpAny (model prog w) A (execs (d_law.b.drop 3) (lawEnv L fa ca c1 c2 c3 c4 c5 c6)) Q E s') :
    wpAny (model prog w) A (execs d_law.b (lawEnv L fa ca c1 c2 c3 c4 c5 c6)) Q E s := by
  have hR' := hR
  refine x_assignComp ?_
  refine r_callT G.W S G.enum (wpAny_items_cons ?_)
  refine r_tuple (wpAny_items_cons ?_)
  refine r_int S fun t1 s S => wpAny_items_cons ?_
  refine r_int S fun t2 s S => wpAny_items_cons ?_
  refine r_int S fun t3 s S => wpAny_items_cons ?_
  refine r_int S fun t4 s S => wpAny_items_nil ?_
  refine r_tupEnd S (ds := [.int 6, .int 7, .int 3, .int 0]) (.cons Kn.int (.cons Kn.int (.cons Kn.int (.cons Kn.int .nil)))) fun lt s S => wpAny_items_nil ?_
  refine r_enumT S (.mem (.head _)) fun e it s S => r_iterEnum S (.head _) ?_
  refine r_listGo (l := [((0 : Nat), (6 : Int)), (1, 7), (2, 3), (3, 0)]) (emb := fun p => D.tup [.int (p.1 : Int), .int p.2]) (src_enumT (l := lt) (ds := [.int 6, .int 7, .int 3, .int 0])) hR'.1 S (fun g hg => by rcases List.mem_cons.mp hg with rfl | hg; exact .mem (.head _); cases hg) (fun C L m X Fs s S => again_enum S) (by decide)
    (fun p => some (D.int (cellOf ns p))) ?_ ?_
  · rintro E2 Hid L2 own cv j a x m2 Fs2 s ho ha hFs2 S
    have ho : own = [] := ho
    subst ho
    refine r_unpack2 hR'.1 S (.mem (.head _)) fun vp vb s S => t_nil ⟨rfl, ?_⟩
    obtain ⟨tp, rfl⟩ := Kn.isInt S (.mem (.head _))
    obtain ⟨tb, rfl⟩ := Kn.isInt S (.mem (.tail _ (.head _)))
    refine wpAny_BinOp (r_local S rfl ?_)
    refine r_callB G.W S G.sum (wpAny_items_cons ?_)
    refine r_listComp ?_
    have hva : ∀ {g1 g2 g3 : Fact}, Kn (g1 :: g2 :: g3 :: Fs2) (.ref va) (.lst (ns.map .int)) := (hv.sub fun f hf => hFs2 f (.tail _ hf)).up.up.up
    refine r_item (r_cellName S (.tail _ (.tail _ (.tail _ (.tail _ (.tail _ (.tail _ (.head _))))))) ?_)
    refine r_slice (ep_some (r_local S rfl (ep_some ?_)))
    refine r_int S fun t60 s S => ep_some ?_
    refine r_int S fun t4' s S => ⟨_, _, _, _, _, S, fun sl s S => ?_⟩
    refine sub_sliceI S hva (.int _ tp) (.int 60 t60) (.int 4 t4') (by decide) (by rw [sizeLine_eq]; (first | lia | omega)) fun c s hpl S => ?_
    refine r_iterList S (.mem (.head _)) fun it2 s S => ?_
    refine r_listGo (l := picks ns (some (a.1 : Int)) (some 60) (some 4)) (emb := D.int) (src_list (.inl ⟨_, _, rfl⟩)) hR'.1 S (fun g hg => by rcases List.mem_cons.mp hg with rfl | hg; exact .mem (.head _); cases hg) (fun C L m X Fs s S => again_list S) (by rw [sizeLine_eq]; (first | lia | omega))
      (fun x => some (D.int (x.fmod (10 ^ (6 : Int).toNat)))) ?_ ?_
    · rintro E3 Hid3 L3 own cv3 j3 b y m3 Fs3 s ho hb hFs3 S
      have ho : own = [] := ho
      subst ho
      obtain ⟨ty, rfl⟩ := Kn.isInt S (.mem (.head _))
      refine wpAny_assign_Name (r_store S fun s S => t_nil ⟨rfl, ?_⟩)
      refine wpAny_BinOp (r_local S rfl (wpAny_BinOp (r_int S fun t s S => r_int S fun t' s S => r_pow S (by decide) (by decide) fun t s S => r_mod S (by decide) fun t s S => ?_)))
      exact ⟨cv3, _, _, fun f hf => (Tells.mem hf).up, Kn.int, S⟩
    · intro acc3 L3 m3 s S
      refine r_listEndC S fun s S => wpAny_items_nil ?_
      have e : (picks ns (some (a.1 : Int)) (some 60) (some 4)).filterMap (fun x => some (D.int (x.fmod (10 ^ (6 : Int).toNat)))) = ((picks ns (some (a.1 : Int)) (some 60) (some 4)).map fun x => x.fmod (10 ^ (6 : Int).toNat)).map D.int := by rw [List.filterMap_eq_map', List.map_map]; rfl
      rw [e] at S
      refine r_sum hR'.1 S (.mem (.head _)) fun t s S => r_add S fun t s S => ?_
      exact ⟨cv, _, _, fun f hf => (Tells.mem hf).up.up.up.up.up, Kn.int, S⟩
  · intro acc L2 m2 s S
    refine r_usedC S fun s S => ?_
    refine S.pack fun mc Fc hmc hFc S => ?_
    have m_ce : mc "cells" = some (.ref acc) := (hmc _).trans rfl
    have k_ce : Kn Fc (.ref acc) (.lst [.int (cellOf ns (0, 6)), .int (cellOf ns (1, 7)), .int (cellOf ns (2, 3)), .int (cellOf ns (3, 0))]) := hFc _ (.mem (.head _))
    have hFs : ∀ f ∈ Fs, Tells Fc f := fun f hf => hFc f (.mem (.tail _ (.tail _ hf)))
    clear hmc hFc
    generalize cellOf ns (0, 6) = a0 at *
    generalize cellOf ns (1, 7) = a1 at *
    generalize cellOf ns (2, 3) = a2 at *
    generalize cellOf ns (3, 0) = a3 at *
    have S : St C L mc [(c1, isCell none), (c2, isCell none), (c3, isCell none), (c4, isCell none), (c5, isCell none), (c6, isCell (some (.ref va)))] Fc s := S.sub (by simp)
    refine x_assignTupC "prime" _ (.head _) ?_
    refine r_tuple (wpAny_items_cons (wpAny_BinOp (r_int S fun t s S => wpAny_BinOp ?_)))
    refine r_item (r_local S m_ce (r_int S fun t s S => sub_list S k_ce (by decide) (by decide) rfl fun v s S => ?_))
    obtain ⟨tv, rfl⟩ := Kn.isInt S (.mem (.head _))
    refine r_int S fun t s S => r_mod S (by decide) fun t s S => r_add S fun tpr s S => wpAny_items_cons ?_
    refine wpAny_BinOp (r_int S fun t s S => wpAny_BinOp (wpAny_BinOp (r_item (r_local S m_ce (r_int S fun t s S => sub_list S k_ce.up (by decide) (by decide) rfl fun v s S => ?_)))))
    obtain ⟨tv2, rfl⟩ := Kn.isInt S (.mem (.head _))
    refine r_int S fun t s S => r_fdiv S (by decide) ?_ fun t s S => r_int S fun t s S => r_mod S (by decide) fun t s S => r_add S fun the s S => wpAny_items_cons ?_
    · exact PyProof.noPylong_small (by decide)
    refine wpAny_BinOp (r_int S fun t s S => wpAny_BinOp (wpAny_BinOp (r_item (r_local S m_ce (r_int S fun t s S => sub_list S k_ce.up.up (by decide) (by decide) rfl fun v s S => ?_)))))
    obtain ⟨tv3, rfl⟩ := Kn.isInt S (.mem (.head _))
    refine r_int S fun t s S => r_fdiv S (by decide) ?_ fun t s S => r_int S fun t s S => r_mod S (by decide) fun t s S => r_sub S fun tle s S => wpAny_items_nil ?_
    · exact PyProof.noPylong_small (by decide)
    refine r_tupEndX S fun tp s S => ?_
    refine r_unpackX hR'.1 S rfl rfl fun s S => ?_
    refine r_inOrder (wpAny_assign_Name (r_storeCell S.rot5 fun s S => ?_))
    refine r_inOrder (wpAny_assign_Name (r_store S fun s S => r_inOrder (wpAny_assign_Name (r_store S fun s S => r_inOrder0 ?_))))
    refine x_assignTupC "bits" _ (.head _) ?_
    refine r_tuple (wpAny_items_cons (wpAny_BinOp (r_int S fun t s S => wpAny_BinOp (wpAny_BinOp (r_item (r_local S m_ce (r_int S fun t s S => sub_list S k_ce.up.up.up (by decide) (by decide) rfl fun v s S => ?_)))))))
    obtain ⟨tv4, rfl⟩ := Kn.isInt S (.mem (.head _))
    refine r_int S fun t s S => r_fdiv S (by decide) (PyProof.noPylong_small (by decide)) fun t s S => r_int S fun t s S => r_mod S (by decide) fun t s S => r_add S fun tbi s S => wpAny_items_cons ?_
    obtain ⟨p, hpe, hp⟩ : ∃ p : Nat, 2 + a3.fmod 2 = (p : Int) ∧ (p = 2 ∨ p = 3) := ⟨2 + (a3.fmod 2).toNat, by have := Int.fmod_nonneg_of_pos a3 (show (0 : Int) < 2 by decide); (first | lia | omega), by have := Int.fmod_lt_of_pos a3 (show (0 : Int) < 2 by decide); (first | lia | omega)⟩
    obtain ⟨nb, hne, hnb⟩ : ∃ nb : Nat, 8 + (a3.fdiv 1530).fmod 9 = (nb : Int) ∧ 8 ≤ nb ∧ nb ≤ 16 := ⟨8 + ((a3.fdiv 1530).fmod 9).toNat, by have := Int.fmod_nonneg_of_pos (a3.fdiv 1530) (show (0 : Int) < 9 by decide); (first | lia | omega), by have := Int.fmod_lt_of_pos (a3.fdiv 1530) (show (0 : Int) < 9 by decide); (first | lia | omega)⟩
    obtain ⟨hd, hde, hhd⟩ : ∃ hd : Int, 256 + (a3.fdiv 2).fmod 3 = hd ∧ 256 ≤ hd := ⟨_, rfl, by have := Int.fmod_nonneg_of_pos (a3.fdiv 2) (show (0 : Int) < 3 by decide); (first | lia | omega)⟩
    obtain ⟨le, hle, hleb⟩ : ∃ le : Int, 255 - (a3.fdiv 6).fmod 255 = le ∧ 0 < le ∧ le < 256 := ⟨_, rfl, by have := Int.fmod_nonneg_of_pos (a3.fdiv 6) (show (0 : Int) < 255 by decide); have := Int.fmod_lt_of_pos (a3.fdiv 6) (show (0 : Int) < 255 by decide); (first | lia | omega)⟩
    rw [hpe, hde, hle] at S
    rw [hne]
    refine wpAny_BinOp (r_int S fun t s S => r_cellName S (.head _) (r_fdiv S (by (first | lia | omega)) (PyProof.noPylong_small (by (first | lia | omega))) fun tmo s S => wpAny_items_nil ?_))
    obtain ⟨most, hme, hmo⟩ : ∃ most : Nat, (30 : Int).fdiv (p : Int) = (most : Int) ∧ most = 30 / p := ⟨30 / p, by rw [Int.fdiv_eq_ediv_of_nonneg _ (Int.natCast_nonneg _)]; rfl, rfl⟩
    rw [hme]
    refine r_tupEndX S fun tp s S => ?_
    refine r_unpackX hR'.1 S rfl rfl fun s S => ?_
    refine r_inOrder (wpAny_assign_Name (r_storeCell S.rot5 fun s S => ?_))
    refine r_inOrder (wpAny_assign_Name (r_store S fun s S => r_inOrder0 ?_))
    have S : St C L _ (lawCells c1 c2 c3 c4 c5 c6 none none none (some (.int (nb : Int) tbi)) (some (.int (p : Int) tpr)) va) _ s := S.order 6 [2, 3, 4, 0, 1, 5] (by decide)
    refine h p nb most hd le a0 a1 a2 a3 the tle tmo tpr tbi acc _ _ _ hp hnb hmo hhd hleb ?_ ?_ ?_ ?_ ?_ S
    · exact m_ce
    · rfl
    · rfl
    · rfl
    · first | exact k_ce.up.up.up.up | exact k_ce.up.up.up | exact k_ce.up.up.up.up.up
end
end Mine
end
section
open PySem PySem.W PyProof.Rows PySem.SeqAt
set_option maxRecDepth 100000
set_option linter.unusedVariables false
namespace Mine
noncomputable def ruleT (n : Nat) : Nat × Nat := match n with | 0 => (0, 2) | 1 => (1, 1) | 2 => (1, 2) | 3 => (0, 3) | _ => (1, 0)
noncomputable def ruleOf (x : Int) : Nat × Nat := ruleT (x.fmod 5).toNat
noncomputable def ruleRow (hd le : Int) (r : Nat × Nat) : List Int := [hd] ++ List.replicate r.1 le ++ List.replicate r.2 hd ++ [0]
noncomputable def rowOf (hd le : Int) (xs : List Int) : List Int := [hd, le, 0] ++ (xs.map fun x => ruleRow hd le (ruleOf x)).flatten
theorem ruleT_le (n : Nat) : (ruleT n).1 ≤ 1 ∧ (ruleT n).2 ≤ 3 := by
  unfold ruleT; split <;> decide
theorem rowOf_snoc (hd le : Int) {xs : List Int} {i : Nat} {y : Int} (h : xs[i]? = some y) : rowOf hd le (xs.take (i + 1)) = rowOf hd le (xs.take i) ++ ruleRow hd le (ruleOf y) := by
  rw [rowOf, rowOf, take_snoc h, List.map_append, List.flatten_append, ← List.append_assoc]; simp
theorem IsInts.append {vs ws : List Value} {ds es : List Int} (h : IsInts vs ds) (r : IsInts ws es) : IsInts (vs ++ ws) (ds ++ es) := by
  unfold IsInts; rw [List.map_append]; exact KnL.append h r
theorem IsInts.one (d : Int) (t : Tok) : IsInts [.int d t] [d] := .cons Kn.int .nil
section
variable {prog : Program} {w : World} {A : Around} {E : Value → Shared → Prop} {C : Cx} {L : Addr} {m : Str → Option Value} {X : List (Addr × OP)} {Fs : List Fact} {s : Shared} {env : Env} {mg : Str → Option Value}
set_option maxHeartbeats 1000000 in
theorem law_row {fa ca va c1 c2 c3 c4 c5 c6 acc : Addr} {vb vp : Option Value} {hd le a0 a1 a2 a3 : Int} {th tl : Tok} {vm : Value} {Q : Flow → Shared → Prop} (G : LG C.hW C.T C.TQ mg) (S : St C L m (lawCells c1 c2 c3 c4 c5 c6 none none none vb vp va) Fs s) (hR : Room A 199)
    (m_ce : m "cells" = some (.ref acc)) (m_he : m "head" = some (.int hd th)) (m_le : m "letter" = some (.int le tl)) (m_mo : m "most" = some vm) (k_ce : Kn Fs (.ref acc) (.lst ([a0, a1, a2, a3].map .int)))
    (h : ∀ lr m' Fs' s', m' "row" = some (.ref lr) → m' "most" = some vm → Kn Fs' (.ref lr) (.lst ((rowOf hd le [a0, a1, a2]).map .int)) →
      St C L m' (lawCells c1 c2 c3 c4 c5 c6 none none none vb vp va) Fs' s' → wpAny (model prog w) A (execs (d_law.b.drop 6) (lawEnv L fa ca c1 c2 c3 c4 c5 c6)) Q E s') :
    wpAny (model prog w) A (execs (d_law.b.drop 4) (lawEnv L fa ca c1 c2 c3 c4 c5 c6)) Q E s := by
  obtain ⟨te, hem⟩ := G.em
  refine x_assign (r_list (wpAny_items_cons (r_local S m_he (wpAny_items_cons (r_local S m_le (wpAny_items_cons (r_global G.W S hem (wpAny_items_nil ?_))))))))
  refine r_listEnd S fun lr s S => r_store S fun s S => ?_
  refine x_for (r_item (r_local S m_ce (r_slice (ep_none (ep_some (r_int S fun t3 s S => ep_none ⟨_, _, _, _, _, S, fun sl s S => ?_⟩))))))
  refine sub_sliceI S k_ce .none (.int 3 t3) .none (by decide) (by rw [sizeLine_eq]; simp) fun c s hpl S => ?_
  refine r_iterList S (.mem (.head _)) fun it s S => ?_
  have ep : picks [a0, a1, a2, a3] none (some 3) none = [a0, a1, a2] := rfl
  rw [ep] at S
  have S : St C L _ ([(it, isLIter c 0)] ++ ((lr, isList [.int hd th, .int le tl, .int 0 te]) :: lawCells c1 c2 c3 c4 c5 c6 none none none vb vp va)) _ s := S
  refine r_loop (ds := [a0, a1, a2].map D.int) (src_list (.inl ⟨_, _, rfl⟩)) hR.1 (fun i m X Fs' => m "head" = some (.int hd th) ∧ m "letter" = some (.int le tl) ∧ m "most" = some vm ∧ m "row" = some (.ref lr) ∧
      ∃ vr, X = (lr, isList vr) :: lawCells c1 c2 c3 c4 c5 c6 none none none vb vp va ∧ IsInts vr (rowOf hd le ([a0, a1, a2].take i)) ∧ vr.length ≤ 3 + 7 * i)
    S (fun g hg => by rcases List.mem_cons.mp hg with rfl | hg; exact .mem (.head _); cases hg) ⟨m_he, m_le, m_mo, rfl, _, rfl, .cons Kn.int (.cons Kn.int (.cons Kn.int .nil)), by simp⟩ ?_ ?_
  · rintro E' R1 i d x m X Fs1 s hN hV hd' ⟨m_he, m_le, m_mo, m_ro, vr, rfl, hvr, hvl⟩ hG S
    obtain ⟨y, hy, rfl⟩ := get_map hd'
    obtain ⟨ty, rfl⟩ := Kn.isInt S (.mem (.head _))
    have hi3 : i < 3 := by have := (List.getElem?_eq_some_iff.mp hy).1; simpa using this
    refine wpAny_assign_Name (r_store S fun s S => ?_)
    refine x_assignTup ?_
    refine r_item ?_
    refine r_tuple ?_
    refine wpAny_items_cons ?_
    refine r_tuple (wpAny_items_cons (r_int S fun t s S => wpAny_items_cons (r_int S fun t s S => wpAny_items_nil (r_tupEnd S (ds := [.int 0, .int 2]) (.cons Kn.int (.cons Kn.int .nil)) fun p0 s S => wpAny_items_cons ?_))))
    refine r_tuple (wpAny_items_cons (r_int S fun t s S => wpAny_items_cons (r_int S fun t s S => wpAny_items_nil (r_tupEnd S (ds := [.int 1, .int 1]) (.cons Kn.int (.cons Kn.int .nil)) fun p1 s S => wpAny_items_cons ?_))))
    refine r_tuple (wpAny_items_cons (r_int S fun t s S => wpAny_items_cons (r_int S fun t s S => wpAny_items_nil (r_tupEnd S (ds := [.int 1, .int 2]) (.cons Kn.int (.cons Kn.int .nil)) fun p2 s S => wpAny_items_cons ?_))))
    refine r_tuple (wpAny_items_cons (r_int S fun t s S => wpAny_items_cons (r_int S fun t s S => wpAny_items_nil (r_tupEnd S (ds := [.int 0, .int 3]) (.cons Kn.int (.cons Kn.int .nil)) fun p3 s S => wpAny_items_cons ?_))))
    refine r_tuple (wpAny_items_cons (r_int S fun t s S => wpAny_items_cons (r_int S fun t s S => wpAny_items_nil (r_tupEnd S (ds := [.int 1, .int 0]) (.cons Kn.int (.cons Kn.int .nil)) fun p4 s S => wpAny_items_nil ?_))))
    refine r_tupEnd S (ds := [.tup [.int 0, .int 2], .tup [.int 1, .int 1], .tup [.int 1, .int 2], .tup [.int 0, .int 3], .tup [.int 1, .int 0]])
      (.cons (.mem (.tail _ (.tail _ (.tail _ (.tail _ (.head _)))))) (.cons (.mem (.tail _ (.tail _ (.tail _ (.head _))))) (.cons (.mem (.tail _ (.tail _ (.head _)))) (.cons (.mem (.tail _ (.head _))) (.cons (.mem (.head _)) .nil))))) fun pt s S => ?_
    refine wpAny_BinOp (r_local S rfl (r_int S fun t s S => r_mod S (by decide) fun t s S => ?_))
    have h5 := Int.fmod_nonneg_of_pos y (show (0 : Int) < 5 by decide)
    have h5' := Int.fmod_lt_of_pos y (show (0 : Int) < 5 by decide)
    refine sub_tup S (.mem (.head _)) h5 (by (first | lia | omega)) (d := .tup [.int ((ruleOf y).1 : Int), .int ((ruleOf y).2 : Int)]) ?_ fun v s S => ?_
    · have : y.fmod 5 = 0 ∨ y.fmod 5 = 1 ∨ y.fmod 5 = 2 ∨ y.fmod 5 = 3 ∨ y.fmod 5 = 4 := by (first | lia | omega)
      unfold ruleOf
      rcases this with h | h | h | h | h <;> rw [h] <;> rfl
    refine r_unpack2 hR.1 S (.mem (.head _)) fun v1 v2 s S => ?_
    obtain ⟨tv1, rfl⟩ := Kn.isInt S (.mem (.head _))
    obtain ⟨tv2, rfl⟩ := Kn.isInt S (.mem (.tail _ (.head _)))
    obtain ⟨hr1, hr2⟩ := ruleT_le (y.fmod 5).toNat
    rw [← ruleOf] at hr1 hr2
    have esn := rowOf_snoc hd le hy
    generalize ruleOf y = r at *
    refine S.pack fun mc Fc hmc hFc S => ?_
    have n_he : mc "head" = some (.int hd th) := (hmc _).trans m_he
    have n_le : mc "letter" = some (.int le tl) := (hmc _).trans m_le
    have n_mo : mc "most" = some vm := (hmc _).trans m_mo
    have n_ro : mc "row" = some (.ref lr) := (hmc _).trans m_ro
    have n_ls : mc "letters" = some (.int (r.1 : Int) tv1) := (hmc _).trans rfl
    have n_hs : mc "heads" = some (.int (r.2 : Int) tv2) := (hmc _).trans rfl
    have hG' : ∀ g ∈ [Fact.V (.ref c) (.lst ([a0, a1, a2].map .int))], Tells Fc g := fun g hg => hFc g (hG g hg).up.up.up.up.up.up.up.up.up.up
    clear hmc hFc
    refine x_aug (r_loadLocal S n_ro ?_)
    refine wpAny_BinOp (wpAny_BinOp (wpAny_BinOp (r_list (wpAny_items_cons (r_local S n_he (wpAny_items_nil (r_listEnd S fun l1 s S => ?_)))))))
    refine wpAny_BinOp (r_list (wpAny_items_cons (r_local S n_le (wpAny_items_nil (r_listEnd S fun l2 s S => r_local S n_ls ?_)))))
    refine r_mulList S (S.get (.head _)) (by (first | lia | omega)) (by (first | lia | omega)) (by simp) (by simp; (first | lia | omega)) fun l3 s S => ?_
    rw [Int.toNat_natCast, flat_one] at S
    refine r_addList S (S.get (.tail _ (.tail _ (.head _)))) (S.get (.head _)) (by rw [List.length_replicate, sizeLine_eq]; simp; (first | lia | omega)) fun l4 s S => ?_
    refine wpAny_BinOp (r_list (wpAny_items_cons (r_local S n_he (wpAny_items_nil (r_listEnd S fun l5 s S => r_local S n_hs ?_)))))
    refine r_mulList S (S.get (.head _)) (by (first | lia | omega)) (by (first | lia | omega)) (by simp) (by simp; (first | lia | omega)) fun l6 s S => ?_
    rw [Int.toNat_natCast, flat_one] at S
    refine r_addList S (S.get (.tail _ (.tail _ (.head _)))) (S.get (.head _)) (by rw [sizeLine_eq]; simp; (first | lia | omega)) fun l7 s S => ?_
    refine r_list (wpAny_items_cons (r_global G.W S hem (wpAny_items_nil (r_listEnd S fun l8 s S => ?_))))
    refine r_addList S (S.get (.tail _ (.head _))) (S.get (.head _)) (by rw [sizeLine_eq]; simp; (first | lia | omega)) fun l9 s S => ?_
    have S : St C L mc ((l9, _) :: (it, isLIter c (i + 1)) :: (lr, isList vr) :: lawCells c1 c2 c3 c4 c5 c6 none none none vb vp va) Fc s := S.sub (.cons_cons _ (.cons _ (.cons _ (.cons _ (.cons _ (.cons _ (.cons _ (.cons _ (.cons _ (.refl _))))))))))
    have S := S.rot
    refine r_iaddList S (S.get (.tail _ (.head _))) (by rw [sizeLine_eq]; simp; (first | lia | omega)) fun s S => r_store S fun s S => x_nil ?_
    have S := S.drop2.swap
    refine hN ⟨_, (lr, _) :: lawCells c1 c2 c3 c4 c5 c6 none none none vb vp va, Fc, ?_, hG', S⟩
    refine ⟨n_he, n_le, n_mo, rfl, _, rfl, ?_, ?_⟩
    · rw [esn]
      exact hvr.append ((((IsInts.one _ _).append (ints_rep _ _ _)).append (ints_rep _ _ _)).append (IsInts.one _ _))
    · simp; (first | lia | omega)
  · rintro m X Fs1 s ⟨m_he, m_le, m_mo, m_ro, vr, rfl, hvr, hvl⟩ S
    have S : St C L m ((lr, isList vr) :: lawCells c1 c2 c3 c4 c5 c6 none none none vb vp va) Fs1 s := S
    have S := S.freezeL hvr.up0
    exact h lr _ _ _ m_ro m_mo (.mem (.head _)) S
end
end Mine
end
section
open PySem PySem.W PyProof.Rows PySem.SeqAt
set_option maxRecDepth 100000
set_option linter.unusedVariables false
namespace Mine
noncomputable def rulesN (xs : List Int) : List (Nat × Nat) := (1, 0) :: xs.map ruleOf
noncomputable def i2 (r : Nat × Nat) : Int × Int := ((r.1 : Int), (r.2 : Int))
noncomputable def bothStep (t : List (Int × (Int × Int))) (r : Nat × Nat) : List (Int × (Int × Int)) := mergeW plus2 t [(9 * (r.1 : Int) + (r.2 : Int) - 1, (-1, 0)), (9 * (r.1 : Int) + (r.2 : Int), (0, -(r.2 : Int)))]
noncomputable def bothOf (rs : List (Nat × Nat)) : List (Int × (Int × Int)) := rs.foldl bothStep [(0, (1, 0)), (1, (0, 1))]
theorem rulesN_le {xs : List Int} : ∀ r ∈ rulesN xs, r.1 ≤ 1 ∧ r.2 ≤ 3 ∧ (r.2 = 1 → r.1 = 1) := by
  intro r hr
  rcases List.mem_cons.mp hr with rfl | hr
  · decide
  · obtain ⟨x, _, rfl⟩ := List.mem_map.mp hr
    unfold ruleOf ruleT
    split <;> decide
theorem ruleRow_fold {hd le : Int} (h1 : 256 ≤ hd) (h2 : 0 < le ∧ le < 256) (acc : List (Int × Int)) (n : Nat) : (ruleRow hd le (ruleT n)).foldl rstep (acc, []) = (acc ++ [i2 (ruleT n)], []) := by
  have e1 : hd ≠ 0 := by (first | lia | omega)
  have e2 : le ≠ 0 := by (first | lia | omega)
  have e3 : ¬ hd < 256 := by (first | lia | omega)
  have e4 : ¬ 256 ≤ le := by (first | lia | omega)
  have e5 := h2.2
  unfold ruleT
  split <;> simp [ruleRow, rstep, e1, e2, e3, e4, e5, h1, cntT, cntN, i2, List.replicate]
theorem rows_fold {hd le : Int} (h1 : 256 ≤ hd) (h2 : 0 < le ∧ le < 256) : ∀ (xs : List Int) (acc : List (Int × Int)), ((xs.map fun x => ruleRow hd le (ruleOf x)).flatten).foldl rstep (acc, []) = (acc ++ (xs.map ruleOf).map i2, [])
  | [], acc => by simp
  | x :: xs, acc => by
    rw [List.map_cons, List.flatten_cons, List.foldl_append, ruleOf, ruleRow_fold h1 h2, rows_fold h1 h2 xs]
    simp [ruleOf]
theorem rulesOf_row {hd le : Int} (h1 : 256 ≤ hd) (h2 : 0 < le ∧ le < 256) (xs : List Int) : rulesOf (rowOf hd le xs) = (rulesN xs).map i2 := by
  have e1 : hd ≠ 0 := by (first | lia | omega)
  have e2 : le ≠ 0 := by (first | lia | omega)
  have e3 : ¬ hd < 256 := by (first | lia | omega)
  have e4 : ¬ 256 ≤ le := by (first | lia | omega)
  have e5 := h2.2
  have e : ([hd, le, 0] : List Int).foldl rstep ([], []) = ([(1, 0)], []) := by
    simp [rstep, e1, e2, e3, e4, e5, cntT, cntN]
  rw [rulesOf, rowOf, List.foldl_append, e, rows_fold h1 h2]
  rfl
theorem mergeW_len2 {α : Type} (f : α → α → α) (t : List (Int × α)) (p q : Int × α) : (mergeW f t [p, q]).length ≤ t.length + 2 := by
  unfold mergeW
  rw [List.foldl_cons, List.foldl_cons, List.foldl_nil]
  exact Nat.le_trans (put_length ..) (Nat.succ_le_succ (put_length ..))
theorem bothOf_snoc {rs : List (Nat × Nat)} {i : Nat} {r : Nat × Nat} (h : rs[i]? = some r) : bothOf (rs.take (i + 1)) = bothStep (bothOf (rs.take i)) r := by
  rw [bothOf, bothOf, take_snoc h, List.foldl_append]; rfl
theorem bothOf_len (rs : List (Nat × Nat)) : (bothOf rs).length ≤ 2 + 2 * rs.length := by
  suffices h : ∀ (rs : List (Nat × Nat)) t, (rs.foldl bothStep t).length ≤ t.length + 2 * rs.length by
    have := h rs [(0, (1, 0)), (1, (0, 1))]
    unfold bothOf
    simpa using this
  intro rs
  induction rs with
  | nil => intro t; simp
  | cons r rs ih =>
    intro t
    have h1 := ih (bothStep t r)
    have h2 := mergeW_len2 plus2 t (9 * (r.1 : Int) + (r.2 : Int) - 1, (-1, 0)) (9 * (r.1 : Int) + (r.2 : Int), (0, -(r.2 : Int)))
    rw [List.foldl_cons, List.length_cons]
    unfold bothStep at h1 ⊢
    (first | lia | omega)
section
variable {prog : Program} {w : World} {A : Around} {E : Value → Shared → Prop} {C : Cx} {L : Addr} {m : Str → Option Value} {X : List (Addr × OP)} {Fs : List Fact} {s : Shared} {env : Env} {mg : Str → Option Value}
set_option maxHeartbeats 1000000 in
theorem law_both {fa ca va c1 c2 c3 c4 c5 c6 lr : Addr} {vb vp : Option Value} {hd le : Int} {xs : List Int} {vm : Value} {Q : Flow → Shared → Prop} (G : LL C.hW C.T C.TQ mg) (S : St C L m (lawCells c1 c2 c3 c4 c5 c6 none none none vb vp va) Fs s) (hR : Room A 199)
    (m_ro : m "row" = some (.ref lr)) (m_mo : m "most" = some vm) (k_ro : Kn Fs (.ref lr) (.lst ((rowOf hd le xs).map .int))) (h1 : 256 ≤ hd) (h2 : 0 < le ∧ le < 256) (hxs : xs.length ≤ 5)
    (h : ∀ lu vd m' Fs' s', m' "rules" = some (.ref lu) → m' "most" = some vm → Kn Fs' (.ref lu) (.lst ((rulesN xs).map fun r => pr (i2 r))) → Kn Fs' (.ref vd) (.dct (mapV pr (bothOf (rulesN xs)))) →
      St C L m' (lawCells c1 c2 c3 c4 c5 c6 none none (some (.ref vd)) vb vp va) Fs' s' → wpAny (model prog w) A (execs (d_law.b.drop 8) (lawEnv L fa ca c1 c2 c3 c4 c5 c6)) Q E s') :
    wpAny (model prog w) A (execs (d_law.b.drop 6) (lawEnv L fa ca c1 c2 c3 c4 c5 c6)) Q E s := by
  obtain ⟨fr, cr, hfr⟩ := G.lrules
  obtain ⟨fd, cd, Pd, hfd, hCd, hPd, hqd⟩ := G.lg.add
  refine x_assignTupC "both" _ (.tail _ (.head _)) ?_
  refine r_tuple ?_
  refine wpAny_items_cons (r_call G.lg.W hfr S (wpAny_items_cons (r_local S m_ro (wpAny_items_nil ⟨hfr.at S, ?_⟩))))
  have hrl : (rowOf hd le xs).length ≤ 1000 := by
    have : ∀ ys : List Int, ((ys.map fun x => ruleRow hd le (ruleOf x)).flatten).length ≤ 6 * ys.length := by
      intro ys
      induction ys with
      | nil => simp
      | cons y ys ih =>
        have := ruleT_le (y.fmod 5).toNat
        rw [List.map_cons, List.flatten_cons, List.length_append, List.length_cons]
        have e : (ruleRow hd le (ruleOf y)).length ≤ 6 := by simp [ruleRow, ruleOf]; (first | lia | omega)
        (first | lia | omega)
    have := this xs
    rw [rowOf, List.length_append]
    simp only [List.length_cons, List.length_nil]; (first | lia | omega)
  refine lrules_ok G.lg hfr S (hR.mono (by decide)) k_ro hrl fun lu s S => ?_
  rw [rulesOf_row h1 h2, List.map_map] at S
  refine wpAny_items_cons ?_
  with_reducible refine r_dict2 S fun a s S => ?_
  refine r_int S fun t0 s S => ?_
  refine r_tuple ?_
  refine wpAny_items_cons (r_int S fun t s S => wpAny_items_cons (r_int S fun t s S => wpAny_items_nil (r_tupEnd S (ds := [.int 1, .int 0]) (.cons Kn.int (.cons Kn.int .nil)) fun p0 s S => ?_)))
  refine r_int S fun t1 s S => ?_
  refine r_tuple ?_
  refine wpAny_items_cons (r_int S fun t s S => wpAny_items_cons (r_int S fun t s S => wpAny_items_nil (r_tupEnd S (ds := [.int 0, .int 1]) (.cons Kn.int (.cons Kn.int .nil)) fun p1 s S => ?_)))
  refine d_end2 S (d := .tup [.int 1, .int 0]) (d' := .tup [.int 0, .int 1]) (.mem (.tail _ (.head _))) (.mem (.head _)) (by decide) fun s S => ?_
  refine wpAny_items_nil (r_tupEndX S fun tp s S => ?_)
  refine r_unpackX hR.1 S rfl rfl fun s S => ?_
  refine r_inOrder (wpAny_assign_Name (r_store S fun s S => ?_))
  refine r_inOrder (wpAny_assign_Name (r_storeCell S.rot fun s S => r_inOrder0 ?_))
  have S := S.rot.rot
  refine S.pack fun mc Fc hmc hFc S => ?_
  have n_ru : mc "rules" = some (.ref lu) := (hmc _).trans rfl
  have n_mo : mc "most" = some vm := (hmc _).trans m_mo
  have k_ru : Kn Fc (.ref lu) (.lst ((rulesN xs).map fun r => pr (i2 r))) := hFc _ (.mem (.tail _ (.tail _ (.tail _ (.head _)))))
  have k_bo : Kn Fc (.ref a) (.dct (mapV pr (bothOf []))) := hFc _ (.mem (.head _))
  clear hmc hFc
  refine x_for (r_local S n_ru (r_iterList S k_ru fun it s S => ?_))
  have hlen : (rulesN xs).length = xs.length + 1 := by simp [rulesN]
  have S : St C L mc ([(it, isLIter lu 0)] ++ lawCells c1 c2 c3 c4 c5 c6 none none (some (.ref a)) vb vp va) Fc s := S
  refine r_loop (src_list (.inr ⟨_, _, _, rfl⟩)) hR.1 (fun i m X Fs' => m "rules" = some (.ref lu) ∧ m "most" = some vm ∧ Kn Fs' (.ref lu) (.lst ((rulesN xs).map fun r => pr (i2 r))) ∧ ∃ vd, X = lawCells c1 c2 c3 c4 c5 c6 none none (some (.ref vd)) vb vp va ∧ Kn Fs' (.ref vd) (.dct (mapV pr (bothOf ((rulesN xs).take i)))))
    S (fun g hg => by rcases List.mem_cons.mp hg with rfl | hg; exact k_ru; cases hg) ⟨n_ru, n_mo, k_ru, a, rfl, k_bo⟩ ?_ ?_
  · rintro E' R1 i d x m X Fs1 s hN hV hd' ⟨n_ru, n_mo, k_ru, vd, rfl, k_bo⟩ hG S
    obtain ⟨r, hr, rfl⟩ := get_map hd'
    have hil : i < (rulesN xs).length := (List.getElem?_eq_some_iff.mp hr).1
    have esn := bothOf_snoc hr
    have hlb := bothOf_len ((rulesN xs).take i)
    obtain ⟨hr1, hr2, _⟩ := rulesN_le r (List.mem_of_getElem? hr)
    refine r_unpack2 hR.1 S (.mem (.head _)) fun v1 v2 s S => ?_
    obtain ⟨tv1, rfl⟩ := Kn.isInt S (.mem (.head _))
    obtain ⟨tv2, rfl⟩ := Kn.isInt S (.mem (.tail _ (.head _)))
    refine x_assign (r_call G.lg.W hfd S (wpAny_items_cons ?_))
    refine r_cellName S (.tail _ (.tail _ (.tail _ (.head _)))) ?_
    refine wpAny_items_cons ?_
    refine r_dict2 S fun a2 s S => ?_
    refine wpAny_BinOp (wpAny_BinOp (wpAny_BinOp (r_int S fun t s S => r_local S rfl (r_mul S (mulOk_small (by decide) (by decide)) fun t s S => r_local S rfl (r_add S fun t s S => r_int S fun t s S => r_sub S fun tk s S => ?_)))))
    refine r_tuple ?_
    refine wpAny_items_cons (wpAny_UnaryOp (r_int S fun t s S => r_neg S fun t s S => wpAny_items_cons (r_int S fun t s S => wpAny_items_nil (r_tupEnd S (ds := [.int (-1), .int 0]) (.cons Kn.int (.cons Kn.int .nil)) fun p0 s S => ?_))))
    refine wpAny_BinOp (wpAny_BinOp (r_int S fun t s S => r_local S rfl (r_mul S (mulOk_small (by decide) (by decide)) fun t s S => r_local S rfl (r_add S fun tk' s S => ?_))))
    refine r_tuple ?_
    refine wpAny_items_cons (r_int S fun t s S => wpAny_items_cons (wpAny_UnaryOp (r_local S rfl (r_neg S fun t s S => wpAny_items_nil (r_tupEnd S (ds := [.int 0, .int (-(r.2 : Int))]) (.cons Kn.int (.cons Kn.int .nil)) fun p1 s S => ?_)))))
    refine d_end2 S (d := .tup [.int (-1), .int 0]) (d' := .tup [.int 0, .int (-(r.2 : Int))]) (.mem (.tail _ (.head _))) (.mem (.head _)) (by (first | lia | omega)) fun s S => ?_
    refine wpAny_items_nil ⟨hfd.at S, ?_⟩
    refine add_pair_ok G.lg.W G.lg.isi G.lg.tup G.lg.zip hCd hPd hqd hfd S (hR.mono (by decide)) (k_bo.up.up.up.up.up.up) (B0 := [(9 * (r.1 : Int) + (r.2 : Int) - 1, (-1, 0)), (9 * (r.1 : Int) + (r.2 : Int), (0, -(r.2 : Int)))]) (.mem (.head _)) ?_ fun v s S => ?_
    · rw [sizeLine_eq]
      rw [List.length_take] at hlb
      simp only [List.length_cons, List.length_nil]; (first | lia | omega)
    obtain ⟨vd2, rfl⟩ := Kn.isRef_dct S (.mem (.head _))
    refine r_storeCell S.rot4 fun s S => x_nil ?_
    have S : St C L _ ([(it, isLIter lu (i + 1))] ++ lawCells c1 c2 c3 c4 c5 c6 none none (some (.ref vd2)) vb vp va) _ s := S.order 7 [1, 2, 3, 0, 4, 5, 6] (by decide)
    refine hN ⟨_, lawCells c1 c2 c3 c4 c5 c6 none none (some (.ref vd2)) vb vp va, _, ?_, fun g hg => (hG g hg).up.up.up.up.up.up.up, S⟩
    refine ⟨n_ru, n_mo, k_ru.up.up.up.up.up.up.up, vd2, rfl, ?_⟩
    rw [esn]
    exact .mem (.head _)
  · rintro m X Fs1 s ⟨n_ru, n_mo, k_ru, vd, rfl, k_bo⟩ S
    rw [List.length_map, List.take_length] at k_bo
    exact h lu vd _ _ _ n_ru n_mo k_ru k_bo S
end
end Mine
end
section
open PySem PySem.W PyProof.Rows PySem.SeqAt
set_option maxRecDepth 100000
set_option linter.unusedVariables false
namespace Mine
noncomputable def sel (k : Nat) (b : Int × Int) : Int := if k = 0 then b.1 else b.2
noncomputable def sideOf (rs : List (Nat × Nat)) (k : Nat) : List (Int × Int) := putAll ((bothOf rs).map fun b => (b.1, sel k b.2))
noncomputable def numO (nb p : Nat) (rs : List (Nat × Nat)) (k : Nat) : Int := dsum nb (numTab (sideOf rs k) (p : Int))
theorem putAll_mapV {α β : Type} (f : α → β) (l : List (Int × α)) : putAll (mapV f l) = mapV f (putAll l) := by
  suffices h : ∀ (l acc : List (Int × α)), (mapV f l).foldl (fun acc p => put acc p.1 p.2) (mapV f acc) = mapV f (l.foldl (fun acc p => put acc p.1 p.2) acc) by exact h l []
  intro l
  induction l with
  | nil => intro acc; rfl
  | cons p l ih =>
    intro acc
    show (mapV f l).foldl _ (put (mapV f acc) p.1 (f p.2)) = _
    rw [put_mapV, ih]; rfl
section
variable {prog : Program} {w : World} {A : Around} {E : Value → Shared → Prop} {C : Cx} {L : Addr} {m : Str → Option Value} {X : List (Addr × OP)} {Fs : List Fact} {s : Shared} {env : Env} {mg : Str → Option Value}
set_option maxHeartbeats 1000000 in
theorem law_nums {fa ca va c1 c2 c3 c4 c5 c6 lu vd : Addr} {nb p : Nat} {tbi tpr : Tok} {rs : List (Nat × Nat)} {vm : Value} {Q : Flow → Shared → Prop} (G : LL C.hW C.T C.TQ mg) (S : St C L m (lawCells c1 c2 c3 c4 c5 c6 none none (some (.ref vd)) (some (.int (nb : Int) tbi)) (some (.int (p : Int) tpr)) va) Fs s) (hR : Room A 199)
    (hp : p = 2 ∨ p = 3) (hnb : 8 ≤ nb ∧ nb ≤ 16) (hrs : rs.length ≤ 10)
    (m_ru : m "rules" = some (.ref lu)) (m_mo : m "most" = some vm) (k_ru : Kn Fs (.ref lu) (.lst (rs.map fun r => pr (i2 r)))) (k_bo : Kn Fs (.ref vd) (.dct (mapV pr (bothOf rs))))
    (h : ∀ tu ta m' Fs' s', m' "under" = some (.int (numO nb p rs 0) tu) → m' "above" = some (.int (numO nb p rs 1) ta) → m' "rules" = some (.ref lu) → m' "most" = some vm → Kn Fs' (.ref lu) (.lst (rs.map fun r => pr (i2 r))) →
      St C L m' (lawCells c1 c2 c3 c4 c5 c6 none none (some (.ref vd)) (some (.int (nb : Int) tbi)) (some (.int (p : Int) tpr)) va) Fs' s' → wpAny (model prog w) A (execs (d_law.b.drop 9) (lawEnv L fa ca c1 c2 c3 c4 c5 c6)) Q E s') :
    wpAny (model prog w) A (execs (d_law.b.drop 8) (lawEnv L fa ca c1 c2 c3 c4 c5 c6)) Q E s := by
  obtain ⟨fn, cn, hfn⟩ := G.lnumber
  refine x_assignTup ?_
  refine r_listComp ?_
  refine r_tuple ?_
  refine wpAny_items_cons (r_int S fun t s S => wpAny_items_cons (r_int S fun t s S => wpAny_items_nil ?_))
  refine r_tupEnd S (ds := (List.range 2).map fun (i : Nat) => D.int (i : Int)) (.cons Kn.int (.cons Kn.int .nil)) fun lt s S => ?_
  refine r_iterTup S (.mem (.head _)) fun it s S => ?_
  have S : St C L m ([(it, isTIter lt 0)] ++ lawCells c1 c2 c3 c4 c5 c6 none none (some (.ref vd)) (some (.int (nb : Int) tbi)) (some (.int (p : Int) tpr)) va) _ s := S
  refine r_listGo (l := List.range 2) (emb := fun (i : Nat) => D.int (i : Int)) (src_tup (.inl ⟨_, _, rfl⟩)) hR.1 S (fun g hg => by rcases List.mem_cons.mp hg with rfl | hg; exact .mem (.head _); cases hg) (fun C L m X Fs s S => again_tup S) (by decide)
    (fun k => some (D.int (numO nb p rs k))) ?_ ?_
  · rintro E2 Hid L2 own cv j a x m2 Fs2 s ho ha hFs2 S
    obtain ⟨ck, rfl⟩ : ∃ ck, own = [((Str.ofString "k"), ck)] := ⟨_, ho⟩
    have S : St C L2 m2 ((ck, isCell (cv ck)) :: (L, isNs m) :: (lawCells c1 c2 c3 c4 c5 c6 none none (some (.ref vd)) (some (.int (nb : Int) tbi)) (some (.int (p : Int) tpr)) va ++ Hid)) _ s := S
    obtain ⟨ta, rfl⟩ := Kn.isInt S (.mem (.head _))
    have ha2 : a < 2 := by
      have e := List.mem_of_getElem? ha
      exact List.mem_range.mp e
    refine wpAny_assign_Name (r_storeCell S fun s S => t_nil ⟨rfl, ?_⟩)
    refine r_call G.lg.W hfn S ?_
    refine wpAny_items_cons ?_
    refine r_dictComp ?_
    have k_bo2 : Kn (.V (.int (a : Int) ta) (.int (a : Int)) :: Fs2) (.ref vd) (.dct (mapV pr (bothOf rs))) := (k_bo.sub fun f hf => hFs2 f (.tail _ hf)).up
    refine wpAny_Call_method0_late rfl rfl (r_cellName S (.tail _ (.tail _ (.tail _ (.tail _ (.head _))))) (m_items S k_bo2 fun v kvs ep s hk S => ?_))
    refine r_iterItems S (.mem (.head _)) fun it2 s S => ?_
    have es : ((mapV pr (bothOf rs)).map fun x => D.tup [.int x.1, x.2]) = (bothOf rs).map fun b => D.tup [.int b.1, pr b.2] := by rw [mapV, List.map_map]; rfl
    have hlb := bothOf_len rs
    refine r_dictGo (l := bothOf rs) (emb := fun b => D.tup [.int b.1, pr b.2]) (es ▸ src_items hk) hR.1 S (fun g hg => by rcases List.mem_cons.mp hg with rfl | hg; exact .mem (.head _); rcases List.mem_cons.mp hg with rfl | hg; exact .mem (.tail _ (.head _)); cases hg)
      (fun C L m X Fs s S => again_items S) (by rw [sizeLine_eq]; (first | lia | omega)) (fun b => some (b.1, D.int (sel a b.2))) ?_ ?_
    · rintro E3 Hid3 L3 own cv3 j3 b y m3 Fs3 s ho hb hFs3 S
      have ho : own = [] := ho
      subst ho
      refine r_unpack2 hR.1 S (.mem (.head _)) fun v1 v2 s S => t_nil ⟨rfl, ?_⟩
      obtain ⟨t1, rfl⟩ := Kn.isInt S (.mem (.head _))
      obtain ⟨a2, rfl⟩ := Kn.isRef_tup S (.mem (.tail _ (.head _)))
      refine r_local S rfl ⟨⟨t1, rfl⟩, ?_⟩
      refine r_item (r_local S rfl (r_cellName S (.tail _ (.head _)) ?_))
      refine sub_tup S (.mem (.tail _ (.head _))) (by (first | lia | omega)) (by (first | lia | omega)) (d := .int (sel a b.2)) ?_ fun v s S => ?_
      · have : a = 0 ∨ a = 1 := by (first | lia | omega)
        rcases this with rfl | rfl <;> rfl
      exact ⟨cv3, _, _, fun f hf => (Tells.mem hf).up.up.up.up, .mem (.head _), S⟩
    · intro acc L3 m3 s S
      refine r_dictEndC S fun s S => ?_
      have e : putAll ((bothOf rs).filterMap fun b => some (b.1, D.int (sel a b.2))) = mapV .int (sideOf rs a) := by
        rw [List.filterMap_eq_map', sideOf, ← putAll_mapV, mapV, List.map_map]; rfl
      rw [e] at S
      refine wpAny_items_cons (r_cellName S (.tail _ (.tail _ (.tail _ (.tail _ (.tail _ (.tail _ (.head _))))))) ?_)
      refine wpAny_items_cons (r_cellName S (.tail _ (.tail _ (.tail _ (.tail _ (.tail _ (.head _)))))) ?_)
      refine wpAny_items_nil ⟨hfn.at S, ?_⟩
      refine lnumber_ok G.lg hfn S (hR.mono (by decide)) (.mem (.head _)) ⟨by (first | lia | omega), by (first | lia | omega)⟩ ⟨by (first | lia | omega), by (first | lia | omega)⟩ fun t s S => ?_
      exact ⟨fun _ => some (.int (a : Int) ta), _, _, fun f hf => (Tells.mem hf).up.up.up.up, Kn.int, S⟩
  · intro acc L2 m2 s S
    refine r_listEndC S fun s S => ?_
    have S : St C L m (lawCells c1 c2 c3 c4 c5 c6 none none (some (.ref vd)) (some (.int (nb : Int) tbi)) (some (.int (p : Int) tpr)) va) _ s := S
    refine r_unpackL2 hR.1 S (.mem (.head _)) fun v1 v2 s S => ?_
    obtain ⟨t1, rfl⟩ := Kn.isInt S (.mem (.head _))
    obtain ⟨t2, rfl⟩ := Kn.isInt S (.mem (.tail _ (.head _)))
    refine h t1 t2 _ _ _ ?_ ?_ ?_ ?_ ?_ S
    · rfl
    · rfl
    · exact m_ru
    · exact m_mo
    · exact k_ru.up.up.up.up
end
end Mine
end
section
open PySem PySem.W PyProof.Rows PySem.SeqAt
set_option maxRecDepth 100000
set_option linter.unusedVariables false
namespace Mine
/-- the plain law: what is read is what is counted -/
def Plain (nb p most : Nat) (rs : List (Nat × Nat)) : Prop :=
  ∀ size, size ≤ most → ∃ k, walk nb p (numO nb p rs 0).toNat (9 - 2 * p) size (numO nb p rs 1).toNat [] = List.replicate (k + 1) ((at' (treesOf most rs most).w1 size).fmod (p : Int))
theorem numO_ok {nb p k : Nat} {rs : List (Nat × Nat)} (hp : p = 2 ∨ p = 3) (hnb : 8 ≤ nb) : ∃ n : Nat, numO nb p rs k = (n : Int) ∧ n < 2 ^ (nb * 12) := by
  have h := dsum_nonneg (n := nb) (l := numTab (sideOf rs k) (p : Int)) (fun d hd => by
    obtain ⟨i, _, rfl⟩ := List.mem_map.mp hd
    have h1 := Int.fmod_nonneg_of_pos ((look (sideOf rs k) (i : Int)).getD 0) (show (0 : Int) < p by (first | lia | omega))
    have h2 := Int.fmod_lt_of_pos ((look (sideOf rs k) (i : Int)).getD 0) (show (0 : Int) < p by (first | lia | omega))
    have h3 : (2 : Int) ^ 8 ≤ 2 ^ nb := by
      have : (2 : Nat) ^ 8 ≤ 2 ^ nb := Nat.pow_le_pow_right (by decide) hnb
      have e : ((2 ^ nb : Nat) : Int) = 2 ^ nb := by rw [Int.natCast_pow]; rfl
      rw [← e]; (first | lia | omega)
    have h4 : (2 : Int) ^ 8 = 256 := by decide
    (first | lia | omega))
  have hl : (numTab (sideOf rs k) (p : Int)).length = 12 := by simp [numTab]
  rw [hl] at h
  have e : ((2 ^ (nb * 12) : Nat) : Int) = 2 ^ (nb * 12) := by rw [Int.natCast_pow]; rfl
  refine ⟨(numO nb p rs k).toNat, ?_, ?_⟩ <;> unfold numO <;> (first | lia | omega)
section
variable {prog : Program} {w : World} {A : Around} {E : Value → Shared → Prop} {C : Cx} {L : Addr} {m : Str → Option Value} {X : List (Addr × OP)} {Fs : List Fact} {s : Shared} {env : Env} {mg : Str → Option Value}
set_option maxHeartbeats 1000000 in
theorem law_end {fa ca va c1 c2 c3 c4 c5 c6 lu vd : Addr} {nb p most : Nat} {tbi tpr tm tu ta : Tok} {rs : List (Nat × Nat)} {Q : Flow → Shared → Prop} (G : LL C.hW C.T C.TQ mg) (S : St C L m (lawCells c1 c2 c3 c4 c5 c6 none none (some (.ref vd)) (some (.int (nb : Int) tbi)) (some (.int (p : Int) tpr)) va) Fs s) (hR : Room A 199)
    (hp : p = 2 ∨ p = 3) (hnb : 8 ≤ nb ∧ nb ≤ 16) (hmost : most ≤ 15) (hrs : rs.length ≤ 10) (hr : ∀ r ∈ rs, r.1 ≤ 1 ∧ r.2 ≤ 3 ∧ (r.2 = 1 → r.1 = 1)) (hsm : Small (treesOf most rs most).w1 ∧ Small (treesOf most rs most).w2) (hpl : Plain nb p most rs)
    (m_un : m "under" = some (.int (numO nb p rs 0) tu)) (m_ab : m "above" = some (.int (numO nb p rs 1) ta)) (m_ru : m "rules" = some (.ref lu)) (m_mo : m "most" = some (.int (most : Int) tm)) (k_ru : Kn Fs (.ref lu) (.lst (rs.map fun r => pr (i2 r))))
    (h : ∀ m' X' Fs' s', St C L m' X' Fs' s' → Q (.ret (.bool true)) s') :
    wpAny (model prog w) A (execs (d_law.b.drop 9) (lawEnv L fa ca c1 c2 c3 c4 c5 c6)) Q E s := by
  obtain ⟨ft, ct, hft⟩ := G.ltrees
  obtain ⟨fn, cn, hfn⟩ := G.lnumber
  obtain ⟨fl, cl, hfl⟩ := G.lled
  obtain ⟨fe, ce, hfe⟩ := G.lread
  have hlen := (treesOf_len most rs most).1
  refine x_assign (r_call G.lg.W hft S (wpAny_items_cons (r_local S m_ru (wpAny_items_cons (r_local S m_mo (wpAny_items_nil ⟨hft.at S, ?_⟩))))))
  refine ltrees_ok G.lg hft S (hR.mono (by decide)) k_ru hrs hr hmost hsm fun lt s S => ?_
  refine r_storeCell S.swap fun s S => ?_
  have S := S.swap
  obtain ⟨st0, est, hst⟩ := numO_ok (nb := nb) (p := p) (k := 1) (rs := rs) hp hnb.1
  obtain ⟨un, eun, hun⟩ := numO_ok (nb := nb) (p := p) (k := 0) (rs := rs) hp hnb.1
  unfold Plain at hpl
  rw [est] at m_ab hpl
  rw [eun] at m_un hpl
  rw [Int.toNat_natCast, Int.toNat_natCast] at hpl
  refine x_assign (r_call G.lg.W hfe S (wpAny_items_cons (r_local S m_ab (wpAny_items_cons (r_local S m_un (wpAny_items_cons ?_))))))
  refine r_cellName S (.tail _ (.tail _ (.tail _ (.tail _ (.head _))))) (wpAny_items_cons (r_local S m_mo (wpAny_items_cons ?_)))
  refine r_cellName S (.tail _ (.tail _ (.tail _ (.head _)))) (wpAny_items_nil ⟨hfe.at S, ?_⟩)
  refine lread_ok G.lg hfe hfl hfn S (hR.mono (by decide)) hp hnb hmost hst hun fun ll s S => ?_
  refine r_storeCell S fun s S => ?_
  generalize hW : (treesOf most rs most).w1 = W at *
  have S : St C L m (lawCells c1 c2 c3 c4 c5 c6 (some (.ref ll)) (some (.ref lt)) (some (.ref vd)) (some (.int (nb : Int) tbi)) (some (.int (p : Int) tpr)) va) (.V (.ref ll) (.lst ((toldOf nb p un st0 (most + 1)).map fun l => .lst (l.map .int))) :: .V (.ref lt) (.lst (W.map .int)) :: Fs) s := S
  refine x_if ?_
  refine PyProof.Rows.isTrue_or ?_
  refine wpAny_isTrue_Compare1 (r_cellName S (.tail _ (.head _)) ?_)
  refine r_list (wpAny_items_nil (r_listEnd S fun l0 s S => ?_))
  have S := S.freezeL (ds := []) .nil
  refine r_eqLen S (.mem (.tail _ (.tail _ (.head _)))) (.mem (.head _)) (by rw [List.length_map, hlen]; simp) (by have := hR.2.2; (first | lia | omega)) (wpAny_truthy_bool ?_)
  rw [if_neg (by decide)]
  refine PyProof.Rows.isTrue_or ?_
  refine wpAny_isTrue_Compare1 ?_
  refine r_list (wpAny_items_nil (r_listEnd S fun l1 s S => ?_))
  have S := S.freezeL (ds := []) .nil
  refine r_cellName S (.head _) ?_
  refine r_nilIn S (.mem (.tail _ (.tail _ (.head _)))) (.mem (.head _)) (fun d hd => ?_) (by have := hR.2.2; (first | lia | omega)) (wpAny_truthy_bool ?_)
  · obtain ⟨l, hl, rfl⟩ := List.mem_map.mp hd
    obtain ⟨size, hsz, rfl⟩ := List.mem_map.mp hl
    obtain ⟨k, hk⟩ := hpl size (by have := List.mem_range.mp hsz; (first | lia | omega))
    rw [hk]
    exact ⟨_, _, by rw [List.replicate_succ, List.map_cons]⟩
  rw [if_neg (by decide)]
  refine PyProof.Rows.isTrue_or_nil ?_
  rw [if_neg (by decide)]
  refine x_nil ?_
  refine x_ret ?_
  refine wpAny_Compare1 ?_
  refine r_cellName S (.head _) ?_
  refine r_listComp ?_
  refine r_callT G.lg.W S G.lg.range (wpAny_items_cons (wpAny_BinOp (r_local S m_mo (r_int S fun t s S => r_add S fun t s S => wpAny_items_nil ?_))))
  rw [show (most : Int) + 1 = ((most + 1 : Nat) : Int) by (first | lia | omega)]
  refine r_range1 S fun r s S => ?_
  refine r_iterRange S (by (first | lia | omega)) (by (first | lia | omega)) fun it s S => ?_
  refine r_listGo (l := List.range (most + 1)) (emb := fun (i : Nat) => D.int (i : Int)) (src_range0 (n := most + 1)) hR.1 S (fun g hg => nomatch hg) (fun C L m X Fs s S => again_range S) (by rw [sizeLine_eq, List.length_range]; (first | lia | omega))
    (fun size => some (D.lst ((List.replicate (walk nb p un (9 - 2 * p) size st0 []).length ((at' W size).fmod (p : Int))).map .int))) ?_ ?_
  · rintro E2 Hid L2 own cv j a x m2 Fs2 s ho ha hFs2 S
    have ho : own = [] := ho
    subst ho
    have ha' : a < most + 1 := List.mem_range.mp (List.mem_of_getElem? ha)
    obtain ⟨ti, rfl⟩ := Kn.isInt S (.mem (.head _))
    refine wpAny_assign_Name (r_store S fun s S => t_nil ⟨rfl, ?_⟩)
    have k_tr : Kn (.V (.int (a : Int) ti) (.int (a : Int)) :: Fs2) (.ref lt) (.lst (W.map .int)) := Tells.up (hFs2 _ (.tail _ (.tail _ (.tail _ (.head _)))))
    have k_to : Kn (.V (.int (a : Int) ti) (.int (a : Int)) :: Fs2) (.ref ll) (.lst ((toldOf nb p un st0 (most + 1)).map fun l => .lst (l.map .int))) := Tells.up (hFs2 _ (.tail _ (.tail _ (.head _))))
    refine wpAny_BinOp ?_
    refine r_list ?_
    refine wpAny_items_cons (wpAny_BinOp (r_item (r_cellName S (.tail _ (.tail _ (.head _))) (r_local S rfl ?_))))
    refine sub_list S k_tr (by (first | lia | omega)) (by (first | lia | omega)) (d := .int (at' W a)) ?_ fun v s S => ?_
    · rw [Int.toNat_natCast, List.getElem?_map, at_get (by (first | lia | omega))]; rfl
    obtain ⟨tv, rfl⟩ := Kn.isInt S (.mem (.head _))
    refine r_cellName S (.tail _ (.tail _ (.tail _ (.tail _ (.tail _ (.head _)))))) (r_mod S (by (first | lia | omega)) fun tx s S => wpAny_items_nil (r_listEnd S fun l2 s S => ?_))
    refine r_callB G.lg.W S G.lg.glo.len ?_
    refine wpAny_items_cons (r_item (r_cellName S (.tail _ (.tail _ (.head _))) (r_local S rfl ?_)))
    refine sub_list S k_to.up (by (first | lia | omega)) (by (first | lia | omega)) (d := .lst ((walk nb p un (9 - 2 * p) a st0 []).map .int)) ?_ fun v s S => ?_
    · rw [Int.toNat_natCast, toldOf, List.map_map, List.getElem?_map, List.getElem?_range ha']; rfl
    obtain ⟨lv, rfl⟩ := Kn.isRef_lst S (.mem (.head _))
    have hwl : (walk nb p un (9 - 2 * p) a st0 []).length ≤ 9 := by
      have key : ∀ t n st l, (walk nb p un t n st l).length ≤ l.length + t := by
        intro t
        induction t with
        | zero => intro n st l; simp [walk]
        | succ t ih =>
          intro n st l
          rw [walk]
          split
          · refine Nat.le_trans (ih _ _ _) ?_; simp; (first | lia | omega)
          · refine Nat.le_trans (ih _ _ _) ?_; (first | lia | omega)
      have := key (9 - 2 * p) a st0 []
      simp only [List.length_nil] at this; (first | lia | omega)
    refine wpAny_items_nil (len_list' S (.mem (.head _)) (by rw [List.length_map, sizeLine_eq]; (first | lia | omega)) fun tn s S => ?_)
    rw [List.length_map]
    refine r_mulList S (S.get (.head _)) (by (first | lia | omega)) (by (first | lia | omega)) (by simp) (by simp; (first | lia | omega)) fun l3 s S => ?_
    rw [Int.toNat_natCast, flat_one] at S
    have S := S.freezeL (ints_rep _ _ _).up0
    exact ⟨cv, _, _, fun f hf => (Tells.mem hf).up.up.up.up, .mem (.head _), S.drop⟩
  · intro acc L2 m2 s S
    refine r_listEndC S fun s S => ?_
    refine r_eqSame (n := 2) S (.mem (.tail _ (.tail _ (.tail _ (.head _))))) (.mem (.head _)) ?_ (by have := hR.2.2; (first | lia | omega)) (h _ _ _ _ S)
    rw [List.filterMap_eq_map', toldOf, List.map_map]
    refine ⟨by simp, fun i d e h1 h2 => ?_⟩
    rw [List.getElem?_map] at h1 h2
    cases hi : (List.range (most + 1))[i]? with
    | none => rw [hi] at h1; cases h1
    | some size =>
      rw [hi] at h1 h2
      cases h1; cases h2
      obtain ⟨k, hk⟩ := hpl size (by have := List.mem_range.mp (List.mem_of_getElem? hi); (first | lia | omega))
      show SameN 1 (.lst ((walk nb p un (9 - 2 * p) size st0 []).map .int)) (.lst ((List.replicate (walk nb p un (9 - 2 * p) size st0 []).length ((at' W size).fmod (p : Int))).map .int))
      rw [hk, List.length_replicate]
      refine ⟨by simp, fun j d e h1 h2 => ?_⟩
      rw [h1] at h2
      cases h2
      rw [List.getElem?_map] at h1
      cases hj : (List.replicate (k + 1) ((at' W size).fmod (p : Int)))[j]? with
      | none => rw [hj] at h1; cases h1
      | some z => rw [hj] at h1; cases h1; exact rfl
end
end Mine
end
section
open PySem PySem.W PyProof.Rows PySem.SeqAt
set_option maxRecDepth 100000
set_option linter.unusedVariables false
namespace Mine
/-- all that the plain law has to show -/
def PlainAll : Prop := ∀ (nb p : Nat) (a0 a1 a2 : Int), (p = 2 ∨ p = 3) → (8 ≤ nb ∧ nb ≤ 16) →
  Plain nb p (30 / p) (rulesN [a0, a1, a2]) ∧ Small (treesOf (30 / p) (rulesN [a0, a1, a2]) (30 / p)).w1 ∧ Small (treesOf (30 / p) (rulesN [a0, a1, a2]) (30 / p)).w2
section
variable {prog : Program} {w : World} {A : Around} {E : Value → Shared → Prop} {C : Cx} {L : Addr} {m : Str → Option Value} {X : List (Addr × OP)} {Fs : List Fact} {s : Shared} {env : Env} {mg : Str → Option Value}
theorem law_body {fa ca va c1 c2 c3 c4 c5 c6 : Addr} {ns : List Int} {Q : Flow → Shared → Prop} (hP : PlainAll) (G : LL C.hW C.T C.TQ mg) (S : St C L m (lawCells c1 c2 c3 c4 c5 c6 none none none none none va) Fs s) (hR : Room A 199) (hv : Kn Fs (.ref va) (.lst (ns.map .int))) (hsz : ns.length ≤ 2 ^ 20)
    (h : ∀ m' X' Fs' s', St C L m' X' Fs' s' → Q (.ret (.bool true)) s') :
    wpAny (model prog w) A (execs d_law.b (lawEnv L fa ca c1 c2 c3 c4 c5 c6)) Q E s := by
  refine law_head G.lg S hR hv hsz fun p nb most hd le a0 a1 a2 a3 th tl tm tpr tbi acc m1 F1 s1 hp hnb hmost hhd hle m_ce m_he m_le m_mo k_ce S => ?_
  refine law_checks (lc := fa) G.lg S (hR.mono (by decide)) m_he m_le hhd hle fun m2 F2 s2 hm hF S => ?_
  refine law_row G.lg S hR ((hm _ (by decide)).trans m_ce) ((hm _ (by decide)).trans m_he) ((hm _ (by decide)).trans m_le) ((hm _ (by decide)).trans m_mo) (a0 := a0) (a1 := a1) (a2 := a2) (a3 := a3) (k_ce.sub hF) fun lr m3 F3 s3 m_ro m_mo k_ro S => ?_
  refine law_both G S hR m_ro m_mo k_ro hhd hle (by simp) fun lu vd m4 F4 s4 m_ru m_mo k_ru k_bo S => ?_
  refine law_nums G S hR hp hnb (by simp [rulesN]) m_ru m_mo k_ru k_bo fun tu ta m5 F5 s5 m_un m_ab m_ru m_mo k_ru S => ?_
  subst hmost
  obtain ⟨h1, h2⟩ := hP nb p a0 a1 a2 hp hnb
  exact law_end G S hR hp hnb (by rcases hp with rfl | rfl <;> decide) (by simp [rulesN]) rulesN_le h2 h1 m_un m_ab m_ru m_mo k_ru h
end
end Mine
end
section
open PySem PySem.W PyProof.Rows PySem.SeqAt
set_option maxRecDepth 100000
set_option linter.unusedVariables false
namespace Mine
/-! polynomials as rows of figures -/
noncomputable def nsum (n : Nat) : List Nat → Nat
  | [] => 0
  | d :: r => d + 2 ^ n * nsum n r
theorem dsum_cast (n : Nat) (l : List Nat) : dsum n (l.map fun (d : Nat) => (d : Int)) = (nsum n l : Int) := by
  induction l with
  | nil => rfl
  | cons d r ih =>
    rw [List.map_cons, dsum, ih, nsum, Int.natCast_add, Int.natCast_mul, Int.natCast_pow]; rfl
theorem toNat_cast {l : List Int} (h : ∀ d ∈ l, 0 ≤ d) : (l.map Int.toNat).map (fun (d : Nat) => (d : Int)) = l := by
  rw [List.map_map]
  conv => rhs; rw [← List.map_id l]
  apply List.map_congr_left
  intro d hd
  have := h d hd
  simp; (first | lia | omega)
noncomputable def cf (P : List Nat) (k : Nat) : Nat := P[k]?.getD 0
theorem cf_nil (k : Nat) : cf [] k = 0 := by simp [cf]
theorem cf_zero (a : Nat) (P : List Nat) : cf (a :: P) 0 = a := by simp [cf]
theorem cf_succ (a : Nat) (P : List Nat) (k : Nat) : cf (a :: P) (k + 1) = cf P k := by simp [cf]
theorem cf_lt {P : List Nat} {b : Nat} (hb : 0 < b) (h : ∀ d ∈ P, d < b) (k : Nat) : cf P k < b := by
  unfold cf
  cases e : P[k]? with
  | none => exact hb
  | some d => exact h d (List.mem_of_getElem? e)
noncomputable def addP : List Nat → List Nat → List Nat
  | [], b => b
  | a, [] => a
  | x :: a, y :: b => (x + y) :: addP a b
theorem addP_nil (a : List Nat) : addP a [] = a := by cases a <;> rfl
theorem nsum_addP (n : Nat) : ∀ a b, nsum n (addP a b) = nsum n a + nsum n b
  | [], b => by simp [addP, nsum]
  | x :: a, [] => by simp [addP, nsum]
  | x :: a, y :: b => by
    rw [addP, nsum, nsum_addP n a b, nsum, nsum, Nat.mul_add]; (first | lia | omega)
theorem cf_addP : ∀ (a b : List Nat) (k : Nat), cf (addP a b) k = cf a k + cf b k
  | [], b, k => by rw [addP, cf_nil, Nat.zero_add]
  | x :: a, [], k => by rw [addP_nil, cf_nil, Nat.add_zero]
  | x :: a, y :: b, 0 => by rw [addP, cf_zero, cf_zero, cf_zero]
  | x :: a, y :: b, k + 1 => by rw [addP, cf_succ, cf_succ, cf_succ, cf_addP]
theorem nsum_scale (n c : Nat) : ∀ a : List Nat, nsum n (a.map (c * ·)) = c * nsum n a
  | [] => rfl
  | x :: a => by
    rw [List.map_cons, nsum, nsum, nsum_scale n c a, Nat.mul_add]
    congr 1
    rw [← Nat.mul_assoc, ← Nat.mul_assoc, Nat.mul_comm c]
theorem cf_scale (c : Nat) (a : List Nat) (k : Nat) : cf (a.map (c * ·)) k = c * cf a k := by
  unfold cf
  rw [List.getElem?_map]
  cases a[k]? <;> rfl
noncomputable def mulP (A : List Nat) : List Nat → List Nat
  | [] => []
  | b :: B => addP (A.map (b * ·)) (0 :: mulP A B)
theorem nsum_mulP (n : Nat) (A : List Nat) : ∀ B, nsum n (mulP A B) = nsum n A * nsum n B
  | [] => rfl
  | b :: B => by
    rw [mulP, nsum_addP, nsum_scale, nsum, nsum_mulP n A B, nsum, Nat.mul_add, Nat.mul_comm b, Nat.zero_add, ← Nat.mul_assoc, ← Nat.mul_assoc, Nat.mul_comm (2 ^ n)]
theorem cf_mulP {A : List Nat} {a : Nat} (h : ∀ k, cf A k ≤ a) : ∀ (B : List Nat) (k : Nat), cf (mulP A B) k ≤ a * B.sum
  | [], k => by rw [mulP, cf_nil]; exact Nat.zero_le _
  | b :: B, k => by
    rw [mulP, cf_addP, cf_scale, List.sum_cons, Nat.mul_add, Nat.mul_comm a b]
    refine Nat.add_le_add (Nat.mul_le_mul_left _ (h k)) ?_
    cases k with
    | zero => rw [cf_zero]; exact Nat.zero_le _
    | succ k => rw [cf_succ]; exact cf_mulP h B k
theorem dg_nsum {n : Nat} : ∀ (P : List Nat) (k : Nat), (∀ j, cf P j < 2 ^ n) → dg n (nsum n P) k = cf P k
  | [], k, h => by rw [cf_nil, nsum, dg, Nat.zero_div, Nat.zero_mod]
  | d :: P, 0, h => by
    have := h 0
    rw [cf_zero] at this ⊢
    rw [dg, nsum, Nat.mul_zero, Nat.pow_zero, Nat.div_one, Nat.add_mul_mod_self_left, Nat.mod_eq_of_lt this]
  | d :: P, k + 1, h => by
    have h0 := h 0
    rw [cf_zero] at h0
    rw [cf_succ, ← dg_nsum P k fun j => by have := h (j + 1); rwa [cf_succ] at this]
    rw [dg, dg, nsum, Nat.mul_add, Nat.mul_one, Nat.add_comm (n * k), Nat.pow_add, ← Nat.div_div_eq_div_mul, Nat.add_mul_div_left _ _ (Nat.two_pow_pos n), Nat.div_eq_of_lt h0, Nat.zero_add]
/-! the same walk, whatever the size of the figures -/
theorem ledTab_congr {nb nb' p fig x x' n : Nat} (h : ∀ k, dg nb x k = dg nb' x' k) : ledTab nb p fig x n = ledTab nb' p fig x' n := by
  simp only [ledTab, ledRow, h]
theorem numTab_nn {tab : List (Int × Int)} {p : Nat} (hp : 0 < p) : ∀ d ∈ numTab tab (p : Int), 0 ≤ d ∧ d < p := by
  intro d hd
  obtain ⟨i, _, rfl⟩ := List.mem_map.mp hd
  exact ⟨Int.fmod_nonneg_of_pos _ (by (first | lia | omega)), Int.fmod_lt_of_pos _ (by (first | lia | omega))⟩
/-- the figures of a table -/
noncomputable def figs (tab : List (Int × Int)) (p : Nat) : List Nat := (numTab tab (p : Int)).map Int.toNat
theorem figs_lt {tab : List (Int × Int)} {p : Nat} (hp : 0 < p) : ∀ d ∈ figs tab p, d < p := by
  intro d hd
  obtain ⟨e, he, rfl⟩ := List.mem_map.mp hd
  have := numTab_nn hp e he
  (first | lia | omega)
theorem dsum_figs {nb p : Nat} {tab : List (Int × Int)} (hp : 0 < p) : dsum nb (numTab tab (p : Int)) = (nsum nb (figs tab p) : Int) := by
  rw [← dsum_cast, figs, toNat_cast fun d hd => (numTab_nn hp d hd).1]
theorem led_figs {nb p un st fig : Nat} (hp : 0 < p) : led nb p un st fig = nsum nb (figs (ledTab nb p fig (st * un ^ (p - 1)) 2) p) := by
  rw [led, ledN, dsum_figs hp, Int.toNat_natCast]
def Alike (nb p s s8 : Nat) : Prop := ∃ S : List Nat, (∀ d ∈ S, d < p) ∧ s = nsum nb S ∧ s8 = nsum 8 S
theorem pow8 {nb : Nat} (h : 8 ≤ nb) : 256 ≤ 2 ^ nb := Nat.le_trans (by decide) (Nat.pow_le_pow_right (show 0 < 2 by decide) h)
theorem led_alike {nb p st st8 fig : Nat} {U : List Nat} (hp : p = 2 ∨ p = 3) (hnb : 8 ≤ nb) (hU : U.sum ≤ 11) (h : Alike nb p st st8) :
    Alike nb p (led nb p (nsum nb U) st fig) (led 8 p (nsum 8 U) st8 fig) ∧ led nb p (nsum nb U) st fig % 2 ^ nb = led 8 p (nsum 8 U) st8 fig % 2 ^ 8 := by
  obtain ⟨S, hS, rfl, rfl⟩ := h
  have hb := pow8 hnb
  obtain ⟨P, hP, e1, e2⟩ : ∃ P : List Nat, (∀ k, cf P k < 256) ∧ nsum nb S * nsum nb U ^ (p - 1) = nsum nb P ∧ nsum 8 S * nsum 8 U ^ (p - 1) = nsum 8 P := by
    rcases hp with rfl | rfl
    · refine ⟨mulP S U, fun k => ?_, ?_, ?_⟩
      · have := cf_mulP (A := S) (a := 1) (fun k => Nat.lt_succ_iff.mp (cf_lt (by decide) hS k)) U k
        (first | lia | omega)
      · rw [nsum_mulP]; simp
      · rw [nsum_mulP]; simp
    · refine ⟨mulP (mulP S U) U, fun k => ?_, ?_, ?_⟩
      · have h1 := cf_mulP (A := S) (a := 2) (fun k => Nat.lt_succ_iff.mp (cf_lt (by decide) hS k)) U
        have h2 := cf_mulP h1 U k
        have h3 : 2 * U.sum * U.sum ≤ 2 * 11 * 11 := Nat.mul_le_mul (Nat.mul_le_mul_left _ hU) hU
        (first | lia | omega)
      · rw [nsum_mulP, nsum_mulP, Nat.pow_two, Nat.mul_assoc]
      · rw [nsum_mulP, nsum_mulP, Nat.pow_two, Nat.mul_assoc]
  have hp0 : 0 < p := by (first | lia | omega)
  have et : ledTab nb p fig (nsum nb P) 2 = ledTab 8 p fig (nsum 8 P) 2 := ledTab_congr fun k => by
    rw [dg_nsum P k fun j => Nat.lt_of_lt_of_le (hP j) hb, dg_nsum P k hP]
  rw [led_figs hp0, led_figs hp0, e1, e2, et]
  have hT := figs_lt (tab := ledTab 8 p fig (nsum 8 P) 2) hp0
  generalize figs (ledTab 8 p fig (nsum 8 P) 2) p = T at *
  refine ⟨⟨T, hT, rfl, rfl⟩, ?_⟩
  have g1 := dg_nsum (n := nb) T 0 fun j => by have := cf_lt hp0 hT j; (first | lia | omega)
  have g2 := dg_nsum (n := 8) T 0 fun j => by have := cf_lt hp0 hT j; (first | lia | omega)
  rw [← g2, dg, dg, Nat.mul_zero, Nat.mul_zero, Nat.pow_zero, Nat.div_one, Nat.div_one] at g1
  exact g1
theorem walk_alike {nb p : Nat} {U : List Nat} (hp : p = 2 ∨ p = 3) (hnb : 8 ≤ nb) (hU : U.sum ≤ 11) : ∀ (t n st st8 : Nat) (last : List Int), Alike nb p st st8 → walk nb p (nsum nb U) t n st last = walk 8 p (nsum 8 U) t n st8 last
  | 0, n, st, st8, last, h => rfl
  | t + 1, n, st, st8, last, h => by
    obtain ⟨h1, h2⟩ := led_alike (fig := n % p) hp hnb hU h
    rw [walk, walk, walk_alike hp hnb hU t _ _ _ _ h1, h2]
theorem plain_8 {nb p most : Nat} {rs : List (Nat × Nat)} (hp : p = 2 ∨ p = 3) (hnb : 8 ≤ nb) (hU : (figs (sideOf rs 0) p).sum ≤ 11) (h : Plain 8 p most rs) : Plain nb p most rs := by
  intro size hs
  obtain ⟨k, hk⟩ := h size hs
  have hp0 : 0 < p := by (first | lia | omega)
  refine ⟨k, ?_⟩
  rw [numO, numO, dsum_figs hp0, dsum_figs hp0, Int.toNat_natCast, Int.toNat_natCast] at hk ⊢
  rw [← hk]
  exact walk_alike hp hnb hU _ _ _ _ _ ⟨figs (sideOf rs 1) p, figs_lt hp0, rfl, rfl⟩
end Mine
end
section
open PySem PySem.W PyProof.Rows PySem.SeqAt
set_option maxRecDepth 100000
set_option linter.unusedVariables false
namespace Mine
theorem fmod_cast (a p : Nat) : ((a : Nat) : Int).fmod ((p : Nat) : Int) = ((a % p : Nat) : Int) := by
  rw [Int.fmod_eq_emod_of_nonneg _ (Int.natCast_nonneg _), Int.natCast_emod]
/-- the figures that a figure leads to, by way of the digits of the product -/
noncomputable def fl (p fig : Nat) (f : Nat → Nat) : List Nat :=
  if p = 2 then (if fig = 0 then [f 0 % 2, f 2 % 2, f 4 % 2, f 6 % 2, 0, 0, 0, 0, f 16 % 2, f 18 % 2, f 20 % 2, f 22 % 2] else [f 9 % 2, f 11 % 2, f 13 % 2, f 15 % 2, 0, 0, 0, 0, f 25 % 2, f 27 % 2, f 29 % 2, f 31 % 2])
  else if fig = 0 then [f 0 % 3, f 3 % 3, f 6 % 3, 0, 0, 0, 0, 0, f 24 % 3, f 27 % 3, f 30 % 3, 0]
  else if fig = 1 then [f 9 % 3, f 12 % 3, f 15 % 3, 0, 0, 0, 0, 0, f 33 % 3, f 36 % 3, f 39 % 3, 0]
  else [f 18 % 3, f 21 % 3, 0, 0, 0, 0, 0, 0, f 42 % 3, f 45 % 3, 0, 0]
theorem figs_fl {nb p fig x : Nat} (hp : p = 2 ∨ p = 3) (hf : fig < p) : figs (ledTab nb p fig x 2) p = fl p fig (dg nb x) := by
  have key : ∀ f : Nat → Nat, (p = 2 ∧ (fig = 0 ∨ fig = 1)) ∨ (p = 3 ∧ (fig = 0 ∨ fig = 1 ∨ fig = 2)) := fun _ => by (first | lia | omega)
  unfold figs ledTab
  simp only [ledRow]
  generalize dg nb x = f
  rcases key f with ⟨rfl, rfl | rfl⟩ | ⟨rfl, rfl | rfl | rfl⟩
  · refine Eq.trans (b := List.map Int.toNat [((f 0 : Nat) : Int).fmod ((2 : Nat) : Int), ((f 2 : Nat) : Int).fmod ((2 : Nat) : Int), ((f 4 : Nat) : Int).fmod ((2 : Nat) : Int), ((f 6 : Nat) : Int).fmod ((2 : Nat) : Int), ((0 : Nat) : Int).fmod ((2 : Nat) : Int), ((0 : Nat) : Int).fmod ((2 : Nat) : Int), ((0 : Nat) : Int).fmod ((2 : Nat) : Int), ((0 : Nat) : Int).fmod ((2 : Nat) : Int), ((f 16 : Nat) : Int).fmod ((2 : Nat) : Int), ((f 18 : Nat) : Int).fmod ((2 : Nat) : Int), ((f 20 : Nat) : Int).fmod ((2 : Nat) : Int), ((f 22 : Nat) : Int).fmod ((2 : Nat) : Int)]) (by kernel_rfl) ?_
    simp only [List.map_cons, List.map_nil, fmod_cast, Int.toNat_natCast]
    rfl
  · refine Eq.trans (b := List.map Int.toNat [((f 9 : Nat) : Int).fmod ((2 : Nat) : Int), ((f 11 : Nat) : Int).fmod ((2 : Nat) : Int), ((f 13 : Nat) : Int).fmod ((2 : Nat) : Int), ((f 15 : Nat) : Int).fmod ((2 : Nat) : Int), ((0 : Nat) : Int).fmod ((2 : Nat) : Int), ((0 : Nat) : Int).fmod ((2 : Nat) : Int), ((0 : Nat) : Int).fmod ((2 : Nat) : Int), ((0 : Nat) : Int).fmod ((2 : Nat) : Int), ((f 25 : Nat) : Int).fmod ((2 : Nat) : Int), ((f 27 : Nat) : Int).fmod ((2 : Nat) : Int), ((f 29 : Nat) : Int).fmod ((2 : Nat) : Int), ((f 31 : Nat) : Int).fmod ((2 : Nat) : Int)]) (by kernel_rfl) ?_
    simp only [List.map_cons, List.map_nil, fmod_cast, Int.toNat_natCast]
    rfl
  · refine Eq.trans (b := List.map Int.toNat [((f 0 : Nat) : Int).fmod ((3 : Nat) : Int), ((f 3 : Nat) : Int).fmod ((3 : Nat) : Int), ((f 6 : Nat) : Int).fmod ((3 : Nat) : Int), ((0 : Nat) : Int).fmod ((3 : Nat) : Int), ((0 : Nat) : Int).fmod ((3 : Nat) : Int), ((0 : Nat) : Int).fmod ((3 : Nat) : Int), ((0 : Nat) : Int).fmod ((3 : Nat) : Int), ((0 : Nat) : Int).fmod ((3 : Nat) : Int), ((f 24 : Nat) : Int).fmod ((3 : Nat) : Int), ((f 27 : Nat) : Int).fmod ((3 : Nat) : Int), ((f 30 : Nat) : Int).fmod ((3 : Nat) : Int), ((0 : Nat) : Int).fmod ((3 : Nat) : Int)]) (by kernel_rfl) ?_
    simp only [List.map_cons, List.map_nil, fmod_cast, Int.toNat_natCast]
    rfl
  · refine Eq.trans (b := List.map Int.toNat [((f 9 : Nat) : Int).fmod ((3 : Nat) : Int), ((f 12 : Nat) : Int).fmod ((3 : Nat) : Int), ((f 15 : Nat) : Int).fmod ((3 : Nat) : Int), ((0 : Nat) : Int).fmod ((3 : Nat) : Int), ((0 : Nat) : Int).fmod ((3 : Nat) : Int), ((0 : Nat) : Int).fmod ((3 : Nat) : Int), ((0 : Nat) : Int).fmod ((3 : Nat) : Int), ((0 : Nat) : Int).fmod ((3 : Nat) : Int), ((f 33 : Nat) : Int).fmod ((3 : Nat) : Int), ((f 36 : Nat) : Int).fmod ((3 : Nat) : Int), ((f 39 : Nat) : Int).fmod ((3 : Nat) : Int), ((0 : Nat) : Int).fmod ((3 : Nat) : Int)]) (by kernel_rfl) ?_
    simp only [List.map_cons, List.map_nil, fmod_cast, Int.toNat_natCast]
    rfl
  · refine Eq.trans (b := List.map Int.toNat [((f 18 : Nat) : Int).fmod ((3 : Nat) : Int), ((f 21 : Nat) : Int).fmod ((3 : Nat) : Int), ((0 : Nat) : Int).fmod ((3 : Nat) : Int), ((0 : Nat) : Int).fmod ((3 : Nat) : Int), ((0 : Nat) : Int).fmod ((3 : Nat) : Int), ((0 : Nat) : Int).fmod ((3 : Nat) : Int), ((0 : Nat) : Int).fmod ((3 : Nat) : Int), ((0 : Nat) : Int).fmod ((3 : Nat) : Int), ((f 42 : Nat) : Int).fmod ((3 : Nat) : Int), ((f 45 : Nat) : Int).fmod ((3 : Nat) : Int), ((0 : Nat) : Int).fmod ((3 : Nat) : Int), ((0 : Nat) : Int).fmod ((3 : Nat) : Int)]) (by kernel_rfl) ?_
    simp only [List.map_cons, List.map_nil, fmod_cast, Int.toNat_natCast]
    rfl
end Mine
end
section
open PySem PySem.W PyProof.Rows PySem.SeqAt
set_option maxRecDepth 100000
set_option linter.unusedVariables false
namespace Mine
noncomputable def fled (p un st fig : Nat) : Nat := nsum 8 (fl p fig (dg 8 (st * un ^ (p - 1))))
theorem led_fled {p un st fig : Nat} (hp : p = 2 ∨ p = 3) (hf : fig < p) : led 8 p un st fig = fled p un st fig := by
  rw [led_figs (by (first | lia | omega)), figs_fl hp hf, fled]
/-- the walk, asked whether all that it tells is one number -/
noncomputable def wchk (p un : Nat) : Nat → Nat → Nat → Int → Bool → Bool
  | 0, _, _, _, seen => seen
  | t + 1, n, st, v, seen => if n / p = 0 then decide (((fled p un st (n % p) % 256 : Nat) : Int) = v) && wchk p un t (n / p) (fled p un st (n % p)) v true else wchk p un t (n / p) (fled p un st (n % p)) v seen
theorem wchk_ok {p un : Nat} (hp : p = 2 ∨ p = 3) (v : Int) : ∀ (t n st : Nat) (seen : Bool) (k : Nat), wchk p un t n st v seen = true → (seen = true → 0 < k) → ∃ j, walk 8 p un t n st (List.replicate k v) = List.replicate (j + 1) v
  | 0, n, st, seen, k, h, hk => by
    have := hk h
    exact ⟨k - 1, by rw [walk, Nat.sub_add_cancel this]⟩
  | t + 1, n, st, seen, k, h, hk => by
    have hm : n % p < p := Nat.mod_lt _ (by (first | lia | omega))
    rw [wchk] at h
    rw [walk, led_fled hp hm]
    by_cases h0 : n / p = 0
    · rw [if_pos h0] at h
      rw [if_pos h0]
      rw [Bool.and_eq_true, decide_eq_true_eq] at h
      rw [show (2 ^ 8 : Nat) = 256 from rfl, h.1, ← List.replicate_succ']
      exact wchk_ok hp v t _ _ true (k + 1) h.2 fun _ => Nat.succ_pos _
    · rw [if_neg h0] at h
      rw [if_neg h0]
      exact wchk_ok hp v t _ _ seen k h hk
/-! the trees, counted downwards -/
noncomputable def dot : List Int → List Int → Int
  | a :: as, b :: bs => a * b + dot as bs
  | _, _ => 0
theorem dot_sum : ∀ (as bs : List Int), as.length ≤ bs.length → dot as bs = ((List.range as.length).map fun i => at' as i * at' bs i).sum
  | [], bs, h => by simp [dot]
  | a :: as, [], h => by simp at h
  | a :: as, b :: bs, h => by
    rw [dot, dot_sum as bs (by simpa using h), List.length_cons, List.range_succ_eq_map, List.map_cons, List.sum_cons, List.map_map]
    simp [at', Function.comp_def]
theorem at_rev {l : List Int} {i : Nat} (h : i < l.length) : at' l.reverse i = at' l (l.length - 1 - i) := by
  rw [at', at', List.getElem?_reverse h]
theorem conv_dot {a b : List Int} {n : Nat} (ha : a.length = n) (hb : n ≤ b.length) : conv a b n = dot a.tail (b.take n).reverse := by
  rw [dot_sum _ _ (by simp; (first | lia | omega)), conv, List.length_tail, ha]
  congr 1
  apply List.map_congr_left
  intro i hi
  have hi := List.mem_range.mp hi
  have e1 : at' a.tail i = at' a (1 + i) := by rw [at', at', List.getElem?_tail, Nat.add_comm]
  have hl : (b.take n).length = n := by simp; (first | lia | omega)
  have e2 : at' (b.take n).reverse i = at' b (n - (1 + i)) := by
    rw [at_rev (by (first | lia | omega)), hl, at', at', List.getElem?_take, if_pos (by (first | lia | omega))]
    congr 2
    (first | lia | omega)
  rw [e1, e2]
noncomputable def fm (d1 d2 d3 : List Int) (n : Nat) (r : Nat × Nat) : Int := if r.2 = 0 then (if n = r.1 then 1 else 0) else if r.2 = 1 then at' d1 0 else if r.2 = 2 then at' d2 r.1 else at' d3 r.1
noncomputable def fstep (rs : List (Nat × Nat)) (n : Nat) (d1 d2 d3 : List Int) (c e : Int) : List Int × List Int × List Int := ((rs.map (fm d1 (c :: d2) (e :: d3) n)).sum :: d1, c :: d2, e :: d3)
noncomputable def ftrees (rs : List (Nat × Nat)) : Nat → List Int × List Int × List Int
  | 0 => ([0], [0], [0])
  | k + 1 => fstep rs (k + 1) (ftrees rs k).1 (ftrees rs k).2.1 (ftrees rs k).2.2 (dot (ftrees rs k).1.reverse.tail (ftrees rs k).1) (dot (ftrees rs k).1.reverse.tail (ftrees rs k).2.1)
theorem ftrees_ok {most : Nat} {rs : List (Nat × Nat)} (hr : ∀ r ∈ rs, r.1 ≤ 1 ∧ r.2 ≤ 3 ∧ (r.2 = 1 → r.1 = 1)) : ∀ k, k ≤ most → ftrees rs k = ((treesOf most rs k).w1.reverse, (treesOf most rs k).w2.reverse, (treesOf most rs k).w3.reverse)
  | 0, _ => rfl
  | k + 1, hk => by
    have ih := ftrees_ok (most := most) hr k (by (first | lia | omega))
    obtain ⟨l1, l2, l3⟩ := treesOf_len most rs k
    rw [ftrees, ih, treesOf_succ]
    generalize treesOf most rs k = w at *
    obtain ⟨w1, w2, w3⟩ := w
    simp only at l1 l2 l3 ⊢
    have c1 : conv w1 w1 (k + 1) = dot w1.reverse.reverse.tail w1.reverse := by
      rw [conv_dot l1 (by (first | lia | omega)), List.reverse_reverse, List.take_of_length_le (by (first | lia | omega))]
    have c2 : conv w1 (w2 ++ [conv w1 w1 (k + 1)]) (k + 1) = dot w1.reverse.reverse.tail w2.reverse := by
      rw [conv_dot l1 (by simp; (first | lia | omega)), List.reverse_reverse, List.take_append_of_le_length (by (first | lia | omega)), List.take_of_length_le (by (first | lia | omega))]
    simp only [treeStep, fstep, List.reverse_append, List.reverse_cons, List.reverse_nil, List.nil_append, List.cons_append]
    rw [c2, ← c1]
    generalize dot w1.reverse.reverse.tail w2.reverse = e
    generalize conv w1 w1 (k + 1) = c
    have key : rs.map (fm w1.reverse (c :: w2.reverse) (e :: w3.reverse) (k + 1)) = rs.map (manyOf (zeroth most) w1 (w2 ++ [c]) (w3 ++ [e]) (k + 1)) := by
      apply List.map_congr_left
      intro r hrm
      obtain ⟨h1, h2, h3⟩ := hr r hrm
      have e2 : c :: w2.reverse = (w2 ++ [c]).reverse := by simp
      have e3 : e :: w3.reverse = (w3 ++ [e]).reverse := by simp
      have g2 : (w2 ++ [c]).length = k + 2 := by simp [l2]
      have g3 : (w3 ++ [e]).length = k + 2 := by simp [l3]
      rw [fm, manyOf, e2, e3]
      by_cases q0 : r.2 = 0
      · rw [if_pos q0, if_pos q0]
        by_cases q : k + 1 = r.1
        · rw [if_pos q, q, Nat.sub_self]; rfl
        · rw [if_neg q]
          have hz : ∀ j, at' (zeroth most) (j + 1) = 0 := fun j => by
            rw [at', zeroth, List.getElem?_cons_succ, List.getElem?_replicate]
            split <;> rfl
          obtain ⟨j, hj⟩ : ∃ j, k + 1 - r.1 = j + 1 := ⟨k - r.1, by (first | lia | omega)⟩
          rw [hj, hz]
      · rw [if_neg q0, if_neg q0]
        by_cases q1 : r.2 = 1
        · rw [if_pos q1, if_pos q1, h3 q1, at_rev (by (first | lia | omega)), l1]; rfl
        · rw [if_neg q1, if_neg q1]
          by_cases q2 : r.2 = 2
          · rw [if_pos q2, if_pos q2, at_rev (by (first | lia | omega)), g2]; rfl
          · rw [if_neg q2, if_neg q2, at_rev (by (first | lia | omega)), g3]; rfl
    rw [key]
/-- one class, checked -/
noncomputable def chk (p most : Nat) (rs : List (Nat × Nat)) (un st : Nat) (t : List Int × List Int × List Int) : Bool :=
  decide ((figs (sideOf rs 0) p).sum ≤ 11) && (t.1.all fun x => decide (x.natAbs < 2 ^ 63)) && (t.2.1.all fun x => decide (x.natAbs < 2 ^ 63)) &&
  (List.range (most + 1)).all fun size => wchk p un (9 - 2 * p) size st ((at' t.1 (most - size)).fmod (p : Int)) false
noncomputable def chkA (p most : Nat) (rs : List (Nat × Nat)) : Bool := chk p most rs (nsum 8 (figs (sideOf rs 0) p)) (nsum 8 (figs (sideOf rs 1) p)) (ftrees rs most)
theorem chk_ok {p most : Nat} {rs : List (Nat × Nat)} (hp : p = 2 ∨ p = 3) (hr : ∀ r ∈ rs, r.1 ≤ 1 ∧ r.2 ≤ 3 ∧ (r.2 = 1 → r.1 = 1)) (h : chkA p most rs = true) :
    (figs (sideOf rs 0) p).sum ≤ 11 ∧ Plain 8 p most rs ∧ Small (treesOf most rs most).w1 ∧ Small (treesOf most rs most).w2 := by
  rw [chkA, ftrees_ok hr most (Nat.le_refl _), chk] at h
  simp only [Bool.and_eq_true, decide_eq_true_eq, List.all_eq_true, List.mem_reverse, List.mem_range] at h
  obtain ⟨⟨⟨h1, h2⟩, h3⟩, h4⟩ := h
  have hp0 : 0 < p := by (first | lia | omega)
  refine ⟨h1, fun size hs => ?_, h2, h3⟩
  have := h4 size (by (first | lia | omega))
  have hl := (treesOf_len most rs most).1
  rw [at_rev (by (first | lia | omega)), hl, show most + 1 - 1 - (most - size) = size by (first | lia | omega)] at this
  rw [numO, numO, dsum_figs hp0, dsum_figs hp0, Int.toNat_natCast, Int.toNat_natCast]
  exact wchk_ok hp _ _ _ _ _ 0 this (by simp)
end Mine
end
section
open PySem PySem.W PyProof.Rows PySem.SeqAt
set_option maxRecDepth 100000
set_option linter.unusedVariables false
namespace Mine
noncomputable def chkRow (p most a : Nat) : Bool := (List.range 5).all fun b => (List.range 5).all fun c => chkA p most [(1, 0), ruleT a, ruleT b, ruleT c]
theorem chkTwo0 : chkRow 2 15 0 = true := by decide +kernel
theorem chkTwo1 : chkRow 2 15 1 = true := by decide +kernel
theorem chkTwo2 : chkRow 2 15 2 = true := by decide +kernel
theorem chkTwo3 : chkRow 2 15 3 = true := by decide +kernel
theorem chkTwo4 : chkRow 2 15 4 = true := by decide +kernel
theorem chkThree0 : chkRow 3 10 0 = true := by decide +kernel
theorem chkThree1 : chkRow 3 10 1 = true := by decide +kernel
theorem chkThree2 : chkRow 3 10 2 = true := by decide +kernel
theorem chkThree3 : chkRow 3 10 3 = true := by decide +kernel
theorem chkThree4 : chkRow 3 10 4 = true := by decide +kernel
theorem chkRow_all {p most : Nat} (h : ∀ a, a < 5 → chkRow p most a = true) {a b c : Nat} (ha : a < 5) (hb : b < 5) (hc : c < 5) : chkA p most [(1, 0), ruleT a, ruleT b, ruleT c] = true := by
  have h1 := h a ha
  rw [chkRow, List.all_eq_true] at h1
  have h2 := h1 b (List.mem_range.mpr hb)
  rw [List.all_eq_true] at h2
  exact h2 c (List.mem_range.mpr hc)
theorem chk_all {p : Nat} (hp : p = 2 ∨ p = 3) {a b c : Nat} (ha : a < 5) (hb : b < 5) (hc : c < 5) : chkA p (30 / p) [(1, 0), ruleT a, ruleT b, ruleT c] = true := by
  rcases hp with rfl | rfl
  · refine chkRow_all (fun a h => ?_) ha hb hc
    match a, h with
    | 0, _ => exact chkTwo0
    | 1, _ => exact chkTwo1
    | 2, _ => exact chkTwo2
    | 3, _ => exact chkTwo3
    | 4, _ => exact chkTwo4
  · refine chkRow_all (fun a h => ?_) ha hb hc
    match a, h with
    | 0, _ => exact chkThree0
    | 1, _ => exact chkThree1
    | 2, _ => exact chkThree2
    | 3, _ => exact chkThree3
    | 4, _ => exact chkThree4
theorem plainAll : PlainAll := by
  intro nb p a0 a1 a2 hp hnb
  have h5 : ∀ a : Int, (a.fmod 5).toNat < 5 := fun a => by
    have h1 := Int.fmod_nonneg_of_pos a (show (0 : Int) < 5 by decide)
    have h2 := Int.fmod_lt_of_pos a (show (0 : Int) < 5 by decide)
    (first | lia | omega)
  obtain ⟨h1, h2, h3⟩ := chk_ok hp (rulesN_le (xs := [a0, a1, a2])) (chk_all hp (h5 a0) (h5 a1) (h5 a2))
  exact ⟨plain_8 hp hnb.1 h1 h2, h3⟩
end Mine
end
section
open PySem PySem.W PyProof.Rows
set_option maxRecDepth 100000
set_option linter.unusedVariables false
namespace Mine
structure LawOk (p : Program) : Prop where
  lrules : recOf p "_law_rules" = some (d_lrules.a, d_lrules.b, d_lrules.sc)
  ltrees : recOf p "_law_trees" = some (d_ltrees.a, d_ltrees.b, d_ltrees.sc)
  lnumber : recOf p "_law_number" = some (d_lnumber.a, d_lnumber.b, d_lnumber.sc)
  lled : recOf p "_law_led" = some (d_lled.a, d_lled.b, d_lled.sc)
  lread : recOf p "_law_read" = some (d_lread.a, d_lread.b, d_lread.sc)
  law : recOf p "law" = some (d_law.a, d_law.b, d_law.sc)
section
variable {prog : Program} {w : World} {A : Around} {E : Value → Shared → Prop} {s : Shared} {mg mb : Str → Option Value} {h : Heap} {p q : Program} {loose : List Str} {mean : ExcName → Option Value} {c1 P1 c2 P2 c3 P3 : Addr}
theorem law01_call {fa va : Addr} {ns : List Int} {P : Params} (T : Top p loose mean mg mb s.heap) (X : Seen s.heap c1 P1 c2 P2 c3 P3) (O : TopOk p loose) (O2 : LawOk p)
    (hm : mg "law" = some (.ref fa)) (hwl : Well P s.heap (.ref va) (ofPy (.list (ns.map .int)))) (hsys : (va == sysModules) = false) (hg : s.gens = #[]) (hlen : ns.length ≤ 63) :
    wpAny (model prog w) callerA (call (.ref fa) [.ref va]) (fun v s' => v = .bool true ∧ Fin s s') E s := by
  have hT := tabs_of T X O
  obtain ⟨f, c, hf⟩ := fnIs_of d_law hT T O2.law
  have e := hf.val
  rw [hm] at e
  cases e
  have G : LL (ghostOf s.heap [(c1, P1), (c2, P2), (c3, P3)]) [P1, P2, P3] (tqOf P1 P2) mg :=
    ⟨lg_of T X O, fnIs_of d_lrules hT T O2.lrules, fnIs_of d_ltrees hT T O2.ltrees, fnIs_of d_lnumber hT T O2.lnumber, fnIs_of d_lled hT T O2.lled, fnIs_of d_lread hT T O2.lread⟩
  refine law_call ["script"] T X O hf hwl hsys hg rfl fun C L' cs s₁ Fs e1 e2 e3 hcs hR hv S => ?_
  obtain ⟨k1, k2, k3, k4, k5, k6, rfl⟩ : ∃ c1 c2 c3 c4 c5 c6, cs = [((Str.ofString "told"), c1), ((Str.ofString "trees"), c2), ((Str.ofString "both"), c3), ((Str.ofString "bits"), c4), ((Str.ofString "prime"), c5), ((Str.ofString "script"), c6)] := ⟨_, _, _, _, _, _, hcs⟩
  have S : St C L' _ (lawCells k1 k2 k3 k4 k5 k6 none none none none none va) Fs s₁ := S
  exact law_body plainAll (by rw [e1, e2, e3]; exact G) S hR hv (by (first | lia | omega)) fun m' X' Fs' s' S => ⟨⟨_, _, _, _, S⟩, rfl⟩
end
end Mine
end
section
open PySem PySem.W PyProof.Rows
set_option maxRecDepth 100000
set_option linter.unusedVariables false
namespace Mine
noncomputable def view01 : Program := { pw with main := { pw.main with body := (pw.main.body.drop 1).take 7 ++ (pw.main.body.drop 9).take 3 ++ (pw.main.body.drop 13).take 5 ++ pw.main.body.drop 19 } }
noncomputable def hook01 : Hook where
  α := List (Option (Addr × Addr))
  obs := fun s => [tabAt s.heap "_int2digits", tabAt s.heap "_digits2int", tabAt s.heap "add_callers"]
  val := fun _ => [some (34, 30), some (41, 37), some (69, 65)]
  says := fun _ h => Seen h 34 30 41 37 69 65
  of := fun w s e => by
    simp only [List.cons.injEq] at e
    exact ⟨tabOf_at e.1, tabOf_at e.2.1, tabOf_at e.2.2.1, by decide, by decide, by decide⟩
  keeps := fun w h h' x k => ⟨x.t1.keeps k, x.t2.keeps k, x.t3.keeps k, x.n12, x.n13, x.n23⟩
end Mine
end
open PySem PySem.W PyProof.Rows
set_option maxRecDepth 100000 in
set_option maxHeartbeats 8000000 in
theorem PySem.Challenge.cw_xh0015_01_holds : PySem.Challenge.rw_xh0015_01.Holds := by
  w_on
  refine holds_law (by decide +kernel) fun said => ?_
  refine holds_open (q := Mine.view01) (loose := []) (Xt := fun s => xlAt Mine.view01 [] s && recOk (RowW.records (OpenRow.toRowW PySem.Challenge.rw_xh0015_01.row)) s) (XP := XL Mine.view01 []) (Yf := Mine.hook01.obs) (Ya := Mine.hook01.val) (YP := Mine.hook01.says) (N := 1424) ?hl Mine.hook01.of Mine.hook01.keeps (fun s e => xl_of s (Bool.and_eq_true_iff.mp e).1) XL.keeps (by rfl) (by rfl) (by rfl) (fun s e => recFacts_of (Bool.and_eq_true_iff.mp e).2) (by rfl) (by assumption) (by decide +kernel) ⟨rfl, rfl, rfl, rfl, rfl, by decide +kernel⟩ ?hw ?hc
  case hl => exact fun w => by kernel_rfl
  case hw => w_witness2
  intro w s₀ s₁ mg mb G Y fa o pm cd doc dV kV ho hd hcd hD hmg hg args vals as hpre hlay hrd hwl hlo
  refine Ground.open G ?_
  intro T B D TE TW
  clear G B D TE TW ho hd hcd hD
  have hlo' := hlo
  wrow_args hpre hlay hrd hwl hlo
  all_goals (
    rename_i ns hs hlay0 hL1 hr1 hl2 as1 as2 va vs as3 hL2 ra w1 r0 hI hr hlen hT0
    have hsys : (va == sysModules) = false := hlo' _ (List.mem_append_left _ (by cases r0; exact .head _))
    have hn : ns.length ≤ 63 := by omega
    refine wpAny_mono (Mine.law01_call T Y ?_ ?_ hmg w1 hsys hg hn) (fun v s' hv => ?_) fun _ _ e => e
    · exact ⟨by decide +kernel, by kernel_rfl, by kernel_rfl, by kernel_rfl, by kernel_rfl, by kernel_rfl, by kernel_rfl, by kernel_rfl, by kernel_rfl, by kernel_rfl, by kernel_rfl, by kernel_rfl, by kernel_rfl, by kernel_rfl, by kernel_rfl⟩
    · exact ⟨by kernel_rfl, by kernel_rfl, by kernel_rfl, by kernel_rfl, by kernel_rfl, by kernel_rfl⟩
    · obtain ⟨rfl, h1, h2, h3⟩ := hv
      refine ⟨.inl ⟨_, .bool true, [], rfl, fun cls => rfl, .bool _, ?_, fun _ => ⟨.nil, fun a ha => nomatch ha⟩⟩, h1, h2, h3⟩
      first | rfl | wrow_post)
