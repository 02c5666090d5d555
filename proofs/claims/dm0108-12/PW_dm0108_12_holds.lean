import PyProof.Rows.All
import Wide.All
import OpenK.AllK
import Wide.FinOn
import Lean
import PySem.Challenge.RW_dm0108_12
open PySem PySem.W PyProof.Rows
set_option Elab.async false
set_option maxRecDepth 100000
set_option linter.unusedVariables false
set_option linter.unusedSimpArgs false
namespace Mine

/-! ## pure values -/
inductive PV where
  | int (i : Int)
  | bool (b : Bool)
  | str (s : PySem.Str)
  | none
  | typ (T : String)
  | tup (l : List PV)
  | lst (l : List PV)


def ISeq (g : Addr → Option Obj) (a : Addr) (T : String) (vs : List Value) : Prop :=
  ∃ o, g a = some o ∧ o.cls = .type T ∧ ∃ n, o.data = .seq vs.toArray n

mutual
def Rep (g : Addr → Option Obj) : PV → Value → Prop
  | .int i, v => ∃ t, v = .int i t
  | .bool b, v => v = .bool b
  | .str s, v => ∃ t, v = .str s t
  | .none, v => v = .none
  | .typ T, v => v = .type T
  | .tup ps, v => ∃ a vs, v = .ref a ∧ ISeq g a "tuple" vs ∧ Reps g ps vs
  | .lst ps, v => ∃ a vs, v = .ref a ∧ ISeq g a "list" vs ∧ Reps g ps vs
def Reps (g : Addr → Option Obj) : List PV → List Value → Prop
  | [], vs => vs = []
  | p :: ps, vs => ∃ v ws, vs = v :: ws ∧ Rep g p v ∧ Reps g ps ws
end

mutual
def flat : PV → Bool
  | .tup ps => flats ps
  | .lst _ => false
  | _ => true
def flats : List PV → Bool
  | [] => true
  | p :: ps => flat p && flats ps
end

def SeqLe (g g' : Addr → Option Obj) : Prop := ∀ a o, g a = some o → (∃ xs n, o.data = .seq xs n) → g' a = some o

theorem ISeq.mono {g g' : Addr → Option Obj} {a T vs} (h : ISeq g a T vs) (hg : SeqLe g g') : ISeq g' a T vs :=
  let ⟨o, ho, hc, n, hd⟩ := h; ⟨o, hg a o ho ⟨_, _, hd⟩, hc, n, hd⟩

/-- a list that may be changed -/
def MList (g : Addr → Option Obj) (a : Addr) (vs : List Value) : Prop :=
  ∃ o, g a = some o ∧ o.cls = .type "list" ∧ o.dict = Option.none ∧ ∃ n, o.data = .seq vs.toArray n
theorem MList.iseq {g a vs} (h : MList g a vs) : ISeq g a "list" vs := let ⟨o, ho, hc, _, n, hd⟩ := h; ⟨o, ho, hc, n, hd⟩
theorem MList.mono {g g' : Addr → Option Obj} {a vs} (h : MList g a vs) (hg : SeqLe g g') : MList g' a vs :=
  let ⟨o, ho, hc, hdd, n, hd⟩ := h; ⟨o, hg a o ho ⟨_, _, hd⟩, hc, hdd, n, hd⟩

mutual
theorem Rep.mono {g g' : Addr → Option Obj} (hg : SeqLe g g') : ∀ (p : PV) {v : Value}, Rep g p v → Rep g' p v
  | .int _, _, h => h
  | .bool _, _, h => h
  | .str _, _, h => h
  | .none, _, h => h
  | .typ _, _, h => h
  | .tup ps, _, h => by
    simp only [Rep] at h ⊢
    obtain ⟨a, vs, e, hs, hr⟩ := h
    exact ⟨a, vs, e, hs.mono hg, Reps.mono hg ps hr⟩
  | .lst ps, _, h => by
    simp only [Rep] at h ⊢
    obtain ⟨a, vs, e, hs, hr⟩ := h
    exact ⟨a, vs, e, hs.mono hg, Reps.mono hg ps hr⟩
theorem Reps.mono {g g' : Addr → Option Obj} (hg : SeqLe g g') : ∀ (ps : List PV) {vs : List Value}, Reps g ps vs → Reps g' ps vs
  | [], _, h => h
  | p :: ps, _, h => by
    simp only [Reps] at h ⊢
    obtain ⟨v, ws, e, h1, h2⟩ := h
    exact ⟨v, ws, e, Rep.mono hg p h1, Reps.mono hg ps h2⟩
end

/-- for flat values only tuples matter -/
def TupLe (g g' : Addr → Option Obj) : Prop := ∀ a o, g a = some o → o.cls = .type "tuple" → (∃ xs n, o.data = .seq xs n) → g' a = some o
mutual
theorem Rep.monoF {g g' : Addr → Option Obj} (hg : TupLe g g') : ∀ (p : PV) {v : Value}, flat p = true → Rep g p v → Rep g' p v
  | .int _, _, _, h => h
  | .bool _, _, _, h => h
  | .str _, _, _, h => h
  | .none, _, _, h => h
  | .typ _, _, _, h => h
  | .tup ps, _, hf, h => by
    simp only [Rep] at h ⊢
    simp only [flat] at hf
    obtain ⟨a, vs, e, ⟨o, ho, hc, n, hd⟩, hr⟩ := h
    exact ⟨a, vs, e, ⟨o, hg a o ho hc ⟨_, _, hd⟩, hc, n, hd⟩, Reps.monoF hg ps hf hr⟩
  | .lst ps, _, hf, h => by simp [flat] at hf
theorem Reps.monoF {g g' : Addr → Option Obj} (hg : TupLe g g') : ∀ (ps : List PV) {vs : List Value}, flats ps = true → Reps g ps vs → Reps g' ps vs
  | [], _, _, h => h
  | p :: ps, _, hf, h => by
    simp only [Reps] at h ⊢
    simp only [flats, Bool.and_eq_true] at hf
    obtain ⟨v, ws, e, h1, h2⟩ := h
    exact ⟨v, ws, e, Rep.monoF hg p hf.1 h1, Reps.monoF hg ps hf.2 h2⟩
end

theorem Reps.nil {g} : Reps g [] [] := by simp [Reps]
theorem Reps.cons {g p v ps vs} (h : Rep g p v) (hs : Reps g ps vs) : Reps g (p :: ps) (v :: vs) := by
  simp only [Reps]; exact ⟨_, _, rfl, h, hs⟩
theorem Reps.length {g} : ∀ {ps : List PV} {vs : List Value}, Reps g ps vs → vs.length = ps.length
  | [], _, h => by simp only [Reps] at h; subst h; rfl
  | _ :: _, _, h => by
    simp only [Reps] at h
    obtain ⟨_, _, rfl, _, h2⟩ := h
    simp [Reps.length h2]
theorem Reps.append {g} : ∀ {ps qs : List PV} {vs ws : List Value}, Reps g ps vs → Reps g qs ws → Reps g (ps ++ qs) (vs ++ ws)
  | [], _, _, _, h, h' => by simp only [Reps] at h; subst h; exact h'
  | _ :: _, _, _, _, h, h' => by
    simp only [Reps] at h
    obtain ⟨_, _, rfl, h1, h2⟩ := h
    exact Reps.cons h1 (Reps.append h2 h')
theorem Reps.get {g} : ∀ {ps : List PV} {vs : List Value} {i : Nat} {p : PV}, Reps g ps vs → ps[i]? = some p → ∃ v, vs[i]? = some v ∧ Rep g p v
  | [], _, _, _, _, hi => by simp at hi
  | q :: qs, _, 0, p, h, hi => by
    simp only [Reps] at h
    obtain ⟨v, ws, rfl, h1, _⟩ := h
    simp at hi; subst hi
    exact ⟨v, by simp, h1⟩
  | q :: qs, _, i + 1, p, h, hi => by
    simp only [Reps] at h
    obtain ⟨v, ws, rfl, _, h2⟩ := h
    obtain ⟨u, hu, hr⟩ := Reps.get h2 (i := i) (by simpa using hi)
    exact ⟨u, by simpa using hu, hr⟩
theorem Reps.drop {g} : ∀ {ps : List PV} {vs : List Value} (n : Nat), Reps g ps vs → Reps g (ps.drop n) (vs.drop n)
  | _, _, 0, h => by simpa using h
  | [], _, n + 1, h => by simp only [Reps] at h; subst h; simp [Reps]
  | q :: qs, _, n + 1, h => by
    simp only [Reps] at h
    obtain ⟨v, ws, rfl, _, h2⟩ := h
    simpa using Reps.drop n h2
theorem Reps.take {g} : ∀ {ps : List PV} {vs : List Value} (n : Nat), Reps g ps vs → Reps g (ps.take n) (vs.take n)
  | _, _, 0, _ => by simp [Reps]
  | [], _, n + 1, h => by simp only [Reps] at h; subst h; simp [Reps]
  | q :: qs, _, n + 1, h => by
    simp only [Reps] at h
    obtain ⟨v, ws, rfl, h1, h2⟩ := h
    simpa using Reps.cons h1 (Reps.take n h2)
theorem Reps.reverse {g} : ∀ {ps : List PV} {vs : List Value}, Reps g ps vs → Reps g ps.reverse vs.reverse
  | [], _, h => by simp only [Reps] at h; subst h; simp [Reps]
  | q :: qs, _, h => by
    simp only [Reps] at h
    obtain ⟨v, ws, rfl, h1, h2⟩ := h
    simpa using Reps.append (Reps.reverse h2) (Reps.cons h1 Reps.nil)

/-! ## environments -/
inductive Slot where
  | v (p : PV)
  | m (a : Addr) (l : List PV)

abbrev PEnv := List (PySem.Str × Slot)

def Mut (σ : PEnv) (a : Addr) : Prop := ∃ x l, σ.lookup x = some (.m a l)

open Classical in
noncomputable def off (S : Addr → Prop) (h : Heap) : Addr → Option Obj := fun a => if S a then none else h.get? a

theorem off_some {S : Addr → Prop} {h : Heap} {a : Addr} {o : Obj} : off S h a = some o ↔ ¬ S a ∧ h.get? a = some o := by
  unfold off
  split
  · simp_all
  · simp_all

def SlotOK (S : Addr → Prop) (h : Heap) (v : Value) : Slot → Prop
  | .v p => Rep (off S h) p v
  | .m a l => v = .ref a ∧ ∃ vs : List Value, MList h.get? a vs ∧ Reps (off S h) l vs ∧ flats l = true

def bnames : List PySem.Str := ["len", "abs", "max", "min", "divmod", "range", "sum", "sorted", "list", "isinstance", "bool", "int", "type", "tuple", "enumerate", "str"]

/-- what stands behind the frames: the program, the world, the heap at the call's start -/
structure Cx where
  prog : Program
  w : World
  hb : Heap
  mg : PySem.Str → Option Value
  mb : PySem.Str → Option Value
  g : hb.Ns mainGlobals mg
  b : hb.Ns builtinsNs mb
  nolimit : hb.NoLimit
  nodigits : ∃ mc, hb.Ns cStatics mc ∧ mc "sys.int_max_str_digits" = none
  seer : hb.NoSeer
  tree : prog.given.tree = none
  builtins : ∀ x : PySem.Str, x ≠ "__name__" → mb x = bootBuiltins x
  free : ∀ x ∈ bnames, mg x = none

abbrev Cx.M (X : Cx) : Model := model X.prog X.w

/-- a frame's static part -/
structure Fc where
  X : Cx
  nm : PySem.Str
  sc : Scope
  r : Nat
  hk : sc.kind = .function

abbrev Fc.env (C : Fc) (L : Addr) (a : Option Addr × Option Addr) (cd : Value) : Env := { scope := C.sc, locals := L, globals := mainGlobals, cells := cellsFrom (L + 1) C.sc.names [], qual := C.nm ++ ".<locals>.", func := a.1, code := cd, frame := a.2, builtins := builtinsNs }
abbrev Fc.M (C : Fc) : Model := C.X.M

def Lv (r : Nat) (A : Around) : Prop :=
  A.handled = none ∧ A.depth + r ≤ 400 ∧ A.units + 3 * r ≤ 400 ∧
  ∃ env l, A.frames = some (env :: l) ∧ env.scope.isGenerator = false ∧ env.scope.isCoroutine = false ∧ env.builtins = builtinsNs ∧ env.globals = mainGlobals

theorem Lv.mono {r r' : Nat} {A : Around} (h : Lv r A) (hr : r' ≤ r) : Lv r' A := ⟨h.1, by have := h.2.1; omega, by have := h.2.2.1; omega, h.2.2.2⟩

def HbIn (X : Cx) (h : Heap) : Prop := ∀ b o, X.hb.get? b = some o → h.get? b = some o

/-- the cells of a frame, and what is the frame's own -/
abbrev cellsOf (sc : Scope) (L : Addr) : List (PySem.Str × Addr) := cellsFrom (L + 1) sc.names []
def Own (sc : Scope) (L b : Addr) : Prop := b = L ∨ ∃ n, (cellsOf sc L).lookup n = some b

theorem cells_gt {L : Nat} : ∀ (names : List (PySem.Str × NameKind)) (n : Nat) (acc : List (PySem.Str × Addr)), (∀ p ∈ acc, L < p.2) → L < n → ∀ p ∈ cellsFrom n names acc, L < p.2
  | [], _, _, h, _, p, hp => h p hp
  | (x, k) :: r, n, acc, h, hn, p, hp => by
    unfold cellsFrom at hp
    split at hp
    · exact cells_gt r (n + 1) ((x, n) :: acc) (fun q hq => by
        rcases List.mem_cons.mp hq with rfl | hq
        · exact hn
        · exact h q hq) (by omega) p hp
    · exact cells_gt r n acc h hn p hp
theorem cells_apart : ∀ (names : List (PySem.Str × NameKind)) (n : Nat) (acc : List (PySem.Str × Addr)), (∀ p ∈ acc, p.2 < n) → (acc.Pairwise fun x y => x.2 ≠ y.2) → (cellsFrom n names acc).Pairwise fun x y => x.2 ≠ y.2
  | [], _, _, _, h => h
  | (x, k) :: r, n, acc, hlt, h => by
    unfold cellsFrom
    split
    · refine cells_apart r (n + 1) ((x, n) :: acc) (fun q hq => ?_) (List.pairwise_cons.mpr ⟨fun q hq e => ?_, h⟩)
      · rcases List.mem_cons.mp hq with rfl | hq
        · exact Nat.lt_succ_self n
        · exact Nat.lt_succ_of_lt (hlt q hq)
      · have h1 := hlt q hq
        have e' : n = q.2 := e
        exact absurd h1 (by rw [← e']; exact Nat.lt_irrefl _)
    · exact cells_apart r n acc hlt h
theorem cells_none : ∀ (names : List (PySem.Str × NameKind)) (n : Nat) (acc : List (PySem.Str × Addr)), (∀ y ∈ names, y.2 ≠ .cell) → cellsFrom n names acc = acc
  | [], _, _, _ => rfl
  | (x, k) :: r, n, acc, h => by
    unfold cellsFrom
    have hk : ¬ (k == NameKind.cell) = true := fun e => h (x, k) (by simp) (by simpa using e)
    rw [if_neg hk]
    exact cells_none r n acc fun y hy => h y (by simp [hy])
theorem cellsOf_gt {sc : Scope} {L : Addr} {n : PySem.Str} {c : Addr} (h : (cellsOf sc L).lookup n = some c) : L < c :=
  cells_gt (L := L) sc.names (L + 1) [] (fun _ h => nomatch h) (Nat.lt_succ_self L) (n, c) (mem_of_lookup h)
theorem cellsOf_one {sc : Scope} {L : Addr} {n n' : PySem.Str} {c : Addr} (h : (cellsOf sc L).lookup n = some c) (h' : (cellsOf sc L).lookup n' = some c) : n = n' :=
  name_of_addr (cells_apart sc.names (L + 1) [] (fun _ h => nomatch h) List.Pairwise.nil) (mem_of_lookup h) (mem_of_lookup h')
theorem own_ge {sc : Scope} {L b : Addr} (h : Own sc L b) : L ≤ b := by
  rcases h with rfl | ⟨n, h⟩
  · exact Nat.le_refl _
  · exact Nat.le_of_lt (cellsOf_gt h)

/-- the names' values: in the frame's dict, or in their cells -/
def pick (sc : Scope) (ml cm : PySem.Str → Option Value) : PySem.Str → Option Value := fun x => if sc.names.lookup x = some .cell then cm x else ml x
structure VNs (sc : Scope) (L : Addr) (h : Heap) (m : PySem.Str → Option Value) : Prop where
  ex : ∃ ml cm, h.Ns L ml ∧ (∀ n c, (cellsOf sc L).lookup n = some c → h.IsCell c (cm n)) ∧ m = pick sc ml cm

theorem VNs.own {sc L h m} (V : VNs sc L h m) {b : Addr} (hb : Own sc L b) : ∃ o, h.get? b = some o ∧ ∀ xs n, o.data ≠ .seq xs n := by
  obtain ⟨ml, cm, hn, hc, _⟩ := V.ex
  rcases hb with rfl | ⟨n, hl⟩
  · obtain ⟨o, es, ep, ho, hd, _⟩ := hn
    exact ⟨o, ho, fun xs n e => by rw [hd] at e; cases e⟩
  · obtain ⟨o, ho, hd⟩ := hc n b hl
    exact ⟨o, ho, fun xs n e => by rw [hd] at e; cases e⟩
theorem VNs.isSome {sc L h m} (V : VNs sc L h m) {b : Addr} (hb : Own sc L b) : h.get? b ≠ Option.none := by
  obtain ⟨o, ho, _⟩ := V.own hb
  rw [ho]; exact fun x => by cases x
theorem VNs.at' {sc L h h' m} (V : VNs sc L h m) (k : ∀ b o, Own sc L b → h.get? b = some o → h'.get? b = some o) : VNs sc L h' m := by
  obtain ⟨ml, cm, hn, hc, e⟩ := V.ex
  exact ⟨ml, cm, hn.at' fun o e => k L o (.inl rfl) e, fun n c hl => let ⟨o, ho, hd⟩ := hc n c hl; ⟨o, k c o (.inr ⟨n, hl⟩) ho, hd⟩, e⟩

/-- a name of the frame's that may be stored to -/
def LocS (sc : Scope) (x : PySem.Str) : Prop :=
  (sc.names.lookup x = some .local ∨ (sc.names.lookup x = some .cell ∧ ∀ L, ∃ c, (cellsOf sc L).lookup x = some c)) ∧ (x == ("__debug__" : PySem.Str)) = false

structure Frm (hb : Heap) (sc : Scope) (L : Addr) (h : Heap) (m : PySem.Str → Option Value) : Prop where
  ns : VNs sc L h m
  keep : ∀ b o, hb.get? b = some o → h.get? b = some o
  new : ∀ b, Own sc L b → hb.get? b = none

theorem Frm.grownK {hb h h' : Heap} {sc : Scope} {L : Addr} {m : PySem.Str → Option Value} (F : Frm hb sc L h m) (k : ∀ b o, h.get? b = some o → h'.get? b = some o) : Frm hb sc L h' m :=
  ⟨F.ns.at' fun b o _ e => k b o e, fun b o e => k b o (F.keep b o e), F.new⟩

structure Sim (C : Fc) (L : Addr) (σ : PEnv) (h : Heap) : Prop where
  fr : ∃ m, Frm C.X.hb C.sc L h m ∧ (∀ x sl, σ.lookup x = some sl → ∃ v, m x = some v ∧ SlotOK (Mut σ) h v sl)
  loc : ∀ x sl, σ.lookup x = some sl → LocS C.sc x
  uniq : ∀ x y a l l', σ.lookup x = some (.m a l) → σ.lookup y = some (.m a l') → x = y
  fresh : ∀ a, Mut σ a → C.X.hb.get? a = none ∧ ¬ Own C.sc L a

abbrev HLe (h h' : Heap) : Prop := ∀ b o, h.get? b = some o → h'.get? b = some o

theorem off_mono {S : Addr → Prop} {h h' : Heap} (k : HLe h h') : SeqLe (off S h) (off S h') := fun a o ho _ => by
  rw [off_some] at ho ⊢; exact ⟨ho.1, k _ _ ho.2⟩

theorem SlotOK.keeps {S : Addr → Prop} {h h' : Heap} {v : Value} {sl : Slot} (x : SlotOK S h v sl) (k : HLe h h') : SlotOK S h' v sl := by
  cases sl with
  | v p => exact Rep.mono (off_mono k) p x
  | m a l =>
    obtain ⟨e, vs, hp, hr, hf⟩ := x
    exact ⟨e, vs, hp.mono (fun a o ho _ => k a o ho), Reps.mono (off_mono k) l hr, hf⟩

theorem Sim.keeps {C : Fc} {L : Addr} {σ : PEnv} {h h' : Heap} (x : Sim C L σ h) (k : HLe h h') : Sim C L σ h' where
  fr := let ⟨m, F, hs⟩ := x.fr; ⟨m, F.grownK k, fun y sl hy => let ⟨v, hv, hsl⟩ := hs y sl hy; ⟨v, hv, hsl.keeps k⟩⟩
  loc := x.loc
  uniq := x.uniq
  fresh := x.fresh

theorem Sim.hbIn {C : Fc} {L : Addr} {σ : PEnv} {h : Heap} (x : Sim C L σ h) : HbIn C.X h := let ⟨_, F, _⟩ := x.fr; F.keep

theorem kle {s s' : Shared} (k : Keeps s s') : HLe s.heap s'.heap := by obtain ⟨h, tk, rfl, hk⟩ := k; exact hk
theorem ktrans {s s' s'' : Shared} (k : Keeps s s') (k' : Keeps s' s'') : Keeps s s'' := by
  obtain ⟨h, tk, rfl, hk⟩ := k
  obtain ⟨h', tk', rfl, hk'⟩ := k'
  exact ⟨h', tk', rfl, fun b o e => hk' b o (hk b o e)⟩
theorem krfl {s : Shared} : Keeps s s := ⟨s.heap, s.toks, rfl, fun _ _ e => e⟩
theorem ktoks {s : Shared} {tk : Nat} : Keeps s { s with toks := tk } := ⟨s.heap, tk, rfl, fun _ _ e => e⟩
theorem kof {s : Shared} {h : Heap} {tk : Nat} (k : HLe s.heap h) : Keeps s { s with heap := h, toks := tk } := ⟨h, tk, rfl, k⟩
theorem kpush {s : Shared} {o : Obj} {tk : Nat} : Keeps s { s with heap := s.heap.push o, toks := tk } := kof fun _ _ e => Heap.get?_push_of_some _ e

theorem SeqLe.of {h h' : Heap} (k : HLe h h') : SeqLe h.get? h'.get? := fun a o ho _ => k a o ho
theorem krep {s s' : Shared} (k : Keeps s s') {p : PV} {v : Value} (h : Rep s.heap.get? p v) : Rep s'.heap.get? p v := Rep.mono (SeqLe.of (kle k)) p h
theorem kreps {s s' : Shared} (k : Keeps s s') {p : List PV} {v : List Value} (h : Reps s.heap.get? p v) : Reps s'.heap.get? p v := Reps.mono (SeqLe.of (kle k)) p h

abbrev NoE : Value → Shared → Prop := fun _ _ => False

/-! ## judgements -/
structure EvE (C : Fc) (σ : PEnv) (e : Expr) (p : PV) : Prop where
  run : ∀ L a cd A s, Lv C.r A → Sim C L σ s.heap →
    wpAny C.M A (eval e (C.env L a cd)) (fun v s' => Keeps s s' ∧ Rep s'.heap.get? p v) NoE s
structure EvT (C : Fc) (σ : PEnv) (e : Expr) (b : Bool) : Prop where
  run : ∀ L a cd A s, Lv C.r A → Sim C L σ s.heap →
    wpAny C.M A (isTrue e (C.env L a cd) (eval e (C.env L a cd))) (fun v s' => v = b ∧ Keeps s s') NoE s
structure EvEs (C : Fc) (σ : PEnv) (es : List Expr) (ps : List PV) : Prop where
  run : ∀ L a cd A s pos, Lv C.r A → Sim C L σ s.heap →
    wpAny C.M A (spliced (backTo pos (starEach es (C.env L a cd)))) (fun vs s' => Keeps s s' ∧ Reps s'.heap.get? ps vs) NoE s

/-- how a block ends -/
inductive Out where
  | next | brk | cont
  | ret (p : PV)

def FlowIs (h : Heap) : Flow → Out → Prop
  | .next, .next => True
  | .brk, .brk => True
  | .cont, .cont => True
  | .ret v, .ret p => Rep h.get? p v
  | _, _ => False

/-- all but the frame's own is kept -/
structure Kb (C : Fc) (L : Addr) (σ : PEnv) (h h' : Heap) : Prop where
  keep : ∀ b o, ¬ Own C.sc L b → ¬ Mut σ b → h.get? b = some o → h'.get? b = some o
  some : ∀ b, h.get? b ≠ Option.none → h'.get? b ≠ Option.none

structure Same (s s' : Shared) : Prop where
  eq : ∃ h tk, s' = { s with heap := h, toks := tk }

structure After (C : Fc) (L : Addr) (σ : PEnv) (s : Shared) (σ' : PEnv) (s' : Shared) : Prop where
  sim : Sim C L σ' s'.heap
  kb : Kb C L σ s.heap s'.heap
  new : ∀ a, Mut σ' a → Mut σ a ∨ s.heap.get? a = none
  same : Same s s'

inductive Tree where
  | one (st : Stmt)
  | blk (b : List Stmt)
def Tree.go : Tree → Env → Sem Flow
  | .one st, env => exec st env
  | .blk b, env => execs b env
structure StX (C : Fc) (σ : PEnv) (t : Tree) (Q : Out → PEnv → Prop) : Prop where
  run : ∀ L a cd A s, Lv C.r A → Sim C L σ s.heap →
    wpAny C.M A (t.go (C.env L a cd)) (fun f s' => ∃ o σ', After C L σ s σ' s' ∧ FlowIs s'.heap f o ∧ Q o σ') NoE s
abbrev ExS (C : Fc) (σ : PEnv) (st : Stmt) (Q : Out → PEnv → Prop) : Prop := StX C σ (.one st) Q
abbrev ExB (C : Fc) (σ : PEnv) (b : List Stmt) (Q : Out → PEnv → Prop) : Prop := StX C σ (.blk b) Q

theorem Kb.rfl' {C L σ h} : Kb C L σ h h := ⟨fun _ _ _ _ e => e, fun _ e => e⟩
theorem Kb.of {C L σ h h'} (k : HLe h h') : Kb C L σ h h' := ⟨fun b o _ _ e => k b o e, fun b e => by
  cases hb : h.get? b with
  | none => exact absurd hb e
  | some o => rw [k b o hb]; exact fun x => by cases x⟩

theorem Same.of_keeps {s s' : Shared} (k : Keeps s s') : Same s s' := let ⟨h, tk, e, _⟩ := k; ⟨h, tk, e⟩
theorem Same.trans {s s' s'' : Shared} (k : Same s s') (k' : Same s' s'') : Same s s'' := by
  obtain ⟨h, tk, rfl⟩ := k
  obtain ⟨h', tk', rfl⟩ := k'
  exact ⟨h', tk', rfl⟩

theorem After.of_keeps {C L σ s s'} (x : Sim C L σ s.heap) (k : Keeps s s') : After C L σ s σ s' :=
  ⟨x.keeps (kle k), Kb.of (kle k), fun _ h => .inl h, Same.of_keeps k⟩

theorem Sim.ownSome {C L σ h} (x : Sim C L σ h) {b : Addr} (hb : Own C.sc L b) : h.get? b ≠ Option.none := by
  obtain ⟨m, F, _⟩ := x.fr
  exact F.ns.isSome hb
theorem Sim.Lsome {C L σ h} (x : Sim C L σ h) : h.get? L ≠ Option.none := x.ownSome (.inl rfl)

theorem Kb.trans {C L σ σ' s s' h''} (k : After C L σ s σ' s') (k' : Kb C L σ' s'.heap h'') : Kb C L σ s.heap h'' where
  keep := fun b o hb hm e => by
    refine k'.keep b o hb (fun hm' => ?_) (k.kb.keep b o hb hm e)
    rcases k.new b hm' with h | h
    · exact hm h
    · rw [h] at e; cases e
  some := fun b e => k'.some b (k.kb.some b e)

theorem After.trans {C L σ s σ' s' σ'' s''} (k : After C L σ s σ' s') (k' : After C L σ' s' σ'' s'') : After C L σ s σ'' s'' where
  sim := k'.sim
  kb := Kb.trans k k'.kb
  new := fun a h => by
    rcases k'.new a h with h | h
    · exact k.new a h
    · right
      cases e : s.heap.get? a with
      | none => rfl
      | some o => exact absurd h (k.kb.some a (by rw [e]; exact fun x => by cases x))
  same := k.same.trans k'.same

/-- a smaller environment -/
def Sub (σ σ' : PEnv) : Prop :=
  ∀ x sl, σ'.lookup x = some sl → σ.lookup x = some sl ∨ (∃ a l, sl = .v (.lst l) ∧ σ.lookup x = some (.m a l) ∧ ¬ Mut σ' a)

theorem Sub.refl (σ : PEnv) : Sub σ σ := fun _ _ h => .inl h

theorem Sub.mut {σ σ' : PEnv} (h : Sub σ σ') {a} (hm : Mut σ' a) : Mut σ a := by
  obtain ⟨x, l, hx⟩ := hm
  rcases h x _ hx with h | ⟨_, _, e, _⟩
  · exact ⟨x, l, h⟩
  · cases e

theorem Sim.sub {C L σ σ' h} (x : Sim C L σ h) (hs : Sub σ σ') : Sim C L σ' h where
  fr := by
    obtain ⟨m, F, hsl⟩ := x.fr
    have hle : SeqLe (off (Mut σ) h) (off (Mut σ') h) := fun a o ho _ => by
      rw [off_some] at ho ⊢; exact ⟨fun hm => ho.1 (hs.mut hm), ho.2⟩
    refine ⟨m, F, fun y sl hy => ?_⟩
    rcases hs y sl hy with h1 | ⟨a, l, rfl, h1, hn⟩
    · obtain ⟨v, hv, hok⟩ := hsl y sl h1
      refine ⟨v, hv, ?_⟩
      cases sl with
      | v p => exact Rep.mono hle p hok
      | m a l => obtain ⟨e, vs, hp, hr, hf⟩ := hok; exact ⟨e, vs, hp, Reps.mono hle l hr, hf⟩
    · obtain ⟨v, hv, e, vs, hp, hr, hf⟩ := hsl y _ h1
      refine ⟨v, hv, ?_⟩
      subst e
      show Rep (off (Mut σ') h) (.lst l) (.ref a)
      simp only [Rep]
      obtain ⟨o, hp, hc, n, hd⟩ := hp.iseq
      exact ⟨a, vs, rfl, ⟨_, off_some.mpr ⟨hn, hp⟩, hc, n, hd⟩, Reps.mono hle l hr⟩
  loc := fun y sl hy => by
    rcases hs y sl hy with h1 | ⟨a, l, rfl, h1, _⟩
    · exact x.loc y _ h1
    · exact x.loc y _ h1
  uniq := fun y z a l l' h1 h2 => by
    rcases hs y _ h1 with h1 | ⟨_, _, e, _⟩
    · rcases hs z _ h2 with h2 | ⟨_, _, e, _⟩
      · exact x.uniq y z a l l' h1 h2
      · cases e
    · cases e
  fresh := fun a hm => x.fresh a (hs.mut hm)

theorem After.sub {C L σ s σ' s' σ''} (k : After C L σ s σ' s') (h : Sub σ' σ'') : After C L σ s σ'' s' :=
  ⟨k.sim.sub h, k.kb, fun a hm => k.new a (h.mut hm), k.same⟩

theorem StX.mono {C σ t Q Q'} (h : StX C σ t Q) (hq : ∀ o σ', Q o σ' → Q' o σ') : StX C σ t Q' :=
  .mk fun L a cd A s hA hS => wpAny_mono (h.run L a cd A s hA hS) (fun _ _ ⟨o, σ', h1, h2, h3⟩ => ⟨o, σ', h1, h2, hq o σ' h3⟩) fun _ _ e => e
theorem StX.sub {C σ σ₀ t Q} (hs : Sub σ σ₀) (h : StX C σ₀ t Q) : StX C σ t Q := .mk fun L a cd A s hA hS => by
  have hS0 := hS.sub hs
  refine wpAny_mono (h.run L a cd A s hA hS0) (fun _ _ ⟨o, σ', h1, h2, h3⟩ => ⟨o, σ', ⟨h1.sim, ⟨fun b o hb hm e => h1.kb.keep b o hb (fun hm' => hm (hs.mut hm')) e, h1.kb.some⟩, fun a hm => (h1.new a hm).imp (fun x => hs.mut x) id, h1.same⟩, h2, h3⟩) fun _ _ e => e
theorem EvE.sub {C σ σ₀ t p} (hs : Sub σ σ₀) (h : EvE C σ₀ t p) : EvE C σ t p := .mk fun L a cd A s hA hS => h.run L a cd A s hA (hS.sub hs)
theorem EvT.sub {C σ σ₀ t p} (hs : Sub σ σ₀) (h : EvT C σ₀ t p) : EvT C σ t p := .mk fun L a cd A s hA hS => h.run L a cd A s hA (hS.sub hs)



/-! ## the names of a frame -/
theorem VNs.load {C : Fc} {L : Addr} {a cd A} {s : Shared} {m : PySem.Str → Option Value} {x : PySem.Str} {v : Value} {Q : Value → Shared → Prop} {E : Value → Shared → Prop} (V : VNs C.sc L s.heap m) (hx : LocS C.sc x) (hv : m x = some v) (h : Q v s) :
    wpAny C.M A (loadName (C.env L a cd) x) Q E s := by
  obtain ⟨ml, cm, hn, hc, rfl⟩ := V.ex
  rcases hx.1 with hl | ⟨hl, hcc⟩
  · refine wpAny_loadName_local (env := C.env L a cd) C.hk hl hn ?_ h
    simpa [pick, hl] using hv
  · obtain ⟨c, hcl⟩ := hcc L
    have hv' : cm x = some v := by simpa [pick, hl] using hv
    exact wpAny_loadName_cell (env := C.env L a cd) C.hk hl hcl (hv' ▸ hc x c hcl) h

/-- all but the frame's own is the same -/
structure SameOwn (sc : Scope) (L : Addr) (h h' : Heap) : Prop where
  eq : ∀ b, ¬ Own sc L b → h'.get? b = h.get? b

theorem VNs.store {C : Fc} {L : Addr} {a cd A} {s : Shared} {m : PySem.Str → Option Value} {x : PySem.Str} {v : Value} {Q : Unit → Shared → Prop} {E : Value → Shared → Prop} (V : VNs C.sc L s.heap m) (hx : LocS C.sc x)
    (h : ∀ h' tk, VNs C.sc L h' (fun y => if y = x then some v else m y) → SameOwn C.sc L s.heap h' → Q () { s with heap := h', toks := tk }) :
    wpAny C.M A (storeName (C.env L a cd) x v) Q E s := by
  obtain ⟨ml, cm, hn, hc, rfl⟩ := V.ex
  rcases hx.1 with hl | ⟨hl, hcc⟩
  · refine wpAny_storeName_local (env := C.env L a cd) hl hn (fun h' hn' hs => ?_) (by
      show (C.sc.kind == .class || (C.sc.kind == .module && L != mainGlobals)) = false
      rw [C.hk]; rfl)
    refine h h' _ ⟨_, cm, hn', fun n c hl => (hc n c hl).sameBut hs (Nat.ne_of_gt (cellsOf_gt hl)), ?_⟩ ⟨fun b hb => hs.2 b fun e => hb (.inl e)⟩
    funext y
    by_cases e : y = x
    · subst e; simp [pick, hl]
    · simp [pick, e]
  · obtain ⟨c, hcl⟩ := hcc L
    refine wpAny_storeName_cell (env := C.env L a cd) C.hk hl hcl (hc x c hcl) fun h' hv hs => ?_
    refine h h' s.toks ⟨ml, fun y => if y = x then some v else cm y, hn.sameBut hs (Nat.ne_of_lt (cellsOf_gt hcl)), fun n c' hl' => ?_, ?_⟩ ⟨fun b hb => hs.2 b fun e => hb (.inr ⟨x, e ▸ hcl⟩)⟩
    · by_cases e : n = x
      · subst e
        have : c' = c := by have := hl'.symm.trans hcl; cases this; rfl
        subst this
        simpa using hv
      · simpa [e] using (hc n c' hl').sameBut hs fun e' => e (cellsOf_one hl' (e' ▸ hcl))
    · funext y
      by_cases e : y = x
      · subst e; simp [pick, hl]
      · simp [pick, e]

/-! ## expressions -/
abbrev Post (s : Shared) (p : PV) : Value → Shared → Prop := fun v s' => Keeps s s' ∧ Rep s'.heap.get? p v

theorem rep_int {g i t} : Rep g (.int i) (.int i t) := by simp only [Rep]; exact ⟨t, rfl⟩
theorem rep_bool {g b} : Rep g (.bool b) (.bool b) := by simp only [Rep]
theorem rep_str {g s t} : Rep g (.str s) (.str s t) := by simp only [Rep]; exact ⟨t, rfl⟩
theorem Rep.int_inv {g i v} (h : Rep g (.int i) v) : ∃ t, v = .int i t := by simpa only [Rep] using h
theorem Rep.bool_inv {g i v} (h : Rep g (.bool i) v) : v = .bool i := by simpa only [Rep] using h
theorem Rep.str_inv {g i v} (h : Rep g (.str i) v) : ∃ t, v = .str i t := by simpa only [Rep] using h
theorem Rep.lst_inv {g l v} (h : Rep g (.lst l) v) : ∃ a vs, v = .ref a ∧ ISeq g a "list" vs ∧ Reps g l vs := by simpa only [Rep] using h
theorem Rep.tup_inv {g l v} (h : Rep g (.tup l) v) : ∃ a vs, v = .ref a ∧ ISeq g a "tuple" vs ∧ Reps g l vs := by simpa only [Rep] using h
theorem Reps.nil_inv {g vs} (h : Reps g [] vs) : vs = [] := by simpa only [Reps] using h
theorem Reps.cons_inv {g p ps vs} (h : Reps g (p :: ps) vs) : ∃ v ws, vs = v :: ws ∧ Rep g p v ∧ Reps g ps ws := by simpa only [Reps] using h
theorem Reps.one_inv {g p vs} (h : Reps g [p] vs) : ∃ v, vs = [v] ∧ Rep g p v := by
  obtain ⟨v, ws, rfl, h1, h2⟩ := h.cons_inv
  rw [h2.nil_inv]; exact ⟨v, rfl, h1⟩
theorem Reps.two_inv {g p q vs} (h : Reps g [p, q] vs) : ∃ v w, vs = [v, w] ∧ Rep g p v ∧ Rep g q w := by
  obtain ⟨v, ws, rfl, h1, h2⟩ := h.cons_inv
  obtain ⟨w, rfl, h3⟩ := h2.one_inv
  exact ⟨v, w, rfl, h1, h3⟩

section
variable {C : Fc} {σ : PEnv}

theorem ev_int {i k pos} : EvE C σ (.Constant (.int i) k pos) (.int i) := .mk fun _ _ _ _ _ _ _ => wpAny_Constant_int ⟨ktoks, rep_int⟩
theorem ev_bool {b k pos} : EvE C σ (.Constant (.bool b) k pos) (.bool b) := .mk fun _ _ _ _ _ _ _ => Constant_bool ⟨krfl, rep_bool⟩
theorem ev_str {b k pos} : EvE C σ (.Constant (.str b) k pos) (.str b) := .mk fun _ _ _ _ _ _ _ => PySem.Calls.Constant_str ⟨ktoks, rep_str⟩

def Slot.val : Slot → PV
  | .v p => p
  | .m _ l => .lst l

theorem off_le {S : Addr → Prop} {h : Heap} : SeqLe (off S h) h.get? := fun a o ho _ => (off_some.mp ho).2

theorem SlotOK.val {S h v sl} (x : SlotOK S h v sl) : Rep h.get? sl.val v := by
  cases sl with
  | v p => exact Rep.mono off_le p x
  | m a l =>
    obtain ⟨rfl, vs, hp, hr, _⟩ := x
    show Rep h.get? (.lst l) (.ref a)
    simp only [Rep]
    exact ⟨a, vs, rfl, hp.iseq, Reps.mono off_le l hr⟩

theorem ev_name {x pos sl} (hx : σ.lookup x = some sl) : EvE C σ (.Name x pos) sl.val := .mk fun L a cd A s hA hS => by
  obtain ⟨m, F, hsl⟩ := hS.fr
  obtain ⟨v, hv, hok⟩ := hsl x sl hx
  exact wpAny_Name (F.ns.load (hS.loc x sl hx) hv ⟨krfl, hok.val⟩) (hS.loc x sl hx).2

theorem ev_nm {x pos p} (hx : σ.lookup x = some (.v p)) : EvE C σ (.Name x pos) p := ev_name hx
theorem ev_ml {x pos a l} (hx : σ.lookup x = some (.m a l)) : EvE C σ (.Name x pos) (.lst l) := ev_name hx

theorem ev_bin {l op r pos a b p} (hl : EvE C σ l a) (hr : EvE C σ r b)
    (hop : ∀ A s va vb, Lv C.r A → HbIn C.X s.heap → Rep s.heap.get? a va → Rep s.heap.get? b vb → wpAny C.M A (binaryOp op va vb) (Post s p) NoE s) :
    EvE C σ (.BinOp l op r pos) p := .mk fun L ad cd A s hA hS => by
  refine wpAny_BinOp (wpAny_mono (hl.run L ad cd A s hA hS) (fun va s₁ ⟨k₁, r₁⟩ => ?_) fun _ _ e => e)
  refine wpAny_mono (hr.run L ad cd A s₁ hA (hS.keeps (kle k₁))) (fun vb s₂ ⟨k₂, r₂⟩ => ?_) fun _ _ e => e
  refine wpAny_mono (hop A s₂ va vb hA (hS.keeps (kle (ktrans k₁ k₂))).hbIn (krep k₂ r₁) r₂) (fun v s₃ ⟨k₃, r₃⟩ => ⟨ktrans (ktrans k₁ k₂) k₃, r₃⟩) fun _ _ e => e

theorem room_pylong {A s} (hA : Lv C.r A) (hb : HbIn C.X s.heap) : PySem.PylongRoom C.M A s := by
  obtain ⟨_, hd, _, env, l, h1, h2, h3, h4, h5⟩ := hA
  exact PySem.PylongRoom.of (C.X.nolimit.keeps hb) (by have : Builtin.pylongFrames ≤ 500 := by decide
                                                       show A.depth + Builtin.pylongFrames < 1000
                                                       omega) (PySem.SeerAt.of (C.X.seer.keeps hb) C.X.tree h1 h2 h3 h4 h5)

theorem ev_add {l r pos a b} (hl : EvE C σ l (.int a)) (hr : EvE C σ r (.int b)) : EvE C σ (.BinOp l .Add r pos) (.int (a + b)) :=
  ev_bin hl hr fun A s va vb _ _ h1 h2 => by
    obtain ⟨t, rfl⟩ := h1.int_inv
    obtain ⟨u, rfl⟩ := h2.int_inv
    exact add_int ⟨ktoks, rep_int⟩
theorem ev_sub {l r pos a b} (hl : EvE C σ l (.int a)) (hr : EvE C σ r (.int b)) : EvE C σ (.BinOp l .Sub r pos) (.int (a - b)) :=
  ev_bin hl hr fun A s va vb _ _ h1 h2 => by
    obtain ⟨t, rfl⟩ := h1.int_inv
    obtain ⟨u, rfl⟩ := h2.int_inv
    exact sub_int ⟨ktoks, rep_int⟩
theorem ev_mul {l r pos a b} (hl : EvE C σ l (.int a)) (hr : EvE C σ r (.int b)) (hm : IntMulOk a b) : EvE C σ (.BinOp l .Mult r pos) (.int (a * b)) :=
  ev_bin hl hr fun A s va vb _ _ h1 h2 => by
    obtain ⟨t, rfl⟩ := h1.int_inv
    obtain ⟨u, rfl⟩ := h2.int_inv
    exact mul_int ⟨ktoks, rep_int⟩ hm
theorem ev_fdiv {l r pos a b} (hl : EvE C σ l (.int a)) (hr : EvE C σ r (.int b)) (hb : b ≠ 0) : EvE C σ (.BinOp l .FloorDiv r pos) (.int (a.fdiv b)) :=
  ev_bin hl hr fun A s va vb hA hH h1 h2 => by
    obtain ⟨t, rfl⟩ := h1.int_inv
    obtain ⟨u, rfl⟩ := h2.int_inv
    exact floordiv_int hb ⟨ktoks, rep_int⟩ (.inr (room_pylong hA hH))
theorem ev_fmod {l r pos a b} (hl : EvE C σ l (.int a)) (hr : EvE C σ r (.int b)) (hb : b ≠ 0) : EvE C σ (.BinOp l .Mod r pos) (.int (a.fmod b)) :=
  ev_bin hl hr fun A s va vb hA hH h1 h2 => by
    obtain ⟨t, rfl⟩ := h1.int_inv
    obtain ⟨u, rfl⟩ := h2.int_inv
    exact mod_int hb ⟨ktoks, rep_int⟩
theorem ev_pow {l r pos a b} (hl : EvE C σ l (.int a)) (hr : EvE C σ r (.int b)) (hn : 0 ≤ b) (hsz : (Builtin.Int.intBits a : Int) * b ≤ 2 ^ 27) : EvE C σ (.BinOp l .Pow r pos) (.int (a ^ b.toNat)) :=
  ev_bin hl hr fun A s va vb hA hH h1 h2 => by
    obtain ⟨t, rfl⟩ := h1.int_inv
    obtain ⟨u, rfl⟩ := h2.int_inv
    exact pow_int hn hsz ⟨ktoks, rep_int⟩
theorem ev_shr {l r pos a b} (hl : EvE C σ l (.int a)) (hr : EvE C σ r (.int b)) (hn : 0 ≤ b) : EvE C σ (.BinOp l .RShift r pos) (.int (a.fdiv (2 ^ b.toNat))) :=
  ev_bin hl hr fun A s va vb hA hH h1 h2 => by
    obtain ⟨t, rfl⟩ := h1.int_inv
    obtain ⟨u, rfl⟩ := h2.int_inv
    exact rshift_int hn ⟨ktoks, rep_int⟩
theorem ev_and {l r pos a b} (hl : EvE C σ l (.int a)) (hr : EvE C σ r (.int b)) : EvE C σ (.BinOp l .BitAnd r pos) (.int (Builtin.bitAnd a b)) :=
  ev_bin hl hr fun A s va vb hA hH h1 h2 => by
    obtain ⟨t, rfl⟩ := h1.int_inv
    obtain ⟨u, rfl⟩ := h2.int_inv
    exact and_int ⟨ktoks, rep_int⟩

theorem ev_neg {e pos a} (h : EvE C σ e (.int a)) : EvE C σ (.UnaryOp .USub e pos) (.int (-a)) := .mk fun L ad cd A s hA hS =>
  UnaryOp_ (wpAny_mono (h.run L ad cd A s hA hS) (fun v s₁ ⟨k₁, r₁⟩ => by
    obtain ⟨t, rfl⟩ := r₁.int_inv
    exact neg_int ⟨ktrans k₁ ktoks, rep_int⟩) fun _ _ e => e)

/-! comparisons -/
/-- what comparing two values gives, as a bool -/
structure CmpIs (C : Fc) (op : CmpOp) (a b : PV) (c : Bool) : Prop where
  run : ∀ A s va vb, Lv C.r A → HbIn C.X s.heap → Rep s.heap.get? a va → Rep s.heap.get? b vb →
    wpAny C.M A (compareOp op va vb) (fun v s' => v = .bool c ∧ Keeps s s') NoE s

theorem cmp_lt {a b} : CmpIs C .Lt (.int a) (.int b) (decide (a < b)) := .mk fun A s va vb _ _ h1 h2 => by
  obtain ⟨t, rfl⟩ := h1.int_inv
  obtain ⟨u, rfl⟩ := h2.int_inv
  exact lt_int ⟨rfl, krfl⟩
theorem cmp_le {a b} : CmpIs C .LtE (.int a) (.int b) (decide (a ≤ b)) := .mk fun A s va vb _ _ h1 h2 => by
  obtain ⟨t, rfl⟩ := h1.int_inv
  obtain ⟨u, rfl⟩ := h2.int_inv
  exact le_int ⟨rfl, krfl⟩
theorem cmp_gt {a b} : CmpIs C .Gt (.int a) (.int b) (decide (b < a)) := .mk fun A s va vb _ _ h1 h2 => by
  obtain ⟨t, rfl⟩ := h1.int_inv
  obtain ⟨u, rfl⟩ := h2.int_inv
  exact gt_int ⟨rfl, krfl⟩
theorem cmp_ge {a b} : CmpIs C .GtE (.int a) (.int b) (decide (b ≤ a)) := .mk fun A s va vb _ _ h1 h2 => by
  obtain ⟨t, rfl⟩ := h1.int_inv
  obtain ⟨u, rfl⟩ := h2.int_inv
  exact ge_int ⟨rfl, krfl⟩
theorem cmp_eq {a b} : CmpIs C .Eq (.int a) (.int b) (decide (a = b)) := .mk fun A s va vb _ _ h1 h2 => by
  obtain ⟨t, rfl⟩ := h1.int_inv
  obtain ⟨u, rfl⟩ := h2.int_inv
  exact eq_int ⟨rfl, krfl⟩
theorem cmp_ne {a b} : CmpIs C .NotEq (.int a) (.int b) (decide (a ≠ b)) := .mk fun A s va vb _ _ h1 h2 => by
  obtain ⟨t, rfl⟩ := h1.int_inv
  obtain ⟨u, rfl⟩ := h2.int_inv
  exact ne_int ⟨by congr 1; by_cases h : a = b <;> simp [h], krfl⟩
theorem cmp_neb {a b} : CmpIs C .NotEq (.bool a) (.bool b) (a != b) := .mk fun A s va vb _ _ h1 h2 => by
  rw [h1.bool_inv, h2.bool_inv]
  exact ne_bool ⟨rfl, krfl⟩
theorem cmp_eqb {a b} : CmpIs C .Eq (.bool a) (.bool b) (a == b) := .mk fun A s va vb _ _ h1 h2 => by
  rw [h1.bool_inv, h2.bool_inv]
  exact eq_bool ⟨rfl, krfl⟩

theorem ev_cmp {l op r pos a b c} (hl : EvE C σ l a) (hr : EvE C σ r b) (hc : CmpIs C op a b c) (hm : behindInMarks op r = false := by with_unfolding_all rfl) :
    EvE C σ (.Compare l [op] [r] pos) (.bool c) := .mk fun L ad cd A s hA hS => by
  refine wpAny_Compare1 (wpAny_mono (hl.run L ad cd A s hA hS) (fun va s₁ ⟨k₁, r₁⟩ => ?_) fun _ _ e => e) hm
  refine wpAny_mono (hr.run L ad cd A s₁ hA (hS.keeps (kle k₁))) (fun vb s₂ ⟨k₂, r₂⟩ => ?_) fun _ _ e => e
  refine wpAny_mono (hc.run A s₂ va vb hA (hS.keeps (kle (ktrans k₁ k₂))).hbIn (krep k₂ r₁) r₂) (fun v s₃ ⟨e, k₃⟩ => ⟨ktrans (ktrans k₁ k₂) k₃, e ▸ rep_bool⟩) fun _ _ e => e
theorem et_cmp {l op r pos a b c} (hl : EvE C σ l a) (hr : EvE C σ r b) (hc : CmpIs C op a b c) (hm : behindInMarks op r = false := by with_unfolding_all rfl) :
    EvT C σ (.Compare l [op] [r] pos) c := .mk fun L ad cd A s hA hS => by
  refine wpAny_isTrue_Compare1 (wpAny_mono (hl.run L ad cd A s hA hS) (fun va s₁ ⟨k₁, r₁⟩ => ?_) fun _ _ e => e) hm
  refine wpAny_mono (hr.run L ad cd A s₁ hA (hS.keeps (kle k₁))) (fun vb s₂ ⟨k₂, r₂⟩ => ?_) fun _ _ e => e
  refine wpAny_mono (hc.run A s₂ va vb hA (hS.keeps (kle (ktrans k₁ k₂))).hbIn (krep k₂ r₁) r₂) (fun v s₃ ⟨e, k₃⟩ => ?_) fun _ _ e => e
  subst e
  exact wpAny_truthy_bool ⟨rfl, ktrans (ktrans k₁ k₂) k₃⟩

/-- truth of a value -/
structure TruthIs (C : Fc) (p : PV) (c : Bool) : Prop where
  run : ∀ A s v, Lv C.r A → Rep s.heap.get? p v → wpAny C.M A (truthy v) (fun b s' => b = c ∧ Keeps s s') NoE s
theorem tr_bool {b} : TruthIs C (.bool b) b := .mk fun A s v _ h => by rw [h.bool_inv]; exact wpAny_truthy_bool ⟨rfl, krfl⟩
theorem et_of {e p c} (h : EvE C σ e p) (ht : TruthIs C p c)
    (he : ∀ env whole, isTrue e env whole = (do let v ← whole; standAt e.pos; holding [v] (truthy v)) := by intros; rfl) : EvT C σ e c := .mk fun L ad cd A s hA hS => by
  refine isTrue_plain (wpAny_mono (h.run L ad cd A s hA hS) (fun v s₁ ⟨k₁, r₁⟩ => ?_) fun _ _ e => e) (he _ _)
  exact wpAny_mono (ht.run A s₁ v hA r₁) (fun b s₂ ⟨e, k⟩ => ⟨e, ktrans k₁ k⟩) fun _ _ e => e
theorem et_not {e pos c} (h : EvT C σ e c) : EvT C σ (.UnaryOp .Not e pos) (!c) := .mk fun L ad cd A s hA hS => by
  refine isTrue_not (wpAny_mono (h.run L ad cd A s hA hS) (fun b s₁ ⟨e, k⟩ => ⟨by rw [e], k⟩) fun _ _ e => e)
theorem ev_not {e pos p c} (h : EvE C σ e p) (ht : TruthIs C p c) : EvE C σ (.UnaryOp .Not e pos) (.bool (!c)) := .mk fun L ad cd A s hA hS => by
  refine UnaryOp_ (wpAny_mono (h.run L ad cd A s hA hS) (fun v s₁ ⟨k₁, r₁⟩ => not_of ?_) fun _ _ e => e)
  exact wpAny_mono (ht.run A s₁ v hA r₁) (fun b s₂ ⟨e, k⟩ => ⟨ktrans k₁ k, e ▸ rep_bool⟩) fun _ _ e => e

theorem et_and {x y rest pos c d} (hx : EvT C σ x c) (hy : c = true → EvT C σ (.BoolOp .And (y :: rest) pos) d) : EvT C σ (.BoolOp .And (x :: y :: rest) pos) (c && d) := .mk fun L ad cd A s hA hS => by
  refine isTrue_and (wpAny_mono (hx.run L ad cd A s hA hS) (fun b s₁ ⟨e, k⟩ => ?_) fun _ _ e => e)
  subst e
  cases b with
  | false => exact ⟨rfl, k⟩
  | true => exact wpAny_mono ((hy rfl).run L ad cd A s₁ hA (hS.keeps (kle k))) (fun b s₂ ⟨e, k'⟩ => ⟨by simpa using e, ktrans k k'⟩) fun _ _ e => e
theorem et_or {x y rest pos c d} (hx : EvT C σ x c) (hy : c = false → EvT C σ (.BoolOp .Or (y :: rest) pos) d) : EvT C σ (.BoolOp .Or (x :: y :: rest) pos) (c || d) := .mk fun L ad cd A s hA hS => by
  refine isTrue_or (wpAny_mono (hx.run L ad cd A s hA hS) (fun b s₁ ⟨e, k⟩ => ?_) fun _ _ e => e)
  subst e
  cases b with
  | true => exact ⟨rfl, k⟩
  | false => exact wpAny_mono ((hy rfl).run L ad cd A s₁ hA (hS.keeps (kle k))) (fun b s₂ ⟨e, k'⟩ => ⟨by simpa using e, ktrans k k'⟩) fun _ _ e => e
theorem et_and1 {x pos c} (hx : EvT C σ x c) : EvT C σ (.BoolOp .And [x] pos) c := .mk fun L ad cd A s hA hS => by
  refine isTrue_and (wpAny_mono (hx.run L ad cd A s hA hS) (fun b s₁ ⟨e, k⟩ => ?_) fun _ _ e => e)
  subst e
  cases b with
  | false => exact ⟨rfl, k⟩
  | true => exact isTrue_and_nil ⟨rfl, k⟩
theorem et_or1 {x pos c} (hx : EvT C σ x c) : EvT C σ (.BoolOp .Or [x] pos) c := .mk fun L ad cd A s hA hS => by
  refine isTrue_or (wpAny_mono (hx.run L ad cd A s hA hS) (fun b s₁ ⟨e, k⟩ => ?_) fun _ _ e => e)
  subst e
  cases b with
  | true => exact ⟨rfl, k⟩
  | false => exact isTrue_or_nil ⟨rfl, k⟩

theorem ev_andb {x y pos c d} (hx : EvE C σ x (.bool c)) (hy : c = true → EvE C σ y (.bool d)) : EvE C σ (.BoolOp .And [x, y] pos) (.bool (c && d)) := .mk fun L ad cd A s hA hS => by
  refine BoolOp_and (wpAny_mono (hx.run L ad cd A s hA hS) (fun v s₁ ⟨k, r⟩ => ?_) fun _ _ e => e)
  rw [r.bool_inv]
  refine wpAny_truthy_bool ?_
  cases c with
  | false => exact ⟨k, rep_bool⟩
  | true => exact BoolOp_one (wpAny_mono ((hy rfl).run L ad cd A s₁ hA (hS.keeps (kle k))) (fun b s₂ ⟨k', r'⟩ => ⟨ktrans k k', by simpa using r'⟩) fun _ _ e => e)
theorem ev_orb {x y pos c d} (hx : EvE C σ x (.bool c)) (hy : c = false → EvE C σ y (.bool d)) : EvE C σ (.BoolOp .Or [x, y] pos) (.bool (c || d)) := .mk fun L ad cd A s hA hS => by
  refine BoolOp_or (wpAny_mono (hx.run L ad cd A s hA hS) (fun v s₁ ⟨k, r⟩ => ?_) fun _ _ e => e)
  rw [r.bool_inv]
  refine wpAny_truthy_bool ?_
  cases c with
  | true => exact ⟨k, rep_bool⟩
  | false => exact BoolOp_one (wpAny_mono ((hy rfl).run L ad cd A s₁ hA (hS.keeps (kle k))) (fun b s₂ ⟨k', r'⟩ => ⟨ktrans k k', by simpa using r'⟩) fun _ _ e => e)

theorem ev_if {t x y pos c p q} (ht : EvT C σ t c) (hx : c = true → EvE C σ x p) (hy : c = false → EvE C σ y q) : EvE C σ (.IfExp t x y pos) (if c = true then p else q) := .mk fun L ad cd A s hA hS => by
  refine IfExp_ (wpAny_mono (ht.run L ad cd A s hA hS) (fun b s₁ ⟨e, k⟩ => ?_) fun _ _ e => e)
  subst e
  cases b with
  | true => exact wpAny_mono ((hx rfl).run L ad cd A s₁ hA (hS.keeps (kle k))) (fun b s₂ ⟨k', r'⟩ => ⟨ktrans k k', r'⟩) fun _ _ e => e
  | false => exact wpAny_mono ((hy rfl).run L ad cd A s₁ hA (hS.keeps (kle k))) (fun b s₂ ⟨k', r'⟩ => ⟨ktrans k k', r'⟩) fun _ _ e => e
theorem ev_ifi {t x y pos c p q} (ht : EvT C σ t c) (hx : c = true → EvE C σ x (.int p)) (hy : c = false → EvE C σ y (.int q)) : EvE C σ (.IfExp t x y pos) (.int (if c = true then p else q)) := by
  have h := ev_if (pos := pos) ht hx hy
  cases c <;> exact h
theorem ev_ifb {t x y pos c p q} (ht : EvT C σ t c) (hx : c = true → EvE C σ x (.bool p)) (hy : c = false → EvE C σ y (.bool q)) : EvE C σ (.IfExp t x y pos) (.bool (if c = true then p else q)) := by
  have h := ev_if (pos := pos) ht hx hy
  cases c <;> exact h

/-! arguments, displays -/
theorem es_nil : EvEs C σ [] [] := .mk fun _ _ _ _ _ _ _ _ => args_nil ⟨krfl, Reps.nil⟩
theorem es_cons {e es p ps} (h : EvE C σ e p) (hs : EvEs C σ es ps) (he : ∀ env, starEach (e :: es) env = (false, eval e env) :: starEach es env := by intro _; rfl) :
    EvEs C σ (e :: es) (p :: ps) := .mk fun L ad cd A s pos hA hS => by
  refine args_cons (wpAny_mono (h.run L ad cd A s hA hS) (fun v s₁ ⟨k, r⟩ => ?_) fun _ _ e => e) (he _)
  exact wpAny_mono (hs.run L ad cd A s₁ pos hA (hS.keeps (kle k))) (fun vs s₂ ⟨k', r'⟩ => ⟨ktrans k k', Reps.cons (krep k' r) r'⟩) fun _ _ e => e

theorem new_seq {h : Heap} {T : String} {vs : List Value} {n : Nat} : ISeq (h.push { cls := .type T, data := .seq vs.toArray n }).get? h.objs.size T vs :=
  ⟨_, Heap.get?_push_size _ rfl, rfl, n, rfl⟩

theorem ev_tuple {es k pos ps} (h : EvEs C σ es ps) (hn : ps.length ≤ 1000) : EvE C σ (.Tuple es k pos) (.tup ps) := .mk fun L ad cd A s hA hS => by
  refine Tuple_ (wpAny_mono (h.run L ad cd A s pos hA hS) (fun vs s₁ ⟨k, r⟩ => ?_) fun _ _ e => e)
  refine wpAny_newObj_type ⟨ktrans k kpush, ?_⟩ (by show vs.toArray.size ≤ sizeLine; rw [List.size_toArray, r.length]; exact Nat.le_trans hn (by decide))
  simp only [Rep]
  exact ⟨_, vs, rfl, new_seq, kreps (s' := { s₁ with heap := s₁.heap.push _ }) kpush r⟩
theorem ev_list {es pos ps} (h : EvEs C σ es ps) (hn : ps.length ≤ 1000) : EvE C σ (.List es pos) (.lst ps) := .mk fun L ad cd A s hA hS => by
  refine List_ (wpAny_mono (h.run L ad cd A s pos hA hS) (fun vs s₁ ⟨k, r⟩ => ?_) fun _ _ e => e)
  refine wpAny_newObj_type ⟨ktrans k kpush, ?_⟩ (by show vs.toArray.size ≤ sizeLine; rw [List.size_toArray, r.length]; exact Nat.le_trans hn (by decide))
  simp only [Rep]
  exact ⟨_, vs, rfl, new_seq, kreps (s' := { s₁ with heap := s₁.heap.push _ }) kpush r⟩

end


/-! ## calls -/
structure BFn (X : Cx) (r : Nat) (f : Value) (ps : List PV) (p : PV) : Prop where
  run : ∀ A s vs, Lv r A → HbIn X s.heap → Reps s.heap.get? ps vs → wpAny X.M A (call f vs) (Post s p) NoE s

theorem BFn.mono {X r r' f ps p} (h : BFn X r f ps p) (hr : r ≤ r') : BFn X r' f ps p := .mk fun A s vs hA => h.run A s vs (hA.mono hr)

section
variable {C : Fc} {σ : PEnv}

theorem name_builtin {x f pos L ad cd A s} {Q : Value → Shared → Prop} (hS : Sim C L σ s.heap) (hb : x ∈ bnames) (hboot : bootBuiltins x = some f) (hx : C.sc.names.lookup x = some .globalImplicit)
    (hd : (x == ("__debug__" : PySem.Str)) = false) (hn : x ≠ "__name__") (h : Q f s) : wpAny C.M A (eval (.Name x pos) (C.env L ad cd)) Q NoE s := by
  obtain ⟨m, F, _⟩ := hS.fr
  exact Calls.Name_function_global (env := C.env L ad cd) C.hk hx (Calls.loadGlobal_builtin (env := C.env L ad cd) (C.X.g.keeps F.keep) (C.X.free x hb) (C.X.b.keeps F.keep) ((C.X.builtins x hn).trans hboot) h) hd

theorem name_user {x f pos L ad cd A s} {Q : Value → Shared → Prop} (hS : Sim C L σ s.heap) (hf : C.X.mg x = some f) (hx : C.sc.names.lookup x = some .globalImplicit)
    (hd : (x == ("__debug__" : PySem.Str)) = false) (h : Q f s) : wpAny C.M A (eval (.Name x pos) (C.env L ad cd)) Q NoE s := by
  obtain ⟨m, F, _⟩ := hS.fr
  exact Calls.Name_function_global (env := C.env L ad cd) C.hk hx (Calls.loadGlobal_global (env := C.env L ad cd) (C.X.g.keeps F.keep) hf h) hd

def AllPlain : List Expr → Prop
  | [] => True
  | e :: es => (∀ env, starEach (e :: es) env = (false, eval e env) :: starEach es env) ∧ AllPlain es
theorem AllPlain.any : ∀ {es : List Expr} (h : AllPlain es) (pos : Pos) (env : Env), (backTo pos (starEach es env)).any (·.1) = false
  | [], _, _, _ => rfl
  | e :: es, h, pos, env => by
    rw [h.1]
    show (false || (backTo pos (starEach es env)).any (·.1)) = false
    rw [h.2.any pos env]; rfl

/-- a call of a builtin function by its name -/
theorem ev_bcall {x id xp e es pos ps p} (hargs : EvEs C σ (e :: es) ps) (hfn : BFn C.X C.r (.builtin id) ps p) (hb : x ∈ bnames) (hboot : bootBuiltins x = some (.builtin id))
    (hx : C.sc.names.lookup x = some .globalImplicit) (hd : (x == ("__debug__" : PySem.Str)) = false) (hn : x ≠ "__name__") (hp : AllPlain (e :: es)) :
    EvE C σ (.Call (.Name x xp) (e :: es) [] pos) p := .mk fun L ad cd A s hA hS => by
  refine Call_ (name_builtin hS hb hboot hx hd hn ?_)
  refine callWith_builtin1 (wpAny_mono (hargs.run L ad cd A s pos hA hS) (fun vs s₁ ⟨k, r⟩ => ?_) fun _ _ e => e) (hp.1 _) (hp.2.any _ _)
  exact wpAny_mono (hfn.run A s₁ vs hA (hS.keeps (kle k)).hbIn r) (fun v s₂ ⟨k', r'⟩ => ⟨ktrans k k', r'⟩) fun _ _ e => e
theorem ev_tcall {x T xp e es pos ps p} (hargs : EvEs C σ (e :: es) ps) (hfn : BFn C.X C.r (.type T) ps p) (hb : x ∈ bnames) (hboot : bootBuiltins x = some (.type T))
    (hx : C.sc.names.lookup x = some .globalImplicit) (hd : (x == ("__debug__" : PySem.Str)) = false) (hn : x ≠ "__name__") (hp : AllPlain (e :: es)) :
    EvE C σ (.Call (.Name x xp) (e :: es) [] pos) p := .mk fun L ad cd A s hA hS => by
  refine Call_ (name_builtin hS hb hboot hx hd hn ?_)
  refine callWith_type1 (wpAny_mono (hargs.run L ad cd A s pos hA hS) (fun vs s₁ ⟨k, r⟩ => ?_) fun _ _ e => e) (hp.1 _) (hp.2.any _ _)
  exact wpAny_mono (hfn.run A s₁ vs hA (hS.keeps (kle k)).hbIn r) (fun v s₂ ⟨k', r'⟩ => ⟨ktrans k k', r'⟩) fun _ _ e => e

/-- a function object of the text's -/
structure IsFn (X : Cx) (x : PySem.Str) (fa : Addr) (nm : PySem.Str) (params : Arguments) (body : List Stmt) (sc : Scope) (dV : Value) : Prop where
  bound : X.mg x = some (.ref fa)
  obj : ∃ o kwdV ann pm c' doc, X.hb.get? fa = some o ∧ o.data = .func (defFd nm nm params body sc mainGlobals dV kwdV ann pm (.ref c') doc) ∧ X.hb.CodeRec (.ref c') nm

theorem ev_ucall {x fa nm params body sc dV xp e es pos ps p r} (hF : IsFn C.X x fa nm params body sc dV) (hargs : EvEs C σ (e :: es) ps) (hfn : BFn C.X r (.ref fa) ps p) (hr : r ≤ C.r)
    (hx : C.sc.names.lookup x = some .globalImplicit) (hd : (x == ("__debug__" : PySem.Str)) = false) (hp : AllPlain (e :: es)) :
    EvE C σ (.Call (.Name x xp) (e :: es) [] pos) p := .mk fun L ad cd A s hA hS => by
  obtain ⟨o, kwdV, ann, pm, c', doc, ho, hd', hc⟩ := hF.obj
  refine Call_ (name_user hS hF.bound hx hd ?_)
  refine callWith_def hd' (wpAny_mono (hargs.run L ad cd A s pos hA hS) (fun vs s₁ ⟨k, r⟩ => ⟨(hS.keeps (kle k)).hbIn _ _ ho, ?_⟩) fun _ _ e => e) (hp.1 _)
  exact wpAny_mono (hfn.run A s₁ vs (hA.mono hr) (hS.keeps (kle k)).hbIn r) (fun v s₂ ⟨k', r'⟩ => ⟨ktrans k k', r'⟩) fun _ _ e => e

end

/-! ## the frame of a call -/
def vs1 (ps : List PV) : List Slot := ps.map Slot.v

theorem zip_lookup {g : Addr → Option Obj} : ∀ {names : List PySem.Str} {ps : List PV} {vs : List Value} {x : PySem.Str} {sl : Slot}, names.Nodup → Reps g ps vs →
    (names.zip (vs1 ps)).lookup x = some sl → ∃ p v, sl = .v p ∧ (names.zip vs).reverse.lookup x = some v ∧ Rep g p v
  | [], _, _, _, _, _, _, h => by simp at h
  | _ :: _, [], _, _, _, _, _, h => by simp [vs1] at h
  | n :: ns, p :: ps, vs, x, sl, hn, hr, h => by
    obtain ⟨v, ws, rfl, h1, h2⟩ := hr.cons_inv
    obtain ⟨hn1, hn2⟩ := List.nodup_cons.mp hn
    simp only [vs1, List.map_cons, List.zip_cons_cons, List.lookup_cons] at h
    simp only [List.zip_cons_cons, List.reverse_cons, List.lookup_append, List.lookup_cons, List.lookup_nil]
    by_cases hx : x = n
    · subst hx
      simp at h
      subst h
      refine ⟨p, v, rfl, ?_, h1⟩
      have : ((ns.zip ws).reverse.lookup x) = Option.none := by
        rw [List.lookup_eq_none_iff]
        intro q hq
        have hq' := List.mem_reverse.mp hq
        have := (List.of_mem_zip hq').1
        simp only [bne_iff_ne, ne_eq]
        intro e
        exact hn1 (by rw [e]; exact this)
      rw [this]; simp
    · have hx' : (x == n) = false := by simpa using hx
      rw [hx'] at h
      obtain ⟨p', v', e1, e2, e3⟩ := zip_lookup hn2 h2 h
      exact ⟨p', v', e1, by rw [e2]; rfl, e3⟩

def NoMut (σ : PEnv) : Prop := ∀ a, ¬ Mut σ a
theorem noMut_vs {names : List PySem.Str} {ps : List PV} : NoMut (names.zip (vs1 ps)) := by
  rintro a ⟨x, l, h⟩
  have : ∀ (names : List PySem.Str) (ps : List PV), (names.zip (vs1 ps)).lookup x = some (.m a l) → False := by
    intro names
    induction names with
    | nil => intro ps h; simp at h
    | cons n ns ih =>
      intro ps h
      cases ps with
      | nil => simp [vs1] at h
      | cons p ps =>
        simp only [vs1, List.map_cons, List.zip_cons_cons, List.lookup_cons] at h
        split at h
        · cases h
        · exact ih ps h
  exact this _ _ h

theorem off_noMut {σ : PEnv} {h : Heap} (hm : NoMut σ) : SeqLe h.get? (off (Mut σ) h) := fun a o ho _ => off_some.mpr ⟨hm a, ho⟩

theorem VNs.of_local {sc : Scope} {L : Addr} {h : Heap} {m : PySem.Str → Option Value} (hcell : ∀ y ∈ sc.names, y.2 ≠ .cell) (hn : h.Ns L m) : VNs sc L h m := by
  have hc : cellsOf sc L = [] := cells_none _ _ _ hcell
  refine ⟨m, m, hn, fun n c hl => ?_, ?_⟩
  · rw [hc] at hl; simp at hl
  · funext x; simp [pick]

/-- the contract of a def of the text's -/
theorem fn_intro {X : Cx} {r : Nat} {x : PySem.Str} {fa : Addr} {nm : PySem.Str} {params : Arguments} {body : List Stmt} {sc : Scope} {dV : Value} {names : List PySem.Str} {ps dps : List PV} {dv : List Value} {p : PV}
    (hF : IsFn X x fa nm params body sc dV) (hk : sc.kind = .function) (hco : sc.isCoroutine = false) (hgen : sc.isGenerator = false) (hcell : ∀ y ∈ sc.names, y.2 ≠ .cell)
    (hnames : names.Nodup) (hlocs : ∀ y ∈ names, sc.names.lookup y = some .local ∧ (y == ("__debug__" : PySem.Str)) = false)
    (hdv : ∀ g, Reps g dps dv)
    (hbind : ∀ (s : Shared) kwdV ann pm c' doc vs, HbIn X s.heap → vs.length = ps.length → BindsTo s (defFd nm nm params body sc mainGlobals dV kwdV ann pm (.ref c') doc) ⟨vs, []⟩ (names.zip (vs ++ dv)))
    (hbody : ExB ⟨X, nm, sc, r, hk⟩ (names.zip (vs1 (ps ++ dps))) body (fun o _ => o = .ret p)) :
    BFn X (r + 1) (.ref fa) ps p := .mk fun A s vs hA hH hR => by
  obtain ⟨o, kwdV, ann, pm, c', doc, ho, hd', hc⟩ := hF.obj
  have hb := hbind s kwdV ann pm c' doc vs hH hR.length
  have hR' : Reps s.heap.get? (ps ++ dps) (vs ++ dv) := Reps.append hR (hdv _)
  have hlocs' : ∀ q ∈ names.zip (vs ++ dv), sc.names.lookup q.1 = some .local := fun q hq => (hlocs _ (List.of_mem_zip hq).1).1
  obtain ⟨hh, hdep, huni, henv⟩ := hA
  refine wpAny_call (codeAny_call_def (by show A.depth < 1000; omega) (hH _ _ ho) hd' (X.nolimit.keeps hH) (hc.keeps hH) rfl hb hcell hlocs' (fun h₁ hns hkeep => ?_) hco hgen hk)
  have hS : Sim ⟨X, nm, sc, r, hk⟩ s.heap.objs.size (names.zip (vs1 (ps ++ dps))) h₁ := by
    refine ⟨⟨_, ⟨VNs.of_local hcell hns, fun b o e => hkeep b o (hH b o e), fun b hb => ?_⟩, fun y sl hy => ?_⟩, fun y sl hy => ?_, fun y z a l l' h1 _ => ?_, fun a hm => ?_⟩
    · cases e : X.hb.get? b with
      | none => rfl
      | some o => exact absurd (Nat.lt_of_lt_of_le (Heap.lt_size (hH _ _ e)) (own_ge hb)) (Nat.lt_irrefl _)
    · obtain ⟨q, v, rfl, h2, h3⟩ := zip_lookup hnames hR' hy
      refine ⟨v, h2, ?_⟩
      exact Rep.mono (fun a o ho _ => off_some.mpr ⟨noMut_vs a, hkeep a o ho⟩) q h3
    · have : y ∈ names := by
        have : ∀ (names : List PySem.Str) (sls : List Slot), (names.zip sls).lookup y = some sl → y ∈ names := by
          intro names
          induction names with
          | nil => intro sls h; simp at h
          | cons n ns ih =>
            intro sls h
            cases sls with
            | nil => simp at h
            | cons q qs =>
              simp only [List.zip_cons_cons, List.lookup_cons] at h
              split at h
              · rename_i e; simp at e; subst e; simp
              · exact List.mem_cons_of_mem _ (ih qs h)
        exact this _ _ hy
      exact ⟨.inl (hlocs y this).1, (hlocs y this).2⟩
    · exact absurd ⟨y, l, h1⟩ (noMut_vs a)
    · exact absurd hm (noMut_vs a)
  have hLv : Lv r (A.deeper (callEnv (defFd nm nm params body sc mainGlobals dV kwdV ann pm (.ref c') doc) s.heap.objs.size fa)) := by
    obtain ⟨env, l, h1, _⟩ := henv
    refine ⟨hh, by show A.depth + 1 + r ≤ 400; omega, by show A.units + 3 + 3 * r ≤ 400; omega, _, env :: l, by show A.frames.map _ = _; rw [h1]; rfl, hgen, hco, rfl, rfl⟩
  have hbr := fun (s₁ : Shared) (hs : Sim ⟨X, nm, sc, r, hk⟩ s.heap.objs.size (names.zip (vs1 (ps ++ dps))) s₁.heap) => hbody.run s.heap.objs.size (some fa, some s.heap.objs.size) (.ref c') _ s₁ hLv hs
  unfold Fc.env at hbr
  rw [show cellsFrom (s.heap.objs.size + 1) (Fc.sc ⟨X, nm, sc, r, hk⟩).names [] = [] from cells_none _ _ _ hcell] at hbr
  refine wpAny_mono (hbr _ hS) (fun f s' ⟨o', σ', hA', hf, hq⟩ => ?_) fun _ _ e => e.elim
  subst hq
  cases f with
  | ret v =>
    refine ⟨?_, hf⟩
    obtain ⟨h', tk', rfl⟩ := hA'.same
    refine ⟨h', tk', rfl, fun b o e => ?_⟩
    exact hA'.kb.keep b o (fun hb => absurd (Nat.lt_of_lt_of_le (Heap.lt_size e) (own_ge hb)) (Nat.lt_irrefl _)) (noMut_vs b) (hkeep b o e)
  | next => exact hf.elim
  | brk => exact hf.elim
  | cont => exact hf.elim



/-! ## stores -/
theorem ns_not_seq {sc : Scope} {h : Heap} {L b : Addr} {m} (hn : VNs sc L h m) (hb : Own sc L b) {o : Obj} (ho : h.get? b = some o) {xs n} (hd : o.data = .seq xs n) : False := by
  obtain ⟨o', ho', hne⟩ := hn.own hb
  rw [ho'] at ho; cases ho
  exact hne _ _ hd

theorem seqLe_sameBut {sc : Scope} {h h' : Heap} {L : Addr} {m} (hn : VNs sc L h m) (hs : SameOwn sc L h h') : SeqLe h.get? h'.get? := fun a o ho ⟨xs, n, hd⟩ => by
  by_cases e : Own sc L a
  · exact (ns_not_seq hn e ho hd).elim
  · exact (hs.eq a e).trans ho

theorem seqLe_off {S : Addr → Prop} {h h' : Heap} (k : SeqLe h.get? h'.get?) : SeqLe (off S h) (off S h') := fun a o ho hd => by
  rw [off_some] at ho ⊢; exact ⟨ho.1, k a o ho.2 hd⟩

theorem SlotOK.seqLe {S : Addr → Prop} {h h' : Heap} {v : Value} {sl : Slot} (x : SlotOK S h v sl) (k : SeqLe h.get? h'.get?) : SlotOK S h' v sl := by
  cases sl with
  | v p => exact Rep.mono (seqLe_off k) p x
  | m a l =>
    obtain ⟨e, vs, hp, hr, hf⟩ := x
    exact ⟨e, vs, hp.mono k, Reps.mono (seqLe_off k) l hr, hf⟩

theorem SlotOK.off {S S' : Addr → Prop} {h h' : Heap} {v : Value} {sl : Slot} (x : SlotOK S h v sl) (k : SeqLe (off S h) (off S' h')) (hp : ∀ a l vs, sl = .m a l → MList h.get? a vs → MList h'.get? a vs) : SlotOK S' h' v sl := by
  cases sl with
  | v p => exact Rep.mono k p x
  | m a l =>
    obtain ⟨e, vs, hpl, hr, hf⟩ := x
    exact ⟨e, vs, hp a l _ rfl hpl, Reps.mono k l hr, hf⟩

theorem lookup_cons_ne {x y : PySem.Str} {sl : Slot} {σ : PEnv} (h : y ≠ x) : List.lookup y ((x, sl) :: σ) = List.lookup y σ := by
  rw [List.lookup_cons]
  have : (y == x) = false := by simpa using h
  rw [this]
theorem lookup_cons_eq {x : PySem.Str} {sl : Slot} {σ : PEnv} : List.lookup x ((x, sl) :: σ) = some sl := by
  rw [List.lookup_cons]; simp

theorem Sim.plain {C L σ h} (hS : Sim C L σ h) {a} (hm : Mut σ a) : ∃ vs : List Value, ISeq h.get? a "list" vs := by
  obtain ⟨x, l, hx⟩ := hm
  obtain ⟨m, F, hsl⟩ := hS.fr
  obtain ⟨v, _, _, vs, hp, _⟩ := hsl x _ hx
  exact ⟨vs, hp.iseq⟩

theorem plain_some {h : Heap} {a vs} (hp : ISeq h.get? a "list" vs) : h.get? a ≠ Option.none := by
  obtain ⟨o, e, _⟩ := hp; rw [e]; exact fun x => by cases x

/-- binding a name to a slot: `h₀` before the value was made, `h` behind it, `h'` behind the store -/
theorem Sim.store {C : Fc} {L : Addr} {σ : PEnv} {h₀ h h' : Heap} {m : PySem.Str → Option Value} {x : PySem.Str} {v : Value} {sl : Slot}
    (hS : Sim C L σ h₀) (k : HLe h₀ h) (F : Frm C.X.hb C.sc L h m) (hsl : ∀ y sl', σ.lookup y = some sl' → ∃ w, m y = some w ∧ SlotOK (Mut σ) h₀ w sl')
    (hn : VNs C.sc L h' (fun y => if y = x then some v else m y)) (hs : SameOwn C.sc L h h')
    (hx : LocS C.sc x)
    (hnew : SlotOK (Mut ((x, sl) :: σ)) h v sl) (hfresh : ∀ a l, sl = .m a l → h₀.get? a = none) :
    Sim C L ((x, sl) :: σ) h' := by
  have hle : SeqLe h.get? h'.get? := seqLe_sameBut F.ns hs
  have hmut : ∀ a, Mut ((x, sl) :: σ) a → Mut σ a ∨ ∃ l, sl = .m a l := by
    rintro a ⟨y, l, hy⟩
    by_cases e : y = x
    · subst e; rw [lookup_cons_eq] at hy; cases hy; exact .inr ⟨l, rfl⟩
    · rw [lookup_cons_ne e] at hy; exact .inl ⟨y, l, hy⟩
  refine ⟨⟨_, ⟨hn, fun b o e => ?_, F.new⟩, fun y sl' hy => ?_⟩, fun y sl' hy => ?_, fun y z a l l' h1 h2 => ?_, fun a hm => ?_⟩
  · have hb : ¬ Own C.sc L b := fun hb => by rw [F.new b hb] at e; cases e
    exact (hs.eq b hb).trans (F.keep b o e)
  · by_cases e : y = x
    · subst e
      rw [lookup_cons_eq] at hy; cases hy
      exact ⟨v, by simp, hnew.seqLe hle⟩
    · rw [lookup_cons_ne e] at hy
      obtain ⟨w, hw, hok⟩ := hsl y sl' hy
      refine ⟨w, by simp [e, hw], hok.off (fun a o ho hd => ?_) (fun a l vs _ hp => ?_)⟩
      · rw [off_some] at ho ⊢
        refine ⟨fun hm => ?_, hle a o (k a o ho.2) hd⟩
        rcases hmut a hm with h1 | ⟨l, h1⟩
        · exact ho.1 h1
        · rw [hfresh a l h1] at ho; cases ho.2
      · exact hp.mono fun a o ho hd => hle a o (k a o ho) hd
  · by_cases e : y = x
    · subst e; exact hx
    · rw [lookup_cons_ne e] at hy; exact hS.loc y sl' hy
  · have hf : ∀ z l, z ≠ x → List.lookup z σ = some (.m a l) → h₀.get? a ≠ none := fun z l _ hz =>
      let ⟨vs, hp⟩ := hS.plain ⟨z, l, hz⟩; plain_some hp
    by_cases e1 : y = x
    · by_cases e2 : z = x
      · rw [e1, e2]
      · subst e1
        rw [lookup_cons_eq] at h1; cases h1
        rw [lookup_cons_ne e2] at h2
        exact absurd (hfresh a l rfl) (hf z l' e2 h2)
    · rw [lookup_cons_ne e1] at h1
      by_cases e2 : z = x
      · subst e2
        rw [lookup_cons_eq] at h2; cases h2
        exact absurd (hfresh a l' rfl) (hf y l e1 h1)
      · rw [lookup_cons_ne e2] at h2
        exact hS.uniq y z a l l' h1 h2
  · rcases hmut a hm with h1 | ⟨l, h1⟩
    · exact hS.fresh a h1
    · have h0 := hfresh a l h1
      refine ⟨?_, ?_⟩
      · cases e : C.X.hb.get? a with
        | none => rfl
        | some o => have := hS.hbIn a o e; rw [h0] at this; cases this
      · exact fun hb => hS.ownSome hb h0

theorem mut_cons {x sl σ a} (hm : Mut ((x, sl) :: σ) a) : Mut σ a ∨ ∃ l, sl = .m a l := by
  obtain ⟨y, l, hy⟩ := hm
  by_cases e : y = x
  · subst e; rw [lookup_cons_eq] at hy; cases hy; exact .inr ⟨l, rfl⟩
  · rw [lookup_cons_ne e] at hy; exact .inl ⟨y, l, hy⟩

def noMut : PEnv → Bool
  | [] => true
  | (_, .v _) :: r => noMut r
  | (_, .m _ _) :: _ => false
theorem noMut_spec : ∀ {σ : PEnv}, noMut σ = true → NoMut σ
  | [], _, _, ⟨_, _, h⟩ => by simp at h
  | (x, .v p) :: r, h, a, hm => by
    rcases mut_cons hm with h1 | ⟨l, h1⟩
    · exact noMut_spec (σ := r) (by simpa [noMut] using h) a h1
    · cases h1
  | (_, .m _ _) :: _, h, _, _ => by simp [noMut] at h

/-- a value that may be bound: it holds no list, or no list can change -/
def Bindable (σ : PEnv) (p : PV) : Prop := flat p = true ∨ noMut σ = true
theorem Bindable.slot {C L σ h x p v} (hb : Bindable σ p) (hS : Sim C L σ h) (hr : Rep h.get? p v) : SlotOK (Mut ((x, .v p) :: σ)) h v (.v p) := by
  show Rep _ _ _
  rcases hb with hf | hm
  · refine Rep.monoF (fun a o ho hc hd => off_some.mpr ⟨fun hm => ?_, ho⟩) p hf hr
    rcases mut_cons hm with h1 | ⟨l, h1⟩
    · obtain ⟨vs, o', hp, hc', _⟩ := hS.plain h1
      rw [hp] at ho; cases ho
      rw [hc'] at hc; simp at hc
    · cases h1
  · refine Rep.mono (fun a o ho hd => off_some.mpr ⟨fun hm' => ?_, ho⟩) p hr
    rcases mut_cons hm' with h1 | ⟨l, h1⟩
    · exact noMut_spec hm a h1
    · cases h1

theorem store_name {C : Fc} {L ad cd A σ} {s₀ s : Shared} {x : PySem.Str} {v : Value} {p : PV} {Q : Unit → Shared → Prop}
    (hS : Sim C L σ s₀.heap) (k : Keeps s₀ s) (hr : Rep s.heap.get? p v) (hb : Bindable σ p)
    (hx : LocS C.sc x)
    (h : ∀ s', After C L σ s₀ ((x, .v p) :: σ) s' → SeqLe s.heap.get? s'.heap.get? → Q () s') :
    wpAny C.M A (storeName (C.env L ad cd) x v) Q NoE s := by
  obtain ⟨m, F, hsl⟩ := hS.fr
  have F' := F.grownK (kle k)
  refine F'.ns.store hx (fun h' tk hn hs => ?_)
  refine h _ ⟨hS.store (kle k) F' hsl hn hs hx (hb.slot (hS.keeps (kle k)) hr) (fun a l e => by cases e), ⟨fun b o hbL _ e => ?_, fun b e => ?_⟩, fun a hm => ?_, ?_⟩ (seqLe_sameBut F'.ns hs)
  · exact (hs.eq b hbL).trans (kle k b o e)
  · by_cases hbL : Own C.sc L b
    · exact hn.isSome hbL
    · show h'.get? b ≠ none
      rw [hs.eq b hbL]
      cases e' : s₀.heap.get? b with
      | none => exact absurd e' e
      | some o => rw [kle k b o e']; exact fun x => by cases x
  · rcases mut_cons hm with h1 | ⟨l, h1⟩
    · exact .inl h1
    · cases h1
  · obtain ⟨h1, tk, rfl, _⟩ := k
    exact ⟨_, _, rfl⟩

/-! ## statements -/
section
variable {C : Fc} {σ : PEnv} {Q : Out → PEnv → Prop}

theorem bl_nil (h : Q .next σ) : ExB C σ [] Q := .mk fun L ad cd A s hA hS => wpAny_execs_nil (env := C.env L ad cd) ⟨.next, σ, After.of_keeps hS krfl, trivial, h⟩

theorem FlowIs.next_inv {h o} (x : FlowIs h .next o) : o = .next := by cases o <;> first | rfl | exact x.elim

def Seq (C : Fc) (rest : List Stmt) (Q : Out → PEnv → Prop) : Out → PEnv → Prop
  | .next, σ' => ExB C σ' rest Q
  | o, σ' => Q o σ'

theorem bl_cons {st rest} (h : ExS C σ st (Seq C rest Q)) : ExB C σ (st :: rest) Q := .mk fun L ad cd A s hA hS => by
  refine wpAny_execs_cons (wpAny_mono (h.run L ad cd A s hA hS) (fun f s₁ ⟨o, σ', hA₁, hf, hq⟩ => ?_) fun _ _ e => e)
  cases f with
  | next =>
    have := hf.next_inv; subst this
    refine wpAny_mono (hq.run L ad cd A s₁ hA hA₁.sim) (fun f' s₂ ⟨o', σ'', hA₂, hf', hq'⟩ => ⟨o', σ'', hA₁.trans hA₂, hf', hq'⟩) fun _ _ e => e
  | brk => cases o <;> first | exact hf.elim | exact ⟨_, σ', hA₁, hf, hq⟩
  | cont => cases o <;> first | exact hf.elim | exact ⟨_, σ', hA₁, hf, hq⟩
  | ret v => cases o <;> first | exact hf.elim | exact ⟨_, σ', hA₁, hf, hq⟩

theorem st_ret {e pos p} (he : EvE C σ e p) (h : Q (.ret p) σ) : ExS C σ (.Return (some e) pos) Q := .mk fun L ad cd A s hA hS =>
  wpAny_Return_some (wpAny_mono (he.run L ad cd A s hA hS) (fun v s₁ ⟨k, r⟩ => ⟨.ret p, σ, After.of_keeps hS k, r, h⟩) fun _ _ e => e)

theorem st_if {t b1 b2 pos c} (ht : EvT C σ t c) (h1 : c = true → ExB C σ b1 Q) (h2 : c = false → ExB C σ b2 Q) : ExS C σ (.If t b1 b2 pos) Q := .mk fun L ad cd A s hA hS => by
  refine wpAny_If (wpAny_mono (ht.run L ad cd A s hA hS) (fun b s₁ ⟨e, k⟩ => ?_) fun _ _ e => e)
  subst e
  have hS₁ := hS.keeps (kle k)
  cases b with
  | true => exact wpAny_mono ((h1 rfl).run L ad cd A s₁ hA hS₁) (fun f s₂ ⟨o, σ', hA₂, hf, hq⟩ => ⟨o, σ', (After.of_keeps hS k).trans hA₂, hf, hq⟩) fun _ _ e => e
  | false => exact wpAny_mono ((h2 rfl).run L ad cd A s₁ hA hS₁) (fun f s₂ ⟨o, σ', hA₂, hf, hq⟩ => ⟨o, σ', (After.of_keeps hS k).trans hA₂, hf, hq⟩) fun _ _ e => e

/-- a name of the frame's that may be stored to -/
abbrev Loc (C : Fc) (x : PySem.Str) : Prop := LocS C.sc x

theorem st_assign {x px e pos p} (he : EvE C σ e p) (hb : Bindable σ p) (hx : Loc C x) (h : Q .next ((x, .v p) :: σ))
    (hs : ∀ env, swapsWith e (some (.Name x px)) pos.line env = pure false := by intro _; rfl) : ExS C σ (.Assign [.Name x px] e pos) Q := .mk fun L ad cd A s hA hS => by
  refine wpAny_Assign_Name (wpAny_mono (he.run L ad cd A s hA hS) (fun v s₁ ⟨k, r⟩ => ?_) fun _ _ e => e) (hs _)
  exact store_name hS k r hb hx fun s' hA' _ => ⟨.next, _, hA', trivial, h⟩

theorem st_aug {x px op e pos a b p} (ha : σ.lookup x = some (.v a)) (he : EvE C σ e b)
    (hop : ∀ A s va vb, Lv C.r A → HbIn C.X s.heap → Rep s.heap.get? a va → Rep s.heap.get? b vb → wpAny C.M A (inplaceOp op va vb) (Post s p) NoE s)
    (hb : Bindable σ p) (h : Q .next ((x, .v p) :: σ)) : ExS C σ (.AugAssign (.Name x px) op e pos) Q := .mk fun L ad cd A s hA hS => by
  obtain ⟨m, F, hsl⟩ := hS.fr
  obtain ⟨v, hv, hok⟩ := hsl x _ ha
  refine wpAny_AugAssign_Name (F.ns.load (hS.loc x _ ha) hv ?_)
  refine wpAny_mono (he.run L ad cd A s hA hS) (fun vb s₁ ⟨k, r⟩ => ?_) fun _ _ e => e
  refine wpAny_mono (hop A s₁ v vb hA (hS.keeps (kle k)).hbIn (krep k hok.val) r) (fun w s₂ ⟨k', r'⟩ => ?_) fun _ _ e => e
  exact store_name hS (ktrans k k') r' hb (hS.loc x _ ha) fun s' hA' _ => ⟨.next, _, hA', trivial, h⟩

theorem bindable_int {i} : Bindable σ (.int i) := .inl rfl

theorem st_addi {x px e pos a b} (ha : σ.lookup x = some (.v (.int a))) (he : EvE C σ e (.int b)) (h : Q .next ((x, .v (.int (a + b))) :: σ)) : ExS C σ (.AugAssign (.Name x px) .Add e pos) Q :=
  st_aug ha he (fun A s va vb _ _ h1 h2 => by
    obtain ⟨t, rfl⟩ := h1.int_inv
    obtain ⟨u, rfl⟩ := h2.int_inv
    exact wpAny_iadd_int ⟨ktoks, rep_int⟩) bindable_int h
theorem st_subi {x px e pos a b} (ha : σ.lookup x = some (.v (.int a))) (he : EvE C σ e (.int b)) (h : Q .next ((x, .v (.int (a - b))) :: σ)) : ExS C σ (.AugAssign (.Name x px) .Sub e pos) Q :=
  st_aug ha he (fun A s va vb _ _ h1 h2 => by
    obtain ⟨t, rfl⟩ := h1.int_inv
    obtain ⟨u, rfl⟩ := h2.int_inv
    exact isub_int ⟨ktoks, rep_int⟩) bindable_int h
theorem st_muli {x px e pos a b} (ha : σ.lookup x = some (.v (.int a))) (he : EvE C σ e (.int b)) (hm : IntMulOk a b) (h : Q .next ((x, .v (.int (a * b))) :: σ)) : ExS C σ (.AugAssign (.Name x px) .Mult e pos) Q :=
  st_aug ha he (fun A s va vb _ _ h1 h2 => by
    obtain ⟨t, rfl⟩ := h1.int_inv
    obtain ⟨u, rfl⟩ := h2.int_inv
    exact imul_int ⟨ktoks, rep_int⟩ hm) bindable_int h
theorem st_fdivi {x px e pos a b} (ha : σ.lookup x = some (.v (.int a))) (he : EvE C σ e (.int b)) (hb : b ≠ 0) (h : Q .next ((x, .v (.int (a.fdiv b))) :: σ)) : ExS C σ (.AugAssign (.Name x px) .FloorDiv e pos) Q :=
  st_aug ha he (fun A s va vb hA hH h1 h2 => by
    obtain ⟨t, rfl⟩ := h1.int_inv
    obtain ⟨u, rfl⟩ := h2.int_inv
    exact ifloordiv_int hb ⟨ktoks, rep_int⟩ (.inr (room_pylong hA hH))) bindable_int h
theorem st_modi {x px e pos a b} (ha : σ.lookup x = some (.v (.int a))) (he : EvE C σ e (.int b)) (hb : b ≠ 0) (h : Q .next ((x, .v (.int (a.fmod b))) :: σ)) : ExS C σ (.AugAssign (.Name x px) .Mod e pos) Q :=
  st_aug ha he (fun A s va vb hA hH h1 h2 => by
    obtain ⟨t, rfl⟩ := h1.int_inv
    obtain ⟨u, rfl⟩ := h2.int_inv
    exact imod_int hb ⟨ktoks, rep_int⟩) bindable_int h
theorem st_andi {x px e pos a b} (ha : σ.lookup x = some (.v (.int a))) (he : EvE C σ e (.int b)) (h : Q .next ((x, .v (.int (Builtin.bitAnd a b))) :: σ)) : ExS C σ (.AugAssign (.Name x px) .BitAnd e pos) Q :=
  st_aug ha he (fun A s va vb hA hH h1 h2 => by
    obtain ⟨t, rfl⟩ := h1.int_inv
    obtain ⟨u, rfl⟩ := h2.int_inv
    exact iand_int ⟨ktoks, rep_int⟩) bindable_int h
end


/-! ## loops -/
def NotSeq (wr : List Addr) (h : Heap) : Prop := ∀ b ∈ wr, ∃ o, h.get? b = some o ∧ ∀ xs n, o.data ≠ .seq xs n

/-- an iterator stands ready to give the items -/
structure WalkOf (C : Fc) (A : Around) (L : Addr) (σ : PEnv) (s s₂ : Shared) (it : Value) (items : List PV) : Prop where
  k : Keeps s s₂
  w : ∃ I fp wr P St, it = .ref I ∧ Walks C.X.prog C.X.w A I fp wr items.length P St ∧ St 0 s₂.heap ∧ (∀ b ∈ wr, s.heap.get? b = none) ∧
    (∀ b ∈ fp, ¬ Own C.sc L b ∧ ¬ Mut σ b ∧ s₂.heap.get? b ≠ none) ∧ (∀ i h, St i h → NotSeq wr h) ∧
    (∀ i v p, P i v → items[i]? = some p → Rep s₂.heap.get? p v) ∧
    (∀ i s', St i s'.heap → ∀ v (Q : Unit → Shared → Prop) ts k pos, Q () s' → wpAny C.M A (letOwnedTupleGo (.Tuple ts k pos) it v) Q NoE s')

structure EvI (C : Fc) (σ : PEnv) (e : Expr) (items : List PV) : Prop where
  run : ∀ L ad cd A s, Lv C.r A → Sim C L σ s.heap →
    wpAny C.M A (eval e (C.env L ad cd)) (fun x s₁ => wpAny C.M A (pyIter x) (fun it s₂ => WalkOf C A L σ s s₂ it items) NoE s₁) NoE s

/-- what a turn's end must give -/
def Turn (I : PEnv → Prop) (Q : Out → PEnv → Prop) : Out → PEnv → Prop
  | .next, σ => ∃ σ', Sub σ σ' ∧ I σ'
  | .cont, σ => ∃ σ', Sub σ σ' ∧ I σ'
  | .brk, σ => Q .next σ
  | .ret p, σ => Q (.ret p) σ

/-- the loop's state: relative to the state s₂ where the iterator was made -/
structure AfterL (C : Fc) (L : Addr) (σ : PEnv) (wr : List Addr) (s₂ : Shared) (σ' : PEnv) (s' : Shared) : Prop where
  sim : Sim C L σ' s'.heap
  keep : ∀ b o, ¬ Own C.sc L b → ¬ Mut σ b → b ∉ wr → s₂.heap.get? b = some o → s'.heap.get? b = some o
  some : ∀ b, s₂.heap.get? b ≠ Option.none → s'.heap.get? b ≠ Option.none
  new : ∀ a, Mut σ' a → Mut σ a ∨ s₂.heap.get? a = none
  same : Same s₂ s'

theorem Sim.wr {C L σ h h'} {wr : List Addr} (hS : Sim C L σ h) (hk : ∀ b o, b ∉ wr → h.get? b = some o → h'.get? b = some o) (hL : ∀ b, Own C.sc L b → b ∉ wr) (hhb : ∀ b ∈ wr, C.X.hb.get? b = none)
    (hns : NotSeq wr h) : Sim C L σ h' := by
  obtain ⟨m, F, hsl⟩ := hS.fr
  have hle : SeqLe h.get? h'.get? := fun a o ho ⟨xs, n, hd⟩ => hk a o (fun hw => by
    obtain ⟨o', ho', hne⟩ := hns a hw
    rw [ho'] at ho; cases ho
    exact hne xs n hd) ho
  refine ⟨⟨m, ⟨F.ns.at' fun b o hb e => hk b o (hL b hb) e, fun b o e => hk b o (fun hw => by rw [hhb b hw] at e; cases e) (F.keep b o e), F.new⟩, fun y sl hy => ?_⟩, hS.loc, hS.uniq, hS.fresh⟩
  obtain ⟨v, hv, hok⟩ := hsl y sl hy
  exact ⟨v, hv, hok.seqLe hle⟩

theorem AfterL.wr {C L σ s₂ σ' s' h' tk} {wr : List Addr} (x : AfterL C L σ wr s₂ σ' s') (hk : ∀ b o, b ∉ wr → s'.heap.get? b = Option.some o → h'.get? b = Option.some o) (hL : ∀ b, Own C.sc L b → b ∉ wr) (hhb : ∀ b ∈ wr, C.X.hb.get? b = none)
    (hns : NotSeq wr s'.heap) (hns' : NotSeq wr h') : AfterL C L σ wr s₂ σ' { s' with heap := h', toks := tk } where
  sim := x.sim.wr hk hL hhb hns
  keep := fun b o hb hm hw e => hk b o hw (x.keep b o hb hm hw e)
  some := fun b e => by
    by_cases hw : b ∈ wr
    · obtain ⟨o, ho, _⟩ := hns' b hw
      show h'.get? b ≠ Option.none
      rw [ho]; exact fun x => by cases x
    · cases e' : s'.heap.get? b with
      | none => exact absurd e' (x.some b e)
      | some o => show h'.get? b ≠ Option.none; rw [hk b o hw e']; exact fun x => by cases x
  new := x.new
  same := by obtain ⟨h, t, e⟩ := x.same; exact ⟨h', tk, by rw [e]⟩

theorem AfterL.then {C L σ s₂ σ' s' σ'' s''} {wr : List Addr} (x : AfterL C L σ wr s₂ σ' s') (y : After C L σ' s' σ'' s'') : AfterL C L σ wr s₂ σ'' s'' where
  sim := y.sim
  keep := fun b o hb hm hw e => y.kb.keep b o hb (fun hm' => by
    rcases x.new b hm' with h | h
    · exact hm h
    · rw [h] at e; cases e) (x.keep b o hb hm hw e)
  some := fun b e => y.kb.some b (x.some b e)
  new := fun a hm => by
    rcases y.new a hm with h | h
    · exact x.new a h
    · right
      cases e : s₂.heap.get? a with
      | none => rfl
      | some o => exact absurd h (x.some a (by rw [e]; exact fun x => by cases x))
  same := x.same.trans y.same

section
variable {C : Fc} {σ : PEnv} {Q : Out → PEnv → Prop}

/-- how a target takes a value -/
structure Takes (C : Fc) (target : Expr) (p : PV) (bd : PEnv → PEnv) : Prop where
 run :
  ∀ L ad cd A σ (s : Shared) v (R : Unit → Shared → Prop), Lv C.r A → Sim C L σ s.heap → Rep s.heap.get? p v → flat p = true →
    (∀ s', After C L σ s (bd σ) s' → R () s') → wpAny C.M A (assign target (C.env L ad cd) v) R NoE s

theorem takes_name {x px p} (hx : Loc C x) : Takes C (.Name x px) p (fun σ => (x, .v p) :: σ) := .mk fun L ad cd A σ s v R hA hS hr hf h => by
  refine assign_Name ?_
  exact store_name hS krfl hr (.inl hf) hx fun s' hA' _ => h s' hA'

theorem flows {h : Heap} {f : Flow} {o : Out} (x : FlowIs h f o) : (f = .next ∧ o = .next) ∨ (f = .brk ∧ o = .brk) ∨ (f = .cont ∧ o = .cont) ∨ ∃ v p, f = .ret v ∧ o = .ret p ∧ Rep h.get? p v := by
  cases f <;> cases o <;> first | exact x.elim | exact .inr (.inr (.inr ⟨_, _, rfl, rfl, x⟩)) | simp

theorem st_for {target it body pos items} {bd : PV → PEnv → PEnv} (hi : EvI C σ it items) (hflat : ∀ p ∈ items, flat p = true) (htk : ∀ p ∈ items, Takes C target p (bd p))
    (I : List PV → PEnv → Prop) (h0 : ∃ σ₀, Sub σ σ₀ ∧ I [] σ₀)
    (step : ∀ pre p post σ', items = pre ++ p :: post → I pre σ' → ExB C (bd p σ') body (Turn (I (pre ++ [p])) Q))
    (fin : ∀ σ', I items σ' → Q .next σ')
    (hset : ∀ env x, foldedSetIterable it env x = pure x := by intro _ _; rfl)
    (htgt : (∃ x px, target = .Name x px) ∨ (∃ ts k tp, target = .Tuple ts k tp) := by exact .inl ⟨_, _, rfl⟩) :
    ExS C σ (.For target it body [] pos) Q := .mk fun L ad cd A s hA hS => by
  refine wpAny_For (wpAny_mono (hi.run L ad cd A s hA hS) (fun x s₁ h₁ => wpAny_mono h₁ (fun itv s₂ hw => ?_) fun _ _ e => e) fun _ _ e => e) (hset _)
  clear h₁
  obtain ⟨hk, I', fp, wr, P, St, rfl, W, hst, hnew, hfp, hex, hrep, htup⟩ := hw
  obtain ⟨σ₀, hsub, hI0⟩ := h0
  have hL : ∀ b, Own C.sc L b → b ∉ wr := fun b hb hw => (hfp b (W.sub b hw)).1 hb
  have hhb : ∀ b ∈ wr, C.X.hb.get? b = none := fun b hb => by
    cases e : C.X.hb.get? b with
    | none => rfl
    | some o => have := hS.hbIn b o e; rw [hnew b hb] at this; cases this
  have fin' : ∀ σ'' s'', AfterL C L σ wr s₂ σ'' s'' → After C L σ s σ'' s'' := fun σ'' s'' hf =>
    ⟨hf.sim, ⟨fun b o hb hm e => hf.keep b o hb hm (fun hw => by rw [hnew b hw] at e; cases e) (kle hk b o e), fun b e => hf.some b (by
        cases e' : s.heap.get? b with
        | none => exact absurd e' e
        | some o => rw [kle hk b o e']; exact fun x => by cases x)⟩, fun a hm => (hf.new a hm).imp id (fun h => by
        cases e' : s.heap.get? a with
        | none => rfl
        | some o => rw [kle hk a o e'] at h; cases h), (Same.of_keeps hk).trans hf.same⟩
  refine codeAny_forLoop_any (fun k s' => ∃ pre post σ', items = pre ++ post ∧ k = post.length ∧ I pre σ' ∧ AfterL C L σ wr s₂ σ' s' ∧ St pre.length s'.heap) ?_ items.length
    ⟨[], items, σ₀, rfl, rfl, hI0, ⟨(hS.keeps (kle hk)).sub hsub, fun b o _ _ _ e => e, fun b e => e, fun a hm => .inl (hsub.mut hm), ⟨s₂.heap, s₂.toks, rfl⟩⟩, hst⟩
  rintro k s' ⟨pre, post, σ', hitems, rfl, hIp, hAf, hSt⟩
  cases post with
  | nil =>
    have hlen : pre.length = items.length := by rw [hitems]; simp
    have hpre : pre = items := by rw [hitems]; simp
    subst hpre
    refine W.done s' _ _ (hlen ▸ hSt) fun h₁ tk₁ hk₁ => wpAny_execs_nil ?_
    refine ⟨.next, σ', ?_, trivial, fin σ' hIp⟩
    have hsim := hAf.sim.wr hk₁ hL hhb (hex _ _ hSt)
    refine ⟨hsim, ⟨fun b o hb hm e => ?_, fun b e => ?_⟩, fun a hm => (fin' _ _ hAf).new a hm, ?_⟩
    · exact hk₁ b o (fun hw => by rw [hnew b hw] at e; cases e) ((fin' _ _ hAf).kb.keep b o hb hm e)
    · have h1 := (fin' _ _ hAf).kb.some b e
      cases e' : s'.heap.get? b with
      | none => exact absurd e' h1
      | some o =>
        show h₁.get? b ≠ none
        rw [hk₁ b o (fun hw => e (hnew b hw)) e']; exact fun x => by cases x
    · obtain ⟨h, t, e⟩ := (fin' _ _ hAf).same; exact ⟨h₁, tk₁, by rw [e]⟩
  | cons p post =>
    have hlt : pre.length < items.length := by rw [hitems]; simp
    have hp : p ∈ items := by rw [hitems]; simp
    refine W.item pre.length s' _ _ hlt hSt fun v h₁ tk₁ hPv hSt₁ hk₁ => ?_
    have hAf₁ : AfterL C L σ wr s₂ σ' { s' with heap := h₁, toks := tk₁ } := hAf.wr hk₁ hL hhb (hex _ _ hSt) (hex _ _ hSt₁)
    have hgo : wpAny C.M A (letOwnedTupleGo target (.ref I') v) (fun _ s₃ => s₃ = { s' with heap := h₁, toks := tk₁ }) NoE { s' with heap := h₁, toks := tk₁ } := by
      rcases htgt with ⟨x, px, rfl⟩ | ⟨ts, k, tp, rfl⟩
      · exact wpAny_pure (a := ()) rfl
      · exact htup _ { s' with heap := h₁, toks := tk₁ } hSt₁ v (fun _ s₃ => s₃ = { s' with heap := h₁, toks := tk₁ }) ts k tp rfl
    refine wpAny_mono hgo (fun _ s₃ e₃ => ?_) fun _ _ e => e.elim
    subst e₃
    have hr : Rep h₁.get? p v := by
      have h1 : Rep s₂.heap.get? p v := hrep _ _ _ hPv (by rw [hitems]; simp)
      refine Rep.monoF (fun a o ho hc ⟨xs, n, hd⟩ => ?_) p (hflat p hp) h1
      refine hAf₁.keep a o (fun e => ?_) (fun hm => ?_) (fun hw => ?_) ho
      · obtain ⟨m, F, _⟩ := (hS.keeps (kle hk)).fr
        exact ns_not_seq F.ns e ho hd
      · obtain ⟨vs, o', hp', hc', _⟩ := (hS.keeps (kle hk)).plain hm
        rw [hp'] at ho; cases ho; rw [hc'] at hc; simp at hc
      · obtain ⟨o', ho', hne⟩ := hex _ _ hst a hw
        rw [ho'] at ho; cases ho; exact hne _ _ hd
    refine wpAny_mono ((htk p hp).run L ad cd A σ' _ v (fun _ s₃ => After C L σ' { s' with heap := h₁, toks := tk₁ } (bd p σ') s₃) hA hAf₁.sim hr (hflat p hp) fun s₃ h => h) (fun _ s₃ h₃ => ?_) fun _ _ e => e.elim
    have hAf₃ := hAf₁.then h₃
    refine wpAny_mono ((step pre p post σ' hitems hIp).run L ad cd A s₃ hA hAf₃.sim) (fun f s₄ ⟨o, σ₄, hA₄, hf, hq⟩ => ?_) fun _ _ e => e.elim
    have hAf₄ := hAf₃.then hA₄
    have hSt₄ : ∀ σ₅, Sub σ₄ σ₅ → I (pre ++ [p]) σ₅ → ∃ m, m < (p :: post).length ∧ ∃ pre' post' σ'', items = pre' ++ post' ∧ m = post'.length ∧ I pre' σ'' ∧ AfterL C L σ wr s₂ σ'' s₄ ∧ St pre'.length s₄.heap := fun σ₅ hs hI5 => by
      refine ⟨post.length, by simp, pre ++ [p], post, σ₅, by rw [hitems]; simp, rfl, hI5, ⟨hAf₄.sim.sub hs, hAf₄.keep, hAf₄.some, fun a hm => hAf₄.new a (hs.mut hm), hAf₄.same⟩, ?_⟩
      rw [List.length_append, List.length_singleton]
      refine W.frame _ h₁ _ hSt₁ fun b hb o e => ?_
      have hb1 := hfp b hb
      have hb2 : ¬ Mut σ' b := fun hm => by
        rcases hAf.new b hm with h | h
        · exact hb1.2.1 h
        · exact hb1.2.2 h
      have hb3 : ¬ Mut (bd p σ') b := fun hm => by
        rcases hAf₃.new b hm with h | h
        · exact hb1.2.1 h
        · exact hb1.2.2 h
      exact hA₄.kb.keep b o hb1.1 hb3 (h₃.kb.keep b o hb1.1 hb2 e)
    rcases flows hf with ⟨rfl, rfl⟩ | ⟨rfl, rfl⟩ | ⟨rfl, rfl⟩ | ⟨v', q, rfl, rfl, hr'⟩
    · obtain ⟨σ₅, hs, hI5⟩ := hq
      exact hSt₄ σ₅ hs hI5
    · exact ⟨.next, σ₄, fin' _ _ hAf₄, trivial, hq⟩
    · obtain ⟨σ₅, hs, hI5⟩ := hq
      exact hSt₄ σ₅ hs hI5
    · exact ⟨.ret q, σ₄, fin' _ _ hAf₄, hr', hq⟩

/-- while, by a measure -/
theorem st_while {test body pos} (I : Nat → PEnv → Prop) (n : Nat) (h0 : ∃ σ₀, Sub σ σ₀ ∧ I n σ₀)
    (step : ∀ n σ', I n σ' → ∃ c, EvT C σ' test c ∧ (c = true → ExB C σ' body (Turn (fun σ'' => ∃ m, m < n ∧ I m σ'') Q)) ∧ (c = false → Q .next σ')) :
    ExS C σ (.While test body [] pos) Q := .mk fun L ad cd A s hA hS => by
  obtain ⟨σ₀, hsub, hI0⟩ := h0
  refine wpAny_While (codeAny_whileLoop (fun k s' => ∃ σ', I k σ' ∧ After C L σ s σ' s') ?_ n ⟨σ₀, hI0, (After.of_keeps hS krfl).sub hsub⟩)
  rintro k s' ⟨σ', hI, hAf⟩
  obtain ⟨c, hc, h1, h2⟩ := step k σ' hI
  refine wpAny_mono (hc.run L ad cd A s' hA hAf.sim) (fun b s₁ ⟨e, hk⟩ => ?_) fun _ _ e => e.elim
  subst e
  have hAf₁ := hAf.trans (After.of_keeps hAf.sim hk)
  cases b with
  | false => exact wpAny_execs_nil ⟨.next, σ', hAf₁, trivial, h2 rfl⟩
  | true =>
    refine wpAny_mono ((h1 rfl).run L ad cd A s₁ hA hAf₁.sim) (fun f s₂ ⟨o, σ₂, hA₂, hf, hq⟩ => ?_) fun _ _ e => e.elim
    have hAf₂ := hAf₁.trans hA₂
    rcases flows hf with ⟨rfl, rfl⟩ | ⟨rfl, rfl⟩ | ⟨rfl, rfl⟩ | ⟨v', q, rfl, rfl, hr'⟩
    · obtain ⟨σ₅, hs, m, hm, hI5⟩ := hq
      exact ⟨m, hm, σ₅, hI5, hAf₂.sub hs⟩
    · exact ⟨.next, σ₂, hAf₂, trivial, hq⟩
    · obtain ⟨σ₅, hs, m, hm, hI5⟩ := hq
      exact ⟨m, hm, σ₅, hI5, hAf₂.sub hs⟩
    · exact ⟨.ret q, σ₂, hAf₂, hr', hq⟩
end


section
variable {C : Fc} {σ : PEnv}

theorem isList_of {h : Heap} {a : Addr} {vs : List Value} (x : ISeq h.get? a "list" vs) : h.IsList a vs.toArray := x
theorem isTup_of {h : Heap} {a : Addr} {vs : List Value} (x : ISeq h.get? a "tuple" vs) : IsTup h a vs.toArray := x

/-! ### items -/
theorem ev_subs {v i pos p q r} (hv : EvE C σ v p) (hi : EvE C σ i q)
    (hop : ∀ A s va vb, Lv C.r A → Rep s.heap.get? p va → Rep s.heap.get? q vb → wpAny C.M A (subscriptTail v i va vb) (Post s r) NoE s) :
    EvE C σ (.Subscript v i pos) r := .mk fun L ad cd A s hA hS => by
  refine Subscript_ (wpAny_mono (hv.run L ad cd A s hA hS) (fun va s₁ ⟨k₁, r₁⟩ => ?_) fun _ _ e => e)
  refine wpAny_mono (hi.run L ad cd A s₁ hA (hS.keeps (kle k₁))) (fun vb s₂ ⟨k₂, r₂⟩ => ?_) fun _ _ e => e
  exact wpAny_mono (hop A s₂ va vb hA (krep k₂ r₁) r₂) (fun v s₃ ⟨k₃, r₃⟩ => ⟨ktrans (ktrans k₁ k₂) k₃, r₃⟩) fun _ _ e => e

/-- a slice expression that is no slice: an index -/
def Idx (i : Expr) : Prop := ∀ o v, subscripted i false o v = operate [o, v] (getItem o v)

theorem ev_item {v i pos l k p} (hv : EvE C σ v (.lst l)) (hi : EvE C σ i (.int k)) (h0 : 0 ≤ k) (h1 : k < 2 ^ 63) (hp : l[k.toNat]? = some p) (hx : Idx i := by intro _ _; rfl) :
    EvE C σ (.Subscript v i pos) p := ev_subs hv hi fun A s va vb hA ra rb => by
  obtain ⟨a, vs, rfl, hs, hr⟩ := ra.lst_inv
  obtain ⟨t, rfl⟩ := rb.int_inv
  obtain ⟨w, hw, hrw⟩ := hr.get hp
  exact tail_any (s := s) (T := "list") (Heap.IsList.typeIs (isList_of hs)) slot_list_getitem.lookup (wpAny_getItem_list (isList_of hs) h0 h1 (by simpa using hw) ⟨krfl, hrw⟩) (hx _ _)
theorem ev_itemN {v i pos l k p} (hv : EvE C σ v (.lst l)) (hi : EvE C σ i (.int k)) (h0 : k < 0) (h1 : -(l.length : Int) ≤ k) (h2 : -(2 ^ 63) ≤ k) (hp : l[(k + l.length).toNat]? = some p) (hx : Idx i := by intro _ _; rfl) :
    EvE C σ (.Subscript v i pos) p := ev_subs hv hi fun A s va vb hA ra rb => by
  obtain ⟨a, vs, rfl, hs, hr⟩ := ra.lst_inv
  obtain ⟨t, rfl⟩ := rb.int_inv
  obtain ⟨w, hw, hrw⟩ := hr.get hp
  have hl := hr.length
  refine tail_any (s := s) (T := "list") (Heap.IsList.typeIs (isList_of hs)) slot_list_getitem.lookup (wpAny_getItem_list_neg (isList_of hs) h0 (by simp [hl]; omega) h2 ?_ ⟨krfl, hrw⟩) (hx _ _)
  simpa [hl] using hw
theorem ev_titem {v i pos l k p} (hv : EvE C σ v (.tup l)) (hi : EvE C σ i (.int k)) (h0 : 0 ≤ k) (h1 : k < 2 ^ 63) (hp : l[k.toNat]? = some p) (hx : Idx i := by intro _ _; rfl) :
    EvE C σ (.Subscript v i pos) p := ev_subs hv hi fun A s va vb hA ra rb => by
  obtain ⟨a, vs, rfl, hs, hr⟩ := ra.tup_inv
  obtain ⟨t, rfl⟩ := rb.int_inv
  obtain ⟨w, hw, hrw⟩ := hr.get hp
  have hlt : k.toNat < vs.length := by
    rcases Nat.lt_or_ge k.toNat vs.length with h | h
    · exact h
    · rw [List.getElem?_eq_none h] at hw; cases hw
  refine tail_any (s := s) (T := "tuple") (IsTup.typeIs (isTup_of hs)) slot_tuple_getitem.lookup (getItem_tuple (isTup_of hs) (by omega) h1 (j := k.toNat) ?_ (by simpa using hw) ⟨krfl, hrw⟩) (hx _ _)
  unfold seqIndex?
  have h0' : ¬ k < 0 := by omega
  simp only [h0', if_false]
  rw [if_pos (by simp only [Bool.and_eq_true, decide_eq_true_eq, List.size_toArray]; omega)]

/-! ### new lists -/
structure EvL (C : Fc) (σ : PEnv) (e : Expr) (l : List PV) : Prop where
  run : ∀ L ad cd A s, Lv C.r A → Sim C L σ s.heap →
    wpAny C.M A (eval e (C.env L ad cd)) (fun v s' => ∃ a vs, v = .ref a ∧ s.heap.get? a = none ∧ MList s'.heap.get? a vs ∧ Reps s'.heap.get? l vs ∧ Keeps s s') NoE s
theorem EvL.toE {e l} (h : EvL C σ e l) : EvE C σ e (.lst l) := .mk fun L ad cd A s hA hS =>
  wpAny_mono (h.run L ad cd A s hA hS) (fun v s' ⟨a, vs, e, _, hs, hr, k⟩ => ⟨k, by simp only [Rep]; exact ⟨a, vs, e, hs.iseq, hr⟩⟩) fun _ _ e => e

theorem new_mlist {h : Heap} {vs : List Value} {n : Nat} : MList (h.push { cls := .type "list", data := .seq vs.toArray n }).get? h.objs.size vs :=
  ⟨_, Heap.get?_push_size _ rfl, rfl, rfl, n, rfl⟩
theorem get_next_none {s s₁ : Shared} (k : Keeps s s₁) : s.heap.get? s₁.heap.objs.size = none := by
  cases e : s.heap.get? s₁.heap.objs.size with
  | none => rfl
  | some o => exact absurd (Heap.lt_size (kle k _ _ e)) (Nat.lt_irrefl _)

theorem el_list {es pos ps} (h : EvEs C σ es ps) (hn : ps.length ≤ 1000) : EvL C σ (.List es pos) ps := .mk fun L ad cd A s hA hS => by
  refine List_ (wpAny_mono (h.run L ad cd A s pos hA hS) (fun vs s₁ ⟨k, r⟩ => ?_) fun _ _ e => e)
  refine wpAny_newObj_type ⟨_, vs, rfl, get_next_none k, new_mlist, kreps (s' := { s₁ with heap := s₁.heap.push _ }) kpush r, ktrans k kpush⟩ (by show vs.toArray.size ≤ sizeLine; rw [List.size_toArray, r.length]; exact Nat.le_trans hn (by decide))

theorem el_add {l r pos a b} (hl : EvE C σ l (.lst a)) (hr : EvE C σ r (.lst b)) (hsz : a.length + b.length ≤ 16777216) : EvL C σ (.BinOp l .Add r pos) (a ++ b) := .mk fun L ad cd A s hA hS => by
  refine wpAny_BinOp (wpAny_mono (hl.run L ad cd A s hA hS) (fun va s₁ ⟨k₁, r₁⟩ => ?_) fun _ _ e => e)
  refine wpAny_mono (hr.run L ad cd A s₁ hA (hS.keeps (kle k₁))) (fun vb s₂ ⟨k₂, r₂⟩ => ?_) fun _ _ e => e
  obtain ⟨x, vs, rfl, hs, hv⟩ := (krep k₂ r₁).lst_inv
  obtain ⟨y, ws, rfl, hs', hw⟩ := r₂.lst_inv
  obtain ⟨⟨cls, dd, data, sl⟩, ho, hc, n, hd⟩ := id hs
  obtain ⟨⟨cls2, dd2, data2, sl2⟩, ho2, hc2, n2, hd2⟩ := id hs'
  simp only at hc hd hc2 hd2
  subst hc hd hc2 hd2
  have hlen : vs.length + ws.length ≤ 16777216 := by rw [hv.length, hw.length]; exact hsz
  have e : vs.toArray ++ ws.toArray = (vs ++ ws).toArray := by simp
  refine concat_meets ⟨_, ho, rfl⟩ ⟨_, ho2, rfl⟩ noFill_list_add seq_list_add PySem.F.slot_list_add PySem.F.entry_list_add (PySem.F.args_list_add_2 _ _) (list_addW x y vs.toArray ws.toArray n n2 dd dd2 sl sl2 (by simpa [sizeLine] using hlen)) ⟨ho, ho2, ?_⟩
  rw [e]
  exact ⟨_, vs ++ ws, rfl, get_next_none (ktrans k₁ k₂), new_mlist, kreps (s' := { s₂ with heap := s₂.heap.push _ }) kpush (Reps.append hv hw), ktrans (ktrans k₁ k₂) kpush⟩

theorem el_mul1 {l r pos p} {n : Int} (hl : EvE C σ l (.lst [p])) (hr : EvE C σ r (.int n)) (h0 : 0 ≤ n) (h1 : n ≤ 1000000) : EvL C σ (.BinOp l .Mult r pos) (List.replicate n.toNat p) := .mk fun L ad cd A s hA hS => by
  refine wpAny_BinOp (wpAny_mono (hl.run L ad cd A s hA hS) (fun va s₁ ⟨k₁, r₁⟩ => ?_) fun _ _ e => e)
  refine wpAny_mono (hr.run L ad cd A s₁ hA (hS.keeps (kle k₁))) (fun vb s₂ ⟨k₂, r₂⟩ => ?_) fun _ _ e => e
  obtain ⟨x, vs, rfl, hs, hv⟩ := (krep k₂ r₁).lst_inv
  obtain ⟨u, rfl⟩ := r₂.int_inv
  obtain ⟨w, rfl, hw⟩ := hv.one_inv
  obtain ⟨⟨cls, dd, data, sl⟩, ho, hc, m, hd⟩ := id hs
  simp only at hc hd
  subst hc hd
  have hrep : List.foldl (fun x1 x2 => x1 ++ x2) #[] (List.replicate (if ([w].toArray).isEmpty = true then 0 else n.toNat) [w].toArray) = (List.replicate n.toNat w).toArray := by
    have : ∀ k : Nat, List.foldl (fun x1 x2 => x1 ++ x2) #[] (List.replicate k [w].toArray) = (List.replicate k w).toArray := by
      have gen : ∀ (k : Nat) (acc : List Value), List.foldl (fun x1 x2 => x1 ++ x2) acc.toArray (List.replicate k [w].toArray) = (acc ++ List.replicate k w).toArray := by
        intro k
        induction k with
        | zero => intro acc; simp
        | succ k ih =>
          intro acc
          rw [List.replicate_succ, List.foldl_cons]
          have : acc.toArray ++ [w].toArray = (acc ++ [w]).toArray := by simp
          rw [this, ih, List.replicate_succ]; simp
      intro k; simpa using gen k []
    simpa using this n.toNat
  refine wpAny_binaryOp_repeat_ref (T := "list") (U := "int") (by decide) ⟨_, ho, rfl⟩ (fun s' => typeIs_int s' n u) noFill_list_mul PySem.F.fills_int_mul PySem.F.slot_int_rmul repeat_list PySem.F.slot_int_index.lookup
    (call_meets PySem.F.slot_int_rmul (typeIs_int s₂ n u) PySem.F.entry_int_rmul (PySem.F.args_int_rmul_2 _ _) (lm_int_rmul_list_any n u x _ m dd sl)
      ⟨ho, rfl, ⟨_, ho, rfl⟩, call_meets PySem.F.slot_list_mul ⟨_, ho, rfl⟩ PySem.F.entry_list_mul (PySem.F.args_list_mul_2 _ _)
        (lm_list_mul_any x _ m dd sl n u (by simp [Builtin.List.listFitsIndex]; omega) (by simp; omega) (by simp [Builtin.List.listTooLong, sizeLine]; omega))
        ⟨ho, ?_⟩⟩)
  rw [hrep]
  refine ⟨_, List.replicate n.toNat w, rfl, get_next_none (ktrans k₁ k₂), new_mlist, kreps (s' := { s₂ with heap := s₂.heap.push _ }) kpush ?_, ktrans (ktrans k₁ k₂) kpush⟩
  have : ∀ k : Nat, Reps s₂.heap.get? (List.replicate k p) (List.replicate k w) := by
    intro k
    induction k with
    | zero => exact Reps.nil
    | succ k ih => rw [List.replicate_succ, List.replicate_succ]; exact Reps.cons hw ih
  exact this _

/-! ### slices -/
def EvP (C : Fc) (σ : PEnv) : Option Expr → Option Int → Prop
  | none, none => True
  | some e, some i => EvE C σ e (.int i)
  | _, _ => False

theorem evalPart_wp {o : Option Expr} {i : Option Int} (h : EvP C σ o i) {L ad cd A s} (hA : Lv C.r A) (hS : Sim C L σ s.heap) :
    wpAny C.M A (evalPart o (C.env L ad cd)) (fun v s' => Keeps s s' ∧ IsPart v i) NoE s := by
  cases o with
  | none =>
    cases i with
    | none => exact wpAny_pure ⟨krfl, .none⟩
    | some i => exact h.elim
  | some e =>
    cases i with
    | none => exact h.elim
    | some i =>
      refine wpAny_mono (h.run L ad cd A s hA hS) (fun v s' ⟨k, r⟩ => ⟨k, ?_⟩) fun _ _ e => e
      obtain ⟨t, rfl⟩ := r.int_inv
      exact .int i t

theorem el_slice {v lo up st p pos l ilo iup ist l'} (hv : EvE C σ v (.lst l)) (hlo : EvP C σ lo ilo) (hup : EvP C σ up iup) (hst : EvP C σ st ist) (h0 : ist ≠ some 0) (hlen : l.length ≤ 16777216)
    (hpick : ∀ (g : Addr → Option Obj) (vs : List Value), Reps g l vs → ∃ ws : List Value, slicePick vs.toArray ilo iup ist = ws.toArray ∧ Reps g l' ws)
    (hsub : ∀ o i, ∃ ops, subscripted (.Slice lo up st p) false o i = operate ops (getItem o i)) : EvL C σ (.Subscript v (.Slice lo up st p) pos) l' := .mk fun L ad cd A s hA hS => by
  refine Subscript_ (wpAny_mono (hv.run L ad cd A s hA hS) (fun va s₁ ⟨k₁, r₁⟩ => ?_) fun _ _ e => e)
  have hS₁ := hS.keeps (kle k₁)
  refine wpAny_Slice (wpAny_mono (evalPart_wp hlo hA hS₁) (fun x s₂ ⟨k₂, p₂⟩ => ?_) fun _ _ e => e)
  have hS₂ := hS₁.keeps (kle k₂)
  refine wpAny_mono (evalPart_wp hup hA hS₂) (fun y s₃ ⟨k₃, p₃⟩ => ?_) fun _ _ e => e
  have hS₃ := hS₂.keeps (kle k₃)
  refine wpAny_mono (evalPart_wp hst hA hS₃) (fun z s₄ ⟨k₄, p₄⟩ => ?_) fun _ _ e => e
  have kk := ktrans (ktrans (ktrans k₁ k₂) k₃) k₄
  obtain ⟨a, vs, rfl, hs, hr⟩ := (krep (ktrans (ktrans k₂ k₃) k₄) r₁).lst_inv
  obtain ⟨ws, hws, hrw⟩ := hpick _ vs hr
  obtain ⟨ops, hops⟩ := hsub (.ref a) (.ref s₄.heap.objs.size)
  have hl' : (s₄.heap.push { cls := .type "slice", data := .fields #[x, y, z] }).IsList a vs.toArray := (isList_of hs).push _
  refine tail_any (T := "list") (Heap.IsList.typeIs (s := { s₄ with heap := s₄.heap.push { cls := .type "slice", data := .fields #[x, y, z] } }) hl') slot_list_getitem.lookup
    (wpAny_getItem_list_slice hl' (Heap.IsSliceOf.new ..) p₂ p₃ p₄ h0 ?_ (by rw [List.size_toArray, hr.length]; exact hlen)) hops
  rw [hws]
  have k5 : Keeps s₄ { s₄ with heap := s₄.heap.push { cls := .type "slice", data := .fields #[x, y, z] } } := kpush
  have k6 : Keeps { s₄ with heap := s₄.heap.push { cls := .type "slice", data := .fields #[x, y, z] } } { s₄ with heap := (s₄.heap.push { cls := .type "slice", data := .fields #[x, y, z] }).push { cls := .type "list", data := .seq ws.toArray } } :=
    kpush (s := { s₄ with heap := s₄.heap.push { cls := .type "slice", data := .fields #[x, y, z] } })
  exact ⟨_, ws, rfl, get_next_none (ktrans kk k5), new_mlist, kreps (ktrans k5 k6) hrw, ktrans kk (ktrans k5 k6)⟩

theorem el_from {v e p pos l i} (hv : EvE C σ v (.lst l)) (he : EvE C σ e (.int i)) (h0 : 0 ≤ i) (hlen : l.length ≤ 16777216) : EvL C σ (.Subscript v (.Slice (some e) none none p) pos) (l.drop i.toNat) :=
  el_slice (ilo := some i) (iup := none) (ist := none) hv he trivial trivial (by simp) hlen (fun g vs hr => ⟨vs.drop i.toNat, by
    have := slicePick_from' vs.toArray i.toNat
    rw [show ((i.toNat : Nat) : Int) = i by omega] at this
    simpa using this, hr.drop _⟩) (fun o i => ⟨[i, o], rfl⟩)
theorem el_to {v e p pos l i} (hv : EvE C σ v (.lst l)) (he : EvE C σ e (.int i)) (h0 : 0 ≤ i) (hlen : l.length ≤ 16777216) : EvL C σ (.Subscript v (.Slice none (some e) none p) pos) (l.take i.toNat) :=
  el_slice (ilo := none) (iup := some i) (ist := none) hv trivial he trivial (by simp) hlen (fun g vs hr => ⟨vs.take i.toNat, by
    have := slicePick_upto' vs.toArray i.toNat
    rw [show ((i.toNat : Nat) : Int) = i by omega] at this
    simpa using this, hr.take _⟩) (fun o i => ⟨[i, o], rfl⟩)
theorem el_init {v e p pos l} (hv : EvE C σ v (.lst l)) (he : EvE C σ e (.int (-1))) (hlen : l.length ≤ 16777216) : EvL C σ (.Subscript v (.Slice none (some e) none p) pos) (l.take (l.length - 1)) :=
  el_slice (ilo := none) (iup := some (-1)) (ist := none) hv trivial he trivial (by simp) hlen (fun g vs hr => ⟨vs.take (l.length - 1), by
    have := slicePick_butLast vs.toArray 1 (by decide)
    simpa [hr.length] using this, hr.take _⟩) (fun o i => ⟨[i, o], rfl⟩)
theorem el_rev {v e p pos l} (hv : EvE C σ v (.lst l)) (he : EvE C σ e (.int (-1))) (hlen : l.length ≤ 16777216) : EvL C σ (.Subscript v (.Slice none none (some e) p) pos) l.reverse :=
  el_slice (ilo := none) (iup := none) (ist := some (-1)) hv trivial trivial he (by simp) hlen (fun g vs hr => ⟨vs.reverse, by
    have := krv_pick vs.toArray
    simpa using this, hr.reverse⟩) (fun o i => ⟨[o, i], rfl⟩)
theorem el_run {v e f p pos l i j} (hv : EvE C σ v (.lst l)) (he : EvE C σ e (.int i)) (hf : EvE C σ f (.int j)) (h0 : 0 ≤ i) (h1 : 0 ≤ j) (hlen : l.length ≤ 16777216) : EvL C σ (.Subscript v (.Slice (some e) (some f) none p) pos) ((l.take j.toNat).drop i.toNat) :=
  el_slice (ilo := some i) (iup := some j) (ist := none) hv he hf trivial (by simp) hlen (fun g vs hr => ⟨(vs.take j.toNat).drop i.toNat, by
    have hb : sliceBounds (some i) (some j) none vs.toArray.size = (((min i.toNat vs.length : Nat) : Int), ((min j.toNat vs.length : Nat) : Int), 1) := by
      simp only [sliceBounds, List.size_toArray, Option.getD_none, show (1 : Int) > 0 by decide, if_true, show ¬ i < 0 by omega, show ¬ j < 0 by omega, if_false, Prod.mk.injEq]
      refine ⟨by omega, by omega, trivial⟩
    rw [kmk_pick_nat vs.toArray hb]
    congr 1
    simp only []
    rw [List.drop_take]
    by_cases h : i.toNat ≤ vs.length
    · rw [Nat.min_eq_left h]
      by_cases h2 : j.toNat ≤ vs.length
      · rw [Nat.min_eq_left h2]
      · rw [Nat.min_eq_right (by omega), List.take_of_length_le (by simp), List.take_of_length_le (by simp; omega)]
    · rw [Nat.min_eq_right (by omega : vs.length ≤ i.toNat), List.drop_of_length_le (Nat.le_refl _), List.drop_of_length_le (by omega)]
      simp, (hr.take _).drop _⟩) (fun o i => ⟨[i, o], rfl⟩)

end


section
variable {X : Cx} {r : Nat}

/-! ### builtin functions -/
theorem bf_abs {a : Int} : BFn X r (.builtin "abs") [.int a] (.int (if a < 0 then -a else a)) := .mk fun A s vs hA hH hR => by
  obtain ⟨v, rfl, h1⟩ := hR.one_inv
  obtain ⟨t, rfl⟩ := h1.int_inv
  exact call_abs_int fun u tk => ⟨ktoks, rep_int⟩
theorem bf_max {a b : Int} : BFn X r (.builtin "max") [.int a, .int b] (.int (if b > a then b else a)) := .mk fun A s vs hA hH hR => by
  obtain ⟨v, w, rfl, h1, h2⟩ := hR.two_inv
  obtain ⟨t, rfl⟩ := h1.int_inv
  obtain ⟨u, rfl⟩ := h2.int_inv
  refine max_two_ints hA.1 fun h' tk hk => ⟨kof hk, ?_⟩
  split <;> exact rep_int
theorem bf_min {a b : Int} : BFn X r (.builtin "min") [.int a, .int b] (.int (if b < a then b else a)) := .mk fun A s vs hA hH hR => by
  obtain ⟨v, w, rfl, h1, h2⟩ := hR.two_inv
  obtain ⟨t, rfl⟩ := h1.int_inv
  obtain ⟨u, rfl⟩ := h2.int_inv
  refine min_two_ints hA.1 fun h' tk hk => ⟨kof hk, ?_⟩
  split <;> exact rep_int
theorem room_pylong' {A s} (hA : Lv r A) (hb : HbIn X s.heap) : PySem.PylongRoom X.M A s := by
  obtain ⟨_, hd, _, env, l, h1, h2, h3, h4, h5⟩ := hA
  exact PySem.PylongRoom.of (X.nolimit.keeps hb) (by have : Builtin.pylongFrames ≤ 500 := by decide
                                                     show A.depth + Builtin.pylongFrames < 1000
                                                     omega) (PySem.SeerAt.of (X.seer.keeps hb) X.tree h1 h2 h3 h4 h5)
theorem bf_divmod {a b : Int} (hb : b ≠ 0) : BFn X r (.builtin "divmod") [.int a, .int b] (.tup [.int (a.fdiv b), .int (a.fmod b)]) := .mk fun A s vs hA hH hR => by
  obtain ⟨v, w, rfl, h1, h2⟩ := hR.two_inv
  obtain ⟨t, rfl⟩ := h1.int_inv
  obtain ⟨u, rfl⟩ := h2.int_inv
  refine divmod_int hb ⟨kpush, ?_⟩ (.inr (room_pylong' hA hH))
  simp only [Rep]
  exact ⟨_, [_, _], rfl, new_seq, Reps.cons rep_int (Reps.cons rep_int Reps.nil)⟩
theorem bf_len {l : List PV} (hl : l.length < 2 ^ 62) : BFn X r (.builtin "len") [.lst l] (.int l.length) := .mk fun A s vs hA hH hR => by
  obtain ⟨v, rfl, h1⟩ := hR.one_inv
  obtain ⟨a, vs, rfl, hs, hr⟩ := h1.lst_inv
  have e := hr.length
  refine PyProof.Rows.len_list (isList_of hs) (by simp only [List.size_toArray, e]; omega) ⟨ktoks, ?_⟩
  simp only [List.size_toArray, e]; exact rep_int
theorem bf_list {l : List PV} (hl : l.length ≤ 16777216) : BFn X r (.type "list") [.lst l] (.lst l) := .mk fun A s vs hA hH hR => by
  obtain ⟨v, rfl, h1⟩ := hR.one_inv
  obtain ⟨a, vs, rfl, ⟨o, ho, hc, n, hd⟩, hr⟩ := h1.lst_inv
  refine call_list_seq (o := o) (items := vs.toArray) (n := n) a (.inl rfl) ho hc hd (fun h' c' hk hn => ⟨kof (tk := s.toks) hk, ?_⟩) (by rw [List.size_toArray, hr.length]; exact hl)
  simp only [Rep]
  exact ⟨_, vs, rfl, ⟨_, hn, rfl, c', rfl⟩, Reps.mono (SeqLe.of hk) l hr⟩
theorem bf_type_bool {b : Bool} : BFn X r (.type "type") [.bool b] (.typ "bool") := .mk fun A s vs hA hH hR => by
  obtain ⟨v, rfl, h1⟩ := hR.one_inv
  rw [h1.bool_inv]
  exact call_type_of (Tx := "bool") rfl (by decide) ⟨krfl, by simp only [Rep]⟩
theorem bf_type_int {b : Int} : BFn X r (.type "type") [.int b] (.typ "int") := .mk fun A s vs hA hH hR => by
  obtain ⟨v, rfl, h1⟩ := hR.one_inv
  obtain ⟨t, rfl⟩ := h1.int_inv
  exact call_type_of (Tx := "int") rfl (by decide) ⟨krfl, by simp only [Rep]⟩
theorem bf_type_tup {l : List PV} : BFn X r (.type "type") [.tup l] (.typ "tuple") := .mk fun A s vs hA hH hR => by
  obtain ⟨v, rfl, h1⟩ := hR.one_inv
  obtain ⟨a, vs, rfl, hs, hr⟩ := h1.tup_inv
  exact call_type_of (Tx := "tuple") (IsTup.typeIs (isTup_of hs)) (by decide) ⟨krfl, by simp only [Rep]⟩
theorem Rep.typ_inv {g i v} (h : Rep g (.typ i) v) : v = .type i := by simpa only [Rep] using h
theorem isi_bool_bool {b : Bool} : BFn X r (.builtin "isinstance") [.bool b, .typ "bool"] (.bool true) := .mk fun A s vs hA hH hR => by
  obtain ⟨v, w, rfl, h1, h2⟩ := hR.two_inv
  rw [h1.bool_inv, h2.typ_inv]
  exact call_isinstance_yes (Tx := "bool") rfl (by kernel_rfl) PyProof.Rows.sub_bool_bool ⟨krfl, rep_bool⟩
theorem isi_int_int {b : Int} : BFn X r (.builtin "isinstance") [.int b, .typ "int"] (.bool true) := .mk fun A s vs hA hH hR => by
  obtain ⟨v, w, rfl, h1, h2⟩ := hR.two_inv
  obtain ⟨t, rfl⟩ := h1.int_inv
  rw [h2.typ_inv]
  exact call_isinstance_yes (Tx := "int") rfl (by kernel_rfl) PyProof.Rows.sub_int_int ⟨krfl, rep_bool⟩
theorem isi_int_bool {b : Int} : BFn X r (.builtin "isinstance") [.int b, .typ "bool"] (.bool false) := .mk fun A s vs hA hH hR => by
  obtain ⟨v, w, rfl, h1, h2⟩ := hR.two_inv
  obtain ⟨t, rfl⟩ := h1.int_inv
  rw [h2.typ_inv]
  exact call_isinstance (isinstance_false_int (T := "bool") (by decide) (by kernel_rfl) PyProof.Rows.sub_int_bool) ⟨ktoks, rep_bool⟩

/-! ### sum of intL -/
def intL (ns : List Int) : List PV := ns.map PV.int

theorem reps_ints {g} : ∀ {ns : List Int} {vs : List Value}, Reps g (intL ns) vs → IntsAre vs ns
  | [], _, h => by have := h.nil_inv; subst this; exact .nil
  | n :: ns, _, h => by
    obtain ⟨v, ws, rfl, h1, h2⟩ := h.cons_inv
    obtain ⟨t, rfl⟩ := h1.int_inv
    exact .cons n t (reps_ints h2)
theorem ints_reps {g} : ∀ {ns : List Int} {vs : List Value}, IntsAre vs ns → Reps g (intL ns) vs
  | [], _, .nil => Reps.nil
  | n :: ns, _, .cons _ t h => Reps.cons rep_int (ints_reps h)

theorem preSum_take (val : Nat → Int) : ∀ (n : Nat), preSum val n = ((List.range n).map val).sum
  | 0 => by simp [preSum]
  | n + 1 => by rw [preSum, preSum_take val n, List.range_succ]; simp

theorem bf_sum {ns : List Int} : BFn X r (.builtin "sum") [.lst (intL ns)] (.int ns.sum) := .mk fun A s vs hA hH hR => by
  obtain ⟨v, rfl, h1⟩ := hR.one_inv
  obtain ⟨a, vs, rfl, hs, hr⟩ := h1.lst_inv
  have hI := reps_ints hr
  refine call_sum_walkG (wpAny_pyIter_list (isList_of hs) ?_)
  have hne : a ≠ s.heap.objs.size := by
    obtain ⟨o, ho, _⟩ := hs
    exact Nat.ne_of_lt (Heap.lt_size ho)
  refine ⟨_, _, _, _, _, _, (fun i => ns.getD i 0), rfl, Walks.list (A := A.in1) hA.1 s.heap.objs.size a hne vs.toArray, ⟨⟨_, Heap.get?_push_size _ rfl, rfl, rfl⟩, (isList_of hs).push _⟩, ?_, ?_, ?_⟩
  · intro b hb
    simp only [List.mem_cons, List.mem_singleton, List.not_mem_nil, or_false] at hb
    show b < (s.heap.push _).objs.size
    rw [Heap.size_push]
    rcases hb with rfl | rfl
    · exact Nat.lt_succ_self _
    · obtain ⟨o, ho, _⟩ := hs
      exact Nat.lt_succ_of_lt (Heap.lt_size ho)
  · intro i v hv
    have hv' : vs[i]? = some v := by simpa using hv
    have hlt : i < vs.length := by
      rcases Nat.lt_or_ge i vs.length with h | h
      · exact h
      · rw [List.getElem?_eq_none h] at hv'; cases hv'
    have hlt' : i < ns.length := by rw [← hI.length]; exact hlt
    obtain ⟨t, ht⟩ := hI.get i ns[i] (by simp [hlt'])
    rw [ht] at hv'
    refine ⟨t, ?_⟩
    cases hv'
    simp [List.getD, hlt']
  · intro h' tk t' hk
    refine ⟨kof (h := h') (tk := tk) fun b o e => hk b o (fun hb => ?_) (Heap.get?_push_of_some _ e), ?_⟩
    · rw [List.mem_singleton.mp hb] at e; exact absurd (Heap.lt_size e) (Nat.lt_irrefl _)
    · have e : preSum (fun i => ns.getD i 0) vs.toArray.size = ns.sum := by
        rw [preSum_take]
        congr 1
        apply List.ext_getElem
        · simp [hI.length]
        · intro i h1 h2
          simp [List.getD, h2]
      rw [e]; exact rep_int
end

/-! ### comparing data -/
mutual
def dat : PV → PyData
  | .int i => .int i
  | .bool b => .bool b
  | .str s => .str s
  | .none => .none
  | .typ _ => .none
  | .tup l => .tuple (dats l)
  | .lst l => .list (dats l)
def dats : List PV → List PyData
  | [] => []
  | p :: ps => dat p :: dats ps
end
mutual
def okd : PV → Bool
  | .typ _ => false
  | .str _ => false
  | .tup l => okds l
  | .lst l => okds l
  | _ => true
def okds : List PV → Bool
  | [] => true
  | p :: ps => okd p && okds ps
end
mutual
theorem rep_reads {h : Heap} : ∀ (p : PV) {v : Value}, okd p = true → Rep h.get? p v → ∃ as, Reads h v (dat p) as
  | .int i, _, _, hr => by obtain ⟨t, rfl⟩ := hr.int_inv; exact ⟨_, .int _ _⟩
  | .bool b, _, _, hr => by rw [hr.bool_inv]; exact ⟨_, .bool _⟩
  | .none, _, _, hr => by simp only [Rep] at hr; rw [hr]; exact ⟨_, .none⟩
  | .str _, _, ho, _ => by simp [okd] at ho
  | .typ _, _, ho, _ => by simp [okd] at ho
  | .tup l, _, ho, hr => by
    obtain ⟨a, vs, rfl, ⟨o, ho', hc, n, hd⟩, hrs⟩ := hr.tup_inv
    obtain ⟨as, hra⟩ := reps_reads l (by simpa [okd] using ho) hrs
    exact ⟨as, .tuple ho' hc hd (by simpa using hra)⟩
  | .lst l, _, ho, hr => by
    obtain ⟨a, vs, rfl, ⟨o, ho', hc, n, hd⟩, hrs⟩ := hr.lst_inv
    obtain ⟨as, hra⟩ := reps_reads l (by simpa [okd] using ho) hrs
    exact ⟨a :: as, .list ho' hc hd (by simpa using hra)⟩
theorem reps_reads {h : Heap} : ∀ (ps : List PV) {vs : List Value}, okds ps = true → Reps h.get? ps vs → ∃ as, ReadsAll h vs (dats ps) as
  | [], _, _, hr => by rw [hr.nil_inv]; exact ⟨_, .nil⟩
  | p :: ps, _, ho, hr => by
    obtain ⟨v, ws, rfl, h1, h2⟩ := hr.cons_inv
    simp only [okds, Bool.and_eq_true] at ho
    obtain ⟨as, ha⟩ := rep_reads p ho.1 h1
    obtain ⟨bs, hb⟩ := reps_reads ps ho.2 h2
    exact ⟨as ++ bs, .cons ha hb⟩
end
mutual
theorem okd_lay : ∀ (p : PV), okd p = true → (dat p).canLay0 = true
  | .int _, _ => by simp [dat, PyData.canLay0]
  | .bool _, _ => by simp [dat, PyData.canLay0]
  | .none, _ => by simp [dat, PyData.canLay0]
  | .str _, h => by simp [okd] at h
  | .typ _, h => by simp [okd] at h
  | .tup l, h => by simp only [dat, PyData.canLay0]; exact okds_lay l (by simpa [okd] using h)
  | .lst l, h => by simp only [dat, PyData.canLay0]; exact okds_lay l (by simpa [okd] using h)
theorem okds_lay : ∀ (ps : List PV), okds ps = true → PyData.canLayAll0 (dats ps) = true
  | [], _ => by simp [dats, PyData.canLayAll0]
  | p :: ps, h => by
    simp only [okds, Bool.and_eq_true] at h
    simp only [dats, PyData.canLayAll0, Bool.and_eq_true]
    exact ⟨okd_lay p h.1, okds_lay ps h.2⟩
end

theorem dats_ints (ns : List Int) : dats (intL ns) = ns.map PyData.int := by
  induction ns with
  | nil => rfl
  | cons n ns ih => simp only [intL, List.map_cons, dats, dat] at ih ⊢; rw [ih]
theorem okds_ints (ns : List Int) : okds (intL ns) = true := by
  induction ns with
  | nil => rfl
  | cons n ns ih => simp only [intL, List.map_cons, okds, okd, Bool.true_and] at ih ⊢; exact ih
theorem flats_ints (ns : List Int) : flats (intL ns) = true := by
  induction ns with
  | nil => rfl
  | cons n ns ih => simp only [intL, List.map_cons, flats, flat, Bool.true_and] at ih ⊢; exact ih
theorem depth_ints (ns : List Int) : PyData.depthAll (ns.map PyData.int) = 0 := by
  induction ns with
  | nil => rfl
  | cons n ns ih => simp [PyData.depthAll, PyData.depth, ih]

section
variable {C : Fc} {σ : PEnv}
theorem cmp_eqd {p q : PV} (hp : okd p = true) (hq : okd q = true) (dp : (dat p).depth ≤ 64) (dq : (dat q).depth ≤ 64) : CmpIs C .Eq p q (PyData.eqv (dat p) (dat q)) := .mk fun A s va vb hA _ h1 h2 => by
  obtain ⟨as, ra⟩ := rep_reads p hp h1
  obtain ⟨bs, rb⟩ := rep_reads q hq h2
  exact eq_dataH ra rb (by simp [SeqAt.shaped, okd_lay p hp, dp]) (by simp [SeqAt.shaped, okd_lay q hq, dq]) (by have := hA.2.2.1; show A.units + 64 < 9900; omega) ⟨rfl, krfl⟩
theorem cmp_ned {p q : PV} (hp : okd p = true) (hq : okd q = true) (dp : (dat p).depth ≤ 64) (dq : (dat q).depth ≤ 64) : CmpIs C .NotEq p q (!PyData.eqv (dat p) (dat q)) := .mk fun A s va vb hA _ h1 h2 => by
  obtain ⟨as, ra⟩ := rep_reads p hp h1
  obtain ⟨bs, rb⟩ := rep_reads q hq h2
  exact ne_dataH ra rb (by simp [SeqAt.shaped, okd_lay p hp, dp]) (by simp [SeqAt.shaped, okd_lay q hq, dq]) (by have := hA.2.2.1; show A.units + 64 < 9900; omega) ⟨rfl, krfl⟩
theorem cmp_neti {a c : Bool} {b d : Int} : CmpIs C .NotEq (.tup [.bool a, .int b]) (.tup [.bool c, .int d]) (!decide (a = c ∧ b = d)) := by
  have h := cmp_ned (C := C) (p := .tup [.bool a, .int b]) (q := .tup [.bool c, .int d]) rfl rfl (by simp [dat, dats, PyData.depth, PyData.depthAll]) (by simp [dat, dats, PyData.depth, PyData.depthAll])
  have e : PyData.eqv (dat (.tup [.bool a, .int b])) (dat (.tup [.bool c, .int d])) = decide (a = c ∧ b = d) := by
    simp only [dat, dats, PyData.eqv, PyData.eqvAll, Bool.and_true]
    by_cases h1 : a = c <;> by_cases h2 : b = d <;> simp [h1, h2]
  rw [e] at h; exact h
theorem cmp_neii {a b c d : Int} : CmpIs C .NotEq (.tup [.int a, .int b]) (.tup [.int c, .int d]) (!decide (a = c ∧ b = d)) := by
  have h := cmp_ned (C := C) (p := .tup [.int a, .int b]) (q := .tup [.int c, .int d]) rfl rfl (by simp [dat, dats, PyData.depth, PyData.depthAll]) (by simp [dat, dats, PyData.depth, PyData.depthAll])
  have e : PyData.eqv (dat (.tup [.int a, .int b])) (dat (.tup [.int c, .int d])) = decide (a = c ∧ b = d) := by
    simp only [dat, dats, PyData.eqv, PyData.eqvAll, Bool.and_true]
    by_cases h1 : a = c <;> by_cases h2 : b = d <;> simp [h1, h2]
  rw [e] at h; exact h
theorem eqv_ints (ns ms : List Int) : PyData.eqv (dat (.lst (intL ns))) (dat (.lst (intL ms))) = decide (ns = ms) := by
  simp only [dat, PyData.eqv, dats_ints]; exact ked_eqvAll ns ms
theorem cmp_eql {ns ms : List Int} : CmpIs C .Eq (.lst (intL ns)) (.lst (intL ms)) (decide (ns = ms)) := by
  have h := cmp_eqd (C := C) (p := .lst (intL ns)) (q := .lst (intL ms)) (by simp [okd, okds_ints]) (by simp [okd, okds_ints]) (by simp [dat, PyData.depth, dats_ints, depth_ints]) (by simp [dat, PyData.depth, dats_ints, depth_ints])
  rw [eqv_ints] at h; exact h
theorem cmp_nel {ns ms : List Int} : CmpIs C .NotEq (.lst (intL ns)) (.lst (intL ms)) (!decide (ns = ms)) := by
  have h := cmp_ned (C := C) (p := .lst (intL ns)) (q := .lst (intL ms)) (by simp [okd, okds_ints]) (by simp [okd, okds_ints]) (by simp [dat, PyData.depth, dats_ints, depth_ints]) (by simp [dat, PyData.depth, dats_ints, depth_ints])
  rw [eqv_ints] at h; exact h
theorem cmp_isnot {S T : String} : CmpIs C .IsNot (.typ S) (.typ T) (!(Value.type S == Value.type T)) := .mk fun A s va vb hA _ h1 h2 => by
  rw [h1.typ_inv, h2.typ_inv]
  exact isnot_type ⟨rfl, krfl⟩

/-- a builtin's name as a value -/
theorem ev_typ {x T pos} (hb : x ∈ bnames) (hboot : bootBuiltins x = some (.type T)) (hx : C.sc.names.lookup x = some .globalImplicit) (hd : (x == ("__debug__" : PySem.Str)) = false) (hn : x ≠ "__name__") :
    EvE C σ (.Name x pos) (.typ T) := .mk fun L ad cd A s hA hS => name_builtin hS hb hboot hx hd hn ⟨krfl, by simp only [Rep]⟩

theorem tr_int {i : Int} : TruthIs C (.int i) (decide (i ≠ 0)) := .mk fun A s v _ h => by
  obtain ⟨t, rfl⟩ := h.int_inv
  refine PyProof.Rows.truthy_int ⟨?_, krfl⟩
  by_cases h : i = 0 <;> simp [h]
theorem tr_str {x : PySem.Str} (hl : x.length < 2 ^ 62) : TruthIs C (.str x) (decide (x.length ≠ 0)) := .mk fun A s v _ h => by
  obtain ⟨t, rfl⟩ := h.str_inv
  refine PySem.P.truthy_str (by omega) ⟨?_, ktoks⟩
  by_cases h : x.length = 0 <;> simp [h]
end


section
variable {C : Fc} {σ : PEnv} {Q : Out → PEnv → Prop}

/-- a builtin's name in this frame -/
def Glb (C : Fc) (x : PySem.Str) : Prop := C.sc.names.lookup x = some .globalImplicit

theorem plain1 {e : Expr} (h : ∀ env, starEach [e] env = [(false, eval e env)]) : AllPlain [e] := ⟨h, trivial⟩

theorem ev_abs {e xp pos a} (h : EvE C σ e (.int a)) (hx : Glb C "abs") (hp : AllPlain [e]) : EvE C σ (.Call (.Name "abs" xp) [e] [] pos) (.int (a.natAbs : Int)) := by
  have := ev_bcall (xp := xp) (pos := pos) (es_cons h es_nil hp.1) (bf_abs (X := C.X) (r := C.r)) (by decide +kernel) boot_abs hx (by decide +kernel) (by decide +kernel) hp
  have e : (if a < 0 then -a else a) = (a.natAbs : Int) := by split <;> omega
  rw [e] at this; exact this
theorem ev_len {e xp pos l} (h : EvE C σ e (.lst l)) (hl : l.length < 2 ^ 62) (hx : Glb C "len") (hp : AllPlain [e]) : EvE C σ (.Call (.Name "len" xp) [e] [] pos) (.int (l.length : Int)) :=
  ev_bcall (es_cons h es_nil hp.1) (bf_len hl) (by decide +kernel) boot_len hx (by decide +kernel) (by decide +kernel) hp
theorem ev_list_of {e xp pos l} (h : EvE C σ e (.lst l)) (hl : l.length ≤ 16777216) (hx : Glb C "list") (hp : AllPlain [e]) : EvE C σ (.Call (.Name "list" xp) [e] [] pos) (.lst l) :=
  ev_tcall (es_cons h es_nil hp.1) (bf_list hl) (by decide +kernel) PyProof.Rows.boot_list hx (by decide +kernel) (by decide +kernel) hp
theorem ev_sum {e xp pos ns} (h : EvE C σ e (.lst (intL ns))) (hx : Glb C "sum") (hp : AllPlain [e]) : EvE C σ (.Call (.Name "sum" xp) [e] [] pos) (.int ns.sum) :=
  ev_bcall (es_cons h es_nil hp.1) bf_sum (by decide +kernel) boot_sum hx (by decide +kernel) (by decide +kernel) hp
theorem ev_max {e f xp pos a b} (h : EvE C σ e (.int a)) (h' : EvE C σ f (.int b)) (hx : Glb C "max") (hp : AllPlain [e, f]) : EvE C σ (.Call (.Name "max" xp) [e, f] [] pos) (.int (max a b)) := by
  have := ev_bcall (xp := xp) (pos := pos) (es_cons h (es_cons h' es_nil hp.2.1) hp.1) (bf_max (X := C.X) (r := C.r)) (by decide +kernel) boot_max hx (by decide +kernel) (by decide +kernel) hp
  have e : (if b > a then b else a) = max a b := by split <;> omega
  rw [e] at this; exact this
theorem ev_min {e f xp pos a b} (h : EvE C σ e (.int a)) (h' : EvE C σ f (.int b)) (hx : Glb C "min") (hp : AllPlain [e, f]) : EvE C σ (.Call (.Name "min" xp) [e, f] [] pos) (.int (min a b)) := by
  have := ev_bcall (xp := xp) (pos := pos) (es_cons h (es_cons h' es_nil hp.2.1) hp.1) (bf_min (X := C.X) (r := C.r)) (by decide +kernel) boot_min hx (by decide +kernel) (by decide +kernel) hp
  have e : (if b < a then b else a) = min a b := by split <;> omega
  rw [e] at this; exact this
theorem ev_divmod {e f xp pos a b} (h : EvE C σ e (.int a)) (h' : EvE C σ f (.int b)) (hb : b ≠ 0) (hx : Glb C "divmod") (hp : AllPlain [e, f]) : EvE C σ (.Call (.Name "divmod" xp) [e, f] [] pos) (.tup [.int (a.fdiv b), .int (a.fmod b)]) :=
  ev_bcall (es_cons h (es_cons h' es_nil hp.2.1) hp.1) (bf_divmod hb) (by decide +kernel) boot_divmod hx (by decide +kernel) (by decide +kernel) hp
theorem ev_isi {e f xp pos p T c} (h : EvE C σ e p) (h' : EvE C σ f (.typ T)) (hf : BFn C.X C.r (.builtin "isinstance") [p, .typ T] (.bool c)) (hx : Glb C "isinstance") (hp : AllPlain [e, f]) : EvE C σ (.Call (.Name "isinstance" xp) [e, f] [] pos) (.bool c) :=
  ev_bcall (es_cons h (es_cons h' es_nil hp.2.1) hp.1) hf (by decide +kernel) boot_isinstance hx (by decide +kernel) (by decide +kernel) hp
theorem ev_type {e xp pos p T} (h : EvE C σ e p) (hf : BFn C.X C.r (.type "type") [p] (.typ T)) (hx : Glb C "type") (hp : AllPlain [e]) : EvE C σ (.Call (.Name "type" xp) [e] [] pos) (.typ T) :=
  ev_tcall (es_cons h es_nil hp.1) hf (by decide +kernel) PyProof.Rows.boot_type hx (by decide +kernel) (by decide +kernel) hp
theorem ev_nbool {pos} (hx : Glb C "bool") : EvE C σ (.Name "bool" pos) (.typ "bool") := ev_typ (by decide +kernel) PyProof.Rows.boot_bool hx (by decide +kernel) (by decide +kernel)
theorem ev_nint {pos} (hx : Glb C "int") : EvE C σ (.Name "int" pos) (.typ "int") := ev_typ (by decide +kernel) PyProof.Rows.boot_int hx (by decide +kernel) (by decide +kernel)
theorem ev_ntuple {pos} (hx : Glb C "tuple") : EvE C σ (.Name "tuple" pos) (.typ "tuple") := ev_typ (by decide +kernel) PyProof.Rows.boot_tuple hx (by decide +kernel) (by decide +kernel)

/-! ### iterables -/
theorem walk_list {A L s s₁} {a : Addr} {vs : List Value} {l : List PV} (hA : Lv C.r A) (k : Keeps s s₁) (hs : ISeq s₁.heap.get? a "list" vs) (hr : Reps s₁.heap.get? l vs) (haL : ¬ Own C.sc L a) (ham : ¬ Mut σ a) (hL : ∀ b, Own C.sc L b → s.heap.get? b ≠ none)
    (hmut : ∀ b, Mut σ b → s.heap.get? b ≠ none) :
    wpAny C.M A (pyIter (.ref a)) (fun it s₂ => WalkOf C A L σ s s₂ it l) NoE s₁ := by
  refine wpAny_pyIter_list (isList_of hs) ?_
  have hlt : a < s₁.heap.objs.size := by obtain ⟨o, ho, _⟩ := hs; exact Heap.lt_size ho
  have hne : a ≠ s₁.heap.objs.size := Nat.ne_of_lt hlt
  have k2 : Keeps s₁ { s₁ with heap := s₁.heap.push { cls := .type "list_iterator", data := .fields #[.ref a, .int 0 0] } } := kpush
  have hlen : vs.toArray.size = l.length := by simp [hr.length]
  have W := Walks.list (prog := C.X.prog) (w := C.X.w) (A := A) hA.1 s₁.heap.objs.size a hne vs.toArray
  rw [hlen] at W
  have hnew := get_next_none k
  refine ⟨ktrans k k2, ⟨_, _, _, _, _, rfl, W, ⟨⟨_, Heap.get?_push_size _ rfl, rfl, rfl⟩, (isList_of hs).push _⟩, ?_, ?_, ?_, ?_, ?_⟩⟩
  · intro b hb; rw [List.mem_singleton.mp hb]; exact hnew
  · intro b hb
    simp only [List.mem_cons, List.not_mem_nil, or_false] at hb
    rcases hb with rfl | rfl
    · refine ⟨fun e => hL _ e hnew, fun hm => hmut _ hm hnew, ?_⟩
      show (s₁.heap.push _).get? s₁.heap.objs.size ≠ none
      rw [Heap.get?_push_size _ rfl]; exact fun x => by cases x
    · refine ⟨haL, ham, ?_⟩
      obtain ⟨o, ho, _⟩ := hs
      show (s₁.heap.push _).get? b ≠ none
      rw [Heap.get?_push_of_some _ ho]; exact fun x => by cases x
  · rintro i h ⟨⟨o, ho, hc, hd⟩, _⟩ b hb
    rw [List.mem_singleton.mp hb]
    exact ⟨o, ho, fun xs n e => by rw [hd] at e; cases e⟩
  · intro i v p hv hp
    obtain ⟨w, hw, hrw⟩ := hr.get hp
    have hv' : vs[i]? = some v := by simpa using hv
    rw [hw] at hv'; cases hv'
    exact krep k2 hrw
  · rintro i s' ⟨⟨o, ho, hc, hd⟩, _⟩ v Q ts kk pos hq
    unfold letOwnedTupleGo
    cases v with
    | ref b =>
      refine wpAny_bind (wpAny_load ho ?_)
      rw [hc, hd]
      have : (["enumerate", "zip", "dict_itemiterator", "dict_reverseitemiterator", "odict_iterator", "itertools.zip_longest", "itertools.pairwise"].contains "list_iterator") = false := by decide
      simp only [this, Bool.false_and, Bool.false_eq_true, if_false]
      exact wpAny_pure hq
    | _ => exact wpAny_pure hq

theorem Sim.mutSome {L h} (hS : Sim C L σ h) : ∀ b, Mut σ b → h.get? b ≠ none := fun b hm => let ⟨vs, hp⟩ := hS.plain hm; plain_some hp

theorem ei_new {e l} (h : EvL C σ e l) : EvI C σ e l := .mk fun L ad cd A s hA hS =>
  wpAny_mono (h.run L ad cd A s hA hS) (fun v s₁ ⟨a, vs, e, hn, hs, hr, k⟩ => by
    subst e
    exact walk_list hA k hs.iseq hr (fun e => hS.ownSome e hn) (fun hm => hS.mutSome a hm hn) (fun _ hb => hS.ownSome hb) hS.mutSome) fun _ _ e => e

theorem ei_name {x pos l} (hx : σ.lookup x = some (.v (.lst l))) : EvI C σ (.Name x pos) l := .mk fun L ad cd A s hA hS => by
  obtain ⟨m, F, hsl⟩ := hS.fr
  obtain ⟨v, hv, hok⟩ := hsl x _ hx
  refine wpAny_Name (F.ns.load (hS.loc x _ hx) hv ?_) (hS.loc x _ hx).2
  obtain ⟨a, vs, rfl, ⟨o, ho, hc, n, hd⟩, hr⟩ := (show Rep (off (Mut σ) s.heap) (.lst l) v from hok).lst_inv
  obtain ⟨h1, h2⟩ := off_some.mp ho
  refine walk_list hA krfl ⟨o, h2, hc, n, hd⟩ (Reps.mono off_le l hr) (fun e => ?_) h1 (fun _ hb => hS.ownSome hb) hS.mutSome
  exact ns_not_seq F.ns e h2 hd

/-- the ints of a range -/
def rngL (a c : Int) (n : Nat) : List PV := (List.range n).map fun (i : Nat) => PV.int (a + i * c)
theorem rngL_get {a c : Int} {n i : Nat} {p : PV} (h : (rngL a c n)[i]? = some p) : p = .int (a + i * c) := by
  simp only [rngL, List.getElem?_map, Option.map_eq_some_iff] at h
  obtain ⟨j, hj, rfl⟩ := h
  have : j = i := by
    rw [List.getElem?_range] at hj
    · cases hj; rfl
    · rcases Nat.lt_or_ge i n with h | h
      · exact h
      · rw [List.getElem?_eq_none (by simpa using h)] at hj; cases hj
  rw [this]

theorem walk_range {A L s s₁} {ra : Addr} {a b c : Int} {t u v : Tok} {n : Nat} (hA : Lv C.r A) (k : Keeps s s₁) (hr : IsRange s₁.heap ra a b c t u v) (hsm : Builtin.Range.small a b c = true) (hn : Builtin.Range.rangeSize a b c = n) (hL : ∀ b, Own C.sc L b → s.heap.get? b ≠ none)
    (hmut : ∀ b, Mut σ b → s.heap.get? b ≠ none) :
    wpAny C.M A (pyIter (.ref ra)) (fun it s₂ => WalkOf C A L σ s s₂ it (rngL a c n)) NoE s₁ := by
  refine wpAny_pyIter_range hr hsm ?_
  rw [hn]
  have k2 : Keeps s₁ { s₁ with heap := s₁.heap.push { cls := .type "range_iterator", data := .fields #[rawInt a, rawInt (n : Int), rawInt c] } } := kpush
  have W := Walks.range (prog := C.X.prog) (w := C.X.w) (A := A) hA.1 s₁.heap.objs.size a c n
  have hlen : (rngL a c n).length = n := by simp [rngL]
  have hnew := get_next_none k
  refine ⟨ktrans k k2, ⟨_, _, _, _, _, rfl, (by rw [hlen]; exact W), ?_, ?_, ?_, ?_, ?_, ?_⟩⟩
  · show IsRangeIter _ _ (a + ((0 : Nat) : Int) * c) ((n : Int) - ((0 : Nat) : Int)) c
    have e1 : a + ((0 : Nat) : Int) * c = a := by simp
    have e2 : (n : Int) - ((0 : Nat) : Int) = n := by simp
    rw [e1, e2]
    exact Heap.get?_push_size _ rfl
  · intro b hb; rw [List.mem_singleton.mp hb]; exact hnew
  · intro b hb
    rw [List.mem_singleton.mp hb]
    refine ⟨fun e => hL _ e hnew, fun hm => hmut _ hm hnew, ?_⟩
    show (s₁.heap.push _).get? s₁.heap.objs.size ≠ none
    rw [Heap.get?_push_size _ rfl]; exact fun x => by cases x
  · rintro i h hi b hb
    rw [List.mem_singleton.mp hb]
    exact ⟨_, hi, fun xs n e => by cases e⟩
  · rintro i v p ⟨t, rfl⟩ hp
    rw [rngL_get hp]; exact rep_int
  · rintro i s' hi v Q ts kk pos hq
    unfold letOwnedTupleGo
    cases v with
    | ref b =>
      refine wpAny_bind (wpAny_load hi ?_)
      have : (["enumerate", "zip", "dict_itemiterator", "dict_reverseitemiterator", "odict_iterator", "itertools.zip_longest", "itertools.pairwise"].contains "range_iterator") = false := by decide
      simp only [this, Bool.false_and, Bool.false_eq_true, if_false]
      exact wpAny_pure hq
    | _ => exact wpAny_pure hq

theorem ei_range1 {e xp pos n} (h : EvE C σ e (.int n)) (hlo : -(2 ^ 62) ≤ n) (hhi : n < 2 ^ 62) (hx : Glb C "range") (hp : AllPlain [e]) : EvI C σ (.Call (.Name "range" xp) [e] [] pos) (rngL 0 1 n.toNat) := .mk fun L ad cd A s hA hS => by
  refine Call_ (name_builtin hS (by decide +kernel) boot_range hx (by decide +kernel) (by decide +kernel) ?_)
  refine callWith_type1 (wpAny_mono ((es_cons h es_nil hp.1).run L ad cd A s pos hA hS) (fun vs s₁ ⟨k, r⟩ => ?_) fun _ _ e => e) (hp.1 _) (hp.2.any _ _)
  obtain ⟨v, rfl, h1⟩ := r.one_inv
  obtain ⟨t, rfl⟩ := h1.int_inv
  refine call_range_1 ?_
  refine walk_range hA (ktrans k kpush) (IsRange.new ..) (small_one (by omega) (by omega) hlo hhi) ?_ (fun _ hb => hS.ownSome hb) hS.mutSome
  rw [rangeSize_one]; split <;> omega
theorem ei_range2 {e f xp pos a n} (h : EvE C σ e (.int a)) (h' : EvE C σ f (.int n)) (alo : -(2 ^ 62) ≤ a) (ahi : a < 2 ^ 62) (hlo : -(2 ^ 62) ≤ n) (hhi : n < 2 ^ 62) (hx : Glb C "range") (hp : AllPlain [e, f]) : EvI C σ (.Call (.Name "range" xp) [e, f] [] pos) (rngL a 1 (n - a).toNat) := .mk fun L ad cd A s hA hS => by
  refine Call_ (name_builtin hS (by decide +kernel) boot_range hx (by decide +kernel) (by decide +kernel) ?_)
  refine callWith_type1 (wpAny_mono ((es_cons h (es_cons h' es_nil hp.2.1) hp.1).run L ad cd A s pos hA hS) (fun vs s₁ ⟨k, r⟩ => ?_) fun _ _ e => e) (hp.1 _) (hp.2.any _ _)
  obtain ⟨v, w, rfl, h1, h2⟩ := r.two_inv
  obtain ⟨t, rfl⟩ := h1.int_inv
  obtain ⟨u, rfl⟩ := h2.int_inv
  refine call_range_2 ?_
  refine walk_range hA (ktrans k kpush) (IsRange.new ..) (small_one alo ahi hlo hhi) ?_ (fun _ hb => hS.ownSome hb) hS.mutSome
  rw [rangeSize_one]; split <;> omega
theorem Reps.three_inv {g p q r vs} (h : Reps g [p, q, r] vs) : ∃ v w x, vs = [v, w, x] ∧ Rep g p v ∧ Rep g q w ∧ Rep g r x := by
  obtain ⟨v, ws, rfl, h1, h2⟩ := h.cons_inv
  obtain ⟨w, x, rfl, h3, h4⟩ := h2.two_inv
  exact ⟨v, w, x, rfl, h1, h3, h4⟩
theorem ei_range3 {e f g xp pos a b c} {n : Nat} (h : EvE C σ e (.int a)) (h' : EvE C σ f (.int b)) (h'' : EvE C σ g (.int c)) (hc : c ≠ 0) (hsm : Builtin.Range.small a b c = true) (hn : Builtin.Range.rangeSize a b c = n) (hx : Glb C "range") (hp : AllPlain [e, f, g]) :
    EvI C σ (.Call (.Name "range" xp) [e, f, g] [] pos) (rngL a c n) := .mk fun L ad cd A s hA hS => by
  refine Call_ (name_builtin hS (by decide +kernel) boot_range hx (by decide +kernel) (by decide +kernel) ?_)
  refine callWith_type1 (wpAny_mono ((es_cons h (es_cons h' (es_cons h'' es_nil hp.2.2.1) hp.2.1) hp.1).run L ad cd A s pos hA hS) (fun vs s₁ ⟨k, r⟩ => ?_) fun _ _ e => e) (hp.1 _) (hp.2.any _ _)
  obtain ⟨v, w, x, rfl, h1, h2, h3⟩ := r.three_inv
  obtain ⟨t, rfl⟩ := h1.int_inv
  obtain ⟨u, rfl⟩ := h2.int_inv
  obtain ⟨q, rfl⟩ := h3.int_inv
  refine call_range_3 hc ?_ (.inr (room_pylong hA (hS.keeps (kle k)).hbIn))
  exact walk_range hA (ktrans k kpush) (IsRange.new ..) hsm hn (fun _ hb => hS.ownSome hb) hS.mutSome

theorem flat_rng {a c n} : ∀ p ∈ rngL a c n, flat p = true := fun p hp => by
  simp only [rngL, List.mem_map] at hp
  obtain ⟨i, _, rfl⟩ := hp; rfl
theorem flat_ints {ns : List Int} : ∀ p ∈ intL ns, flat p = true := fun p hp => by
  simp only [intL, List.mem_map] at hp
  obtain ⟨i, _, rfl⟩ := hp; rfl
end


section
variable {C : Fc} {σ : PEnv} {Q : Out → PEnv → Prop}

/-! ### a new list under a name -/
theorem slot_new {L h x a l vs} (hS : Sim C L σ h) (hm : MList h.get? a vs) (hr : Reps h.get? l vs) (hf : flats l = true) : SlotOK (Mut ((x, .m a l) :: σ)) h (.ref a) (.m a l) := by
  refine ⟨rfl, vs, hm, Reps.monoF (fun b o ho hc hd => off_some.mpr ⟨fun hmu => ?_, ho⟩) l hf hr, hf⟩
  rcases mut_cons hmu with h1 | ⟨l', h1⟩
  · obtain ⟨ws, o', hp, hc', _⟩ := hS.plain h1
    rw [hp] at ho; cases ho
    rw [hc'] at hc; simp at hc
  · cases h1
    obtain ⟨o', hp, hc', _⟩ := hm
    rw [hp] at ho; cases ho
    rw [hc'] at hc; simp at hc

theorem store_new {L ad cd A} {s₀ s : Shared} {x : PySem.Str} {a : Addr} {vs : List Value} {l : List PV} {R : Unit → Shared → Prop}
    (hS : Sim C L σ s₀.heap) (k : Keeps s₀ s) (hn : s₀.heap.get? a = none) (hm : MList s.heap.get? a vs) (hr : Reps s.heap.get? l vs) (hf : flats l = true) (hx : Loc C x)
    (h : ∀ s', After C L σ s₀ ((x, .m a l) :: σ) s' → SeqLe s.heap.get? s'.heap.get? → R () s') :
    wpAny C.M A (storeName (C.env L ad cd) x (.ref a)) R NoE s := by
  obtain ⟨m, F, hsl⟩ := hS.fr
  have F' := F.grownK (kle k)
  refine F'.ns.store hx (fun h' tk hn' hs => ?_)
  refine h _ ⟨hS.store (kle k) F' hsl hn' hs hx (slot_new (hS.keeps (kle k)) hm hr hf) (fun b l' e => by cases e; exact hn), ⟨fun b o hbL _ e => ?_, fun b e => ?_⟩, fun b hmu => ?_, ?_⟩ (seqLe_sameBut F'.ns hs)
  · exact (hs.eq b hbL).trans (kle k b o e)
  · by_cases hbL : Own C.sc L b
    · exact hn'.isSome hbL
    · show h'.get? b ≠ none
      rw [hs.eq b hbL]
      cases e' : s₀.heap.get? b with
      | none => exact absurd e' e
      | some o => rw [kle k b o e']; exact fun x => by cases x
  · rcases mut_cons hmu with h1 | ⟨l', h1⟩
    · exact .inl h1
    · cases h1; exact .inr hn
  · obtain ⟨h1, tk, rfl, _⟩ := k
    exact ⟨_, _, rfl⟩

theorem st_new {x px e pos l} (he : EvL C σ e l) (hf : flats l = true) (hx : Loc C x) (h : ∀ a, ¬ Mut σ a → Q .next ((x, .m a l) :: σ))
    (hs : ∀ env, swapsWith e (some (.Name x px)) pos.line env = pure false := by intro _; rfl) : ExS C σ (.Assign [.Name x px] e pos) Q := .mk fun L ad cd A s hA hS => by
  refine wpAny_Assign_Name (wpAny_mono (he.run L ad cd A s hA hS) (fun v s₁ ⟨a, vs, e, hn, hm, hr, k⟩ => ?_) fun _ _ e => e) (hs _)
  subst e
  exact store_new hS k hn hm hr hf hx fun s' hA' _ => ⟨.next, _, hA', trivial, h a fun hmu => hS.mutSome a hmu hn⟩

/-! ### changing a list -/
theorem Sim.change {L h h' x a l l' vs'} (hS : Sim C L σ h) (hx : σ.lookup x = some (.m a l)) (hs : Heap.SameBut a h h') (hm : MList h'.get? a vs') (hr : Reps h.get? l' vs') (hf : flats l' = true) :
    Sim C L ((x, .m a l') :: σ) h' := by
  obtain ⟨m, F, hsl⟩ := hS.fr
  have hma : Mut σ a := ⟨x, l, hx⟩
  obtain ⟨hfa, hfL⟩ := hS.fresh a hma
  have hmut : ∀ b, Mut ((x, .m a l') :: σ) b ↔ Mut σ b := fun b => by
    constructor
    · intro hb
      rcases mut_cons hb with h1 | ⟨l2, h1⟩
      · exact h1
      · cases h1; exact hma
    · rintro ⟨y, l2, hy⟩
      by_cases e : y = x
      · subst e; rw [hx] at hy; cases hy; exact ⟨y, l', lookup_cons_eq⟩
      · exact ⟨y, l2, by rw [lookup_cons_ne e]; exact hy⟩
  have hle : SeqLe (off (Mut σ) h) (off (Mut ((x, .m a l') :: σ)) h') := fun b o ho _ => by
    rw [off_some] at ho ⊢
    refine ⟨fun hb => ho.1 ((hmut b).mp hb), (hs.2 b fun e => ?_).trans ho.2⟩
    subst e; exact ho.1 hma
  refine ⟨⟨m, ⟨F.ns.at' fun b o hb e => (hs.2 b fun e' => hfL (e' ▸ hb)).trans e, fun b o e => (hs.2 b fun e' => by subst e'; rw [hfa] at e; cases e).trans (F.keep b o e), F.new⟩, fun y sl hy => ?_⟩, fun y sl hy => ?_, fun y z b l1 l2 h1 h2 => ?_, fun b hb => hS.fresh b ((hmut b).mp hb)⟩
  · by_cases e : y = x
    · subst e
      rw [lookup_cons_eq] at hy; cases hy
      obtain ⟨v, hv, hva, _⟩ := hsl y _ hx
      subst hva
      refine ⟨_, hv, rfl, vs', hm, Reps.monoF (fun b o ho hc hd => off_some.mpr ⟨fun hb => ?_, ?_⟩) l' hf hr, hf⟩
      · obtain ⟨ws, o', hp, hc', _⟩ := hS.plain ((hmut b).mp hb)
        rw [hp] at ho; cases ho
        rw [hc'] at hc; simp at hc
      · refine (hs.2 b fun e => ?_).trans ho
        subst e
        obtain ⟨ws, o', hp, hc', _⟩ := hS.plain hma
        rw [hp] at ho; cases ho
        rw [hc'] at hc; simp at hc
    · rw [lookup_cons_ne e] at hy
      obtain ⟨v, hv, hok⟩ := hsl y sl hy
      refine ⟨v, hv, hok.off hle fun b l2 ws e2 hp => ?_⟩
      subst e2
      have hba : b ≠ a := fun e3 => by subst e3; exact e (hS.uniq y x b l2 l hy hx)
      obtain ⟨o, ho, r⟩ := hp
      exact ⟨o, (hs.2 b hba).trans ho, r⟩
  · by_cases e : y = x
    · subst e; exact hS.loc y _ hx
    · rw [lookup_cons_ne e] at hy; exact hS.loc y sl hy
  · have look : ∀ y l1, List.lookup y ((x, .m a l') :: σ) = some (.m b l1) → ∃ l2, σ.lookup y = some (.m b l2) := fun y l1 h1 => by
      by_cases e : y = x
      · subst e; rw [lookup_cons_eq] at h1; cases h1; exact ⟨l, hx⟩
      · rw [lookup_cons_ne e] at h1; exact ⟨l1, h1⟩
    obtain ⟨l3, h3⟩ := look y l1 h1
    obtain ⟨l4, h4⟩ := look z l2 h2
    exact hS.uniq y z b l3 l4 h3 h4

theorem After.change {L s s₁ h' tk x a l l' vs'} (hS : Sim C L σ s.heap) (k : Keeps s s₁) (hx : σ.lookup x = some (.m a l)) (hs : Heap.SameBut a s₁.heap h') (hm : MList h'.get? a vs') (hr : Reps s₁.heap.get? l' vs') (hf : flats l' = true) :
    After C L σ s ((x, .m a l') :: σ) { s₁ with heap := h', toks := tk } := by
  have hma : Mut σ a := ⟨x, l, hx⟩
  refine ⟨(hS.keeps (kle k)).change hx hs hm hr hf, ⟨fun b o _ hmu e => (hs.2 b fun e' => by subst e'; exact hmu hma).trans (kle k b o e), fun b e => ?_⟩, fun b hb => ?_, ?_⟩
  · by_cases e' : b = a
    · subst e'; obtain ⟨o, ho, _⟩ := hm; show h'.get? b ≠ none; rw [ho]; exact fun x => by cases x
    · show h'.get? b ≠ none
      rw [hs.2 b e']
      cases e2 : s.heap.get? b with
      | none => exact absurd e2 e
      | some o => rw [kle k b o e2]; exact fun x => by cases x
  · rcases mut_cons hb with h1 | ⟨l2, h1⟩
    · exact .inl h1
    · cases h1; exact .inl hma
  · obtain ⟨h1, t1, rfl, _⟩ := k; exact ⟨_, _, rfl⟩

theorem flats_append {l l' : List PV} (h : flats l = true) (h' : flats l' = true) : flats (l ++ l') = true := by
  induction l with
  | nil => exact h'
  | cons p ps ih => simp only [flats, Bool.and_eq_true, List.cons_append] at h ⊢; exact ⟨h.1, ih h.2⟩

/-- x.append(e) -/
theorem st_append {x px apos e cpos epos a l p} (hx : σ.lookup x = some (.m a l)) (he : EvE C σ e p) (hf : flat p = true) (hlen : l.length ≤ 16000000) (h : Q .next ((x, .m a (l ++ [p])) :: σ)) (hpl : AllPlain [e])
    (hsw : ∀ env, swapsWith (.Call (.Attribute (.Name x px) "append" apos) [e] [] cpos) none epos.line env = pure false := by intro _; rfl)
    (hline : (apos.endLine == cpos.line) = true := by rfl) : ExS C σ (.Expr (.Call (.Attribute (.Name x px) "append" apos) [e] [] cpos) epos) Q := .mk fun L ad cd A s hA hS => by
  have hfl : flats l = true := by
    obtain ⟨m, F, hsl⟩ := hS.fr
    obtain ⟨v, hv, _, _, _, _, hf⟩ := hsl x _ hx
    exact hf
  have hint : interactive (C.env L ad cd) = false := by
    show (C.sc.kind == .module && _) = false
    rw [C.hk]; rfl
  have htr : backTo cpos (starEach [e] (C.env L ad cd)) = [(false, eval e (C.env L ad cd))] := by rw [hpl.1]; rfl
  refine wpAny_Expr (wpAny_Call_append rfl (by rw [htr]; rfl) hline htr ?_) hint (hsw _)
  obtain ⟨m, F, hsl⟩ := hS.fr
  obtain ⟨v, hv, hva, vs, hm, hr, _⟩ := hsl x _ hx
  subst hva
  refine wpAny_Name (F.ns.load (hS.loc x _ hx) hv ?_) (hS.loc x _ hx).2
  obtain ⟨o, ho, hc, hdn, n, hd⟩ := id hm
  refine ⟨a, vs.toArray, rfl, ⟨o, n, ho, hc, hdn, hd⟩, ?_⟩
  refine wpAny_mono (he.run L ad cd A s hA hS) (fun w s₁ ⟨k, r⟩ => ?_) fun _ _ e => e
  refine list_append_plainL (its := vs.toArray) ⟨o, n, kle k a o ho, hc, hdn, hd⟩ (fun h' hp hs => ?_) (by rw [List.size_toArray, hr.length]; exact Nat.le_trans hlen (by decide))
  obtain ⟨o', n', ho', hc', hdn', hd'⟩ := hp
  refine ⟨.next, _, After.change (tk := s₁.toks) hS k hx hs (vs' := vs ++ [w]) ⟨o', ho', hc', hdn', n', by rw [hd']; simp⟩ (Reps.append (kreps k (Reps.mono off_le l hr)) (Reps.cons r Reps.nil)) (flats_append hfl (by simp [flats, hf])), trivial, h⟩

/-- storing an item, the list's make kept -/
theorem setItem_m {A : Around} {s : Shared} {a : Addr} {vs : List Value} {k : Int} {t : Tok} {v : Value} {R : Unit → Shared → Prop} {prog : Program} {w : World} (hl : MList s.heap.get? a vs) (h0 : 0 ≤ k) (hfit : k < 2 ^ 63) (hn : k < vs.length)
    (hQ : ∀ h', MList h'.get? a (vs.set k.toNat v) → Heap.SameBut a s.heap h' → R () { s with heap := h' }) :
    wpAny (model prog w) A (setItem (.ref a) (.int k t) v) R NoE s := by
  obtain ⟨o, ho, hc, hdn, ne, hd⟩ := id hl
  have hL : s.heap.IsList a vs.toArray := isList_of hl.iseq
  unfold setItem
  try with_reducible refine wpAny_holding ?_
  first | refine wpAny_bind (wpAny_pure ?_) | skip
  refine wpAny_bind (wpAny_sequenceKey hL.typeIs (by decide) ?_)
  refine wpAny_bind (wpAny_callSpecial?_slot (name := Str.ofString "__setitem__") hL.typeIs slot_list_setitem
    (wpAny_call_entry slot_list_setitem hL.typeIs entry_list_setitem ?_ (args_list_setitem _ _ _)))
  show wpAny _ _ (Builtin.List.listSubscript? (.int k t) >>= _) _ _ s
  refine wpAny_bind (wpAny_listSubscript_int (fitsIndex_of h0 hfit) ?_)
  clear hfit
  obtain ⟨j, rfl⟩ := Int.eq_ofNat_of_zero_le h0
  have hj : j < vs.toArray.size := by rw [List.size_toArray]; omega
  have hx' : vs.toArray[j]? = some vs.toArray[j] := Array.getElem?_eq_getElem hj
  show wpAny _ _ ((seqItemAt a j >>= fun r => pure (r.map (j, ·))) >>= _) _ _ s
  refine wpAny_bind (wpAny_bind (wpAny_seqItemAt ho hd (wpAny_pure ?_)))
  rw [hx']
  show wpAny _ _ (setSeqItemAt a j v >>= _) _ _ s
  obtain ⟨n', hd'⟩ := Obj.data_mapSeq hd (·.setIfInBounds j v)
  have hdict : (Obj.mapSeq (·.setIfInBounds j v) o).dict = none := by
    obtain ⟨c, d, dt, sl⟩ := o
    simp only at hd hdn
    subst hd hdn
    rfl
  have hfin : MList (s.heap.update a (Obj.mapSeq (·.setIfInBounds j v))).get? a (vs.set j v) :=
    ⟨_, Heap.get?_update_self _ ho (Obj.isFreed_of_seq hd'), (Obj.cls_mapSeq ..).trans hc, hdict, n', by rw [hd']; simp⟩
  refine wpAny_bind (wpAny_setSeqItemAt ho hd ?_)
  first
    | exact wpAny_bind (wpAny_pure (wpAny_pure ⟨.none, rfl, wpAny_pure (hQ _ hfin (Heap.SameBut.update ..))⟩))
    | exact wpAny_pure ⟨.none, rfl, wpAny_pure (hQ _ hfin (Heap.SameBut.update ..))⟩

theorem flats_set {l : List PV} {i : Nat} {p : PV} (h : flats l = true) (hp : flat p = true) : flats (l.set i p) = true := by
  induction l generalizing i with
  | nil => exact h
  | cons q qs ih =>
    simp only [flats, Bool.and_eq_true] at h
    cases i with
    | zero => simp [flats, hp, h.2]
    | succ i => simp [flats, h.1, ih h.2]
theorem Reps.set {g} : ∀ {ps : List PV} {vs : List Value} (i : Nat) {p v}, Reps g ps vs → Rep g p v → Reps g (ps.set i p) (vs.set i v)
  | [], _, _, _, _, h, _ => by have := h.nil_inv; subst this; simpa using Reps.nil
  | q :: qs, _, 0, _, _, h, hp => by
    obtain ⟨u, ws, rfl, h1, h2⟩ := h.cons_inv
    simpa using Reps.cons hp h2
  | q :: qs, _, i + 1, _, _, h, hp => by
    obtain ⟨u, ws, rfl, h1, h2⟩ := h.cons_inv
    simpa using Reps.cons h1 (Reps.set i h2 hp)

/-- x[i] op= e -/
theorem st_augitem {x px i op e spos pos a l k p q r} (hx : σ.lookup x = some (.m a l)) (hi : EvE C σ i (.int k)) (h0 : 0 ≤ k) (h1 : k < 2 ^ 63) (hp : l[k.toNat]? = some p) (he : EvE C σ e q)
    (hop : ∀ A s va vb, Lv C.r A → HbIn C.X s.heap → Rep s.heap.get? p va → Rep s.heap.get? q vb → wpAny C.M A (inplaceOp op va vb) (Post s r) NoE s) (hf : flat r = true)
    (h : Q .next ((x, .m a (l.set k.toNat r)) :: σ))
    (haug : ∀ ov iv new, augStore i ov iv new = (do holding [new, ov, iv] (setItem ov iv new); release [new, ov, iv] []; pure .next) := by intros; rfl) :
    ExS C σ (.AugAssign (.Subscript (.Name x px) i spos) op e pos) Q := .mk fun L ad cd A s hA hS => by
  have hfl : flats l = true := by
    obtain ⟨m, F, hsl⟩ := hS.fr
    obtain ⟨v, hv, _, _, _, _, hf⟩ := hsl x _ hx
    exact hf
  show wpAny _ _ (exec (.AugAssign (.Subscript (.Name x px) i spos) op e pos) (C.env L ad cd)) _ _ s
  rw [arm_exec_AugAssign_3]
  obtain ⟨m, F, hsl⟩ := hS.fr
  obtain ⟨v, hv, hva, vs, hm, hr, _⟩ := hsl x _ hx
  subst hva
  refine wpAny_bind (wpAny_standAt (wpAny_bind (wpAny_Name (F.ns.load (hS.loc x _ hx) hv ?_) (hS.loc x _ hx).2)))
  refine wpAny_bind (wpAny_holding (wpAny_mono (hi.run L ad cd A s hA hS) (fun iv s₁ ⟨k₁, r₁⟩ => ?_) fun _ _ e => e))
  obtain ⟨t, rfl⟩ := r₁.int_inv
  have hm1 : MList s₁.heap.get? a vs := hm.mono (SeqLe.of (kle k₁))
  have hr1 : Reps s₁.heap.get? l vs := kreps k₁ (Reps.mono off_le l hr)
  obtain ⟨w, hw, hrw⟩ := hr1.get hp
  refine wpAny_bind (wpAny_holding (wpAny_bind (wpAny_standAt (wpAny_bind (wpAny_getItem_list (isList_of hm1.iseq) h0 h1 (by simpa using hw) ?_)))))
  refine wpAny_bind (wpAny_holding (wpAny_mono (he.run L ad cd A s₁ hA (hS.keeps (kle k₁))) (fun ev s₂ ⟨k₂, r₂⟩ => ?_) fun _ _ e => e))
  refine wpAny_bind (wpAny_standAt (wpAny_operating (wpAny_mono (hop A s₂ w ev hA (hS.keeps (kle (ktrans k₁ k₂))).hbIn (krep k₂ hrw) r₂) (fun nv s₃ ⟨k₃, r₃⟩ => ?_) fun _ _ e => e)))
  refine wpAny_bind (wpAny_standAt ?_)
  rw [haug]
  have kk := ktrans (ktrans k₁ k₂) k₃
  have hlt : k < vs.length := by
    rcases Nat.lt_or_ge k.toNat vs.length with h | h
    · omega
    · rw [List.getElem?_eq_none h] at hw; cases hw
  refine wpAny_bind (wpAny_holding (setItem_m (hm1.mono (SeqLe.of (kle (ktrans k₂ k₃)))) h0 h1 hlt fun h' hm' hs' => ?_))
  refine wpAny_bind ?_
  have rel : ∀ (vs keep : List Value) (R : Unit → Shared → Prop) (s : Shared), R () s → wpAny C.M A (release vs keep) R NoE s := fun vs keep R s hR Γ p _ => by rw [Sem.wp_release]; exact hR
  refine rel _ _ _ _ (wpAny_pure ⟨.next, _, After.change (tk := s₃.toks) hS kk hx hs' hm' (Reps.set _ (kreps (ktrans k₂ k₃) hr1) r₃) (flats_set hfl hf), trivial, h⟩)
end


section
variable {C : Fc} {σ : PEnv} {Q : Out → PEnv → Prop}

/-! ### unpacking -/
def bindL : List PySem.Str → List PV → PEnv → PEnv
  | x :: xs, p :: ps, σ => bindL xs ps ((x, .v p) :: σ)
  | _, _, σ => σ

def StoresTo (C : Fc) (L : Addr) (ad : Option Addr × Option Addr) (cd : Value) (t : Value → Sem Unit) (x : PySem.Str) : Prop :=
  ∀ A v (R : Unit → Shared → Prop) s, wpAny C.M A (storeName (C.env L ad cd) x v) R NoE s → wpAny C.M A (t v) R NoE s
def StoreAll (C : Fc) (L : Addr) (ad : Option Addr × Option Addr) (cd : Value) : List (Value → Sem Unit) → List PySem.Str → Prop
  | [], [] => True
  | t :: ts, x :: xs => StoresTo C L ad cd t x ∧ StoreAll C L ad cd ts xs
  | _, _ => False

theorem noMut_bind {x p} (h : noMut σ = true) : noMut ((x, .v p) :: σ) = true := by simpa [noMut] using h

theorem assign_all {L ad cd A} (hA : Lv C.r A) : ∀ (ts : List (Value → Sem Unit)) (xs : List PySem.Str) (ps : List PV) (vs : List Value) (σ : PEnv) (s₀ s : Shared) (R : Unit → Shared → Prop),
    StoreAll C L ad cd ts xs → ps.length = xs.length → (∀ x ∈ xs, Loc C x) → (flats ps = true ∨ noMut σ = true) → Sim C L σ s₀.heap → Keeps s₀ s → Reps s.heap.get? ps vs →
    (∀ s', After C L σ s₀ (bindL xs ps σ) s' → R () s') → wpAny C.M A (assignInOrder ts vs) R NoE s
  | [], [], ps, vs, σ, s₀, s, R, _, hl, _, _, hS, k, hr, h => by
    have : ps = [] := by simpa using hl
    subst this
    have := hr.nil_inv; subst this
    exact assignInOrder_nil (h s (After.of_keeps hS k))
  | t :: ts, x :: xs, ps, vs, σ, s₀, s, R, hst, hl, hloc, hb, hS, k, hr, h => by
    cases ps with
    | nil => simp at hl
    | cons p ps =>
      obtain ⟨v, ws, rfl, h1, h2⟩ := hr.cons_inv
      refine assignInOrder_cons (hst.1 A v _ s ?_)
      refine store_name hS k h1 (hb.imp (fun h => by simp only [flats, Bool.and_eq_true] at h; exact h.1) id) (hloc x (by simp)) fun s₁ hA₁ hle => ?_
      refine assign_all hA ts xs ps ws ((x, .v p) :: σ) s₁ s₁ R hst.2 (by simpa using hl) (fun y hy => hloc y (by simp [hy])) (hb.imp (fun h => by simp only [flats, Bool.and_eq_true] at h; exact h.2) noMut_bind) hA₁.sim krfl (Reps.mono hle ps h2) fun s₂ hA₂ => ?_
      exact h s₂ (hA₁.trans hA₂)
  | [], _ :: _, _, _, _, _, _, _, h, _, _, _, _, _, _, _ => h.elim
  | _ :: _, [], _, _, _, _, _, _, h, _, _, _, _, _, _, _ => h.elim

theorem extBut_le {h h' : Heap} (x : Heap.ExtBut h.objs.size h h') : HLe h h' := fun b o e => x b o (Nat.ne_of_lt (Heap.lt_size e)) e

/-- x, y = e (e no display) -/
theorem st_unpack {elts k tpos e pos ps} (xs : List PySem.Str) (he : EvE C σ e (.tup ps)) (hb : flats ps = true ∨ noMut σ = true) (hn : ps.length = xs.length) (hloc : ∀ x ∈ xs, Loc C x)
    (h : Q .next (bindL xs ps σ))
    (hts : ∀ L ad cd, StoreAll C L ad cd ((assignEach elts (C.env L ad cd)).map (·.2)) xs) (hlen : ∀ env, (assignEach elts env).length = xs.length) (hstar : ∀ env, (assignEach elts env).findIdx? (·.1) = none)
    (hs : ∀ env, swapsWithSole [.Tuple elts k tpos] e pos.line env = pure false := by intro _; rfl)
    (hw : ∀ env, swappedStores [.Tuple elts k tpos] e env = pure none := by intro _; rfl) : ExS C σ (.Assign [.Tuple elts k tpos] e pos) Q := .mk fun L ad cd A s hA hS => by
  refine Assign_Tuple (wpAny_mono (he.run L ad cd A s hA hS) (fun v s₁ ⟨k₁, r⟩ => ?_) fun _ _ e => e) (hs _) (hw _)
  obtain ⟨a, vs, rfl, hs', hr⟩ := r.tup_inv
  have hlv := hr.length
  refine assign_Tuple_tuple hA.1 (isTup_of hs') (by rw [hlen, List.size_toArray, hlv, hn]) (hstar _) fun h' hx => ?_
  have k2 : Keeps s₁ { s₁ with heap := h' } := ⟨h', s₁.toks, rfl, extBut_le hx⟩
  simp only []
  refine assign_all hA _ xs ps vs σ s _ _ (hts L ad cd) hn hloc hb hS (ktrans k₁ k2) (kreps k2 hr) fun s' hA' => ⟨.next, _, hA', trivial, h⟩

/-- x, y = e, f -/
theorem st_unpackD {elts k tpos es k2 epos pos ps} (xs : List PySem.Str) (he : EvEs C σ es ps) (hb : flats ps = true ∨ noMut σ = true) (hn : ps.length = xs.length) (hn2 : ps.length ≤ 1000) (hloc : ∀ x ∈ xs, Loc C x)
    (h : Q .next (bindL xs.reverse ps.reverse σ))
    (hs : ∀ env, swapsWithSole [.Tuple elts k tpos] (.Tuple es k2 epos) pos.line env = pure false := by intro _; rfl)
    (hw : ∀ L ad cd, swappedStores [.Tuple elts k tpos] (.Tuple es k2 epos) (C.env L ad cd) = pure (some xs)) : ExS C σ (.Assign [.Tuple elts k tpos] (.Tuple es k2 epos) pos) Q := .mk fun L ad cd A s hA hS => by
  refine Assign_Tuple_swapped (wpAny_mono ((ev_tuple he hn2).run L ad cd A s hA hS) (fun v s₁ ⟨k₁, r⟩ => ?_) fun _ _ e => e) (hs _) (hw _ _ _)
  obtain ⟨a, vs, rfl, hs', hr⟩ := r.tup_inv
  have hlv := hr.length
  have hsz : xs.length = vs.toArray.size := by rw [List.size_toArray, hlv, hn]
  rw [hsz]
  refine unpackItems_tuple hA.1 (isTup_of hs') fun h' hx => ?_
  have k2 : Keeps s₁ { s₁ with heap := h' } := ⟨h', s₁.toks, rfl, extBut_le hx⟩
  have hfr : flats ps = true → flats ps.reverse = true := by
    intro hf
    have : ∀ l : List PV, flats l = true → flats l.reverse = true := by
      intro l
      induction l with
      | nil => intro h; exact h
      | cons p l ih => intro h; simp only [flats, Bool.and_eq_true] at h; rw [List.reverse_cons]; exact flats_append (ih h.2) (by simp [flats, h.1])
    exact this ps hf
  have hts : StoreAll C L ad cd (xs.reverse.map fun n => bindName (C.env L ad cd) n) xs.reverse := by
    have : ∀ l : List PySem.Str, StoreAll C L ad cd (l.map fun n => bindName (C.env L ad cd) n) l := by
      intro l
      induction l with
      | nil => trivial
      | cons x l ih => exact ⟨fun A v R s h => bindName_ h, ih⟩
    exact this _
  simp only []
  refine assign_all hA _ xs.reverse ps.reverse vs.reverse σ s _ _ hts (by simp [hn]) (fun x hx => hloc x (by simpa using hx)) (hb.imp hfr id) hS (ktrans k₁ k2) (kreps k2 hr.reverse) fun s' hA' => ⟨.next, _, hA', trivial, h⟩

theorem storesTo_name {L ad cd x px} : StoresTo C L ad cd (assign (.Name x px) (C.env L ad cd)) x := fun A v R s h => PyProof.Rows.assign_Name h

/-- a tuple target in a for -/
theorem takes_tuple {elts k tpos ps} (xs : List PySem.Str) (hn : ps.length = xs.length) (hloc : ∀ x ∈ xs, Loc C x)
    (hts : ∀ L ad cd, StoreAll C L ad cd ((assignEach elts (C.env L ad cd)).map (·.2)) xs) (hlen : ∀ env, (assignEach elts env).length = xs.length) (hstar : ∀ env, (assignEach elts env).findIdx? (·.1) = none) :
    Takes C (.Tuple elts k tpos) (.tup ps) (bindL xs ps) := .mk fun L ad cd A σ s v R hA hS hr hf h => by
  obtain ⟨a, vs, rfl, hs', hr⟩ := hr.tup_inv
  have hlv := hr.length
  refine assign_Tuple_tuple hA.1 (isTup_of hs') (by rw [hlen, List.size_toArray, hlv, hn]) (hstar _) fun h' hx => ?_
  have k2 : Keeps s { s with heap := h' } := ⟨h', s.toks, rfl, extBut_le hx⟩
  simp only []
  exact assign_all hA _ xs ps vs σ s _ _ (hts L ad cd) hn hloc (.inl (by simpa [flat] using hf)) hS k2 (kreps k2 hr) h
end


/-! ### results by a property -/
structure BFnR (X : Cx) (r : Nat) (f : Value) (ps : List PV) (P : PV → Prop) : Prop where
  run : ∀ A s vs, Lv r A → HbIn X s.heap → Reps s.heap.get? ps vs → wpAny X.M A (call f vs) (fun v s' => ∃ p, P p ∧ Keeps s s' ∧ Rep s'.heap.get? p v) NoE s
structure EvR (C : Fc) (σ : PEnv) (e : Expr) (P : PV → Prop) : Prop where
  run : ∀ L a cd A s, Lv C.r A → Sim C L σ s.heap →
    wpAny C.M A (eval e (C.env L a cd)) (fun v s' => ∃ p, P p ∧ Keeps s s' ∧ Rep s'.heap.get? p v) NoE s

theorem BFn.toR {X r f ps p} (h : BFn X r f ps p) : BFnR X r f ps (fun q => q = p) := .mk fun A s vs hA hH hR =>
  wpAny_mono (h.run A s vs hA hH hR) (fun v s' ⟨k, r⟩ => ⟨p, rfl, k, r⟩) fun _ _ e => e
theorem BFnR.toF {X r f ps p} (h : BFnR X r f ps (fun q => q = p)) : BFn X r f ps p := .mk fun A s vs hA hH hR =>
  wpAny_mono (h.run A s vs hA hH hR) (fun v s' ⟨q, e, k, r⟩ => ⟨k, e ▸ r⟩) fun _ _ e => e

section
variable {C : Fc} {σ : PEnv} {Q : Out → PEnv → Prop}
theorem ev_ucallR {x fa nm params body sc dV xp e es pos ps P r} (hF : IsFn C.X x fa nm params body sc dV) (hargs : EvEs C σ (e :: es) ps) (hfn : BFnR C.X r (.ref fa) ps P) (hr : r ≤ C.r)
    (hx : C.sc.names.lookup x = some .globalImplicit) (hd : (x == ("__debug__" : PySem.Str)) = false) (hp : AllPlain (e :: es)) :
    EvR C σ (.Call (.Name x xp) (e :: es) [] pos) P := .mk fun L ad cd A s hA hS => by
  obtain ⟨o, kwdV, ann, pm, c', doc, ho, hd', hc⟩ := hF.obj
  refine Call_ (name_user hS hF.bound hx hd ?_)
  refine callWith_def hd' (wpAny_mono (hargs.run L ad cd A s pos hA hS) (fun vs s₁ ⟨k, r⟩ => ⟨(hS.keeps (kle k)).hbIn _ _ ho, ?_⟩) fun _ _ e => e) (hp.1 _)
  exact wpAny_mono (hfn.run A s₁ vs (hA.mono hr) (hS.keeps (kle k)).hbIn r) (fun v s₂ ⟨p, hP, k', r'⟩ => ⟨p, hP, ktrans k k', r'⟩) fun _ _ e => e

theorem st_unpackR {elts k tpos e pos P} (xs : List PySem.Str) (he : EvR C σ e P) (hP : ∀ p, P p → ∃ ps, p = .tup ps ∧ (flats ps = true ∨ noMut σ = true) ∧ ps.length = xs.length ∧ Q .next (bindL xs ps σ)) (hloc : ∀ x ∈ xs, Loc C x)
    (hts : ∀ L ad cd, StoreAll C L ad cd ((assignEach elts (C.env L ad cd)).map (·.2)) xs) (hlen : ∀ env, (assignEach elts env).length = xs.length) (hstar : ∀ env, (assignEach elts env).findIdx? (·.1) = none)
    (hs : ∀ env, swapsWithSole [.Tuple elts k tpos] e pos.line env = pure false := by intro _; rfl)
    (hw : ∀ env, swappedStores [.Tuple elts k tpos] e env = pure none := by intro _; rfl) : ExS C σ (.Assign [.Tuple elts k tpos] e pos) Q := .mk fun L ad cd A s hA hS => by
  refine Assign_Tuple (wpAny_mono (he.run L ad cd A s hA hS) (fun v s₁ ⟨p, hp, k₁, r⟩ => ?_) fun _ _ e => e) (hs _) (hw _)
  obtain ⟨ps, rfl, hb, hn, h⟩ := hP p hp
  obtain ⟨a, vs, rfl, hs', hr⟩ := r.tup_inv
  have hlv := hr.length
  refine assign_Tuple_tuple hA.1 (isTup_of hs') (by rw [hlen, List.size_toArray, hlv, hn]) (hstar _) fun h' hx => ?_
  have k2 : Keeps s₁ { s₁ with heap := h' } := ⟨h', s₁.toks, rfl, extBut_le hx⟩
  simp only []
  refine assign_all hA _ xs ps vs σ s _ _ (hts L ad cd) hn hloc hb hS (ktrans k₁ k2) (kreps k2 hr) fun s' hA' => ⟨.next, _, hA', trivial, h⟩

theorem st_assignR {x px e pos P} (he : EvR C σ e P) (hP : ∀ p, P p → Bindable σ p ∧ Q .next ((x, .v p) :: σ)) (hx : Loc C x)
    (hs : ∀ env, swapsWith e (some (.Name x px)) pos.line env = pure false := by intro _; rfl) : ExS C σ (.Assign [.Name x px] e pos) Q := .mk fun L ad cd A s hA hS => by
  refine wpAny_Assign_Name (wpAny_mono (he.run L ad cd A s hA hS) (fun v s₁ ⟨p, hp, k, r⟩ => ?_) fun _ _ e => e) (hs _)
  exact store_name hS k r (hP p hp).1 hx fun s' hA' _ => ⟨.next, _, hA', trivial, (hP p hp).2⟩
end

/-- the contract of a def of the text's, by a property of what it gives -/
theorem fn_introR {X : Cx} {r : Nat} {x : PySem.Str} {fa : Addr} {nm : PySem.Str} {params : Arguments} {body : List Stmt} {sc : Scope} {dV : Value} {names : List PySem.Str} {ps dps : List PV} {dv : List Value} {P : PV → Prop}
    (hF : IsFn X x fa nm params body sc dV) (hk : sc.kind = .function) (hco : sc.isCoroutine = false) (hgen : sc.isGenerator = false) (hcell : ∀ y ∈ sc.names, y.2 ≠ .cell)
    (hnames : names.Nodup) (hlocs : ∀ y ∈ names, sc.names.lookup y = some .local ∧ (y == ("__debug__" : PySem.Str)) = false)
    (hdv : ∀ g, Reps g dps dv)
    (hbind : ∀ (s : Shared) kwdV ann pm c' doc vs, HbIn X s.heap → vs.length = ps.length → BindsTo s (defFd nm nm params body sc mainGlobals dV kwdV ann pm (.ref c') doc) ⟨vs, []⟩ (names.zip (vs ++ dv)))
    (hbody : ExB ⟨X, nm, sc, r, hk⟩ (names.zip (vs1 (ps ++ dps))) body (fun o _ => ∃ p, o = .ret p ∧ P p)) :
    BFnR X (r + 1) (.ref fa) ps P := .mk fun A s vs hA hH hR => by
  obtain ⟨o, kwdV, ann, pm, c', doc, ho, hd', hc⟩ := hF.obj
  have hb := hbind s kwdV ann pm c' doc vs hH hR.length
  have hR' : Reps s.heap.get? (ps ++ dps) (vs ++ dv) := Reps.append hR (hdv _)
  have hlocs' : ∀ q ∈ names.zip (vs ++ dv), sc.names.lookup q.1 = some .local := fun q hq => (hlocs _ (List.of_mem_zip hq).1).1
  obtain ⟨hh, hdep, huni, henv⟩ := hA
  refine wpAny_call (codeAny_call_def (by show A.depth < 1000; omega) (hH _ _ ho) hd' (X.nolimit.keeps hH) (hc.keeps hH) rfl hb hcell hlocs' (fun h₁ hns hkeep => ?_) hco hgen hk)
  have hS : Sim ⟨X, nm, sc, r, hk⟩ s.heap.objs.size (names.zip (vs1 (ps ++ dps))) h₁ := by
    refine ⟨⟨_, ⟨VNs.of_local hcell hns, fun b o e => hkeep b o (hH b o e), fun b hb => ?_⟩, fun y sl hy => ?_⟩, fun y sl hy => ?_, fun y z a l l' h1 _ => ?_, fun a hm => ?_⟩
    · cases e : X.hb.get? b with
      | none => rfl
      | some o => exact absurd (Nat.lt_of_lt_of_le (Heap.lt_size (hH _ _ e)) (own_ge hb)) (Nat.lt_irrefl _)
    · obtain ⟨q, v, rfl, h2, h3⟩ := zip_lookup hnames hR' hy
      refine ⟨v, h2, ?_⟩
      exact Rep.mono (fun a o ho _ => off_some.mpr ⟨noMut_vs a, hkeep a o ho⟩) q h3
    · have : y ∈ names := by
        have : ∀ (names : List PySem.Str) (sls : List Slot), (names.zip sls).lookup y = some sl → y ∈ names := by
          intro names
          induction names with
          | nil => intro sls h; simp at h
          | cons n ns ih =>
            intro sls h
            cases sls with
            | nil => simp at h
            | cons q qs =>
              simp only [List.zip_cons_cons, List.lookup_cons] at h
              split at h
              · rename_i e; simp at e; subst e; simp
              · exact List.mem_cons_of_mem _ (ih qs h)
        exact this _ _ hy
      exact ⟨.inl (hlocs y this).1, (hlocs y this).2⟩
    · exact absurd ⟨y, l, h1⟩ (noMut_vs a)
    · exact absurd hm (noMut_vs a)
  have hLv : Lv r (A.deeper (callEnv (defFd nm nm params body sc mainGlobals dV kwdV ann pm (.ref c') doc) s.heap.objs.size fa)) := by
    obtain ⟨env, l, h1, _⟩ := henv
    refine ⟨hh, by show A.depth + 1 + r ≤ 400; omega, by show A.units + 3 + 3 * r ≤ 400; omega, _, env :: l, by show A.frames.map _ = _; rw [h1]; rfl, hgen, hco, rfl, rfl⟩
  have hbr := fun (s₁ : Shared) (hs : Sim ⟨X, nm, sc, r, hk⟩ s.heap.objs.size (names.zip (vs1 (ps ++ dps))) s₁.heap) => hbody.run s.heap.objs.size (some fa, some s.heap.objs.size) (.ref c') _ s₁ hLv hs
  unfold Fc.env at hbr
  rw [show cellsFrom (s.heap.objs.size + 1) (Fc.sc ⟨X, nm, sc, r, hk⟩).names [] = [] from cells_none _ _ _ hcell] at hbr
  refine wpAny_mono (hbr _ hS) (fun f s' ⟨o', σ', hA', hf, q, hq, hP⟩ => ?_) fun _ _ e => e.elim
  subst hq
  cases f with
  | ret v =>
    refine ⟨q, hP, ?_, hf⟩
    obtain ⟨h', tk', rfl⟩ := hA'.same
    refine ⟨h', tk', rfl, fun b o e => ?_⟩
    exact hA'.kb.keep b o (fun hb => absurd (Nat.lt_of_lt_of_le (Heap.lt_size e) (own_ge hb)) (Nat.lt_irrefl _)) (noMut_vs b) (hkeep b o e)
  | next => exact hf.elim
  | brk => exact hf.elim
  | cont => exact hf.elim

/-! ### sizes of ints -/
def Bt (k : Nat) (a : Int) : Prop := a.natAbs < 2 ^ k

theorem Bt.mono {k m a} (h : Bt k a) (hk : k ≤ m) : Bt m a := Nat.lt_of_lt_of_le h (Nat.pow_le_pow_right (by decide) hk)
theorem Bt.mul {k m a b} (ha : Bt k a) (hb : Bt m b) : Bt (k + m) (a * b) := by
  unfold Bt at *
  rw [Int.natAbs_mul, Nat.pow_add]
  exact Nat.mul_lt_mul'' ha hb
theorem Bt.add {k m a b} (ha : Bt k a) (hb : Bt m b) : Bt (max k m + 1) (a + b) := by
  have h1 := ha.mono (Nat.le_max_left k m)
  have h2 := hb.mono (Nat.le_max_right k m)
  unfold Bt at *
  have := Int.natAbs_add_le a b
  rw [Nat.pow_succ]; omega
theorem Bt.neg {k a} (ha : Bt k a) : Bt k (-a) := by unfold Bt at *; rwa [Int.natAbs_neg]
theorem Bt.sub {k m a b} (ha : Bt k a) (hb : Bt m b) : Bt (max k m + 1) (a - b) := by rw [Int.sub_eq_add_neg]; exact ha.add hb.neg
theorem Bt.abs {k a} (ha : Bt k a) : Bt k (a.natAbs : Int) := by unfold Bt at *; simpa using ha
theorem Bt.fmod {k : Nat} {a b : Int} (hb : Bt k b) (h0 : 0 < b) : Bt k (a.fmod b) := by
  unfold Bt at *
  have h1 := Int.fmod_nonneg_of_pos a h0
  have h2 := Int.fmod_lt_of_pos a h0
  omega
theorem Bt.fdiv {k : Nat} {a b : Int} (ha : Bt k a) (h0 : 0 < b) : Bt k (a.fdiv b) := by
  unfold Bt at *
  have h1 := Int.fmod_nonneg_of_pos a h0
  have h2 := Int.fmod_lt_of_pos a h0
  have h3 := Int.mul_fdiv_add_fmod a b
  have : (a.fdiv b).natAbs ≤ a.natAbs := by
    rcases Int.lt_or_le (a.fdiv b) 0 with h | h
    · have : b * (a.fdiv b + 1) ≤ 1 * (a.fdiv b + 1) := Int.mul_le_mul_of_nonpos_right (by omega) (by omega)
      rw [Int.mul_add] at this
      omega
    · have : 1 * (a.fdiv b) ≤ b * (a.fdiv b) := Int.mul_le_mul_of_nonneg_right (by omega) h
      omega
  omega
theorem Bt.pow10 {n : Nat} (N : Nat) (h : n ≤ N) : Bt (4 * N + 1) ((10 : Int) ^ n) := by
  unfold Bt
  rw [Int.natAbs_pow]
  show 10 ^ n < 2 ^ (4 * N + 1)
  have h1 : 10 ^ n ≤ 16 ^ N := Nat.le_trans (Nat.pow_le_pow_left (by decide) n) (Nat.pow_le_pow_right (by decide) h)
  have h2 : (16 : Nat) ^ N = 2 ^ (4 * N) := by rw [Nat.pow_mul]
  have h3 : 0 < 2 ^ (4 * N) := Nat.pow_pos (by decide)
  rw [Nat.pow_succ]; omega
theorem bits_le {k : Nat} {a : Int} (h : Bt k a) : Builtin.Int.intBits a ≤ k := by
  unfold Builtin.Int.intBits Bt at *
  by_cases h0 : a = 0
  · subst h0; simp
  · have : a.natAbs ≠ 0 := by omega
    have h1 : a.natAbs.log2 < k := (Nat.log2_lt this).mpr h
    first
      | (split <;> omega)
      | (simp [h0]; omega)
theorem mulOk {k m : Nat} {a b : Int} (ha : Bt k a) (hb : Bt m b) (h : k + m ≤ 134217728) : IntMulOk a b := mulOk_of_bits (bits_le ha) (bits_le hb) h
theorem mulOkL {a b : Int} (ha : Bt 64 a) : IntMulOk a b := IntMulOk.of_left (bits_le ha)
theorem mulOkR {a b : Int} (hb : Bt 64 b) : IntMulOk a b := IntMulOk.of_right (bits_le hb)
theorem Bt.lit {k : Nat} {a : Int} (h : decide (a.natAbs < 2 ^ k) = true) : Bt k a := by unfold Bt; exact of_decide_eq_true h


def cellIn (x : PySem.Str) : List (PySem.Str × NameKind) → Bool
  | [] => false
  | (n, k) :: r => (k == .cell && x == n) || cellIn x r
def locB (sc : Scope) (x : PySem.Str) : Bool := (match sc.names.lookup x with | some .local => true | some .cell => cellIn x sc.names | _ => false) && !(x == ("__debug__" : PySem.Str))
theorem cellIn_acc {x : PySem.Str} : ∀ (names : List (PySem.Str × NameKind)) (n : Nat) (acc : List (PySem.Str × Addr)), (∃ c, acc.lookup x = some c) → ∃ c, (cellsFrom n names acc).lookup x = some c
  | [], _, _, h => h
  | (y, k) :: r, n, acc, h => by
    unfold cellsFrom
    split
    · refine cellIn_acc r (n + 1) _ ?_
      rw [List.lookup_cons]
      split
      · exact ⟨n, rfl⟩
      · exact h
    · exact cellIn_acc r n acc h
theorem cellIn_of {x : PySem.Str} : ∀ (names : List (PySem.Str × NameKind)) (n : Nat) (acc : List (PySem.Str × Addr)), cellIn x names = true → ∃ c, (cellsFrom n names acc).lookup x = some c
  | [], _, _, h => by simp [cellIn] at h
  | (y, k) :: r, n, acc, h => by
    unfold cellsFrom
    simp only [cellIn, Bool.or_eq_true, Bool.and_eq_true] at h
    rcases h with ⟨h1, h2⟩ | h
    · rw [if_pos h1]
      refine cellIn_acc r (n + 1) _ ?_
      rw [List.lookup_cons, h2]
      exact ⟨n, rfl⟩
    · split
      · exact cellIn_of r (n + 1) _ h
      · exact cellIn_of r n acc h
theorem loc_of {C : Fc} {x : PySem.Str} (h : locB C.sc x = true) : Loc C x := by
  unfold locB at h
  simp only [Bool.and_eq_true, Bool.not_eq_true'] at h
  refine ⟨?_, h.2⟩
  have h1 := h.1
  split at h1
  · exact .inl ‹_›
  · exact .inr ⟨‹_›, fun L => cellIn_of _ _ _ h1⟩
  · cases h1
theorem locs_of {C : Fc} {xs : List PySem.Str} (h : xs.all (locB C.sc) = true) : ∀ x ∈ xs, Loc C x := fun x hx => loc_of (List.all_eq_true.mp h x hx)

def AllIn (σ : PEnv) : PEnv → Prop
  | [] => True
  | (x, sl) :: r => σ.lookup x = some sl ∧ AllIn σ r
theorem AllIn.get {σ : PEnv} : ∀ {σ₀ : PEnv}, AllIn σ σ₀ → ∀ x sl, σ₀.lookup x = some sl → σ.lookup x = some sl
  | [], _, _, _, h => by simp at h
  | (y, s) :: r, h, x, sl, hx => by
    by_cases e : x = y
    · subst e; rw [lookup_cons_eq] at hx; cases hx; exact h.1
    · rw [lookup_cons_ne e] at hx; exact AllIn.get h.2 x sl hx
theorem sub_of {σ σ₀ : PEnv} (h : AllIn σ σ₀) : Sub σ σ₀ := fun x sl hx => .inl (h.get x sl hx)

theorem ev_shr1 {C : Fc} {σ : PEnv} {l r pos a} (hl : EvE C σ l (.int a)) (hr : EvE C σ r (.int 1)) : EvE C σ (.BinOp l .RShift r pos) (.int (a.fdiv 2)) := ev_shr hl hr (by decide)

theorem StX.wk {C σ σ₀ t Q} (h : StX C σ₀ t Q) (hs : AllIn σ σ₀) : StX C σ t Q := StX.sub (sub_of hs) h


section
variable {prog : Program} {w : World} {A : Around} {E : Value → Shared → Prop}
theorem draw_lst {it l : Addr} {items : Array Value} (hne : l ≠ it) : ∀ (n i : Nat) (s : Shared) (Q : List Value → Shared → Prop), s.heap.IsListIter it l i → s.heap.IsList l items → i + n ≤ items.size →
    (∀ h', h'.IsListIter it l (i + n) → Heap.SameBut it s.heap h' → Q ((items.toList.drop i).take n) { s with heap := h' }) → wpAny (model prog w) A (draw (.ref it) n) Q E s
  | 0, i, s, Q, hit, _, _, hQ => by
    show wpAny _ _ (pure []) Q E s
    exact wpAny_pure (by simpa using hQ s.heap hit (Heap.SameBut.refl ..))
  | n + 1, i, s, Q, hit, ht, hle, hQ => by
    have hlt : i < items.size := by omega
    show wpAny _ _ (pyNext (.ref it) >>= _) Q E s
    refine wpAny_bind (wpAny_pyNext_list_item hit ht (x := items[i]) (by simp [hlt]) fun h₁ hit₁ hs₁ => ?_)
    refine wpAny_bind (wpAny_holding (draw_lst hne n (i + 1) _ _ hit₁ (ht.extBut hs₁.extBut hne) (by omega) fun h₂ hit₂ hs₂ => wpAny_pure ?_))
    have hd : items.toList.drop i = items[i] :: items.toList.drop (i + 1) := by simp [List.drop_eq_getElem_cons, hlt]
    have := hQ h₂ (by rw [show i + (n + 1) = i + 1 + n by omega]; exact hit₂) (hs₁.trans hs₂)
    rw [hd, List.take_succ_cons] at this
    exact this

theorem unpackItems_lst {s : Shared} {t : Addr} {items : Array Value} {Q : List Value → Shared → Prop} (hh : A.handled = none) (ht : s.heap.IsList t items)
    (hQ : ∀ h', Heap.ExtBut s.heap.objs.size s.heap h' → Q items.toList { s with heap := h' }) : wpAny (model prog w) A (unpackItems (.ref t) items.size none) Q E s := by
  have hlt : t ≠ s.heap.objs.size := by obtain ⟨o, ho, _⟩ := ht; exact Nat.ne_of_lt (Heap.lt_size ho)
  unfold unpackItems
  refine wpAny_bind ?_
  · unfold notIterableAtAll
    refine wpAny_bind (wpAny_specialOf ht.typeIs slot_list_iter.lookup ?_)
    refine wpAny_pure ?_
    simp only [Bool.false_eq_true, if_false]
    refine wpAny_bind (wpAny_holding (wpAny_pyIter_list ht ?_))
    refine wpAny_bind (wpAny_holding (draw_lst hlt items.size 0 _ _ ⟨_, Heap.get?_push_size _ rfl, rfl, rfl⟩ (ht.push _) (by omega) fun h₁ hit₁ hs₁ => ?_))
    have hall : List.take items.size (List.drop 0 items.toList) = items.toList := by
      rw [List.drop_zero]; exact List.take_of_length_le (by simp)
    rw [hall]
    rw [if_neg (by simp)]
    have ht₁ : h₁.IsList t items := (ht.push _).extBut hs₁.extBut hlt
    refine wpAny_bind (wpAny_holding (wpAny_pyNext_list_end hh hit₁ ht₁ (by simp) fun h₂ he₂ => ?_))
    simp only [Option.isSome_none, Bool.false_eq_true, if_false]
    refine wpAny_pure (hQ h₂ fun b o hb e => he₂ b o hb (hs₁.extBut b o hb (Heap.get?_push_of_some _ e)))
end

section
variable {C : Fc} {σ : PEnv} {Q : Out → PEnv → Prop}
theorem st_unpackL {elts k tpos e pos ps} (xs : List PySem.Str) (he : EvE C σ e (.lst ps)) (hb : flats ps = true ∨ noMut σ = true) (hn : ps.length = xs.length) (hloc : ∀ x ∈ xs, Loc C x)
    (h : Q .next (bindL xs ps σ))
    (hts : ∀ L ad cd, StoreAll C L ad cd ((assignEach elts (C.env L ad cd)).map (·.2)) xs) (hlen : ∀ env, (assignEach elts env).length = xs.length) (hstar : ∀ env, (assignEach elts env).findIdx? (·.1) = none)
    (hs : ∀ env, swapsWithSole [.Tuple elts k tpos] e pos.line env = pure false := by intro _; rfl)
    (hw : ∀ env, swappedStores [.Tuple elts k tpos] e env = pure none := by intro _; rfl) : ExS C σ (.Assign [.Tuple elts k tpos] e pos) Q := .mk fun L ad cd A s hA hS => by
  refine Assign_Tuple (wpAny_mono (he.run L ad cd A s hA hS) (fun v s₁ ⟨k₁, r⟩ => ?_) fun _ _ e => e) (hs _) (hw _)
  obtain ⟨a, vs, rfl, hs', hr⟩ := r.lst_inv
  have hlv := hr.length
  show wpAny _ _ (do standAt tpos; unpack (.ref a) (assignEach elts (C.env L ad cd))) _ _ _
  refine wpAny_bind (wpAny_standAt ?_)
  unfold unpack
  have hsz : (assignEach elts (C.env L ad cd)).length = vs.toArray.size := by rw [hlen, List.size_toArray, hlv, hn]
  rw [hsz, hstar]
  refine wpAny_bind (wpAny_holding (unpackItems_lst hA.1 (isList_of hs') fun h' hx => ?_))
  have k2 : Keeps s₁ { s₁ with heap := h' } := ⟨h', s₁.toks, rfl, extBut_le hx⟩
  simp only []
  refine assign_all hA _ xs ps vs σ s _ _ (hts L ad cd) hn hloc hb hS (ktrans k₁ k2) (kreps k2 hr) fun s' hA' => ⟨.next, _, hA', trivial, h⟩
end

section
variable {C : Fc} {σ : PEnv} {Q : Out → PEnv → Prop}
theorem cmp_isnot_same {T : String} : CmpIs C .IsNot (.typ T) (.typ T) false := by
  have h := cmp_isnot (C := C) (S := T) (T := T)
  simpa using h
theorem st_ifF {t b1 b2 pos c} (ht : EvT C σ t c) (hc : c = false) (h2 : ExB C σ b2 Q) : ExS C σ (.If t b1 b2 pos) Q := st_if ht (fun h => by rw [hc] at h; cases h) fun _ => h2
theorem st_ifT {t b1 b2 pos c} (ht : EvT C σ t c) (hc : c = true) (h1 : ExB C σ b1 Q) : ExS C σ (.If t b1 b2 pos) Q := st_if ht (fun _ => h1) (fun h => by rw [hc] at h; cases h)
/-- a loop whose turns leave a fixed environment -/
theorem st_forC {target it body pos items} {bd : PV → PEnv → PEnv} (σ₀ : PEnv) (hi : EvI C σ it items) (hflat : ∀ p ∈ items, flat p = true) (htk : ∀ p ∈ items, Takes C target p (bd p)) (h0 : AllIn σ σ₀)
    (step : ∀ p ∈ items, ExB C (bd p σ₀) body (Turn (fun σ' => σ' = σ₀) Q)) (fin : Q .next σ₀)
    (hset : ∀ env x, foldedSetIterable it env x = pure x := by intro _ _; rfl)
    (htgt : (∃ x px, target = .Name x px) ∨ (∃ ts k tp, target = .Tuple ts k tp) := by exact .inl ⟨_, _, rfl⟩) :
    ExS C σ (.For target it body [] pos) Q :=
  st_for hi hflat htk (fun _ σ' => σ' = σ₀) ⟨σ₀, sub_of h0, rfl⟩ (fun pre p post σ' hit e => by subst e; exact step p (by rw [hit]; simp)) (fun σ' e => by subst e; exact fin) hset htgt
theorem bl_end {I : PEnv → Prop} {σ' : PEnv} (h : AllIn σ σ') (hI : I σ') : ExB C σ [] (Turn I Q) := bl_nil ⟨σ', sub_of h, hI⟩
end

theorem ev_eq {C σ e p q} (h : EvE C σ e p) (hq : p = q) : EvE C σ e q := hq ▸ h
theorem et_eq {C σ e b c} (h : EvT C σ e b) (hq : b = c) : EvT C σ e c := hq ▸ h
theorem el_eq {C σ e p q} (h : EvL C σ e p) (hq : p = q) : EvL C σ e q := hq ▸ h
theorem ei_eq {C σ e p q} (h : EvI C σ e p) (hq : p = q) : EvI C σ e q := hq ▸ h
theorem intL_take {ns : List Int} {k : Nat} : (intL ns).take k = intL (ns.take k) := by simp [intL, List.map_take]
theorem intL_drop {ns : List Int} {k : Nat} : (intL ns).drop k = intL (ns.drop k) := by simp [intL, List.map_drop]
theorem intL_append {ns ms : List Int} : intL ns ++ intL ms = intL (ns ++ ms) := by simp [intL]
theorem intL_length {ns : List Int} : (intL ns).length = ns.length := by simp [intL]
theorem intL_cons {n : Int} {ns : List Int} : PV.int n :: intL ns = intL (n :: ns) := rfl
theorem intL_nil : ([] : List PV) = intL [] := rfl

theorem ev_pow10 {C σ l r pos b} (hl : EvE C σ l (.int 10)) (hr : EvE C σ r (.int b)) (hn : 0 ≤ b) (hsz : b ≤ 1000000) : EvE C σ (.BinOp l .Pow r pos) (.int (10 ^ b.toNat)) :=
  ev_pow hl hr hn (by rw [show Builtin.Int.intBits 10 = 4 from by decide]; omega)
theorem mem_intL {p : PV} {ns : List Int} (h : p ∈ intL ns) : ∃ c ∈ ns, p = .int c := by
  simp only [intL, List.mem_map] at h
  obtain ⟨c, hc, rfl⟩ := h
  exact ⟨c, hc, rfl⟩

theorem bl_endC {C : Fc} {σ σ' : PEnv} {Q : Out → PEnv → Prop} (h : AllIn σ σ') : ExB C σ [] (Turn (fun s => s = σ') Q) := bl_nil ⟨σ', sub_of h, rfl⟩

/-- the call's end: True -/
theorem law_endC {X : Cx} {nm : PySem.Str} {sc : Scope} {r : Nat} {hk : sc.kind = .function} {σ : PEnv} {body : List Stmt} {A : Around} {L a : Addr} {cd : Value} {s s₁ : Shared} {E : Value → Shared → Prop} {R : Flow → Shared → Prop}
    (hb : ExB ⟨X, nm, sc, r, hk⟩ σ body (fun o _ => o = .ret (.bool true))) (hA : Lv r A) (hS : Sim ⟨X, nm, sc, r, hk⟩ L σ s.heap) (hX : X.hb = s₁.heap) (hgen : s.gens = #[]) (hos : s.os = s₁.os)
    (hR : ∀ s', (∀ b o, s₁.heap.get? b = some o → s'.heap.get? b = some o) → s'.os = s₁.os → s'.gens = #[] → R (.ret (.bool true)) s') :
    wpAny X.M A (execs body (envOfC nm sc L a cd)) R E s := by
  refine wpAny_mono (hb.run L (some a, some L) cd A s hA hS) (fun f s' ⟨o, σ', hA', hf, ho⟩ => ?_) fun _ _ e => e.elim
  subst ho
  cases f with
  | ret v =>
    have hv : v = .bool true := Rep.bool_inv (g := s'.heap.get?) hf
    subst hv
    obtain ⟨h, tk, rfl⟩ := hA'.same
    refine hR _ (fun b o e => ?_) hos hgen
    exact hA'.sim.hbIn b o (by rw [show (Fc.X _ : Cx).hb = s₁.heap from hX]; exact e)
  | next => exact hf.elim
  | brk => exact hf.elim
  | cont => exact hf.elim
theorem law_end {X : Cx} {nm : PySem.Str} {sc : Scope} {r : Nat} {hk : sc.kind = .function} {σ : PEnv} {body : List Stmt} {A : Around} {L a : Addr} {cd : Value} {s s₁ : Shared} {E : Value → Shared → Prop} {R : Flow → Shared → Prop}
    (hb : ExB ⟨X, nm, sc, r, hk⟩ σ body (fun o _ => o = .ret (.bool true))) (hA : Lv r A) (hS : Sim ⟨X, nm, sc, r, hk⟩ L σ s.heap) (hX : X.hb = s₁.heap) (hgen : s.gens = #[]) (hos : s.os = s₁.os)
    (hR : ∀ s', (∀ b o, s₁.heap.get? b = some o → s'.heap.get? b = some o) → s'.os = s₁.os → s'.gens = #[] → R (.ret (.bool true)) s') (hcell : ∀ y ∈ sc.names, y.2 ≠ .cell := by decide +kernel) :
    wpAny X.M A (execs body (envOf nm sc L a cd)) R E s := by
  have h := law_endC (a := a) (cd := cd) (E := E) hb hA hS hX hgen hos hR
  unfold envOfC at h
  rw [cells_none _ _ _ hcell] at h
  exact h

/-! ## the start of a law's call -/
def mkCx (prog : Program) (w : World) (h : Heap) (mg mb : PySem.Str → Option Value) {p : Program} {loose : List PySem.Str} {mean : ExcName → Option Value} (T : Top p loose mean mg mb h) (hp : importsNone p = true) (ht : prog.given.tree = none) (hfree : ∀ x ∈ bnames, mg x = none) : Cx :=
  ⟨prog, w, h, mg, mb, T.g, T.b, T.nolimit, T.nodigits, T.seer hp, ht, T.builtins, hfree⟩

theorem weight_mem : ∀ {ns : List Int} {n : Int}, n ∈ ns → PyData.weight (.int n) ≤ PyData.weightAll (ns.map PyData.int)
  | [], _, h => by simp at h
  | m :: ms, n, h => by
    simp only [List.map_cons, PyData.weightAll]
    rcases List.mem_cons.mp h with rfl | h
    · omega
    · have := weight_mem h; omega
theorem lay_bt {ns : List Int} (h : (PyData.list (ns.map PyData.int)).layable0 = true) : ∀ n ∈ ns, Bt 1048576 n := fun n hn => by
  unfold PyData.layable0 at h
  simp only [Bool.and_eq_true, decide_eq_true_eq] at h
  have h1 := h.2
  simp only [PyData.weight] at h1
  have h2 := weight_mem hn
  simp only [PyData.weight] at h2
  unfold Bt
  by_cases h0 : n = 0
  · subst h0; exact Nat.pow_pos (by decide)
  · have h3 : (n == 0) = false := by simpa using h0
    rw [h3] at h2
    simp only [Bool.false_eq_true, if_false] at h2
    have h4 : n.natAbs ≠ 0 := by omega
    exact (Nat.log2_lt h4).mp (by omega)

theorem sim_start {X : Cx} {nm : PySem.Str} {sc : Scope} {r : Nat} {hk : sc.kind = .function} {s₁ : Shared} {h₁ : Heap} {a : Addr} {vs : List Value} {ns : List Int} {m : PySem.Str → Option Value} (hX : X.hb = s₁.heap)
    (F : Fr s₁.heap s₁.heap.objs.size h₁ m) (hm : m "script" = some (.ref a)) (hL : s₁.heap.IsList a vs.toArray) (hI : IntsAre vs ns) (hsc : sc.names.lookup ("script" : PySem.Str) = some .local) (hcell : ∀ y ∈ sc.names, y.2 ≠ .cell := by decide +kernel) :
    Sim ⟨X, nm, sc, r, hk⟩ s₁.heap.objs.size [("script", .v (.lst (intL ns)))] h₁ := by
  have hnm : NoMut [(("script" : PySem.Str), Slot.v (.lst (intL ns)))] := noMut_spec rfl
  have look : ∀ x sl, List.lookup x [(("script" : PySem.Str), Slot.v (.lst (intL ns)))] = some sl → x = "script" ∧ sl = .v (.lst (intL ns)) := fun x sl hx => by
    rw [List.lookup_cons] at hx
    by_cases e : x = ("script" : PySem.Str)
    · subst e; simp at hx; exact ⟨rfl, hx.symm⟩
    · have : (x == ("script" : PySem.Str)) = false := by simpa using e
      rw [this] at hx; simp at hx
  refine ⟨⟨m, ⟨VNs.of_local hcell F.ns, fun b o e => F.keep b o (by rw [← hX]; exact e), fun b hb => ?_⟩, fun x sl hx => ?_⟩, fun x sl hx => ?_, fun x y b l l' h1 _ => absurd ⟨x, l, h1⟩ (hnm b), fun b hb => absurd hb (hnm b)⟩
  · show X.hb.get? _ = none
    rw [hX]; exact Heap.get?_none_of_le (own_ge hb)
  · obtain ⟨rfl, rfl⟩ := look x sl hx
    refine ⟨_, hm, ?_⟩
    show Rep _ (.lst (intL ns)) (.ref a)
    simp only [Rep]
    obtain ⟨o, ho, hc, n, hd⟩ := hL
    exact ⟨a, vs, rfl, ⟨o, off_some.mpr ⟨hnm a, F.keep a o ho⟩, hc, n, hd⟩, ints_reps hI⟩
  · obtain ⟨rfl, rfl⟩ := look x sl hx
    exact ⟨.inl hsc, by decide +kernel⟩

theorem lv_caller {env : Env} (h1 : env.scope.isGenerator = false) (h2 : env.scope.isCoroutine = false) (h3 : env.builtins = builtinsNs) (h4 : env.globals = mainGlobals) {r : Nat} (hr : r ≤ 20) : Lv r (callerA.deeper env) := by
  refine ⟨rfl, ?_, ?_, env, [], rfl, h1, h2, h3, h4⟩
  · show 301 + 1 + r ≤ 400; omega
  · show 4 + 3 + 3 * r ≤ 400; omega

theorem goodW_true {c : ClaimW} {cl : PySem.Str → Option Addr} {mean : ExcName → Option Value} {args : List WData} {s₁ s' : Shared} (hr : ∀ cls, c.raises args cls = false) (hp : c.post args (.bool true) args = true)
    (h1 : ∀ b o, s₁.heap.get? b = some o → s'.heap.get? b = some o) (h2 : s'.os = s₁.os) (h3 : s'.gens = #[]) : GoodW c cl mean args s₁ (.ok (.ret (.bool true))) s' :=
  ⟨.inl ⟨.bool true, .bool true, [], rfl, hr, .bool true, hp, fun _ => ⟨.nil, fun _ h => nomatch h⟩⟩, h1, h2, h3⟩

/-- the start of a law's call whose frame has one cell -/
theorem sim_startC {X : Cx} {nm : PySem.Str} {sc : Scope} {r : Nat} {hk : sc.kind = .function} {s₁ : Shared} {h₁ : Heap} {a : Addr} {vs : List Value} {ns : List Int} {ml cm : PySem.Str → Option Value} {c : PySem.Str} {ow : Obj} (hX : X.hb = s₁.heap)
    (F : Fr s₁.heap s₁.heap.objs.size h₁ ml) (hm : ml "script" = some (.ref a)) (hL : s₁.heap.IsList a vs.toArray) (hI : IntsAre vs ns) (hsc : sc.names.lookup ("script" : PySem.Str) = some .local)
    (hcs : cellsOf sc s₁.heap.objs.size = [(c, s₁.heap.objs.size + 1)]) (hN : News s₁.heap s₁.heap.objs.size h₁ [(s₁.heap.objs.size + 1, ow)]) (hd : ow.data = .cell (cm c)) :
    Sim ⟨X, nm, sc, r, hk⟩ s₁.heap.objs.size [("script", .v (.lst (intL ns)))] h₁ := by
  have hnm : NoMut [(("script" : PySem.Str), Slot.v (.lst (intL ns)))] := noMut_spec rfl
  have look : ∀ x sl, List.lookup x [(("script" : PySem.Str), Slot.v (.lst (intL ns)))] = some sl → x = "script" ∧ sl = .v (.lst (intL ns)) := fun x sl hx => by
    rw [List.lookup_cons] at hx
    by_cases e : x = ("script" : PySem.Str)
    · subst e; simp at hx; exact ⟨rfl, hx.symm⟩
    · have : (x == ("script" : PySem.Str)) = false := by simpa using e
      rw [this] at hx; simp at hx
  have hV : VNs sc s₁.heap.objs.size h₁ (pick sc ml cm) := ⟨ml, cm, F.ns, fun n c' hl => by
    rw [hcs, List.lookup_cons] at hl
    by_cases e : n = c
    · subst e
      simp at hl; subst hl
      exact ⟨ow, (hN (s₁.heap.objs.size + 1, ow) (List.mem_singleton.mpr rfl)).1, hd⟩
    · have : (n == c) = false := by simpa using e
      rw [this] at hl; simp at hl, rfl⟩
  refine ⟨⟨_, ⟨hV, fun b o e => F.keep b o (by rw [← hX]; exact e), fun b hb => ?_⟩, fun x sl hx => ?_⟩, fun x sl hx => ?_, fun x y b l l' h1 _ => absurd ⟨x, l, h1⟩ (hnm b), fun b hb => absurd hb (hnm b)⟩
  · show X.hb.get? _ = none
    rw [hX]; exact Heap.get?_none_of_le (own_ge hb)
  · obtain ⟨rfl, rfl⟩ := look x sl hx
    refine ⟨_, (by simpa [pick, hsc] using hm), ?_⟩
    show Rep _ (.lst (intL ns)) (.ref a)
    simp only [Rep]
    obtain ⟨o, ho, hc, n, hd⟩ := hL
    exact ⟨a, vs, rfl, ⟨o, off_some.mpr ⟨hnm a, F.keep a o ho⟩, hc, n, hd⟩, ints_reps hI⟩
  · obtain ⟨rfl, rfl⟩ := look x sl hx
    exact ⟨.inl hsc, by decide +kernel⟩

section
variable {C : Fc} {σ : PEnv} {Q : Out → PEnv → Prop}
/-- x, y = [..], [..]: two lists that may be changed -/
theorem st_new2 {x y px py k tpos e f k2 epos pos l1 l2} (hxy : x ≠ y) (he : EvL C σ e l1) (hf : EvL C σ f l2) (f1 : flats l1 = true) (f2 : flats l2 = true) (hx : Loc C x) (hy : Loc C y)
    (h : ∀ a b, Q .next ((x, .m a l1) :: (y, .m b l2) :: σ))
    (he1 : ∀ env, starEach [e, f] env = (false, eval e env) :: starEach [f] env := by intro _; rfl) (he2 : ∀ env, starEach [f] env = (false, eval f env) :: starEach [] env := by intro _; rfl)
    (hs : ∀ env, swapsWithSole [.Tuple [.Name x px, .Name y py] k tpos] (.Tuple [e, f] k2 epos) pos.line env = pure false := by intro _; rfl)
    (hw : ∀ L ad cd, swappedStores [.Tuple [.Name x px, .Name y py] k tpos] (.Tuple [e, f] k2 epos) (C.env L ad cd) = pure (some [x, y]) := by intro _ _ _; rfl) :
    ExS C σ (.Assign [.Tuple [.Name x px, .Name y py] k tpos] (.Tuple [e, f] k2 epos) pos) Q := .mk fun L ad cd A s hA hS => by
  refine Assign_Tuple_swapped (names := [x, y]) (Tuple_ (args_cons (wpAny_mono (he.run L ad cd A s hA hS) (fun v s₁ ⟨a, vs, e1, hn1, hm1, hr1, k1⟩ => ?_) fun _ _ e => e) (he1 _))) (hs _) (hw _ _ _)
  subst e1
  refine args_cons (wpAny_mono (hf.run L ad cd A s₁ hA (hS.keeps (kle k1))) (fun v s₂ ⟨b, ws, e2, hn2, hm2, hr2, k2⟩ => ?_) fun _ _ e => e) (he2 _)
  subst e2
  refine args_nil ?_
  refine wpAny_newObj_type ?_ (by show (2 : Nat) ≤ sizeLine; decide)
  refine unpackItems_tuple (items := #[.ref a, .ref b]) hA.1 (isTup_of (vs := [.ref a, .ref b]) new_seq) fun h' hx' => ?_
  have k3 : Keeps s₂ { s₂ with heap := s₂.heap.push { cls := .type "tuple", data := .seq #[.ref a, .ref b] } } := kpush
  have k4 : Keeps { s₂ with heap := s₂.heap.push { cls := .type "tuple", data := .seq #[.ref a, .ref b] } } { s₂ with heap := h' } := ⟨h', s₂.toks, rfl, extBut_le hx'⟩
  have K2 := ktrans k3 k4
  have K1 := ktrans k2 K2
  have kk := ktrans k1 K1
  obtain ⟨m, F, hsl⟩ := hS.fr
  have F' := F.grownK (kle kk)
  refine assignInOrder_cons (bindName_ (F'.ns.store hy (fun h1 tk1 hns1 hs1 => ?_)))
  refine assignInOrder_cons (bindName_ (VNs.store hns1 hx (fun h2 tk2 hns2 hs2 => ?_)))
  refine assignInOrder_nil ?_
  have hnb : s.heap.get? b = none := by
    cases e : s.heap.get? b with
    | none => rfl
    | some o => rw [kle k1 b o e] at hn2; cases hn2
  have haL : ¬ Own C.sc L a := fun hb => hS.ownSome hb hn1
  have hbL : ¬ Own C.sc L b := fun hb => hS.ownSome hb hnb
  have hab : a ≠ b := by rintro rfl; obtain ⟨o, ho, _⟩ := hm1; rw [ho] at hn2; cases hn2
  have agree : ∀ c, ¬ Own C.sc L c → h2.get? c = h'.get? c := fun c hc => (hs2.eq c hc).trans (hs1.eq c hc)
  have hle : SeqLe h'.get? h2.get? := fun c o ho hd => seqLe_sameBut hns1 hs2 c o (seqLe_sameBut F'.ns hs1 c o ho hd) hd
  have hmut : ∀ c, Mut ((x, .m a l1) :: (y, .m b l2) :: σ) c → Mut σ c ∨ c = a ∨ c = b := fun c hc => by
    rcases mut_cons hc with h1 | ⟨l', h1⟩
    · rcases mut_cons h1 with h3 | ⟨l', h3⟩
      · exact .inl h3
      · cases h3; exact .inr (.inr rfl)
    · cases h1; exact .inr (.inl rfl)
  have hm1' : MList h2.get? a vs := by obtain ⟨o, ho, r⟩ := hm1; exact ⟨o, (agree a haL).trans (kle K1 a o ho), r⟩
  have hm2' : MList h2.get? b ws := by obtain ⟨o, ho, r⟩ := hm2; exact ⟨o, (agree b hbL).trans (kle K2 b o ho), r⟩
  have ok1 : SlotOK (Mut ((x, .m a l1) :: (y, .m b l2) :: σ)) h2 (.ref a) (.m a l1) := by
    refine ⟨rfl, vs, hm1', Reps.monoF (fun c o ho hc hd => off_some.mpr ⟨fun hmu => ?_, hle c o (kle K1 c o ho) hd⟩) l1 f1 hr1, f1⟩
    rcases hmut c hmu with h3 | rfl | rfl
    · obtain ⟨us, o', hp, hc', _⟩ := hS.plain h3
      rw [kle k1 c o' hp] at ho; cases ho
      rw [hc'] at hc; simp at hc
    · obtain ⟨o', hp, hc', _⟩ := hm1
      rw [hp] at ho; cases ho
      rw [hc'] at hc; simp at hc
    · rw [hn2] at ho; cases ho
  have ok2 : SlotOK (Mut ((x, .m a l1) :: (y, .m b l2) :: σ)) h2 (.ref b) (.m b l2) := by
    refine ⟨rfl, ws, hm2', Reps.monoF (fun c o ho hc hd => off_some.mpr ⟨fun hmu => ?_, hle c o (kle K2 c o ho) hd⟩) l2 f2 hr2, f2⟩
    rcases hmut c hmu with h3 | rfl | rfl
    · obtain ⟨us, o', hp, hc', _⟩ := hS.plain h3
      rw [kle k2 c o' (kle k1 c o' hp)] at ho; cases ho
      rw [hc'] at hc; simp at hc
    · obtain ⟨o', hp, hc', _⟩ := hm1
      rw [kle k2 c o' hp] at ho; cases ho
      rw [hc'] at hc; simp at hc
    · obtain ⟨o', hp, hc', _⟩ := hm2
      rw [hp] at ho; cases ho
      rw [hc'] at hc; simp at hc
  have look : ∀ z sl, List.lookup z ((x, .m a l1) :: (y, .m b l2) :: σ) = some sl → (z = x ∧ sl = .m a l1) ∨ (z ≠ x ∧ z = y ∧ sl = .m b l2) ∨ (z ≠ x ∧ z ≠ y ∧ σ.lookup z = some sl) := fun z sl hz => by
    by_cases ex : z = x
    · subst ex; rw [lookup_cons_eq] at hz; cases hz; exact .inl ⟨rfl, rfl⟩
    · rw [lookup_cons_ne ex] at hz
      by_cases ey : z = y
      · subst ey; rw [lookup_cons_eq] at hz; cases hz; exact .inr (.inl ⟨ex, rfl, rfl⟩)
      · rw [lookup_cons_ne ey] at hz; exact .inr (.inr ⟨ex, ey, hz⟩)
  refine ⟨.next, _, ⟨⟨⟨_, ⟨hns2, fun c o e => ?_, F.new⟩, fun z sl hz => ?_⟩, fun z sl hz => ?_, fun z u c l l' h3 h4 => ?_, fun c hc => ?_⟩, ⟨fun c o hcL _ e => ?_, fun c e => ?_⟩, fun c hmu => ?_, ?_⟩, trivial, h a b⟩
  · have hc : ¬ Own C.sc L c := fun hb => by rw [F.new c hb] at e; cases e
    exact (agree c hc).trans (F'.keep c o e)
  · rcases look z sl hz with ⟨rfl, rfl⟩ | ⟨hzx, rfl, rfl⟩ | ⟨hzx, hzy, hz⟩
    · exact ⟨.ref a, by simp, ok1⟩
    · exact ⟨.ref b, by simp [hzx], ok2⟩
    · obtain ⟨w, hw', hok⟩ := hsl z sl hz
      refine ⟨w, by simp [hzx, hzy, hw'], hok.off (fun c o ho hd => ?_) (fun c l us _ hp => ?_)⟩
      · rw [off_some] at ho ⊢
        refine ⟨fun hmu => ?_, hle c o (kle kk c o ho.2) hd⟩
        rcases hmut c hmu with h3 | rfl | rfl
        · exact ho.1 h3
        · rw [hn1] at ho; cases ho.2
        · rw [hnb] at ho; cases ho.2
      · exact hp.mono fun c o ho hd => hle c o (kle kk c o ho) hd
  · rcases look z sl hz with ⟨rfl, rfl⟩ | ⟨hzx, rfl, rfl⟩ | ⟨hzx, hzy, hz⟩
    · exact hx
    · exact hy
    · exact hS.loc z sl hz
  · have nm : ∀ z l, σ.lookup z = some (.m a l) → False := fun z l hz => hS.mutSome a ⟨z, l, hz⟩ hn1
    have nb : ∀ z l, σ.lookup z = some (.m b l) → False := fun z l hz => hS.mutSome b ⟨z, l, hz⟩ hnb
    rcases look z _ h3 with ⟨rfl, e3⟩ | ⟨_, rfl, e3⟩ | ⟨_, _, h5⟩
    · cases e3
      rcases look u _ h4 with ⟨rfl, e4⟩ | ⟨_, rfl, e4⟩ | ⟨_, _, h4⟩
      · rfl
      · cases e4; exact absurd rfl hab
      · exact (nm _ _ h4).elim
    · cases e3
      rcases look u _ h4 with ⟨rfl, e4⟩ | ⟨_, rfl, e4⟩ | ⟨_, _, h4⟩
      · cases e4; exact absurd rfl hab
      · rfl
      · exact (nb _ _ h4).elim
    · rcases look u _ h4 with ⟨rfl, e4⟩ | ⟨_, rfl, e4⟩ | ⟨_, _, h4⟩
      · cases e4; exact (nm _ _ h5).elim
      · cases e4; exact (nb _ _ h5).elim
      · exact hS.uniq z u c l l' h5 h4
  · have hf' : ∀ d, s.heap.get? d = none → C.X.hb.get? d = none := fun d hd => by
      cases e : C.X.hb.get? d with
      | none => rfl
      | some o => rw [F.keep d o e] at hd; cases hd
    rcases hmut c hc with h3 | rfl | rfl
    · exact hS.fresh c h3
    · exact ⟨hf' _ hn1, haL⟩
    · exact ⟨hf' _ hnb, hbL⟩
  · exact (agree c hcL).trans (kle kk c o e)
  · by_cases hc : Own C.sc L c
    · exact hns2.isSome hc
    · show h2.get? c ≠ none
      rw [agree c hc]
      cases e' : s.heap.get? c with
      | none => exact absurd e' e
      | some o => rw [kle kk c o e']; exact fun x => by cases x
  · rcases hmut c hmu with h3 | rfl | rfl
    · exact .inl h3
    · exact .inr hn1
    · exact .inr hnb
  · obtain ⟨h1, tk, rfl, _⟩ := id k2
    obtain ⟨h1, tk, rfl, _⟩ := id k1
    exact ⟨_, _, rfl⟩
end

/-! ### a comprehension over whole numbers whose item speaks of its own name alone -/
structure InC (X : Cx) (sc : Scope) (x : PySem.Str) (i : Int) (env : Env) (h : Heap) : Prop where
  sc : env.scope = sc
  gl : env.globals = mainGlobals
  bi : env.builtins = builtinsNs
  hb : HbIn X h
  ns : ∃ m t, h.Ns env.locals m ∧ m x = some (.int i t)
structure EvC (X : Cx) (r : Nat) (sc : Scope) (x : PySem.Str) (i : Int) (e : Expr) (p : PV) : Prop where
  run : ∀ A s env, Lv r A → InC X sc x i env s.heap → wpAny X.M A (eval e env) (fun v s' => Keeps s s' ∧ Rep s'.heap.get? p v) NoE s
structure EtC (X : Cx) (r : Nat) (sc : Scope) (x : PySem.Str) (i : Int) (e : Expr) (c : Bool) : Prop where
  run : ∀ A s env, Lv r A → InC X sc x i env s.heap → wpAny X.M A (isTrue e env (eval e env)) (fun v s' => v = c ∧ Keeps s s') NoE s
section
variable {X : Cx} {r : Nat} {sc : Scope} {x : PySem.Str} {i : Int}
theorem InC.keeps {env : Env} {s s' : Shared} (h : InC X sc x i env s.heap) (k : Keeps s s') : InC X sc x i env s'.heap :=
  ⟨h.sc, h.gl, h.bi, fun b o e => kle k b o (h.hb b o e), let ⟨m, t, hn, hm⟩ := h.ns; ⟨m, t, hn.at' fun o e => kle k _ o e, hm⟩⟩
theorem ec_name {pos} (hk : sc.kind = .function) (hx : sc.names.lookup x = some .local) (hd : (x == ("__debug__" : PySem.Str)) = false) : EvC X r sc x i (.Name x pos) (.int i) := .mk fun A s env hA h => by
  obtain ⟨m, t, hn, hm⟩ := h.ns
  exact wpAny_Name (wpAny_loadName_local (env := env) (by rw [h.sc]; exact hk) (by unfold Env.kindOf; rw [h.sc]; exact hx) hn hm ⟨krfl, rep_int⟩) hd
theorem ec_int {n k pos} : EvC X r sc x i (.Constant (.int n) k pos) (.int n) := .mk fun A s env hA h => by
  exact wpAny_Constant_int ⟨ktoks, rep_int⟩
theorem ec_abs {e a xp pos} (hk : sc.kind = .function) (hb : sc.names.lookup ("abs" : PySem.Str) = some .globalImplicit) (h : EvC X r sc x i e (.int a)) (hp : AllPlain [e]) : EvC X r sc x i (.Call (.Name "abs" xp) [e] [] pos) (.int (a.natAbs : Int)) := .mk fun A s env hA hI => by
  have hg : s.heap.Ns env.globals X.mg := by rw [hI.gl]; exact X.g.keeps hI.hb
  have hbi : s.heap.Ns env.builtins X.mb := by rw [hI.bi]; exact X.b.keeps hI.hb
  refine Call_ (Calls.Name_function_global (env := env) (by rw [hI.sc]; exact hk) (by unfold Env.kindOf; rw [hI.sc]; exact hb) (Calls.loadGlobal_builtin (env := env) hg (X.free _ (by decide +kernel)) hbi ((X.builtins _ (by decide +kernel)).trans boot_abs) ?_) (by decide +kernel))
  refine callWith_builtin1 (args_cons (wpAny_mono (h.run A s env hA hI) (fun v s₁ ⟨k, rv⟩ => args_nil ?_) fun _ _ e => e) (hp.1 _)) (hp.1 _) (hp.2.any _ _)
  have e : (if a < 0 then -a else a) = (a.natAbs : Int) := by split <;> omega
  rw [← e]
  exact wpAny_mono ((bf_abs (X := X) (r := r)).run A s₁ [v] hA (hI.keeps k).hb (Reps.cons rv Reps.nil)) (fun v s₂ ⟨k', r'⟩ => ⟨ktrans k k', r'⟩) fun _ _ e => e
theorem ec_gt {l rr pos a b} (hl : EvC X r sc x i l (.int a)) (hr : EvC X r sc x i rr (.int b)) (hm : behindInMarks .Gt rr = false := by with_unfolding_all rfl) : EtC X r sc x i (.Compare l [.Gt] [rr] pos) (decide (b < a)) := .mk fun A s env hA hI => by
  refine wpAny_isTrue_Compare1 (wpAny_mono (hl.run A s env hA hI) (fun va s₁ ⟨k₁, r₁⟩ => ?_) fun _ _ e => e) hm
  refine wpAny_mono (hr.run A s₁ env hA (hI.keeps k₁)) (fun vb s₂ ⟨k₂, r₂⟩ => ?_) fun _ _ e => e
  obtain ⟨t, rfl⟩ := r₁.int_inv
  obtain ⟨u, rfl⟩ := r₂.int_inv
  exact gt_int (wpAny_truthy_bool ⟨rfl, ktrans k₁ k₂⟩)
theorem ec_if {t a b pos c p q} (ht : EtC X r sc x i t c) (hx : c = true → EvC X r sc x i a (.int p)) (hy : c = false → EvC X r sc x i b (.int q)) : EvC X r sc x i (.IfExp t a b pos) (.int (if c = true then p else q)) := .mk fun A s env hA hI => by
  refine IfExp_ (wpAny_mono (ht.run A s env hA hI) (fun b s₁ ⟨e, k⟩ => ?_) fun _ _ e => e)
  subst e
  cases b with
  | true => exact wpAny_mono ((hx rfl).run A s₁ env hA (hI.keeps k)) (fun b s₂ ⟨k', r'⟩ => ⟨ktrans k k', r'⟩) fun _ _ e => e
  | false => exact wpAny_mono ((hy rfl).run A s₁ env hA (hI.keeps k)) (fun b s₂ ⟨k', r'⟩ => ⟨ktrans k k', r'⟩) fun _ _ e => e
end

theorem paired_ints {F : Int → Int} {g : Addr → Option Obj} : ∀ (is : List Int) (vs ys : List Value), vs.length = is.length → (∀ (j : Nat) (v : Value) (n : Int), vs[j]? = some v → is[j]? = some n → ∃ t, v = .int n t) →
    Paired (fun v y => ∃ n t u, v = Value.int n t ∧ y = Value.int (F n) u) vs ys → Reps g (intL (is.map F)) ys
  | [], [], _, _, _, .nil => Reps.nil
  | [], _ :: _, _, hl, _, _ => by simp at hl
  | _ :: _, [], _, hl, _, _ => by simp at hl
  | n :: is, v :: vs, _, hl, hv, .cons (b := y) (l₂ := ys) h hp => by
    obtain ⟨t, e⟩ := hv 0 v n rfl rfl
    obtain ⟨n', t', u, e1, e2⟩ := h
    rw [e] at e1; cases e1
    rw [e2]
    exact Reps.cons rep_int (paired_ints is vs ys (by simpa using hl) (fun j w m h1 h2 => hv (j + 1) w m (by simpa using h1) (by simpa using h2)) hp)

theorem el_comp {C : Fc} {σ : PEnv} {elt iter : Expr} {x : PySem.Str} {px : Pos} {scope : Scope} {pos : Pos} {is : List Int} (F : Int → Int)
    (hfree : ∀ y ∈ scope.names, y.2 ≠ .free) (hcell : ∀ y ∈ scope.names, y.2 ≠ .cell) (hkind : scope.kind = .function)
    (hnames : ∀ y ∈ scope.names, y.2 = .local → scope.names.lookup y.1 = some .local) (hx : scope.names.lookup x = some .local)
    (hi : EvI C σ iter (intL is)) (hsz : is.length ≤ 1000000) (helt : ∀ i ∈ is, EvC C.X C.r scope x i elt (.int (F i)))
    (hs : ∀ env y, foldedSetIterable iter env y = pure y := by intro _ _; rfl) :
    EvL C σ (.ListComp elt [⟨.Name x px, iter, [], 0⟩] scope pos) (intL (is.map F)) := .mk fun L ad cd A s hA hS => by
  refine wpAny_ListComp_walk (fun _ => true) (fun v y => ∃ n t u, v = Value.int n t ∧ y = Value.int (F n) u) hfree hcell hkind hnames hx
    (wpAny_mono (hi.run L ad cd A s hA hS) (fun xv s₁ h₁ => wpAny_mono h₁ (fun it s₂ hw => ?_) fun _ _ e => e) fun _ _ e => e) (hs _)
  obtain ⟨hk, I, fp, wr, P, St, rfl, W, hst, hnew, hfp, hex, hrep, htup⟩ := hw
  have hlen : (intL is).length = is.length := intL_length
  have hP : ∀ j v, P j v → ∀ n, is[j]? = some n → ∃ t, v = .int n t := fun j v h n hn => by
    have := hrep j v (.int n) h (by simp only [intL, List.getElem?_map, hn, Option.map_some])
    exact this.int_inv
  have hhb : ∀ b ∈ wr, C.X.hb.get? b = none := fun b hb => by
    cases e : C.X.hb.get? b with
    | none => rfl
    | some o => have := hS.hbIn b o e; rw [hnew b hb] at this; cases this
  have hs2 : HbIn C.X s₂.heap := fun b o e => kle hk b o (hS.hbIn b o e)
  refine ⟨I, fp, wr, (intL is).length, fun j v => P j v ∧ ∃ n, is[j]? = some n, St, rfl, ?_, by rw [hlen]; exact Nat.le_trans hsz (by decide), hst, fun b hb => ?_, ⟨?_, ?_⟩, ?_⟩
  · exact ⟨W.sub, W.frame, fun i s Q E hi st hQ => W.item i s Q E hi st (fun v h' tk hp => hQ v h' tk ⟨hp, is[i]'(by rw [hlen] at hi; exact hi), List.getElem?_eq_getElem _⟩), W.done, W.self⟩
  · have := (hfp b hb).2.2
    cases e : s₂.heap.get? b with
    | none => exact absurd e this
    | some o => exact Heap.lt_size e
  · intro Cn j v s₃ m₃ E' hv hn hm hkp htk
    exact wpAny_pure ⟨rfl, krfl⟩
  · intro Cn j v s₃ m₃ E' ⟨hv, n, hn⟩ _ hns hm hkp htk
    obtain ⟨t, rfl⟩ := hP j v hv n hn
    have hmem : n ∈ is := List.mem_of_getElem? hn
    refine wpAny_mono ((helt n hmem).run A s₃ (compEnv scope Cn (C.env L ad cd)) hA ⟨rfl, rfl, rfl, fun b o e => hkp b o (fun hw => by rw [hhb b hw] at e; cases e) (hs2 b o e), m₃, t, hns, hm⟩) (fun y s₄ ⟨k, r⟩ => ?_) fun _ _ e => e.elim
    obtain ⟨u, rfl⟩ := r.int_inv
    exact ⟨⟨n, t, u, rfl, rfl⟩, k⟩
  · intro D h' tk ys vs hD hl hpl hlv hPv hpair hkeep
    have hf : vs.filter (fun _ => true) = vs := by simp
    rw [hf] at hpair
    obtain ⟨nn, hD'⟩ := hpl
    refine ⟨D, ys.toList, rfl, ?_, ⟨_, hD', rfl, rfl, nn, rfl⟩, paired_ints is vs ys.toList (by rw [hlv, hlen]) (fun j v n h1 h2 => hP j v (hPv j v h1).1 n h2) hpair, ?_⟩
    · cases e : s.heap.get? D with
      | none => rfl
      | some o => rw [kle hk D o e] at hD; cases hD
    · have hk' := kle hk
      obtain ⟨h2, t2, rfl, _⟩ := hk
      exact ⟨h', tk, rfl, fun b o e => hkeep b o (fun hw => by rw [hnew b hw] at e; cases e) (hk' b o e)⟩

/-! ### comprehensions whose item is judged in a frame of its own -/
theorem paired_intsF {p : Int → Bool} {q : Value → Bool} {F : Int → Int} {g : Addr → Option Obj} (hq : ∀ n t, q (.int n t) = p n) : ∀ (is : List Int) (vs ys : List Value), vs.length = is.length → (∀ (j : Nat) (v : Value) (n : Int), vs[j]? = some v → is[j]? = some n → ∃ t, v = .int n t) →
    Paired (fun v y => ∃ n t u, v = Value.int n t ∧ y = Value.int (F n) u) (vs.filter q) ys → Reps g (intL ((is.filter p).map F)) ys
  | [], [], ys, _, _, hp => by
    simp only [List.filter_nil] at hp
    cases hp
    exact Reps.nil
  | [], _ :: _, _, hl, _, _ => by simp at hl
  | _ :: _, [], _, hl, _, _ => by simp at hl
  | n :: is, v :: vs, ys, hl, hv, hp => by
    obtain ⟨t, e⟩ := hv 0 v n rfl rfl
    have hl' : vs.length = is.length := by simpa using hl
    have hv' : ∀ (j : Nat) (w : Value) (m : Int), vs[j]? = some w → is[j]? = some m → ∃ t, w = .int m t := fun j w m h1 h2 => hv (j + 1) w m (by simpa using h1) (by simpa using h2)
    subst e
    by_cases h : p n = true
    · rw [List.filter_cons_of_pos (by rw [hq]; exact h)] at hp
      rw [List.filter_cons_of_pos h]
      cases hp with
      | cons h1 h2 =>
        obtain ⟨n', t', u, e1, e2⟩ := h1
        cases e1
        rw [e2]
        exact Reps.cons rep_int (paired_intsF hq is vs _ hl' hv' h2)
    · rw [List.filter_cons_of_neg (by rw [hq]; exact h)] at hp
      rw [List.filter_cons_of_neg h]
      exact paired_intsF hq is vs ys hl' hv' hp

/-- the frame of a comprehension -/
abbrev Fc.comp (C : Fc) (scope : Scope) (hk : scope.kind = .function) : Fc := ⟨C.X, C.nm, scope, C.r, hk⟩

def intOf (p : Int → Bool) : Value → Bool
  | .int n _ => p n
  | _ => true

inductive Tests (C : Fc) (σ : PEnv) : List Expr → Bool → Prop
  | nil : Tests C σ [] true
  | one {t b} (h : EvT C σ t b) : Tests C σ [t] b

theorem sim_comp' {C : Fc} {scope : Scope} {hk : scope.kind = .function} {x : PySem.Str} {Cn : Addr} {i : Int} {t : Tok} {h : Heap} {m : PySem.Str → Option Value} (hcell : ∀ y ∈ scope.names, y.2 ≠ .cell) (hx : scope.names.lookup x = some .local) (hd : (x == ("__debug__" : PySem.Str)) = false)
    (hn : h.Ns Cn m) (hm : m x = some (.int i t)) (hb : HbIn C.X h) (hnew : ∀ b, Own scope Cn b → C.X.hb.get? b = none) : Sim (C.comp scope hk) Cn [(x, .v (.int i))] h := by
  have hnm : NoMut [(x, Slot.v (.int i))] := noMut_spec rfl
  have look : ∀ y sl, List.lookup y [(x, Slot.v (.int i))] = some sl → y = x ∧ sl = .v (.int i) := fun y sl hy => by
    by_cases e : y = x
    · subst e; rw [lookup_cons_eq] at hy; cases hy; exact ⟨rfl, rfl⟩
    · rw [lookup_cons_ne e] at hy; simp at hy
  refine ⟨⟨m, ⟨VNs.of_local hcell hn, hb, hnew⟩, fun y sl hy => ?_⟩, fun y sl hy => ?_, fun y z b l l' h1 _ => absurd ⟨y, l, h1⟩ (hnm b), fun b hb => absurd hb (hnm b)⟩
  · obtain ⟨rfl, rfl⟩ := look y sl hy
    exact ⟨_, hm, (rep_int : Rep (off (Mut [(y, Slot.v (.int i))]) h) _ _)⟩
  · obtain ⟨rfl, rfl⟩ := look y sl hy
    exact ⟨.inl hx, hd⟩

theorem el_compE {C : Fc} {σ : PEnv} {elt iter : Expr} {x : PySem.Str} {px : Pos} {ifs : List Expr} {scope : Scope} {pos : Pos} {is : List Int} (p : Int → Bool) (F : Int → Int)
    (hkind : scope.kind = .function) (hfree : ∀ y ∈ scope.names, y.2 ≠ .free) (hcell : ∀ y ∈ scope.names, y.2 ≠ .cell)
    (hnames : ∀ y ∈ scope.names, y.2 = .local → scope.names.lookup y.1 = some .local) (hx : scope.names.lookup x = some .local) (hd : (x == ("__debug__" : PySem.Str)) = false)
    (hi : EvI C σ iter (intL is)) (hsz : is.length ≤ 1000000) (htest : ∀ i ∈ is, Tests (C.comp scope hkind) [(x, .v (.int i))] ifs (p i)) (helt : ∀ i ∈ is, p i = true → EvE (C.comp scope hkind) [(x, .v (.int i))] elt (.int (F i)))
    (hs : ∀ env y, foldedSetIterable iter env y = pure y := by intro _ _; rfl) :
    EvL C σ (.ListComp elt [⟨.Name x px, iter, ifs, 0⟩] scope pos) (intL ((is.filter p).map F)) := .mk fun L ad cd A s hA hS => by
  have hrel : ∀ env : Env, relabel scope env = scope := fun env => by
    unfold relabel
    have : (scope.names.map fun (n, k) => if (k == NameKind.free && env.scope.kind == .function && env.kindOf n == some .cell) then (n, NameKind.cell) else (n, k)) = scope.names := by
      conv => rhs; rw [← List.map_id scope.names]
      refine List.map_congr_left fun y hy => ?_
      have h1 : ¬ (y.2 == NameKind.free) = true := fun e => hfree y hy (by simpa using e)
      have h2 : (y.2 == NameKind.free) = false := by simpa using h1
      obtain ⟨n, k⟩ := y
      simp only at h2
      simp [h2]
    rw [this]
  have hcl : closureFor scope (C.env L ad cd) = pure [] := closureFor_none hfree
  refine wpAny_ListComp_free (intOf p) (fun v y => ∃ n t u, v = Value.int n t ∧ y = Value.int (F n) u) hcl hcell hkind hnames hx
    (wpAny_mono (hi.run L ad cd A s hA hS) (fun xv s₁ h₁ => wpAny_mono h₁ (fun it s₂ hw => ?_) fun _ _ e => e) fun _ _ e => e) (hs _)
  obtain ⟨hk, I, fp, wr, P, St, rfl, W, hst, hnew, hfp, hex, hrep, htup⟩ := hw
  have hlen : (intL is).length = is.length := intL_length
  have hP : ∀ j v, P j v → ∀ n, is[j]? = some n → ∃ t, v = .int n t := fun j v h n hn => by
    have := hrep j v (.int n) h (by simp only [intL, List.getElem?_map, hn, Option.map_some])
    exact this.int_inv
  have hhb : ∀ b ∈ wr, C.X.hb.get? b = none := fun b hb => by
    cases e : C.X.hb.get? b with
    | none => rfl
    | some o => have := hS.hbIn b o e; rw [hnew b hb] at this; cases this
  have hs2 : HbIn C.X s₂.heap := fun b o e => kle hk b o (hS.hbIn b o e)
  have henv : ∀ Cn, compEnvC scope [] Cn (C.env L ad cd) = (C.comp scope hkind).env Cn (none, ad.2) cd := fun Cn => by
    unfold compEnvC
    rw [hrel]
    show _ = Env.mk _ _ _ _ _ _ _ _ _
    rw [cells_none _ _ _ hcell]
  have hsim : ∀ Cn n t (s₃ : Shared) m₃, s₂.heap.objs.size ≤ Cn → s₃.heap.Ns Cn m₃ → m₃ x = some (.int n t) → (∀ b o, b ∉ wr → s₂.heap.get? b = some o → s₃.heap.get? b = some o) → Sim (C.comp scope hkind) Cn [(x, .v (.int n))] s₃.heap := fun Cn n t s₃ m₃ hC hn hm hkp => by
    have hb3 : HbIn C.X s₃.heap := fun b o e => hkp b o (fun hw => by rw [hhb b hw] at e; cases e) (hs2 b o e)
    refine sim_comp' hcell hx hd hn hm hb3 fun b ho => ?_
    cases e : C.X.hb.get? b with
    | none => rfl
    | some o => exact absurd (Nat.lt_of_lt_of_le (Heap.lt_size (hs2 b o e)) (Nat.le_trans hC (own_ge ho))) (Nat.lt_irrefl _)
  refine ⟨I, fp, wr, (intL is).length, fun j v => P j v ∧ ∃ n, is[j]? = some n, St, rfl, ?_, by rw [hlen]; exact Nat.le_trans hsz (by decide), hst, fun b hb => ?_, ⟨?_, ?_⟩, ?_⟩
  · exact ⟨W.sub, W.frame, fun i s Q E hi st hQ => W.item i s Q E hi st (fun v h' tk hp => hQ v h' tk ⟨hp, is[i]'(by rw [hlen] at hi; exact hi), List.getElem?_eq_getElem _⟩), W.done, W.self⟩
  · have := (hfp b hb).2.2
    cases e : s₂.heap.get? b with
    | none => exact absurd e this
    | some o => exact Heap.lt_size e
  · intro Cn j v s₃ m₃ E' hC ⟨hv, n, hn⟩ hns hm hkp htk
    obtain ⟨t, rfl⟩ := hP j v hv n hn
    have hmem : n ∈ is := List.mem_of_getElem? hn
    have hS3 := hsim Cn n t s₃ m₃ hC hns hm hkp
    show wpAny _ _ _ (fun ok s₄ => ok = p n ∧ Keeps s₃ s₄) _ _
    have htt := htest n hmem
    generalize p n = pn at htt ⊢
    cases htt with
    | nil => exact wpAny_pure ⟨rfl, krfl⟩
    | one ht =>
      rw [List.forIn_cons]
      simp only [if_true]
      rw [henv]
      refine wpAny_bind (wpAny_bind (wpAny_mono (ht.run Cn (none, ad.2) cd A s₃ hA hS3) (fun b s₄ ⟨e, k⟩ => ?_) fun _ _ e => e.elim))
      refine wpAny_pure ?_
      exact wpAny_pure ⟨e, k⟩
  · intro Cn j v s₃ m₃ E' hC ⟨hv, n, hn⟩ hpv hns hm hkp htk
    obtain ⟨t, rfl⟩ := hP j v hv n hn
    have hmem : n ∈ is := List.mem_of_getElem? hn
    rw [henv]
    refine wpAny_mono ((helt n hmem hpv).run Cn (none, ad.2) cd A s₃ hA (hsim Cn n t s₃ m₃ hC hns hm hkp)) (fun y s₄ ⟨k, r⟩ => ?_) fun _ _ e => e.elim
    obtain ⟨u, rfl⟩ := r.int_inv
    exact ⟨⟨n, t, u, rfl, rfl⟩, k⟩
  · intro D h' tk ys vs hD hl hpl hlv hPv hpair hkeep
    obtain ⟨nn, hD'⟩ := hpl
    refine ⟨D, ys.toList, rfl, ?_, ⟨_, hD', rfl, rfl, nn, rfl⟩, paired_intsF (q := intOf p) (fun _ _ => rfl) is vs ys.toList (by rw [hlv, hlen]) (fun j v n h1 h2 => hP j v (hPv j v h1).1 n h2) hpair, ?_⟩
    · cases e : s.heap.get? D with
      | none => rfl
      | some o => rw [kle hk D o e] at hD; cases hD
    · have hk' := kle hk
      obtain ⟨h2, t2, rfl, _⟩ := hk
      exact ⟨h', tk, rfl, fun b o e => hkeep b o (fun hw => by rw [hnew b hw] at e; cases e) (hk' b o e)⟩

section
variable {C : Fc} {σ : PEnv} {Q : Out → PEnv → Prop}
theorem After.put {L : Addr} {s₀ : Shared} {h h' : Heap} {tk : Nat} {m : PySem.Str → Option Value} {x : PySem.Str} {a : Addr} {l : List PV} {vs : List Value} (hS : Sim C L σ s₀.heap) (k : HLe s₀.heap h) (F' : Frm C.X.hb C.sc L h m)
    (hsl : ∀ y sl', σ.lookup y = some sl' → ∃ w, m y = some w ∧ SlotOK (Mut σ) s₀.heap w sl') (hn : s₀.heap.get? a = none) (hm : MList h.get? a vs) (hr : Reps h.get? l vs) (hf : flats l = true) (hx : Loc C x)
    (hn' : VNs C.sc L h' (fun y => if y = x then some (.ref a) else m y)) (hs : SameOwn C.sc L h h') : After C L σ s₀ ((x, .m a l) :: σ) { s₀ with heap := h', toks := tk } := by
  refine ⟨hS.store k F' hsl hn' hs hx (slot_new (hS.keeps k) hm hr hf) (fun b l' e => by cases e; exact hn), ⟨fun b o hbL _ e => ?_, fun b e => ?_⟩, fun b hmu => ?_, ⟨h', tk, rfl⟩⟩
  · exact (hs.eq b hbL).trans (k b o e)
  · by_cases hbL : Own C.sc L b
    · exact hn'.isSome hbL
    · show h'.get? b ≠ none
      rw [hs.eq b hbL]
      cases e' : s₀.heap.get? b with
      | none => exact absurd e' e
      | some o => rw [k b o e']; exact fun x => by cases x
  · rcases mut_cons hmu with h1 | ⟨l', h1⟩
    · exact .inl h1
    · cases h1; exact .inr hn

/-- y = [elt for x in iter], the name stored within the comprehension's block -/
theorem st_compF {y : PySem.Str} {py : Pos} {elt iter : Expr} {x : PySem.Str} {px : Pos} {scope : Scope} {pos spos : Pos} {is : List Int} (cl : Addr → List (PySem.Str × Addr)) (F : Int → Int)
    (hsw : ∀ L ad cd, swapsWith (.ListComp elt [⟨.Name x px, iter, [], 0⟩] scope pos) (some (.Name y py)) spos.line (C.env L ad cd) = pure true)
    (hclos : ∀ L ad cd, closureFor scope (C.env L ad cd) = pure (cl L)) (hcell : ∀ z ∈ scope.names, z.2 ≠ .cell) (hkind : scope.kind = .function)
    (hnames : ∀ z ∈ scope.names, z.2 = .local → scope.names.lookup z.1 = some .local) (hx : scope.names.lookup x = some .local) (hy : C.sc.names.lookup y = some .local) (hyd : (y == ("__debug__" : PySem.Str)) = false)
    (hi : EvI C σ iter (intL is)) (hsz : is.length ≤ 1000000)
    (helt : ∀ L ad cd A (s₃ : Shared) Cn m₃ t i, i ∈ is → Lv C.r A → Sim C L σ s₃.heap → s₃.heap.Ns Cn m₃ → m₃ x = some (.int i t) →
      wpAny C.M A (eval elt (compEnvC scope (cl L) Cn (C.env L ad cd))) (fun v s₄ => (∃ u, v = .int (F i) u) ∧ Keeps s₃ s₄) NoE s₃)
    (h : ∀ a, ¬ Mut σ a → Q .next ((y, .m a (intL (is.map F))) :: σ))
    (hs : ∀ env z, foldedSetIterable iter env z = pure z := by intro _ _; rfl) :
    ExS C σ (.Assign [.Name y py] (.ListComp elt [⟨.Name x px, iter, [], 0⟩] scope pos) spos) Q := .mk fun L ad cd A s hA hS => by
  obtain ⟨m, Fm, hsl⟩ := hS.fr
  obtain ⟨ml, cm, hml, hcm, hpick⟩ := Fm.ns.ex
  refine wpAny_Assign_ListComp_free (env := C.env L ad cd) (fun _ => true) (fun v y => ∃ n t u, v = Value.int n t ∧ y = Value.int (F n) u) (hsw L ad cd) (hclos L ad cd) hcell hkind hnames hx hy (by
      show (C.sc.kind == .class || (C.sc.kind == .module && L != mainGlobals)) = false
      rw [C.hk]; rfl)
    (wpAny_mono (hi.run L ad cd A s hA hS) (fun xv s₁ h₁ => wpAny_mono h₁ (fun it s₂ hw => ?_) fun _ _ e => e) fun _ _ e => e) (hs _)
  obtain ⟨hk, I, fp, wr, P, St, rfl, W, hst, hnew, hfp, hex, hrep, htup⟩ := hw
  have hlen : (intL is).length = is.length := intL_length
  have hP : ∀ j v, P j v → ∀ n, is[j]? = some n → ∃ t, v = .int n t := fun j v h n hn => by
    have := hrep j v (.int n) h (by simp only [intL, List.getElem?_map, hn, Option.map_some])
    exact this.int_inv
  have hhb : ∀ b ∈ wr, C.X.hb.get? b = none := fun b hb => by
    cases e : C.X.hb.get? b with
    | none => rfl
    | some o => have := hS.hbIn b o e; rw [hnew b hb] at this; cases this
  have hLw : ∀ b, Own C.sc L b → b ∉ wr := fun b hb hw => (hfp b (W.sub b hw)).1 hb
  have hS2 := hS.keeps (kle hk)
  refine ⟨I, fp, wr, (intL is).length, fun j v => P j v ∧ ∃ n, is[j]? = some n, St, ml, rfl, ?_, by rw [hlen]; exact Nat.le_trans hsz (by decide), hst, fun b hb => ?_, hLw L (.inl rfl), hml.at' fun o e => kle hk _ o e, ⟨?_, ?_⟩, ?_⟩
  · exact ⟨W.sub, W.frame, fun i s Q E hi st hQ => W.item i s Q E hi st (fun v h' tk hp => hQ v h' tk ⟨hp, is[i]'(by rw [hlen] at hi; exact hi), List.getElem?_eq_getElem _⟩), W.done, W.self⟩
  · have := (hfp b hb).2.2
    cases e : s₂.heap.get? b with
    | none => exact absurd e this
    | some o => exact Heap.lt_size e
  · intro Cn j v s₃ m₃ E' hC hv hn hm hkp htk
    exact wpAny_pure ⟨rfl, krfl⟩
  · intro Cn j v s₃ m₃ E' hC ⟨hv, n, hn⟩ _ hns hm hkp htk
    obtain ⟨t, rfl⟩ := hP j v hv n hn
    have hmem : n ∈ is := List.mem_of_getElem? hn
    have hS3 : Sim C L σ s₃.heap := hS2.wr hkp hLw hhb (hex _ _ hst)
    refine wpAny_mono (helt L ad cd A s₃ Cn m₃ t n hmem hA hS3 hns hm) (fun v s₄ ⟨⟨u, e⟩, k⟩ => ⟨⟨n, t, u, rfl, e⟩, k⟩) fun _ _ e => e.elim
  · intro D h' tk ys vs hD hl hpl hlv hPv hpair hn' hkeep
    have hf : vs.filter (fun _ => true) = vs := by simp
    rw [hf] at hpair
    obtain ⟨nn, hD'⟩ := hpl
    have hsD : s.heap.get? D = none := by
      cases e : s.heap.get? D with
      | none => rfl
      | some o => rw [kle hk D o e] at hD; cases hD
    obtain ⟨oL, esL, epL, hoL, hdL, _⟩ := id hml
    have hDL : D ≠ L := fun e => by rw [e, hoL] at hsD; cases hsD
    have hsame : ∀ b, b ≠ L → (h'.update L (fun _ => oL)).get? b = h'.get? b := fun b hb => (Heap.SameBut.update ..).2 b hb
    obtain ⟨oL', _, _, hoL', _⟩ := id hn'
    have hLL : (h'.update L (fun _ => oL)).get? L = some oL := Heap.get?_update_self _ hoL' (by obtain ⟨c, d, dt, sl⟩ := oL; simp only at hdL; subst hdL; rfl)
    have hle : HLe s.heap (h'.update L (fun _ => oL)) := fun b o e => by
      by_cases hb : b = L
      · subst hb; rw [hLL]; rw [hoL] at e; exact e
      · rw [hsame b hb]
        exact hkeep b o hb (fun hw => by rw [hnew b hw] at e; cases e) (kle hk b o e)
    have key := After.put (tk := tk) (x := y) (a := D) (l := intL (is.map F)) (vs := ys.toList) hS hle (Fm.grownK hle) hsl hsD (h' := h') ⟨_, (hsame D hDL).trans hD', rfl, rfl, nn, rfl⟩
      (paired_ints is vs ys.toList (by rw [hlv, hlen]) (fun j v n h1 h2 => hP j v (hPv j v h1).1 n h2) hpair) (flats_ints _) ⟨.inl hy, hyd⟩ ⟨_, cm, hn', fun n c hcl => ?_, ?_⟩ ⟨fun b hb => (hsame b fun e => hb (.inl e)).symm⟩
    · obtain ⟨h2, t2, rfl, _⟩ := hk
      exact ⟨.next, _, key, trivial, h D fun hmu => hS.mutSome D hmu hsD⟩
    · obtain ⟨o, ho, hd⟩ := hcm n c hcl
      have hcL : c ≠ L := Nat.ne_of_gt (cellsOf_gt hcl)
      exact ⟨o, hkeep c o hcL (hLw c (.inr ⟨n, hcl⟩)) (kle hk c o ho), hd⟩
    · rw [hpick]
      funext z
      by_cases e : z = y
      · subst e; simp [pick, hy]
      · simp [pick, e]
end

/-! ### texts of whole numbers -/
def dstr (a : Int) : PySem.Str := Str.ofString (toString a)
section
variable {C : Fc} {σ : PEnv} {Q : Out → PEnv → Prop}
theorem bf_str {X : Cx} {r : Nat} {a : Int} (ha : Bt 1900 a) : BFn X r (.type "str") [.int a] (.str (dstr a)) := .mk fun A s vs hA hH hR => by
  obtain ⟨v, rfl, h1⟩ := hR.one_inv
  obtain ⟨t, rfl⟩ := h1.int_inv
  refine PySem.P.str_of_int ?_ ⟨ktoks, rep_str⟩
  by_cases h0 : a.natAbs = 0
  · rw [h0]; decide
  · exact Nat.lt_trans ((Nat.log2_lt h0).mpr ha) (by decide)
theorem boot_str' : bootBuiltins "str" = some (.type "str") := by first | exact PyProof.Rows.boot_str | decide +kernel | rfl
theorem boot_enum' : bootBuiltins "enumerate" = some (.type "enumerate") := by first | exact PyProof.Rows.boot_enumerate | decide +kernel | rfl
theorem ev_str_of {e xp pos a} (h : EvE C σ e (.int a)) (ha : Bt 1900 a) (hx : Glb C "str") (hp : AllPlain [e]) : EvE C σ (.Call (.Name "str" xp) [e] [] pos) (.str (dstr a)) :=
  ev_tcall (es_cons h es_nil hp.1) (bf_str ha) (by decide +kernel) boot_str' hx (by decide +kernel) (by decide +kernel) hp
theorem bf_len_str {X : Cx} {r : Nat} {x : PySem.Str} (hl : x.length < 2 ^ 62) : BFn X r (.builtin "len") [.str x] (.int (x.length : Int)) := .mk fun A s vs hA hH hR => by
  obtain ⟨v, rfl, h1⟩ := hR.one_inv
  obtain ⟨t, rfl⟩ := h1.str_inv
  exact PySem.P.len_str (by omega) ⟨ktrans (s' := { s with toks := s.toks + 1 }) ktoks (ktoks (s := { s with toks := s.toks + 1 })), rep_int⟩
theorem ev_len_str {e xp pos x} (h : EvE C σ e (.str x)) (hl : x.length < 2 ^ 62) (hx : Glb C "len") (hp : AllPlain [e]) : EvE C σ (.Call (.Name "len" xp) [e] [] pos) (.int (x.length : Int)) :=
  ev_bcall (es_cons h es_nil hp.1) (bf_len_str hl) (by decide +kernel) boot_len hx (by decide +kernel) (by decide +kernel) hp
theorem cmp_les {x y : PySem.Str} : CmpIs C .LtE (.str x) (.str y) (!decide (y.cps.toList < x.cps.toList)) := .mk fun A s va vb _ _ h1 h2 => by
  obtain ⟨t, rfl⟩ := h1.str_inv
  obtain ⟨u, rfl⟩ := h2.str_inv
  exact PySem.P.le_str ⟨rfl, krfl⟩
theorem ev_addb {l r pos a b} (hl : EvE C σ l (.int a)) (hr : EvE C σ r (.bool b)) : EvE C σ (.BinOp l .Add r pos) (.int (a + if b = true then 1 else 0)) :=
  ev_bin hl hr fun A s va vb _ _ h1 h2 => by
    obtain ⟨t, rfl⟩ := h1.int_inv
    rw [h2.bool_inv]
    exact add_int_bool ⟨ktoks, rep_int⟩
theorem et_chain {l op op' r r' pos a b c x y} (hl : EvE C σ l a) (hr : EvE C σ r b) (hr' : x = true → EvE C σ r' c) (hc : CmpIs C op a b x) (hc' : CmpIs C op' b c y)
    (hm : lastMarks [op, op'] [r, r'] = false := by with_unfolding_all rfl) (he : ∀ env, evalEach [r, r'] env = [eval r env, eval r' env] := by intro _; rfl) : EvT C σ (.Compare l [op, op'] [r, r'] pos) (x && y) := .mk fun L ad cd A s hA hS => by
  refine isTrue_chain (wpAny_mono (hl.run L ad cd A s hA hS) (fun va s₁ ⟨k₁, r₁⟩ => test_link ?_) fun _ _ e => e) hm
  refine wpAny_mono (hr.run L ad cd A s₁ hA (hS.keeps (kle k₁))) (fun vb s₂ ⟨k₂, r₂⟩ => ?_) fun _ _ e => e
  have hS2 := hS.keeps (kle (ktrans k₁ k₂))
  refine wpAny_mono (hc.run A s₂ va vb hA hS2.hbIn (krep k₂ r₁) r₂) (fun v s₃ ⟨e, k₃⟩ => ?_) fun _ _ e => e
  subst e
  refine wpAny_truthy_bool ?_
  cases x with
  | false => exact ⟨rfl, ktrans (ktrans k₁ k₂) k₃⟩
  | true =>
    simp only [if_true]
    refine test_last ?_
    refine wpAny_mono ((hr' rfl).run L ad cd A s₃ hA (hS2.keeps (kle k₃))) (fun vc s₄ ⟨k₄, r₄⟩ => ?_) fun _ _ e => e
    refine wpAny_mono (hc'.run A s₄ vb vc hA (hS2.keeps (kle (ktrans k₃ k₄))).hbIn (krep (ktrans k₃ k₄) r₂) r₄) (fun v s₅ ⟨e, k₅⟩ => ?_) fun _ _ e => e
    subst e
    exact wpAny_truthy_bool ⟨rfl, ktrans (ktrans (ktrans (ktrans k₁ k₂) k₃) k₄) k₅⟩

/-! ### for i, x in enumerate(y) -/
theorem flats_mem : ∀ {l : List PV} {p : PV}, flats l = true → p ∈ l → flat p = true
  | q :: qs, p, h, hp => by
    simp only [flats, Bool.and_eq_true] at h
    rcases List.mem_cons.mp hp with rfl | hp
    · exact h.1
    · exact flats_mem h.2 hp
theorem st_enum {elts k tpos np y py cpos body pos l} (xs : List PySem.Str) (hxs : xs.length = 2) (hy : σ.lookup y = some (.v (.lst l))) (hflat : flats l = true) (hg : Glb C "enumerate") (hloc : ∀ x ∈ xs, Loc C x)
    (hts : ∀ L ad cd, StoreAll C L ad cd ((assignEach elts (C.env L ad cd)).map (·.2)) xs) (hlen : ∀ env, (assignEach elts env).length = xs.length) (hstar : ∀ env, (assignEach elts env).findIdx? (·.1) = none)
    (I : List PV → PEnv → Prop) (h0 : ∃ σ₀, Sub σ σ₀ ∧ I [] σ₀)
    (step : ∀ pre p post σ', l = pre ++ p :: post → I pre σ' → ExB C (bindL xs [.int (pre.length : Int), p] σ') body (Turn (I (pre ++ [p])) Q))
    (fin : ∀ σ', I l σ' → Q .next σ')
    (hset : ∀ env x, foldedSetIterable (.Call (.Name "enumerate" np) [.Name y py] [] cpos) env x = pure x := by intro _ _; rfl) :
    ExS C σ (.For (.Tuple elts k tpos) (.Call (.Name "enumerate" np) [.Name y py] [] cpos) body [] pos) Q := .mk fun L ad cd A s hA hS => by
  have hpl : AllPlain [.Name y py] := ⟨fun _ => rfl, trivial⟩
  refine wpAny_For (Call_ (name_builtin hS (by decide +kernel) boot_enum' hg (by decide +kernel) (by decide +kernel) (callWith_type1 (args_cons ?_ (hpl.1 _)) (hpl.1 _) (hpl.2.any _ _)))) (hset _)
  obtain ⟨m, F, hsl⟩ := hS.fr
  obtain ⟨v, hv, hok⟩ := hsl y _ hy
  refine wpAny_Name (F.ns.load (hS.loc y _ hy) hv (args_nil ?_)) (hS.loc y _ hy).2
  obtain ⟨a, vs, rfl, ⟨o, ho, hc, n, hd⟩, hr⟩ := (show Rep (off (Mut σ) s.heap) (.lst l) v from hok).lst_inv
  obtain ⟨h1, h2⟩ := off_some.mp ho
  have hrs : Reps s.heap.get? l vs := Reps.mono off_le l hr
  have haO : ¬ Own C.sc L a := fun e => ns_not_seq F.ns e h2 hd
  have halt : a < s.heap.objs.size := Heap.lt_size h2
  refine call_enumerate_list (items := vs.toArray) ⟨o, h2, hc, n, hd⟩ fun h' he hit hsz hk => ?_
  refine wpAny_pyIter_enum he ?_
  have hlst : h'.IsList a vs.toArray := ⟨o, hk a o h2, hc, n, hd⟩
  have W := WalksT.enumerate (prog := C.X.prog) (w := C.X.w) (A := A) hA.1 (s.heap.objs.size + 1) s.heap.objs.size a (Nat.succ_ne_self _) (Nat.ne_of_lt (Nat.lt_succ_of_lt halt)) (Nat.ne_of_lt halt) vs.toArray
  have hvl : vs.toArray.size = l.length := by simp [hrs.length]
  rw [hvl] at W
  generalize hs2 : ({ s with heap := h' } : Shared) = s₂
  have hs2h : s₂.heap = h' := by rw [← hs2]
  have hk2 : Keeps s s₂ := by rw [← hs2]; exact ⟨h', s.toks, rfl, hk⟩
  have hnew : ∀ b ∈ [s.heap.objs.size + 1, s.heap.objs.size], s.heap.get? b = none := fun b hb => by
    refine Heap.get?_none_of_le ?_
    simp only [List.mem_cons, List.not_mem_nil, or_false] at hb
    rcases hb with rfl | rfl
    · exact Nat.le_succ _
    · exact Nat.le_refl _
  have hL : ∀ b, Own C.sc L b → b ∉ [s.heap.objs.size + 1, s.heap.objs.size] := fun b hb hw => hS.ownSome hb (hnew b hw)
  have hhb : ∀ b ∈ [s.heap.objs.size + 1, s.heap.objs.size], C.X.hb.get? b = none := fun b hb => by
    cases e : C.X.hb.get? b with
    | none => rfl
    | some o => have := hS.hbIn b o e; rw [hnew b hb] at this; cases this
  have hns : ∀ (i : Nat) h, ((∃ old, IsEnum h (s.heap.objs.size + 1) s.heap.objs.size i old) ∧ h.IsListIter s.heap.objs.size a i ∧ h.IsList a vs.toArray) → NotSeq [s.heap.objs.size + 1, s.heap.objs.size] h := by
    rintro i h ⟨⟨old, e1⟩, ⟨o', e2, _, e3⟩, _⟩ b hb
    simp only [List.mem_cons, List.not_mem_nil, or_false] at hb
    rcases hb with rfl | rfl
    · exact ⟨_, e1, fun xs n e => by cases e⟩
    · exact ⟨o', e2, fun xs n e => by rw [e3] at e; cases e⟩
  have hnsM : ∀ (i : Nat) T h, ((∃ x, IsEnumOut h (s.heap.objs.size + 1) s.heap.objs.size ((i : Int) + 1) x T) ∧ h.IsListIter s.heap.objs.size a (i + 1) ∧ h.IsList a vs.toArray ∧ T ≠ s.heap.objs.size + 1 ∧ T ≠ s.heap.objs.size) → NotSeq [s.heap.objs.size + 1, s.heap.objs.size] h := by
    rintro i T h ⟨⟨old, e1⟩, ⟨o', e2, _, e3⟩, _⟩ b hb
    simp only [List.mem_cons, List.not_mem_nil, or_false] at hb
    rcases hb with rfl | rfl
    · exact ⟨_, e1, fun xs n e => by cases e⟩
    · exact ⟨o', e2, fun xs n e => by rw [e3] at e; cases e⟩
  have fin' : ∀ σ'' s'', AfterL C L σ [s.heap.objs.size + 1, s.heap.objs.size] s₂ σ'' s'' → After C L σ s σ'' s'' := fun σ'' s'' hf =>
    ⟨hf.sim, ⟨fun b o hb hm e => hf.keep b o hb hm (fun hw => by rw [hnew b hw] at e; cases e) (kle hk2 b o e), fun b e => hf.some b (by
        cases e' : s.heap.get? b with
        | none => exact absurd e' e
        | some o => rw [kle hk2 b o e']; exact fun x => by cases x)⟩, fun a hm => (hf.new a hm).imp id (fun h => by
        cases e' : s.heap.get? a with
        | none => rfl
        | some o => rw [kle hk2 a o e'] at h; cases h), (Same.of_keeps hk2).trans hf.same⟩
  obtain ⟨σ₀, hsub, hI0⟩ := h0
  refine codeAny_forLoop_any (fun k s' => ∃ pre post σ', l = pre ++ post ∧ k = post.length ∧ I pre σ' ∧ AfterL C L σ [s.heap.objs.size + 1, s.heap.objs.size] s₂ σ' s' ∧ ((∃ old, IsEnum s'.heap (s.heap.objs.size + 1) s.heap.objs.size pre.length old) ∧ s'.heap.IsListIter s.heap.objs.size a pre.length ∧ s'.heap.IsList a vs.toArray)) ?_ l.length
    ⟨[], l, σ₀, rfl, rfl, hI0, ⟨(hS.keeps (kle hk2)).sub hsub, fun b o _ _ _ e => e, fun b e => e, fun a hm => .inl (hsub.mut hm), ⟨s₂.heap, s₂.toks, rfl⟩⟩, by rw [hs2h]; exact ⟨⟨_, he⟩, hit, hlst⟩⟩
  rintro k s' ⟨pre, post, σ', hitems, rfl, hIp, hAf, hSt⟩
  cases post with
  | nil =>
    have hpre : pre = l := by rw [hitems]; simp
    subst hpre
    refine W.done s' _ _ hSt fun h₁ tk₁ hk₁ => wpAny_execs_nil ?_
    refine ⟨.next, σ', ?_, trivial, fin σ' hIp⟩
    have hsim := hAf.sim.wr hk₁ hL hhb (hns _ _ hSt)
    refine ⟨hsim, ⟨fun b o hb hm e => ?_, fun b e => ?_⟩, fun a hm => (fin' _ _ hAf).new a hm, ?_⟩
    · exact hk₁ b o (fun hw => by rw [hnew b hw] at e; cases e) ((fin' _ _ hAf).kb.keep b o hb hm e)
    · have h1 := (fin' _ _ hAf).kb.some b e
      cases e' : s'.heap.get? b with
      | none => exact absurd e' h1
      | some o =>
        show h₁.get? b ≠ none
        rw [hk₁ b o (fun hw => e (hnew b hw)) e']; exact fun x => by cases x
    · obtain ⟨h, t, e⟩ := (fin' _ _ hAf).same; exact ⟨h₁, tk₁, by rw [e]⟩
  | cons p post =>
    have hlt : pre.length < l.length := by rw [hitems]; simp
    have hp : p ∈ l := by rw [hitems]; simp
    have hpf := flats_mem hflat hp
    refine W.item pre.length s' _ _ hlt hSt fun T vals h₁ tk₁ hPt hTs hT hMid hk₁ => ?_
    obtain ⟨t, x, hx, rfl⟩ := hPt
    refine W.go _ _ _ pre.length T _ _ _ hMid fun h₂ hSt₂ hk₂ => ?_
    have hkk : ∀ b o, b ∉ [s.heap.objs.size + 1, s.heap.objs.size] → s'.heap.get? b = some o → h₂.get? b = some o := fun b o hb e => hk₂ b o hb (hk₁ b o hb e)
    have hAf₁ : AfterL C L σ [s.heap.objs.size + 1, s.heap.objs.size] s₂ σ' { s' with heap := h₂, toks := tk₁ } := hAf.wr hkk hL hhb (hns _ _ hSt) (hns _ _ hSt₂)
    have hTw := W.apart _ _ _ hMid
    have hrx : Rep h₂.get? p x := by
      have h1 : Rep s.heap.get? p x := by
        obtain ⟨w, hw, hrw⟩ := hrs.get (i := pre.length) (p := p) (by rw [hitems]; simp)
        have : vs[pre.length]? = some x := by simpa using hx
        rw [hw] at this; cases this
        exact hrw
      refine Rep.monoF (fun b o ho hc ⟨xs, n, hd⟩ => ?_) p hpf h1
      refine hAf₁.keep b o (fun e => ns_not_seq F.ns e ho hd) (fun hm => ?_) (fun hw => by rw [hnew b hw] at ho; cases ho) (kle hk2 b o ho)
      obtain ⟨ws, o', hp', hc', _⟩ := hS.plain hm
      rw [hp'] at ho; cases ho; rw [hc'] at hc; simp at hc
    have hrT : Rep h₂.get? (.tup [.int (pre.length : Int), p]) (.ref T) := by
      obtain ⟨oT, hoT, hcT, nT, hdT⟩ := hT
      simp only [Rep]
      exact ⟨T, [.int (pre.length : Int) t, x], rfl, ⟨oT, hk₂ T oT hTw hoT, hcT, nT, hdT⟩, Reps.cons rep_int (Reps.cons hrx Reps.nil)⟩
    have htk := takes_tuple (C := C) (elts := elts) (k := k) (tpos := tpos) (ps := [.int (pre.length : Int), p]) xs (by simp [hxs]) hloc hts hlen hstar
    refine wpAny_mono (htk.run L ad cd A σ' { s' with heap := h₂, toks := tk₁ } (.ref T) (fun _ s₃ => After C L σ' { s' with heap := h₂, toks := tk₁ } (bindL xs [.int (pre.length : Int), p] σ') s₃) hA hAf₁.sim hrT (by simp [flat, flats, hpf]) fun s₃ h => h) (fun _ s₃ h₃ => ?_) fun _ _ e => e.elim
    have hAf₃ := hAf₁.then h₃
    refine wpAny_mono ((step pre p post σ' hitems hIp).run L ad cd A s₃ hA hAf₃.sim) (fun f s₄ ⟨o, σ₄, hA₄, hf, hq⟩ => ?_) fun _ _ e => e.elim
    have hAf₄ := hAf₃.then hA₄
    have hSt₄ : ∀ σ₅, Sub σ₄ σ₅ → I (pre ++ [p]) σ₅ → ∃ m, m < (p :: post).length ∧ ∃ pre' post' σ'', l = pre' ++ post' ∧ m = post'.length ∧ I pre' σ'' ∧ AfterL C L σ [s.heap.objs.size + 1, s.heap.objs.size] s₂ σ'' s₄ ∧ ((∃ old, IsEnum s₄.heap (s.heap.objs.size + 1) s.heap.objs.size pre'.length old) ∧ s₄.heap.IsListIter s.heap.objs.size a pre'.length ∧ s₄.heap.IsList a vs.toArray) := fun σ₅ hs hI5 => by
      refine ⟨post.length, by simp, pre ++ [p], post, σ₅, by rw [hitems]; simp, rfl, hI5, ⟨hAf₄.sim.sub hs, hAf₄.keep, hAf₄.some, fun a hm => hAf₄.new a (hs.mut hm), hAf₄.same⟩, ?_⟩
      rw [List.length_append, List.length_singleton]
      refine W.frame _ h₂ _ hSt₂ fun b hb o e => ?_
      have hs2some : s₂.heap.get? b ≠ none := by
        rw [hs2h]
        simp only [List.mem_cons, List.not_mem_nil, or_false] at hb
        rcases hb with rfl | rfl | rfl
        · rw [he]; exact fun x => by cases x
        · obtain ⟨o', e', _⟩ := hit; rw [e']; exact fun x => by cases x
        · rw [hk _ _ h2]; exact fun x => by cases x
      have hbO : ¬ Own C.sc L b := by
        simp only [List.mem_cons, List.not_mem_nil, or_false] at hb
        rcases hb with rfl | rfl | rfl
        · exact fun hb => hL _ hb (by simp)
        · exact fun hb => hL _ hb (by simp)
        · exact haO
      have hbM : ¬ Mut σ b := by
        simp only [List.mem_cons, List.not_mem_nil, or_false] at hb
        rcases hb with rfl | rfl | rfl
        · exact fun hm => hS.mutSome _ hm (hnew _ (by simp))
        · exact fun hm => hS.mutSome _ hm (hnew _ (by simp))
        · exact h1
      have hb2 : ¬ Mut σ' b := fun hm => (hAf.new b hm).elim hbM hs2some
      have hb3 : ¬ Mut (bindL xs [.int (pre.length : Int), p] σ') b := fun hm => (hAf₃.new b hm).elim hbM hs2some
      exact hA₄.kb.keep b o hbO hb3 (h₃.kb.keep b o hbO hb2 e)
    rcases flows hf with ⟨rfl, rfl⟩ | ⟨rfl, rfl⟩ | ⟨rfl, rfl⟩ | ⟨v', q, rfl, rfl, hr'⟩
    · obtain ⟨σ₅, hs, hI5⟩ := hq
      exact hSt₄ σ₅ hs hI5
    · exact ⟨.next, σ₄, fin' _ _ hAf₄, trivial, hq⟩
    · obtain ⟨σ₅, hs, hI5⟩ := hq
      exact hSt₄ σ₅ hs hI5
    · exact ⟨.ret q, σ₄, fin' _ _ hAf₄, hr', hq⟩
end


/-- what is reckoned -/
def scN (n e : Int) : Int := if 0 ≤ e then n else n * 10 ^ (-e).toNat
def scD (d e : Int) : Int := if 0 ≤ e then d * 10 ^ e.toNat else d
def rq (N D : Int) : Int := if (N + D.fdiv 2).fmod D = 0 ∧ Builtin.bitAnd D 1 = 0 then Builtin.bitAnd ((N + D.fdiv 2).fdiv D) (-2) else (N + D.fdiv 2).fdiv D

/-- S is the whole number nearest to N / D, the even one at a half -/
def Near (N D S : Int) : Prop := 2 * ((S * D - N).natAbs : Int) ≤ D ∧ (2 * ((S * D - N).natAbs : Int) = D → S % 2 = 0)

theorem bitAnd_neg1 (x : Int) : Builtin.bitAnd x (-1) = x := by
  unfold Builtin.bitAnd
  rcases Int.lt_or_le x 0 with h | h
  · have h1 : decide (0 ≤ x) = false := by simpa using h
    have h2 : decide (0 ≤ (-1 : Int)) = false := by decide
    rw [h1, h2]
    have e1 : (Builtin.bitNot (-1)).toNat = 0 := by decide
    simp only [e1, Nat.or_zero]
    unfold Builtin.bitNot; omega
  · have h1 : decide (0 ≤ x) = true := by simpa using h
    have h2 : decide (0 ≤ (-1 : Int)) = false := by decide
    rw [h1, h2]
    have e1 : (Builtin.bitNot (-1)).toNat = 0 := by decide
    simp only [e1, Nat.and_zero]
    omega
theorem bitAnd_neg2 (x : Int) : Builtin.bitAnd x (-2) = x - x % 2 := by
  rw [kbt_halves]
  have e1 : ((-2 : Int) / 2) = -1 := by decide
  have e2 : ¬ (x % 2 = 1 ∧ (-2 : Int) % 2 = 1) := by intro h; exact absurd h.2 (by decide)
  rw [e1, bitAnd_neg1, if_neg e2]; omega

theorem rq_near (N : Int) {D : Int} (hD : 0 < D) : Near N D (rq N D) := by
  unfold rq Near
  rw [bitAnd_neg2, bitAnd_m1, Int.fdiv_eq_ediv_of_nonneg D (by decide : (0:Int) ≤ 2)]
  have e1 := Int.mul_fdiv_add_fmod (N + D / 2) D
  have e2 := Int.fmod_nonneg_of_pos (N + D / 2) hD
  have e3 := Int.fmod_lt_of_pos (N + D / 2) hD
  generalize hq : (N + D / 2).fdiv D = q at *
  generalize hr : (N + D / 2).fmod D = r at *
  have e4 : q * D = D * q := Int.mul_comm _ _
  by_cases hc : r = 0 ∧ D % 2 = 0
  · rw [if_pos hc]
    have e5 : (q - q % 2) * D = D * q - D * (q % 2) := by rw [Int.sub_mul, Int.mul_comm q D, Int.mul_comm (q % 2) D]
    rw [e5]
    rcases Int.emod_two_eq q with h | h
    · rw [h]; refine ⟨by omega, fun _ => by omega⟩
    · rw [h]; refine ⟨by omega, fun _ => by omega⟩
  · rw [if_neg hc]
    refine ⟨by omega, fun h => ?_⟩
    exfalso
    apply hc
    constructor <;> omega

theorem near_unique {N D S T : Int} (hD : 0 < D) (hS : Near N D S) (hT : Near N D T) : S = T := by
  obtain ⟨s1, s2⟩ := hS
  obtain ⟨t1, t2⟩ := hT
  -- |S - T| * D ≤ D
  have e : (S - T) * D = (S * D - N) - (T * D - N) := by rw [Int.sub_mul]; omega
  generalize hx : S * D - N = x at *
  generalize hy : T * D - N = y at *
  rcases Int.lt_trichotomy S T with h | h | h
  · exfalso
    have h1 : (S - T) * D ≤ (-1) * D := Int.mul_le_mul_of_nonneg_right (by omega) (by omega)
    have h2 : 2 * (x.natAbs : Int) = D := by omega
    have h3 : 2 * (y.natAbs : Int) = D := by omega
    have h4 := s2 h2
    have h5 := t2 h3
    have h6 : (S - T) * D ≤ (-2) * D := Int.mul_le_mul_of_nonneg_right (by omega) (by omega)
    omega
  · exact h
  · exfalso
    have h1 : 1 * D ≤ (S - T) * D := Int.mul_le_mul_of_nonneg_right (by omega) (by omega)
    have h2 : 2 * (x.natAbs : Int) = D := by omega
    have h3 : 2 * (y.natAbs : Int) = D := by omega
    have h4 := s2 h2
    have h5 := t2 h3
    have h6 : 2 * D ≤ (S - T) * D := Int.mul_le_mul_of_nonneg_right (by omega) (by omega)
    omega

theorem near_neg {N D S : Int} (h : Near N D S) : Near (-N) D (-S) := by
  unfold Near at *
  have e : -S * D - -N = -(S * D - N) := by rw [Int.neg_mul]; omega
  rw [e, Int.natAbs_neg]
  exact ⟨h.1, fun x => by have := h.2 x; omega⟩

/-- the same quotient, the same answer -/
theorem near_scale {N D N' D' S : Int} (hD : 0 < D) (hD' : 0 < D') (h : N * D' = N' * D) (hS : Near N D S) : Near N' D' S := by
  unfold Near at *
  have e : D * (S * D' - N') = D' * (S * D - N) := by
    rw [Int.mul_sub, Int.mul_sub]
    have e1 : D * (S * D') = D' * (S * D) := by rw [Int.mul_comm D, Int.mul_comm D', Int.mul_assoc, Int.mul_assoc, Int.mul_comm D' D]
    rw [e1, Int.mul_comm D N', Int.mul_comm D' N, h]
  have e2 : D * ((S * D' - N').natAbs : Int) = D' * ((S * D - N).natAbs : Int) := by
    have := congrArg Int.natAbs e
    rw [Int.natAbs_mul, Int.natAbs_mul] at this
    have h1 : (D.natAbs : Int) = D := by omega
    have h2 : (D'.natAbs : Int) = D' := by omega
    have h3 : ((D.natAbs * (S * D' - N').natAbs : Nat) : Int) = ((D'.natAbs * (S * D - N).natAbs : Nat) : Int) := by rw [this]
    rw [Int.natCast_mul, Int.natCast_mul, h1, h2] at h3
    exact h3
  generalize ((S * D' - N').natAbs : Int) = x at *
  generalize ((S * D - N).natAbs : Int) = y at *
  constructor
  · apply Int.le_of_mul_le_mul_left _ hD
    calc D * (2 * x) = 2 * (D * x) := by rw [Int.mul_left_comm]
      _ = 2 * (D' * y) := by rw [e2]
      _ = D' * (2 * y) := by rw [Int.mul_left_comm]
      _ ≤ D' * D := Int.mul_le_mul_of_nonneg_left hS.1 (by omega)
      _ = D * D' := Int.mul_comm _ _
  · intro hx
    apply hS.2
    have : D' * (2 * y) = D' * D := by
      calc D' * (2 * y) = 2 * (D' * y) := by rw [Int.mul_left_comm]
        _ = 2 * (D * x) := by rw [e2]
        _ = D * (2 * x) := by rw [Int.mul_left_comm]
        _ = D * D' := by rw [hx]
        _ = D' * D := Int.mul_comm _ _
    exact Int.eq_of_mul_eq_mul_left (by omega) this

theorem near_sign {N D S : Int} (hD : 0 < D) (h : Near N D S) : (N < 0 → S ≤ 0) ∧ (0 ≤ N → 0 ≤ S) ∧ (N = 0 → S = 0) := by
  obtain ⟨h1, h2⟩ := h
  have hp : ∀ k : Int, 1 ≤ k → D ≤ k * D := fun k hk => by have := Int.mul_le_mul_of_nonneg_right hk (by omega : 0 ≤ D); omega
  have hm : ∀ k : Int, k ≤ -1 → k * D ≤ -D := fun k hk => by have := Int.mul_le_mul_of_nonneg_right hk (by omega : 0 ≤ D); omega
  refine ⟨fun hn => ?_, fun hn => ?_, fun hn => ?_⟩
  · rcases Int.lt_or_le 0 S with h | h
    · have := hp S h; omega
    · exact h
  · rcases Int.lt_or_le S 0 with h | h
    · have := hm S (by omega); omega
    · exact h
  · subst hn
    rcases Int.lt_trichotomy S 0 with h | h | h
    · have := hm S (by omega); omega
    · exact h
    · have := hp S h; omega

theorem scD_pos {d e : Int} (hd : 0 < d) : 0 < scD d e := by
  unfold scD; split
  · exact Int.mul_pos hd (Int.pow_pos (by decide))
  · exact hd
theorem scN_neg {n e : Int} : scN n e < 0 ↔ n < 0 := by
  unfold scN; split
  · exact Iff.rfl
  · have hp : (0 : Int) < 10 ^ (-e).toNat := Int.pow_pos (by decide)
    constructor
    · intro h
      rcases Int.lt_or_le n 0 with h1 | h1
      · exact h1
      · have := Int.mul_nonneg h1 (Int.le_of_lt hp); omega
    · intro h; exact Int.mul_neg_of_neg_of_pos h hp

theorem scD_eqR (d e : Int) : scD d e = d * 10 ^ (max e 0).toNat := by
  unfold scD; split
  · rw [show max e 0 = e by omega]
  · rw [show (max e 0).toNat = 0 by omega]; simp
theorem scN_eqR (n e : Int) : scN n e = n * 10 ^ (max (-e) 0).toNat := by
  unfold scN; split
  · rw [show (max (-e) 0).toNat = 0 by omega]; simp
  · rw [show max (-e) 0 = -e by omega]
theorem near_bt {N D S : Int} {k : Nat} (hD : 0 < D) (hN : Bt k N) (hS : Near N D S) : Bt (k + 1) S := by
  obtain ⟨h1, _⟩ := hS
  unfold Bt at *
  have h2 : (S * D).natAbs ≤ N.natAbs + D.natAbs := by omega
  rw [Int.natAbs_mul] at h2
  rw [Nat.pow_succ]
  have h3 : S.natAbs ≤ N.natAbs + 1 := by
    rcases Nat.lt_or_ge (N.natAbs + 1) S.natAbs with h | h
    · exfalso
      have h4 : (N.natAbs + 2) * D.natAbs ≤ S.natAbs * D.natAbs := Nat.mul_le_mul_right _ h
      rw [Nat.add_mul] at h4
      have h5 : 1 ≤ D.natAbs := by omega
      have h6 : N.natAbs * 1 ≤ N.natAbs * D.natAbs := Nat.mul_le_mul_left _ h5
      omega
    · exact h
  omega

/-! ## whole numbers of p figures -/
theorem p10 (k : Nat) : 0 < (10 : Int) ^ k := Int.pow_pos (by decide)
theorem p10_le {a b : Nat} (h : a ≤ b) : (10 : Int) ^ a ≤ 10 ^ b := by
  obtain ⟨c, rfl⟩ : ∃ c, b = a + c := ⟨b - a, by omega⟩
  rw [Int.pow_add]
  have h1 := p10 a
  have h2 := p10 c
  have : 10 ^ a * 1 ≤ (10 : Int) ^ a * 10 ^ c := Int.mul_le_mul_of_nonneg_left (by omega) (by omega)
  omega
theorem p10_succ (a : Nat) : (10 : Int) ^ (a + 1) = 10 * 10 ^ a := by rw [Int.pow_succ, Int.mul_comm]
theorem p10_lt {a b : Nat} (h : a < b) : 10 * (10 : Int) ^ a ≤ 10 ^ b := by rw [← p10_succ]; exact p10_le h
theorem p10_nat (k : Nat) : ((10 ^ k : Nat) : Int) = (10 : Int) ^ k := by simp

/-- places behind the figures -/
def ex (p : Nat) (c : Int) : Nat := (Nat.toDigits 10 c.natAbs).length - p
theorem ex_le {p q : Nat} {c : Int} (hp : 1 ≤ p) : ex p c ≤ q ↔ (c.natAbs : Int) < 10 ^ (p + q) := by
  have h := Nat.length_toDigits_le_iff (b := 10) (n := c.natAbs) (k := p + q) (by decide) (by omega)
  unfold ex
  rw [show ((c.natAbs : Int) < 10 ^ (p + q)) ↔ c.natAbs < 10 ^ (p + q) by rw [← p10_nat]; omega, ← h]
  omega
theorem ex_lt {p : Nat} {c : Int} (hp : 1 ≤ p) : (c.natAbs : Int) < 10 ^ (p + ex p c) := (ex_le hp).mp (Nat.le_refl _)
theorem ex_ge {p q : Nat} {c : Int} (hp : 1 ≤ p) (h : q < ex p c) : (10 : Int) ^ (p + q) ≤ (c.natAbs : Int) := by
  rcases Int.lt_or_le (c.natAbs : Int) (10 ^ (p + q)) with h' | h'
  · have := (ex_le hp).mpr h'; omega
  · exact h'

def RN (p : Nat) (c : Int) : Int := rq c (10 ^ ex p c) * 10 ^ ex p c
/-- a whole number that has p figures -/
def Fl (p : Nat) (x : Int) : Prop := ∃ (q : Nat) (m : Int), x = m * 10 ^ q ∧ (m.natAbs : Int) ≤ 10 ^ p

theorem natAbs_mul_pos {m D : Int} (hD : 0 < D) : ((m * D).natAbs : Int) = (m.natAbs : Int) * D := by
  rw [Int.natAbs_mul, Int.natCast_mul]
  congr 1; omega
theorem abs_add (a b : Int) : ((a + b).natAbs : Int) ≤ (a.natAbs : Int) + (b.natAbs : Int) := by omega
theorem abs_sub (a b : Int) : ((a - b).natAbs : Int) ≤ (a.natAbs : Int) + (b.natAbs : Int) := by omega

theorem rn_near (p : Nat) (c : Int) : Near c (10 ^ ex p c) (rq c (10 ^ ex p c)) := rq_near _ (p10 _)
theorem rn_err (p : Nat) (c : Int) : 2 * ((RN p c - c).natAbs : Int) ≤ 10 ^ ex p c := (rn_near p c).1
/-- the multiple that is the nearest -/
theorem rn_best {p : Nat} {c m : Int} : ((RN p c - c).natAbs : Int) ≤ ((m * 10 ^ ex p c - c).natAbs : Int) := by
  have h := rn_err p c
  unfold RN at *
  have hD := p10 (ex p c)
  generalize rq c (10 ^ ex p c) = S at *
  generalize (10 : Int) ^ ex p c = D at *
  by_cases e : S = m
  · subst e; exact Int.le_refl _
  · have h1 : D ≤ ((S * D - m * D).natAbs : Int) := by
      rw [← Int.sub_mul, natAbs_mul_pos hD]
      have : 1 ≤ ((S - m).natAbs : Int) := by omega
      have : 1 * D ≤ ((S - m).natAbs : Int) * D := Int.mul_le_mul_of_nonneg_right this (by omega)
      omega
    omega
theorem rn_le_pow {p : Nat} {c : Int} (hp : 1 ≤ p) : ((RN p c).natAbs : Int) ≤ 10 ^ (p + ex p c) := by
  have h := ex_lt (c := c) hp
  have hb := rn_err p c
  unfold RN at *
  have hD := p10 (ex p c)
  rw [Int.pow_add] at h ⊢
  rw [natAbs_mul_pos hD]
  generalize rq c (10 ^ ex p c) = S at *
  generalize (10 : Int) ^ ex p c = D at *
  generalize (10 : Int) ^ p = M at *
  rcases Int.lt_or_le M (S.natAbs : Int) with h' | h'
  · exfalso
    have h1 : (M + 1) * D ≤ (S.natAbs : Int) * D := Int.mul_le_mul_of_nonneg_right (by omega) (by omega)
    rw [Int.add_mul] at h1
    have h2 := natAbs_mul_pos (m := S) hD
    omega
  · exact Int.mul_le_mul_of_nonneg_right h' (by omega)
theorem rn_fl {p : Nat} {c : Int} (hp : 1 ≤ p) : Fl p (RN p c) := by
  refine ⟨ex p c, rq c (10 ^ ex p c), rfl, ?_⟩
  have h := rn_le_pow (c := c) hp
  unfold RN at h
  have hD := p10 (ex p c)
  rw [Int.pow_add, natAbs_mul_pos hD] at h
  exact Int.le_of_mul_le_mul_right h hD
/-- what has the grid stays -/
theorem rn_of_mul {p : Nat} {c m : Int} (h : c = m * 10 ^ ex p c) : RN p c = c := by
  have h1 := rn_best (p := p) (c := c) (m := m)
  rw [← h] at h1
  omega
theorem mul_down {c m : Int} {q r : Nat} (h : c = m * 10 ^ q) (hr : r ≤ q) : ∃ k, c = k * 10 ^ r := by
  refine ⟨m * 10 ^ (q - r), ?_⟩
  rw [h, Int.mul_assoc, ← Int.pow_add, Nat.sub_add_cancel hr]
theorem fl_grid {p : Nat} {c : Int} (hp : 1 ≤ p) (h : Fl p c) : ∃ k, c = k * 10 ^ ex p c := by
  obtain ⟨q, m, e, hm⟩ := h
  have hq := p10 q
  by_cases hle : ex p c ≤ q
  · exact mul_down e hle
  · have h1 := ex_ge (c := c) hp (show q < ex p c by omega)
    have h2 : (c.natAbs : Int) = (m.natAbs : Int) * 10 ^ q := by
      conv => lhs; rw [e]
      exact natAbs_mul_pos hq
    rw [Int.pow_add] at h1
    have h3 : (m.natAbs : Int) * 10 ^ q ≤ 10 ^ p * 10 ^ q := Int.mul_le_mul_of_nonneg_right hm (by omega)
    -- c is a power of ten times the grid
    have h4 : (c.natAbs : Int) = 10 ^ (p + q) := by rw [Int.pow_add]; omega
    have h5 : ex p c ≤ q + 1 := by
      rw [ex_le hp, h4]
      have := p10 (p + q)
      rw [show p + (q + 1) = p + q + 1 by omega, p10_succ]; omega
    have h6 : ex p c = q + 1 := by omega
    rw [h6]
    have e2 : (10 : Int) ^ (p + q) = 10 ^ (p - 1) * 10 ^ (q + 1) := by rw [← Int.pow_add]; congr 1; omega
    rcases Int.le_total 0 c with hc | hc
    · exact ⟨10 ^ (p - 1), by rw [← e2]; omega⟩
    · exact ⟨-(10 ^ (p - 1)), by rw [Int.neg_mul, ← e2]; omega⟩
theorem rn_exact {p : Nat} {c : Int} (hp : 1 ≤ p) (h : Fl p c) : RN p c = c := by
  obtain ⟨k, e⟩ := fl_grid hp h
  exact rn_of_mul e
theorem fl_of {p q : Nat} {x m : Int} (e : x = m * 10 ^ q) (h : (x.natAbs : Int) ≤ 10 ^ (p + q)) : Fl p x := by
  refine ⟨q, m, e, ?_⟩
  rw [e, natAbs_mul_pos (p10 q), Int.pow_add] at h
  exact Int.le_of_mul_le_mul_right h (p10 q)
theorem fl_zero {p : Nat} : Fl p 0 := ⟨0, 0, by simp, by have := p10 p; simp; omega⟩
theorem fl_neg {p : Nat} {x : Int} (h : Fl p x) : Fl p (-x) := by
  obtain ⟨q, m, e, hm⟩ := h
  exact ⟨q, -m, by rw [e, Int.neg_mul], by rw [Int.natAbs_neg]; exact hm⟩
theorem fl_mono {p p' : Nat} {x : Int} (h : Fl p x) (hp : p ≤ p') : Fl p' x := by
  obtain ⟨q, m, e, hm⟩ := h
  exact ⟨q, m, e, Int.le_trans hm (p10_le hp)⟩
theorem rn_zero {p : Nat} (hp : 1 ≤ p) : RN p 0 = 0 := rn_exact hp fl_zero
/-- no number of p figures is nearer -/
theorem rn_nearest {p : Nat} {c f : Int} (hp : 1 ≤ p) (hf : Fl p f) : ((RN p c - c).natAbs : Int) ≤ ((f - c).natAbs : Int) := by
  obtain ⟨q, m, e, hm⟩ := hf
  by_cases hle : ex p c ≤ q
  · obtain ⟨k, ek⟩ := mul_down e hle
    rw [ek]; exact rn_best
  · have hq := p10 q
    have hfa : (f.natAbs : Int) ≤ 10 ^ (p + q) := by
      rw [e, natAbs_mul_pos hq, Int.pow_add]
      exact Int.mul_le_mul_of_nonneg_right hm (by omega)
    have h1 := ex_ge (c := c) hp (show ex p c - 1 < ex p c by omega)
    have h2 : (10 : Int) ^ (p + q) ≤ 10 ^ (p + (ex p c - 1)) := p10_le (by omega)
    have e2 : (10 : Int) ^ (p + (ex p c - 1)) = 10 ^ (p - 1) * 10 ^ ex p c := by rw [← Int.pow_add]; congr 1; omega
    rcases Int.le_total 0 c with hc | hc
    · have := rn_best (p := p) (c := c) (m := 10 ^ (p - 1))
      rw [← e2] at this; omega
    · have := rn_best (p := p) (c := c) (m := -(10 ^ (p - 1)))
      rw [Int.neg_mul, ← e2] at this; omega

/-- the sum of two multiples -/
theorem mul_add {x y a b : Int} {q r : Nat} (hx : x = a * 10 ^ q) (hy : y = b * 10 ^ r) : ∃ k, x + y = k * 10 ^ min q r := by
  obtain ⟨a', e1⟩ := mul_down hx (Nat.min_le_left q r)
  obtain ⟨b', e2⟩ := mul_down hy (Nat.min_le_right q r)
  exact ⟨a' + b', by rw [Int.add_mul, ← e1, ← e2]⟩
theorem mul_sub' {x y a b : Int} {q r : Nat} (hx : x = a * 10 ^ q) (hy : y = b * 10 ^ r) : ∃ k, x - y = k * 10 ^ min q r := by
  obtain ⟨k, e⟩ := mul_add hx (show -y = (-b) * 10 ^ r by rw [hy, Int.neg_mul])
  exact ⟨k, by rw [← e]; omega⟩
theorem rn_grid (p : Nat) (c : Int) : RN p c = rq c (10 ^ ex p c) * 10 ^ ex p c := rfl

/-- the error of a sum has p figures -/
theorem fl_err {p : Nat} {a b : Int} (hp : 1 ≤ p) (ha : Fl p a) (hb : Fl p b) : Fl p (a + b - RN p (a + b)) := by
  by_cases he : RN p (a + b) = a + b
  · rw [he, Int.sub_self]; exact fl_zero
  obtain ⟨ka, ea⟩ := fl_grid hp ha
  obtain ⟨kb, eb⟩ := fl_grid hp hb
  obtain ⟨k, ek⟩ := mul_add ea eb
  have hq : min (ex p a) (ex p b) < ex p (a + b) := by
    rcases Nat.lt_or_ge (min (ex p a) (ex p b)) (ex p (a + b)) with h | h
    · exact h
    · obtain ⟨k', e'⟩ := mul_down ek h
      exact absurd (rn_of_mul e') he
  obtain ⟨k2, e2⟩ := mul_sub' ek (rn_grid p (a + b))
  rw [Nat.min_eq_left (Nat.le_of_lt hq)] at e2
  refine fl_of e2 ?_
  have n1 := rn_nearest (c := a + b) hp ha
  have n2 := rn_nearest (c := a + b) hp hb
  have l1 := ex_lt (c := a) hp
  have l2 := ex_lt (c := b) hp
  rcases Nat.le_total (ex p a) (ex p b) with h | h
  · rw [Nat.min_eq_left h]; omega
  · rw [Nat.min_eq_right h]; omega
theorem fl_err_sub {p : Nat} {a b : Int} (hp : 1 ≤ p) (ha : Fl p a) (hb : Fl p b) : Fl p (a - b - RN p (a - b)) := by
  have := fl_err hp ha (fl_neg hb)
  rw [show a + -b = a - b by omega] at this
  exact this

set_option maxHeartbeats 2000000 in
/-- Moeller and Knuth: what the rounded sum lacks -/
theorem two_sum {p : Nat} {a b s a1 b1 : Int} (hp : 1 ≤ p) (ha : Fl p a) (hb : Fl p b) (hs : s = RN p (a + b)) (ha1 : a1 = RN p (s - b)) (hb1 : b1 = RN p (s - a1)) :
    s + RN p (RN p (a - a1) + RN p (b - b1)) = a + b := by
  have herr : Fl p (a + b - s) := by rw [hs]; exact fl_err hp ha hb
  have hsF : Fl p s := by rw [hs]; exact rn_fl hp
  -- it is enough that three differences have p figures
  have enough : b1 = s - a1 → Fl p (a - a1) → s + RN p (RN p (a - a1) + RN p (b - b1)) = a + b := by
    intro h1 h2
    have h3 : Fl p (b - b1) := by
      have := fl_neg (fl_err_sub hp hsF hb)
      rw [← ha1, show -(s - b - a1) = b - b1 by omega] at this
      exact this
    rw [rn_exact hp h2, rn_exact hp h3, show a - a1 + (b - b1) = a + b - s by omega, rn_exact hp herr]
    omega
  by_cases hx : a1 = s - b
  · have e1 : b1 = b := by rw [hb1, hx, show s - (s - b) = b by omega, rn_exact hp hb]
    refine enough (by omega) ?_
    rw [hx, show a - (s - b) = a + b - s by omega]
    exact herr
  have hsx : s ≠ a + b := by
    intro e
    apply hx
    rw [ha1, e, show a + b - b = a by omega, rn_exact hp ha]
  obtain ⟨ka, ea⟩ := fl_grid hp ha
  obtain ⟨kb, eb⟩ := fl_grid hp hb
  obtain ⟨k, ek⟩ := mul_add ea eb
  have la := ex_lt (c := a) hp
  have lb := ex_lt (c := b) hp
  have n1 := rn_nearest (c := a + b) hp ha
  have n2 := rn_nearest (c := a + b) hp hb
  rw [← hs] at n1 n2
  have eS := rn_grid p (a + b)
  rw [← hs] at eS
  have hq : min (ex p a) (ex p b) < ex p (a + b) := by
    rcases Nat.lt_or_ge (min (ex p a) (ex p b)) (ex p (a + b)) with h | h
    · exact h
    · obtain ⟨k', e'⟩ := mul_down ek h
      exact absurd (hs.trans (rn_of_mul e')) hsx
  have lS : (s.natAbs : Int) ≤ 10 ^ (p + ex p (a + b)) := by rw [hs]; exact rn_le_pow hp
  have errS : 2 * ((s - (a + b)).natAbs : Int) ≤ 10 ^ ex p (a + b) := by rw [hs]; exact rn_err p (a + b)
  obtain ⟨ksb, esb⟩ := mul_sub' eS eb
  have hexs : ex p (a + b) ≤ max (ex p a) (ex p b) + 1 := by
    rw [ex_le hp]
    have h1 : (10 : Int) ^ (p + ex p a) ≤ 10 ^ (p + max (ex p a) (ex p b)) := p10_le (by omega)
    have h2 : (10 : Int) ^ (p + ex p b) ≤ 10 ^ (p + max (ex p a) (ex p b)) := p10_le (by omega)
    rw [show p + (max (ex p a) (ex p b) + 1) = p + max (ex p a) (ex p b) + 1 by omega, p10_succ]
    omega
  -- the finer grid is b's: else s - b has p figures
  have hba : ex p b ≤ ex p a := by
    rcases Nat.le_total (ex p b) (ex p a) with h | h
    · exact h
    rcases Nat.lt_or_ge (ex p a) (ex p b) with h' | h'
    · exfalso
      apply hx
      rw [ha1]
      refine rn_exact hp (fl_of esb ?_)
      have : (10 : Int) ^ (p + (ex p a + 1)) ≤ 10 ^ (p + min (ex p (a + b)) (ex p b)) := p10_le (by omega)
      rw [show p + (ex p a + 1) = p + ex p a + 1 by omega, p10_succ] at this
      omega
    · exact h'
  rw [Nat.min_eq_right hba] at hq
  rw [Nat.max_eq_left hba] at hexs
  rw [Nat.min_eq_right (Nat.le_of_lt hq)] at esb
  have eA := rn_grid p (s - b)
  rw [← ha1] at eA
  have errA : 2 * ((a1 - (s - b)).natAbs : Int) ≤ 10 ^ ex p (s - b) := by rw [ha1]; exact rn_err p (s - b)
  have hq1 : ex p b < ex p (s - b) := by
    rcases Nat.lt_or_ge (ex p b) (ex p (s - b)) with h | h
    · exact h
    · obtain ⟨k', e'⟩ := mul_down esb h
      exact absurd (ha1.trans (rn_of_mul e')) hx
  have hq1s : ex p (s - b) ≤ ex p (a + b) + 1 := by
    rw [ex_le hp]
    have h2 : (10 : Int) ^ (p + ex p b) ≤ 10 ^ (p + ex p (a + b)) := p10_le (by omega)
    have h0 := p10 (p + ex p (a + b))
    rw [show p + (ex p (a + b) + 1) = p + ex p (a + b) + 1 by omega, p10_succ]
    omega
  have hq1a : ex p (s - b) ≤ ex p a + 1 := by
    rw [ex_le hp]
    have h2 : (10 : Int) ^ ex p (a + b) ≤ 10 ^ (ex p a + 1) := p10_le hexs
    have h3 : (10 : Int) ^ (1 + ex p a) ≤ 10 ^ (p + ex p a) := p10_le (by omega)
    rw [show ex p a + 1 = 1 + ex p a by omega] at h2
    have h0 := p10 (p + ex p a)
    rw [show p + (ex p a + 1) = p + ex p a + 1 by omega, p10_succ]
    omega
  have lbr : ∀ r, ex p b < r → 10 * (b.natAbs : Int) ≤ 10 ^ (p + r) := fun r hr => by
    have := p10_lt (show p + ex p b < p + r by omega)
    omega
  have hhalf : ∀ r : Nat, 10 * (10 : Int) ^ r ≤ 10 ^ (p + r) := fun r => p10_lt (by omega)
  refine enough ?_ ?_
  · -- s - a1 has p figures
    obtain ⟨kk, ekk⟩ := mul_sub' eS eA
    refine hb1.trans (rn_exact hp (fl_of ekk ?_))
    clear hb1 enough ekk kk herr hsF
    rcases Nat.le_total (ex p (s - b)) (ex p (a + b)) with h | h
    · rw [Nat.min_eq_right h]
      have h1 := lbr _ hq1
      have h2 := hhalf (ex p (s - b))
      omega
    · rw [Nat.min_eq_left h]
      have h1 := lbr _ hq
      have h2 := hhalf (ex p (a + b))
      have h3 : (10 : Int) ^ ex p (s - b) ≤ 10 ^ (ex p (a + b) + 1) := p10_le hq1s
      rw [p10_succ] at h3
      omega
  · -- a - a1 has p figures
    obtain ⟨kk, ekk⟩ := mul_sub' ea eA
    refine fl_of ekk ?_
    clear hb1 enough ekk kk herr hsF
    rcases Nat.le_total (ex p (s - b)) (ex p a) with h | h
    · rw [Nat.min_eq_right h]
      have h1 := lbr _ hq1
      have h2 := hhalf (ex p (s - b))
      omega
    · rw [Nat.min_eq_left h]
      have h2 := hhalf (ex p a)
      have h3 : (10 : Int) ^ ex p (s - b) ≤ 10 ^ (ex p a + 1) := p10_le hq1a
      have h4 : (10 : Int) ^ ex p (a + b) ≤ 10 ^ (ex p a + 1) := p10_le hexs
      rw [p10_succ] at h3 h4
      omega

/-! ## Veltkamp's cut and Dekker's product -/
theorem near_of_rn {p : Nat} {c S : Int} (h : Near c (10 ^ ex p c) S) : RN p c = S * 10 ^ ex p c := by
  unfold RN
  rw [near_unique (p10 _) (rn_near p c) h]
theorem rn_scale {p : Nat} (hp : 1 ≤ p) (c : Int) (k : Nat) : RN p (c * 10 ^ k) = RN p c * 10 ^ k := by
  by_cases h0 : ex p c = 0
  · have hc : (c.natAbs : Int) < 10 ^ p := by have := ex_lt (c := c) hp; rw [h0] at this; exact this
    have f1 : Fl p c := ⟨0, c, by simp, by omega⟩
    have f2 : Fl p (c * 10 ^ k) := ⟨k, c, rfl, by omega⟩
    rw [rn_exact hp f1, rn_exact hp f2]
  · have hk := p10 k
    have e1 : ((c * 10 ^ k).natAbs : Int) = (c.natAbs : Int) * 10 ^ k := natAbs_mul_pos hk
    have hex : ex p (c * 10 ^ k) = ex p c + k := by
      apply Nat.le_antisymm
      · rw [ex_le hp, e1, show p + (ex p c + k) = (p + ex p c) + k by omega, Int.pow_add 10 (p + ex p c)]
        exact Int.mul_lt_mul_of_pos_right (ex_lt hp) hk
      · rcases Nat.lt_or_ge (ex p (c * 10 ^ k)) (ex p c + k) with h | h
        · exfalso
          have h1 := ex_lt (c := c * 10 ^ k) hp
          have h2 := ex_ge (c := c) hp (show ex p c - 1 < ex p c by omega)
          have h3 : (10 : Int) ^ (p + (ex p c - 1)) * 10 ^ k ≤ (c.natAbs : Int) * 10 ^ k := Int.mul_le_mul_of_nonneg_right h2 (by omega)
          rw [← Int.pow_add] at h3
          have h4 : (10 : Int) ^ (p + ex p (c * 10 ^ k)) ≤ 10 ^ (p + (ex p c - 1) + k) := p10_le (by omega)
          omega
        · exact h
    have hn : Near (c * 10 ^ k) (10 ^ ex p (c * 10 ^ k)) (rq c (10 ^ ex p c)) := by
      refine near_scale (p10 (ex p c)) (p10 _) ?_ (rn_near p c)
      rw [hex, Int.pow_add]; grind
    rw [near_of_rn hn, hex, Int.pow_add]
    unfold RN
    grind
theorem rn_odd (p : Nat) (c : Int) : RN p (-c) = -RN p c := by
  have hex : ex p (-c) = ex p c := by unfold ex; rw [Int.natAbs_neg]
  have hn : Near (-c) (10 ^ ex p (-c)) (-rq c (10 ^ ex p c)) := by rw [hex]; exact near_neg (rn_near p c)
  rw [near_of_rn hn, hex, Int.neg_mul]; rfl

/-- the cut -/
def hiV (h : Nat) (x : Int) : Int := RN (2 * h) (RN (2 * h) ((10 ^ h + 1) * x) + RN (2 * h) (x - RN (2 * h) ((10 ^ h + 1) * x)))
def loV (h : Nat) (x : Int) : Int := RN (2 * h) (x - hiV h x)
theorem hi_scale {h : Nat} (hh : 1 ≤ h) (x : Int) (k : Nat) : hiV h (x * 10 ^ k) = hiV h x * 10 ^ k := by
  unfold hiV
  have hp : 1 ≤ 2 * h := by omega
  rw [← Int.mul_assoc, rn_scale hp, ← Int.sub_mul, rn_scale hp, ← Int.add_mul, rn_scale hp]
theorem lo_scale {h : Nat} (hh : 1 ≤ h) (x : Int) (k : Nat) : loV h (x * 10 ^ k) = loV h x * 10 ^ k := by
  unfold loV
  rw [hi_scale hh, ← Int.sub_mul, rn_scale (by omega)]
theorem hi_odd (h : Nat) (x : Int) : hiV h (-x) = -hiV h x := by
  unfold hiV
  rw [show (10 ^ h + 1) * -x = -((10 ^ h + 1) * x) by grind, rn_odd, show -x - -RN (2 * h) ((10 ^ h + 1) * x) = -(x - RN (2 * h) ((10 ^ h + 1) * x)) by omega, rn_odd, show -RN (2 * h) ((10 ^ h + 1) * x) + -RN (2 * h) (x - RN (2 * h) ((10 ^ h + 1) * x)) = -(RN (2 * h) ((10 ^ h + 1) * x) + RN (2 * h) (x - RN (2 * h) ((10 ^ h + 1) * x))) by omega, rn_odd]
theorem lo_odd (h : Nat) (x : Int) : loV h (-x) = -loV h x := by
  unfold loV
  rw [hi_odd, show -x - -hiV h x = -(x - hiV h x) by omega, rn_odd]

theorem velt_core {h : Nat} {X : Int} (hh : 2 ≤ h) (h1 : (10 : Int) ^ (2 * h - 1) ≤ X) (h2 : X < 10 ^ (2 * h)) :
    ∃ m, RN (2 * h) ((10 ^ h + 1) * X) + RN (2 * h) (X - RN (2 * h) ((10 ^ h + 1) * X)) = m * 10 ^ h ∧
      2 * ((RN (2 * h) ((10 ^ h + 1) * X) + RN (2 * h) (X - RN (2 * h) ((10 ^ h + 1) * X)) - X).natAbs : Int) ≤ 10 ^ h := by
  have hp : 1 ≤ 2 * h := by omega
  have hA := p10 h
  have hA2 : (100 : Int) ≤ 10 ^ h := p10_le (a := 2) hh
  have hB := p10 (2 * h - 1)
  -- powers
  have q1 : (10 : Int) ^ (2 * h) = 10 * 10 ^ (2 * h - 1) := by rw [← p10_succ]; congr 1; omega
  have q2 : (10 : Int) ^ (2 * h + h) = 10 ^ h * 10 ^ (2 * h) := by rw [← Int.pow_add]; congr 1; omega
  have q3 : (10 : Int) ^ (2 * h + (h - 1)) = 10 ^ h * 10 ^ (2 * h - 1) := by rw [← Int.pow_add]; congr 1; omega
  have q4 : (10 : Int) ^ (2 * h + (h + 1)) = 10 * (10 ^ h * 10 ^ (2 * h)) := by rw [← Int.pow_add, ← p10_succ]; congr 1; omega
  have q5 : (10 : Int) ^ (h + 1) = 10 * 10 ^ h := p10_succ h
  have q6 : (10 : Int) ^ (2 * h - 1) = 10 ^ (h - 1) * 10 ^ h := by rw [← Int.pow_add]; congr 1; omega
  have q7 : (10 : Int) ^ (2 * h) = 10 ^ (h - 1) * 10 ^ (h + 1) := by rw [← Int.pow_add]; congr 1; omega
  have l1 : (10 : Int) ^ h * 10 ^ (2 * h - 1) ≤ 10 ^ h * X := Int.mul_le_mul_of_nonneg_left h1 (by omega)
  have l2 : (10 : Int) ^ h * X ≤ 10 ^ h * (10 ^ (2 * h) - 1) := Int.mul_le_mul_of_nonneg_left (by omega) (by omega)
  rw [Int.mul_sub, Int.mul_one] at l2
  have l3 : (10 : Int) ^ (2 * h) * 10 ≤ 10 ^ h * 10 ^ (2 * h) := by rw [Int.mul_comm]; exact Int.mul_le_mul_of_nonneg_right (by omega) (by omega)
  have l4 : (10 : Int) ^ h * 10 ^ (2 * h) = 10 * (10 ^ h * 10 ^ (2 * h - 1)) := by rw [q1]; grind
  have l5 : (10 : Int) ^ h * 10 ≤ 10 ^ h * 10 ^ (2 * h - 1) := Int.mul_le_mul_of_nonneg_left (by have := p10_le (a := 1) (b := 2 * h - 1) (by omega); simpa using this) (by omega)
  have eC : (10 ^ h + 1) * X = 10 ^ h * X + X := by grind
  have c1 := ex_lt (c := (10 ^ h + 1) * X) hp
  have cE := rn_err (2 * h) ((10 ^ h + 1) * X)
  have cG := rn_grid (2 * h) ((10 ^ h + 1) * X)
  have cU : ex (2 * h) ((10 ^ h + 1) * X) ≤ h + 1 := by
    rw [ex_le hp, q4, eC]; omega
  have cL : h ≤ ex (2 * h) ((10 ^ h + 1) * X) := by
    rcases Nat.lt_or_ge (ex (2 * h) ((10 ^ h + 1) * X)) h with h' | h'
    · exfalso
      have := p10_le (show 2 * h + ex (2 * h) ((10 ^ h + 1) * X) ≤ 2 * h + (h - 1) by omega)
      rw [q3] at this
      rw [eC] at c1 this
      omega
    · exact h'
  have cB : ex (2 * h) ((10 ^ h + 1) * X) = h + 1 → 10 ^ h * 10 ^ (2 * h) ≤ 10 ^ h * X + X := fun e => by
    have := ex_ge (c := (10 ^ h + 1) * X) hp (show h < ex (2 * h) ((10 ^ h + 1) * X) by omega)
    rw [q2, eC] at this
    omega
  -- the smallest X is cut without an error
  have cS : X = 10 ^ (2 * h - 1) → RN (2 * h) ((10 ^ h + 1) * X) = (10 ^ h + 1) * X := fun e => by
    have hE : ex (2 * h) ((10 ^ h + 1) * X) = h := by
      rcases Nat.lt_or_ge h (ex (2 * h) ((10 ^ h + 1) * X)) with h' | h'
      · have := cB (by omega)
        exfalso
        have l7 : (10 : Int) ^ h * X = 10 ^ h * 10 ^ (2 * h - 1) := by rw [e]
        have l8 : 1 * (10 : Int) ^ (2 * h - 1) ≤ 10 ^ h * 10 ^ (2 * h - 1) := Int.mul_le_mul_of_nonneg_right (by omega) (by omega)
        omega
      · omega
    refine rn_of_mul (m := X + 10 ^ (h - 1)) ?_
    rw [hE, eC, Int.add_mul, ← q6, ← e, Int.mul_comm X]
  generalize hg : RN (2 * h) ((10 ^ h + 1) * X) = g at *
  generalize ex (2 * h) ((10 ^ h + 1) * X) = EE at *
  rw [eC] at cE cS
  -- how far X - g lies from 0
  have gL : 10 ^ h * 10 ^ (2 * h - 1) ≤ g - X := by
    rcases Int.lt_or_eq_of_le h1 with hX | hX
    · have l6 : (10 : Int) ^ h * (10 ^ (2 * h - 1) + 1) ≤ 10 ^ h * X := Int.mul_le_mul_of_nonneg_left (by omega) (by omega)
      rw [Int.mul_add, Int.mul_one] at l6
      rcases Nat.lt_or_ge h (EE) with h' | h'
      · have hE : EE = h + 1 := by omega
        have := cB hE
        rw [hE, q5] at cE
        omega
      · have hE : EE = h := by omega
        rw [hE] at cE
        omega
    · have := cS hX.symm
      omega
  have dL := ex_lt (c := X - g) hp
  have dE := rn_err (2 * h) (X - g)
  have dG := rn_grid (2 * h) (X - g)
  have dLow : h ≤ ex (2 * h) (X - g) := by
    rcases Nat.lt_or_ge (ex (2 * h) (X - g)) h with h' | h'
    · exfalso
      have := p10_le (show 2 * h + ex (2 * h) (X - g) ≤ 2 * h + (h - 1) by omega)
      rw [q3] at this
      omega
    · exact h'
  obtain ⟨mg, emg⟩ := mul_down cG cL
  obtain ⟨md, emd⟩ := mul_down dG dLow
  refine ⟨mg + md, by rw [Int.add_mul, ← emg, ← emd], ?_⟩
  rcases Nat.lt_or_ge h (ex (2 * h) (X - g)) with h' | h'
  · -- X - g is as great as 10 ** (3 h): X is next to 10 ** (2 h)
    have hge := ex_ge (c := X - g) hp h'
    rw [q2] at hge
    have hE : EE = h + 1 := by
      rcases Nat.lt_or_ge h (EE) with h3 | h3
      · omega
      · exfalso
        have hE : EE = h := by omega
        rw [hE] at cE
        omega
    rw [hE, q5] at cE
    have hX5 : (10 : Int) ^ (2 * h) ≤ X + 5 := by
      have : (10 : Int) ^ h * 10 ^ (2 * h) ≤ 10 ^ h * (X + 5) := by rw [Int.mul_add]; omega
      exact Int.le_of_mul_le_mul_left this hA
    have hE2 : ex (2 * h) (X - g) = h + 1 := by
      apply Nat.le_antisymm
      · rw [ex_le hp, q4]; omega
      · omega
    rw [hE] at cG
    have hb := rn_best (p := 2 * h) (c := X - g) (m := 10 ^ (h - 1) - rq ((10 ^ h + 1) * X) (10 ^ (h + 1)))
    rw [hE2, Int.sub_mul, ← q7, ← cG] at hb
    omega
  · have hE : ex (2 * h) (X - g) = h := by omega
    rw [hE] at dE
    omega

/-- the cut of a number of just 2 h figures -/
structure Cut (h : Nat) (k H L : Int) : Prop where
  lo : (10 : Int) ^ (2 * h - 1) ≤ (k.natAbs : Int)
  up : (k.natAbs : Int) < 10 ^ (2 * h)
  sum : H + L = k
  grid : ∃ m, H = m * 10 ^ h ∧ (m.natAbs : Int) ≤ 10 ^ h
  less : 2 * (L.natAbs : Int) ≤ 10 ^ h
theorem cut_pos {h : Nat} {X : Int} (hh : 2 ≤ h) (h1 : (10 : Int) ^ (2 * h - 1) ≤ X) (h2 : X < 10 ^ (2 * h)) : Cut h X (hiV h X) (loV h X) := by
  obtain ⟨m, em, herr⟩ := velt_core hh h1 h2
  have hp : 1 ≤ 2 * h := by omega
  have hA := p10 h
  have hB := p10 (2 * h - 1)
  have hpp : (10 : Int) ^ (2 * h) = 10 ^ h * 10 ^ h := by rw [← Int.pow_add]; congr 1; omega
  have hm : (m.natAbs : Int) ≤ 10 ^ h := by
    rcases Int.lt_or_le (10 ^ h) (m.natAbs : Int) with h' | h'
    · exfalso
      have h3 : (10 ^ h + 1) * (10 : Int) ^ h ≤ (m.natAbs : Int) * 10 ^ h := Int.mul_le_mul_of_nonneg_right (by omega) (by omega)
      rw [Int.add_mul, ← hpp, ← natAbs_mul_pos hA, ← em] at h3
      omega
    · exact h'
  have hF : Fl (2 * h) (m * 10 ^ h) := ⟨h, m, rfl, Int.le_trans hm (p10_le (by omega))⟩
  have eH : hiV h X = m * 10 ^ h := by
    unfold hiV
    rw [em]; exact rn_exact hp hF
  rw [em] at herr
  have eL : loV h X = X - m * 10 ^ h := by
    unfold loV
    rw [eH]
    refine rn_exact hp ⟨0, X - m * 10 ^ h, by simp, ?_⟩
    have : (10 : Int) ^ h ≤ 10 ^ (2 * h) := p10_le (by omega)
    omega
  rw [eH, eL]
  exact ⟨by omega, by omega, by omega, ⟨m, rfl, hm⟩, by omega⟩
theorem cut_any {h : Nat} {k : Int} (hh : 2 ≤ h) (h1 : (10 : Int) ^ (2 * h - 1) ≤ (k.natAbs : Int)) (h2 : (k.natAbs : Int) < 10 ^ (2 * h)) : Cut h k (hiV h k) (loV h k) := by
  rcases Int.le_total 0 k with hk | hk
  · exact cut_pos hh (by omega) (by omega)
  · obtain ⟨a, b, c, ⟨m, d, d'⟩, e⟩ := cut_pos (X := -k) hh (by omega) (by omega)
    rw [hi_odd] at c d
    rw [lo_odd] at c e
    exact ⟨h1, h2, by omega, ⟨-m, by rw [Int.neg_mul]; omega, by rw [Int.natAbs_neg]; exact d'⟩, by rw [Int.natAbs_neg] at e; exact e⟩
/-- a number of p figures is one of just p figures, moved -/
theorem moved {p : Nat} {x : Int} (hp : 1 ≤ p) (hx : x ≠ 0) (hF : Fl p x) : ∃ (k : Int) (e : Nat), x * 10 ^ p = k * 10 ^ e ∧ (10 : Int) ^ (p - 1) ≤ (k.natAbs : Int) ∧ (k.natAbs : Int) < 10 ^ p := by
  have hpp := p10 p
  have hF2 : Fl p (x * 10 ^ p) := by
    obtain ⟨q, m, e, hm⟩ := hF
    exact ⟨q + p, m, by rw [e, Int.pow_add, Int.mul_assoc], hm⟩
  obtain ⟨k, ek⟩ := fl_grid hp hF2
  have e1 : ((x * 10 ^ p).natAbs : Int) = (x.natAbs : Int) * 10 ^ p := natAbs_mul_pos hpp
  have hbig : (10 : Int) ^ p ≤ ((x * 10 ^ p).natAbs : Int) := by
    rw [e1]
    have : 1 * (10 : Int) ^ p ≤ (x.natAbs : Int) * 10 ^ p := Int.mul_le_mul_of_nonneg_right (by omega) (by omega)
    omega
  have hl := ex_lt (c := x * 10 ^ p) hp
  have hex : 1 ≤ ex p (x * 10 ^ p) := by
    rcases Nat.eq_zero_or_pos (ex p (x * 10 ^ p)) with h | h
    · rw [h] at hl; simp only [Nat.add_zero] at hl; omega
    · exact h
  have hg := ex_ge (c := x * 10 ^ p) hp (show ex p (x * 10 ^ p) - 1 < ex p (x * 10 ^ p) by omega)
  have e2 : ((x * 10 ^ p).natAbs : Int) = (k.natAbs : Int) * 10 ^ ex p (x * 10 ^ p) := by
    conv => lhs; rw [ek]
    exact natAbs_mul_pos (p10 _)
  refine ⟨k, ex p (x * 10 ^ p), ek, ?_, ?_⟩
  · rw [e2, show p + (ex p (x * 10 ^ p) - 1) = (p - 1) + ex p (x * 10 ^ p) by omega, Int.pow_add] at hg
    exact Int.le_of_mul_le_mul_right hg (p10 _)
  · rw [e2, Int.pow_add] at hl
    exact Int.lt_of_mul_lt_mul_right hl (Int.le_of_lt (p10 _))
theorem fl_down {p k : Nat} {x : Int} (h : Fl p (x * 10 ^ k)) : Fl p x := by
  obtain ⟨q, m, e, hm⟩ := h
  rcases Nat.le_total k q with hk | hk
  · refine ⟨q - k, m, ?_, hm⟩
    rw [show q = (q - k) + k by omega, Int.pow_add, ← Int.mul_assoc] at e
    exact Int.eq_of_mul_eq_mul_right (by have := p10 k; omega) e
  · refine ⟨0, x, by simp, ?_⟩
    rw [show k = (k - q) + q by omega, Int.pow_add, ← Int.mul_assoc] at e
    have e' := Int.eq_of_mul_eq_mul_right (by have := p10 q; omega) e
    have h1 := natAbs_mul_pos (m := x) (p10 (k - q))
    rw [e'] at h1
    have h2 := p10 (k - q)
    have : (x.natAbs : Int) * 1 ≤ (x.natAbs : Int) * 10 ^ (k - q) := Int.mul_le_mul_of_nonneg_left (by omega) (by omega)
    omega
theorem fl_up {p k : Nat} {x : Int} (h : Fl p x) : Fl p (x * 10 ^ k) := by
  obtain ⟨q, m, e, hm⟩ := h
  exact ⟨q + k, m, by rw [e, Int.pow_add, Int.mul_assoc], hm⟩
/-- what the two ways of rounding leave is the same -/
theorem cut_short {h : Nat} {k H L : Int} (hh : 2 ≤ h) (hc : Cut h k H L) : (L.natAbs : Int) = ((k - RN h k).natAbs : Int) := by
  have hp : 1 ≤ h := by omega
  have hA := p10 h
  have hex : ex h k = h := by
    apply Nat.le_antisymm
    · rw [ex_le hp, show h + h = 2 * h by omega]; exact hc.up
    · rcases Nat.lt_or_ge (ex h k) h with h' | h'
      · exfalso
        have h1 := ex_lt (c := k) hp
        have h2 := p10_le (show h + ex h k ≤ 2 * h - 1 by omega)
        have := hc.lo
        omega
      · exact h'
  obtain ⟨m, em, _⟩ := hc.grid
  have hb := rn_best (p := h) (c := k) (m := m)
  have hg := rn_grid h k
  rw [hex] at hb hg
  rw [← em] at hb
  have hs := hc.sum
  have hl := hc.less
  generalize hS : rq k (10 ^ h) = S at hg
  by_cases e : S = m
  · subst e
    rw [← em] at hg
    omega
  · have h1 : 10 ^ h ≤ ((H - RN h k).natAbs : Int) := by
      rw [em, hg, ← Int.sub_mul, natAbs_mul_pos hA]
      have : 1 * (10 : Int) ^ h ≤ ((m - S).natAbs : Int) * 10 ^ h := Int.mul_le_mul_of_nonneg_right (by omega) (by omega)
      omega
    omega

/-- Veltkamp -/
theorem veltkamp {h : Nat} {x : Int} (hh : 2 ≤ h) (hx : x ≠ 0) (hF : Fl (2 * h) x) :
    hiV h x + loV h x = x ∧ (loV h x).natAbs = (x - RN h x).natAbs ∧ Fl h (hiV h x) ∧ Fl h (loV h x) := by
  obtain ⟨k, e, hk, k1, k2⟩ := moved (by omega) hx hF
  have hc := cut_any hh k1 k2
  have sH : hiV h x * 10 ^ (2 * h) = hiV h k * 10 ^ e := by rw [← hi_scale (by omega), ← hi_scale (by omega), hk]
  have sL : loV h x * 10 ^ (2 * h) = loV h k * 10 ^ e := by rw [← lo_scale (by omega), ← lo_scale (by omega), hk]
  have hP := p10 (2 * h)
  refine ⟨?_, ?_, ?_, ?_⟩
  · have : (hiV h x + loV h x) * 10 ^ (2 * h) = x * 10 ^ (2 * h) := by rw [Int.add_mul, sH, sL, ← Int.add_mul, hc.sum, hk]
    exact Int.eq_of_mul_eq_mul_right (by omega) this
  · have h1 := cut_short hh hc
    have h2 : ((loV h x).natAbs : Int) * 10 ^ (2 * h) = ((x - RN h x).natAbs : Int) * 10 ^ (2 * h) := by
      rw [← natAbs_mul_pos hP, ← natAbs_mul_pos hP, Int.sub_mul, ← rn_scale (by omega), sL, hk, rn_scale (by omega), ← Int.sub_mul, natAbs_mul_pos (p10 e), natAbs_mul_pos (p10 e), h1]
    have h3 := Int.eq_of_mul_eq_mul_right (by omega) h2
    omega
  · refine fl_down (k := 2 * h) ?_
    rw [sH]
    obtain ⟨m, em, hm⟩ := hc.grid
    exact fl_up ⟨h, m, em, hm⟩
  · refine fl_down (k := 2 * h) ?_
    rw [sL]
    have := hc.less
    exact fl_up ⟨0, loV h k, by simp, by omega⟩

/-- Dekker's eight roundings -/
def dek (p : Nat) (x a b y c d : Int) : Int :=
  RN p (RN p (RN p (RN p (-RN p (x * y) + RN p (a * c)) + RN p (a * d)) + RN p (b * c)) + RN p (b * d))
theorem dek_scale {p : Nat} (hp : 1 ≤ p) (x a b y c d : Int) (i j : Nat) : dek p (x * 10 ^ i) (a * 10 ^ i) (b * 10 ^ i) (y * 10 ^ j) (c * 10 ^ j) (d * 10 ^ j) = dek p x a b y c d * 10 ^ (i + j) := by
  have m : ∀ u v : Int, u * 10 ^ i * (v * 10 ^ j) = u * v * 10 ^ (i + j) := fun u v => by rw [Int.pow_add]; grind
  unfold dek
  rw [m, m, m, m, m, rn_scale hp, rn_scale hp, rn_scale hp, rn_scale hp, rn_scale hp, ← Int.neg_mul, ← Int.add_mul, rn_scale hp, ← Int.add_mul, rn_scale hp, ← Int.add_mul, rn_scale hp, ← Int.add_mul, rn_scale hp]
theorem fl_mul {h : Nat} {a b : Int} (ha : Fl h a) (hb : Fl h b) : Fl (2 * h) (a * b) := by
  obtain ⟨q, m, e, hm⟩ := ha
  obtain ⟨r, n, f, hn⟩ := hb
  refine ⟨q + r, m * n, by rw [e, f, Int.pow_add]; grind, ?_⟩
  rw [Int.natAbs_mul, Int.natCast_mul, show 2 * h = h + h by omega, Int.pow_add]
  exact Int.mul_le_mul hm hn (by omega) (Int.le_of_lt (p10 h))
theorem abs_mul_le {a b A B : Int} (ha : (a.natAbs : Int) ≤ A) (hb : (b.natAbs : Int) ≤ B) : ((a * b).natAbs : Int) ≤ A * B := by
  rw [Int.natAbs_mul, Int.natCast_mul]
  exact Int.mul_le_mul ha hb (by omega) (by omega)
theorem dekker_core {h : Nat} {x a b y c d : Int} (hh : 2 ≤ h) (hx : Cut h x a b) (hy : Cut h y c d) : RN (2 * h) (x * y) + dek (2 * h) x a b y c d = x * y := by
  have hp : 1 ≤ 2 * h := by omega
  have hA := p10 h
  have hA2 : (100 : Int) ≤ 10 ^ h := p10_le (a := 2) hh
  have hpp : (10 : Int) ^ (2 * h) = 10 ^ h * 10 ^ h := by rw [← Int.pow_add]; congr 1; omega
  have hP := p10 (2 * h)
  obtain ⟨m, em, hm⟩ := hx.grid
  obtain ⟨n, en, hn⟩ := hy.grid
  have bl := hx.less
  have dl := hy.less
  have hAA : (10 : Int) ^ h ≤ 10 ^ (2 * h) := p10_le (by omega)
  have fa : Fl h a := ⟨h, m, em, hm⟩
  have fb : Fl h b := ⟨0, b, by simp, by omega⟩
  have fc : Fl h c := ⟨h, n, en, hn⟩
  have fd : Fl h d := ⟨0, d, by simp, by omega⟩
  have sx := hx.sum
  have sy := hy.sum
  -- the unit of the product
  have xu := hx.up
  have yu := hy.up
  have xl := hx.lo
  have yl := hy.lo
  have hxy1 : ((x * y).natAbs : Int) ≤ 10 ^ (2 * h) * 10 ^ (2 * h) := abs_mul_le (by omega) (by omega)
  have hxy2 : ((x * y).natAbs : Int) < 10 ^ (2 * h) * 10 ^ (2 * h) := by
    rw [Int.natAbs_mul, Int.natCast_mul]
    have h1 : (x.natAbs : Int) * (y.natAbs : Int) ≤ (x.natAbs : Int) * 10 ^ (2 * h) := Int.mul_le_mul_of_nonneg_left (by omega) (by omega)
    have h2 : (x.natAbs : Int) * 10 ^ (2 * h) < 10 ^ (2 * h) * 10 ^ (2 * h) := Int.mul_lt_mul_of_pos_right xu hP
    omega
  have hexU : ex (2 * h) (x * y) ≤ 2 * h := by rw [ex_le hp, Int.pow_add]; exact hxy2
  have hexL : 2 * h - 1 ≤ ex (2 * h) (x * y) := by
    rcases Nat.lt_or_ge (ex (2 * h) (x * y)) (2 * h - 1) with h' | h'
    · exfalso
      have h1 := ex_lt (c := x * y) hp
      have h2 := p10_le (show 2 * h + ex (2 * h) (x * y) ≤ (2 * h - 1) + (2 * h - 1) by omega)
      have h3 : (10 : Int) ^ ((2 * h - 1) + (2 * h - 1)) ≤ ((x * y).natAbs : Int) := by
        rw [Int.pow_add, Int.natAbs_mul, Int.natCast_mul]
        exact Int.mul_le_mul xl yl (Int.le_of_lt (p10 _)) (by omega)
      omega
    · exact h'
  have hE := rn_err (2 * h) (x * y)
  have hG := rn_grid (2 * h) (x * y)
  have hU : (10 : Int) ^ ex (2 * h) (x * y) ≤ 10 ^ (2 * h) := p10_le hexU
  obtain ⟨r1, er1⟩ := mul_down hG hexL
  obtain ⟨r2, er2⟩ := mul_down hG (show h ≤ ex (2 * h) (x * y) by omega)
  unfold dek
  rw [rn_exact hp (fl_mul fa fc), rn_exact hp (fl_mul fa fd), rn_exact hp (fl_mul fb fc), rn_exact hp (fl_mul fb fd)]
  generalize hr : RN (2 * h) (x * y) = r at *
  -- the four sums are told as they are
  have half : ∀ {u v V : Int}, 2 * (u.natAbs : Int) ≤ 10 ^ h → (v.natAbs : Int) ≤ V → 2 * ((u * v).natAbs : Int) ≤ 10 ^ h * V := fun {u v V} hu hv => by
    rw [Int.natAbs_mul, Int.natCast_mul, ← Int.mul_assoc]
    exact Int.mul_le_mul hu hv (by omega) (by omega)
  have v1 := half bl (Int.le_of_lt yu)
  have v2 := half dl (Int.le_of_lt xu)
  have v3 := half (v := d) (V := 10 ^ h) bl (by omega)
  have w1 : (10 : Int) ^ h * 10 ^ (2 * h) * 10 ≤ 10 ^ (2 * h - 1) * 10 ^ (2 * h) := by
    have : (10 : Int) ^ h * 10 ≤ 10 ^ (2 * h - 1) := by rw [show (10 : Int) ^ h * 10 = 10 ^ (h + 1) by rw [Int.pow_succ]]; exact p10_le (by omega)
    have := Int.mul_le_mul_of_nonneg_right this (Int.le_of_lt hP)
    grind
  have w2 : (100 : Int) * 10 ^ (2 * h) ≤ 10 ^ h * 10 ^ (2 * h) := Int.mul_le_mul_of_nonneg_right hA2 (by omega)
  have id1 : -r + a * c = -(d * x) - b * y + b * d - (r - x * y) := by rw [← sx, ← sy]; grind
  have id2 : -r + a * c + a * d = -(b * y) - (r - x * y) := by rw [← sx, ← sy]; grind
  have id3 : -r + a * c + a * d + b * c = -(b * d) - (r - x * y) := by rw [← sx, ← sy]; grind
  have id4 : -r + a * c + a * d + b * c + b * d = -(r - x * y) := by rw [← sx, ← sy]; grind
  have eh : (10 : Int) ^ (2 * h) = 10 * 10 ^ (2 * h - 1) := by rw [← p10_succ]; congr 1; omega
  have t1 : Fl (2 * h) (-r + a * c) := by
    refine fl_of (q := 2 * h - 1) (m := -r1 + m * n * 10) ?_ ?_
    · rw [Int.add_mul, Int.neg_mul, ← er1, em, en]
      have : m * n * 10 * 10 ^ (2 * h - 1) = m * 10 ^ h * (n * 10 ^ h) := by
        have : (10 : Int) * 10 ^ (2 * h - 1) = 10 ^ h * 10 ^ h := by rw [← eh, hpp]
        grind
      rw [this]
    · rw [id1, show 2 * h + (2 * h - 1) = (2 * h - 1) + 2 * h by omega, Int.pow_add]
      rw [← hpp] at v3
      omega
  have t2 : Fl (2 * h) (-r + a * c + a * d) := by
    refine fl_of (q := h) (m := -r2 + m * c + m * d) ?_ ?_
    · rw [Int.add_mul, Int.add_mul, Int.neg_mul, ← er2, em]; grind
    · rw [id2, show 2 * h + h = h + 2 * h by omega, Int.pow_add]
      omega
  have t3 : Fl (2 * h) (-r + a * c + a * d + b * c) := by
    refine fl_of (q := h) (m := -r2 + m * c + m * d + b * n) ?_ ?_
    · rw [Int.add_mul, Int.add_mul, Int.add_mul, Int.neg_mul, ← er2, em, en]; grind
    · rw [id3, show 2 * h + h = h + 2 * h by omega, Int.pow_add]
      rw [← hpp] at v3
      omega
  have t4 : Fl (2 * h) (-r + a * c + a * d + b * c + b * d) := by
    refine fl_of (q := 0) (m := -r + a * c + a * d + b * c + b * d) (by simp) ?_
    rw [id4, Nat.add_zero]
    omega
  rw [rn_exact hp t1, rn_exact hp t2, rn_exact hp t3, rn_exact hp t4, id4]
  omega
theorem dekker {h : Nat} {x y : Int} (hh : 2 ≤ h) (hx : x ≠ 0) (hy : y ≠ 0) (fx : Fl (2 * h) x) (fy : Fl (2 * h) y) :
    RN (2 * h) (x * y) + dek (2 * h) x (hiV h x) (loV h x) y (hiV h y) (loV h y) = x * y := by
  have hp : 1 ≤ 2 * h := by omega
  obtain ⟨k, e, hk, k1, k2⟩ := moved hp hx fx
  obtain ⟨l, f, hl, l1, l2⟩ := moved hp hy fy
  have core := dekker_core hh (cut_any hh k1 k2) (cut_any hh l1 l2)
  have s1 := dek_scale hp x (hiV h x) (loV h x) y (hiV h y) (loV h y) (2 * h) (2 * h)
  have s2 := dek_scale hp k (hiV h k) (loV h k) l (hiV h l) (loV h l) e f
  rw [← hi_scale (by omega), ← lo_scale (by omega), ← hi_scale (by omega), ← lo_scale (by omega), hk, hl] at s1
  rw [← hi_scale (by omega), ← lo_scale (by omega), ← hi_scale (by omega), ← lo_scale (by omega)] at s2
  rw [s2] at s1
  have hP := p10 (2 * h + 2 * h)
  have r1 : RN (2 * h) (x * y) * 10 ^ (2 * h + 2 * h) = RN (2 * h) (k * l) * 10 ^ (e + f) := by
    rw [← rn_scale hp, ← rn_scale hp]
    congr 1
    rw [Int.pow_add, Int.pow_add]
    have : x * 10 ^ (2 * h) * (y * 10 ^ (2 * h)) = k * 10 ^ e * (l * 10 ^ f) := by rw [hk, hl]
    grind
  have tot : (RN (2 * h) (x * y) + dek (2 * h) x (hiV h x) (loV h x) y (hiV h y) (loV h y)) * 10 ^ (2 * h + 2 * h) = x * y * 10 ^ (2 * h + 2 * h) := by
    rw [Int.add_mul, r1, ← s1, ← Int.add_mul, core, Int.pow_add, Int.pow_add]
    have : x * 10 ^ (2 * h) * (y * 10 ^ (2 * h)) = k * 10 ^ e * (l * 10 ^ f) := by rw [hk, hl]
    grind
  exact Int.eq_of_mul_eq_mul_right (by omega) tot
theorem rn_ne {p : Nat} {c : Int} (hp : 1 ≤ p) (hc : c ≠ 0) : RN p c ≠ 0 := by
  have herr := rn_err p c
  intro e
  rw [e] at herr
  have h1 := ex_lt (c := c) hp
  by_cases h0 : ex p c = 0
  · rw [h0, Int.pow_zero] at herr; omega
  · have h1 := ex_ge (c := c) hp (show ex p c - 1 < ex p c by omega)
    have h2 : (10 : Int) ^ ex p c ≤ 10 ^ (p + (ex p c - 1)) := p10_le (by omega)
    have := p10 (ex p c)
    omega

/-! ## the figures of a quotient, by its texts -/
def dcp (n : Nat) : List Nat := (Nat.toDigits 10 n).map Char.toNat
theorem dstr_cps (n : Nat) : (dstr (n : Int)).cps.toList = dcp n := by
  unfold dstr dcp
  rw [Str.ofString_eq_toList, ← Nat.toList_repr]
  rfl
theorem dstr_len (n : Nat) : (dstr (n : Int)).length = (Nat.toDigits 10 n).length := by
  have h := congrArg List.length (dstr_cps n)
  simpa [dcp, Str.length] using h
def vl : List Nat → Nat
  | [] => 0
  | c :: t => (c - 48) * 10 ^ t.length + vl t
theorem vl_snoc (c : Nat) : ∀ l : List Nat, vl (l ++ [c]) = vl l * 10 + (c - 48)
  | [] => by simp [vl]
  | x :: t => by
    simp only [List.cons_append, vl, List.length_append, List.length_singleton, vl_snoc c t, Nat.pow_succ]
    rw [Nat.add_mul, Nat.mul_assoc]; omega
def Dg (l : List Nat) : Prop := ∀ c ∈ l, 48 ≤ c ∧ c ≤ 57
theorem dcp_all : ∀ (n : Nat), vl (dcp n) = n ∧ Dg (dcp n) := by
  intro n
  induction n using Nat.strongRecOn with
  | _ n ih =>
    by_cases h : n < 10
    · have e : dcp n = [48 + n] := by unfold dcp; rw [Nat.toDigits_of_lt_base h]; simp [Nat.toNat_digitChar_of_lt_ten h]
      rw [e]
      refine ⟨by simp [vl], fun c hc => ?_⟩
      rw [List.mem_singleton.mp hc]; omega
    · have e : dcp n = dcp (n / 10) ++ [48 + n % 10] := by
        unfold dcp
        rw [Nat.toDigits_of_base_le (by decide) (by omega : 10 ≤ n), List.map_append]
        simp [Nat.toNat_digitChar_of_lt_ten (show n % 10 < 10 by omega)]
      obtain ⟨i1, i2⟩ := ih (n / 10) (by omega)
      rw [e, vl_snoc, i1]
      refine ⟨by omega, fun c hc => ?_⟩
      rcases List.mem_append.mp hc with hc | hc
      · exact i2 c hc
      · rw [List.mem_singleton.mp hc]; omega
theorem vl_lt : ∀ {l : List Nat}, Dg l → vl l < 10 ^ l.length
  | [], _ => by simp [vl]
  | c :: t, h => by
    have h1 := vl_lt (l := t) fun x hx => h x (by simp [hx])
    have h2 := h c (by simp)
    simp only [vl, List.length_cons, Nat.pow_succ]
    have : (c - 48) * 10 ^ t.length ≤ 9 * 10 ^ t.length := Nat.mul_le_mul_right _ (by omega)
    omega
theorem lex_le : ∀ {l m : List Nat}, Dg l → Dg m → ¬ m < l → vl l * 10 ^ m.length ≤ vl m * 10 ^ l.length
  | [], m, _, _, _ => by simp [vl]
  | c :: t, [], _, _, h => absurd (List.nil_lt_cons c t) h
  | c :: t, d :: u, hl, hm, h => by
    have hc := hl c (by simp)
    have hd := hm d (by simp)
    have ht : Dg t := fun x hx => hl x (by simp [hx])
    have hu : Dg u := fun x hx => hm x (by simp [hx])
    have b1 := vl_lt ht
    have b2 := vl_lt hu
    rw [List.cons_lt_cons_iff] at h
    simp only [vl, List.length_cons, Nat.pow_succ]
    have hp1 : 0 < 10 ^ t.length := Nat.pow_pos (by decide)
    have hp2 : 0 < 10 ^ u.length := Nat.pow_pos (by decide)
    by_cases e : c = d
    · subst e
      have ih := lex_le ht hu fun h' => h (.inr ⟨rfl, h'⟩)
      generalize 10 ^ t.length = x at *
      generalize 10 ^ u.length = y at *
      generalize c - 48 = k
      have : ((k * x + vl t) * (y * 10) : Nat) = k * x * y * 10 + vl t * y * 10 := by grind
      rw [this]
      have : ((k * y + vl u) * (x * 10) : Nat) = k * x * y * 10 + vl u * x * 10 := by grind
      rw [this]
      omega
    · have hlt : c < d := by
        rcases Nat.lt_or_ge c d with h' | h'
        · exact h'
        · exact absurd (.inl (by omega)) h
      generalize 10 ^ t.length = x at *
      generalize 10 ^ u.length = y at *
      obtain ⟨k, hk⟩ : ∃ k, d - 48 = (c - 48) + 1 + k := ⟨d - c - 1, by omega⟩
      rw [hk]
      generalize c - 48 = j
      have h1 : (j * x + vl t) * (y * 10) ≤ ((j + 1) * x) * (y * 10) := Nat.mul_le_mul_right _ (by rw [Nat.add_mul]; omega)
      have h2 : ((j + 1) * x) * (y * 10) ≤ ((j + 1 + k) * y + vl u) * (x * 10) := by
        have : ((j + 1 + k) * y + vl u) * (x * 10) = ((j + 1) * x) * (y * 10) + (k * y + vl u) * (x * 10) := by grind
        omega
      omega

/-- the place of the first figure -/
theorem place_of {c : Int} {scale low : Nat} (hc : c ≠ 0) (hs : 1 ≤ scale) :
    ∃ K : Nat, (K : Int) = (((Nat.toDigits 10 (c.natAbs * scale)).length : Int) - ((Nat.toDigits 10 (scale * 10 ^ low)).length : Int) + (if (!decide (dcp (c.natAbs * scale) < dcp (scale * 10 ^ low))) = true then 1 else 0)) + low ∧
      (c.natAbs : Int) ≤ 10 ^ K ∧ (10 : Int) ^ K ≤ 10 * (c.natAbs : Int) := by
  have hc1 : 1 ≤ c.natAbs := by omega
  have hN : 1 ≤ c.natAbs * scale := Nat.mul_pos hc1 hs
  have hD : 1 ≤ scale * 10 ^ low := Nat.mul_pos hs (Nat.pow_pos (by decide))
  have len : ∀ n : Nat, 1 ≤ n → n < 10 ^ (Nat.toDigits 10 n).length ∧ 10 ^ (Nat.toDigits 10 n).length ≤ 10 * n := fun n hn => by
    have h0 : 0 < (Nat.toDigits 10 n).length := Nat.length_toDigits_pos
    refine ⟨(Nat.length_toDigits_le_iff (by decide) h0).mp (Nat.le_refl _), ?_⟩
    obtain ⟨k, hk⟩ : ∃ k, (Nat.toDigits 10 n).length = k + 1 := ⟨_, (Nat.sub_add_cancel h0).symm⟩
    rw [hk, Nat.pow_succ]
    rcases Nat.eq_zero_or_pos k with h | h
    · subst h; omega
    · have : ¬ n < 10 ^ k := fun h' => by
        have := (Nat.length_toDigits_le_iff (b := 10) (by decide) h).mpr h'
        omega
      omega
  obtain ⟨n1, n2⟩ := len _ hN
  obtain ⟨d1, d2⟩ := len _ hD
  obtain ⟨vN, gN⟩ := dcp_all (c.natAbs * scale)
  obtain ⟨vD, gD⟩ := dcp_all (scale * 10 ^ low)
  have lN : (dcp (c.natAbs * scale)).length = (Nat.toDigits 10 (c.natAbs * scale)).length := by simp [dcp]
  have lD : (dcp (scale * 10 ^ low)).length = (Nat.toDigits 10 (scale * 10 ^ low)).length := by simp [dcp]
  generalize (Nat.toDigits 10 (c.natAbs * scale)).length = kn at *
  generalize (Nat.toDigits 10 (scale * 10 ^ low)).length = kd at *
  generalize c.natAbs = a at *
  have cancel : ∀ {x y : Nat}, scale * x ≤ scale * y → x ≤ y := fun h => Nat.le_of_mul_le_mul_left h hs
  have pw : ∀ {x y : Nat}, a * 10 ^ x ≤ 10 ^ y → x ≤ y := fun {x y} h => by
    have h1 : 1 * 10 ^ x ≤ a * 10 ^ x := Nat.mul_le_mul_right _ hc1
    exact (Nat.pow_le_pow_iff_right (by decide : 1 < 10)).mp (by omega)
  have cast : ∀ {x : Nat}, ((10 : Int) ^ x) = ((10 ^ x : Nat) : Int) := fun {x} => by simp
  by_cases hB : dcp (a * scale) < dcp (scale * 10 ^ low)
  · have hlex := lex_le (l := dcp (a * scale)) (m := dcp (scale * 10 ^ low)) gN gD (fun h => List.lt_irrefl _ (List.lt_trans h hB))
    rw [vN, vD, lN, lD] at hlex
    have h1 : a * 10 ^ kd ≤ 10 ^ (low + kn) := cancel (by rw [Nat.pow_add]; have := hlex; grind)
    have h2 := pw h1
    refine ⟨low + kn - kd, ?_, ?_, ?_⟩
    · simp [hB]; omega
    · rw [cast]
      have : a * 10 ^ kd ≤ 10 ^ (low + kn - kd) * 10 ^ kd := by rw [← Nat.pow_add, Nat.sub_add_cancel h2]; exact h1
      have := Nat.le_of_mul_le_mul_right this (Nat.pow_pos (by decide))
      omega
    · rw [cast]
      have h3 : scale * 10 ^ low * 10 ^ kn ≤ 10 ^ kd * (10 * (a * scale)) := Nat.mul_le_mul (Nat.le_of_lt d1) n2
      have h4 : 10 ^ (low + kn) ≤ 10 * a * 10 ^ kd := cancel (by rw [Nat.pow_add]; grind)
      have : 10 ^ (low + kn - kd) * 10 ^ kd ≤ 10 * a * 10 ^ kd := by rw [← Nat.pow_add, Nat.sub_add_cancel h2]; exact h4
      have := Nat.le_of_mul_le_mul_right this (Nat.pow_pos (by decide))
      omega
  · have hlex := lex_le (l := dcp (scale * 10 ^ low)) (m := dcp (a * scale)) gD gN hB
    rw [vN, vD, lN, lD] at hlex
    have h0 : 10 ^ (low + kn) ≤ a * 10 ^ kd := cancel (by rw [Nat.pow_add]; grind)
    have h3 : (a * scale) * 10 ^ kd ≤ 10 ^ kn * (10 * (scale * 10 ^ low)) := Nat.mul_le_mul (Nat.le_of_lt n1) d2
    have h1 : a * 10 ^ kd ≤ 10 ^ (low + kn + 1) := cancel (by rw [Nat.pow_succ, Nat.pow_add]; grind)
    have h2 := pw h1
    refine ⟨low + kn + 1 - kd, ?_, ?_, ?_⟩
    · simp [hB]; omega
    · rw [cast]
      have : a * 10 ^ kd ≤ 10 ^ (low + kn + 1 - kd) * 10 ^ kd := by rw [← Nat.pow_add, Nat.sub_add_cancel h2]; exact h1
      have := Nat.le_of_mul_le_mul_right this (Nat.pow_pos (by decide))
      omega
    · rw [cast]
      have : 10 ^ (low + kn + 1 - kd) * 10 ^ kd ≤ 10 * a * 10 ^ kd := by
        rw [← Nat.pow_add, Nat.sub_add_cancel h2, Nat.pow_succ]
        have := Nat.mul_le_mul_right 10 h0
        grind
      have := Nat.le_of_mul_le_mul_right this (Nat.pow_pos (by decide))
      omega

/-- what the rounding tells -/
def S0 (p K : Nat) (c : Int) : Int := if p ≤ K then rq c (10 ^ (K - p)) else c * 10 ^ (p - K)
theorem s0_near {p K scale low : Nat} {c e : Int} (hs : 1 ≤ scale) (he : e = (K : Int) - low - p) : Near (scN (c * scale) e) (scD (scale * 10 ^ low) e) (S0 p K c) := by
  have hsi : 0 < (scale : Int) := by omega
  have hd : 0 < (scale : Int) * 10 ^ low := Int.mul_pos hsi (p10 low)
  have key : ∀ (x y : Nat), x + (max e 0).toNat + low = y + (max (-e) 0).toNat → Near (c * 10 ^ x) (10 ^ y) (S0 p K c) → Near (scN (c * scale) e) (scD (scale * 10 ^ low) e) (S0 p K c) := by
    intro x y hxy hn
    refine near_scale (p10 y) (scD_pos hd) ?_ hn
    rw [scD_eqR, scN_eqR]
    have e1 : (10 : Int) ^ x * 10 ^ (max e 0).toNat * 10 ^ low = 10 ^ y * 10 ^ (max (-e) 0).toNat := by rw [← Int.pow_add, ← Int.pow_add, ← Int.pow_add, hxy]
    generalize (10 : Int) ^ x = a at *
    generalize (10 : Int) ^ (max e 0).toNat = b at *
    generalize (10 : Int) ^ low = d at *
    generalize (10 : Int) ^ y = f at *
    generalize (10 : Int) ^ (max (-e) 0).toNat = g at *
    have : c * scale * (a * b * d) = c * scale * (f * g) := by rw [e1]
    grind
  by_cases h : p ≤ K
  · refine key 0 (K - p) (by omega) ?_
    rw [show S0 p K c = rq c (10 ^ (K - p)) by unfold S0; rw [if_pos h], Int.pow_zero, Int.mul_one]
    exact rq_near _ (p10 _)
  · refine key (p - K) 0 (by omega) ?_
    rw [show S0 p K c = c * 10 ^ (p - K) by unfold S0; rw [if_neg h], Int.pow_zero]
    unfold Near
    simp
theorem s0_bounds {p K : Nat} {c : Int} (hp : 1 ≤ p) (h1 : (c.natAbs : Int) ≤ 10 ^ K) (h2 : (10 : Int) ^ K ≤ 10 * (c.natAbs : Int)) : (10 : Int) ^ (p - 1) ≤ ((S0 p K c).natAbs : Int) ∧ ((S0 p K c).natAbs : Int) ≤ 10 ^ p := by
  have e10 : (10 : Int) ^ p = 10 * 10 ^ (p - 1) := by rw [← p10_succ]; congr 1; omega
  unfold S0
  by_cases h : p ≤ K
  · simp only [h, if_true]
    have hn := (rq_near c (p10 (K - p))).1
    have hD := p10 (K - p)
    have e1 : (10 : Int) ^ K = 10 ^ p * 10 ^ (K - p) := by rw [← Int.pow_add]; congr 1; omega
    rw [e1] at h1 h2
    generalize rq c (10 ^ (K - p)) = S at *
    have hS := natAbs_mul_pos (m := S) hD
    have hM := p10 (p - 1)
    rw [e10] at h1 h2 ⊢
    generalize (10 : Int) ^ (K - p) = D at *
    generalize (10 : Int) ^ (p - 1) = M at *
    have h3 : M * D ≤ (c.natAbs : Int) := by
      have : 10 * M * D = 10 * (M * D) := by rw [Int.mul_assoc]
      omega
    constructor
    · rcases Int.lt_or_le (S.natAbs : Int) M with h' | h'
      · exfalso
        have : (S.natAbs : Int) * D ≤ (M - 1) * D := Int.mul_le_mul_of_nonneg_right (by omega) (by omega)
        rw [Int.sub_mul] at this
        omega
      · exact h'
    · rcases Int.lt_or_le (10 * M) (S.natAbs : Int) with h' | h'
      · exfalso
        have : (10 * M + 1) * D ≤ (S.natAbs : Int) * D := Int.mul_le_mul_of_nonneg_right (by omega) (by omega)
        rw [Int.add_mul] at this
        omega
      · exact h'
  · simp only [h, if_false]
    rw [natAbs_mul_pos (p10 _)]
    have e1 : (10 : Int) ^ p = 10 ^ K * 10 ^ (p - K) := by rw [← Int.pow_add]; congr 1; omega
    have hD := p10 (p - K)
    generalize (10 : Int) ^ (p - K) = D at *
    have a1 : (c.natAbs : Int) * D ≤ 10 ^ K * D := Int.mul_le_mul_of_nonneg_right h1 (by omega)
    have a2 : (10 : Int) ^ K * D ≤ 10 * (c.natAbs : Int) * D := Int.mul_le_mul_of_nonneg_right h2 (by omega)
    rw [Int.mul_assoc] at a2
    omega
/-- the number told is the nearest of p figures -/
theorem s0_value {p K : Nat} {c : Int} (hp : 1 ≤ p) (h1 : (c.natAbs : Int) ≤ 10 ^ K) (h2 : (10 : Int) ^ K ≤ 10 * (c.natAbs : Int)) :
    ∃ (s : Int) (q : Int), (s = if ((S0 p K c).natAbs : Int) = 10 ^ p then 10 ^ (p - 1) else ((S0 p K c).natAbs : Int)) ∧ (q = if ((S0 p K c).natAbs : Int) = 10 ^ p then (K : Int) - p + 1 else (K : Int) - p) ∧
      (10 : Int) ^ (p - 1) ≤ s ∧ s < 10 ^ p ∧ (0 ≤ q → s * 10 ^ q.toNat = ((RN p c).natAbs : Int)) ∧ (q < 0 → s % 10 ^ (-q).toNat = 0 ∧ s / 10 ^ (-q).toNat = ((RN p c).natAbs : Int)) := by
  obtain ⟨b1, b2⟩ := s0_bounds hp h1 h2
  have e10 : (10 : Int) ^ p = 10 * 10 ^ (p - 1) := by rw [← p10_succ]; congr 1; omega
  have hM := p10 (p - 1)
  refine ⟨_, _, rfl, rfl, ?_, ?_, ?_⟩
  · split <;> omega
  · split <;> omega
  -- the size of what is told
  have hval : (p ≤ K → ((RN p c).natAbs : Int) = ((S0 p K c).natAbs : Int) * 10 ^ (K - p)) ∧ (¬ p ≤ K → RN p c = c ∧ ((S0 p K c).natAbs : Int) = (c.natAbs : Int) * 10 ^ (p - K)) := by
    refine ⟨fun h => ?_, fun h => ⟨?_, ?_⟩⟩
    · by_cases hlt : (c.natAbs : Int) < 10 ^ K
      · have hex : ex p c = K - p := by
          apply Nat.le_antisymm
          · rw [ex_le hp, show p + (K - p) = K by omega]; exact hlt
          · rcases Nat.lt_or_ge (ex p c) (K - p) with h' | h'
            · exfalso
              have h3 := ex_lt (c := c) hp
              have h4 := p10_lt (show p + ex p c < K by omega)
              omega
            · exact h'
        unfold RN S0
        rw [hex, if_pos h, natAbs_mul_pos (p10 _)]
      · have heq : (c.natAbs : Int) = 10 ^ K := by omega
        have hfl : Fl p c := by
          rcases Int.le_total 0 c with hc | hc
          · exact ⟨K, 1, by omega, by have := p10 p; omega⟩
          · exact ⟨K, -1, by omega, by have := p10 p; omega⟩
        rw [rn_exact hp hfl, heq]
        have e1 : (10 : Int) ^ K = 10 ^ p * 10 ^ (K - p) := by rw [← Int.pow_add]; congr 1; omega
        have hS : S0 p K c = 10 ^ p ∨ S0 p K c = -(10 ^ p) := by
          unfold S0
          rw [if_pos h]
          rcases Int.le_total 0 c with hc | hc
          · left
            refine near_unique (p10 (K - p)) (rq_near _ (p10 _)) ?_
            have : c = 10 ^ p * 10 ^ (K - p) := by omega
            unfold Near; rw [← this, Int.sub_self]; have := p10 (K - p); simp; omega
          · right
            refine near_unique (p10 (K - p)) (rq_near _ (p10 _)) ?_
            have : c = -(10 ^ p) * 10 ^ (K - p) := by rw [Int.neg_mul]; omega
            unfold Near; rw [← this, Int.sub_self]; have := p10 (K - p); simp; omega
        have : ((S0 p K c).natAbs : Int) = 10 ^ p := by have := p10 p; rcases hS with hS | hS <;> rw [hS] <;> omega
        rw [this, e1]
    · apply rn_exact hp
      refine ⟨0, c, by simp, Int.le_trans h1 (p10_le (by omega))⟩
    · unfold S0; rw [if_neg h, natAbs_mul_pos (p10 _)]
  by_cases hK : p ≤ K
  · have hv := hval.1 hK
    refine ⟨fun hq => ?_, fun hq => ?_⟩
    · rw [hv]
      by_cases he : ((S0 p K c).natAbs : Int) = 10 ^ p
      · rw [if_pos he, if_pos he, he, show ((K : Int) - p + 1).toNat = K - p + 1 by omega, p10_succ, e10]; grind
      · rw [if_neg he, if_neg he, show ((K : Int) - p).toNat = K - p by omega]
    · split at hq <;> omega
  · obtain ⟨hr, hv⟩ := hval.2 hK
    rw [hr]
    have hpK : (10 : Int) ^ p = 10 ^ K * 10 ^ (p - K) := by rw [← Int.pow_add]; congr 1; omega
    refine ⟨fun hq => ?_, fun hq => ?_⟩
    · by_cases he : ((S0 p K c).natAbs : Int) = 10 ^ p
      · rw [if_pos he] at hq
        rw [if_pos he, if_pos he]
        have : p = K + 1 := by omega
        subst this
        rw [show ((K : Int) - ((K + 1 : Nat) : Int) + 1).toNat = 0 by omega, Int.pow_zero, Int.mul_one]
        rw [he] at hv
        have e3 : K + 1 - K = 1 := by omega
        rw [e3] at hv
        rw [show K + 1 - 1 = K by omega]
        rw [p10_succ] at hv
        omega
      · rw [if_neg he] at hq
        omega
    · by_cases he : ((S0 p K c).natAbs : Int) = 10 ^ p
      · rw [if_pos he] at hq
        rw [if_pos he, if_pos he]
        rw [he] at hv
        obtain ⟨d, hd⟩ : ∃ d, p = K + 1 + d := ⟨p - K - 1, by omega⟩
        subst hd
        rw [show (-((K : Int) - ((K + 1 + d : Nat) : Int) + 1)).toNat = d by omega]
        have e3 : (10 : Int) ^ (K + 1 + d - 1) = 10 ^ K * 10 ^ d := by rw [← Int.pow_add]; congr 1; omega
        have e4 : (10 : Int) ^ (K + 1 + d) = 10 ^ K * (10 * 10 ^ d) := by rw [← p10_succ, ← Int.pow_add]; congr 1; omega
        have e5 : (10 : Int) ^ (K + 1 + d - K) = 10 * 10 ^ d := by rw [← p10_succ]; congr 1; omega
        rw [e4, e5] at hv
        have hc : (c.natAbs : Int) = 10 ^ K := (Int.eq_of_mul_eq_mul_right (by have := p10 d; omega) hv).symm
        rw [e3, hc]
        exact ⟨Int.mul_emod_left .., Int.mul_ediv_cancel _ (by have := p10 d; omega)⟩
      · rw [if_neg he, if_neg he, show (-((K : Int) - p)).toNat = p - K by omega, hv]
        exact ⟨Int.mul_emod_left .., Int.mul_ediv_cancel _ (by have := p10 (p - K); omega)⟩
theorem rn_sign {p : Nat} (c : Int) : (if c < 0 then -((RN p c).natAbs : Int) else ((RN p c).natAbs : Int)) = RN p c := by
  have h := near_sign (p10 (ex p c)) (rn_near p c)
  have hD := p10 (ex p c)
  unfold RN
  generalize rq c (10 ^ ex p c) = S at *
  generalize (10 : Int) ^ ex p c = D at *
  rcases Int.lt_or_le c 0 with hc | hc
  · rw [if_pos hc]
    have := h.1 hc
    have : S * D ≤ 0 * D := Int.mul_le_mul_of_nonneg_right this (by omega)
    omega
  · rw [if_neg (by omega)]
    have := h.2.1 hc
    have : 0 * D ≤ S * D := Int.mul_le_mul_of_nonneg_right this (by omega)
    omega
theorem rn_bt {p k : Nat} {c : Int} (hp : 1 ≤ p) (h : Bt k c) : Bt (k + 1) (RN p c) := by
  have herr := rn_err p c
  unfold Bt at *
  rw [Nat.pow_succ]
  by_cases h0 : ex p c = 0
  · rw [h0, Int.pow_zero] at herr; omega
  · have h1 := ex_ge (c := c) hp (show ex p c - 1 < ex p c by omega)
    have h2 : (10 : Int) ^ ex p c ≤ 10 ^ (p + (ex p c - 1)) := p10_le (by omega)
    omega
/-- what _law_nearest asks -/
theorem rn_unit (p : Nat) (c : Int) : 2 * ((c - RN p c).natAbs : Int) < 10 ^ ex p c ∨ (2 * ((c - RN p c).natAbs : Int) = 10 ^ ex p c ∧ RN p c / 10 ^ ex p c % 2 = 0) := by
  have h := rn_near p c
  have e : RN p c / 10 ^ ex p c = rq c (10 ^ ex p c) := Int.mul_ediv_cancel _ (by have := p10 (ex p c); omega)
  rw [e]
  have h1 := h.1
  have h2 := h.2
  unfold RN
  rw [show c - rq c (10 ^ ex p c) * 10 ^ ex p c = -(rq c (10 ^ ex p c) * 10 ^ ex p c - c) by omega, Int.natAbs_neg]
  generalize (rq c (10 ^ ex p c) * 10 ^ ex p c - c).natAbs = z at *
  rcases Int.lt_or_eq_of_le h1 with h' | h'
  · exact .inl h'
  · exact .inr ⟨h', h2 h'⟩


def fbody (p : Program) (i : Nat) : List Stmt := match p.main.body[i]? with
  | some (.FunctionDef _ _ b _ _ _ _ _ _ _) => b
  | _ => []
def fsc (p : Program) (i : Nat) : Scope := match p.main.body[i]? with
  | some (.FunctionDef _ _ _ _ _ _ s _ _ _) => s
  | _ => p.main.scope
def fpar (p : Program) (i : Nat) : Arguments := match p.main.body[i]? with
  | some (.FunctionDef _ a _ _ _ _ _ _ _ _) => a
  | _ => { posonlyargs := [], args := [], vararg := none, kwonlyargs := [], kw_defaults := [], kwarg := none, defaults := [] }

def stB (l : List Stmt) (i : Nat) : List Stmt := match l[i]? with
  | some (.For _ _ b _ _) => b
  | some (.While _ b _ _) => b
  | some (.If _ b _ _) => b
  | _ => []
local macro_rules | `(tactic| walk_at "sd") => `(tactic| first | assumption | omega | decide | rfl | (simp [intL_length, rngL]; done) | (simp [intL_length, rngL]; omega))
local macro_rules | `(tactic| walk_at "mo") => `(tactic| first | with_reducible assumption | exact mulOkL (Bt.lit (by decide)) | exact mulOkR (Bt.lit (by decide)))
local macro_rules | `(tactic| walk_at "lk") => `(tactic| first | rfl)
local macro_rules | `(tactic| walk_at "pl") => `(tactic| first | exact trivial | (refine ⟨fun _ => rfl, ?_⟩; walk_at "pl"))
local macro_rules | `(tactic| walk_at "es") => `(tactic| first
  | exact es_nil
  | (refine' es_cons ?h1 ?h2 (fun _ => rfl); (case h1 => walk_at "ev"); (case h2 => walk_at "es")))
local macro_rules | `(tactic| walk_at "cmp") => `(tactic| first | exact cmp_lt | exact cmp_le | exact cmp_gt | exact cmp_ge | exact cmp_eq | exact cmp_ne | exact cmp_neb | exact cmp_eqb | exact cmp_neti | exact cmp_neii | exact cmp_eql | exact cmp_nel | exact cmp_isnot_same | exact cmp_isnot)
local macro_rules | `(tactic| walk_at "el") => `(tactic| first
  | (refine' el_list ?h1 ?h2; (case h1 => walk_at "es"); (case h2 => exact Nat.le_of_ble_eq_true rfl))
  | (refine' el_add ?h1 ?h2 ?h3; (case h1 => walk_at "ev"); (case h2 => walk_at "ev"); (case h3 => walk_at "sd"))
  | (refine' el_from ?h1 ?h2 ?h3 ?h4; (case h1 => walk_at "ev"); (case h2 => walk_at "ev"); (case h3 => walk_at "sd"); (case h4 => walk_at "sd"))
  | (refine' el_to ?h1 ?h2 ?h3 ?h4; (case h1 => walk_at "ev"); (case h2 => walk_at "ev"); (case h3 => walk_at "sd"); (case h4 => walk_at "sd"))
  | (refine' el_run ?h1 ?h2 ?h3 ?h4 ?h5 ?h6; (case h1 => walk_at "ev"); (case h2 => walk_at "ev"); (case h3 => walk_at "ev"); (case h4 => walk_at "sd"); (case h5 => walk_at "sd"); (case h6 => walk_at "sd"))
  | (refine' el_init ?h1 ?h2 ?h3; (case h1 => walk_at "ev"); (case h2 => walk_at "ev"); (case h3 => walk_at "sd"))
  | (refine' el_rev ?h1 ?h2 ?h3; (case h1 => walk_at "ev"); (case h2 => walk_at "ev"); (case h3 => walk_at "sd"))
  | (refine' el_mul1 ?h1 ?h2 ?h3 ?h4; (case h1 => walk_at "ev"); (case h2 => walk_at "ev"); (case h3 => walk_at "sd"); (case h4 => walk_at "sd")))
local macro_rules | `(tactic| walk_at "ev") => `(tactic| first
  | exact ev_int
  | exact ev_bool
  | exact ev_str
  | (refine' ev_nm ?h1; (case h1 => rfl))
  | (refine' ev_ml ?h1; (case h1 => rfl))
  | (refine' ev_neg ?h1; (case h1 => walk_at "ev"))
  | (refine' ev_add ?h1 ?h2; (case h1 => walk_at "ev"); (case h2 => walk_at "ev"))
  | (refine' ev_sub ?h1 ?h2; (case h1 => walk_at "ev"); (case h2 => walk_at "ev"))
  | (refine' ev_mul ?h1 ?h2 ?h3; (case h1 => walk_at "ev"); (case h2 => walk_at "ev"); (case h3 => walk_at "mo"))
  | (refine' ev_fdiv ?h1 ?h2 ?h3; (case h1 => walk_at "ev"); (case h2 => walk_at "ev"); (case h3 => walk_at "sd"))
  | (refine' ev_fmod ?h1 ?h2 ?h3; (case h1 => walk_at "ev"); (case h2 => walk_at "ev"); (case h3 => walk_at "sd"))
  | (refine' ev_pow10 ?h1 ?h2 ?h3 ?h4; (case h1 => walk_at "ev"); (case h2 => walk_at "ev"); (case h3 => walk_at "sd"); (case h4 => walk_at "sd"))
  | (refine' ev_shr1 ?h1 ?h2; (case h1 => walk_at "ev"); (case h2 => walk_at "ev"))
  | (refine' ev_and ?h1 ?h2; (case h1 => walk_at "ev"); (case h2 => walk_at "ev"))
  | (refine' ev_abs ?h1 ?h2 ?h3; (case h1 => walk_at "ev"); (case h2 => rfl); (case h3 => walk_at "pl"))
  | (refine' ev_max ?h1 ?h2 ?h3 ?h4; (case h1 => walk_at "ev"); (case h2 => walk_at "ev"); (case h3 => rfl); (case h4 => walk_at "pl"))
  | (refine' ev_min ?h1 ?h2 ?h3 ?h4; (case h1 => walk_at "ev"); (case h2 => walk_at "ev"); (case h3 => rfl); (case h4 => walk_at "pl"))
  | (refine' ev_divmod ?h1 ?h2 ?h3 ?h4 ?h5; (case h1 => walk_at "ev"); (case h2 => walk_at "ev"); (case h3 => walk_at "sd"); (case h4 => rfl); (case h5 => walk_at "pl"))
  | (refine' ev_cmp ?h1 ?h2 ?h3; (case h1 => walk_at "ev"); (case h2 => walk_at "ev"); (case h3 => walk_at "cmp"))
  | (refine' ev_andb ?h1 (fun _ => ?h2); (case h1 => walk_at "ev"); (case h2 => walk_at "ev"))
  | (refine' ev_orb ?h1 (fun _ => ?h2); (case h1 => walk_at "ev"); (case h2 => walk_at "ev"))
  | (refine' ev_not ?h1 ?h2; (case h1 => walk_at "ev"); (case h2 => exact tr_bool))
  | (refine' ev_type ?h1 ?h2 ?h3 ?h4; (case h1 => walk_at "ev"); (case h2 => first | exact bf_type_bool | exact bf_type_int | exact bf_type_tup); (case h3 => rfl); (case h4 => walk_at "pl"))
  | exact ev_nbool rfl
  | exact ev_nint rfl
  | exact ev_ntuple rfl
  | (refine' ev_len ?h1 ?h2 ?h3 ?h4; (case h1 => walk_at "ev"); (case h2 => walk_at "sd"); (case h3 => rfl); (case h4 => walk_at "pl"))
  | (refine' ev_list_of ?h1 ?h2 ?h3 ?h4; (case h1 => walk_at "ev"); (case h2 => walk_at "sd"); (case h3 => rfl); (case h4 => walk_at "pl"))
  | (refine' ev_item ?h1 ?h2 ?h3 ?h4 ?h5; (case h1 => walk_at "ev"); (case h2 => walk_at "ev"); (case h3 => walk_at "sd"); (case h4 => walk_at "sd"); (case h5 => first | rfl | assumption))
  | (refine' ev_titem ?h1 ?h2 ?h3 ?h4 ?h5; (case h1 => walk_at "ev"); (case h2 => walk_at "ev"); (case h3 => walk_at "sd"); (case h4 => walk_at "sd"); (case h5 => first | rfl | assumption))
  | (refine' ev_isi ?h1 ?h2 ?h3 ?h4 ?h5; (case h1 => walk_at "ev"); (case h2 => walk_at "ev"); (case h3 => first | exact isi_bool_bool | exact isi_int_int | exact isi_int_bool); (case h4 => rfl); (case h5 => walk_at "pl"))
  | (refine' EvL.toE ?h1; (case h1 => walk_at "el"))
  | (refine' ev_tuple ?h1 ?h2; (case h1 => walk_at "es"); (case h2 => exact Nat.le_of_ble_eq_true rfl)))
local macro_rules | `(tactic| walk_at "et") => `(tactic| first
  | (refine' et_cmp ?h1 ?h2 ?h3; (case h1 => walk_at "ev"); (case h2 => walk_at "ev"); (case h3 => walk_at "cmp"))
  | (refine' et_and ?h1 (fun _ => ?h2); (case h1 => walk_at "et"); (case h2 => walk_at "et"))
  | (refine' et_and1 ?h1; (case h1 => walk_at "et"))
  | (refine' et_or ?h1 (fun _ => ?h2); (case h1 => walk_at "et"); (case h2 => walk_at "et"))
  | (refine' et_or1 ?h1; (case h1 => walk_at "et"))
  | (refine' et_not ?h1; (case h1 => walk_at "et"))
  | (refine' et_of ?h1 ?h2; (case h1 => walk_at "ev"); (case h2 => first | assumption | exact tr_bool | exact tr_int)))


abbrev rteSc : Scope := fsc PySem.Challenge.pw_dm0108_12 1
abbrev rteB : List Stmt := fbody PySem.Challenge.pw_dm0108_12 1
def rteNames : List PySem.Str := ["n", "d", "exponent", "no_neg_zero"]

set_option maxHeartbeats 1000000 in
theorem rte_body {X : Cx} {r : Nat} (n d e : Int) (f : PV) (tf : Bool) (hd : 0 < d) (he : -1000 ≤ e) (he2 : e ≤ 1000) (hn : Bt 100000000 n) (hdb : Bt 100000000 d) (htf : ∀ C, TruthIs C f tf) (hk : rteSc.kind = .function) :
    ExB ⟨X, "_round_to_exponent", rteSc, r, hk⟩ [("n", .v (.int n)), ("d", .v (.int d)), ("exponent", .v (.int e)), ("no_neg_zero", .v f)] rteB
      (fun o _ => o = .ret (.tup [.bool (if tf = true then decide (rq (scN n e) (scD d e) < 0) else decide (scN n e < 0)), .int ((rq (scN n e) (scD d e)).natAbs : Int)])) := by
  have hb10 : Builtin.Int.intBits 10 = 4 := by decide
  have hft := htf ⟨X, "_round_to_exponent", rteSc, r, hk⟩
  have tail : ∀ (N D : Int), scN n e = N → scD d e = D → 0 < D →
      ExB ⟨X, "_round_to_exponent", rteSc, r, hk⟩ [("n", .v (.int N)), ("d", .v (.int D)), ("no_neg_zero", .v f)] (rteB.drop 1) (fun o _ => o = .ret (.tup [.bool (if tf = true then decide (rq (scN n e) (scD d e) < 0) else decide (scN n e < 0)), .int ((rq (scN n e) (scD d e)).natAbs : Int)])) := by
    intro N D hN hDe hD
    have hD0 : D ≠ 0 := by omega
    have key : ∀ q : Int, q = rq N D →
        ExB ⟨X, "_round_to_exponent", rteSc, r, hk⟩ [("q", .v (.int q)), ("n", .v (.int N)), ("no_neg_zero", .v f)] (rteB.drop 3) (fun o _ => o = .ret (.tup [.bool (if tf = true then decide (rq (scN n e) (scD d e) < 0) else decide (scN n e < 0)), .int ((rq (scN n e) (scD d e)).natAbs : Int)])) := by
      intro q hq
      refine bl_cons (st_assign (p := .bool (if tf = true then decide (q < 0) else decide (N < 0))) (ev_ifb (et_of (ev_nm rfl) hft) (fun _ => by walk_at "ev") (fun _ => by walk_at "ev")) (.inl rfl) (loc_of (by rfl)) ?_)
      refine bl_cons (st_ret (by walk_at "ev") ?_)
      show Out.ret _ = _
      rw [hN, hDe, hq]
    refine bl_cons (st_unpack ["q", "r"] (ps := [.int ((N + D.fdiv 2).fdiv D), .int ((N + D.fdiv 2).fmod D)]) (by walk_at "ev") (.inl rfl) rfl (locs_of (by rfl)) ?_ (fun _ _ _ => ⟨storesTo_name, storesTo_name, trivial⟩) (fun _ => rfl) (fun _ => rfl))
    refine bl_cons (st_if (c := decide ((N + D.fdiv 2).fmod D = 0) && decide (Builtin.bitAnd D 1 = 0)) (by walk_at "et") (fun h => ?_) (fun h => ?_))
    · refine bl_cons (st_andi (a := (N + D.fdiv 2).fdiv D) (by rfl) (by walk_at "ev") (bl_nil ?_))
      refine StX.wk (key _ ?_) ⟨rfl, rfl, rfl, trivial⟩
      simp only [Bool.and_eq_true, decide_eq_true_eq] at h
      unfold rq; rw [if_pos h]
    · refine bl_nil (StX.wk (key ((N + D.fdiv 2).fdiv D) ?_) ⟨rfl, rfl, rfl, trivial⟩)
      have h' : ¬ ((N + D.fdiv 2).fmod D = 0 ∧ Builtin.bitAnd D 1 = 0) := by simpa using h
      unfold rq; rw [if_neg h']
  refine bl_cons (st_if (c := decide (0 ≤ e)) (by walk_at "et") (fun h => ?_) (fun h => ?_))
  · have h : 0 ≤ e := by simpa using h
    have hD : 0 < d * 10 ^ e.toNat := Int.mul_pos hd (Int.pow_pos (by decide))
    have hm : IntMulOk d (10 ^ e.toNat) := mulOk hdb (Bt.pow10 1000 (by omega)) (by decide)
    refine bl_cons (st_muli (a := d) (by rfl) (ev_pow ev_int (by walk_at "ev") h (by rw [hb10]; omega)) hm ?_)
    refine bl_nil (StX.wk (tail n (d * 10 ^ e.toNat) (by simp [scN, h]) (by simp [scD, h]) hD) ⟨rfl, rfl, rfl, trivial⟩)
  · have h : ¬ 0 ≤ e := by simpa using h
    have hm : IntMulOk n (10 ^ (-e).toNat) := mulOk hn (Bt.pow10 1000 (by omega)) (by decide)
    refine bl_cons (st_muli (a := n) (by rfl) (ev_pow ev_int (by walk_at "ev") (by omega) (by rw [hb10]; omega)) hm ?_)
    refine bl_nil (StX.wk (tail (n * 10 ^ (-e).toNat) d (by simp [scN, h]) (by simp [scD, h]) hd) ⟨rfl, rfl, rfl, trivial⟩)

theorem rte_fn {X : Cx} {r : Nat} {fa T : Addr} {o : Obj} {nn : Nat} (hF : IsFn X "_round_to_exponent" fa "_round_to_exponent" (fpar PySem.Challenge.pw_dm0108_12 1) rteB rteSc (.ref T)) (hT : X.hb.get? T = some o) (hTd : o.data = .seq #[.bool false] nn)
    (n d e S : Int) (f : PV) (tf : Bool) (hd : 0 < d) (he : -1000 ≤ e) (he2 : e ≤ 1000) (hn : Bt 100000000 n) (hdb : Bt 100000000 d) (htf : ∀ C, TruthIs C f tf) (hS : Near (scN n e) (scD d e) S) :
    BFn X (r + 1) (.ref fa) [.int n, .int d, .int e, f] (.tup [.bool (if tf = true then decide (S < 0) else decide (n < 0)), .int (S.natAbs : Int)]) := by
  have hk : rteSc.kind = .function := rfl
  have hq : rq (scN n e) (scD d e) = S := near_unique (scD_pos hd) (rq_near _ (scD_pos hd)) hS
  have hsg : decide (scN n e < 0) = decide (n < 0) := by simp [scN_neg]
  have hb := rte_body (X := X) (r := r) n d e f tf hd he he2 hn hdb htf hk
  rw [hq, hsg] at hb
  refine fn_intro (names := rteNames) (dps := []) (dv := []) hF hk rfl rfl (by decide +kernel) (by decide +kernel) (by decide +kernel) (fun g => Reps.nil) (fun s kwdV ann pm c' doc vs hH hl => ?_) hb
  match vs, hl with
  | [v1, v2, v3, v4], _ => exact BindsTo.of_defaults (T := T) rfl (hH _ _ hT) hTd rfl rfl
theorem rte_fn3 {X : Cx} {r : Nat} {fa T : Addr} {o : Obj} {nn : Nat} (hF : IsFn X "_round_to_exponent" fa "_round_to_exponent" (fpar PySem.Challenge.pw_dm0108_12 1) rteB rteSc (.ref T)) (hT : X.hb.get? T = some o) (hTd : o.data = .seq #[.bool false] nn)
    (n d e S : Int) (hd : 0 < d) (he : -1000 ≤ e) (he2 : e ≤ 1000) (hn : Bt 100000000 n) (hdb : Bt 100000000 d) (hS : Near (scN n e) (scD d e) S) :
    BFn X (r + 1) (.ref fa) [.int n, .int d, .int e] (.tup [.bool (decide (n < 0)), .int (S.natAbs : Int)]) := by
  have hk : rteSc.kind = .function := rfl
  have hq : rq (scN n e) (scD d e) = S := near_unique (scD_pos hd) (rq_near _ (scD_pos hd)) hS
  have hsg : decide (scN n e < 0) = decide (n < 0) := by simp [scN_neg]
  have hb := rte_body (X := X) (r := r) n d e (.bool false) false hd he he2 hn hdb (fun _ => tr_bool) hk
  rw [hq, hsg] at hb
  refine fn_intro (names := rteNames) (dps := [.bool false]) (dv := [.bool false]) hF hk rfl rfl (by decide +kernel) (by decide +kernel) (by decide +kernel) (fun g => Reps.cons rep_bool Reps.nil) (fun s kwdV ann pm c' doc vs hH hl => ?_) hb
  match vs, hl with
  | [v1, v2, v3], _ => exact BindsTo.of_defaults (T := T) rfl (hH _ _ hT) hTd rfl rfl



abbrev rfSc : Scope := fsc PySem.Challenge.pw_dm0108_12 2
abbrev rfB : List Stmt := fbody PySem.Challenge.pw_dm0108_12 2
abbrev ftSc : Scope := fsc PySem.Challenge.pw_dm0108_12 4
abbrev ftB : List Stmt := fbody PySem.Challenge.pw_dm0108_12 4
abbrev nrSc : Scope := fsc PySem.Challenge.pw_dm0108_12 5
abbrev nrB : List Stmt := fbody PySem.Challenge.pw_dm0108_12 5

theorem k_bound {K : Nat} {c : Int} (hc : Bt 1000 c) (h : (10 : Int) ^ K ≤ 10 * (c.natAbs : Int)) : K ≤ 340 := by
  unfold Bt at hc
  rcases Nat.lt_or_ge 340 K with h' | h'
  · exfalso
    have h1 : (10 : Int) ^ 340 ≤ 10 ^ K := p10_le (by omega)
    have h2 : ((c.natAbs : Nat) : Int) < ((2 ^ 1000 : Nat) : Int) := by exact_mod_cast hc
    have h3 : (10 : Int) * ((2 ^ 1000 : Nat) : Int) < 10 ^ 340 := by decide +kernel
    omega
  · exact h'
theorem len_fig {p : Nat} {S : Int} (hp : 1 ≤ p) (h : (S.natAbs : Int) ≤ 10 ^ p) : decide (((dstr (S.natAbs : Int)).length : Int) = (p : Int) + 1) = decide ((S.natAbs : Int) = 10 ^ p) := by
  rw [dstr_len]
  have h1 := Nat.length_toDigits_le_iff (b := 10) (n := S.natAbs) (k := p) (by decide) (by omega)
  have h2 := Nat.length_toDigits_le_iff (b := 10) (n := S.natAbs) (k := p + 1) (by decide) (by omega)
  rw [← p10_nat] at h ⊢
  have h3 : 10 ^ (p + 1) = 10 ^ p * 10 := Nat.pow_succ ..
  have h4 : 0 < 10 ^ p := Nat.pow_pos (by decide)
  rw [decide_eq_decide]
  generalize (Nat.toDigits 10 S.natAbs).length = l at *
  omega
theorem dstr_small (a : Nat) (h : a < 2 ^ 1900) : (dstr (a : Int)).length < 2 ^ 62 := by
  rw [dstr_len]
  have : (Nat.toDigits 10 a).length ≤ 1900 := (Nat.length_toDigits_le_iff (b := 10) (by decide) (by decide)).mpr (Nat.lt_of_lt_of_le h (Nat.pow_le_pow_left (by decide) _))
  exact Nat.lt_of_le_of_lt this (by decide)

set_option maxHeartbeats 4000000 in
theorem rf_fn {X : Cx} {r : Nat} {fa fg T : Addr} {o : Obj} {nn : Nat} (hF : IsFn X "_round_to_exponent" fa "_round_to_exponent" (fpar PySem.Challenge.pw_dm0108_12 1) rteB rteSc (.ref T)) (hT : X.hb.get? T = some o) (hTd : o.data = .seq #[.bool false] nn)
    (hG : IsFn X "_round_to_figures" fg "_round_to_figures" (fpar PySem.Challenge.pw_dm0108_12 2) rfB rfSc .none)
    (c n d : Int) (p scale low : Nat) (hp : 1 ≤ p) (hp2 : p ≤ 100) (hs : 1 ≤ scale) (hs2 : scale ≤ 1000) (hlow : low ≤ 50) (hc : c ≠ 0) (hcb : Bt 1000 c) (hn : n = c * scale) (hd : d = scale * 10 ^ low) :
    BFnR X (r + 2) (.ref fg) [.int n, .int d, .int p] (fun q => ∃ K : Nat, (c.natAbs : Int) ≤ 10 ^ K ∧ (10 : Int) ^ K ≤ 10 * (c.natAbs : Int) ∧
      q = .tup [.bool (decide (c < 0)), .int (if ((S0 p K c).natAbs : Int) = 10 ^ p then 10 ^ (p - 1) else ((S0 p K c).natAbs : Int)), .int ((if ((S0 p K c).natAbs : Int) = 10 ^ p then (K : Int) - p + 1 else (K : Int) - p) - low)]) := by
  have hk : rfSc.kind = .function := rfl
  have hsi : 0 < (scale : Int) := by omega
  have hscb : Bt 10 (scale : Int) := by unfold Bt; exact Nat.lt_of_le_of_lt (show (scale : Int).natAbs ≤ 1000 by omega) (by decide)
  have hnb : Bt 1010 n := by rw [hn]; exact hcb.mul hscb
  have hdb : Bt 300 d := by rw [hd]; exact (hscb.mul (Bt.pow10 50 hlow)).mono (by decide)
  have hd0 : 0 < d := by rw [hd]; exact Int.mul_pos hsi (p10 low)
  have hn0 : n ≠ 0 := by rw [hn]; exact Int.mul_ne_zero hc (by omega)
  have hnn : n.natAbs = c.natAbs * scale := by rw [hn, Int.natAbs_mul]; rfl
  have hdn : d = ((scale * 10 ^ low : Nat) : Int) := by rw [hd]; simp
  have hsgn : decide (n < 0) = decide (c < 0) := by
    rw [decide_eq_decide, hn]
    constructor
    · intro h
      rcases Int.lt_or_le c 0 with h' | h'
      · exact h'
      · have := Int.mul_nonneg h' (Int.le_of_lt hsi); omega
    · intro h; exact Int.mul_neg_of_neg_of_pos h hsi
  obtain ⟨K, hK, hK1, hK2⟩ := place_of (low := low) hc hs
  have hKb := k_bound hcb hK2
  obtain ⟨b1, b2⟩ := s0_bounds hp hK1 hK2
  refine fn_introR (names := ["n", "d", "figures"]) (dps := []) (dv := []) hG hk rfl rfl (by decide +kernel) (by decide +kernel) (by decide +kernel) (fun g => Reps.nil) (fun s kwdV ann pm c' doc vs hH hl => ?_) ?_
  · match vs, hl with
    | [v1, v2, v3], _ => exact BindsTo.of_eq rfl
  show ExB _ [("n", .v (.int n)), ("d", .v (.int d)), ("figures", .v (.int (p : Int)))] _ _
  refine bl_cons (st_ifF (by walk_at "et") (by simpa using hn0) (bl_nil ?_))
  have hna : Bt 1900 (n.natAbs : Int) := hnb.abs.mono (by decide)
  have hda : Bt 1900 d := hdb.mono (by decide)
  refine bl_cons (st_unpackD (ps := [.str (dstr (n.natAbs : Int)), .str (dstr d)]) ["str_n", "str_d"] (es_cons (ev_str_of (by walk_at "ev") hna rfl (by walk_at "pl")) (es_cons (ev_str_of (by walk_at "ev") hda rfl (by walk_at "pl")) es_nil)) (.inl rfl) rfl (Nat.le_of_ble_eq_true rfl) (locs_of (by rfl)) ?_ (fun _ => rfl) (fun _ _ _ => rfl))
  have l1 : (dstr (n.natAbs : Int)).length < 2 ^ 62 := dstr_small _ (by unfold Bt at hna; simpa using hna)
  have l2 : (dstr d).length < 2 ^ 62 := by rw [hdn]; exact dstr_small _ (by unfold Bt at hda; rw [hdn, Int.natAbs_natCast] at hda; exact hda)
  have hm : ((dstr (n.natAbs : Int)).length : Int) - ((dstr d).length : Int) + (if (!decide ((dstr (n.natAbs : Int)).cps.toList < (dstr d).cps.toList)) = true then 1 else 0) = (K : Int) - low := by
    rw [hdn, dstr_len, dstr_len, dstr_cps, dstr_cps, hnn]
    omega
  refine bl_cons (st_assign (p := .int ((K : Int) - low)) (ev_eq (ev_addb (ev_sub (ev_len_str (ev_nm rfl) l1 rfl (by walk_at "pl")) (ev_len_str (ev_nm rfl) l2 rfl (by walk_at "pl"))) (ev_cmp (ev_nm rfl) (ev_nm rfl) cmp_les)) (by rw [hm])) (.inl rfl) (loc_of (by rfl)) ?_)
  refine bl_cons (st_assign (by walk_at "ev") (.inl rfl) (loc_of (by rfl)) ?_)
  have hS : Near (scN n ((K : Int) - low - p)) (scD d ((K : Int) - low - p)) (S0 p K c) := by rw [hn, hd]; exact s0_near hs rfl
  generalize hS0 : S0 p K c = S at *
  refine bl_cons (st_unpack ["sign", "significand"] (ev_ucall hF (by walk_at "es") (rte_fn3 (r := r) hF hT hTd n d ((K : Int) - low - p) S hd0 (by omega) (by omega) (hnb.mono (by decide)) (hdb.mono (by decide)) hS) (Nat.le_refl _) rfl rfl (by walk_at "pl")) (.inl rfl) rfl (locs_of (by rfl)) ?_ (fun _ _ _ => ⟨storesTo_name, storesTo_name, trivial⟩) (fun _ => rfl) (fun _ => rfl))
  rw [hsgn]
  have hSb : Bt 1900 (S.natAbs : Int) := by
    unfold Bt
    have h1 : (10 : Int) ^ p ≤ 10 ^ 100 := p10_le hp2
    have h2 : (S.natAbs : Int) ≤ ((10 ^ 100 : Nat) : Int) := by rw [p10_nat]; omega
    have h3 : S.natAbs ≤ 10 ^ 100 := by exact_mod_cast h2
    exact Nat.lt_of_le_of_lt (show (S.natAbs : Int).natAbs ≤ 10 ^ 100 by simpa using h3) (by decide +kernel)
  have hfin : ∀ (s q : Int), s = (if (S.natAbs : Int) = 10 ^ p then 10 ^ (p - 1) else (S.natAbs : Int)) → q = (if (S.natAbs : Int) = 10 ^ p then (K : Int) - p + 1 else (K : Int) - p) - low →
      ExB ⟨X, "_round_to_figures", rfSc, r + 1, hk⟩ [("sign", .v (.bool (decide (c < 0)))), ("significand", .v (.int s)), ("exponent", .v (.int q))] (rfB.drop 6) (fun o _ => ∃ p_1, o = .ret p_1 ∧ ∃ K : Nat, (c.natAbs : Int) ≤ 10 ^ K ∧ (10 : Int) ^ K ≤ 10 * (c.natAbs : Int) ∧
        p_1 = .tup [.bool (decide (c < 0)), .int (if ((S0 p K c).natAbs : Int) = 10 ^ p then 10 ^ (p - 1) else ((S0 p K c).natAbs : Int)), .int ((if ((S0 p K c).natAbs : Int) = 10 ^ p then (K : Int) - p + 1 else (K : Int) - p) - low)]) := by
    intro s q hs' hq'
    refine bl_cons (st_ret (by walk_at "ev") ⟨_, rfl, K, hK1, hK2, ?_⟩)
    rw [hS0, hs', hq']
  have l3 : (dstr (S.natAbs : Int)).length < 2 ^ 62 := dstr_small _ (by unfold Bt at hSb; simpa using hSb)
  refine bl_cons (st_if (et_cmp (ev_len_str (ev_str_of (by walk_at "ev") hSb rfl (by walk_at "pl")) l3 rfl (by walk_at "pl")) (by walk_at "ev") cmp_eq) (fun h => ?_) (fun h => ?_))
  · rw [len_fig hp b2, decide_eq_true_eq] at h
    refine bl_cons (st_fdivi rfl (by walk_at "ev") (by decide) ?_)
    refine bl_cons (st_addi rfl (by walk_at "ev") (bl_nil ?_))
    refine StX.wk (hfin ((S.natAbs : Int).fdiv 10) ((K : Int) - low - p + 1) ?_ ?_) ⟨rfl, rfl, rfl, trivial⟩
    · rw [if_pos h, h, Int.fdiv_eq_ediv_of_nonneg _ (by decide), show (10 : Int) ^ p = 10 ^ (p - 1) * 10 by rw [← Int.pow_succ]; congr 1; omega]
      exact Int.mul_ediv_cancel _ (by decide)
    · rw [if_pos h]; omega
  · rw [len_fig hp b2, decide_eq_false_iff_not] at h
    refine bl_nil (StX.wk (hfin (S.natAbs : Int) ((K : Int) - low - p) ?_ ?_) ⟨rfl, rfl, rfl, trivial⟩)
    · rw [if_neg h]
    · rw [if_neg h]; omega
theorem rf_fn0 {X : Cx} {r : Nat} {fg : Addr} (hG : IsFn X "_round_to_figures" fg "_round_to_figures" (fpar PySem.Challenge.pw_dm0108_12 2) rfB rfSc .none) (d p : Int) :
    BFn X (r + 1) (.ref fg) [.int 0, .int d, .int p] (.tup [.bool false, .int 0, .int (1 - p)]) := by
  have hk : rfSc.kind = .function := rfl
  refine fn_intro (names := ["n", "d", "figures"]) (dps := []) (dv := []) hG hk rfl rfl (by decide +kernel) (by decide +kernel) (by decide +kernel) (fun g => Reps.nil) (fun s kwdV ann pm c' doc vs hH hl => ?_) ?_
  · match vs, hl with
    | [v1, v2, v3], _ => exact BindsTo.of_eq rfl
  show ExB _ [("n", .v (.int 0)), ("d", .v (.int d)), ("figures", .v (.int p))] _ _
  exact bl_cons (st_ifT (by walk_at "et") (by rfl) (bl_cons (st_ret (by walk_at "ev") rfl)))



set_option maxHeartbeats 4000000 in
theorem ft_fn {X : Cx} {r : Nat} {fa fg ft T : Addr} {o : Obj} {nn : Nat} (hF : IsFn X "_round_to_exponent" fa "_round_to_exponent" (fpar PySem.Challenge.pw_dm0108_12 1) rteB rteSc (.ref T)) (hT : X.hb.get? T = some o) (hTd : o.data = .seq #[.bool false] nn)
    (hG : IsFn X "_round_to_figures" fg "_round_to_figures" (fpar PySem.Challenge.pw_dm0108_12 2) rfB rfSc .none) (hL : IsFn X "_law_told" ft "_law_told" (fpar PySem.Challenge.pw_dm0108_12 4) ftB ftSc .none)
    (x : Int) (p scale low : Nat) (hp : 1 ≤ p) (hp2 : p ≤ 100) (hs : 1 ≤ scale) (hs2 : scale ≤ 1000) (hlow : low ≤ 50) (hxb : Bt 1000 x) :
    BFn X (r + 3) (.ref ft) [.int x, .int p, .int scale, .int low, .lst []] (.int (RN p x)) := by
  have hk : ftSc.kind = .function := rfl
  have hscb : Bt 10 (scale : Int) := by unfold Bt; exact Nat.lt_of_le_of_lt (show (scale : Int).natAbs ≤ 1000 by omega) (by decide)
  refine fn_intro (names := ["x", "figures", "scale", "low", "wrong"]) (dps := []) (dv := []) hL hk rfl rfl (by decide +kernel) (by decide +kernel) (by decide +kernel) (fun g => Reps.nil) (fun s kwdV ann pm c' doc vs hH hl => ?_) ?_
  · match vs, hl with
    | [v1, v2, v3, v4, v5], _ => exact BindsTo.of_eq rfl
  show ExB _ [("x", .v (.int x)), ("figures", .v (.int (p : Int))), ("scale", .v (.int (scale : Int))), ("low", .v (.int (low : Int))), ("wrong", .v (.lst []))] _ _
  have m1 : IntMulOk x scale := mulOkR (hscb.mono (by decide))
  have m2 : IntMulOk (scale : Int) (10 ^ (low : Int).toNat) := mulOkL (hscb.mono (by decide))
  have hlt : (low : Int).toNat = low := by omega
  by_cases hx : x = 0
  · subst hx
    refine bl_cons (st_unpack ["sign", "s", "e"] (ps := [.bool false, .int 0, .int (1 - (p : Int))]) (ev_ucall hG (ps := [.int 0, .int (scale * 10 ^ (low : Int).toNat), .int p]) (es_cons (ev_eq (by walk_at "ev") (by rw [Int.zero_mul])) (by walk_at "es")) (rf_fn0 (r := r) hG _ _) (by show r + 1 ≤ r + 2; omega) rfl rfl (by walk_at "pl")) (.inl rfl) rfl (locs_of (by rfl)) ?_ (fun _ _ _ => ⟨storesTo_name, storesTo_name, storesTo_name, trivial⟩) (fun _ => rfl) (fun _ => rfl))
    refine bl_cons (st_ifF (c := false) (et_eq (by walk_at "et") (by simp)) rfl (bl_nil ?_))
    refine bl_cons (st_ifT (by walk_at "et") (by rfl) ?_)
    refine bl_cons (st_ifF (by walk_at "et") (by simp) (bl_nil ?_))
    refine bl_cons (st_ret (by walk_at "ev") ?_)
    show Out.ret _ = Out.ret _
    rw [rn_zero hp]
  refine bl_cons (st_unpackR ["sign", "s", "e"] (ev_ucallR hG (by walk_at "es") (rf_fn (r := r) hF hT hTd hG x (x * scale) (scale * 10 ^ (low : Int).toNat) p scale low hp hp2 hs hs2 hlow hx hxb rfl (by rw [hlt])) (Nat.le_refl _) rfl rfl (by walk_at "pl")) ?_ (locs_of (by rfl)) (fun _ _ _ => ⟨storesTo_name, storesTo_name, storesTo_name, trivial⟩) (fun _ => rfl) (fun _ => rfl))
  rintro q ⟨K, hK1, hK2, rfl⟩
  refine ⟨_, rfl, .inl rfl, rfl, ?_⟩
  obtain ⟨s, q, es, eq, g1, g2, g3, g4⟩ := s0_value hp hK1 hK2
  have hKb := k_bound hxb hK2
  have hqb : q ≤ 341 ∧ -100 ≤ q := by rw [eq]; split <;> omega
  rw [← es, ← eq]
  clear es eq
  refine bl_cons (st_ifF (c := false) (et_eq (by walk_at "et") (by simp)) rfl (bl_nil ?_))
  refine bl_cons (st_ifF (by walk_at "et") (by simpa using hx) (bl_nil ?_))
  have hpm : ((p : Int) - 1).toNat = p - 1 := by omega
  have hpt : (p : Int).toNat = p := by omega
  refine bl_cons (st_ifF (et_not (et_chain (a := .int (10 ^ ((p : Int) - 1).toNat)) (b := .int s) (c := .int (10 ^ (p : Int).toNat)) (ev_pow10 (by walk_at "ev") (by walk_at "ev") (by omega) (by omega)) (by walk_at "ev") (fun _ => ev_pow10 (by walk_at "ev") (by walk_at "ev") (by omega) (by omega)) cmp_le cmp_lt)) (by rw [hpm, hpt]; simp [g1, g2]) (bl_nil ?_))
  refine bl_cons (st_addi rfl (by walk_at "ev") ?_)
  have hqq : q - (low : Int) + (low : Int) = q := by omega
  rw [hqq]
  have hsb : Bt 500 s := by
    unfold Bt
    have h1 : (10 : Int) ^ p ≤ 10 ^ 100 := p10_le hp2
    have h0 := p10 (p - 1)
    have h2 : (s.natAbs : Int) ≤ ((10 ^ 100 : Nat) : Int) := by rw [p10_nat]; omega
    have h3 : s.natAbs ≤ 10 ^ 100 := by exact_mod_cast h2
    exact Nat.lt_of_le_of_lt h3 (by decide +kernel)
  have tail : ∀ v : Int, v = ((RN p x).natAbs : Int) → ExB ⟨X, "_law_told", ftSc, r + 2, hk⟩ [("sign", .v (.bool (decide (x < 0)))), ("s", .v (.int v))] (ftB.drop 6) (fun o _ => o = .ret (.int (RN p x))) := by
    intro v hv
    refine bl_cons (st_ret (ev_ifi (by walk_at "et") (fun _ => by walk_at "ev") (fun _ => by walk_at "ev")) ?_)
    show Out.ret _ = Out.ret _
    rw [hv]
    have := rn_sign (p := p) x
    simp only [decide_eq_true_eq]
    rw [this]
  refine bl_cons (st_if (by walk_at "et") (fun h => ?_) (fun h => ?_))
  · have h' : q < 0 := by simpa using h
    obtain ⟨v1, v2⟩ := g4 h'
    have hz : (10 : Int) ^ (-q).toNat ≠ 0 := by have := p10 (-q).toNat; omega
    have hz1 : s.fmod (10 ^ (-q).toNat) = s % 10 ^ (-q).toNat := Int.fmod_eq_emod_of_nonneg _ (by have := p10 (-q).toNat; omega)
    have hz2 : s.fdiv (10 ^ (-q).toNat) = s / 10 ^ (-q).toNat := Int.fdiv_eq_ediv_of_nonneg _ (by have := p10 (-q).toNat; omega)
    refine bl_cons (st_ifF (et_cmp (ev_fmod (by walk_at "ev") (ev_pow10 (by walk_at "ev") (by walk_at "ev") (by omega) (by omega)) hz) (by walk_at "ev") cmp_ne) (by rw [hz1, v1]; simp) (bl_nil ?_))
    refine bl_cons (st_assign (ev_fdiv (by walk_at "ev") (ev_pow10 (by walk_at "ev") (by walk_at "ev") (by omega) (by omega)) hz) (.inl rfl) (loc_of (by rfl)) (bl_nil ?_))
    exact StX.wk (tail _ (by rw [hz2, v2])) ⟨rfl, rfl, trivial⟩
  · have h' : 0 ≤ q := by simpa using h
    have m3 : IntMulOk s (10 ^ q.toNat) := mulOk hsb (Bt.pow10 400 (by omega)) (by decide)
    refine bl_cons (st_assign (ev_mul (by walk_at "ev") (ev_pow10 (by walk_at "ev") (by walk_at "ev") (by omega) (by omega)) m3) (.inl rfl) (loc_of (by rfl)) (bl_nil ?_))
    exact StX.wk (tail _ (g3 h')) ⟨rfl, rfl, trivial⟩

set_option maxHeartbeats 4000000 in
theorem nr_fn {X : Cx} {r : Nat} {fn : Addr} (hN : IsFn X "_law_nearest" fn "_law_nearest" (fpar PySem.Challenge.pw_dm0108_12 5) nrB nrSc .none)
    (c : Int) (p : Nat) (hp : 1 ≤ p) (hp2 : p ≤ 100) (hcb : Bt 1000 c) :
    BFn X (r + 1) (.ref fn) [.int (RN p c), .int c, .int p] (.bool true) := by
  have hk : nrSc.kind = .function := rfl
  refine fn_intro (names := ["told", "true", "figures"]) (dps := []) (dv := []) hN hk rfl rfl (by decide +kernel) (by decide +kernel) (by decide +kernel) (fun g => Reps.nil) (fun s kwdV ann pm c' doc vs hH hl => ?_) ?_
  · match vs, hl with
    | [v1, v2, v3], _ => exact BindsTo.of_eq rfl
  show ExB _ [("told", .v (.int (RN p c))), ("true", .v (.int c)), ("figures", .v (.int (p : Int)))] _ _
  refine bl_cons (st_assign (by walk_at "ev") (.inl rfl) (loc_of (by rfl)) ?_)
  have hpt : (p : Int).toNat = p := by omega
  have hexb : ex p c ≤ 340 := by
    rcases Nat.lt_or_ge 340 (ex p c) with h | h
    · have h1 := ex_ge (c := c) hp h
      have h2 : (10 : Int) ^ 341 ≤ 10 ^ (p + 340) := p10_le (by omega)
      have := k_bound (K := 341) hcb (by have := p10 341; omega)
      omega
    · exact h
  refine bl_cons (st_while (fun n σ => ∃ q : Nat, q ≤ ex p c ∧ n = ex p c - q ∧ σ = ([("told", .v (.int (RN p c))), ("true", .v (.int c)), ("figures", .v (.int (p : Int))), ("unit", .v (.int (10 ^ q)))] : PEnv)) (ex p c)
    ⟨[("told", .v (.int (RN p c))), ("true", .v (.int c)), ("figures", .v (.int (p : Int))), ("unit", .v (.int 1))], sub_of ⟨rfl, rfl, rfl, rfl, trivial⟩, 0, Nat.zero_le _, rfl, by rw [Int.pow_zero]⟩ ?_)
  rintro n σ' ⟨q, hq, rfl, rfl⟩
  have m1 : IntMulOk (10 ^ (p : Int).toNat) (10 ^ q) := mulOk (Bt.pow10 100 (by omega)) (Bt.pow10 400 (by omega)) (by decide)
  have htest : ∀ {C : Fc} {σ : PEnv}, True := trivial
  have hle : (10 : Int) ^ (p : Int).toNat * 10 ^ q ≤ (c.natAbs : Int) ↔ q < ex p c := by
    rw [hpt, ← Int.pow_add]
    constructor
    · intro h
      rcases Nat.lt_or_ge q (ex p c) with h' | h'
      · exact h'
      · have := (ex_le (c := c) hp).mp h'; omega
    · intro h; exact ex_ge hp h
  refine ⟨_, et_cmp (ev_mul (ev_pow10 (by walk_at "ev") (by walk_at "ev") (by omega) (by omega)) (by walk_at "ev") m1) (by walk_at "ev") cmp_le, fun h => ?_, fun h => ?_⟩
  · rw [decide_eq_true_eq, hle] at h
    refine bl_cons (st_muli rfl (by walk_at "ev") (mulOkR (Bt.lit (by decide))) ?_)
    rw [← Int.pow_succ]
    exact bl_nil ⟨_, sub_of (σ₀ := [("told", .v (.int (RN p c))), ("true", .v (.int c)), ("figures", .v (.int (p : Int))), ("unit", .v (.int (10 ^ (q + 1))))]) ⟨rfl, rfl, rfl, rfl, trivial⟩, ex p c - (q + 1), by omega, q + 1, by omega, rfl, rfl⟩
  · rw [decide_eq_false_iff_not, hle] at h
    have hqe : q = ex p c := by omega
    subst hqe
    have hD := p10 (ex p c)
    have hz : (10 : Int) ^ ex p c ≠ 0 := by omega
    refine bl_cons (st_assign (by walk_at "ev") (.inl rfl) (loc_of (by rfl)) ?_)
    refine bl_cons (st_ret (by walk_at "ev") ?_)
    show Out.ret (.bool _) = .ret (.bool true)
    have hu := rn_unit p c
    rw [Int.fdiv_eq_ediv_of_nonneg _ (Int.le_of_lt hD), Int.fmod_eq_emod_of_nonneg _ (by decide)]
    rcases hu with hu | ⟨hu1, hu2⟩
    · simp [hu]
    · simp [hu1, hu2]



abbrev lawSc : Scope := fsc PySem.Challenge.pw_dm0108_12 6
abbrev lawB : List Stmt := fbody PySem.Challenge.pw_dm0108_12 6

theorem rng_mem {a : Int} {n : Nat} {p : PV} (h : p ∈ rngL a 1 n) : ∃ j : Nat, j < n ∧ p = .int (a + (j : Int)) := by
  simp only [rngL, List.mem_map, List.mem_range] at h
  obtain ⟨j, hj, rfl⟩ := h
  exact ⟨j, hj, by congr 1; omega⟩
theorem intL_snoc (fs : List Int) (f : Int) : intL fs ++ [PV.int f] = intL (fs ++ [f]) := by simp [intL]
def cut24 (x : Int) : Int := if (x.natAbs : Int) < 10 ^ 24 then x else x % 10 ^ 24
def cellOf (x : Int) : Int := 4567 * cut24 x + 1
theorem cut24_lt (x : Int) : ((cut24 x).natAbs : Int) < 10 ^ 24 := by
  unfold cut24
  split
  · assumption
  · have h1 := Int.emod_nonneg x (show (10 : Int) ^ 24 ≠ 0 by decide)
    have h3 := Int.emod_lt_of_pos x (show (0 : Int) < 10 ^ 24 by decide)
    omega
def cellsOf12 (ns : List Int) : List Int := [9095, 1237] ++ (ns.take 7).map cellOf ++ [-98765]
theorem cells12 {ns : List Int} : ∀ c ∈ cellsOf12 ns, Bt 100 c ∧ c ≠ 0 := fun c hc => by
  unfold cellsOf12 at hc
  rcases List.mem_append.mp hc with h | h
  · rcases List.mem_append.mp h with h | h
    · simp only [List.mem_cons, List.not_mem_nil, or_false] at h
      rcases h with rfl | rfl <;> exact ⟨Bt.lit (by decide), by decide⟩
    · obtain ⟨y, _, rfl⟩ := List.mem_map.mp h
      unfold cellOf
      have h1 := cut24_lt y
      refine ⟨?_, by omega⟩
      unfold Bt
      have h2 : ((2 ^ 100 : Nat) : Int) = 2 ^ 100 := by decide
      have h3 : (4567 : Int) * 10 ^ 24 + 1 < 2 ^ 100 := by decide
      omega
  · simp only [List.mem_cons, List.not_mem_nil, or_false] at h
    subst h; exact ⟨Bt.lit (by decide), by decide⟩
/-- what a cell brings -/
def trip (h : Nat) : PV → PV
  | .int c => .tup [.int (RN (2 * h) c), .int (hiV h (RN (2 * h) c)), .int (loV h (RN (2 * h) c))]
  | q => q
theorem flats_trip {h : Nat} : ∀ {ns : List Int}, flats ((intL ns).map (trip h)) = true
  | [] => rfl
  | n :: ns => by
    have := flats_trip (h := h) (ns := ns)
    simp only [intL, List.map_cons, flats, Bool.and_eq_true] at this ⊢
    exact ⟨rfl, this⟩
def addP (p : Nat) (l : Int) : PV → Int
  | .tup [.int o, .int t] => RN p (l + RN p (o * t))
  | _ => l

set_option maxHeartbeats 8000000 in
theorem law_body {X : Cx} {fa fg ft fn T : Addr} {o : Obj} {nn : Nat} (hF : IsFn X "_round_to_exponent" fa "_round_to_exponent" (fpar PySem.Challenge.pw_dm0108_12 1) rteB rteSc (.ref T)) (hT : X.hb.get? T = some o) (hTd : o.data = .seq #[.bool false] nn)
    (hG : IsFn X "_round_to_figures" fg "_round_to_figures" (fpar PySem.Challenge.pw_dm0108_12 2) rfB rfSc .none) (hL : IsFn X "_law_told" ft "_law_told" (fpar PySem.Challenge.pw_dm0108_12 4) ftB ftSc .none) (hN : IsFn X "_law_nearest" fn "_law_nearest" (fpar PySem.Challenge.pw_dm0108_12 5) nrB nrSc .none)
    (ns : List Int) (hlen : ns.length ≤ 63) (hbt : ∀ n ∈ ns, Bt 1048576 n) (hk : lawSc.kind = .function) :
    ExB ⟨X, "law", lawSc, 6, hk⟩ [("script", .v (.lst (intL ns)))] lawB (fun o _ => o = .ret (.bool true)) := by
  have hl0 : (intL ns).length ≤ 63 := by rw [intL_length]; exact hlen
  refine bl_cons (st_new (l := intL [9095, 1237]) (by walk_at "el") rfl (loc_of (by rfl)) (fun ac hac => ?_))
  refine bl_cons (st_for (items := intL (ns.take 7)) (bd := fun p σ => ("x", .v p) :: σ) (ei_eq (ei_new (by walk_at "el")) (by rw [intL_take]; rfl)) flat_ints (fun p hp => takes_name (loc_of (by rfl)))
    (fun pre σ => ∃ ps : List Int, pre = intL ps ∧ σ = ([("script", .v (.lst (intL ns))), ("cells", .m ac (intL ([9095, 1237] ++ ps.map cellOf)))] : PEnv))
    ⟨[("script", .v (.lst (intL ns))), ("cells", .m ac (intL [9095, 1237]))], sub_of ⟨rfl, rfl, trivial⟩, [], rfl, rfl⟩ ?_ ?_)
  · rintro pre q post σ' hit ⟨ps, rfl, rfl⟩
    obtain ⟨x, hx, rfl⟩ := mem_intL (show q ∈ intL (ns.take 7) by rw [hit]; simp)
    have hpl : ps.length < 7 := by
      have := congrArg List.length hit
      rw [intL_length] at this
      simp [intL_length] at this; omega
    have hcl : (intL ([9095, 1237] ++ ps.map cellOf)).length ≤ 16000000 := by rw [intL_length]; simp; omega
    have hcv : 4567 * (if decide ((x.natAbs : Int) < 10 ^ (24 : Int).toNat) = true then x else x.fmod (10 ^ (24 : Int).toNat)) + 1 = cellOf x := by
      unfold cellOf cut24
      rw [Int.fmod_eq_emod_of_nonneg _ (by decide)]
      simp only [decide_eq_true_eq]
      rfl
    refine bl_cons (st_append (p := .int (cellOf x)) rfl (ev_eq (ev_add (ev_mul (by walk_at "ev") (ev_ifi (by walk_at "et") (fun _ => by walk_at "ev") (fun _ => by walk_at "ev")) (mulOkL (Bt.lit (by decide)))) (by walk_at "ev")) (by rw [hcv])) rfl hcl ?_ (by walk_at "pl"))
    rw [intL_snoc ([9095, 1237] ++ ps.map cellOf) (cellOf x)]
    refine bl_nil ⟨_, sub_of (σ₀ := [("script", .v (.lst (intL ns))), ("cells", .m ac (intL ([9095, 1237] ++ ps.map cellOf ++ [cellOf x])))]) ⟨rfl, rfl, trivial⟩, ps ++ [x], by rw [intL_snoc], by simp⟩
  rintro σ' ⟨ps, hps, rfl⟩
  have hpe : ps = ns.take 7 := by
    have := congrArg (List.map fun q => match q with | PV.int i => i | _ => 0) hps
    simpa [intL, List.map_map, Function.comp_def] using this.symm
  subst hpe
  have hcl : (intL ([9095, 1237] ++ (ns.take 7).map cellOf)).length ≤ 16000000 := by rw [intL_length]; simp; omega
  refine bl_cons (st_append rfl (by walk_at "ev") rfl hcl ?_ (by walk_at "pl"))
  rw [intL_snoc ([9095, 1237] ++ (ns.take 7).map cellOf) (-98765)]
  have hcs : ∀ c ∈ cellsOf12 ns, Bt 100 c ∧ c ≠ 0 := cells12
  have hcn : (cellsOf12 ns).length ≤ 10 ∧ 3 ≤ (cellsOf12 ns).length := by unfold cellsOf12; simp; omega
  rw [show [9095, 1237] ++ (ns.take 7).map cellOf ++ [-98765] = cellsOf12 ns from rfl]
  generalize cellsOf12 ns = cs at hcs hcn ⊢
  have hcl2 : (intL cs).length = cs.length := intL_length
  refine bl_cons (st_assign (ev_abs (ev_sum (ev_nm rfl) rfl (by walk_at "pl")) rfl (by walk_at "pl")) (.inl rfl) (loc_of (by rfl)) ?_)
  generalize ((ns.sum).natAbs : Int) = seed
  refine bl_cons (st_unpackD ["scale", "low"] (by walk_at "es") (.inl rfl) rfl (Nat.le_of_ble_eq_true rfl) (locs_of (by rfl)) ?_ (fun _ => rfl) (fun _ _ _ => rfl))
  obtain ⟨scale, hsc, hsc1, hsc2⟩ : ∃ scale : Nat, 1 + seed.fmod 997 = (scale : Int) ∧ 1 ≤ scale ∧ scale ≤ 1000 := by
    have h1 := Int.fmod_nonneg_of_pos seed (by decide : (0:Int) < 997)
    have h2 := Int.fmod_lt_of_pos seed (by decide : (0:Int) < 997)
    exact ⟨(1 + seed.fmod 997).toNat, by omega, by omega, by omega⟩
  obtain ⟨low, hlw, hlw1⟩ : ∃ low : Nat, 1 + seed.fmod 40 = (low : Int) ∧ low ≤ 50 := by
    have h1 := Int.fmod_nonneg_of_pos seed (by decide : (0:Int) < 40)
    have h2 := Int.fmod_lt_of_pos seed (by decide : (0:Int) < 40)
    exact ⟨(1 + seed.fmod 40).toNat, by omega, by omega⟩
  rw [hsc, hlw]
  refine bl_cons (st_new (l := intL []) (by walk_at "el") rfl (loc_of (by rfl)) (fun aw haw => ?_))
  refine bl_cons (st_forC (σ₀ := [("cells", .m ac (intL cs)), ("seed", .v (.int seed)), ("scale", .v (.int scale)), ("low", .v (.int low)), ("wrong", .m aw (intL []))])
    (items := rngL 0 1 (((intL cs).length : Int) - 1).toNat) (bd := fun p σ => ("k", .v p) :: σ) (ei_range1 (by walk_at "ev") (by omega) (by omega) rfl (by walk_at "pl")) flat_rng (fun p hp => takes_name (loc_of (by rfl))) ⟨rfl, rfl, rfl, rfl, rfl, trivial⟩ (fun q hq => ?step) ?fin)
  case fin => exact bl_cons (st_ret (by walk_at "ev") rfl)
  obtain ⟨k, hkl, rfl⟩ := rng_mem hq
  have hz : (0 : Int) + (k : Int) = (k : Int) := by omega
  rw [hz]
  have hk1 : k + 1 < cs.length := by omega
  refine bl_cons (st_assign (by walk_at "ev") (.inl rfl) (loc_of (by rfl)) ?_)
  obtain ⟨h, hhe, hh2, hh10⟩ : ∃ h : Nat, 2 + ((k : Int) + seed).fmod 9 = (h : Int) ∧ 2 ≤ h ∧ h ≤ 10 := by
    have h1 := Int.fmod_nonneg_of_pos ((k : Int) + seed) (by decide : (0:Int) < 9)
    have h2 := Int.fmod_lt_of_pos ((k : Int) + seed) (by decide : (0:Int) < 9)
    exact ⟨(2 + ((k : Int) + seed).fmod 9).toNat, by omega, by omega, by omega⟩
  rw [hhe]
  have hp1 : 1 ≤ 2 * h := by omega
  refine bl_cons (st_assign (p := .int ((2 * h : Nat) : Int)) (ev_eq (by walk_at "ev") (by congr 1)) (.inl rfl) (loc_of (by rfl)) ?_)
  have told := fun (z : Int) (hz : Bt 1000 z) => ft_fn (r := 2) hF hT hTd hG hL z (2 * h) scale low hp1 (by omega) hsc1 hsc2 hlw1 hz
  have toldh := fun (z : Int) (hz : Bt 1000 z) => ft_fn (r := 2) hF hT hTd hG hL z h scale low (by omega) (by omega) hsc1 hsc2 hlw1 hz
  have near := fun (z : Int) (hz : Bt 1000 z) => nr_fn (r := 2) hN z (2 * h) hp1 (by omega) hz
  have rb := fun {k : Nat} {c : Int} (hc : Bt k c) => rn_bt (p := 2 * h) hp1 hc
  -- the sizes of the parts
  have sizes : ∀ c : Int, Bt 100 c → Bt 101 (RN (2 * h) c) ∧ Bt 150 ((10 ^ h + 1) * RN (2 * h) c) ∧ Bt 152 (RN (2 * h) c - RN (2 * h) ((10 ^ h + 1) * RN (2 * h) c)) ∧
      Bt 154 (RN (2 * h) ((10 ^ h + 1) * RN (2 * h) c) + RN (2 * h) (RN (2 * h) c - RN (2 * h) ((10 ^ h + 1) * RN (2 * h) c))) ∧ Bt 155 (hiV h (RN (2 * h) c)) ∧ Bt 156 (RN (2 * h) c - hiV h (RN (2 * h) c)) ∧ Bt 157 (loV h (RN (2 * h) c)) := fun c hc => by
    have s1 := rb hc
    have s2 : Bt 150 ((10 ^ h + 1) * RN (2 * h) c) := ((((Bt.pow10 10 hh10).add (Bt.lit (k := 1) (a := 1) (by decide)))).mul s1).mono (by decide)
    have s3 : Bt 152 (RN (2 * h) c - RN (2 * h) ((10 ^ h + 1) * RN (2 * h) c)) := (s1.sub (rb s2)).mono (by decide)
    have s4 : Bt 154 (RN (2 * h) ((10 ^ h + 1) * RN (2 * h) c) + RN (2 * h) (RN (2 * h) c - RN (2 * h) ((10 ^ h + 1) * RN (2 * h) c))) := ((rb s2).add (rb s3)).mono (by decide)
    have s5 : Bt 155 (hiV h (RN (2 * h) c)) := rb s4
    have s6 : Bt 156 (RN (2 * h) c - hiV h (RN (2 * h) c)) := (s1.sub s5).mono (by decide)
    exact ⟨s1, s2, s3, s4, s5, s6, rb s6⟩
  have hht : (h : Int).toNat = h := by omega
  refine bl_cons (st_new (l := intL []) (by walk_at "el") rfl (loc_of (by rfl)) (fun ap hap => ?_))
  obtain ⟨ck, hck⟩ : ∃ c, cs[k]? = some c := ⟨_, List.getElem?_eq_getElem (by omega)⟩
  obtain ⟨ck1, hck1⟩ : ∃ c, cs[k + 1]? = some c := ⟨_, List.getElem?_eq_getElem hk1⟩
  have hsl : ((intL cs).take ((k : Int) + 2).toNat).drop (k : Int).toNat = intL [ck, ck1] := by
    rw [intL_take, intL_drop, show ((k : Int) + 2).toNat = k + 2 by omega, show ((k : Int)).toNat = k by omega]
    congr 1
    rw [List.drop_take, show k + 2 - k = 2 by omega]
    obtain ⟨i1, e1⟩ := List.getElem?_eq_some_iff.mp hck
    obtain ⟨i2, e2⟩ := List.getElem?_eq_some_iff.mp hck1
    rw [List.drop_eq_getElem_cons i1, List.drop_eq_getElem_cons i2, e1, e2]
    rfl
  refine bl_cons (st_for (items := intL [ck, ck1]) (bd := fun p σ => ("cell", .v p) :: σ) (ei_eq (ei_new (by walk_at "el")) hsl) flat_ints (fun p hp => takes_name (loc_of (by rfl)))
    (fun pre σ => ∃ ps : List Int, pre = intL ps ∧ σ = ([("cells", .m ac (intL cs)), ("seed", .v (.int seed)), ("scale", .v (.int scale)), ("low", .v (.int low)), ("wrong", .m aw (intL [])), ("half", .v (.int h)), ("figures", .v (.int ((2 * h : Nat) : Int))), ("parts", .m ap ((intL ps).map (trip h)))] : PEnv))
    ⟨[("cells", .m ac (intL cs)), ("seed", .v (.int seed)), ("scale", .v (.int scale)), ("low", .v (.int low)), ("wrong", .m aw (intL [])), ("half", .v (.int h)), ("figures", .v (.int ((2 * h : Nat) : Int))), ("parts", .m ap (intL []))], sub_of ⟨rfl, rfl, rfl, rfl, rfl, rfl, rfl, rfl, trivial⟩, [], rfl, rfl⟩ ?_ ?_)
  · rintro pre q post σ' hit ⟨ps, rfl, rfl⟩
    obtain ⟨c, hc, rfl⟩ := mem_intL (show q ∈ intL [ck, ck1] by rw [hit]; simp)
    have hcc : Bt 100 c ∧ c ≠ 0 := by
      simp only [List.mem_cons, List.not_mem_nil, or_false] at hc
      rcases hc with rfl | rfl
      · exact hcs _ (List.mem_of_getElem? hck)
      · exact hcs _ (List.mem_of_getElem? hck1)
    have hpl : ps.length < 2 := by
      have := congrArg List.length hit
      rw [intL_length] at this
      simp [intL_length] at this; omega
    obtain ⟨s1, s2, s3, s4, s5, s6, s7⟩ := sizes c hcc.1
    have hx0 : RN (2 * h) c ≠ 0 := rn_ne hp1 hcc.2
    have hxF : Fl (2 * h) (RN (2 * h) c) := rn_fl hp1
    obtain ⟨v1, v2, v3, v4⟩ := veltkamp hh2 hx0 hxF
    have nearx := near c (hcc.1.mono (by decide))
    have htrip : trip h (.int c) = .tup [.int (RN (2 * h) c), .int (hiV h (RN (2 * h) c)), .int (loV h (RN (2 * h) c))] := rfl
    refine bl_cons (st_assign (ev_ucall hL (by walk_at "es") (told c (hcc.1.mono (by decide))) (Nat.le_of_ble_eq_true rfl) rfl rfl (by walk_at "pl")) (.inl rfl) (loc_of (by rfl)) ?_)
    generalize hxx : RN (2 * h) c = x at *
    have m1 : IntMulOk (10 ^ (h : Int).toNat + 1) x := mulOkL (by rw [hht]; exact ((Bt.pow10 10 hh10).add (Bt.lit (k := 1) (a := 1) (by decide))).mono (by decide))
    refine bl_cons (st_assign (ev_ucall (ps := [.int ((10 ^ h + 1) * x), .int ((2 * h : Nat) : Int), .int scale, .int low, .lst []]) hL (es_cons (ev_eq (ev_mul (ev_add (ev_pow10 (by walk_at "ev") (by walk_at "ev") (by omega) (by omega)) (by walk_at "ev")) (by walk_at "ev") m1) (by rw [hht])) (by walk_at "es")) (told _ (s2.mono (by decide))) (Nat.le_of_ble_eq_true rfl) rfl rfl (by walk_at "pl")) (.inl rfl) (loc_of (by rfl)) ?_)
    refine bl_cons (st_assign (ev_ucall hL (by walk_at "es") (told (x - RN (2 * h) ((10 ^ h + 1) * x)) (s3.mono (by decide))) (Nat.le_of_ble_eq_true rfl) rfl rfl (by walk_at "pl")) (.inl rfl) (loc_of (by rfl)) ?_)
    refine bl_cons (st_assign (p := .int (hiV h x)) (ev_ucall hL (by walk_at "es") (told (RN (2 * h) ((10 ^ h + 1) * x) + RN (2 * h) (x - RN (2 * h) ((10 ^ h + 1) * x))) (s4.mono (by decide))) (Nat.le_of_ble_eq_true rfl) rfl rfl (by walk_at "pl")) (.inl rfl) (loc_of (by rfl)) ?_)
    refine bl_cons (st_assign (p := .int (loV h x)) (ev_ucall hL (by walk_at "es") (told (x - hiV h x) (s6.mono (by decide))) (Nat.le_of_ble_eq_true rfl) rfl rfl (by walk_at "pl")) (.inl rfl) (loc_of (by rfl)) ?_)
    refine bl_cons (st_assign (ev_ucall hL (by walk_at "es") (toldh x (s1.mono (by decide))) (Nat.le_of_ble_eq_true rfl) rfl rfl (by walk_at "pl")) (.inl rfl) (loc_of (by rfl)) ?_)
    refine bl_cons (st_ifF (by walk_at "et") (by rw [v1, v2]; simp) (bl_nil ?_))
    have v3' := rn_exact (by omega) v3
    have v4' := rn_exact (by omega) v4
    have hplen : ((intL ps).map (trip h)).length ≤ 16000000 := by rw [List.length_map, intL_length]; omega
    generalize hiV h x = H at *
    generalize loV h x = Lw at *
    refine bl_cons (st_forC (σ₀ := [("cell", .v (.int c)), ("x", .v (.int x)), ("high", .v (.int H)), ("less", .v (.int Lw)), ("cells", .m ac (intL cs)), ("seed", .v (.int seed)), ("scale", .v (.int scale)), ("low", .v (.int low)), ("wrong", .m aw (intL [])), ("half", .v (.int h)), ("figures", .v (.int ((2 * h : Nat) : Int))), ("parts", .m ap ((intL ps).map (trip h)))])
      (items := [.int H, .int Lw]) (bd := fun p σ => ("part", .v p) :: σ) (ei_new (by walk_at "el")) (fun p hp => by simp only [List.mem_cons, List.not_mem_nil, or_false] at hp; rcases hp with rfl | rfl <;> rfl) (fun p hp => takes_name (loc_of (by rfl))) ⟨rfl, rfl, rfl, rfl, rfl, rfl, rfl, rfl, rfl, rfl, rfl, rfl, trivial⟩ (fun q hq => ?_) ?_)
    · have : ∃ z : Int, q = .int z ∧ RN h z = z ∧ Bt 157 z := by
        simp only [List.mem_cons, List.not_mem_nil, or_false] at hq
        rcases hq with rfl | rfl
        · exact ⟨_, rfl, v3', s5.mono (by decide)⟩
        · exact ⟨_, rfl, v4', s7⟩
      obtain ⟨z, rfl, hz1, hz2⟩ := this
      refine bl_cons (st_ifF (c := decide (RN h z ≠ z)) (et_cmp (ev_ucall hL (by walk_at "es") (toldh z (hz2.mono (by decide))) (Nat.le_of_ble_eq_true rfl) rfl rfl (by walk_at "pl")) (by walk_at "ev") cmp_ne) (by rw [hz1]; simp) (bl_nil ?_))
      exact bl_endC ⟨rfl, rfl, rfl, rfl, rfl, rfl, rfl, rfl, rfl, rfl, rfl, rfl, trivial⟩
    refine bl_cons (st_ifF (c := !true) (et_not (et_of (ev_ucall hN (by walk_at "es") nearx (Nat.le_of_ble_eq_true rfl) rfl rfl (by walk_at "pl")) tr_bool)) (by rfl) (bl_nil ?_))
    refine bl_cons (st_append (p := .tup [.int x, .int H, .int Lw]) rfl (by walk_at "ev") rfl hplen ?_ (by walk_at "pl"))
    refine bl_nil ⟨_, sub_of (σ₀ := [("cells", .m ac (intL cs)), ("seed", .v (.int seed)), ("scale", .v (.int scale)), ("low", .v (.int low)), ("wrong", .m aw (intL [])), ("half", .v (.int h)), ("figures", .v (.int ((2 * h : Nat) : Int))), ("parts", .m ap ((intL ps).map (trip h) ++ [.tup [.int x, .int H, .int Lw]]))]) ⟨rfl, rfl, rfl, rfl, rfl, rfl, rfl, rfl, trivial⟩, ps ++ [c], by rw [intL_snoc], ?_⟩
    rw [← intL_snoc, List.map_append, ← htrip]
    rfl
  rintro σ' ⟨ps, hps, rfl⟩
  have hpe : ps = [ck, ck1] := by
    have := congrArg (List.map fun q => match q with | PV.int i => i | _ => 0) hps
    simpa [intL, List.map_map, Function.comp_def] using this.symm
  subst hpe
  have b1 := hcs ck (List.mem_of_getElem? hck)
  have b2 := hcs ck1 (List.mem_of_getElem? hck1)
  obtain ⟨x1, _, _, _, x5, _, x7⟩ := sizes ck b1.1
  obtain ⟨y1, _, _, _, y5, _, y7⟩ := sizes ck1 b2.1
  have key := dekker hh2 (rn_ne hp1 b1.2) (rn_ne hp1 b2.2) (rn_fl hp1 (c := ck)) (rn_fl hp1 (c := ck1))
  have e0 : ((intL [ck, ck1]).map (trip h)) = [.tup [.int (RN (2 * h) ck), .int (hiV h (RN (2 * h) ck)), .int (loV h (RN (2 * h) ck))], .tup [.int (RN (2 * h) ck1), .int (hiV h (RN (2 * h) ck1)), .int (loV h (RN (2 * h) ck1))]] := rfl
  rw [e0]
  generalize RN (2 * h) ck = x at *
  generalize RN (2 * h) ck1 = y at *
  generalize hiV h x = xh at *
  generalize loV h x = xw at *
  generalize hiV h y = yh at *
  generalize loV h y = yw at *
  refine bl_cons (st_unpack ["x", "high", "less"] (by walk_at "ev") (.inl rfl) rfl (locs_of (by rfl)) ?_ (fun _ _ _ => ⟨storesTo_name, storesTo_name, storesTo_name, trivial⟩) (fun _ => rfl) (fun _ => rfl))
  refine bl_cons (st_unpack ["y", "y_high", "y_less"] (by walk_at "ev") (.inl rfl) rfl (locs_of (by rfl)) ?_ (fun _ _ _ => ⟨storesTo_name, storesTo_name, storesTo_name, trivial⟩) (fun _ => rfl) (fun _ => rfl))
  have mxy : IntMulOk x y := mulOk x1 y1 (by decide)
  have bxy : Bt 300 (x * y) := (x1.mul y1).mono (by decide)
  refine bl_cons (st_assign (ev_ucall hL (by walk_at "es") (told (x * y) (bxy.mono (by decide))) (Nat.le_of_ble_eq_true rfl) rfl rfl (by walk_at "pl")) (.inl rfl) (loc_of (by rfl)) ?_)
  have nearp := near (x * y) (bxy.mono (by decide))
  have bnr : Bt 301 (RN (2 * h) (x * y)) := rb bxy
  unfold dek at key
  generalize RN (2 * h) (x * y) = nr at *
  refine bl_cons (st_assign (by walk_at "ev") (.inl rfl) (loc_of (by rfl)) ?_)
  refine bl_cons (st_for (items := [.tup [.int xh, .int yh], .tup [.int xh, .int yw], .tup [.int xw, .int yh], .tup [.int xw, .int yw]]) (bd := fun p σ => match p with | .tup ps => bindL ["one", "other"] ps σ | _ => σ) (ei_new (by walk_at "el"))
    (fun p hp => by simp only [List.mem_cons, List.not_mem_nil, or_false] at hp; rcases hp with rfl | rfl | rfl | rfl <;> rfl)
    (fun p hp => by
      simp only [List.mem_cons, List.not_mem_nil, or_false] at hp
      rcases hp with rfl | rfl | rfl | rfl <;> exact takes_tuple ["one", "other"] rfl (locs_of (by rfl)) (fun _ _ _ => ⟨storesTo_name, storesTo_name, trivial⟩) (fun _ => rfl) (fun _ => rfl))
    (fun pre σ => Bt (340 + 2 * pre.length) (pre.foldl (addP (2 * h)) (-nr)) ∧ σ = ([("cells", .m ac (intL cs)), ("seed", .v (.int seed)), ("scale", .v (.int scale)), ("low", .v (.int low)), ("wrong", .m aw (intL [])), ("figures", .v (.int ((2 * h : Nat) : Int))), ("x", .v (.int x)), ("y", .v (.int y)), ("near", .v (.int nr)), ("left", .v (.int (pre.foldl (addP (2 * h)) (-nr))))] : PEnv))
    ⟨[("cells", .m ac (intL cs)), ("seed", .v (.int seed)), ("scale", .v (.int scale)), ("low", .v (.int low)), ("wrong", .m aw (intL [])), ("figures", .v (.int ((2 * h : Nat) : Int))), ("x", .v (.int x)), ("y", .v (.int y)), ("near", .v (.int nr)), ("left", .v (.int (-nr)))], sub_of ⟨rfl, rfl, rfl, rfl, rfl, rfl, rfl, rfl, rfl, rfl, trivial⟩, bnr.neg.mono (by decide), rfl⟩ ?_ ?_ (htgt := .inr ⟨_, _, _, rfl⟩))
  · rintro pre q post σ' hit ⟨hlb, rfl⟩
    have hpl : pre.length < 4 := by
      have := congrArg List.length hit
      simp at this; omega
    have : ∃ u v : Int, q = .tup [.int u, .int v] ∧ Bt 157 u ∧ Bt 157 v := by
      have hq : q ∈ ([.tup [.int xh, .int yh], .tup [.int xh, .int yw], .tup [.int xw, .int yh], .tup [.int xw, .int yw]] : List PV) := by rw [hit]; simp
      simp only [List.mem_cons, List.not_mem_nil, or_false] at hq
      rcases hq with rfl | rfl | rfl | rfl
      · exact ⟨_, _, rfl, x5.mono (by decide), y5.mono (by decide)⟩
      · exact ⟨_, _, rfl, x5.mono (by decide), y7⟩
      · exact ⟨_, _, rfl, x7, y5.mono (by decide)⟩
      · exact ⟨_, _, rfl, x7, y7⟩
    obtain ⟨u, v, rfl, bu, bv⟩ := this
    have hfold : (pre ++ [PV.tup [.int u, .int v]]).foldl (addP (2 * h)) (-nr) = RN (2 * h) (pre.foldl (addP (2 * h)) (-nr) + RN (2 * h) (u * v)) := by rw [List.foldl_append]; rfl
    have hnl : (pre ++ [PV.tup [.int u, .int v]]).length = pre.length + 1 := by simp
    rw [hfold, hnl]
    generalize pre.foldl (addP (2 * h)) (-nr) = lf at *
    have muv : IntMulOk u v := mulOk bu bv (by decide)
    have buv : Bt 320 (u * v) := (bu.mul bv).mono (by decide)
    have bsum : Bt (341 + 2 * pre.length) (lf + RN (2 * h) (u * v)) := (hlb.add (rb buv)).mono (by omega)
    refine bl_cons (st_assign (ev_ucall hL (by walk_at "es") (told (u * v) (buv.mono (by decide))) (Nat.le_of_ble_eq_true rfl) rfl rfl (by walk_at "pl")) (.inl rfl) (loc_of (by rfl)) ?_)
    refine bl_cons (st_assign (ev_ucall hL (by walk_at "es") (told (lf + RN (2 * h) (u * v)) (bsum.mono (by omega))) (Nat.le_of_ble_eq_true rfl) rfl rfl (by walk_at "pl")) (.inl rfl) (loc_of (by rfl)) ?_)
    exact bl_nil ⟨_, sub_of (σ₀ := [("cells", .m ac (intL cs)), ("seed", .v (.int seed)), ("scale", .v (.int scale)), ("low", .v (.int low)), ("wrong", .m aw (intL [])), ("figures", .v (.int ((2 * h : Nat) : Int))), ("x", .v (.int x)), ("y", .v (.int y)), ("near", .v (.int nr)), ("left", .v (.int (RN (2 * h) (lf + RN (2 * h) (u * v)))))]) ⟨rfl, rfl, rfl, rfl, rfl, rfl, rfl, rfl, rfl, rfl, trivial⟩, (rb bsum).mono (by omega), rfl⟩
  · rintro σ' ⟨_, rfl⟩
    have hfold : ([.tup [.int xh, .int yh], .tup [.int xh, .int yw], .tup [.int xw, .int yh], .tup [.int xw, .int yw]] : List PV).foldl (addP (2 * h)) (-nr) = RN (2 * h) (RN (2 * h) (RN (2 * h) (RN (2 * h) (-nr + RN (2 * h) (xh * yh)) + RN (2 * h) (xh * yw)) + RN (2 * h) (xw * yh)) + RN (2 * h) (xw * yw)) := rfl
    rw [hfold]
    generalize RN (2 * h) (RN (2 * h) (RN (2 * h) (RN (2 * h) (-nr + RN (2 * h) (xh * yh)) + RN (2 * h) (xh * yw)) + RN (2 * h) (xw * yh)) + RN (2 * h) (xw * yw)) = lf at *
    refine bl_cons (st_ifF (c := false || (decide (nr + lf ≠ x * y) || !true)) (et_or (et_eq (et_cmp (ev_ml rfl) (by walk_at "ev") (cmp_nel (ns := []) (ms := []))) (by simp)) (fun _ => et_or (by walk_at "et") (fun _ => et_or1 (et_not (et_of (ev_ucall hN (by walk_at "es") nearp (Nat.le_of_ble_eq_true rfl) rfl rfl (by walk_at "pl")) tr_bool))))) (by rw [key]; simp) (bl_nil ?_))
    exact bl_endC ⟨rfl, rfl, rfl, rfl, rfl, trivial⟩

set_option maxHeartbeats 8000000 in
open_top hdt for PySem.Challenge.rw_dm0108_12
set_option maxHeartbeats 8000000 in
theorem final : PySem.Challenge.rw_dm0108_12.Holds := hdt (by
  k_go0
  rename World => w
  rename Top _ _ _ _ _ _ => T
  rename Frag.In _ _ => KX
  rename IntsAre _ _ => hI
  rename Heap.IsList _ _ _ => hL
  rename Fr _ _ _ _ => F
  rename ¬ _ < _ => hc
  rename Shared.gens _ = #[] => hg
  rename PyData.layable0 _ = true => hlay
  have hfree : ∀ x ∈ bnames, _ = none := fun x hx => by
    simp only [bnames, List.mem_cons, List.not_mem_nil, or_false] at hx
    rcases hx with rfl | rfl | rfl | rfl | rfl | rfl | rfl | rfl | rfl | rfl | rfl | rfl | rfl | rfl | rfl | rfl <;> exact mg_none_of KX T.g (by rfl)
  have hF : IsFn (mkCx PySem.Challenge.rw_dm0108_12.row.prog w _ _ _ T (by decide +kernel) rfl hfree) "_round_to_exponent" _ "_round_to_exponent" (fpar PySem.Challenge.pw_dm0108_12 1) rteB rteSc _ :=
    ⟨mg_of KX T.g (by rfl), ⟨_, _, _, _, _, _, KX _ _ (by rfl), rfl, codeRec_of KX (by rfl)⟩⟩
  have hG : IsFn (mkCx PySem.Challenge.rw_dm0108_12.row.prog w _ _ _ T (by decide +kernel) rfl hfree) "_round_to_figures" _ "_round_to_figures" (fpar PySem.Challenge.pw_dm0108_12 2) rfB rfSc .none :=
    ⟨mg_of KX T.g (by rfl), ⟨_, _, _, _, _, _, KX _ _ (by rfl), rfl, codeRec_of KX (by rfl)⟩⟩
  have hW : IsFn (mkCx PySem.Challenge.rw_dm0108_12.row.prog w _ _ _ T (by decide +kernel) rfl hfree) "_law_told" _ "_law_told" (fpar PySem.Challenge.pw_dm0108_12 4) ftB ftSc .none :=
    ⟨mg_of KX T.g (by rfl), ⟨_, _, _, _, _, _, KX _ _ (by rfl), rfl, codeRec_of KX (by rfl)⟩⟩
  have hN : IsFn (mkCx PySem.Challenge.rw_dm0108_12.row.prog w _ _ _ T (by decide +kernel) rfl hfree) "_law_nearest" _ "_law_nearest" (fpar PySem.Challenge.pw_dm0108_12 5) nrB nrSc .none :=
    ⟨mg_of KX T.g (by rfl), ⟨_, _, _, _, _, _, KX _ _ (by rfl), rfl, codeRec_of KX (by rfl)⟩⟩
  refine law_end (law_body hF (KX _ _ (by rfl)) rfl hG hW hN _ (by omega) (lay_bt hlay) rfl) (lv_caller rfl rfl rfl rfl (by decide)) (sim_start rfl F rfl hL hI rfl) rfl hg rfl (fun s' h1 h2 h3 => ?_)
  exact goodW_true (fun cls => rfl) (postW_of rfl (w_eq_bool (w_res rfl) w_lit) (by decide)) h1 h2 h3)

end Mine
theorem PySem.Challenge.cw_dm0108_12_holds : PySem.Challenge.rw_dm0108_12.Holds := by
  exact Mine.final
