import PyProof.Rows.All
import Wide.All
import OpenK.AllK
import Wide.FinOn
import PySem.Challenge.RW_fy0010_01

section
open PySem PySem.W PyProof.Rows PySem.Calls
set_option Elab.async false
set_option maxRecDepth 100000
set_option linter.unusedVariables false
namespace Mine

/-- abstract values -/
inductive AV where
  | dat (d : PyData)
  | obj (a : Addr)
  | tag (c : Int) (v : Str)
  | set (fz : Bool) (S : Int → Bool)
  | rng (lo hi : Int)
  | val (v : Value)

/-- a list that may change: a plain list, or one of class Tags -/
structure AObj where
  tags : Bool
  items : List AV

abbrev Store := Addr → Option AObj
def upd (σ : Store) (a : Addr) (o : AObj) : Store := fun b => if b = a then some o else σ b
theorem upd_self (σ : Store) (a : Addr) (o : AObj) : upd σ a o a = some o := by simp [upd]
theorem upd_ne {σ : Store} {a b : Addr} {o : AObj} (h : b ≠ a) : upd σ a o b = σ b := by simp [upd, h]

def tObj (ps : Array Value) : Obj := { cls := .none, data := .fields ps }

abbrev TagC : Addr := 137
abbrev TagsC : Addr := 339

mutual
/-- frozen data: no node of it is in the store -/
inductive Dt (σ : Store) (h : Heap) : Value → PyData → Prop
  | none : Dt σ h .none .none
  | bool (b) : Dt σ h (.bool b) (.bool b)
  | int (i t) : Dt σ h (.int i t) (.int i)
  | str (x t) : Dt σ h (.str x t) (.str x)
  | list {a o vs n xs} : σ a = none → h.get? a = some o → o.cls = .type "list" → o.data = .seq vs n → DtAll σ h vs.toList xs → Dt σ h (.ref a) (.list xs)
  | tuple {a o vs n xs} : σ a = none → h.get? a = some o → o.cls = .type "tuple" → o.data = .seq vs n → DtAll σ h vs.toList xs → Dt σ h (.ref a) (.tuple xs)
inductive DtAll (σ : Store) (h : Heap) : List Value → List PyData → Prop
  | nil : DtAll σ h [] []
  | cons {v vs d ds} : Dt σ h v d → DtAll σ h vs ds → DtAll σ h (v :: vs) (d :: ds)
end

/-- the object of a tag -/
def tagObj (d : Addr) (c : Int) (tc : Tok) (x : Str) (tx : Tok) : Obj := { cls := .ref TagC, dict := some d, data := .plain, slots := #[some (.int c tc), some (.str x tx)] }

/-- the names of the made object at a stand at d: none -/
def InstDict (σ : Store) (h : Heap) (a d : Addr) : Prop := d + 1 = a ∧ σ d = none ∧ ∃ od k, h.get? d = some od ∧ od.data = .dict #[] k
/-- no made object of a class of the program's -/
def NotInst (o : Obj) : Prop := (∀ c, o.cls ≠ .ref c) ∨ ∃ v, o.data = .cell v
/-- what stands behind b bears no names at b -/
def NextOk (h : Heap) (b : Addr) : Prop := b + 1 = h.objs.size ∨ ∃ o, h.get? (b + 1) = some o ∧ NotInst o
/-- b is no made object's dict -/
def Pk (h : Heap) (b : Addr) : Prop := (∀ o es k, h.get? b = some o → o.data = .dict es k → es ≠ #[]) ∨ NextOk h b
/-- a made object stands at a -/
def IsInst (h : Heap) (a : Addr) : Prop := ∃ o c, h.get? a = some o ∧ o.cls = .ref c ∧ ∀ v, o.data ≠ .cell v
/-- what came first is no made object -/
def FirstNew (h h' : Heap) : Prop := h'.objs.size = h.objs.size ∨ ∃ o, h'.get? h.objs.size = some o ∧ NotInst o
theorem NextOk.keep {h h' : Heap} {b : Addr} (x : NextOk h b) (hk : ∀ o, h.get? (b + 1) = some o → h'.get? (b + 1) = some o) (hf : FirstNew h h') : NextOk h' b := by
  rcases x with x | ⟨o, ho, hn⟩
  · rcases hf with hf | ⟨o, ho, hn⟩
    · exact .inl (x.trans hf.symm)
    · exact .inr ⟨o, by rw [x]; exact ho, hn⟩
  · exact .inr ⟨o, hk _ ho, hn⟩
theorem Pk.ne {h : Heap} {σ : Store} {a b d : Addr} (x : Pk h b) (i : InstDict σ h a d) (ia : IsInst h a) : d ≠ b := by
  obtain ⟨rfl, _, od, k, ho, hd⟩ := i
  obtain ⟨o, c, hoa, hc, hnc⟩ := ia
  rintro rfl
  rcases x with x | x | ⟨o', ho', hn⟩
  · exact x _ _ _ ho hd rfl
  · have := Heap.lt_size hoa
    rw [← x] at this
    exact Nat.lt_irrefl _ this
  · rw [hoa] at ho'; cases ho'
    rcases hn with hn | ⟨v, hn⟩
    · exact hn _ hc
    · exact hnc _ hn

/-- the object of a set of ints -/
def SetO (fz : Bool) (o : Obj) (S : Int → Bool) : Prop :=
  o.cls = .type (if fz then "frozenset" else "set") ∧ (∃ es ep t, o.data = .set es ep t) ∧ ∃ n, n < 1000 ∧ ({ o with cls := .type "set" } : Obj).IntSetOf S n

inductive Rel (σ : Store) (h : Heap) : AV → Value → Prop
  | dat {d v} : Dt σ h v d → Rel σ h (.dat d) v
  | obj (a) : Rel σ h (.obj a) (.ref a)
  | tag {a d c x tc tx} : σ a = none → h.get? a = some (tagObj d c tc x tx) → InstDict σ h a d → Rel σ h (.tag c x) (.ref a)
  | set {a o fz S} : σ a = none → h.get? a = some o → SetO fz o S → Rel σ h (.set fz S) (.ref a)
  | rng {a lo hi t u v} : σ a = none → IsRange h a lo hi 1 t u v → Rel σ h (.rng lo hi) (.ref a)
  | val (v) : Rel σ h (.val v) v

inductive RelAll (σ : Store) (h : Heap) : List AV → List Value → Prop
  | nil : RelAll σ h [] []
  | cons {a as v vs} : Rel σ h a v → RelAll σ h as vs → RelAll σ h (a :: as) (v :: vs)

theorem RelAll.length {σ : Store} {h : Heap} {as : List AV} {vs : List Value} (r : RelAll σ h as vs) : vs.length = as.length := by
  induction r with
  | nil => rfl
  | cons _ _ ih => simp [ih]
theorem RelAll.get {σ : Store} {h : Heap} {as : List AV} {vs : List Value} (r : RelAll σ h as vs) : ∀ (i : Nat) (a : AV), as[i]? = some a → ∃ v, vs[i]? = some v ∧ Rel σ h a v := by
  induction r with
  | nil => intro i a e; simp at e
  | cons h1 _ ih =>
    intro i a e
    cases i with
    | zero => simp at e; subst e; exact ⟨_, rfl, h1⟩
    | succ i => simp at e; obtain ⟨v, q, z⟩ := ih i a e; exact ⟨v, by simpa using q, z⟩
theorem RelAll.append {σ : Store} {h : Heap} {as bs : List AV} {vs us : List Value} (r : RelAll σ h as vs) (q : RelAll σ h bs us) : RelAll σ h (as ++ bs) (vs ++ us) := by
  induction r with
  | nil => exact q
  | cons h1 _ ih => exact .cons h1 ih
theorem RelAll.set {σ : Store} {h : Heap} {as : List AV} {vs : List Value} (r : RelAll σ h as vs) {a : AV} {v : Value} (q : Rel σ h a v) : ∀ i : Nat, RelAll σ h (as.set i a) (vs.set i v) := by
  induction r with
  | nil => intro i; exact .nil
  | cons h1 h2 ih =>
    intro i
    cases i with
    | zero => exact .cons q h2
    | succ i => exact .cons h1 (ih i)

/-- the object at a is o -/
def ObjAt (σ : Store) (h : Heap) (a : Addr) (o : AObj) : Prop :=
  ∃ vs n, RelAll σ h o.items vs ∧ match o.tags with
    | false => h.PlainList a vs.toArray
    | true => ∃ da, h.get? a = some { cls := .ref TagsC, dict := some da, data := .seq vs.toArray n } ∧ InstDict σ h a da

/-- what stood at the call's start stands -/
structure BK (B h : Heap) : Prop where
  k : ∀ b o, B.get? b = some o → (∀ ps, o ≠ tObj ps) → h.get? b = some o
  t : ∀ b ps, B.get? b = some (tObj ps) → ∃ more, h.get? b = some (tObj (ps ++ more)) ∧ (more = #[] ∨ isCodeTable B b) ∧ (TriplesOk ps.toList → TriplesOk (ps ++ more).toList)

structure Step (B : Heap) (Fs S : List Addr) (σ σ' : Store) (s s' : Shared) : Prop where
  k : ∀ b o, s.heap.get? b = some o → σ b = none → b ∉ S → (∀ ps, o ≠ tObj ps) → (b ∉ Fs ∨ ∀ es n, o.data ≠ .dict es n) → s'.heap.get? b = some o
  f : ∀ b o es n, s.heap.get? b = some o → σ b = none → b ∉ S → o.data = .dict es n → ∃ sl, s'.heap.get? b = some { o with slots := sl }
  t : ∀ b ps, s.heap.get? b = some (tObj ps) → σ b = none → b ∉ S → ∃ more, s'.heap.get? b = some (tObj (ps ++ more)) ∧ (more = #[] ∨ isCodeTable B b) ∧ (TriplesOk ps.toList → TriplesOk (ps ++ more).toList)
  dom : ∀ b, b < s.heap.objs.size → σ b = none → σ' b = none
  sz : s.heap.objs.size ≤ s'.heap.objs.size
  gens : s.gens.size ≤ s'.gens.size

theorem BK.refl (B : Heap) : BK B B := ⟨fun _ _ e _ => e, fun b ps e => ⟨#[], by simpa using e, .inl rfl, by simp⟩⟩

theorem BK.oldK {B h : Heap} (x : BK B h) : OldK B h := by
  refine ⟨fun b o e => ?_, fun b o e => ?_⟩
  · by_cases ht : ∃ ps, o = tObj ps
    · obtain ⟨ps, rfl⟩ := ht
      obtain ⟨more, h1, h2, _⟩ := x.t b ps e
      rcases h2 with rfl | h2
      · exact .inl (by simpa using h1)
      · exact .inr (.inl ⟨h2, rfl, ps, more, rfl, h1⟩)
    · exact .inl (x.k b o e fun ps q => ht ⟨ps, q⟩)
  · by_cases ht : ∃ ps, o = tObj ps
    · obtain ⟨ps, rfl⟩ := ht
      obtain ⟨more, h1, _⟩ := x.t b ps e
      exact ⟨_, h1⟩
    · exact ⟨o, x.k b o e fun ps q => ht ⟨ps, q⟩⟩

theorem Step.refl (B : Heap) (Fs S : List Addr) (σ : Store) (s : Shared) : Step B Fs S σ σ s s :=
  ⟨fun _ _ e _ _ _ _ => e, fun b o _ _ e _ _ _ => ⟨o.slots, e⟩, fun b ps e _ _ => ⟨#[], by simpa using e, .inl rfl, by simp⟩, fun _ _ q => q, Nat.le_refl _, Nat.le_refl _⟩

theorem tObj_inj {ps qs : Array Value} (h : tObj ps = tObj qs) : ps = qs := by injection h with _ _ h; injection h
theorem tObj_notDict {ps es n} : (tObj ps).data ≠ .dict es n := by simp [tObj]

section
variable {B : Heap} {Fs S : List Addr} {σ σ' σ'' : Store} {s s' s'' : Shared}

theorem Step.dom' (x : Step B Fs S σ σ' s s') {b : Addr} {o : Obj} (e : s.heap.get? b = some o) (h : σ b = none) : σ' b = none := x.dom b (Heap.lt_size e) h

theorem Step.trans (x : Step B Fs S σ σ' s s') (y : Step B Fs S σ' σ'' s' s'') : Step B Fs S σ σ'' s s'' where
  k b o e h1 h2 h3 h4 := y.k b o (x.k b o e h1 h2 h3 h4) (x.dom' e h1) h2 h3 h4
  f b o es n e h1 h2 h3 := by
    obtain ⟨sl, e'⟩ := x.f b o es n e h1 h2 h3
    obtain ⟨sl', e''⟩ := y.f b _ es n e' (x.dom' e h1) h2 h3
    exact ⟨sl', e''⟩
  t b ps e h1 h2 := by
    obtain ⟨m1, e1, q1, r1⟩ := x.t b ps e h1 h2
    obtain ⟨m2, e2, q2, r2⟩ := y.t b _ e1 (x.dom' e h1) h2
    refine ⟨m1 ++ m2, by rw [e2, Array.append_assoc], ?_, fun h => by rw [← Array.append_assoc]; exact r2 (r1 h)⟩
    rcases q1 with rfl | q1
    · rcases q2 with rfl | q2
      · exact .inl rfl
      · exact .inr q2
    · exact .inr q1
  dom b l h1 := y.dom b (Nat.lt_of_lt_of_le l x.sz) (x.dom b l h1)
  sz := Nat.le_trans x.sz y.sz
  gens := Nat.le_trans x.gens y.gens

/-- a wider set of what may change -/
theorem Step.mono {S' : List Addr} (x : Step B Fs S σ σ' s s') (h : ∀ b ∈ S, b ∈ S') : Step B Fs S' σ σ' s s' :=
  ⟨fun b o e h1 h2 => x.k b o e h1 (fun q => h2 (h b q)), fun b o es n e h1 h2 => x.f b o es n e h1 (fun q => h2 (h b q)), fun b ps e h1 h2 => x.t b ps e h1 (fun q => h2 (h b q)), x.dom, x.sz, x.gens⟩

/-- what is new in s may be left out of S and Fs, seen from an earlier state -/
theorem Step.shrink {Fs' S' : List Addr} {s₀ : Shared} {σ₀ : Store} (x₀ : Step B Fs' S' σ₀ σ s₀ s) (x : Step B Fs S σ σ' s s')
    (hS : ∀ b ∈ S, b ∈ S' ∨ s₀.heap.objs.size ≤ b) (hF : ∀ b ∈ Fs, b ∈ Fs' ∨ s₀.heap.objs.size ≤ b) : Step B Fs' S' σ₀ σ' s₀ s' where
  k b o e h1 h2 h3 h4 := by
    have l := Heap.lt_size e
    refine x.k b o (x₀.k b o e h1 h2 h3 h4) (x₀.dom' e h1) (fun q => ?_) h3 ?_
    · rcases hS b q with q | q
      · exact h2 q
      · exact absurd l (Nat.not_lt.mpr q)
    · refine h4.imp (fun q1 q2 => ?_) id
      rcases hF b q2 with q | q
      · exact q1 q
      · exact absurd l (Nat.not_lt.mpr q)
  f b o es n e h1 h2 h3 := by
    have l := Heap.lt_size e
    obtain ⟨sl, e'⟩ := x₀.f b o es n e h1 h2 h3
    obtain ⟨sl', e''⟩ := x.f b _ es n e' (x₀.dom' e h1) (fun q => by
      rcases hS b q with q | q
      · exact h2 q
      · exact absurd l (Nat.not_lt.mpr q)) h3
    exact ⟨sl', e''⟩
  t b ps e h1 h2 := by
    have l := Heap.lt_size e
    obtain ⟨m1, e1, q1, r1⟩ := x₀.t b ps e h1 h2
    obtain ⟨m2, e2, q2, r2⟩ := x.t b _ e1 (x₀.dom' e h1) (fun q => by
      rcases hS b q with q | q
      · exact h2 q
      · exact absurd l (Nat.not_lt.mpr q))
    refine ⟨m1 ++ m2, by rw [e2, Array.append_assoc], ?_, fun h => by rw [← Array.append_assoc]; exact r2 (r1 h)⟩
    rcases q1 with rfl | q1
    · rcases q2 with rfl | q2
      · exact .inl rfl
      · exact .inr q2
    · exact .inr q1
  dom b l h1 := x.dom b (Nat.lt_of_lt_of_le l x₀.sz) (x₀.dom b l h1)
  sz := Nat.le_trans x₀.sz x.sz
  gens := Nat.le_trans x₀.gens x.gens

/-- a state whose objects of s all stand -/
theorem Step.grow (hk : ∀ b o, s.heap.get? b = some o → s'.heap.get? b = some o) (hz : s.heap.objs.size ≤ s'.heap.objs.size) (hg : s.gens.size ≤ s'.gens.size)
    (hd : ∀ b, b < s.heap.objs.size → σ b = none → σ' b = none) : Step B Fs S σ σ' s s' :=
  ⟨fun b o e _ _ _ _ => hk b o e, fun b o _ _ e _ _ _ => ⟨o.slots, hk b o e⟩, fun b ps e _ _ => ⟨#[], by simpa using hk b _ e, .inl rfl, by simp⟩, hd, hz, hg⟩

theorem BK.step (x : BK B s.heap) (y : Step B Fs S σ σ' s s') (hσ : ∀ b o, B.get? b = some o → σ b = none) (hS : ∀ b o, B.get? b = some o → b ∉ S) (hF : ∀ b o, B.get? b = some o → b ∉ Fs) : BK B s'.heap where
  k b o e h := y.k b o (x.k b o e h) (hσ b o e) (hS b o e) h (.inl (hF b o e))
  t b ps e := by
    obtain ⟨m1, e1, q1, r1⟩ := x.t b ps e
    obtain ⟨m2, e2, q2, r2⟩ := y.t b _ e1 (hσ b _ e) (hS b _ e)
    refine ⟨m1 ++ m2, by rw [e2, Array.append_assoc], ?_, fun h => by rw [← Array.append_assoc]; exact r2 (r1 h)⟩
    rcases q1 with rfl | q1
    · rcases q2 with rfl | q2
      · exact .inl rfl
      · exact .inr q2
    · exact .inr q1

/-! data and values along a step -/
theorem seq_notTbl {o : Obj} {vs n} (h : o.data = .seq vs n) : ∀ ps, o ≠ tObj ps := fun ps q => by rw [q] at h; simp [tObj] at h
theorem seq_notDict {o : Obj} {vs n} (h : o.data = .seq vs n) : ∀ es k, o.data ≠ .dict es k := fun es k q => by rw [q] at h; simp at h

mutual
theorem Dt.step {v : Value} {d : PyData} (x : Step B Fs S σ σ' s s') (hS : ∀ b o vs n, s.heap.get? b = some o → o.data = .seq vs n → b ∉ S) : Dt σ s.heap v d → Dt σ' s'.heap v d
  | .none => .none
  | .bool b => .bool b
  | .int i t => .int i t
  | .str y t => .str y t
  | .list h1 h2 h3 h4 h5 => .list (x.dom' h2 h1) (x.k _ _ h2 h1 (hS _ _ _ _ h2 h4) (seq_notTbl h4) (.inr (seq_notDict h4))) h3 h4 (DtAll.step x hS h5)
  | .tuple h1 h2 h3 h4 h5 => .tuple (x.dom' h2 h1) (x.k _ _ h2 h1 (hS _ _ _ _ h2 h4) (seq_notTbl h4) (.inr (seq_notDict h4))) h3 h4 (DtAll.step x hS h5)
theorem DtAll.step {vs : List Value} {ds : List PyData} (x : Step B Fs S σ σ' s s') (hS : ∀ b o vs n, s.heap.get? b = some o → o.data = .seq vs n → b ∉ S) : DtAll σ s.heap vs ds → DtAll σ' s'.heap vs ds
  | .nil => .nil
  | .cons h1 h2 => .cons (Dt.step x hS h1) (DtAll.step x hS h2)
end

/-- the addresses of S bear namespaces or cells -/
def SOk (h : Heap) (S : List Addr) : Prop := ∀ b ∈ S, ∃ o, h.get? b = some o ∧ ((∃ es n, o.data = .dict es n ∧ Pk h b) ∨ (∃ v, o.data = .cell v) ∨ (∃ vs, o.data = .fields vs) ∧ o.cls ≠ .type "range")
theorem SOk.nil (h : Heap) : SOk h [] := fun _ hb => nomatch hb
theorem SOk.not {h : Heap} {S : List Addr} (x : SOk h S) {b : Addr} {o : Obj} (e : h.get? b = some o) (h1 : ∀ es n, o.data ≠ .dict es n) (h2 : ∀ v, o.data ≠ .cell v) (h3 : ∀ v, o.data = .fields v → o.cls = .type "range") : b ∉ S := fun hb => by
  obtain ⟨o', e', q⟩ := x b hb
  rw [e] at e'; cases e'
  rcases q with ⟨es, n, q, _⟩ | ⟨v, q⟩ | ⟨⟨v, q⟩, q'⟩
  · exact h1 es n q
  · exact h2 v q
  · exact q' (h3 v q)

theorem InstDict.step {a d : Addr} (x : Step B Fs S σ σ' s s') (hS : SOk s.heap S) (ia : IsInst s.heap a) (i : InstDict σ s.heap a d) : InstDict σ' s'.heap a d := by
  have i' := i
  obtain ⟨h1, h2, od, k, h3, h4⟩ := i
  have hd : d ∉ S := fun hm => by
    obtain ⟨o, ho, q⟩ := hS d hm
    rw [h3] at ho; cases ho
    rcases q with ⟨es, n, q, pk⟩ | ⟨v, q⟩ | ⟨⟨v, q⟩, _⟩
    · exact pk.ne i' ia rfl
    · rw [h4] at q; cases q
    · rw [h4] at q; cases q
  obtain ⟨sl, e⟩ := x.f d od _ _ h3 h2 hd h4
  exact ⟨h1, x.dom' h3 h2, _, k, e, h4⟩
theorem tagInstOf {h : Heap} {a d : Addr} {c : Int} {tc : Tok} {y : Str} {tx : Tok} (e : h.get? a = some (tagObj d c tc y tx)) : IsInst h a := ⟨_, _, e, rfl, by nofun⟩

theorem Rel.step {a : AV} {v : Value} (x : Step B Fs S σ σ' s s') (hS : SOk s.heap S) (r : Rel σ s.heap a v) : Rel σ' s'.heap a v := by
  cases r with
  | dat h => exact .dat (h.step x fun b o vs n e q => hS.not e (fun es k z => by rw [q] at z; cases z) (fun v z => by rw [q] at z; cases z) fun v z => by rw [q] at z; cases z)
  | obj a => exact .obj a
  | tag h1 h2 h3 => exact .tag (x.dom' h2 h1) (x.k _ _ h2 h1 (hS.not h2 (fun _ _ z => by cases z) (fun _ z => by cases z) fun _ z => by cases z) (fun ps z => by simp [tagObj, tObj] at z) (.inr fun es n z => by cases z)) (h3.step x hS (tagInstOf h2))
  | set h1 h2 h3 =>
    obtain ⟨es, ep, tb, h4⟩ := h3.2.1
    exact .set (x.dom' h2 h1) (x.k _ _ h2 h1 (hS.not h2 (fun _ _ z => by rw [h4] at z; cases z) (fun _ z => by rw [h4] at z; cases z) fun _ z => by rw [h4] at z; cases z) (fun ps z => by rw [z] at h4; simp [tObj] at h4) (.inr fun es n z => by rw [h4] at z; cases z)) h3
  | rng h1 h2 => exact .rng (x.dom' h2 h1) (x.k _ _ h2 h1 (hS.not h2 (fun _ _ z => by cases z) (fun _ z => by cases z) fun _ _ => rfl) (fun ps z => by simp [tObj] at z) (.inr fun es n z => by cases z))
  | val v => exact .val v
theorem RelAll.step {as : List AV} {vs : List Value} (x : Step B Fs S σ σ' s s') (hS : SOk s.heap S) (r : RelAll σ s.heap as vs) : RelAll σ' s'.heap as vs := by
  induction r with
  | nil => exact .nil
  | cons h _ ih => exact .cons (h.step x hS) ih
end
end Mine
end

section
open PySem PySem.W PyProof.Rows PySem.Calls
set_option Elab.async false
set_option maxRecDepth 100000
set_option linter.unusedVariables false
namespace Mine

/-- what stands fixed for the whole call -/
structure Cx where
  prog : Program
  w : World
  K : Frag
  mg : Str → Option Value
  mb : Str → Option Value
  B : Heap
  os : OsState

abbrev Cx.M (C : Cx) : Model := model C.prog C.w

structure Cx.Ok (C : Cx) : Prop where
  K : C.K.In C.B
  g : C.B.Ns mainGlobals C.mg
  b : C.B.Ns builtinsNs C.mb
  lim : C.B.NoLimit
  boot : ∀ x : Str, x ≠ "__name__" → C.mb x = bootBuiltins x
  bm : ∃ bm o, C.mg "__builtins__" = some (.ref bm) ∧ bm ≠ builtinsNs ∧ C.B.get? bm = some o ∧ o.cls = .type "module" ∧ o.dict = some builtinsNs ∧ o.data = .plain
  notTbl : ∀ a o, C.K.lookup a = some o → ∀ ps, o ≠ tObj ps

/-- a frame: its environment, its names' values, the frames around (its own first) -/
structure Fm where
  env : Env
  vars : List (Str × AV)
  fs : List Env

def Fm.own (F : Fm) : List Addr := F.env.locals :: F.env.cells.map (·.2)
def Fm.frs (F : Fm) : List Addr := F.fs.filterMap (·.frame)

def VarOk (σ : Store) (h : Heap) (env : Env) (m : Str → Option Value) (x : Str) (a : AV) : Prop :=
  match env.kindOf x with
  | some .local => ∃ v, m x = some v ∧ Rel σ h a v
  | some .cell | some .free => ∃ c v, env.cells.lookup x = some c ∧ h.IsCell c (some v) ∧ Rel σ h a v
  | _ => False

/-- a frame whose names are written has one bound -/
def NsNe (env : Env) (m : Str → Option Value) : Prop := (∃ x v, m x = some v) ∨ env.locals + 1 ∈ env.cells.map (·.2)

structure St (C : Cx) (A : Around) (F : Fm) (σ : Store) (s : Shared) : Prop where
  bk : BK C.B s.heap
  so : ∀ a o, σ a = some o → C.B.get? a = none ∧ ObjAt σ s.heap a o
  bare : AllBare s.gens
  os : s.os = C.os
  stack : A.frames = some F.fs
  ff : s.heap.FunFrames C.B F.fs
  fd : ∀ b ∈ F.frs, ∃ o es n, s.heap.get? b = some o ∧ o.data = .dict es n
  kind : F.env.scope.kind = .function
  gl : F.env.globals = mainGlobals
  bi : F.env.builtins = builtinsNs
  lB : C.B.get? F.env.locals = none
  cB : ∀ p ∈ F.env.cells, C.B.get? p.2 = none ∧ ∃ v, s.heap.IsCell p.2 v
  nd : (F.env.cells.map (·.2)).Nodup
  ns : ∃ m, s.heap.Ns F.env.locals m ∧ NsNe F.env m ∧ ∀ x a, F.vars.lookup x = some a → VarOk σ s.heap F.env m x a

section
variable {C : Cx} {A : Around} {F : Fm} {σ σ' : Store} {s s' : Shared} {h h' : Heap}

theorem ObjAt.at_ {a : Addr} {o : AObj} (x : ObjAt σ h a o) : ∃ ob vs n, h.get? a = some ob ∧ ob.data = .seq vs n := by
  obtain ⟨vs, n, _, q⟩ := x
  cases ht : o.tags with
  | false => rw [ht] at q; obtain ⟨m, q⟩ := q; exact ⟨_, _, _, q, rfl⟩
  | true => rw [ht] at q; obtain ⟨da, q, _⟩ := q; exact ⟨_, _, _, q, rfl⟩

/-- along a move that keeps all but records, and a step for the values -/
theorem ObjAt.move {a : Addr} {o : AObj} (x : ObjAt σ s.heap a o) (hk : ∀ b o, s.heap.get? b = some o → (∀ vs, o.data ≠ .fields vs) → s'.heap.get? b = some o) (hr : ∀ a v, Rel σ s.heap a v → Rel σ' s'.heap a v) (hσ : ∀ b o, s.heap.get? b = some o → σ b = none → σ' b = none) : ObjAt σ' s'.heap a o := by
  obtain ⟨vs, n, r, q⟩ := x
  have r' : RelAll σ' s'.heap o.items vs := by
    clear q
    generalize o.items = l at r
    induction r with
    | nil => exact .nil
    | cons h _ ih => exact .cons (hr _ _ h) ih
  refine ⟨vs, n, r', ?_⟩
  cases ht : o.tags with
  | false => rw [ht] at q; obtain ⟨m, q⟩ := q; exact ⟨m, hk _ _ q (by nofun)⟩
  | true => rw [ht] at q; obtain ⟨da, q, h1, h2, od, k, q2, q3⟩ := q; exact ⟨da, hk _ _ q (by nofun), h1, hσ _ _ q2 h2, od, k, hk _ _ q2 (fun vs z => by rw [q3] at z; cases z), q3⟩

theorem St.sB (x : St C A F σ s) {b : Addr} {o : Obj} (e : C.B.get? b = some o) : σ b = none := by
  cases q : σ b with
  | none => rfl
  | some z => have := (x.so b z q).1; rw [e] at this; cases this
theorem St.ownB (x : St C A F σ s) {b : Addr} {o : Obj} (e : C.B.get? b = some o) : b ∉ F.own := fun hb => by
  rcases List.mem_cons.mp hb with rfl | hb
  · rw [x.lB] at e; cases e
  · obtain ⟨p, hp, rfl⟩ := List.mem_map.mp hb
    rw [(x.cB p hp).1] at e; cases e
theorem St.frB (x : St C A F σ s) {b : Addr} {o : Obj} (e : C.B.get? b = some o) : b ∉ F.frs := fun hb => by
  rw [(x.ff.mem hb).1] at e; cases e
theorem St.sok (x : St C A F σ s) : SOk s.heap F.own := fun b hb => by
  rcases List.mem_cons.mp hb with rfl | hb
  · obtain ⟨m, ⟨o, es, ep, ho, hd, hk, hf⟩, hne, _⟩ := x.ns
    refine ⟨o, ho, .inl ⟨es, ep, hd, ?_⟩⟩
    rcases hne with ⟨y, v, hy⟩ | hc
    · refine .inl fun o' es' k' ho' hd' he => ?_
      rw [ho] at ho'; cases ho'
      rw [hd] at hd'; cases hd'
      subst he
      rw [← hf y] at hy
      simp [nsFind, findBy] at hy
    · obtain ⟨p, hp, e⟩ := List.mem_map.mp hc
      obtain ⟨_, v, oc, hoc, hdc⟩ := x.cB p hp
      exact .inr (.inr ⟨oc, by rw [← e]; exact hoc, .inr ⟨v, hdc⟩⟩)
  · obtain ⟨p, hp, rfl⟩ := List.mem_map.mp hb
    obtain ⟨_, v, o, ho, hd⟩ := x.cB p hp
    exact ⟨o, ho, .inr (.inl ⟨v, hd⟩)⟩

theorem St.bkStep {S : List Addr} (x : St C A F σ s) (y : Step C.B F.frs S σ σ' s s') (hS : ∀ b ∈ S, b ∈ F.own) : BK C.B s'.heap :=
  x.bk.step y (fun _ _ e => x.sB e) (fun _ _ e q => x.ownB e (hS _ q)) (fun _ _ e => x.frB e)

theorem St.K (x : St C A F σ s) (ok : C.Ok) : C.K.In s.heap := fun a o e => x.bk.k a o (ok.K a o e) (ok.notTbl a o e)
theorem Ns.ofBK {B h : Heap} {a m} (x : BK B h) (n : B.Ns a m) : h.Ns a m := let ⟨o, es, ep, ho, hd, r⟩ := n; ⟨o, es, ep, x.k _ _ ho (fun ps q => by rw [q] at hd; simp [tObj] at hd), hd, r⟩
theorem St.g (x : St C A F σ s) (ok : C.Ok) : s.heap.Ns mainGlobals C.mg := Ns.ofBK x.bk ok.g
theorem St.b (x : St C A F σ s) (ok : C.Ok) : s.heap.Ns builtinsNs C.mb := Ns.ofBK x.bk ok.b
theorem St.lim (x : St C A F σ s) (ok : C.Ok) : s.heap.NoLimit := let ⟨mc, n, q⟩ := ok.lim; ⟨mc, Ns.ofBK x.bk n, q⟩

theorem VarOk.move {m : Str → Option Value} {env : Env} {y : Str} {a : AV} (v : VarOk σ h env m y a) (hc : ∀ c v, h.IsCell c (some v) → h'.IsCell c (some v)) (hr : ∀ a v, Rel σ h a v → Rel σ' h' a v) : VarOk σ' h' env m y a := by
  unfold VarOk at v ⊢
  split
  · rename_i e; rw [e] at v; obtain ⟨v, h1, h2⟩ := v; exact ⟨v, h1, hr _ _ h2⟩
  · rename_i e; rw [e] at v; obtain ⟨c, v, h1, h2, h3⟩ := v; exact ⟨c, v, h1, hc _ _ h2, hr _ _ h3⟩
  · rename_i e; rw [e] at v; obtain ⟨c, v, h1, h2, h3⟩ := v; exact ⟨c, v, h1, hc _ _ h2, hr _ _ h3⟩
  · rename_i h1 h2 h3; split at v <;> simp_all

/-- a move that keeps all but records: the store and the frame stand -/
theorem St.move (x : St C A F σ s) (hk : ∀ b o, s.heap.get? b = some o → (∀ vs, o.data ≠ .fields vs) → s'.heap.get? b = some o) (hb : BK C.B s'.heap) (hbare : AllBare s'.gens) (hos : s'.os = s.os)
    (hr : ∀ a v, Rel σ s.heap a v → Rel σ s'.heap a v) : St C A F σ s' where
  bk := hb
  so a o e := ⟨(x.so a o e).1, (x.so a o e).2.move hk hr fun _ _ _ h => h⟩
  bare := hbare
  os := hos.trans x.os
  stack := x.stack
  ff := x.ff.of_keeps fun b o e q => ⟨o, hk b o e q, rfl⟩
  fd b hb := let ⟨o, es, n, ho, hd⟩ := x.fd b hb; ⟨o, es, n, hk _ _ ho (fun vs q => by rw [hd] at q; cases q), hd⟩
  kind := x.kind
  gl := x.gl
  bi := x.bi
  lB := x.lB
  cB p hp := ⟨(x.cB p hp).1, let ⟨_, v, o, ho, hd⟩ := x.cB p hp; ⟨v, o, hk _ _ ho (fun vs q => by rw [hd] at q; cases q), hd⟩⟩
  nd := x.nd
  ns := by
    obtain ⟨m, ⟨o, es, ep, ho, hd, r⟩, hne, hv⟩ := x.ns
    refine ⟨m, ⟨o, es, ep, hk _ _ ho (fun vs q => by rw [hd] at q; cases q), hd, r⟩, hne, fun y a e => (hv y a e).move (fun c v hc => ?_) hr⟩
    obtain ⟨o, ho, hd⟩ := hc
    exact ⟨o, hk _ _ ho (fun vs q => by rw [hd] at q; cases q), hd⟩

/-- all objects stand, new ones may have come -/
theorem St.grow (x : St C A F σ s) (hk : ∀ b o, s.heap.get? b = some o → s'.heap.get? b = some o) (hz : s.heap.objs.size ≤ s'.heap.objs.size) (hg : s.gens.size ≤ s'.gens.size) (hbare : AllBare s'.gens) (hos : s'.os = s.os) :
    St C A F σ s' ∧ Step C.B F.frs [] σ σ s s' := by
  have st : Step C.B F.frs [] σ σ s s' := .grow hk hz hg fun _ _ h => h
  exact ⟨x.move (fun b o e _ => hk b o e) (x.bkStep st (by simp)) hbare hos fun a v r => r.step st (.nil _), st⟩

/-- heap pushes and tokens alone -/
theorem St.push (x : St C A F σ s) (o : Obj) (tk : Nat) : St C A F σ { s with heap := s.heap.push o, toks := tk } ∧ Step C.B F.frs [] σ σ s { s with heap := s.heap.push o, toks := tk } :=
  x.grow (fun b o' e => Heap.get?_push_of_some _ e) (by rw [Heap.size_push]; exact Nat.le_succ _) (Nat.le_refl _) x.bare rfl
theorem St.tok (x : St C A F σ s) (tk : Nat) : St C A F σ { s with toks := tk } ∧ Step C.B F.frs [] σ σ s { s with toks := tk } :=
  x.grow (fun b o' e => e) (Nat.le_refl _) (Nat.le_refl _) x.bare rfl

/-- a fresh object into the store -/
theorem St.alloc {a : Addr} {o : AObj} (x : St C A F σ s) (ha : s.heap.objs.size ≤ a) (hk : ∀ b o, s.heap.get? b = some o → s'.heap.get? b = some o) (hz : s.heap.objs.size ≤ s'.heap.objs.size) (hg : s'.gens = s.gens) (hos : s'.os = s.os)
    (ho : ObjAt (upd σ a o) s'.heap a o) : St C A F (upd σ a o) s' ∧ Step C.B F.frs [] σ (upd σ a o) s s' ∧ σ a = none := by
  have fresh : s.heap.get? a = none := by
    cases q : s.heap.get? a with
    | none => rfl
    | some z => exact absurd (Heap.lt_size q) (Nat.not_lt.mpr ha)
  have hn : σ a = none := by
    cases q : σ a with
    | none => rfl
    | some z =>
      obtain ⟨ob, _, _, e, _⟩ := (x.so a z q).2.at_
      rw [fresh] at e; cases e
  have st : Step C.B F.frs [] σ (upd σ a o) s s' :=   .grow hk hz (by rw [hg]; exact Nat.le_refl _) fun b l q => by rw [upd_ne (Nat.ne_of_lt (Nat.lt_of_lt_of_le l ha))]; exact q
  have hr : ∀ a' v, Rel σ s.heap a' v → Rel (upd σ a o) s'.heap a' v := fun a' v r => r.step st (.nil _)
  have aB : C.B.get? a = none := by
    cases q : C.B.get? a with
    | none => rfl
    | some z =>
      by_cases ht : ∃ ps, z = tObj ps
      · obtain ⟨ps, rfl⟩ := ht
        obtain ⟨_, e, _⟩ := x.bk.t _ _ q
        rw [fresh] at e; cases e
      · have := x.bk.k _ _ q fun ps e => ht ⟨ps, e⟩
        rw [fresh] at this; cases this
  refine ⟨⟨x.bkStep st (by simp), fun b z e => ?_, by rw [hg]; exact x.bare, hos.trans x.os, x.stack, x.ff.of_keeps fun b o e _ => ⟨o, hk b o e, rfl⟩, fun b hb => let ⟨o, es, n, ho, hd⟩ := x.fd b hb; ⟨o, es, n, hk _ _ ho, hd⟩, x.kind, x.gl, x.bi, x.lB,
    fun p hp => ⟨(x.cB p hp).1, let ⟨_, v, o, ho, hd⟩ := x.cB p hp; ⟨v, o, hk _ _ ho, hd⟩⟩, x.nd, ?_⟩, st, hn⟩
  · by_cases hb : b = a
    · subst hb; rw [upd_self] at e; cases e; exact ⟨aB, ho⟩
    · rw [upd_ne hb] at e
      exact ⟨(x.so b z e).1, (x.so b z e).2.move (fun b o e _ => hk b o e) hr fun b o e h => by rw [upd_ne (Nat.ne_of_lt (Nat.lt_of_lt_of_le (Heap.lt_size e) ha))]; exact h⟩
  · obtain ⟨m, n, hne, hv⟩ := x.ns
    refine ⟨m, n.keeps hk, hne, fun y a e => (hv y a e).move (fun c v hc => ?_) hr⟩
    obtain ⟨o, ho, hd⟩ := hc
    exact ⟨o, hk _ _ ho, hd⟩
end
end Mine
end

section
open PySem PySem.W PyProof.Rows PySem.Calls
set_option Elab.async false
set_option maxRecDepth 100000
set_option linter.unusedVariables false
namespace Mine

abbrev NoE : Value → Shared → Prop := fun _ _ => False

/-- the tree t gives a value -/
def Tv (C : Cx) (A : Around) (F : Fm) (σ : Store) (t : Sem Value) (P : AV → Store → Prop) : Prop :=
  ∀ s, St C A F σ s → ∀ Q : Value → Shared → Prop,
    (∀ a v σ' s', P a σ' → St C A F σ' s' → Rel σ' s'.heap a v → Step C.B F.frs [] σ σ' s s' → Q v s') → wpAny C.M A t Q NoE s
abbrev Ev (C : Cx) (A : Around) (F : Fm) (σ : Store) (e : Expr) (P : AV → Store → Prop) : Prop := Tv C A F σ (eval e F.env) P
/-- the tree t gives a truth -/
def Tb (C : Cx) (A : Around) (F : Fm) (σ : Store) (t : Sem Bool) (P : Bool → Store → Prop) : Prop :=
  ∀ s, St C A F σ s → ∀ Q : Bool → Shared → Prop,
    (∀ b σ' s', P b σ' → St C A F σ' s' → Step C.B F.frs [] σ σ' s s' → Q b s') → wpAny C.M A t Q NoE s
abbrev Te (C : Cx) (A : Around) (F : Fm) (σ : Store) (e : Expr) (P : Bool → Store → Prop) : Prop := Tb C A F σ (isTrue e F.env (eval e F.env)) P

def O1 (C : Cx) (A : Around) (F : Fm) (σ : Store) (a : AV) (t : Value → Sem Value) (P : AV → Store → Prop) : Prop :=
  ∀ s v, St C A F σ s → Rel σ s.heap a v → ∀ Q : Value → Shared → Prop,
    (∀ c w σ' s', P c σ' → St C A F σ' s' → Rel σ' s'.heap c w → Step C.B F.frs [] σ σ' s s' → Q w s') → wpAny C.M A (t v) Q NoE s
def B1 (C : Cx) (A : Around) (F : Fm) (σ : Store) (a : AV) (t : Value → Sem Bool) (P : Bool → Store → Prop) : Prop :=
  ∀ s v, St C A F σ s → Rel σ s.heap a v → ∀ Q : Bool → Shared → Prop,
    (∀ c σ' s', P c σ' → St C A F σ' s' → Step C.B F.frs [] σ σ' s s' → Q c s') → wpAny C.M A (t v) Q NoE s
def O2 (C : Cx) (A : Around) (F : Fm) (σ : Store) (a b : AV) (t : Value → Value → Sem Value) (P : AV → Store → Prop) : Prop :=
  ∀ s v u, St C A F σ s → Rel σ s.heap a v → Rel σ s.heap b u → ∀ Q : Value → Shared → Prop,
    (∀ c w σ' s', P c σ' → St C A F σ' s' → Rel σ' s'.heap c w → Step C.B F.frs [] σ σ' s s' → Q w s') → wpAny C.M A (t v u) Q NoE s

abbrev AV.int (i : Int) : AV := .dat (.int i)
abbrev AV.bool (b : Bool) : AV := .dat (.bool b)
abbrev AV.str (x : Str) : AV := .dat (.str x)
abbrev AV.none : AV := .dat .none

section
variable {C : Cx} {A : Around} {F : Fm} {σ : Store} {P : AV → Store → Prop} {PB : Bool → Store → Prop}

theorem Rel.int {h : Heap} (i : Int) (tk : Tok) : Rel σ h (.int i) (.int i tk) := .dat (.int i tk)
theorem Rel.bool {h : Heap} (b : Bool) : Rel σ h (.bool b) (.bool b) := .dat (.bool b)
theorem Rel.str {h : Heap} (x : Str) (tk : Tok) : Rel σ h (.str x) (.str x tk) := .dat (.str x tk)
theorem Rel.none {h : Heap} : Rel σ h .none .none := .dat .none
theorem Rel.int_inv {h : Heap} {i : Int} {v : Value} (r : Rel σ h (.int i) v) : ∃ tk, v = .int i tk := by cases r with | dat r => cases r with | int i t => exact ⟨t, rfl⟩
theorem Rel.bool_inv {h : Heap} {i : Bool} {v : Value} (r : Rel σ h (.bool i) v) : v = .bool i := by cases r with | dat r => cases r with | bool i => rfl
theorem Rel.str_inv {h : Heap} {i : Str} {v : Value} (r : Rel σ h (.str i) v) : ∃ tk, v = .str i tk := by cases r with | dat r => cases r with | str i t => exact ⟨t, rfl⟩
theorem Rel.none_inv {h : Heap} {v : Value} (r : Rel σ h .none v) : v = .none := by cases r with | dat r => cases r with | none => rfl
theorem Rel.obj_inv {h : Heap} {a : Addr} {v : Value} (r : Rel σ h (.obj a) v) : v = .ref a := by cases r; rfl
theorem Rel.val_inv {h : Heap} {a v : Value} (r : Rel σ h (.val a) v) : v = a := by cases r; rfl

theorem Tv.mono {t : Sem Value} {P' : AV → Store → Prop} (x : Tv C A F σ t P) (h : ∀ a σ', P a σ' → P' a σ') : Tv C A F σ t P' :=
  fun s st Q hQ => x s st Q fun a v σ' s' p => hQ a v σ' s' (h a σ' p)
theorem Tb.mono {t : Sem Bool} {P' : Bool → Store → Prop} (x : Tb C A F σ t PB) (h : ∀ a σ', PB a σ' → P' a σ') : Tb C A F σ t P' :=
  fun s st Q hQ => x s st Q fun a σ' s' p => hQ a σ' s' (h a σ' p)

/-- no heap change: the value stands -/
theorem Tv.now {t : Sem Value} {a : AV} (h : ∀ s, St C A F σ s → ∀ Q : Value → Shared → Prop, (∀ v tk, Rel σ s.heap a v → Q v { s with toks := tk }) → wpAny C.M A t Q NoE s) (hP : P a σ) : Tv C A F σ t P :=
  fun s st Q hQ => h s st Q fun v tk r => hQ a v σ _ hP (st.tok tk).1 r (st.tok tk).2
theorem O2.now {a b c : AV} {t : Value → Value → Sem Value} (h : ∀ s v u, St C A F σ s → Rel σ s.heap a v → Rel σ s.heap b u → ∀ Q : Value → Shared → Prop, (∀ v tk, Rel σ s.heap c v → Q v { s with toks := tk }) → wpAny C.M A (t v u) Q NoE s) (hP : P c σ) : O2 C A F σ a b t P :=
  fun s v u st r1 r2 Q hQ => h s v u st r1 r2 Q fun w tk r => hQ c w σ _ hP (st.tok tk).1 r (st.tok tk).2
theorem O1.now {a c : AV} {t : Value → Sem Value} (h : ∀ s v, St C A F σ s → Rel σ s.heap a v → ∀ Q : Value → Shared → Prop, (∀ v tk, Rel σ s.heap c v → Q v { s with toks := tk }) → wpAny C.M A (t v) Q NoE s) (hP : P c σ) : O1 C A F σ a t P :=
  fun s v st r1 Q hQ => h s v st r1 Q fun w tk r => hQ c w σ _ hP (st.tok tk).1 r (st.tok tk).2
theorem B1.now {a : AV} {c : Bool} {t : Value → Sem Bool} (h : ∀ s v, St C A F σ s → Rel σ s.heap a v → ∀ Q : Bool → Shared → Prop, (∀ tk, Q c { s with toks := tk }) → wpAny C.M A (t v) Q NoE s) (hP : PB c σ) : B1 C A F σ a t PB :=
  fun s v st r1 Q hQ => h s v st r1 Q fun tk => hQ c σ _ hP (st.tok tk).1 (st.tok tk).2

/-! ## constants and names -/
theorem Ev_int {i : Int} {k pos} (hP : P (.int i) σ) : Ev C A F σ (.Constant (.int i) k pos) P :=
  .now (fun s st Q hQ => wpAny_Constant_int (hQ _ _ (.int i _))) hP
theorem Ev_str {x : Str} {k pos} (hP : P (.str x) σ) : Ev C A F σ (.Constant (.str x) k pos) P :=
  .now (fun s st Q hQ => wpAny_Constant_str (hQ _ _ (.str x _))) hP
theorem Ev_none {k pos} (hP : P .none σ) : Ev C A F σ (.Constant .none k pos) P :=
  .now (fun s st Q hQ => wpAny_Constant_none (hQ .none s.toks .none)) hP
theorem Ev_bool {b : Bool} {k pos} (hP : P (.bool b) σ) : Ev C A F σ (.Constant (.bool b) k pos) P :=
  .now (fun s st Q hQ => wpAny_Constant_bool (hQ (.bool b) s.toks (.bool b))) hP

theorem Ev_Name {x : Str} {pos : Pos} {a : AV} (hv : F.vars.lookup x = some a) (hP : P a σ) (hd : (x == ("__debug__" : Str)) = false := by decide) (hn : (x == ("__classdict__" : Str)) = false := by decide) :
    Ev C A F σ (.Name x pos) P := by
  refine .now (a := a) (fun s st Q hQ => wpAny_Name ?_ hd) hP
  obtain ⟨m, n, _, vs⟩ := st.ns
  have v := vs x a hv
  unfold VarOk at v
  split at v
  · rename_i e; obtain ⟨v, h1, h2⟩ := v; exact wpAny_loadName_local st.kind e n h1 (hQ v s.toks h2)
  · rename_i e; obtain ⟨c, v, h1, h2, h3⟩ := v; exact wpAny_loadName_cell st.kind e h1 h2 (hQ v s.toks h3)
  · rename_i e; obtain ⟨c, v, h1, h2, h3⟩ := v; exact wpAny_loadName_free st.kind e h1 h2 (hQ v s.toks h3) hn
  · exact v.elim

theorem Ev_Global {x : Str} {pos : Pos} {a : AV} {v : Value} (ok : C.Ok) (hk : F.env.kindOf x = some .globalImplicit) (hg : C.mg x = some v) (hr : ∀ h, Rel σ h a v) (hP : P a σ) (hd : (x == ("__debug__" : Str)) = false := by decide) :
    Ev C A F σ (.Name x pos) P := by
  refine .now (a := a) (fun s st Q hQ => ?_) hP
  refine Calls.Name_function_global st.kind hk ?_ hd
  refine Calls.loadGlobal_global (by rw [st.gl]; exact st.g ok) hg (hQ v s.toks (hr _))

theorem Ev_Builtin {x : Str} {pos : Pos} {v : Value} (ok : C.Ok) (hk : F.env.kindOf x = some .globalImplicit) (hg : C.mg x = none) (hb : bootBuiltins x = some v) (hn : x ≠ "__name__") (hP : P (.val v) σ) (hd : (x == ("__debug__" : Str)) = false := by decide) :
    Ev C A F σ (.Name x pos) P := by
  refine .now (a := .val v) (fun s st Q hQ => ?_) hP
  refine Calls.Name_function_global st.kind hk ?_ hd
  refine Calls.loadGlobal_builtin (by rw [st.gl]; exact st.g ok) hg (by rw [st.bi]; exact st.b ok) ((ok.boot x hn).trans hb) (hQ v s.toks (.val v))
end
end Mine
end

section
open PySem PySem.W PyProof.Rows PySem.Calls PySem.SeqAt
set_option Elab.async false
set_option maxRecDepth 100000
set_option linter.unusedVariables false
namespace Mine

mutual
/-- a, read to the ground, is the datum -/
inductive IsD (σ : Store) : AV → PyData → Prop
  | dat (d) : IsD σ (.dat d) d
  | list {a items ds} : σ a = some ⟨false, items⟩ → IsDs σ items ds → IsD σ (.obj a) (.list ds)
inductive IsDs (σ : Store) : List AV → List PyData → Prop
  | nil : IsDs σ [] []
  | cons {a as d ds} : IsD σ a d → IsDs σ as ds → IsDs σ (a :: as) (d :: ds)
end
theorem IsDs.map {σ : Store} : ∀ ds : List PyData, IsDs σ (ds.map .dat) ds
  | [] => .nil
  | d :: ds => .cons (.dat d) (IsDs.map ds)

mutual
theorem Dt.reads {σ : Store} {h : Heap} {v : Value} {d : PyData} : Dt σ h v d → ∃ as, Reads h v d as
  | .none => ⟨_, .none⟩
  | .bool b => ⟨_, .bool b⟩
  | .int i t => ⟨_, .int i t⟩
  | .str x t => ⟨_, .str x t⟩
  | .list h1 h2 h3 h4 h5 => let ⟨as, r⟩ := h5.reads; ⟨_, .list h2 h3 h4 r⟩
  | .tuple h1 h2 h3 h4 h5 => let ⟨as, r⟩ := h5.reads; ⟨_, .tuple h2 h3 h4 r⟩
theorem DtAll.reads {σ : Store} {h : Heap} {vs : List Value} {ds : List PyData} : DtAll σ h vs ds → ∃ as, ReadsAll h vs ds as
  | .nil => ⟨_, .nil⟩
  | .cons h1 h2 => let ⟨as, r⟩ := h1.reads; let ⟨bs, q⟩ := h2.reads; ⟨_, .cons r q⟩
end

section
variable {C : Cx} {A : Around} {F : Fm} {σ : Store} {P : AV → Store → Prop} {PB : Bool → Store → Prop}

mutual
theorem IsD.reads {s : Shared} (st : St C A F σ s) {a : AV} {v : Value} {d : PyData} (r : Rel σ s.heap a v) : IsD σ a d → ∃ as, Reads s.heap v d as
  | .dat d => by cases r with | dat r => exact r.reads
  | .list (a := x) (items := items) e h => by
    cases r
    obtain ⟨vs, n, ra, q⟩ := (st.so _ _ e).2
    obtain ⟨as, z⟩ := IsDs.reads st ra h
    obtain ⟨m, q⟩ := q
    exact ⟨_, .list q rfl rfl (by simpa using z)⟩
theorem IsDs.reads {s : Shared} (st : St C A F σ s) {as : List AV} {vs : List Value} {ds : List PyData} (r : RelAll σ s.heap as vs) : IsDs σ as ds → ∃ bs, ReadsAll s.heap vs ds bs
  | .nil => by cases r; exact ⟨_, .nil⟩
  | .cons h1 h2 => by
    cases r with
    | cons r1 r2 =>
      obtain ⟨xs, q1⟩ := IsD.reads st r1 h1
      obtain ⟨ys, q2⟩ := IsDs.reads st r2 h2
      exact ⟨_, .cons q1 q2⟩
end

/-- room for k calls more, one in another -/
structure Room (A : Around) (k : Nat) : Prop where
  depth : A.depth + 10 * k ≤ 990
  units : A.units + 200 * k + 200 ≤ 9000
theorem Room.cmp {k : Nat} (r : Room A k) : A.units + 64 < cLine := by have := r.units; have : cLine = 9900 := rfl; omega
theorem Room.cmp' {k : Nat} (r : Room A k) : A.units + 130 < cLine := by have := r.units; have : cLine = 9900 := rfl; omega
theorem Room.deep {k : Nat} (r : Room A k) (hk : 1 ≤ k) : A.depth < recursionLimit := by have := r.depth; have : recursionLimit = 1000 := rfl; omega
theorem Room.less {j k : Nat} (r : Room A k) (h : j ≤ k) : Room A j := ⟨by have := r.depth; omega, by have := r.units; omega⟩

/-! ## comparisons -/
theorem O2_eqI {i j : Int} (hP : P (.bool (i == j)) σ) : O2 C A F σ (.int i) (.int j) (compareOp .Eq) P :=
  .now (fun s v u st r1 r2 Q hQ => by obtain ⟨t, rfl⟩ := r1.int_inv; obtain ⟨t', rfl⟩ := r2.int_inv; exact PyProof.Rows.eq_int (hQ _ s.toks (.bool _))) hP
theorem O2_ltI {i j : Int} (hP : P (.bool (decide (i < j))) σ) : O2 C A F σ (.int i) (.int j) (compareOp .Lt) P :=
  .now (fun s v u st r1 r2 Q hQ => by obtain ⟨t, rfl⟩ := r1.int_inv; obtain ⟨t', rfl⟩ := r2.int_inv; exact PyProof.Rows.lt_int (hQ _ s.toks (.bool _))) hP
theorem O2_eqD {a b : AV} {da db : PyData} (room : Room A 0) (ha : IsD σ a da) (hb : IsD σ b db) (sa : shaped da = true) (sb : shaped db = true) (hP : P (.bool (PyData.eqv da db)) σ) : O2 C A F σ a b (compareOp .Eq) P :=
  .now (fun s v u st r1 r2 Q hQ => by obtain ⟨as, ra⟩ := ha.reads st r1; obtain ⟨bs, rb⟩ := hb.reads st r2; exact eq_dataH ra rb sa sb room.cmp (hQ _ s.toks (.bool _))) hP
theorem O2_neD {a b : AV} {da db : PyData} (room : Room A 0) (ha : IsD σ a da) (hb : IsD σ b db) (sa : shaped da = true) (sb : shaped db = true) (hP : P (.bool (!PyData.eqv da db)) σ) : O2 C A F σ a b (compareOp .NotEq) P :=
  .now (fun s v u st r1 r2 Q hQ => by obtain ⟨as, ra⟩ := ha.reads st r1; obtain ⟨bs, rb⟩ := hb.reads st r2; exact ne_dataH ra rb sa sb room.cmp (hQ _ s.toks (.bool _))) hP
theorem O2_inL {a b : AV} {d : PyData} {ds : List PyData} (room : Room A 0) (ha : IsD σ a d) (hb : IsD σ b (.list ds)) (sa : shaped d = true) (sb : PyData.canLayAll0 ds = true) (hP : P (.bool (ds.any fun y => PyData.eqv y d)) σ) : O2 C A F σ a b (compareOp .In) P :=
  .now (fun s v u st r1 r2 Q hQ => by
    obtain ⟨as, ra⟩ := ha.reads st r1; obtain ⟨bs, rb⟩ := hb.reads st r2
    have hc : d.canLay0 = true := by unfold shaped at sa; exact (Bool.and_eq_true_iff.mp sa).1
    exact SeqAt.in_list_reads rb ra sb hc (room_in_shaped sa (by have := room.cmp'; omega)) (hQ _ s.toks (.bool _))) hP
theorem O2_notInL {a b : AV} {d : PyData} {ds : List PyData} (room : Room A 0) (ha : IsD σ a d) (hb : IsD σ b (.list ds)) (sa : shaped d = true) (sb : PyData.canLayAll0 ds = true) (hP : P (.bool (!(ds.any fun y => PyData.eqv y d))) σ) : O2 C A F σ a b (compareOp .NotIn) P :=
  .now (fun s v u st r1 r2 Q hQ => by
    obtain ⟨as, ra⟩ := ha.reads st r1; obtain ⟨bs, rb⟩ := hb.reads st r2
    have hc : d.canLay0 = true := by unfold shaped at sa; exact (Bool.and_eq_true_iff.mp sa).1
    exact SeqAt.notIn_list_reads rb ra sb hc (room_in_shaped sa (by have := room.cmp'; omega)) (hQ _ s.toks (.bool _))) hP
theorem O2_inT {a b : AV} {d : PyData} {ds : List PyData} (room : Room A 0) (ha : IsD σ a d) (hb : IsD σ b (.tuple ds)) (sa : shaped d = true) (sb : PyData.canLayAll0 ds = true) (hP : P (.bool (ds.any fun y => PyData.eqv y d)) σ) : O2 C A F σ a b (compareOp .In) P :=
  .now (fun s v u st r1 r2 Q hQ => by
    obtain ⟨as, ra⟩ := ha.reads st r1; obtain ⟨bs, rb⟩ := hb.reads st r2
    have hc : d.canLay0 = true := by unfold shaped at sa; exact (Bool.and_eq_true_iff.mp sa).1
    exact SeqAt.in_tuple_reads rb ra sb hc (room_in_shaped sa (by have := room.cmp'; omega)) (hQ _ s.toks (.bool _))) hP

/-- is None, is not None, of a plain datum -/
def plainD : PyData → Bool
  | .none | .bool _ | .int _ | .str _ => true
  | _ => false
def isN : PyData → Bool
  | .none => true
  | _ => false
theorem O2_isNone {d : PyData} (hd : plainD d = true) (hP : P (.bool (isN d)) σ) : O2 C A F σ (.dat d) .none (compareOp .Is) P :=
  .now (c := .bool (isN d)) (fun s v u st r1 r2 Q hQ => by
    obtain rfl := r2.none_inv
    cases r1 with
    | dat r1 => cases r1 <;> first | exact absurd hd (by decide) | exact wpAny_is_plain rfl (hQ _ s.toks (.bool _))) hP
theorem O2_isNotNone {d : PyData} (hd : plainD d = true) (hP : P (.bool (!isN d)) σ) : O2 C A F σ (.dat d) .none (compareOp .IsNot) P :=
  .now (c := .bool (!isN d)) (fun s v u st r1 r2 Q hQ => by
    obtain rfl := r2.none_inv
    cases r1 with
    | dat r1 => cases r1 <;> first | exact absurd hd (by decide) | exact wpAny_isNot_plain rfl (hQ _ s.toks (.bool _))) hP

theorem Ev_Cmp {l r : Expr} {op : CmpOp} {pos : Pos} (h : Ev C A F σ l fun a σ₁ => Ev C A F σ₁ r fun b σ₂ => O2 C A F σ₂ a b (compareOp op) P) (hm : behindInMarks op r = false := by with_unfolding_all rfl) : Ev C A F σ (.Compare l [op] [r] pos) P :=
  fun s st Q hQ => wpAny_Compare1 (h s st _ fun a v σ₁ s₁ h₁ st₁ r₁ e₁ => h₁ s₁ st₁ _ fun b u σ₂ s₂ h₂ st₂ r₂ e₂ => h₂ s₂ v u st₂ (r₁.step e₂ (.nil _)) r₂ _ fun c w σ₃ s₃ h₃ st₃ r₃ e₃ => hQ c w σ₃ s₃ h₃ st₃ r₃ ((e₁.trans e₂).trans e₃)) hm

theorem Te_Cmp {l r : Expr} {op : CmpOp} {pos : Pos} (h : Ev C A F σ l fun a σ₁ => Ev C A F σ₁ r fun b σ₂ => O2 C A F σ₂ a b (compareOp op) fun c σ₃ => ∃ q, c = .bool q ∧ PB q σ₃) (hm : behindInMarks op r = false := by with_unfolding_all rfl) : Te C A F σ (.Compare l [op] [r] pos) PB :=
  fun s st Q hQ => wpAny_isTrue_Compare1 (h s st _ fun a v σ₁ s₁ h₁ st₁ r₁ e₁ => h₁ s₁ st₁ _ fun b u σ₂ s₂ h₂ st₂ r₂ e₂ => h₂ s₂ v u st₂ (r₁.step e₂ (.nil _)) r₂ _ fun c w σ₃ s₃ h₃ st₃ r₃ e₃ => by
    obtain ⟨q, rfl, hp⟩ := h₃
    obtain rfl := r₃.bool_inv
    exact wpAny_truthy_bool (hQ q σ₃ s₃ hp st₃ ((e₁.trans e₂).trans e₃))) hm

/-! ## arithmetic -/
theorem O2_add {i j : Int} (hP : P (.int (i + j)) σ) : O2 C A F σ (.int i) (.int j) (binaryOp .Add) P :=
  .now (fun s v u st r1 r2 Q hQ => by obtain ⟨t, rfl⟩ := r1.int_inv; obtain ⟨t', rfl⟩ := r2.int_inv; exact AutoIntOps.add_0 (hQ _ _ (.int _ _))) hP
theorem O2_sub {i j : Int} (hP : P (.int (i - j)) σ) : O2 C A F σ (.int i) (.int j) (binaryOp .Sub) P :=
  .now (fun s v u st r1 r2 Q hQ => by obtain ⟨t, rfl⟩ := r1.int_inv; obtain ⟨t', rfl⟩ := r2.int_inv; exact AutoIntOps.sub_0 (hQ _ _ (.int _ _))) hP
theorem O2_mod {i j : Int} (hj : 0 < j) (hP : P (.int (i % j)) σ) : O2 C A F σ (.int i) (.int j) (binaryOp .Mod) P :=
  .now (c := .int (i % j)) (fun s v u st r1 r2 Q hQ => by
    obtain ⟨t, rfl⟩ := r1.int_inv; obtain ⟨t', rfl⟩ := r2.int_inv
    refine AutoIntOps.mod_1 (by simp; omega) ?_
    rw [Int.fmod_eq_emod_of_nonneg _ (by omega)]
    exact hQ _ _ (.int _ _)) hP
theorem O2_div {i j : Int} (hj : 0 < j) (hs : j < 1000) (hP : P (.int (i / j)) σ) : O2 C A F σ (.int i) (.int j) (binaryOp .FloorDiv) P :=
  .now (c := .int (i / j)) (fun s v u st r1 r2 Q hQ => by
    obtain ⟨t, rfl⟩ := r1.int_inv; obtain ⟨t', rfl⟩ := r2.int_inv
    refine AutoIntOps.floordiv_1 (by simp; omega) ?_ ?_
    · unfold Builtin.divisionGoesByPylong
      have : ¬ (j == 0) = true := by simp; omega
      have l : j.natAbs.log2 < 10 := by
        have h0 : j.natAbs ≠ 0 := by omega
        rw [Nat.log2_lt h0]; omega
      simp only [this]
      simp
      intro h; omega
    · rw [Int.fdiv_eq_ediv_of_nonneg _ (by omega)]
      exact hQ _ _ (.int _ _)) hP
theorem Ev_Bin {l r : Expr} {op : Operator} {pos : Pos} (h : Ev C A F σ l fun a σ₁ => Ev C A F σ₁ r fun b σ₂ => O2 C A F σ₂ a b (binaryOp op) P) : Ev C A F σ (.BinOp l op r pos) P :=
  fun s st Q hQ => wpAny_BinOp (h s st _ fun a v σ₁ s₁ h₁ st₁ r₁ e₁ => h₁ s₁ st₁ _ fun b u σ₂ s₂ h₂ st₂ r₂ e₂ => h₂ s₂ v u st₂ (r₁.step e₂ (.nil _)) r₂ _ fun c w σ₃ s₃ h₃ st₃ r₃ e₃ => hQ c w σ₃ s₃ h₃ st₃ r₃ ((e₁.trans e₂).trans e₃))

/-! ## truth -/
theorem B1_bool {b : Bool} (hP : PB b σ) : B1 C A F σ (.bool b) truthy PB :=
  .now (fun s v st r Q hQ => by obtain rfl := r.bool_inv; exact wpAny_truthy_bool (hQ s.toks)) hP
theorem B1_list {a : Addr} {items : List AV} (ha : σ a = some ⟨false, items⟩) (hl : items.length < 2 ^ 30) (hP : PB (!items.isEmpty) σ) : B1 C A F σ (.obj a) truthy PB :=
  .now (c := !items.isEmpty) (fun s v st r Q hQ => by
    obtain rfl := r.obj_inv
    obtain ⟨vs, n, ra, q⟩ := (st.so _ _ ha).2
    have hl' : s.heap.IsList a vs.toArray := Heap.PlainList.isList q
    refine wpAny_truthy_list hl' (by have h9 : vs.length = items.length := ra.length; simp only [List.size_toArray]; omega) ?_
    have : (!items.isEmpty) = !vs.toArray.isEmpty := by cases ra <;> simp
    rw [← this]
    exact hQ _) hP
theorem Te_val {e : Expr} (h : Ev C A F σ e fun a σ₁ => B1 C A F σ₁ a truthy PB) (he : isTrue e F.env (eval e F.env) = (do let v ← eval e F.env; standAt e.pos; holding [v] (truthy v)) := by rfl) : Te C A F σ e PB :=
  fun s st Q hQ => wpAny_isTrue_value (h s st _ fun a v σ₁ s₁ h₁ st₁ r₁ e₁ => h₁ s₁ v st₁ r₁ _ fun c σ₂ s₂ h₂ st₂ e₂ => hQ c σ₂ s₂ h₂ st₂ (e₁.trans e₂)) he
theorem Te_Not {x : Expr} {pos : Pos} (h : Te C A F σ x fun b σ₁ => PB (!b) σ₁) : Te C A F σ (.UnaryOp .Not x pos) PB :=
  fun s st Q hQ => wpAny_isTrue_Not (h s st _ fun b σ₁ s₁ h₁ st₁ e₁ => hQ _ σ₁ s₁ h₁ st₁ e₁)
def Ta (C : Cx) (A : Around) (F : Fm) (σ : Store) (op : BoolOp) (es : List Expr) (PB : Bool → Store → Prop) : Prop := Tb C A F σ (allTrue op es F.env) PB
theorem Te_BoolOp {op : BoolOp} {es : List Expr} {pos : Pos} (h : Ta C A F σ op es PB) : Te C A F σ (.BoolOp op es pos) PB :=
  fun s st Q hQ => wpAny_isTrue_BoolOp (h s st Q hQ)
theorem Ta_andNil (h : PB true σ) : Ta C A F σ .And [] PB := fun s st Q hQ => wpAny_allTrue_And_nil (hQ _ _ _ h st (.refl ..))
theorem Ta_orNil (h : PB false σ) : Ta C A F σ .Or [] PB := fun s st Q hQ => wpAny_allTrue_Or_nil (hQ _ _ _ h st (.refl ..))
theorem Ta_and {x : Expr} {r : List Expr} (h : Te C A F σ x fun b σ₁ => if b then Ta C A F σ₁ .And r PB else PB false σ₁) : Ta C A F σ .And (x :: r) PB :=
  fun s st Q hQ => wpAny_allTrue_And_cons (h s st _ fun b σ₁ s₁ h₁ st₁ e₁ => by
    cases b with
    | true => exact h₁ s₁ st₁ _ fun c σ₂ s₂ h₂ st₂ e₂ => hQ c σ₂ s₂ h₂ st₂ (e₁.trans e₂)
    | false => exact hQ _ σ₁ s₁ h₁ st₁ e₁)
theorem Ta_or {x : Expr} {r : List Expr} (h : Te C A F σ x fun b σ₁ => if b then PB true σ₁ else Ta C A F σ₁ .Or r PB) : Ta C A F σ .Or (x :: r) PB :=
  fun s st Q hQ => wpAny_allTrue_Or_cons (h s st _ fun b σ₁ s₁ h₁ st₁ e₁ => by
    cases b with
    | false => exact h₁ s₁ st₁ _ fun c σ₂ s₂ h₂ st₂ e₂ => hQ c σ₂ s₂ h₂ st₂ (e₁.trans e₂)
    | true => exact hQ _ σ₁ s₁ h₁ st₁ e₁)
theorem Ev_IfExp {t b o : Expr} {pos : Pos} (h : Te C A F σ t fun c σ₁ => if c then Ev C A F σ₁ b P else Ev C A F σ₁ o P) : Ev C A F σ (.IfExp t b o pos) P :=
  fun s st Q hQ => wpAny_IfExp (h s st _ fun c σ₁ s₁ h₁ st₁ e₁ => by
    cases c
    · exact h₁ s₁ st₁ _ fun a v σ₂ s₂ h₂ st₂ r₂ e₂ => hQ a v σ₂ s₂ h₂ st₂ r₂ (e₁.trans e₂)
    · exact h₁ s₁ st₁ _ fun a v σ₂ s₂ h₂ st₂ r₂ e₂ => hQ a v σ₂ s₂ h₂ st₂ r₂ (e₁.trans e₂))
end
end Mine
end

section
open PySem PySem.W PyProof.Rows PySem.Calls PySem.SeqAt
set_option Elab.async false
set_option maxRecDepth 100000
set_option linter.unusedVariables false
namespace Mine

/-- what the written part says of class Tags -/
structure TF (K : Frag) : Prop where
  mro : mroIn K TagsC (.type "list") = some true
  mroI : mroIn K TagsC (.type "int") = some false
  deq : subIn K (.ref TagsC) (.type "collections.deque") = some false
  iter : findIn K (.ref TagsC) "__iter__" = some (some (.builtin "list.__iter__"))
  getitem : findIn K (.ref TagsC) "__getitem__" = some (some (.builtin "list.__getitem__"))
  setitem : findIn K (.ref TagsC) "__setitem__" = some (some (.builtin "list.__setitem__"))
  len : findIn K (.ref TagsC) "__len__" = some (some (.builtin "list.__len__"))
  append : findIn K (.ref TagsC) "append" = some (some (.builtin "list.append"))

/-- an object of class Tags -/
def TagsAt (h : Heap) (a : Addr) (vs : Array Value) : Prop := ∃ da n, h.get? a = some { cls := .ref TagsC, dict := some da, data := .seq vs n } ∧ ∃ od k, h.get? da = some od ∧ od.data = .dict #[] k

section
variable {prog : Program} {w : World} {M : Model} {A : Around} {E : Value → Shared → Prop} {s : Shared} {K : Frag} {a : Addr} {vs : Array Value}

theorem TagsAt.inst {h : Heap} (x : TagsAt h a vs) : ∃ ox od, InstAt h a ox TagsC (some od) ∧ ∃ k, od.data = .dict #[] k := by
  obtain ⟨da, n, h1, od, k, h2, h3⟩ := x
  exact ⟨_, _, ⟨h1, rfl, rfl, h2⟩, k, h3⟩
theorem TagsAt.obj {h : Heap} (x : TagsAt h a vs) : ∃ o n, h.get? a = some o ∧ o.data = .seq vs n ∧ o.cls = .ref TagsC := by
  obtain ⟨da, n, h1, _⟩ := x
  exact ⟨_, _, h1, rfl, rfl⟩

theorem tg_type (x : TagsAt s.heap a vs) {Q : Value → Shared → Prop} (h : Q (.ref TagsC) s) : wpAny M A (typeOf (.ref a)) Q E s := by
  obtain ⟨ox, od, I, _⟩ := x.inst
  exact I.type.here h
theorem tg_spec (X : K.In s.heap) (x : TagsAt s.heap a vs) {name : Str} {r : Option Value} (e : findIn K (.ref TagsC) name = some r) {Q : Option Value → Shared → Prop} (h : Q r s) : wpAny M A (specialOf (.ref a) name) Q E s := by
  unfold specialOf
  exact wpAny_bind (tg_type x ((looks_findIn X e).here h))
theorem tg_isList (X : K.In s.heap) (T : TF K) (x : TagsAt s.heap a vs) {Q : Bool → Shared → Prop} (h : Q true s) : wpAny M A (isInstance (.ref a) (.type "list")) Q E s := by
  unfold isInstance
  exact wpAny_bind (tg_type x ((looks_mroIn X T.mro).here h))

theorem tg_check (X : K.In s.heap) (T : TF K) (x : TagsAt s.heap a vs) {id n : String} {rest : List Value} {kw : List (Str × Value)} {Q : Unit → Shared → Prop}
    (hsplit : splitId id = some ("list", n)) (hkind : (Manifest.find? "list").bind (·.attrs.lookup n) = some .slot ∨ (Manifest.find? "list").bind (·.attrs.lookup n) = some .method)
    (ha : argsOk id ⟨.ref a :: rest, kw⟩) (hQ : Q () s) : wpAny M A (checkBuiltinCall id ⟨.ref a :: rest, kw⟩) Q E s := by
  have hk : builtinKind id = (Manifest.find? "list").bind (·.attrs.lookup n) := by simp only [builtinKind, hsplit]
  rcases hkind with h | h <;>
  · simp only [checkBuiltinCall, hk, h, hsplit]
    refine wpAny_bind (tg_isList X T x ?_)
    simp only [Bool.not_true, Bool.false_eq_true, if_false]
    unfold argsOk at ha
    first
      | exact wpAny_of_eq ha hQ
      | (split at ha
         · rename_i h2; simp only [h2]; exact wpAny_of_eq ha hQ
         · rename_i h2; simp only [h2]; exact wpAny_pure hQ)

theorem tg_call (X : K.In s.heap) (T : TF K) (x : TagsAt s.heap a vs) {id n : String} {b : Builtin} {rest : List Value} {Q : Value → Shared → Prop}
    (hsplit : splitId id = some ("list", n)) (hkind : (Manifest.find? "list").bind (·.attrs.lookup n) = some .slot ∨ (Manifest.find? "list").bind (·.attrs.lookup n) = some .method) (hp : plainId id = true)
    (hb : entryFor table id = some b) (ha : argsOk id ⟨.ref a :: rest, []⟩)
    (hc : wpAny (model prog w) A.in1 (b ⟨.ref a :: rest, []⟩) (fun fin s' => ∃ v, fin = .done (.ret v) ∧ Q v s') E s) : wpAny (model prog w) A (call (.builtin id) (.ref a :: rest)) Q E s := by
  refine wpAny_call (codeAny_call_builtin hp hb (tg_check X T x hsplit hkind ha (wpAny_mono hc (fun fin s' h' => ?_) fun _ _ h' => h')))
  obtain ⟨v, rfl, hv⟩ := h'; exact hv

theorem tg_callSpecial (X : K.In s.heap) (x : TagsAt s.heap a vs) {name : Str} {id : String} {args : List Value} {Q : Option Value → Shared → Prop}
    (e : findIn K (.ref TagsC) name = some (some (.builtin id))) (hb : ∀ self, bindSpecial (.builtin id) self = pure (.builtin id, [self]))
    (hc : wpAny M A (call (.builtin id) (.ref a :: args)) (fun v => Q (some v)) E s) : wpAny M A (callSpecial? (.ref a) name args) Q E s := by
  simp only [callSpecial?]
  refine wpAny_bind (tg_spec X x e ?_)
  simp only [hb]
  exact wpAny_holding (wpAny_bind (wpAny_pure (wpAny_bind (wpAny_mono hc (fun v s' h' => wpAny_pure h') fun _ _ h' => h'))))

theorem tg_callBound (X : K.In s.heap) (x : TagsAt s.heap a vs) {name : Str} {id : String} {refuse : Sem Value} {Q : Option Value → Shared → Prop}
    (e : findIn K (.ref TagsC) name = some (some (.builtin id))) (hb : ∀ self, bindSpecial (.builtin id) self = pure (.builtin id, [self]))
    (hc : wpAny M A (call (.builtin id) [.ref a]) (fun v => Q (some v)) E s) : wpAny M A (callSpecialIfBoundUnlessNone? (.ref a) name refuse) Q E s := by
  simp only [callSpecialIfBoundUnlessNone?, bindSpecialIfBound?]
  refine wpAny_holding (wpAny_bind (wpAny_bind (tg_spec X x e ?_)))
  simp only [hb]
  refine wpAny_bind (wpAny_askSetting (wpAny_ite ?_))
  have fin : wpAny M A (if (Value.builtin id == Value.none) = true then (refuse >>= fun v => pure (some v)) else (call (.builtin id) [.ref a] >>= fun v => pure (some v))) Q E s := by
    simp only [builtin_beq_none, Bool.false_eq_true, if_false]
    exact wpAny_bind (wpAny_mono hc (fun v s' h' => wpAny_pure h') fun _ _ h' => h')
  split
  · exact wpAny_bind (wpAny_pure (wpAny_pure fin))
  · exact wpAny_tryCatch (wpAny_bind (wpAny_pure (wpAny_pure fin)))

theorem tg_pyIter (X : K.In s.heap) (T : TF K) (x : TagsAt s.heap a vs) {Q : Value → Shared → Prop}
    (hQ : Q (.ref s.heap.objs.size) { s with heap := s.heap.push { cls := .type "list_iterator", data := .fields #[.ref a, .int 0 0] } }) : wpAny (model prog w) A (pyIter (.ref a)) Q E s := by
  unfold pyIter
  refine wpAny_bind (tg_spec X x T.iter ?_)
  show wpAny _ A (callSpecialIfBoundUnlessNone? (.ref a) "__iter__" _ >>= _) Q E s
  refine wpAny_bind (tg_callBound X x T.iter slot_list_iter.bind (tg_call X T x (n := "__iter__") (by decide +kernel) (by first | exact .inl (by decide +kernel) | exact .inr (by decide +kernel)) slot_list_iter.plain entry_list_iter (args_list_iter _) ?_))
  show wpAny _ _ (do ret (← newFields "list_iterator" [.ref a, rawInt 0])) _ _ s
  refine wpAny_bind (wpAny_newObj_type (wpAny_pure ⟨_, rfl, ?_⟩))
  refine wpAny_bind (wpAny_specialOf (T := "list_iterator") ⟨_, Heap.get?_push_size _ rfl, rfl⟩ slot_listiter_next.lookup (wpAny_pure hQ))

/-- the next item of a list iterator over any sequence object -/
theorem tg_pyNext {it l : Addr} {i : Nat} {o : Obj} {n : Nat} {x : Value} {Q : Option Value → Shared → Prop} (hit : s.heap.IsListIter it l i)
    (hol : s.heap.get? l = some o) (hdl : o.data = .seq vs n) (hx : vs[i]? = some x)
    (hQ : ∀ h', h'.IsListIter it l (i + 1) → Heap.SameBut it s.heap h' → Q (some x) { s with heap := h' }) :
    wpAny (model prog w) A (pyNext (.ref it)) Q E s := by
  obtain ⟨oi, ho, hc, hd⟩ := id hit
  unfold pyNext
  refine wpAny_bind (wpAny_attempt (wpAny_callSpecial?_slot (name := Str.ofString "__next__") hit.typeIs slot_listiter_next
    (wpAny_call_entry slot_listiter_next hit.typeIs entry_listiter_next ?_ (args_listiter_next _))))
  show wpAny _ _ (field (.ref it) 0 >>= _) _ _ s
  refine wpAny_bind (wpAny_field ho hd (x := .ref l) rfl ?_)
  show wpAny _ _ (if (Value.ref l == Value.none) = true then _ else _) _ _ s
  rw [if_neg (show ¬ ((Value.ref l == Value.none) = true) from Bool.false_ne_true)]
  show wpAny _ _ (field (.ref it) 1 >>= _) _ _ s
  refine wpAny_bind (wpAny_field ho hd (x := .int i 0) rfl ?_)
  show wpAny _ _ (seqItems? (.ref l) >>= _) _ _ s
  refine wpAny_bind (wpAny_seqItems hol hdl ?_)
  simp only [Int.toNat_natCast, hx]
  refine wpAny_bind (wpAny_setField ho hd (by simp) (wpAny_pure ⟨x, rfl, wpAny_pure (hQ _ ?_ (Heap.SameBut.update ..))⟩))
  exact ⟨_, Heap.get?_update_self _ ho (Obj.isFreed_of_fields (Obj.data_mapFields hd _)), (Obj.cls_mapFields ..).trans hc, by
    rw [Obj.data_mapFields hd]; simp [rawInt]⟩

theorem tg_pyNext_end {it l : Addr} {i : Nat} {o : Obj} {n : Nat} {Q : Option Value → Shared → Prop} (hh : A.handled = none) (hit : s.heap.IsListIter it l i)
    (hol : s.heap.get? l = some o) (hdl : o.data = .seq vs n) (hx : vs[i]? = none)
    (hQ : ∀ h', Heap.ExtBut it s.heap h' → s.heap.objs.size ≤ h'.objs.size → (∃ o, h'.get? s.heap.objs.size = some o ∧ o.cls = .type "tuple") → Q none { s with heap := h' }) : wpAny (model prog w) A (pyNext (.ref it)) Q E s := by
  obtain ⟨oi, ho, hc, hd⟩ := id hit
  unfold pyNext
  refine wpAny_bind (wpAny_attempt (wpAny_callSpecial?_slot (name := Str.ofString "__next__") hit.typeIs slot_listiter_next
    (wpAny_call_entry slot_listiter_next hit.typeIs entry_listiter_next ?_ (args_listiter_next _))))
  show wpAny _ _ (field (.ref it) 0 >>= _) _ _ s
  refine wpAny_bind (wpAny_field ho hd (x := .ref l) rfl ?_)
  show wpAny _ _ (if (Value.ref l == Value.none) = true then _ else _) _ _ s
  rw [if_neg (show ¬ ((Value.ref l == Value.none) = true) from Bool.false_ne_true)]
  show wpAny _ _ (field (.ref it) 1 >>= _) _ _ s
  refine wpAny_bind (wpAny_field ho hd (x := .int i 0) rfl ?_)
  show wpAny _ _ (seqItems? (.ref l) >>= _) _ _ s
  refine wpAny_bind (wpAny_seqItems hol hdl ?_)
  simp only [Int.toNat_natCast, hx]
  refine wpAny_bind (wpAny_rule (wpAny_bind (wpAny_setField ho hd (by simp) ?_)))
  show wpAny _ _ (newExc (.type "StopIteration") [] >>= _) _ _ _
  refine wpAny_bind ?_
  simp only [newExc, newTuple]
  refine wpAny_bind (wpAny_newObj_type ?_ (by size_fits))
  refine wpAny_bind (m := firstArgMember _ _) (wpAny_of_eq (a := Value.none) (by first | rfl | (simp only [firstArgMember]; rfl)) ?_)
  refine wpAny_newObj_type ?_ (by size_fits)
  simp only [raiseNew]
  refine wpAny_bind (wpAny_handled ?_)
  rw [show A.in1.handled = none from hh]
  refine wpAny_bind (wpAny_pure (wpAny_throw ?_))
  refine wpAny_bind (wpAny_isInstance (T := "StopIteration") (b := true) ⟨_, Heap.get?_push_size _ rfl, rfl⟩ isSubtype_stop ?_)
  exact wpAny_pure (hQ _ (((Heap.SameBut.update ..).extBut.push _).push _) (by simp only [Heap.size_push, Heap.size_after_update]; omega) ⟨_, Heap.get?_push_of_some _ (by have := Heap.get?_push_size (s.heap.update it (Obj.mapFields (·.setIfInBounds 0 .none))) (o := { cls := .type "tuple", data := .seq #[] }) rfl; rw [Heap.size_after_update] at this; exact this), rfl⟩)

theorem tg_seqKey (X : K.In s.heap) (T : TF K) (x : TagsAt s.heap a vs) {k : Value} {name : Str} {Q : Value → Shared → Prop} (h : Q k s) : wpAny M A (sequenceKey (.ref a) k name) Q E s := by
  unfold sequenceKey
  refine wpAny_bind (tg_type x ?_)
  dsimp only
  refine wpAny_bind ?_
  show wpAny M A (seqItemTypes.anyM fun n => isSubtype (.ref TagsC) (.type n)) _ E s
  simp only [seqItemTypes, List.anyM]
  refine wpAny_bind ((looks_subIn X T.deq).here ?_)
  dsimp only
  exact wpAny_pure (by simp only [Bool.not_false, if_true]; exact wpAny_pure h)

theorem tg_getItem (X : K.In s.heap) (T : TF K) (x : TagsAt s.heap a vs) {k : Int} {t : Tok} {v : Value} {Q : Value → Shared → Prop}
    (h0 : 0 ≤ k) (hfit : k < 2 ^ 63) (hx : vs[k.toNat]? = some v) (h : Q v s) : wpAny (model prog w) A (getItem (.ref a) (.int k t)) Q E s := by
  obtain ⟨o, n, ho, hd, hc⟩ := x.obj
  unfold getItem
  refine wpAny_holding (wpAny_bind (tg_seqKey X T x ?_))
  refine wpAny_bind (tg_callSpecial X x T.getitem slot_list_getitem.bind (tg_call X T x (n := "__getitem__") (by decide +kernel) (by first | exact .inl (by decide +kernel) | exact .inr (by decide +kernel)) slot_list_getitem.plain entry_list_getitem (args_list_getitem _ _) ?_))
  show wpAny _ _ (Builtin.List.listSubscript? (.int k t) >>= _) _ _ s
  refine wpAny_bind (wpAny_listSubscript_int (fitsIndex_of h0 hfit) ?_)
  clear hfit
  obtain ⟨j, rfl⟩ := Int.eq_ofNat_of_zero_le h0
  have hx' : vs[j]? = some v := hx
  show wpAny _ _ ((seqItemAt a j >>= fun r => pure (r.map (j, ·))) >>= _) _ _ s
  refine wpAny_bind (wpAny_bind (wpAny_seqItemAt ho hd (wpAny_pure ?_)))
  rw [hx']
  first
    | exact wpAny_bind (wpAny_pure (wpAny_pure ⟨v, rfl, wpAny_pure h⟩))
    | exact wpAny_pure ⟨v, rfl, wpAny_pure h⟩

theorem tg_len (X : K.In s.heap) (T : TF K) (x : TagsAt s.heap a vs) {Q : Value → Shared → Prop} (hfit : (vs.size : Int) < 2 ^ 62) (h : Q (.int vs.size (s.toks + 1)) { s with toks := s.toks + 1 + 1 }) :
    wpAny (model prog w) A (call (.builtin "len") [.ref a]) Q E s := by
  obtain ⟨o, n, ho, hd, hc⟩ := x.obj
  refine call_function_entry kind_len plain_len entry_len (args_len1 _) ?_
  unfold Builtin.«len»
  refine wpAny_bind (m := oneArg "len" _) (wpAny_pure ?_)
  refine wpAny_bind (m := callSpecial? (.ref a) (Str.ofString "__len__")) (tg_callSpecial X x T.len slot_list_len.bind (tg_call X T x (n := "__len__") (by decide +kernel) (by first | exact .inl (by decide +kernel) | exact .inr (by decide +kernel)) slot_list_len.plain entry_list_len (args_list_len _) ?_))
  show wpAny _ _ (do retInt (← seqSize a)) _ _ s
  unfold seqSize
  refine wpAny_bind (wpAny_bind (wpAny_load ho ?_))
  rw [hd]
  refine wpAny_pure (wpAny_bind (wpAny_mkInt (wpAny_pure ⟨_, rfl, ?_⟩)))
  refine wpAny_bind (wpAny_holding (wpAny_pure ?_))
  refine wpAny_bind (wpAny_letGo ?_)
  show wpAny _ _ (if ((vs.size : Nat) : Int) < 0 then _ else _) _ _ _
  rw [if_neg (by omega)]
  show wpAny _ _ (if ((vs.size : Nat) : Int) ≥ 2 ^ 63 then _ else _) _ _ _
  rw [if_neg (by omega)]
  exact wpAny_bind (wpAny_mkInt (wpAny_pure ⟨_, rfl, h⟩))

theorem TagsAt.upd {h : Heap} (x : TagsAt h a vs) (f : Array Value → Array Value) : TagsAt (h.update a (Obj.mapSeq f)) a (f vs) := by
  obtain ⟨da, n, h1, od, k, h2, h3⟩ := x
  have ne : a ≠ da := fun q => by rw [q, h2] at h1; cases h1; cases h3
  exact ⟨da, _, Heap.get?_update_self _ h1 rfl, od, k, (Heap.get?_update_other _ _ ne).trans h2, h3⟩

theorem tg_setItem (X : K.In s.heap) (T : TF K) (x : TagsAt s.heap a vs) {k : Int} {t : Tok} {v : Value} {Q : Unit → Shared → Prop}
    (h0 : 0 ≤ k) (hfit : k < 2 ^ 63) (hn : k < vs.size) (h : Q () { s with heap := s.heap.update a (Obj.mapSeq (·.setIfInBounds k.toNat v)) }) : wpAny (model prog w) A (setItem (.ref a) (.int k t) v) Q E s := by
  obtain ⟨o, n, ho, hd, hc⟩ := x.obj
  unfold setItem
  refine wpAny_holding (wpAny_bind (tg_seqKey X T x ?_))
  refine wpAny_bind (tg_callSpecial X x T.setitem slot_list_setitem.bind (tg_call X T x (n := "__setitem__") (by decide +kernel) (by first | exact .inl (by decide +kernel) | exact .inr (by decide +kernel)) slot_list_setitem.plain entry_list_setitem (args_list_setitem _ _ _) ?_))
  show wpAny _ _ (Builtin.List.listSubscript? (.int k t) >>= _) _ _ s
  refine wpAny_bind (wpAny_listSubscript_int (fitsIndex_of h0 hfit) ?_)
  clear hfit
  obtain ⟨j, rfl⟩ := Int.eq_ofNat_of_zero_le h0
  have hj : j < vs.size := by omega
  have hx' : vs[j]? = some vs[j] := Array.getElem?_eq_getElem hj
  show wpAny _ _ ((seqItemAt a j >>= fun r => pure (r.map (j, ·))) >>= _) _ _ s
  refine wpAny_bind (wpAny_bind (wpAny_seqItemAt ho hd (wpAny_pure ?_)))
  rw [hx']
  show wpAny _ _ (setSeqItemAt a j v >>= _) _ _ s
  refine wpAny_bind (wpAny_setSeqItemAt ho hd ?_)
  first
    | exact wpAny_bind (wpAny_pure (wpAny_pure ⟨.none, rfl, wpAny_pure h⟩))
    | exact wpAny_pure ⟨.none, rfl, wpAny_pure h⟩

theorem tg_append (X : K.In s.heap) (T : TF K) (x : TagsAt s.heap a vs) {v : Value} {Q : Value → Shared → Prop} (hz : vs.size ≤ 1000000)
    (h : Q .none { s with heap := s.heap.update a (Obj.mapSeq (·.push v)) }) : wpAny (model prog w) A (call (.builtin "list.append") [.ref a, v]) Q E s := by
  obtain ⟨o, n, ho, hd, hc⟩ := x.obj
  refine tg_call X T x (n := "append") (by decide +kernel) (by first | exact .inl (by decide +kernel) | exact .inr (by decide +kernel)) slot_list_append.plain entry_list_append (args_list_append _ _) ?_
  show wpAny _ _ (updateSeq a (·.push v) >>= fun _ => ret .none) _ _ s
  refine wpAny_bind (wpAny_updateSeq ho hd (wpAny_pure ⟨.none, rfl, h⟩) (by rw [sizeLine_eq]; omega) (by rw [Array.size_push, sizeLine_eq]; omega))

/-- self[:] = a list -/
theorem tg_setAll (X : K.In s.heap) (T : TF K) (x : TagsAt s.heap a vs) {sl l : Addr} {us : Array Value} {Q : Unit → Shared → Prop}
    (hs : s.heap.get? sl = some { cls := .type "slice", data := .fields #[.none, .none, .none] }) (hl : s.heap.IsList l us) (hal : a ≠ l)
    (hz : vs.size ≤ 100000) (hz' : us.size ≤ 100000)
    (h : Q () { s with heap := s.heap.update a (Obj.mapSeq fun xs => xs.extract 0 0 ++ us ++ xs.extract vs.size xs.size) }) : wpAny (model prog w) A (setItem (.ref a) (.ref sl) (.ref l)) Q E s := by
  obtain ⟨o, n, ho, hd, hc⟩ := x.obj
  unfold setItem
  refine wpAny_holding (wpAny_bind (tg_seqKey X T x ?_))
  refine wpAny_bind (tg_callSpecial X x T.setitem slot_list_setitem.bind (tg_call X T x (n := "__setitem__") (by decide +kernel) (by first | exact .inl (by decide +kernel) | exact .inr (by decide +kernel)) slot_list_setitem.plain entry_list_setitem (args_list_setitem _ _ _) ?_))
  show wpAny _ _ (Builtin.List.listSubscript? (.ref sl) >>= _) _ _ s
  have hT : s.TypeIs (.ref sl) "slice" := ⟨_, hs, rfl⟩
  refine wpAny_bind ?_
  unfold Builtin.List.listSubscript?
  refine wpAny_bind (wpAny_specialOf hT slice_no_index ?_)
  simp only [Option.isNone_none, if_true]
  refine wpAny_pure ?_
  show wpAny _ _ (typeOf (.ref sl) >>= _) _ _ s
  refine wpAny_bind (wpAny_typeOf hT ?_)
  rw [if_neg (by decide)]
  rw [listSliceParts_eq]
  refine wpAny_bind (wpAny_bind (wpAny_field hs rfl (x := .none) rfl (wpAny_bind (wpAny_listPart .none ?_))))
  rw [if_neg (by decide)]
  refine wpAny_bind (wpAny_field hs rfl (x := .none) rfl (wpAny_bind (wpAny_listPart .none ?_)))
  refine wpAny_bind (wpAny_field hs rfl (x := .none) rfl (wpAny_bind (wpAny_listPart .none (wpAny_pure ?_))))
  have hsame : Builtin.List.listSameRef (.ref a) (.ref l) = false := by
    show (a == l) = false
    simpa using hal
  rw [hsame]
  simp only [Bool.false_eq_true, if_false]
  obtain ⟨ol, hol, hcl, ml, hdl⟩ := hl
  have hTl : s.TypeIs (.ref l) "list" := ⟨_, hol, hcl⟩
  refine wpAny_bind (m := Builtin.List.listAllItems (.ref l) _) ?_
  unfold Builtin.List.listAllItems
  refine wpAny_bind (wpAny_typeOf hTl ?_)
  simp only [beq_self_eq_true, Bool.true_or, if_true]
  unfold Builtin.List.listItems
  refine wpAny_bind (wpAny_seqItems hol hdl (wpAny_pure ?_))
  refine wpAny_bind (wpAny_bind (wpAny_seqItems ho hd (wpAny_pure ?_)))
  refine wpAny_bind (wpAny_of_eq (sliceIndices_raw none none none vs.size (by simp)) ?_)
  have hb : sliceBounds none none none vs.size = (0, (vs.size : Int), 1) := rfl
  simp only [hb, beq_self_eq_true, if_true]
  refine wpAny_bind (wpAny_rule ?_)
  have hlong : Builtin.List.listTooLong (vs.size + us.size) = false := by
    unfold Builtin.List.listTooLong
    rw [sizeLine_eq]
    simp; omega
  simp only [hlong, Bool.false_eq_true, if_false]
  have hmax : (max (0 : Int) vs.size).toNat = vs.size := by omega
  simp only [hmax, Int.toNat_zero]
  refine wpAny_bind (m := Builtin.List.listUpdate (.ref a) _) ?_
  show wpAny _ _ (updateSeq a _) _ _ s
  refine wpAny_updateSeq ho hd ?_ (by rw [sizeLine_eq]; omega) (by simp only [Array.size_append, Array.size_extract, sizeLine_eq]; omega)
  refine wpAny_bind (wpAny_letGo ?_)
  exact wpAny_pure ⟨.none, rfl, wpAny_pure h⟩
end
end Mine
end

section
open PySem PySem.W PyProof.Rows PySem.Calls PySem.SeqAt
set_option Elab.async false
set_option maxRecDepth 100000
set_option linter.unusedVariables false
namespace Mine

/-! ## forgetting -/
def Sub (σ0 σ1 : Store) : Prop := ∀ a, σ0 a = none ∨ σ0 a = σ1 a
theorem Sub.refl (σ : Store) : Sub σ σ := fun _ => .inr rfl
theorem Sub.none {σ0 σ1 : Store} (x : Sub σ0 σ1) {a : Addr} (h : σ1 a = .none) : σ0 a = .none := (x a).elim id fun e => e.trans h
theorem Sub.upd {σ : Store} {a : Addr} {o : AObj} (h : σ a = .none) : Sub σ (upd σ a o) := fun b => by
  by_cases hb : b = a
  · subst hb; exact .inl h
  · exact .inr (upd_ne hb).symm
theorem Sub.trans {σ0 σ1 σ2 : Store} (x : Sub σ0 σ1) (y : Sub σ1 σ2) : Sub σ0 σ2 := fun a => (x a).elim .inl fun e => (y a).elim (fun q => .inl (e.trans q)) fun q => .inr (e.trans q)
theorem Sub.updBoth {σ0 σ1 : Store} (x : Sub σ0 σ1) (a : Addr) (o : AObj) : Sub (Mine.upd σ0 a o) (Mine.upd σ1 a o) := fun b => by
  by_cases hb : b = a
  · subst hb; exact .inr (by rw [upd_self, upd_self])
  · rw [upd_ne hb, upd_ne hb]; exact x b

mutual
theorem Dt.sub {σ0 σ1 : Store} {h : Heap} {v : Value} {d : PyData} (x : Sub σ0 σ1) : Dt σ1 h v d → Dt σ0 h v d
  | .none => .none
  | .bool b => .bool b
  | .int i t => .int i t
  | .str y t => .str y t
  | .list h1 h2 h3 h4 h5 => .list (x.none h1) h2 h3 h4 (DtAll.sub x h5)
  | .tuple h1 h2 h3 h4 h5 => .tuple (x.none h1) h2 h3 h4 (DtAll.sub x h5)
theorem DtAll.sub {σ0 σ1 : Store} {h : Heap} {vs : List Value} {ds : List PyData} (x : Sub σ0 σ1) : DtAll σ1 h vs ds → DtAll σ0 h vs ds
  | .nil => .nil
  | .cons h1 h2 => .cons (Dt.sub x h1) (DtAll.sub x h2)
end
theorem Rel.sub {σ0 σ1 : Store} {h : Heap} {a : AV} {v : Value} (x : Sub σ0 σ1) (r : Rel σ1 h a v) : Rel σ0 h a v := by
  cases r with
  | dat h => exact .dat (h.sub x)
  | obj a => exact .obj a
  | tag h1 h2 h3 => exact .tag (x.none h1) h2 ⟨h3.1, x.none h3.2.1, h3.2.2⟩
  | set h1 h2 h3 => exact .set (x.none h1) h2 h3
  | rng h1 h2 => exact .rng (x.none h1) h2
  | val v => exact .val v
theorem RelAll.sub {σ0 σ1 : Store} {h : Heap} {a : List AV} {v : List Value} (x : Sub σ0 σ1) (r : RelAll σ1 h a v) : RelAll σ0 h a v := by
  induction r with
  | nil => exact .nil
  | cons h _ ih => exact .cons (h.sub x) ih
theorem ObjAt.sub {σ0 σ1 : Store} {h : Heap} {a : Addr} {o : AObj} (x : Sub σ0 σ1) (r : ObjAt σ1 h a o) : ObjAt σ0 h a o := by
  obtain ⟨vs, n, q, z⟩ := r
  refine ⟨vs, n, q.sub x, ?_⟩
  cases ht : o.tags with
  | false => rw [ht] at z; exact z
  | true => rw [ht] at z; obtain ⟨da, z1, z2, z3, z4⟩ := z; exact ⟨da, z1, z2, x.none z3, z4⟩
theorem Step.sub {B : Heap} {Fs S : List Addr} {σ σ0 σ1 : Store} {s s' : Shared} (x : Sub σ0 σ1) (y : Step B Fs S σ σ1 s s') : Step B Fs S σ σ0 s s' :=
  ⟨y.k, y.f, y.t, fun b l h => x.none (y.dom b l h), y.sz, y.gens⟩

section
variable {C : Cx} {A : Around} {F : Fm} {σ σ' : Store} {s s' : Shared} {h h' : Heap}

theorem VarOk.sub {σ0 : Store} {m : Str → Option Value} {env : Env} {y : Str} {a : AV} (x : Sub σ0 σ) (v : VarOk σ h env m y a) : VarOk σ0 h env m y a := by
  unfold VarOk at v ⊢
  split
  · rename_i e; rw [e] at v; obtain ⟨v, h1, h2⟩ := v; exact ⟨v, h1, h2.sub x⟩
  · rename_i e; rw [e] at v; obtain ⟨c, v, h1, h2, h3⟩ := v; exact ⟨c, v, h1, h2, h3.sub x⟩
  · rename_i e; rw [e] at v; obtain ⟨c, v, h1, h2, h3⟩ := v; exact ⟨c, v, h1, h2, h3.sub x⟩
  · rename_i h1 h2 h3; split at v <;> simp_all
theorem St.forget {σ0 : Store} (x : St C A F σ s) (q : Sub σ0 σ) : St C A F σ0 s where
  bk := x.bk
  so a o e := by
    have e' : σ a = some o := (q a).elim (fun z => by rw [z] at e; cases e) fun z => z ▸ e
    exact ⟨(x.so a o e').1, (x.so a o e').2.sub q⟩
  bare := x.bare
  os := x.os
  stack := x.stack
  ff := x.ff
  fd := x.fd
  kind := x.kind
  gl := x.gl
  bi := x.bi
  lB := x.lB
  cB := x.cB
  nd := x.nd
  ns := let ⟨m, n, ne, v⟩ := x.ns; ⟨m, n, ne, fun y a e => (v y a e).sub q⟩

/-- fewer names -/
theorem St.vars (x : St C A F σ s) {vars : List (Str × AV)} (h : ∀ y a, vars.lookup y = some a → F.vars.lookup y = some a) : St C A { F with vars := vars } σ s :=
  { x with ns := let ⟨m, n, ne, v⟩ := x.ns; ⟨m, n, ne, fun y a e => v y a (h y a e)⟩ }

theorem Ns.ofDict {h h' : Heap} {a : Addr} {m : Str → Option Value} (n : h.Ns a m) (hk : ∀ o es k, h.get? a = some o → o.data = .dict es k → ∃ sl, h'.get? a = some { o with slots := sl }) : h'.Ns a m := by
  obtain ⟨o, es, ep, ho, hd, r⟩ := n
  obtain ⟨sl, e⟩ := hk _ _ _ ho hd
  exact ⟨_, es, ep, e, hd, r⟩

theorem St.notStore (x : St C A F σ s) {b : Addr} {o : Obj} (e : s.heap.get? b = some o) (hd : ∀ vs n, o.data ≠ .seq vs n) : σ b = none := by
  cases q : σ b with
  | none => rfl
  | some z =>
    obtain ⟨ob, vs, n, e', hd'⟩ := (x.so b z q).2.at_
    rw [e] at e'; cases e'
    exact absurd hd' (hd _ _)
theorem FunFrames.along {B h h' : Heap} : ∀ {l : List Env}, h.FunFrames B l → (∀ b ∈ l.filterMap (·.frame), ∃ o, h'.get? b = some o ∧ ∀ vs, o.data ≠ .fields vs) → h'.FunFrames B l
  | [], _, _ => trivial
  | env :: rest, ⟨hk, ⟨L, o, hf, hn, ho, hd⟩, hr⟩, q => by
    have hm : ∀ b, b ∈ rest.filterMap (·.frame) → b ∈ (env :: rest).filterMap (·.frame) := fun b hb => by
      rw [List.filterMap_cons, hf]; exact List.mem_cons_of_mem _ hb
    obtain ⟨o', ho', hd'⟩ := q L (by rw [List.filterMap_cons, hf]; exact List.mem_cons_self)
    exact ⟨hk, ⟨L, o', hf, hn, ho', hd'⟩, FunFrames.along hr fun b hb => q b (hm b hb)⟩

/-- the caller's frame after a call -/
theorem St.back (x : St C A F σ s) (y : Step C.B F.frs [] σ σ' s s') (hso : ∀ a o, σ' a = some o → C.B.get? a = none ∧ ObjAt σ' s'.heap a o) (hbare : AllBare s'.gens) (hos : s'.os = C.os) : St C A F σ' s' := by
  have hfd : ∀ b ∈ F.frs, ∃ o es n, s'.heap.get? b = some o ∧ o.data = .dict es n := fun b hb => by
    obtain ⟨o, es, n, ho, hd⟩ := x.fd b hb
    obtain ⟨sl, e⟩ := y.f b o es n ho (x.notStore ho fun vs k q => by rw [hd] at q; cases q) (by simp) hd
    exact ⟨_, es, n, e, hd⟩
  have hcell : ∀ c v, s.heap.IsCell c v → s'.heap.IsCell c v := fun c v hc => by
    obtain ⟨o, ho, hd⟩ := hc
    exact ⟨o, y.k c o ho (x.notStore ho fun vs k q => by rw [hd] at q; cases q) (by simp) (fun ps q => by rw [q] at hd; simp [tObj] at hd) (.inr fun es n q => by rw [hd] at q; cases q), hd⟩
  exact {
    bk := x.bkStep y (by simp)
    so := hso
    bare := hbare
    os := hos
    stack := x.stack
    ff := FunFrames.along x.ff fun b hb => by
      obtain ⟨o, es, n, ho, hd⟩ := hfd b hb
      exact ⟨o, ho, fun vs q => by rw [hd] at q; cases q⟩
    fd := hfd
    kind := x.kind
    gl := x.gl
    bi := x.bi
    lB := x.lB
    cB := fun p hp => ⟨(x.cB p hp).1, let ⟨_, v, hc⟩ := x.cB p hp; ⟨v, hcell _ _ hc⟩⟩
    nd := x.nd
    ns := by
      obtain ⟨m, n, ne, v⟩ := x.ns
      exact ⟨m, Ns.ofDict n fun o es k ho hd => y.f _ o es k ho (x.notStore ho fun vs k q => by rw [hd] at q; cases q) (by simp) hd, ne, fun z a e => (v z a e).move (fun c v hc => hcell _ _ hc) fun a v r => r.step y (.nil _)⟩ }

/-! ## a function's frame -/
theorem bindL_miss {kindOf : Str → Option NameKind} {n : Str} : ∀ {binds : List (Str × Value)} {m : Str → Option Value}, n ∉ binds.map (·.1) → bindL kindOf binds m n = m n
  | [], m, h => rfl
  | (k, v) :: r, m, h => by
    unfold bindL
    rw [bindL_miss (fun q => h (List.mem_cons_of_mem _ q))]
    have : n ≠ k := fun q => h (q ▸ List.mem_cons_self)
    split <;> simp [this]
theorem bindC_miss {kindOf : Str → Option NameKind} {n : Str} : ∀ {binds : List (Str × Value)} {m : Str → Option Value}, n ∉ binds.map (·.1) → bindC kindOf binds m n = m n
  | [], m, h => rfl
  | (k, v) :: r, m, h => by
    unfold bindC
    rw [bindC_miss (fun q => h (List.mem_cons_of_mem _ q))]
    have : n ≠ k := fun q => h (q ▸ List.mem_cons_self)
    split <;> simp [this]
theorem bindL_get {kindOf : Str → Option NameKind} {n : Str} {v : Value} (hl : kindOf n = some .local) : ∀ {binds : List (Str × Value)} {m : Str → Option Value}, (binds.map (·.1)).Nodup → (n, v) ∈ binds → bindL kindOf binds m n = some v
  | (k, u) :: r, m, nd, h => by
    obtain ⟨h1, h2⟩ := List.nodup_cons.mp nd
    unfold bindL
    rcases List.mem_cons.mp h with e | h
    · cases e; rw [bindL_miss h1, if_pos hl]; simp
    · exact bindL_get hl h2 h
theorem bindC_get {kindOf : Str → Option NameKind} {n : Str} {v : Value} (hl : kindOf n ≠ some .local) : ∀ {binds : List (Str × Value)} {m : Str → Option Value}, (binds.map (·.1)).Nodup → (n, v) ∈ binds → bindC kindOf binds m n = some v
  | (k, u) :: r, m, nd, h => by
    obtain ⟨h1, h2⟩ := List.nodup_cons.mp nd
    unfold bindC
    rcases List.mem_cons.mp h with e | h
    · cases e; rw [bindC_miss h1, if_neg hl]; simp
    · exact bindC_get hl h2 h

/-- names and their values, told of the values bound -/
inductive Binds (σ : Store) (h : Heap) : List (Str × AV) → List (Str × Value) → Prop
  | nil : Binds σ h [] []
  | cons {n a v as vs} : Rel σ h a v → Binds σ h as vs → Binds σ h ((n, a) :: as) ((n, v) :: vs)
theorem Binds.find {σ : Store} {h : Heap} {as : List (Str × AV)} {vs : List (Str × Value)} (x : Binds σ h as vs) {n : Str} {a : AV} (e : as.lookup n = some a) : ∃ v, (n, v) ∈ vs ∧ Rel σ h a v := by
  induction x with
  | nil => cases e
  | @cons k b u as vs r _ ih =>
    rw [List.lookup_cons] at e
    cases hb : n == k with
    | true => rw [hb] at e; cases e; rw [beq_iff_eq.mp hb]; exact ⟨u, List.mem_cons_self, r⟩
    | false => rw [hb] at e; obtain ⟨v, h1, h2⟩ := ih e; exact ⟨v, List.mem_cons_of_mem _ h1, h2⟩
theorem Binds.names {σ : Store} {h : Heap} {as : List (Str × AV)} {vs : List (Str × Value)} (x : Binds σ h as vs) : vs.map (·.1) = as.map (·.1) := by
  induction x with
  | nil => rfl
  | cons _ _ ih => simp [ih]

/-- every parameter is a local or a cell of its own -/
def kindsOk (scope : Scope) (names : List Str) : Bool :=
  names.all fun n => match scope.names.lookup n with
    | some .local => true
    | some .cell => ((cellsFrom 0 scope.names []).lookup n).isSome
    | _ => false
theorem cellsFrom_isSome (n : Str) : ∀ (names : List (Str × NameKind)) (k j : Nat) (acc acc' : List (Str × Addr)), ((acc.lookup n).isSome = (acc'.lookup n).isSome) → ((cellsFrom k names acc).lookup n).isSome = ((cellsFrom j names acc').lookup n).isSome
  | [], _, _, _, _, h => h
  | (m, kind) :: r, k, j, acc, acc', h => by
    unfold cellsFrom
    split
    · refine cellsFrom_isSome n r _ _ _ _ ?_
      rw [List.lookup_cons, List.lookup_cons]
      split <;> simp_all
    · exact cellsFrom_isSome n r _ _ _ _ h

/-- a function of the program -/
structure FnOk (K : Frag) (f : Addr) (fd : FuncData) (body : List Stmt) : Prop where
  o : ∃ o, K.lookup f = some o ∧ o.data = .func fd
  body : fd.body = .stmts body
  co : fd.scope.isCoroutine = false
  kind : fd.scope.kind = .function
  clo : fd.closure = []
  gl : fd.globals = mainGlobals
  bi : fd.builtins = builtinsNs
  code : ∃ c oc vs tq, fd.code = .ref c ∧ K.lookup c = some oc ∧ oc.data = .fields vs ∧ vs[1]? = some (.str fd.qualname tq)

theorem St.enter (x : St C A F σ s) {env : Env} {m cm : Str → Option Value} {s' : Shared} {vars : List (Str × AV)} (i : InCallC s env.locals m env.cells cm s') (hsome : ∀ p ∈ env.cells, s.heap.objs.size ≤ p.2 ∧ ∃ v, s'.heap.IsCell p.2 v)
    (hnd : (env.cells.map (·.2)).Nodup) (hk : env.scope.kind = .function) (hf : env.frame = some env.locals) (hg : env.globals = mainGlobals) (hb : env.builtins = builtinsNs) (hne : NsNe env m)
    (hv : ∀ y a, vars.lookup y = some a → ∃ v, Rel σ s.heap a v ∧ ((env.kindOf y = some .local ∧ m y = some v) ∨ (env.kindOf y = some .cell ∧ cm y = some v ∧ ∃ c, env.cells.lookup y = some c))) :
    St C (A.deeper env) ⟨env, vars, env :: F.fs⟩ σ s' ∧ Step C.B F.frs [] σ σ s s' := by
  obtain ⟨hsame, hns, hkeep, hfresh⟩ := i.toInCall
  obtain ⟨h1, tk, rfl⟩ := hsame
  have fresh : ∀ a, s.heap.objs.size ≤ a → C.B.get? a = none := fun a ha => by
    cases q : C.B.get? a with
    | none => rfl
    | some z =>
      have hz : s.heap.get? a = none := by
        cases q : s.heap.get? a with
        | none => rfl
        | some z => exact absurd (Heap.lt_size q) (Nat.not_lt.mpr ha)
      by_cases ht : ∃ ps, z = tObj ps
      · obtain ⟨ps, rfl⟩ := ht
        obtain ⟨_, e, _⟩ := x.bk.t _ _ q
        rw [hz] at e; cases e
      · have := x.bk.k _ _ q fun ps e => ht ⟨ps, e⟩
        rw [hz] at this; cases this
  have hz : s.heap.objs.size ≤ h1.objs.size := Nat.le_of_lt (Nat.lt_of_le_of_lt hfresh (let ⟨_, _, _, ho, _⟩ := hns; Heap.lt_size ho))
  obtain ⟨st, sp⟩ := x.grow (s' := { s with heap := h1, toks := tk }) hkeep hz (Nat.le_refl _) x.bare rfl
  refine ⟨{
    bk := st.bk
    so := st.so
    bare := st.bare
    os := st.os
    stack := Around.frames_deeper x.stack
    ff := Heap.FunFrames.cons (by rw [hk]; decide) hf hns (fresh _ hfresh) st.ff
    fd := fun b hb => ?_
    kind := hk
    gl := hg
    bi := hb
    lB := fresh _ hfresh
    cB := fun p hp => ⟨fresh _ (hsome p hp).1, (hsome p hp).2⟩
    nd := hnd
    ns := ⟨m, hns, hne, fun y a e => ?_⟩ }, sp⟩
  · unfold Fm.frs at hb
    rw [List.filterMap_cons, hf] at hb
    rcases List.mem_cons.mp hb with rfl | hb
    · obtain ⟨o, es, ep, ho, hd, _⟩ := hns
      exact ⟨o, es, ep, ho, hd⟩
    · exact st.fd b hb
  · obtain ⟨v, r, q⟩ := hv y a e
    have r' := r.step sp (.nil _)
    unfold VarOk
    rcases q with ⟨q, hm⟩ | ⟨q, hm, c, hc⟩
    · simp only [q]; exact ⟨v, hm, r'⟩
    · simp only [q]; exact ⟨c, v, hc, hm ▸ i.cell y c hc, r'⟩

/-- the way back out of a function -/
theorem St.leave (x : St C A F σ s) {A' : Around} {F' : Fm} {s₁ : Shared} {σ₁ σ₂ : Store} (hs₁ : s.heap.objs.size ≤ F'.env.locals) (hcs : ∀ p ∈ F'.env.cells, s.heap.objs.size ≤ p.2) (hfs : F'.fs = F'.env :: F.fs) (hf : F'.env.frame = some F'.env.locals)
    (e₁ : Step C.B F.frs [] σ σ₁ s s₁) (st : St C A' F' σ₂ s') (e₂ : Step C.B F'.frs F'.own σ₁ σ₂ s₁ s') : St C A F σ₂ s' ∧ Step C.B F.frs [] σ σ₂ s s' := by
  have e := Step.shrink e₁ e₂ (fun b hb => .inr (by
    rcases List.mem_cons.mp hb with rfl | hb
    · exact hs₁
    · obtain ⟨p, hp, rfl⟩ := List.mem_map.mp hb
      exact hcs p hp)) (fun b hb => by
    unfold Fm.frs at hb
    rw [hfs, List.filterMap_cons, hf] at hb
    rcases List.mem_cons.mp hb with rfl | hb
    · exact .inr hs₁
    · exact .inl hb)
  exact ⟨x.back e st.so st.bare st.os, e⟩
end
end Mine
end

section
open PySem PySem.W PyProof.Rows PySem.Calls PySem.SeqAt
set_option Elab.async false
set_option maxRecDepth 100000
set_option linter.unusedVariables false
namespace Mine

def putv : List (Str × AV) → Str → AV → List (Str × AV)
  | [], x, a => [(x, a)]
  | (y, b) :: r, x, a => bif y == x then (y, a) :: r else (y, b) :: putv r x a
theorem putv_lookup : ∀ (l : List (Str × AV)) (x : Str) (a : AV) (z : Str), (putv l x a).lookup z = if z = x then some a else l.lookup z
  | [], x, a, z => by
    unfold putv
    rw [List.lookup_cons]
    by_cases h : z = x
    · subst h; simp
    · have : (z == x) = false := by simpa using h
      rw [this, if_neg h]
  | (y, b) :: r, x, a, z => by
    unfold putv
    cases hyx : y == x with
    | true =>
      have e : y = x := beq_iff_eq.mp hyx
      subst e
      simp only [cond_true, List.lookup_cons]
      by_cases h : z = y
      · subst h; simp
      · have : (z == y) = false := by simpa using h
        simp [this, h]
    | false =>
      have e : y ≠ x := fun q => by subst q; simp at hyx
      simp only [cond_false, List.lookup_cons]
      by_cases h : z = y
      · subst h; simp [e]
      · have : (z == y) = false := by simpa using h
        simp only [this]
        exact putv_lookup r x a z

inductive AFlow where
  | next | brk | cont
  | ret (a : AV)
inductive FlowRel (σ : Store) (h : Heap) : AFlow → Flow → Prop
  | next : FlowRel σ h .next .next
  | brk : FlowRel σ h .brk .brk
  | cont : FlowRel σ h .cont .cont
  | ret {a v} : Rel σ h a v → FlowRel σ h (.ret a) (.ret v)
abbrev FP := AFlow → List (Str × AV) → Store → Prop
abbrev Fm.with (F : Fm) (vars : List (Str × AV)) : Fm := ⟨F.env, vars, F.fs⟩

/-- a statement's tree -/
def Sx (C : Cx) (A : Around) (F : Fm) (σ : Store) (t : Sem Flow) (P : FP) : Prop :=
  ∀ s, St C A F σ s → ∀ Q : Flow → Shared → Prop,
    (∀ fl f vars σ' s', P fl vars σ' → St C A (F.with vars) σ' s' → FlowRel σ' s'.heap fl f → Step C.B F.frs F.own σ σ' s s' → Q f s') → wpAny C.M A t Q NoE s
abbrev Ex (C : Cx) (A : Around) (F : Fm) (σ : Store) (st : Stmt) (P : FP) : Prop := Sx C A F σ (exec st F.env) P
abbrev Exs (C : Cx) (A : Around) (F : Fm) (σ : Store) (sts : List Stmt) (P : FP) : Prop := Sx C A F σ (execs sts F.env) P

theorem wpAny_noE {α : Type} {M : Model} {A : Around} {t : Sem α} {Q : α → Shared → Prop} {E : Value → Shared → Prop} {s : Shared} (h : wpAny M A t Q NoE s) : wpAny M A t Q E s :=
  wpAny_mono h (fun _ _ x => x) fun _ _ x => x.elim

theorem Step.poke {B : Heap} {Fs S : List Addr} {σ : Store} {s : Shared} {b : Addr} (hb : b ∈ S) {h' : Heap} {tk : Nat} (hs : Heap.SameBut b s.heap h') : Step B Fs S σ σ s { s with heap := h', toks := tk } where
  k b' o e _ h2 _ _ := (hs.2 b' fun q => h2 (q ▸ hb)).trans e
  f b' o es n e _ h2 _ := ⟨o.slots, (hs.2 b' fun q => h2 (q ▸ hb)).trans e⟩
  t b' ps e _ h2 := ⟨#[], (by rw [Array.append_empty]; exact (hs.2 b' fun q => h2 (q ▸ hb)).trans e), .inl rfl, by simp⟩
  dom _ _ h := h
  sz := Nat.le_of_eq hs.1.symm
  gens := Nat.le_refl _

section
variable {C : Cx} {A : Around} {F : Fm} {σ σ' : Store} {s s' : Shared}

theorem nsNonempty {h : Heap} {a : Addr} {m : Str → Option Value} (n : h.Ns a m) (hne : ∃ x v, m x = some v) : ∀ o k, h.get? a = some o → o.data ≠ .dict #[] k := by
  intro o k e hd
  obtain ⟨o', es, ep, ho, hd', _, hm⟩ := n
  rw [e] at ho; cases ho
  rw [hd] at hd'; cases hd'
  obtain ⟨x, v, q⟩ := hne
  rw [← hm x] at q
  simp [nsFind, findBy] at q

/-- the objects of the store along a poke -/
theorem ObjAt.poke {h h' : Heap} {b a : Addr} {o : AObj} (x : ObjAt σ h a o) (hs : Heap.SameBut b h h') (hr : ∀ a v, Rel σ h a v → Rel σ h' a v)
    (h1 : ∀ ob vs n, h.get? b = some ob → ob.data ≠ .seq vs n) (h2 : ∀ da, IsInst h a → InstDict σ h a da → da ≠ b) : ObjAt σ h' a o := by
  obtain ⟨vs, n, r, q⟩ := x
  have r' : RelAll σ h' o.items vs := by
    clear q
    generalize o.items = l at r
    induction r with
    | nil => exact .nil
    | cons h _ ih => exact .cons (hr _ _ h) ih
  refine ⟨vs, n, r', ?_⟩
  cases ht : o.tags with
  | false =>
    rw [ht] at q
    obtain ⟨m, q⟩ := q
    exact ⟨m, (hs.2 a fun e => by subst e; exact h1 _ _ _ q rfl).trans q⟩
  | true =>
    rw [ht] at q
    obtain ⟨da, q, i⟩ := q
    have hne := h2 da ⟨_, _, q, rfl, by nofun⟩ i
    exact ⟨da, (hs.2 a fun e => by subst e; exact h1 _ _ _ q rfl).trans q, i.1, i.2.1, let ⟨od, k, g1, g2⟩ := i.2.2; ⟨od, k, (hs.2 da hne).trans g1, g2⟩⟩

theorem St.poke (x : St C A F σ s) {b : Addr} (hb : b ∈ F.own) {h' : Heap} {tk : Nat} {vars : List (Str × AV)} (hs : Heap.SameBut b s.heap h')
    (h1 : ∀ ob vs n, s.heap.get? b = some ob → ob.data ≠ .seq vs n) (h2 : ∀ a da, IsInst s.heap a → InstDict σ s.heap a da → da ≠ b)
    (h3 : b ∈ F.frs → ∃ o es n, h'.get? b = some o ∧ o.data = .dict es n) (h4 : ∀ c v, b = c → s.heap.IsCell c v → ∃ v, h'.IsCell c v)
    (h5 : ∃ m, h'.Ns F.env.locals m ∧ NsNe F.env m ∧ ∀ x a, vars.lookup x = some a → VarOk σ h' F.env m x a) :
    St C A (F.with vars) σ { s with heap := h', toks := tk } ∧ Step C.B F.frs [b] σ σ s { s with heap := h', toks := tk } := by
  have st1 : Step C.B F.frs [b] σ σ s { s with heap := h', toks := tk } := .poke List.mem_cons_self hs
  have st : Step C.B F.frs F.own σ σ s { s with heap := h', toks := tk } := .poke hb hs
  have hfd : ∀ d ∈ F.frs, ∃ o es n, h'.get? d = some o ∧ o.data = .dict es n := fun d hd => by
    by_cases e : d = b
    · subst e; exact h3 hd
    · obtain ⟨o, es, n, ho, hdd⟩ := x.fd d hd
      exact ⟨o, es, n, (hs.2 d e).trans ho, hdd⟩
  refine ⟨{
    bk := x.bkStep st fun _ q => q
    so := fun a o e => ⟨(x.so a o e).1, (x.so a o e).2.poke hs (fun a v r => r.step st x.sok) h1 fun da q q2 => h2 _ _ q q2⟩
    bare := x.bare
    os := x.os
    stack := x.stack
    ff := FunFrames.along x.ff fun d hd => by
      obtain ⟨o, es, n, ho, hdd⟩ := hfd d hd
      exact ⟨o, ho, fun vs q => by rw [hdd] at q; cases q⟩
    fd := hfd
    kind := x.kind
    gl := x.gl
    bi := x.bi
    lB := x.lB
    cB := fun p hp => ⟨(x.cB p hp).1, ?_⟩
    nd := x.nd
    ns := h5 }, st1⟩
  obtain ⟨_, v, hc⟩ := x.cB p hp
  by_cases e : b = p.2
  · exact h4 _ _ e hc
  · obtain ⟨o, ho, hd⟩ := hc
    exact ⟨v, o, (hs.2 _ (Ne.symm e)).trans ho, hd⟩

theorem mem_own_cell {env : Env} {vars fs} {y : Str} {c : Addr} (h : env.cells.lookup y = some c) : c ∈ (Fm.mk env vars fs).own :=
  List.mem_cons_of_mem _ (List.mem_map.mpr ⟨(y, c), mem_of_lookup h, rfl⟩)

/-- a name is bound -/
theorem St.store1 (x : St C A F σ s) {y : Str} {v : Value} {a : AV} (hk : F.env.kindOf y = some .local ∨ F.env.kindOf y = some .cell ∧ ∃ c, F.env.cells.lookup y = some c) (r : Rel σ s.heap a v) {M : Model} {A₂ : Around} {Q : Unit → Shared → Prop} {E : Value → Shared → Prop}
    (hQ : ∀ b s', b ∈ F.own → (F.env.kindOf y = some .local ∧ b = F.env.locals ∨ F.env.kindOf y = some .cell ∧ F.env.cells.lookup y = some b) → St C A (F.with (putv F.vars y a)) σ s' → Step C.B F.frs [b] σ σ s s' → (∀ d o, d ≠ b → s.heap.get? d = some o → s'.heap.get? d = some o) → s'.heap.objs.size = s.heap.objs.size → Q () s') : wpAny M A₂ (storeName F.env y v) Q E s := by
  obtain ⟨m, n, hne, hv⟩ := id x.ns
  obtain ⟨ol, es, ep, hol, hdl, _⟩ := id n
  rcases hk with hl | ⟨hl, c, hc⟩
  · refine wpAny_storeName_local hl n (fun h' hn' hs => ?_) (by rw [x.kind]; rfl)
    have := x.poke (b := F.env.locals) (by exact List.mem_cons_self) (tk := s.toks + 1) (vars := putv F.vars y a) hs
      (fun ob vs k e q => by rw [hol] at e; cases e; rw [hdl] at q; cases q) (fun a da ia i e => by
        obtain ⟨o', ho', q⟩ := x.sok F.env.locals List.mem_cons_self
        rw [hol] at ho'; cases ho'
        rcases q with ⟨_, _, _, pk⟩ | ⟨_, q⟩ | ⟨⟨_, q⟩, _⟩
        · exact pk.ne i ia e
        · rw [hdl] at q; cases q
        · rw [hdl] at q; cases q) (fun _ => let ⟨o, es, ep, ho, hd, _⟩ := hn'; ⟨o, es, ep, ho, hd⟩)
      (fun c v e hc => by subst e; obtain ⟨o, ho, hd⟩ := hc; rw [hol] at ho; cases ho; rw [hdl] at hd; cases hd)
      ⟨_, hn', .inl ⟨y, v, by simp⟩, fun z b hz => by
        have step : Step C.B F.frs F.own σ σ s { s with heap := h', toks := s.toks + 1 } := .poke (List.mem_cons_self) hs
        rw [putv_lookup] at hz
        by_cases e : z = y
        · subst e; rw [if_pos rfl] at hz; cases hz
          unfold VarOk; rw [hl]
          exact ⟨v, by simp, r.step step x.sok⟩
        · rw [if_neg e] at hz
          have w := hv z b hz
          unfold VarOk at w ⊢
          split
          · rename_i q; rw [q] at w; obtain ⟨u, g1, g2⟩ := w; exact ⟨u, by simp [e, g1], g2.step step x.sok⟩
          all_goals first
            | (rename_i q; rw [q] at w; obtain ⟨c, u, g1, ⟨o, ho, hd⟩, g3⟩ := w
               exact ⟨c, u, g1, ⟨o, (hs.2 c fun e => by subst e; rw [hol] at ho; cases ho; rw [hdl] at hd; cases hd).trans ho, hd⟩, g3.step step x.sok⟩)
            | (rename_i h1 h2 h3; split at w <;> simp_all)⟩
    exact hQ F.env.locals _ List.mem_cons_self (.inl ⟨hl, rfl⟩) this.1 this.2 (fun d o hd e => (hs.2 d hd).trans e) hs.1
  · have hcm := mem_of_lookup hc
    obtain ⟨_, v0, hcell⟩ := x.cB _ hcm
    refine wpAny_storeName_cell x.kind hl hc hcell fun h' hc' hs => ?_
    obtain ⟨oc, hoc, hdc⟩ := id hcell
    have hcl : F.env.locals ≠ c := fun e => by
      have hoc' : s.heap.get? c = some oc := hoc
      rw [← e, hol] at hoc'; cases hoc'; rw [hdl] at hdc; cases hdc
    have := x.poke (b := c) (mem_own_cell hc) (tk := s.toks) (vars := putv F.vars y a) hs
      (fun ob vs k e q => by have := hoc.symm.trans e; cases this; rw [hdc] at q; cases q) (fun a da ia i e => by
        obtain ⟨_, _, od, k, g1, g2⟩ := i
        subst e; have := hoc.symm.trans g1; cases this; rw [hdc] at g2; cases g2)
      (fun hm => by
        obtain ⟨o, es', n', ho, hd⟩ := x.fd c hm
        have := hoc.symm.trans ho; cases this; rw [hdc] at hd; cases hd)
      (fun c' v' e _ => by subst e; exact ⟨_, hc'⟩)
      ⟨m, n.sameBut hs hcl, hne, fun z b hz => by
        have step : Step C.B F.frs F.own σ σ s { s with heap := h', toks := s.toks } := .poke (mem_own_cell hc) hs
        rw [putv_lookup] at hz
        by_cases e : z = y
        · subst e; rw [if_pos rfl] at hz; cases hz
          unfold VarOk; rw [hl]
          exact ⟨c, v, hc, hc', r.step step x.sok⟩
        · rw [if_neg e] at hz
          have w := hv z b hz
          unfold VarOk at w ⊢
          split
          · rename_i q; rw [q] at w; obtain ⟨u, g1, g2⟩ := w; exact ⟨u, g1, g2.step step x.sok⟩
          all_goals first
            | (rename_i q; rw [q] at w; obtain ⟨c', u, g1, ⟨o, ho, hd⟩, g3⟩ := w
               refine ⟨c', u, g1, ⟨o, (hs.2 c' fun e' => ?_).trans ho, hd⟩, g3.step step x.sok⟩
               subst e'
               exact e (name_of_addr (List.pairwise_map.mp x.nd) (mem_of_lookup g1) hcm))
            | (rename_i h1 h2 h3; split at w <;> simp_all)⟩
    exact hQ c _ (mem_own_cell hc) (.inr ⟨hl, hc⟩) this.1 this.2 (fun d o hd e => (hs.2 d hd).trans e) hs.1
theorem St.store (x : St C A F σ s) {y : Str} {v : Value} {a : AV} (hk : F.env.kindOf y = some .local ∨ F.env.kindOf y = some .cell ∧ ∃ c, F.env.cells.lookup y = some c) (r : Rel σ s.heap a v) {M : Model} {Q : Unit → Shared → Prop} {E : Value → Shared → Prop}
    (hQ : ∀ s', St C A (F.with (putv F.vars y a)) σ s' → Step C.B F.frs F.own σ σ s s' → Q () s') : wpAny M A (storeName F.env y v) Q E s :=
  x.store1 hk r fun b s' hb _ st e _ _ => hQ s' st (e.mono fun c hc => by
    rcases List.mem_cons.mp hc with rfl | hc
    · exact hb
    · cases hc)

/-! ## statements -/
variable {P : FP}
theorem Exs_nil (h : P .next F.vars σ) : Exs C A F σ [] P := fun s st Q hQ => wpAny_execs_nil (hQ _ _ _ _ _ h st .next (.refl ..))
theorem Exs_cons {st : Stmt} {rest : List Stmt} (h : Ex C A F σ st fun fl vars σ₁ => match fl with | .next => Exs C A (F.with vars) σ₁ rest P | fl => P fl vars σ₁) : Exs C A F σ (st :: rest) P :=
  fun s x Q hQ => wpAny_execs_cons (h s x _ fun fl f vars σ₁ s₁ h₁ st₁ r₁ e₁ => by
    cases r₁ with
    | next => exact h₁ s₁ st₁ Q fun fl f vars' σ₂ s₂ h₂ st₂ r₂ e₂ => hQ fl f vars' σ₂ s₂ h₂ st₂ r₂ (e₁.trans e₂)
    | brk => exact hQ _ _ _ _ _ h₁ st₁ .brk e₁
    | cont => exact hQ _ _ _ _ _ h₁ st₁ .cont e₁
    | ret r => exact hQ _ _ _ _ _ h₁ st₁ (.ret r) e₁)
theorem Sx.mono {t : Sem Flow} {P' : FP} (x : Sx C A F σ t P) (h : ∀ fl vars σ', P fl vars σ' → P' fl vars σ') : Sx C A F σ t P' :=
  fun s st Q hQ => x s st Q fun fl f vars σ' s' p => hQ fl f vars σ' s' (h _ _ _ p)
theorem Ex_Return {e : Expr} {pos : Pos} (h : Ev C A F σ e fun a σ₁ => P (.ret a) F.vars σ₁) : Ex C A F σ (.Return (some e) pos) P :=
  fun s st Q hQ => wpAny_Return_some (h s st _ fun a v σ₁ s₁ h₁ st₁ r₁ e₁ => hQ _ _ _ _ _ h₁ st₁ (.ret r₁) (e₁.mono (by simp)))
theorem Ex_ReturnNone {pos : Pos} (h : P (.ret .none) F.vars σ) : Ex C A F σ (.Return none pos) P :=
  fun s st Q hQ => wpAny_Return_none (hQ _ _ _ _ _ h st (.ret .none) (.refl ..))
theorem Ex_If {t : Expr} {b o : List Stmt} {pos : Pos} (h : Te C A F σ t fun c σ₁ => if c then Exs C A F σ₁ b P else Exs C A F σ₁ o P) : Ex C A F σ (.If t b o pos) P :=
  fun s st Q hQ => wpAny_If (h s st _ fun c σ₁ s₁ h₁ st₁ e₁ => by
    cases c
    · exact h₁ s₁ st₁ _ fun fl f vars σ₂ s₂ h₂ st₂ r₂ e₂ => hQ fl f vars σ₂ s₂ h₂ st₂ r₂ ((e₁.mono (by simp)).trans e₂)
    · exact h₁ s₁ st₁ _ fun fl f vars σ₂ s₂ h₂ st₂ r₂ e₂ => hQ fl f vars σ₂ s₂ h₂ st₂ r₂ ((e₁.mono (by simp)).trans e₂))
theorem Ex_Break {pos : Pos} (h : P .brk F.vars σ) : Ex C A F σ (.Break pos) P :=
  fun s st Q hQ => by
    show wpAny C.M A (pure Flow.brk) Q NoE s
    exact wpAny_pure (hQ _ _ _ _ _ h st .brk (.refl ..))
theorem Ex_Assign {x : Str} {p pos : Pos} {e : Expr} (hk : F.env.kindOf x = some .local ∨ F.env.kindOf x = some .cell ∧ ∃ c, F.env.cells.lookup x = some c)
    (h : Ev C A F σ e fun a σ₁ => P .next (putv F.vars x a) σ₁) (hs : swapsWith e (some (.Name x p)) pos.line F.env = pure false := by rfl) : Ex C A F σ (.Assign [.Name x p] e pos) P :=
  fun s st Q hQ => wpAny_Assign_Name (h s st _ fun a v σ₁ s₁ h₁ st₁ r₁ e₁ => st₁.store hk r₁ fun s₂ st₂ e₂ => hQ _ _ _ _ _ h₁ st₂ .next ((e₁.mono (by simp)).trans e₂)) hs
theorem Ex_Expr {e : Expr} {pos : Pos} (h : Ev C A F σ e fun a σ₁ => P .next F.vars σ₁) (hi : interactive F.env = false := by rfl) (hs : swapsWith e none pos.line F.env = pure false := by rfl) : Ex C A F σ (.Expr e pos) P :=
  fun s st Q hQ => wpAny_Expr_any (h s st _ fun a v σ₁ s₁ h₁ st₁ r₁ e₁ => hQ _ _ _ _ _ h₁ st₁ .next (e₁.mono (by simp))) hi hs

/-! ## calls of the program's functions -/
theorem lookup_mem {α : Type} : ∀ {l : List (Str × α)} {n : Str} {c : α}, (l.map (·.1)).Nodup → (n, c) ∈ l → l.lookup n = some c
  | (k, v) :: r, n, c, nd, h => by
    obtain ⟨h1, h2⟩ := List.nodup_cons.mp nd
    rw [List.lookup_cons]
    rcases List.mem_cons.mp h with e | h
    · cases e; simp
    · have : n ≠ k := fun q => h1 (q ▸ List.mem_map.mpr ⟨(n, c), h, rfl⟩)
      have : (n == k) = false := by simpa using this
      rw [this]; exact lookup_mem h2 h
theorem cellsFrom_names : ∀ (names : List (Str × NameKind)) (k : Nat) (acc : List (Str × Addr)), (names.map (·.1)).Nodup → (acc.map (·.1)).Nodup → (∀ n ∈ acc.map (·.1), n ∉ names.map (·.1)) →
    ((cellsFrom k names acc).map (·.1)).Nodup
  | [], _, _, _, h, _ => h
  | (m, kind) :: r, k, acc, nd, h, hd => by
    obtain ⟨h1, h2⟩ := List.nodup_cons.mp nd
    unfold cellsFrom
    split
    · refine cellsFrom_names r _ _ h2 (List.nodup_cons.mpr ⟨fun q => hd _ q List.mem_cons_self, h⟩) fun n hn => ?_
      rcases List.mem_cons.mp hn with rfl | hn
      · exact h1
      · exact fun q => hd n hn (List.mem_cons_of_mem _ q)
    · exact cellsFrom_names r _ _ h2 h fun n hn q => hd n hn (List.mem_cons_of_mem _ q)

theorem call_fnC (ok : C.Ok) {f : Addr} {fd : FuncData} {body : List Stmt} (fo : FnOk C.K f fd body) {k : Nat} (room : Room A k) (hk : 1 ≤ k) (st : St C A F σ s)
    {args : List Value} {kw : List (Str × Value)} {binds : List (Str × Value)} {vars : List (Str × AV)} (hb : BindsTo s fd ⟨args, kw⟩ binds) (hv : Binds σ s.heap vars binds)
    (hgen : fd.scope.isGenerator = false) (hnd : (vars.map (·.1)).Nodup) (hkinds : kindsOk fd.scope (vars.map (·.1)) = true) (hsnd : (fd.scope.names.map (·.1)).Nodup)
    (hloc : (∃ x ∈ vars.map (·.1), fd.scope.names.lookup x = some .local) ∨ ∀ L : Addr, L + 1 ∈ (cellsFrom (L + 1) fd.scope.names []).map (·.2))
    {P : AV → Store → Prop}
    (h : ∀ L, ∀ env, env = callEnvC fd L f → Exs C (A.deeper env) ⟨env, vars, env :: F.fs⟩ σ body fun fl _ σ₁ => match fl with | .ret a => P a σ₁ | _ => P .none σ₁)
    {R : Result → Shared → Prop} (hQ : ∀ a v σ' s', P a σ' → St C A F σ' s' → Rel σ' s'.heap a v → Step C.B F.frs [] σ σ' s s' → R (.ok (.ret v)) s') : codeAny C.M A (.call (.ref f) ⟨args, kw⟩) R s := by
  obtain ⟨o, hlo, hdo⟩ := fo.o
  have X := st.K ok
  have ho := X _ _ hlo
  obtain ⟨c, oc, vs, tq, hc, hoc, hdc, hq⟩ := fo.code
  refine codeAny_call_function (room.deep hk) ho hdo fo.co hgen fo.body ⟨c, oc, vs, tq, hc, X _ _ hoc, hdc, hq⟩ ?_
  refine hb _ _ _ _ ?_
  have names := hv.names
  have bnd : (binds.map (·.1)).Nodup := by rw [names]; exact hnd
  have kinds : ∀ x ∈ binds, fd.scope.names.lookup x.1 = some .local ∨ (fd.scope.names.lookup x.1 = some .cell ∧ ((cellsFrom (s.heap.objs.size + 1) fd.scope.names []).lookup x.1).isSome = true) := fun x hx => by
    have hm : x.1 ∈ vars.map (·.1) := names ▸ List.mem_map.mpr ⟨x, hx, rfl⟩
    have := List.all_eq_true.mp hkinds _ hm
    split at this
    · rename_i q; exact .inl q
    · rename_i q; exact .inr ⟨q, (cellsFrom_isSome x.1 fd.scope.names _ 0 [] [] rfl).trans this⟩
    · cases this
  rw [fo.clo]
  refine wpAny_newFunctionEnv_cells fo.kind kinds fun env he s' i => ?_
  have henv : env = callEnvC fd s.heap.objs.size f := he
  clear he
  have hbody := h s.heap.objs.size env henv
  have hcells : env.cells = cellsFrom (s.heap.objs.size + 1) fd.scope.names [] := by rw [henv]; rfl
  have okc := cellsFrom_ok fd.scope.names (s.heap.push { cls := .type "frame", data := .dict #[] }) (s.heap.objs.size + 1) [] ⟨fun _ _ hm => (nomatch hm), List.Pairwise.nil⟩ (by rw [Heap.size_push]; exact Nat.le_refl _)
  rw [Heap.size_push] at okc
  rw [← hcells] at okc
  have hkf : env.scope.kind = .function := by rw [henv]; exact fo.kind
  have hscope : env.scope = fd.scope := by rw [henv]; rfl
  have hkindOf : ∀ y, env.kindOf y = fd.scope.names.lookup y := fun y => by unfold Env.kindOf; rw [hscope]
  have hlocals : env.locals = s.heap.objs.size := by rw [henv]; rfl
  have hcn : (env.cells.map (·.1)).Nodup := by rw [hcells]; exact cellsFrom_names _ _ _ hsnd List.nodup_nil (by simp)
  have hfr : env.frame = some env.locals := by rw [henv]; rfl
  have get : ∀ y a, vars.lookup y = some a → ∃ v, (y, v) ∈ binds ∧ Rel σ s.heap a v := fun y a e => hv.find e
  have ent := st.enter (env := env) (vars := vars) i (fun p hp => ⟨Nat.le_of_succ_le (okc.empty p.1 p.2 hp).2, _, i.cell p.1 p.2 (lookup_mem hcn hp)⟩) (by exact List.pairwise_map.mpr okc.apart) hkf hfr (by rw [henv]; exact fo.gl) (by rw [henv]; exact fo.bi)
    (by
      rcases hloc with ⟨x, hx, hl⟩ | hloc
      · obtain ⟨⟨y, a⟩, hp, rfl⟩ := List.mem_map.mp hx
        obtain ⟨v, hm, _⟩ := get y a (lookup_mem hnd hp)
        exact .inl ⟨y, v, bindL_get (by rw [hkindOf]; exact hl) bnd hm⟩
      · exact .inr (by rw [hcells, hlocals]; exact hloc _))
    (fun y a e => by
      obtain ⟨v, hm, r⟩ := get y a e
      refine ⟨v, r, ?_⟩
      rcases kinds _ hm with hl | ⟨hl, hs⟩
      · exact .inl ⟨by rw [hkindOf]; exact hl, bindL_get (by rw [hkindOf]; exact hl) bnd hm⟩
      · refine .inr ⟨by rw [hkindOf]; exact hl, bindC_get (by rw [hkindOf, hl]; decide) bnd hm, ?_⟩
        rw [hcells]; exact Option.isSome_iff_exists.mp hs)
  refine ⟨ent.1.lim ok, codeAny_func ?_⟩
  refine wpAny_noE (hbody _ ent.1 _ fun fl fw vars' σ₂ s₂ p₂ st₂ r₂ e₂ => ?_)
  have lv := st.leave (F' := ⟨env, vars', env :: F.fs⟩) (by rw [hlocals]; exact Nat.le_refl _) (fun p hp => Nat.le_of_succ_le (okc.empty p.1 p.2 hp).2) rfl hfr ent.2 st₂ e₂
  cases r₂ with
  | next => exact hQ _ _ _ _ p₂ lv.1 .none lv.2
  | brk => exact hQ _ _ _ _ p₂ lv.1 .none lv.2
  | cont => exact hQ _ _ _ _ p₂ lv.1 .none lv.2
  | ret r => exact hQ _ _ _ _ p₂ lv.1 r lv.2
end
end Mine
end

section
open PySem PySem.W PyProof.Rows PySem.Calls PySem.SeqAt
set_option Elab.async false
set_option maxRecDepth 100000
set_option linter.unusedVariables false
namespace Mine

inductive SK where | list | tuple | tags
/-- a sequence and what it holds -/
inductive Items (σ : Store) : AV → SK → List AV → Prop
  | obj {a xs} : σ a = some ⟨false, xs⟩ → Items σ (.obj a) .list xs
  | tags {a xs} : σ a = some ⟨true, xs⟩ → Items σ (.obj a) .tags xs
  | datL (ds) : Items σ (.dat (.list ds)) .list (ds.map .dat)
  | datT (ds) : Items σ (.dat (.tuple ds)) .tuple (ds.map .dat)

def SeqIs (h : Heap) (x : Addr) (vs : Array Value) : SK → Prop
  | .list => h.IsList x vs
  | .tuple => IsTup h x vs
  | .tags => TagsAt h x vs
theorem SeqIs.obj {h : Heap} {x : Addr} {vs : Array Value} {k : SK} (q : SeqIs h x vs k) : ∃ o n, h.get? x = some o ∧ o.data = .seq vs n := by
  cases k with
  | list => obtain ⟨o, ho, _, n, hd⟩ := q; exact ⟨o, n, ho, hd⟩
  | tuple => obtain ⟨o, ho, _, n, hd⟩ := q; exact ⟨o, n, ho, hd⟩
  | tags => obtain ⟨o, n, ho, hd, _⟩ := TagsAt.obj q; exact ⟨o, n, ho, hd⟩

theorem DtAll.rel {σ : Store} {h : Heap} {vs : List Value} {ds : List PyData} : DtAll σ h vs ds → RelAll σ h (ds.map .dat) vs
  | .nil => .nil
  | .cons a b => .cons (.dat a) (DtAll.rel b)

section
variable {C : Cx} {A : Around} {F : Fm} {σ σ' : Store} {s s' : Shared} {P : AV → Store → Prop} {PB : Bool → Store → Prop}

theorem St.in1 (x : St C A F σ s) : St C A.in1 F σ s := { x with stack := x.stack }
theorem St.out1 (x : St C A.in1 F σ s) : St C A F σ s := { x with stack := x.stack }
theorem Room.in1 {k : Nat} (r : Room A (k + 1)) : Room A.in1 k := ⟨by have := r.depth; show A.depth + _ ≤ _; omega, by have := r.units; show A.units + 1 + _ + _ ≤ _; omega⟩
theorem Room.deeper {k : Nat} {env : Env} (r : Room A (k + 1)) : Room (A.deeper env) k := ⟨by have := r.depth; show A.depth + 1 + _ ≤ _; omega, by have := r.units; show A.units + 3 + _ + _ ≤ _; omega⟩

theorem Items.at_ (st : St C A F σ s) {a : AV} {k : SK} {xs : List AV} {v : Value} (i : Items σ a k xs) (r : Rel σ s.heap a v) : ∃ x vs, v = .ref x ∧ SeqIs s.heap x vs.toArray k ∧ RelAll σ s.heap xs vs := by
  cases i with
  | obj h =>
    obtain rfl := r.obj_inv
    obtain ⟨vs, n, ra, q⟩ := (st.so _ _ h).2
    exact ⟨_, vs, rfl, Heap.PlainList.isList q, ra⟩
  | tags h =>
    obtain rfl := r.obj_inv
    obtain ⟨vs, n, ra, q⟩ := (st.so _ _ h).2
    obtain ⟨da, q, _, _, od, k, q2⟩ := q
    exact ⟨_, vs, rfl, ⟨da, n, q, od, k, q2⟩, ra⟩
  | datL ds =>
    cases r with
    | dat r =>
      cases r with
      | list h1 h2 h3 h4 h5 => exact ⟨_, _, rfl, ⟨_, h2, h3, _, h4⟩, h5.rel⟩
  | datT ds =>
    cases r with
    | dat r =>
      cases r with
      | tuple h1 h2 h3 h4 h5 => exact ⟨_, _, rfl, ⟨_, h2, h3, _, h4⟩, h5.rel⟩

/-! ## subscripts -/
theorem Ev_Sub {value slice : Expr} {pos : Pos} (h : Ev C A F σ value fun a σ₁ => Ev C A F σ₁ slice fun b σ₂ => O2 C A F σ₂ a b (subscriptTail value slice) P) : Ev C A F σ (.Subscript value slice pos) P :=
  fun s st Q hQ => Subscript_ (h s st _ fun a v σ₁ s₁ h₁ st₁ r₁ e₁ => h₁ s₁ st₁ _ fun b u σ₂ s₂ h₂ st₂ r₂ e₂ => h₂ s₂ v u st₂ (r₁.step e₂ (.nil _)) r₂ _ fun c w σ₃ s₃ h₃ st₃ r₃ e₃ => hQ c w σ₃ s₃ h₃ st₃ r₃ ((e₁.trans e₂).trans e₃))

theorem tail_tags {value slice : Expr} {x : Addr} {i : Value} {vs : Array Value} (T : TF C.K) (X : C.K.In s.heap) (q : TagsAt s.heap x vs) {Q : Value → Shared → Prop} (hg : wpAny C.M A (getItem (.ref x) i) Q NoE s)
    (hs : subscripted slice false (.ref x) i = operate [.ref x, i] (getItem (.ref x) i)) : wpAny C.M A (subscriptTail value slice (.ref x) i) Q NoE s := by
  unfold subscriptTail getitemInPython
  refine wpAny_bind (wpAny_bind (tg_spec X q T.getitem ?_))
  refine wpAny_pure ?_
  rw [hs]
  exact wpAny_bind (wpAny_operating (wpAny_mono hg (fun r s₃ h₃ => wpAny_bind (wpAny_letTemporaryGo (wpAny_pure h₃))) fun _ _ x => x))

def notSlice : Expr → Bool
  | .Slice .. => false
  | _ => true
theorem subscripted_of {slice : Expr} (h : notSlice slice = true) (o i : Value) : subscripted slice false o i = operate [o, i] (getItem o i) := by
  cases slice <;> first | rfl | cases h

theorem O2_item (ok : C.Ok) (T : TF C.K) {value slice : Expr} {a x : AV} {k : SK} {xs : List AV} {i : Int} (hi : Items σ a k xs) (h0 : 0 ≤ i) (hx : xs[i.toNat]? = some x) (hfit : i < 2 ^ 63) (hP : P x σ) (hs : notSlice slice = true := by rfl) :
    O2 C A F σ a (.int i) (subscriptTail value slice) P :=
  .now (fun s v u st r1 r2 Q hQ => by
    obtain ⟨t, rfl⟩ := r2.int_inv
    obtain ⟨y, vs, rfl, q, ra⟩ := hi.at_ st r1
    obtain ⟨w, hw, rw'⟩ := ra.get _ _ hx
    have hw' : vs.toArray[i.toNat]? = some w := by simpa using hw
    cases k with
    | list => exact tail_any q.typeIs slot_list_getitem.lookup (wpAny_getItem_list q h0 hfit hw' (hQ _ s.toks rw')) (subscripted_of hs _ _)
    | tuple =>
      have hlt : i.toNat < vs.length := by
        rcases Nat.lt_or_ge i.toNat vs.length with h | h
        · exact h
        · rw [List.getElem?_eq_none h] at hw; cases hw
      refine tail_any q.typeIs slot_tuple_getitem.lookup (getItem_tuple q (j := i.toNat) (by omega) hfit ?_ hw' (hQ _ s.toks rw')) (subscripted_of hs _ _)
      have e1 : ¬ (i < 0) := by omega
      have e2 : (decide (0 ≤ i) && decide (i < (vs.toArray.size : Int))) = true := by
        rw [Bool.and_eq_true, decide_eq_true_eq, decide_eq_true_eq, List.size_toArray]
        exact ⟨h0, by have : (i.toNat : Int) < (vs.length : Int) := Int.ofNat_lt.mpr hlt; omega⟩
      unfold seqIndex?
      simp only [e1, if_false, e2, if_true]
    | tags => exact tail_tags T (st.K ok) q (tg_getItem (st.K ok) T q h0 hfit hw' (hQ _ s.toks rw')) (subscripted_of hs _ _)) hP

/-! ## arguments -/
def Sp (C : Cx) (A : Around) (F : Fm) (σ : Store) (es : List Expr) (P : List AV → Store → Prop) : Prop :=
  ∀ s, St C A F σ s → ∀ (pos : Pos) (Q : List Value → Shared → Prop),
    (∀ as vs σ' s', P as σ' → St C A F σ' s' → RelAll σ' s'.heap as vs → Step C.B F.frs [] σ σ' s s' → Q vs s') → wpAny C.M A (spliced (backTo pos (starEach es F.env))) Q NoE s
def On (C : Cx) (A : Around) (F : Fm) (σ : Store) (as : List AV) (t : List Value → Sem Value) (P : AV → Store → Prop) : Prop :=
  ∀ s vs, St C A F σ s → RelAll σ s.heap as vs → ∀ Q : Value → Shared → Prop,
    (∀ c w σ' s', P c σ' → St C A F σ' s' → Rel σ' s'.heap c w → Step C.B F.frs [] σ σ' s s' → Q w s') → wpAny C.M A (t vs) Q NoE s

def noStar : List Expr → Bool
  | [] => true
  | .Starred .. :: _ => false
  | _ :: r => noStar r
theorem starEach_cons {e : Expr} {r : List Expr} {env : Env} (h : noStar (e :: r) = true) : starEach (e :: r) env = (false, eval e env) :: starEach r env ∧ noStar r = true := by
  cases e <;> first | exact ⟨rfl, h⟩ | cases h
theorem starEach_plain {env : Env} {pos : Pos} : ∀ {es : List Expr}, noStar es = true → (backTo pos (starEach es env)).any (·.1) = false
  | [], _ => rfl
  | e :: r, h => by
    obtain ⟨h1, h2⟩ := starEach_cons (env := env) h
    rw [h1]
    exact starEach_plain (pos := pos) h2

theorem Sp_nil {P : List AV → Store → Prop} (h : P [] σ) : Sp C A F σ [] P := fun s st pos Q hQ => spliced_none (hQ _ _ _ _ h st .nil (.refl ..))
theorem Sp_cons {P : List AV → Store → Prop} {e : Expr} {r : List Expr} (h : Ev C A F σ e fun a σ₁ => Sp C A F σ₁ r fun as σ₂ => P (a :: as) σ₂) (he : ∀ env, starEach (e :: r) env = (false, eval e env) :: starEach r env := by intro _; rfl) : Sp C A F σ (e :: r) P :=
  fun s st pos Q hQ => spliced_more (h s st _ fun a v σ₁ s₁ h₁ st₁ r₁ e₁ => h₁ s₁ st₁ pos _ fun as vs σ₂ s₂ h₂ st₂ r₂ e₂ => hQ _ _ _ _ h₂ st₂ (.cons (r₁.step e₂ (.nil _)) r₂) (e₁.trans e₂)) (he _)

def KeepOk (C : Cx) (f : Value) : Prop := ∀ h, C.K.In h → ∃ k, (k = Keeper.frame ∨ k = Keeper.machine ∨ k = Keeper.boundFrame) ∧ Looks C.M h (keeperOf f) k
theorem KeepOk.ref {f : Addr} (h : keepIn C.K (.ref f) = true) : KeepOk C (.ref f) := fun hp X => keeps_K h hp X
theorem KeepOk.builtin (id : String) : KeepOk C (.builtin id) := fun h X => ⟨.machine, .inr (.inl rfl), Looks.of_pure rfl⟩
theorem KeepOk.type (id : String) : KeepOk C (.type id) := fun h X => ⟨.machine, .inr (.inl rfl), Looks.of_pure rfl⟩

theorem callWith_sp (ok : C.Ok) {es : List Expr} {f : Value} {first : List Value} {fas : List AV} {pos : Pos} (st : St C A F σ s) (rf : RelAll σ s.heap fas first) (hn : noStar es = true) (hk : KeepOk C f)
    (h : Sp C A F σ es fun as σ₁ => On C A F σ₁ (fas ++ as) (fun vs => call f vs) P) {Q : Value → Shared → Prop}
    (hQ : ∀ c w σ' s', P c σ' → St C A F σ' s' → Rel σ' s'.heap c w → Step C.B F.frs [] σ σ' s s' → Q w s') : wpAny C.M A (callWith pos f first (backTo pos (starEach es F.env)) []) Q NoE s := by
  have fin : wpAny C.M A (spliced (backTo pos (starEach es F.env))) (fun vs s₁ => C.K.In s₁.heap ∧ wpAny C.M A (call f (first ++ vs)) Q NoE s₁) NoE s :=
    h s st pos _ fun as vs σ₁ s₁ h₁ st₁ r₁ e₁ => ⟨st₁.K ok, h₁ s₁ (first ++ vs) st₁ ((rf.step e₁ (.nil _)).append r₁) Q fun c w σ₂ s₂ h₂ st₂ r₂ e₂ => hQ c w σ₂ s₂ h₂ st₂ r₂ (e₁.trans e₂)⟩
  have plain := starEach_plain (env := F.env) (pos := pos) hn
  cases es with
  | nil =>
    refine callWith_of (P := fun h => C.K.In h) rfl hk ?_
    unfold evalArgs
    show wpAny C.M A (spliced [] >>= _) _ NoE s
    have fin' : wpAny C.M A (spliced []) (fun vs s₁ => C.K.In s₁.heap ∧ wpAny C.M A (call f (first ++ vs)) Q NoE s₁) NoE s := fin
    refine wpAny_bind (wpAny_mono fin' (fun vs s₁ h₁ => wpAny_bind (wpAny_pure ?_)) fun _ _ x => x)
    refine wpAny_holding ?_
    exact wpAny_bind (wpAny_pure (wpAny_bind (wpAny_pure (wpAny_pure h₁))))
  | cons e r =>
    have h1 := (starEach_cons (env := F.env) hn).1
    rw [h1] at fin plain ⊢
    refine callWith_of (P := fun h => C.K.In h) (by rw [plain]; rfl) hk (evalArgs_plain fin)
end
end Mine
end

section
open PySem PySem.W PyProof.Rows PySem.Calls PySem.SeqAt
set_option Elab.async false
set_option maxRecDepth 100000
set_option linter.unusedVariables false
namespace Mine

section
variable {prog : Program} {w : World} {A : Around} {E : Value → Shared → Prop} {s : Shared} {K : Frag} {x c : Addr} {ox : Obj} {od : Option Obj} {name : Str}
theorem method_any {pl : Sem Bool} {Q : Value × List Value → Shared → Prop} {f t : Value} {id : String} (X : K.In s.heap) (I : PySem.W.InstAt s.heap x ox c od) (hga : findIn K (.ref c) "__getattribute__" = some (some (.builtin id))) (hcan : (Manifest.canonical id != "object.__getattribute__") = false)
    (hk : findIn K (.ref c) "__getattr__" = some none)
    (hf : findIn K (.ref c) name = some (some f)) (ht : typeIn K f = some t) (htt : (t != .type "function" && t != .type "method_descriptor" && t != .type "wrapper_descriptor") = false) (hs : shadowIn od name = some false) (h : Q (f, [.ref x]) s) :
    wpAny (model prog w) A (getMethod (.ref x) name pl) Q E s := by
  unfold getMethod specialOf
  refine wpAny_bind (wpAny_bind (I.type.here ((looks_findIn X hga).here ?_)))
  dsimp only
  rw [hcan, if_neg (by decide)]
  refine wpAny_bind (wpAny_bind (I.type.here ((looks_findIn X hk).here ?_)))
  refine wpAny_bind (wpAny_bind (I.type.here ((looks_findIn X hf).here (wpAny_bind ((looks_typeIn X ht).here ?_)))))
  rw [htt, if_neg (by decide)]
  refine wpAny_bind (wpAny_loadPart I.at_ ?_)
  have hd := I.dict
  cases e : ox.dict with
  | none => exact wpAny_bind (wpAny_rule (wpAny_pure h))
  | some dx =>
    cases od with
    | none => rw [e] at hd; exact hd.elim
    | some o =>
      rw [e] at hd
      obtain ⟨r, a, b⟩ := Option.map_eq_some_iff.mp hs
      refine wpAny_bind (wpAny_bind (wpAny_loadPart hd ?_))
      rw [nsLook_of a]
      refine wpAny_pure ?_
      rw [b]
      exact wpAny_bind (wpAny_rule (wpAny_pure h))
end
section
variable {C : Cx} {A : Around} {F : Fm} {σ σ' : Store} {s s' : Shared} {P : AV → Store → Prop} {PB : Bool → Store → Prop}

theorem St.mutate (x : St C A F σ s) {a : Addr} {o o' : AObj} (ho : σ a = some o) {h' : Heap} {tk : Nat} (hs : Heap.SameBut a s.heap h') (hobj : (∀ b v, Rel σ s.heap b v → Rel (upd σ a o') h' b v) → ObjAt (upd σ a o') h' a o') :
    St C A F (upd σ a o') { s with heap := h', toks := tk } ∧ Step C.B F.frs [] σ (upd σ a o') s { s with heap := h', toks := tk } := by
  have ne : ∀ b, σ b = none → b ≠ a := fun b hb e => by subst e; rw [ho] at hb; cases hb
  have step : Step C.B F.frs [] σ (upd σ a o') s { s with heap := h', toks := tk } := {
    k := fun b o e h1 _ _ _ => (hs.2 b (ne b h1)).trans e
    f := fun b o es n e h1 _ _ => ⟨o.slots, (hs.2 b (ne b h1)).trans e⟩
    t := fun b ps e h1 _ => ⟨#[], (by rw [Array.append_empty]; exact (hs.2 b (ne b h1)).trans e), .inl rfl, by simp⟩
    dom := fun b _ h1 => by rw [upd_ne (ne b h1)]; exact h1
    sz := Nat.le_of_eq hs.1.symm
    gens := Nat.le_refl _ }
  have hr : ∀ b v, Rel σ s.heap b v → Rel (upd σ a o') h' b v := fun b v r => r.step step (.nil _)
  refine ⟨x.back step (fun b z e => ?_) x.bare x.os, step⟩
  by_cases hb : b = a
  · subst hb; rw [upd_self] at e; cases e; exact ⟨(x.so b o ho).1, hobj hr⟩
  · rw [upd_ne hb] at e
    obtain ⟨g1, vs, n, ra, q⟩ := x.so b z e
    obtain ⟨oa, va, na, hoa, hda⟩ := (x.so a o ho).2.at_
    refine ⟨g1, vs, n, ?_, ?_⟩
    · clear q
      generalize z.items = l at ra
      induction ra with
      | nil => exact .nil
      | cons h _ ih => exact .cons (hr _ _ h) ih
    · cases ht : z.tags with
      | false =>
        rw [ht] at q
        obtain ⟨m, q⟩ := q
        exact ⟨m, (hs.2 b hb).trans q⟩
      | true =>
        rw [ht] at q
        obtain ⟨da, q, i1, i2, od, k, q2, q3⟩ := q
        have hne : da ≠ a := fun e => by subst e; rw [hoa] at q2; cases q2; rw [hda] at q3; cases q3
        exact ⟨da, (hs.2 b hb).trans q, i1, by rw [upd_ne hne]; exact i2, od, k, (hs.2 da hne).trans q2, q3⟩

/-! ## calls -/
theorem Ev_Call (ok : C.Ok) {x : Str} {np pos : Pos} {es : List Expr} (h : Ev C A F σ (.Name x np) fun a σ₁ => ∃ f, a = .val f ∧ KeepOk C f ∧ Sp C A F σ₁ es fun as σ₂ => On C A F σ₂ as (fun vs => call f vs) P) (hn : noStar es = true := by rfl) :
    Ev C A F σ (.Call (.Name x np) es [] pos) P :=
  fun s st Q hQ => wpAny_Call_ofName (h s st _ fun a v σ₁ s₁ h₁ st₁ r₁ e₁ => by
    obtain ⟨f, rfl, hk, hsp⟩ := h₁
    obtain rfl := r₁.val_inv
    exact callWith_sp ok (fas := []) st₁ .nil hn hk hsp fun c w σ₂ s₂ h₂ st₂ r₂ e₂ => hQ c w σ₂ s₂ h₂ st₂ r₂ (e₁.trans e₂))

/-- what a method's name gives -/
def MethTo (C : Cx) (A : Around) (F : Fm) (σ : Store) (a : AV) (name : Str) (f : Value) (fas : List AV) : Prop :=
  ∀ (pl : Sem Bool) s v, St C A F σ s → Rel σ s.heap a v → ∀ Q : Value × List Value → Shared → Prop, (∀ first, RelAll σ s.heap fas first → Q (f, first) s) → wpAny C.M A (getMethod v name pl) Q NoE s

theorem Ev_Meth (ok : C.Ok) {o : Expr} {name : Str} {apos pos : Pos} {es : List Expr} {pl : Sem Bool}
    (h : Ev C A F σ o fun a σ₁ => ∃ f fas, MethTo C A F σ₁ a name f fas ∧ KeepOk C f ∧ Sp C A F σ₁ es fun as σ₂ => On C A F σ₂ (fas ++ as) (fun vs => call f vs) P) (hn : noStar es = true := by rfl)
    (he : eval (.Call (.Attribute o name apos) es [] pos) F.env = (do
      let ov ← eval o F.env
      standAt apos.atName
      let (f, first) ← holding [ov] (getMethod ov name pl)
      callWith pos f first (backTo pos (starEach es F.env)) (backToKw pos (keywordEach [] F.env))) := by rfl) :
    Ev C A F σ (.Call (.Attribute o name apos) es [] pos) P :=
  fun s st Q hQ => methodCall_KW (h s st _ fun a v σ₁ s₁ h₁ st₁ r₁ e₁ => by
    obtain ⟨f, fas, hm, hk, hsp⟩ := h₁
    refine hm pl s₁ v st₁ r₁ _ fun first rf => ?_
    exact callWith_sp ok st₁ rf hn hk hsp fun c w σ₂ s₂ h₂ st₂ r₂ e₂ => hQ c w σ₂ s₂ h₂ st₂ r₂ (e₁.trans e₂)) he

/-- a class whose objects are read plainly -/
structure PlainCls (K : Frag) (c : Addr) : Prop where
  ga : ∃ id, findIn K (.ref c) "__getattribute__" = some (some (.builtin id)) ∧ (Manifest.canonical id != "object.__getattribute__") = false
  gt : findIn K (.ref c) "__getattr__" = some none

theorem shadow_none {od : Obj} {k : Nat} {name : Str} (h : od.data = .dict #[] k) : shadowIn (some od) name = some false := by
  show (lookIn name od).map _ = _
  unfold lookIn
  rw [h]
  rfl
theorem MethTo_obj (ok : C.Ok) (pc : PlainCls C.K TagsC) {x : Addr} {xs : List AV} {name : Str} {f : Addr} (hx : σ x = some ⟨true, xs⟩) (hf : findIn C.K (.ref TagsC) name = some (some (.ref f))) (ht : typeIn C.K (.ref f) = some (.type "function")) :
    MethTo C A F σ (.obj x) name (.ref f) [.obj x] := fun pl s v st r Q hQ => by
  obtain rfl := r.obj_inv
  obtain ⟨vs, n, ra, da, q, _, _, od, k, q2, q3⟩ := (st.so _ _ hx).2
  obtain ⟨id, g1, g2⟩ := pc.ga
  exact method_any (st.K ok) (od := some od) ⟨q, rfl, rfl, q2⟩ g1 g2 pc.gt hf ht (by decide +kernel) (shadow_none q3) (hQ _ (.cons (.obj x) .nil))

theorem tagInst {h : Heap} {a d : Addr} {c : Int} {tc : Tok} {x : Str} {tx : Tok} {od : Obj} (e : h.get? a = some (tagObj d c tc x tx)) (e2 : h.get? d = some od) : PySem.W.InstAt h a (tagObj d c tc x tx) TagC (some od) := ⟨e, rfl, rfl, e2⟩
theorem Rel.tag_inv {h : Heap} {c : Int} {x : Str} {v : Value} (r : Rel σ h (.tag c x) v) : ∃ a d tc tx od k, v = .ref a ∧ σ a = Option.none ∧ h.get? a = some (tagObj d c tc x tx) ∧ h.get? d = some od ∧ od.data = .dict #[] k := by
  cases r with | tag h1 h2 h3 => obtain ⟨_, _, od, k, g1, g2⟩ := h3; exact ⟨_, _, _, _, od, k, rfl, h1, h2, g1, g2⟩

theorem MethTo_tag (ok : C.Ok) (pc : PlainCls C.K TagC) {c : Int} {x : Str} {name : Str} {f : Addr} (hf : findIn C.K (.ref TagC) name = some (some (.ref f))) (ht : typeIn C.K (.ref f) = some (.type "function")) :
    MethTo C A F σ (.tag c x) name (.ref f) [.tag c x] := fun pl s v st r Q hQ => by
  obtain ⟨a, d, tc, tx, od, k, rfl, h1, h2, h3, h4⟩ := r.tag_inv
  obtain ⟨id, g1, g2⟩ := pc.ga
  exact method_any (st.K ok) (tagInst h2 h3) g1 g2 pc.gt hf ht (by decide +kernel) (shadow_none h4) (hQ _ (.cons r .nil))

theorem MethTo_append {x : Addr} {xs : List AV} (hx : σ x = some ⟨false, xs⟩) : MethTo C A F σ (.obj x) "append" (.builtin "list.append") [.obj x] := fun pl s v st r Q hQ => by
  obtain rfl := r.obj_inv
  obtain ⟨vs, n, ra, q⟩ := (st.so _ _ hx).2
  obtain ⟨m, q⟩ := q
  exact getMethod_builtin (T := "list") ⟨_, q, rfl⟩ PySem.F.plainAttrs_list PySem.F.slot_list_append PySem.F.type_list_append (fun a e => by cases e; exact ⟨_, q, rfl⟩) (hQ _ (.cons (.obj x) .nil))
end
end Mine
end

section
open PySem PySem.W PyProof.Rows PySem.Calls PySem.SeqAt
set_option Elab.async false
set_option maxRecDepth 100000
set_option linter.unusedVariables false
namespace Mine

section
variable {prog : Program} {w : World} {A : Around} {E : Value → Shared → Prop} {s : Shared}
/-- one place of a plain list is set -/
theorem pl_setItem {l : Addr} {items : Array Value} {k : Int} {t : Tok} {v : Value} {Q : Unit → Shared → Prop} (hl : s.heap.PlainList l items)
    (h0 : 0 ≤ k) (hfit : k < 2 ^ 63) (hn : k < items.size) (hQ : Q () { s with heap := s.heap.update l (Obj.mapSeq (·.setIfInBounds k.toNat v)) }) :
    wpAny (model prog w) A (setItem (.ref l) (.int k t) v) Q E s := by
  obtain ⟨m, ho⟩ := hl
  have hT : s.TypeIs (.ref l) "list" := ⟨_, ho, rfl⟩
  unfold setItem
  refine wpAny_holding (wpAny_bind (wpAny_sequenceKey hT (by decide) ?_))
  refine wpAny_bind (wpAny_callSpecial?_slot (name := Str.ofString "__setitem__") hT slot_list_setitem (wpAny_call_entry slot_list_setitem hT entry_list_setitem ?_ (args_list_setitem _ _ _)))
  show wpAny _ _ (Builtin.List.listSubscript? (.int k t) >>= _) _ _ s
  refine wpAny_bind (wpAny_listSubscript_int (fitsIndex_of h0 hfit) ?_)
  clear hfit
  obtain ⟨j, rfl⟩ := Int.eq_ofNat_of_zero_le h0
  have hj : j < items.size := by omega
  have hx' : items[j]? = some items[j] := Array.getElem?_eq_getElem hj
  show wpAny _ _ ((seqItemAt l j >>= fun r => pure (r.map (j, ·))) >>= _) _ _ s
  refine wpAny_bind (wpAny_bind (wpAny_seqItemAt ho rfl (wpAny_pure ?_)))
  rw [hx']
  show wpAny _ _ (setSeqItemAt l j v >>= _) _ _ s
  refine wpAny_bind (wpAny_setSeqItemAt ho rfl ?_)
  first
    | exact wpAny_bind (wpAny_pure (wpAny_pure ⟨.none, rfl, wpAny_pure hQ⟩))
    | exact wpAny_pure ⟨.none, rfl, wpAny_pure hQ⟩
end

section
variable {C : Cx} {A : Around} {F : Fm} {σ σ' : Store} {s s' : Shared} {P : AV → Store → Prop} {PB : Bool → Store → Prop}

theorem MethTo_tagsAppend (ok : C.Ok) (pc : PlainCls C.K TagsC) (T : TF C.K) {x : Addr} {xs : List AV} (hx : σ x = some ⟨true, xs⟩) (ht : typeIn C.K (.builtin "list.append") = some (.type "method_descriptor")) :
    MethTo C A F σ (.obj x) "append" (.builtin "list.append") [.obj x] := fun pl s v st r Q hQ => by
  obtain rfl := r.obj_inv
  obtain ⟨vs, n, ra, da, q, _, _, od, k, q2, q3⟩ := (st.so _ _ hx).2
  obtain ⟨id, g1, g2⟩ := pc.ga
  exact method_any (st.K ok) (od := some od) ⟨q, rfl, rfl, q2⟩ g1 g2 pc.gt T.append ht (by decide +kernel) (shadow_none q3) (hQ _ (.cons (.obj x) .nil))

theorem RelAll.one {h : Heap} {a : AV} {vs : List Value} (r : RelAll σ h [a] vs) : ∃ v, vs = [v] ∧ Rel σ h a v := by
  cases r with | cons h1 h2 => cases h2; exact ⟨_, rfl, h1⟩
theorem RelAll.two {h : Heap} {a b : AV} {vs : List Value} (r : RelAll σ h [a, b] vs) : ∃ v u, vs = [v, u] ∧ Rel σ h a v ∧ Rel σ h b u := by
  cases r with | cons h1 h2 => obtain ⟨u, rfl, h3⟩ := h2.one; exact ⟨_, _, rfl, h1, h3⟩

theorem RelAll.map {h h' : Heap} {as : List AV} {vs : List Value} (r : RelAll σ h as vs) (f : ∀ b v, Rel σ h b v → Rel σ' h' b v) : RelAll σ' h' as vs := by
  induction r with
  | nil => exact .nil
  | cons h _ ih => exact .cons (f _ _ h) ih

theorem On_append (ok : C.Ok) (T : TF C.K) {x : Addr} {b : Bool} {xs : List AV} {a : AV} (hx : σ x = some ⟨b, xs⟩) (hz : xs.length ≤ 100000) (hP : P .none (upd σ x ⟨b, xs ++ [a]⟩)) :
    On C A F σ [.obj x, a] (fun vs => call (.builtin "list.append") vs) P := fun s vs st r Q hQ => by
  obtain ⟨v, u, rfl, r1, r2⟩ := r.two
  obtain rfl := r1.obj_inv
  obtain ⟨us, n, ra, q⟩ := (st.so _ _ hx).2
  have ra : RelAll σ s.heap xs us := ra
  have hlen : us.toArray.size = xs.length := by rw [List.size_toArray]; exact ra.length
  cases b with
  | false =>
    refine wpAny_list_append_plain (l := x) (items := us.toArray) q (fun h' hl hs => ?_) (by rw [hlen, sizeLine_eq]; omega)
    have := st.mutate hx (o' := ⟨false, xs ++ [a]⟩) (tk := s.toks) hs fun hr => ⟨us ++ [u], 0, (ra.map hr).append (.cons (hr _ _ r2) .nil), by simpa using hl⟩
    exact hQ .none .none _ _ hP this.1 .none this.2
  | true =>
    obtain ⟨da, q, i1, i2, od, k, q2, q3⟩ := q
    have tg : TagsAt s.heap x us.toArray := ⟨da, n, q, od, k, q2, q3⟩
    have hdx : da ≠ x := fun e => by subst e; rw [q] at q2; cases q2; cases q3
    refine tg_append (st.K ok) T tg (by omega) ?_
    obtain ⟨n', g1⟩ : ∃ n', (s.heap.update x (Obj.mapSeq (·.push u))).get? x = some { cls := .ref TagsC, dict := some da, data := .seq (us.toArray.push u) n' } := ⟨_, Heap.get?_update_self (Obj.mapSeq (·.push u)) q rfl⟩
    have g2 := (Heap.get?_update_other s.heap (a := x) (b := da) (Obj.mapSeq (·.push u)) (Ne.symm hdx)).trans q2
    have := st.mutate hx (o' := ⟨true, xs ++ [a]⟩) (tk := s.toks) (Heap.SameBut.update s.heap x (Obj.mapSeq (·.push u))) fun hr => ⟨us ++ [u], n', (ra.map hr).append (.cons (hr _ _ r2) .nil), da, (by simpa using g1), i1, by rw [upd_ne hdx]; exact i2, od, k, g2, q3⟩
    exact hQ .none .none _ _ hP this.1 .none this.2

/-! ## one place is set -/
theorem Ex_SetItem (ok : C.Ok) (T : TF C.K) {P : FP} {o i e : Expr} {p pos : Pos} (h : Ev C A F σ e fun a σ₁ => Ev C A F σ₁ o fun b σ₂ => Ev C A F σ₂ i fun k σ₃ => ∃ x t xs j, b = .obj x ∧ k = .int j ∧ σ₃ x = some ⟨t, xs⟩ ∧ 0 ≤ j ∧ j < xs.length ∧ xs.length ≤ 100000 ∧ P .next F.vars (upd σ₃ x ⟨t, xs.set j.toNat a⟩))
    (hs : swapsWith e (some (.Subscript o i p)) pos.line F.env = pure false := by rfl) : Ex C A F σ (.Assign [.Subscript o i p] e pos) P :=
  fun s st Q hQ => wpAny_Assign_Subscript (h s st _ fun a v σ₁ s₁ h₁ st₁ r₁ e₁ => h₁ s₁ st₁ _ fun b u σ₂ s₂ h₂ st₂ r₂ e₂ => h₂ s₂ st₂ _ fun k w σ₃ s₃ h₃ st₃ r₃ e₃ => by
    obtain ⟨x, t, xs, j, rfl, rfl, hx, h0, hj, hz, hP⟩ := h₃
    obtain ⟨tk, rfl⟩ := r₃.int_inv
    obtain rfl := (r₂.step e₃ (.nil _)).obj_inv
    have rv := (r₁.step e₂ (.nil _)).step e₃ (.nil _)
    obtain ⟨us, n, ra, q⟩ := (st₃.so _ _ hx).2
    have ra : RelAll σ₃ s₃.heap xs us := ra
    have hlen : us.toArray.size = xs.length := by rw [List.size_toArray]; exact ra.length
    have steps := (e₁.trans e₂).trans e₃
    have cv : us.toArray.setIfInBounds j.toNat v = (us.set j.toNat v).toArray := by simp
    cases t with
    | false =>
      obtain ⟨m, q⟩ := q
      refine pl_setItem (l := x) (items := us.toArray) ⟨m, q⟩ h0 (by omega) (by rw [hlen]; exact hj) ?_
      have := st₃.mutate hx (o' := ⟨false, xs.set j.toNat a⟩) (tk := s₃.toks) (Heap.SameBut.update s₃.heap x (Obj.mapSeq (·.setIfInBounds j.toNat v))) fun hr => ⟨us.set j.toNat v, 0, (ra.map hr).set (hr _ _ rv) _, by rw [← cv]; exact ⟨_, Heap.get?_update_self (Obj.mapSeq (·.setIfInBounds j.toNat v)) q rfl⟩⟩
      exact hQ .next .next F.vars _ _ hP this.1 .next ((steps.trans this.2).mono (by simp))
    | true =>
      obtain ⟨da, q, i1, i2, od, k, q2, q3⟩ := q
      have tg : TagsAt s₃.heap x us.toArray := ⟨da, n, q, od, k, q2, q3⟩
      have hdx : da ≠ x := fun e => by subst e; rw [q] at q2; cases q2; cases q3
      refine tg_setItem (st₃.K ok) T tg h0 (by omega) (by rw [hlen]; exact hj) ?_
      obtain ⟨n', g1⟩ : ∃ n', (s₃.heap.update x (Obj.mapSeq (·.setIfInBounds j.toNat v))).get? x = some { cls := .ref TagsC, dict := some da, data := .seq (us.toArray.setIfInBounds j.toNat v) n' } := ⟨_, Heap.get?_update_self (Obj.mapSeq (·.setIfInBounds j.toNat v)) q rfl⟩
      have g2 := (Heap.get?_update_other s₃.heap (a := x) (b := da) (Obj.mapSeq (·.setIfInBounds j.toNat v)) (Ne.symm hdx)).trans q2
      have := st₃.mutate hx (o' := ⟨true, xs.set j.toNat a⟩) (tk := s₃.toks) (Heap.SameBut.update s₃.heap x (Obj.mapSeq (·.setIfInBounds j.toNat v))) fun hr => ⟨us.set j.toNat v, n', (ra.map hr).set (hr _ _ rv) _, da, (by rw [← cv]; exact g1), i1, by rw [upd_ne hdx]; exact i2, od, k, g2, q3⟩
      exact hQ .next .next F.vars _ _ hP this.1 .next ((steps.trans this.2).mono (by simp))) hs

/-! ## displays -/
theorem Ev_List {es : List Expr} {pos : Pos} (h : Sp C A F σ es fun as σ₁ => as.length ≤ 1000 ∧ ∀ a, σ₁ a = none → P (.obj a) (upd σ₁ a ⟨false, as⟩)) : Ev C A F σ (.List es pos) P :=
  fun s st Q hQ => wpAny_List (h s st pos _ fun as vs σ₁ s₁ h₁ st₁ r₁ e₁ => by
    have hl := r₁.length
    refine ⟨by rw [hl, sizeLine_eq]; omega, ?_⟩
    have hn : σ₁ s₁.heap.objs.size = none := by
      cases q : σ₁ s₁.heap.objs.size with
      | none => rfl
      | some z =>
        obtain ⟨ob, _, _, e, _⟩ := (st₁.so _ z q).2.at_
        exact absurd (Heap.lt_size e) (Nat.lt_irrefl _)
    have keep : ∀ b o, s₁.heap.get? b = some o → (s₁.heap.push { cls := .type "list", data := .seq vs.toArray }).get? b = some o := fun b o e => Heap.get?_push_of_some _ e
    have st0 : Step C.B F.frs [] σ₁ (upd σ₁ s₁.heap.objs.size ⟨false, as⟩) s₁ { s₁ with heap := s₁.heap.push { cls := .type "list", data := .seq vs.toArray } } :=
      .grow keep (by rw [Heap.size_push]; exact Nat.le_succ _) (Nat.le_refl _) fun b l q => by rw [upd_ne (Nat.ne_of_lt l)]; exact q
    have := st₁.alloc (a := s₁.heap.objs.size) (o := ⟨false, as⟩) (s' := { s₁ with heap := s₁.heap.push { cls := .type "list", data := .seq vs.toArray } }) (Nat.le_refl _) keep (by rw [Heap.size_push]; exact Nat.le_succ _) rfl rfl
      ⟨vs, 0, r₁.step st0 (.nil _), 0, Heap.get?_push_size _ rfl⟩
    exact hQ _ _ _ _ (h₁.2 _ hn) this.1 (.obj _) (e₁.trans this.2.1))

theorem RelAll.dts {h : Heap} {ds : List PyData} {vs : List Value} (r : RelAll σ h (ds.map .dat) vs) : DtAll σ h vs ds := by
  induction ds generalizing vs with
  | nil => cases r; exact .nil
  | cons d ds ih => cases r with | cons h1 h2 => cases h1 with | dat h1 => exact .cons h1 (ih h2)

theorem Ev_Tuple {es : List Expr} {k : Nat} {pos : Pos} (h : Sp C A F σ es fun as σ₁ => ∃ ds : List PyData, as = ds.map .dat ∧ as.length ≤ 1000 ∧ P (.dat (.tuple ds)) σ₁) : Ev C A F σ (.Tuple es k pos) P :=
  fun s st Q hQ => wpAny_Tuple (h s st pos _ fun as vs σ₁ s₁ h₁ st₁ r₁ e₁ => by
    have hl := r₁.length
    obtain ⟨ds, rfl, hz, hP⟩ := h₁
    refine ⟨by rw [hl, sizeLine_eq]; omega, ?_⟩
    have hn : σ₁ s₁.heap.objs.size = none := by
      cases q : σ₁ s₁.heap.objs.size with
      | none => rfl
      | some z =>
        obtain ⟨ob, _, _, e, _⟩ := (st₁.so _ z q).2.at_
        exact absurd (Heap.lt_size e) (Nat.lt_irrefl _)
    obtain ⟨st2, e2⟩ := st₁.push { cls := .type "tuple", data := .seq vs.toArray } s₁.toks
    exact hQ _ _ _ _ hP st2 (.dat (.tuple hn (Heap.get?_push_size _ rfl) rfl rfl ((r₁.step e2 (.nil _)).dts))) (e₁.trans e2))

/-! ## forgetting, at a value -/
def Conv (σ1 σ0 : Store) (a a0 : AV) : Prop := a0 = a ∨ ∃ l ds, a = .obj l ∧ a0 = .dat (.list ds) ∧ σ1 l = some ⟨false, ds.map .dat⟩ ∧ σ0 l = none
theorem Conv.rel {σ0 : Store} {a a0 : AV} {v : Value} (x : Conv σ σ0 a a0) (st : St C A F σ s) (sub : Sub σ0 σ) (r : Rel σ s.heap a v) : Rel σ0 s.heap a0 v := by
  rcases x with rfl | ⟨l, ds, rfl, rfl, h1, h0⟩
  · exact r.sub sub
  · obtain rfl := r.obj_inv
    obtain ⟨vs, n, ra, m, q⟩ := (st.so _ _ h1).2
    have ra : RelAll σ s.heap (ds.map .dat) vs := ra
    exact .dat (.list h0 q rfl rfl ((ra.sub sub).dts))
def Up (P : AV → Store → Prop) : AV → Store → Prop := fun a σ1 => ∃ a0 σ0, Sub σ0 σ1 ∧ Conv σ1 σ0 a a0 ∧ P a0 σ0
theorem Up.now {a : AV} (h : P a σ) : Up P a σ := ⟨a, σ, .refl _, .inl rfl, h⟩
theorem Up.to {a : AV} {σ0 : Store} (h : P a σ0) (hs : Sub σ0 σ) : Up P a σ := ⟨a, σ0, hs, .inl rfl, h⟩
theorem Up.froze {l : Addr} {ds : List PyData} {σ0 : Store} (h : P (.dat (.list ds)) σ0) (hs : Sub σ0 σ) (h1 : σ l = some ⟨false, ds.map .dat⟩) (h0 : σ0 l = none) : Up P (.obj l) σ := ⟨_, σ0, hs, .inr ⟨l, ds, rfl, rfl, h1, h0⟩, h⟩
theorem Tv.up {t : Sem Value} (h : Tv C A F σ t (Up P)) : Tv C A F σ t P := fun s st Q hQ => h s st Q fun a v σ₁ s₁ h₁ st₁ r₁ e₁ => by
  obtain ⟨a0, σ0, sub, cv, hp⟩ := h₁
  exact hQ a0 v σ0 s₁ hp (st₁.forget sub) (cv.rel st₁ sub r₁) (e₁.sub sub)
theorem On.up {as : List AV} {t : List Value → Sem Value} (h : On C A F σ as t (Up P)) : On C A F σ as t P := fun s vs st r Q hQ => h s vs st r Q fun a v σ₁ s₁ h₁ st₁ r₁ e₁ => by
  obtain ⟨a0, σ0, sub, cv, hp⟩ := h₁
  exact hQ a0 v σ0 s₁ hp (st₁.forget sub) (cv.rel st₁ sub r₁) (e₁.sub sub)

/-! ## contracts -/
def Fn (C : Cx) (k : Nat) (f : Addr) (as : List AV) (σ : Store) (P : AV → Store → Prop) : Prop :=
  ∀ (A : Around) (F : Fm) (s : Shared) (vs : List Value) (R : Result → Shared → Prop), Room A k → A.handled = none → St C A F σ s → RelAll σ s.heap as vs →
    (∀ a v σ' s', P a σ' → St C A F σ' s' → Rel σ' s'.heap a v → Step C.B F.frs [] σ σ' s s' → R (.ok (.ret v)) s') → codeAny C.M A (.call (.ref f) ⟨vs, []⟩) R s
theorem Fn.mono {k : Nat} {f : Addr} {as : List AV} {P' : AV → Store → Prop} (x : Fn C k f as σ P) (h : ∀ a σ', P a σ' → P' a σ') : Fn C k f as σ P' :=
  fun A F s vs R room hh st r hR => x A F s vs R room hh st r fun a v σ' s' p => hR a v σ' s' (h _ _ p)
theorem Fn.on {k j : Nat} {f : Addr} {as : List AV} (x : Fn C k f as σ P) (room : Room A j) (hk : k ≤ j) (hh : A.handled = none) : On C A F σ as (fun vs => call (.ref f) vs) P :=
  fun s vs st r Q hQ => wpAny_call (x A F s vs _ (room.less hk) hh st r fun a v σ' s' hp st' r' e' => hQ a v σ' s' hp st' r' e')

theorem Binds.of {h : Heap} : ∀ {names : List Str} {as : List AV} {vs : List Value}, RelAll σ h as vs → names.length = as.length → Binds σ h (names.zip as) (names.zip vs)
  | [], [], _, r, _ => by cases r; exact .nil
  | n :: ns, a :: as, _, r, e => by
    cases r with
    | cons h1 h2 => exact .cons h1 (Binds.of h2 (by simpa using e))
  | [], _ :: _, _, _, e => by simp at e
  | _ :: _, [], _, _, e => by simp at e

/-- a function whose parameters are all given by place -/
theorem Fn_of (ok : C.Ok) {f : Addr} {fd : FuncData} {body : List Stmt} (fo : FnOk C.K f fd body) {k : Nat} {as : List AV} (names : List Str) (hlen : names.length = as.length)
    (hb : ∀ vs : List Value, vs.length = as.length → bindArgs fd ⟨vs, []⟩ = pure (names.zip vs))
    (hgen : fd.scope.isGenerator = false) (hnd : names.Nodup) (hkinds : kindsOk fd.scope names = true) (hsnd : (fd.scope.names.map (·.1)).Nodup) (hloc : (∃ x ∈ names, fd.scope.names.lookup x = some .local) ∨ ∀ L : Addr, L + 1 ∈ (cellsFrom (L + 1) fd.scope.names []).map (·.2))
    (h : ∀ (A : Around) (L : Addr) (fs : List Env) env, env = callEnvC fd L f → Room A k → A.handled = none → Exs C A ⟨env, names.zip as, env :: fs⟩ σ body fun fl _ σ₁ => match fl with | .ret a => Up P a σ₁ | _ => Up P .none σ₁) :
    Fn C (k + 1) f as σ P := fun A F s vs R room hh st r hR => by
  have hz : (names.zip as).map (·.1) = names := List.map_fst_zip (Nat.le_of_eq hlen)
  refine call_fnC ok fo room (Nat.le_add_left 1 k) st (.of_eq (hb vs r.length)) (Binds.of r hlen) hgen (by rw [hz]; exact hnd) (by rw [hz]; exact hkinds) hsnd (by rw [hz]; exact hloc) (P := Up P)
    (fun L env he => (h (A.deeper env) L F.fs env he (room.deeper) hh).mono fun fl vars σ' hp => by cases fl <;> exact hp) fun a v σ₁ s₁ h₁ st₁ r₁ e₁ => ?_
  obtain ⟨a0, σ0, sub, cv, hp⟩ := h₁
  exact hR a0 v σ0 s₁ hp (st₁.forget sub) (cv.rel st₁ sub r₁) (e₁.sub sub)

/-! ## properties -/
theorem getProp (ok : C.Ok) (hga : findIn C.K (.ref TagC) "__getattribute__" = some (some (.builtin "object.__getattribute__"))) (pc : PlainCls C.K TagC) {k j : Nat} {c : Int} {x : Str} {name : Str} {p fget : Addr} {rest : List Value} (room : Room A (j + 1)) (hkj : k ≤ j) (hh : A.handled = none)
    (hf : ∀ od k, od.data = .dict #[] k → findObj C.K TagC (some od) name = some (.bind (.builtin "property.__get__") (.ref p))) (hp : recIn C.K p "property" = some (.ref fget :: rest)) (hfn : Fn C k fget [.tag c x] σ P)
    {a : Addr} {tc tx : Tok} (st : St C A F σ s) (r : Rel σ s.heap (.tag c x) (.ref a)) {b : Bool} {Q : Value → Shared → Prop}
    (hQ : ∀ c w σ' s', P c σ' → St C A F σ' s' → Rel σ' s'.heap c w → Step C.B F.frs [] σ σ' s s' → handedIn w = true ∧ Q w s') : wpAny C.M A (getAttr (.ref a) name b) Q NoE s := by
  obtain ⟨a', d, tc', tx', od, k, e, h1, h2, h3, h4⟩ := r.tag_inv
  cases e
  obtain ⟨st2, e2⟩ := st.tok (s.toks + 1)
  refine get_bind (st.K ok) (tagInst h2 h3) hga (hf od k h4) pc.gt (wpAny_call (prop_get (s := { s with toks := s.toks + 1 }) (st2.K ok) hp ?_))
  refine hfn A.in1 F _ [.ref a] _ ((room.in1).less hkj) hh st2.in1 (.cons (r.step e2 (.nil _)) .nil) fun c w σ' s' hp' st' r' e' => ?_
  obtain ⟨g1, g2⟩ := hQ c w σ' s' hp' st'.out1 r' (e2.trans e')
  exact handed_on g1 g2
end
end Mine
end

section
open PySem PySem.W PyProof.Rows PySem.Calls PySem.SeqAt
set_option Elab.async false
set_option maxRecDepth 100000
set_option linter.unusedVariables false
namespace Mine

/-- where an iteration stands -/
inductive IterAt (σ : Store) (h : Heap) (it : Addr) (a : AV) (xs : List AV) (i : Nat) : Prop
  | seq {k : SK} {l : Addr} : k ≠ .tuple → Items σ a k xs → Rel σ h a (.ref l) → h.IsListIter it l i → IterAt σ h it a xs i
  | rng {lo hi : Int} {n : Nat} : a = .rng lo hi → xs = (List.range n).map (fun j : Nat => AV.int (lo + j)) → i ≤ n → IsRangeIter h it (lo + i) ((n : Int) - i) 1 → IterAt σ h it a xs i
/-- what can be iterated -/
inductive Src (σ : Store) (a : AV) (xs : List AV) : Prop
  | seq {k : SK} : k ≠ .tuple → Items σ a k xs → Src σ a xs
  | rng {lo hi : Int} : a = .rng lo hi → xs = (List.range (hi - lo).toNat).map (fun j : Nat => AV.int (lo + j)) → -(2 ^ 62) ≤ lo → hi < 2 ^ 62 → lo < 2 ^ 62 → -(2 ^ 62) ≤ hi → Src σ a xs

/-- the object of an iterator -/
def ItObj (h : Heap) (it : Addr) : Prop := ∃ o, h.get? it = some o ∧ (∃ vs, o.data = .fields vs) ∧ o.cls ≠ .type "range" ∧ o.cls ≠ .none
theorem IterAt.obj {σ : Store} {h : Heap} {it : Addr} {a : AV} {xs : List AV} {i : Nat} (x : IterAt σ h it a xs i) : ItObj h it := by
  cases x with
  | seq _ _ _ q => obtain ⟨o, ho, hc, hd⟩ := q; exact ⟨o, ho, ⟨_, hd⟩, by rw [hc]; decide, by rw [hc]; decide⟩
  | rng _ _ _ q => exact ⟨_, q, ⟨_, rfl⟩, (fun e => by injection e with e; exact absurd e (by decide)), (fun e => by injection e)⟩

section
variable {prog : Program} {w : World} {A : Around} {E : Value → Shared → Prop} {s : Shared}
theorem rg_pyNext_end {it : Addr} {x left step : Int} {Q : Option Value → Shared → Prop} (hh : A.handled = none) (hit : IsRangeIter s.heap it x left step) (hleft : left ≤ 0)
    (hQ : ∀ h', Heap.ExtBut it s.heap h' → s.heap.objs.size ≤ h'.objs.size → (∃ o, h'.get? s.heap.objs.size = some o ∧ o.cls = .type "tuple") → Q none { s with heap := h' }) : wpAny (model prog w) A (pyNext (.ref it)) Q E s := by
  have hT : s.TypeIs (.ref it) "range_iterator" := ⟨_, hit, rfl⟩
  unfold pyNext
  refine wpAny_bind (wpAny_attempt (wpAny_callSpecial?_slot (name := Str.ofString "__next__") hT F.slot_range_iterator_next
    (wpAny_call_entry F.slot_range_iterator_next hT F.entry_range_iterator_next ?_ (F.args_range_iterator_next_1 _))))
  show wpAny _ _ (field (.ref it) 0 >>= _) _ _ s
  refine wpAny_bind (wpAny_field hit rfl (x := rawInt x) rfl ?_)
  show wpAny _ _ (field (.ref it) 1 >>= _) _ _ s
  refine wpAny_bind (wpAny_field hit rfl (x := rawInt left) rfl ?_)
  show wpAny _ _ (field (.ref it) 2 >>= _) _ _ s
  refine wpAny_bind (wpAny_field hit rfl (x := rawInt step) rfl ?_)
  show wpAny _ _ (if left ≤ 0 then _ else _) _ _ s
  rw [if_pos hleft]
  refine wpAny_bind (wpAny_rule ?_)
  refine wpAny_bind ?_
  show wpAny _ _ (newExc (.type "StopIteration") [] >>= _) _ _ _
  refine wpAny_bind ?_
  simp only [newExc, newTuple]
  refine wpAny_bind (wpAny_newObj_type ?_ (by size_fits))
  refine wpAny_bind (m := firstArgMember _ _) (wpAny_of_eq (a := Value.none) (by first | rfl | (simp only [firstArgMember]; rfl)) ?_)
  refine wpAny_newObj_type ?_ (by size_fits)
  simp only [raiseNew]
  refine wpAny_bind (wpAny_handled ?_)
  first | rw [show A.in1.handled = none from hh] | rw [hh]
  refine wpAny_bind (wpAny_pure (wpAny_throw ?_))
  refine wpAny_bind (wpAny_isInstance (T := "StopIteration") (b := true) ⟨_, Heap.get?_push_size _ rfl, rfl⟩ isSubtype_stop ?_)
  exact wpAny_pure (hQ _ (((Heap.ExtBut.refl it s.heap).push _).push _) (by simp only [Heap.size_push]; omega) ⟨_, Heap.get?_push_of_some _ (Heap.get?_push_size s.heap (o := { cls := .type "tuple", data := .seq #[] }) rfl), rfl⟩)
end

section
variable {C : Cx} {A : Around} {F : Fm} {σ σ' : Store} {s s' : Shared}

theorem St.freshB (x : St C A F σ s) {a : Addr} (ha : s.heap.objs.size ≤ a) : C.B.get? a = none := by
  cases q : C.B.get? a with
  | none => rfl
  | some z =>
    have hz : s.heap.get? a = none := by
      cases q : s.heap.get? a with
      | none => rfl
      | some z => exact absurd (Heap.lt_size q) (Nat.not_lt.mpr ha)
    by_cases ht : ∃ ps, z = tObj ps
    · obtain ⟨ps, rfl⟩ := ht
      obtain ⟨_, e, _⟩ := x.bk.t _ _ q
      rw [hz] at e; cases e
    · have := x.bk.k _ _ q fun ps e => ht ⟨ps, e⟩
      rw [hz] at this; cases this

theorem St.ownData (x : St C A F σ s) {b : Addr} (hb : b ∈ F.own) : ∃ o, s.heap.get? b = some o ∧ ((∃ es n, o.data = .dict es n) ∨ ∃ v, o.data = .cell v) := by
  rcases List.mem_cons.mp hb with rfl | hb
  · obtain ⟨m, ⟨o, es, ep, ho, hd, _⟩, _⟩ := x.ns
    exact ⟨o, ho, .inl ⟨es, ep, hd⟩⟩
  · obtain ⟨p, hp, rfl⟩ := List.mem_map.mp hb
    obtain ⟨_, v, o, ho, hd⟩ := x.cB p hp
    exact ⟨o, ho, .inr ⟨v, hd⟩⟩
theorem ItObj.notOwn {it : Addr} (q : ItObj s.heap it) (x : St C A F σ s) : it ∉ F.own := fun hb => by
  obtain ⟨o, ho, ⟨vs, hd⟩, _⟩ := q
  obtain ⟨o', ho', h⟩ := x.ownData hb
  rw [ho] at ho'; cases ho'
  rcases h with ⟨es, n, h⟩ | ⟨v, h⟩ <;> rw [hd] at h <;> cases h

theorem ItObj.notStore {it : Addr} (q : ItObj s.heap it) (x : St C A F σ s) : σ it = none := by
  obtain ⟨o, ho, ⟨vs, hd⟩, _⟩ := q
  exact x.notStore ho fun ws k h => by rw [hd] at h; cases h
/-- an iterator moves on; new objects may have come -/
theorem St.touch (x : St C A F σ s) {it : Addr} (hit : ItObj s.heap it) (hB : C.B.get? it = none) {h' : Heap} {tk : Nat} (hk : ∀ b o, b ≠ it → s.heap.get? b = some o → h'.get? b = some o) (hz : s.heap.objs.size ≤ h'.objs.size) :
    St C A F σ { s with heap := h', toks := tk } ∧ Step C.B F.frs [it] σ σ s { s with heap := h', toks := tk } := by
  have ne : ∀ {b : Addr}, b ∉ [it] → b ≠ it := fun h e => h (e ▸ List.mem_cons_self)
  have st : Step C.B F.frs [it] σ σ s { s with heap := h', toks := tk } := {
    k := fun b o e _ hb _ _ => hk b o (ne hb) e
    f := fun b o es n e _ hb _ => ⟨o.slots, hk b o (ne hb) e⟩
    t := fun b ps e _ hb => ⟨#[], (by rw [Array.append_empty]; exact hk b _ (ne hb) e), .inl rfl, by simp⟩
    dom := fun _ _ h => h
    sz := hz
    gens := Nat.le_refl _ }
  obtain ⟨o, ho, ⟨vs, hd⟩, hc, _⟩ := id hit
  have sok : SOk s.heap [it] := fun b hb => by
    rcases List.mem_cons.mp hb with rfl | hb
    · exact ⟨o, ho, .inr (.inr ⟨⟨vs, hd⟩, hc⟩)⟩
    · cases hb
  refine ⟨x.move (fun b o' e hf => hk b o' (fun q => by subst q; rw [ho] at e; cases e; exact hf _ hd) e) (x.bk.step st (fun _ _ e => x.sB e) (fun b o e q => ?_) (fun _ _ e => x.frB e)) x.bare rfl fun a v r => r.step st sok, st⟩
  rcases List.mem_cons.mp q with rfl | q
  · rw [hB] at e; cases e
  · cases q

theorem Iter.next (x : St C A F σ s) {it : Addr} {b : AV} {xs : List AV} {i : Nat} {a : AV} (hB : C.B.get? it = none) (I : IterAt σ s.heap it b xs i) (ha : xs[i]? = some a) {Q : Option Value → Shared → Prop}
    (hQ : ∀ v s', Rel σ s'.heap a v → IterAt σ s'.heap it b xs (i + 1) → St C A F σ s' → Step C.B F.frs [it] σ σ s s' → (∀ b o, b ≠ it → s.heap.get? b = some o → s'.heap.get? b = some o) → FirstNew s.heap s'.heap → Q (some v) s') : wpAny C.M A (pyNext (.ref it)) Q NoE s := by
  have hobj := I.obj
  cases I with
  | @seq k l hk hi r q =>
    obtain ⟨y, vs, e, sq, ra⟩ := hi.at_ x r
    cases e
    obtain ⟨o, n, ho, hd⟩ := sq.obj
    obtain ⟨v, hv, rv⟩ := ra.get _ _ ha
    refine tg_pyNext q ho hd (by simpa using hv) fun h' hit' hs => ?_
    obtain ⟨st, stp⟩ := x.touch hobj hB (tk := s.toks) (fun b o hb e => (hs.2 b hb).trans e) (Nat.le_of_eq hs.1.symm)
    obtain ⟨ob, hob, ⟨ws, hw⟩, hc, _⟩ := id hobj
    have sok : SOk s.heap [it] := fun b hb => by
      rcases List.mem_cons.mp hb with rfl | hb
      · exact ⟨ob, hob, .inr (.inr ⟨⟨ws, hw⟩, hc⟩)⟩
      · cases hb
    exact hQ v _ (rv.step stp sok) (.seq hk hi (r.step stp sok) hit') st stp (fun b o hb e => (hs.2 b hb).trans e) (.inl hs.1)
  | @rng lo hi' n hb hx hi q =>
    have hlt : i < n := by
      have : i < xs.length := by
        rcases Nat.lt_or_ge i xs.length with h | h
        · exact h
        · rw [List.getElem?_eq_none h] at ha; cases ha
      rw [hx] at this; simpa using this
    have ea : a = .int (lo + i) := by rw [hx] at ha; simp [hlt] at ha; exact ha.symm
    subst ea
    refine wpAny_pyNext_range_item q (by omega) fun h' hit' hs => ?_
    obtain ⟨st, stp⟩ := x.touch hobj hB (tk := s.toks + 1) (fun b o hb e => (hs.2 b hb).trans e) (Nat.le_of_eq hs.1.symm)
    refine hQ _ _ (.int _ _) (.rng hb hx hlt ?_) st stp (fun b o hb e => (hs.2 b hb).trans e) (.inl hs.1)
    have e1 : lo + ((i + 1 : Nat) : Int) = lo + i + 1 := by push_cast; omega
    have e2 : (n : Int) - ((i + 1 : Nat) : Int) = (n : Int) - i - 1 := by push_cast; omega
    rw [e1, e2]
    exact hit'

theorem Iter.stop (x : St C A F σ s) (hh : A.handled = none) {it : Addr} {b : AV} {xs : List AV} {i : Nat} (hB : C.B.get? it = none) (I : IterAt σ s.heap it b xs i) (ha : xs[i]? = none) {Q : Option Value → Shared → Prop}
    (hQ : ∀ s', St C A F σ s' → Step C.B F.frs [it] σ σ s s' → (∀ b o, b ≠ it → s.heap.get? b = some o → s'.heap.get? b = some o) → FirstNew s.heap s'.heap → Q none s') : wpAny C.M A (pyNext (.ref it)) Q NoE s := by
  have hobj := I.obj
  cases I with
  | @seq k l hk hi r q =>
    obtain ⟨y, vs, e, sq, ra⟩ := hi.at_ x r
    cases e
    obtain ⟨o, n, ho, hd⟩ := sq.obj
    have hv : vs.toArray[i]? = none := by
      have h1 : xs.length ≤ i := by simpa using ha
      have h2 := ra.length
      simp; omega
    refine tg_pyNext_end hh q ho hd hv fun h' hs hz ⟨ot, hot, hct⟩ => ?_
    obtain ⟨st, stp⟩ := x.touch hobj hB (tk := s.toks) (fun b o hb e => hs b o hb e) hz
    exact hQ _ st stp (fun b o hb e => hs b o hb e) (.inr ⟨ot, hot, .inl fun c => by rw [hct]; nofun⟩)
  | @rng lo hi' n hb hx hi q =>
    have hge : n ≤ i := by
      have h1 : xs.length ≤ i := by simpa using ha
      rw [hx] at h1; simpa using h1
    refine rg_pyNext_end hh q (by omega) fun h' hs hz ⟨ot, hot, hct⟩ => ?_
    obtain ⟨st, stp⟩ := x.touch hobj hB (tk := s.toks) (fun b o hb e => hs b o hb e) hz
    exact hQ _ st stp (fun b o hb e => hs b o hb e) (.inr ⟨ot, hot, .inl fun c => by rw [hct]; nofun⟩)

/-- the iterator of a source -/
theorem Src.iter (ok : C.Ok) (T : TF C.K) (x : St C A F σ s) {a : AV} {xs : List AV} {v : Value} (hs : Src σ a xs) (r : Rel σ s.heap a v) {Q : Value → Shared → Prop}
    (hQ : ∀ it s', s.heap.objs.size ≤ it → C.B.get? it = none → St C A F σ s' → Step C.B F.frs [] σ σ s s' → IterAt σ s'.heap it a xs 0 → Q (.ref it) s') : wpAny C.M A (pyIter v) Q NoE s := by
  have hB := x.freshB (Nat.le_refl s.heap.objs.size)
  cases hs with
  | @seq k hk hi =>
    obtain ⟨y, vs, rfl, sq, ra⟩ := hi.at_ x r
    obtain ⟨st, stp⟩ := x.push { cls := .type "list_iterator", data := .fields #[.ref y, .int 0 0] } s.toks
    have fin := hQ s.heap.objs.size _ (Nat.le_refl _) hB st stp (.seq hk hi (r.step stp (.nil _)) ⟨_, Heap.get?_push_size _ rfl, rfl, rfl⟩)
    cases k with
    | list => exact wpAny_pyIter_list sq fin
    | tuple => exact absurd rfl hk
    | tags => exact tg_pyIter (x.K ok) T sq fin
  | @rng lo hi ha hx h1 h2 h3 h4 =>
    subst ha
    cases r with
    | @rng y lo hi t u w hn hr =>
      obtain ⟨st, stp⟩ := x.push { cls := .type "range_iterator", data := .fields #[rawInt lo, rawInt (Builtin.Range.rangeSize lo hi 1), rawInt 1] } s.toks
      refine wpAny_pyIter_range hr (small_one h1 h3 h4 h2) (hQ s.heap.objs.size _ (Nat.le_refl _) hB st stp (.rng rfl hx (Nat.zero_le _) ?_))
      have e1 : lo + ((0 : Nat) : Int) = lo := by simp
      have e2 : ((hi - lo).toNat : Int) - ((0 : Nat) : Int) = Builtin.Range.rangeSize lo hi 1 := by
        rw [rangeSize_one]; split <;> omega
      rw [e1, e2]
      exact Heap.get?_push_size _ rfl

/-- an iteration along a step -/
theorem IterAt.step {B : Heap} {Fs S : List Addr} {it : Addr} {a : AV} {xs : List AV} {i : Nat} (I : IterAt σ s.heap it a xs i) (y : Step B Fs S σ σ' s s') (hS : SOk s.heap S) (hn : σ it = none) (hit : it ∉ S)
    (hkeep : Src σ' a xs) : IterAt σ' s'.heap it a xs i := by
  obtain ⟨o, ho, ⟨vs, hd⟩, hc, hc'⟩ := I.obj
  have hk : s'.heap.get? it = some o := y.k it o ho hn hit (fun ps q => hc' (by rw [q]; rfl)) (.inr fun es n q => by rw [hd] at q; cases q)
  cases I with
  | @seq k l h1 h2 h3 h4 =>
    cases hkeep with
    | seq g1 g2 => exact .seq g1 g2 (h3.step y hS) (let ⟨o', ho', h⟩ := h4; by rw [ho] at ho'; cases ho'; exact ⟨o, hk, h⟩)
    | rng g1 _ _ _ _ _ => subst g1; cases h2
  | rng h0 h1 h2 h3 => exact .rng h0 h1 h2 (by
      have h3' : s.heap.get? it = _ := h3
      rw [ho] at h3'; cases h3'
      exact hk)
theorem IterAt.sub {σ0 : Store} {h : Heap} {it : Addr} {a : AV} {xs : List AV} {i : Nat} (I : IterAt σ h it a xs i) (sub : Sub σ0 σ) (hkeep : Src σ0 a xs) : IterAt σ0 h it a xs i := by
  cases I with
  | @seq k l h1 h2 h3 h4 =>
    cases hkeep with
    | seq g1 g2 => exact .seq g1 g2 (h3.sub sub) h4
    | rng g1 _ _ _ _ _ => subst g1; cases h2
  | rng h0 h1 h2 h3 => exact .rng h0 h1 h2 h3

theorem Src.up {σ0 : Store} {a : AV} {xs : List AV} (x : Src σ0 a xs) (sub : Sub σ0 σ) : Src σ a xs := by
  cases x with
  | rng h1 h2 h3 h4 h5 h6 => exact .rng h1 h2 h3 h4 h5 h6
  | seq hk hi =>
    cases hi with
    | obj h => exact .seq hk (.obj ((sub _).elim (fun q => by rw [q] at h; cases h) fun q => q ▸ h))
    | tags h => exact .seq hk (.tags ((sub _).elim (fun q => by rw [q] at h; cases h) fun q => q ▸ h))
    | datL ds => exact .seq hk (.datL ds)
    | datT ds => exact .seq hk (.datT ds)

/-! ## forgetting, at a statement's end -/
def UpV (I : List (Str × AV) → Store → Prop) : List (Str × AV) → Store → Prop := fun vars1 σ1 =>
  ∃ vars0 σ0, Sub σ0 σ1 ∧ (∀ y a0, vars0.lookup y = some a0 → ∃ a, vars1.lookup y = some a ∧ Conv σ1 σ0 a a0) ∧ I vars0 σ0
theorem UpV.now {I : List (Str × AV) → Store → Prop} {vars : List (Str × AV)} (h : I vars σ) : UpV I vars σ := ⟨vars, σ, .refl _, fun y a e => ⟨a, e, .inl rfl⟩, h⟩
theorem VarOk.conv {σ0 : Store} {m : Str → Option Value} {y : Str} {a a0 : AV} (st : St C A F σ s) (sub : Sub σ0 σ) (cv : Conv σ σ0 a a0) (v : VarOk σ s.heap F.env m y a) : VarOk σ0 s.heap F.env m y a0 := by
  unfold VarOk at v ⊢
  split
  · rename_i e; rw [e] at v; obtain ⟨v, h1, h2⟩ := v; exact ⟨v, h1, cv.rel st sub h2⟩
  · rename_i e; rw [e] at v; obtain ⟨c, v, h1, h2, h3⟩ := v; exact ⟨c, v, h1, h2, cv.rel st sub h3⟩
  · rename_i e; rw [e] at v; obtain ⟨c, v, h1, h2, h3⟩ := v; exact ⟨c, v, h1, h2, cv.rel st sub h3⟩
  · rename_i h1 h2 h3; split at v <;> simp_all
theorem St.upV {I : List (Str × AV) → Store → Prop} (st : St C A F σ s) (h : UpV I F.vars σ) : ∃ vars0 σ0, St C A (F.with vars0) σ0 s ∧ Sub σ0 σ ∧ I vars0 σ0 := by
  obtain ⟨vars0, σ0, sub, hv, hI⟩ := h
  refine ⟨vars0, σ0, ?_, sub, hI⟩
  have := st.forget sub
  exact { this with ns := let ⟨m, n, ne, v⟩ := st.ns; ⟨m, n, ne, fun y a0 e => by
    obtain ⟨a, e', cv⟩ := hv y a0 e
    exact VarOk.conv (F := F) st sub cv (v y a e')⟩ }

/-! ## for -/
/-- a target takes a value -/
def Asg (C : Cx) (A : Around) (F : Fm) (σ : Store) (target : Expr) (a : AV) (P : List (Str × AV) → Store → Prop) : Prop :=
  ∀ s v, St C A F σ s → Rel σ s.heap a v → ∀ Q : Unit → Shared → Prop, (∀ vars σ' s', P vars σ' → St C A (F.with vars) σ' s' → Step C.B F.frs F.own σ σ' s s' → Q () s') → wpAny C.M A (assign target F.env v) Q NoE s
theorem Asg_Name {x : Str} {p : Pos} {a : AV} {P : List (Str × AV) → Store → Prop} (hk : F.env.kindOf x = some .local ∨ F.env.kindOf x = some .cell ∧ ∃ c, F.env.cells.lookup x = some c) (h : P (putv F.vars x a) σ) : Asg C A F σ (.Name x p) a P :=
  fun s v st r Q hQ => wpAny_assign_Name (st.store hk r fun s' st' e' => hQ _ _ _ h st' e')
/-- a tuple that the iterator owns is let go: no such here -/
def LetOk (C : Cx) (A : Around) (target : Expr) (b : AV) (xs : List AV) : Prop :=
  ∀ (σ : Store) (s : Shared) (it : Addr) (i : Nat) (a : AV) (v : Value), IterAt σ s.heap it b xs i → a ∈ xs → Rel σ s.heap a v → ∀ Q : Unit → Shared → Prop, Q () s → wpAny C.M A (letOwnedTupleGo target (.ref it) v) Q NoE s
theorem LetOk_Name {x : Str} {p : Pos} {b : AV} {xs : List AV} : LetOk C A (.Name x p) b xs := fun σ s it i a v I ha r Q hQ => wpAny_of_eq (a := ()) (rfl : letOwnedTupleGo (.Name x p) (.ref it) v = pure ()) hQ
def isRefAV : AV → Bool
  | .obj _ | .tag .. | .dat (.list _) | .dat (.tuple _) => true
  | _ => false
theorem Rel.isRef {h : Heap} {a : AV} {v : Value} (r : Rel σ h a v) (ha : isRefAV a = true) : ∃ x, v = .ref x := by
  cases r with
  | dat r => cases r <;> first | exact ⟨_, rfl⟩ | cases ha
  | obj a => exact ⟨a, rfl⟩
  | tag _ _ => exact ⟨_, rfl⟩
  | set _ _ _ => cases ha
  | rng _ _ => cases ha
  | val _ => cases ha
theorem LetOk_Tuple {elts : List Expr} {k : Nat} {p : Pos} {b : AV} {xs : List AV} (hb : ∀ lo hi, b ≠ .rng lo hi) (hx : ∀ a ∈ xs, isRefAV a = true) : LetOk C A (.Tuple elts k p) b xs := fun σ s it i a v I ha r Q hQ => by
  obtain ⟨x, rfl⟩ := r.isRef (hx a ha)
  cases I with
  | seq _ _ _ q => exact wpAny_letOwnedTupleGo_listiter q hQ
  | rng h _ _ _ => exact absurd h (hb _ _)

theorem Ex_For (ok : C.Ok) (T : TF C.K) (hh : A.handled = none) {P : FP} {target iter : Expr} {body : List Stmt} {pos : Pos}
    (h : Ev C A F σ iter fun b σ₁ => ∃ xs, Src σ₁ b xs ∧ LetOk C A target b xs ∧ ∃ Inv : Nat → List (Str × AV) → Store → Prop, Inv 0 F.vars σ₁ ∧
      (∀ i a vars σ', xs[i]? = some a → Inv i vars σ' → Src σ' b xs ∧ Asg C A (F.with vars) σ' target a fun vars₁ σ₂ => Src σ₂ b xs ∧ Exs C A (F.with vars₁) σ₂ body fun fl vars₂ σ₃ => match fl with
        | .next | .cont => UpV (fun v0 σ0 => Src σ0 b xs ∧ Inv (i + 1) v0 σ0) vars₂ σ₃
        | .brk => P .next vars₂ σ₃
        | .ret r => P (.ret r) vars₂ σ₃) ∧
      (∀ vars σ', Inv xs.length vars σ' → P .next vars σ'))
    (hs : ∀ x, foldedSetIterable iter F.env x = pure x := by intro _; rfl) : Ex C A F σ (.For target iter body [] pos) P :=
  fun s st Q hQ => wpAny_For (h s st _ fun b v σ₁ s₁ h₁ st₁ r₁ e₁ => by
    obtain ⟨xs, src, hlet, Inv, inv0, turn, fin⟩ := h₁
    refine Src.iter ok T st₁ src r₁ fun it s₂ hfr hB st₂ e₂ I₂ => ?_
    have hnil : ∀ b ∈ ([] : List Addr), b ∈ it :: F.own := by simp
    have hown : ∀ b ∈ F.own, b ∈ it :: F.own := fun b hb => List.mem_cons_of_mem _ hb
    have hsing : ∀ b ∈ [it], b ∈ it :: F.own := fun b hb => by
      rcases List.mem_cons.mp hb with rfl | hb
      · exact List.mem_cons_self
      · cases hb
    -- what ends the loop
    have ends : ∀ fl f vars σ' s', P fl vars σ' → St C A (F.with vars) σ' s' → FlowRel σ' s'.heap fl f → Step C.B F.frs (it :: F.own) σ₁ σ' s₂ s' → Q f s' := fun fl f vars σ' s' hp st' fr e' => by
      refine hQ fl f vars σ' s' hp st' fr (Step.shrink (((e₁.trans e₂).mono (by simp)) : Step C.B F.frs F.own σ σ₁ s s₂) e' (fun b hb => ?_) fun b hb => .inl hb)
      rcases List.mem_cons.mp hb with rfl | hb
      · exact .inr (Nat.le_trans e₁.sz hfr)
      · exact .inl hb
    refine codeAny_forLoop_any (fun n s' => ∃ i vars σ', n = xs.length - i ∧ i ≤ xs.length ∧ Inv i vars σ' ∧ Src σ' b xs ∧ St C A (F.with vars) σ' s' ∧ IterAt σ' s'.heap it b xs i ∧ Step C.B F.frs (it :: F.own) σ₁ σ' s₂ s') ?_ xs.length ⟨0, F.vars, σ₁, rfl, Nat.zero_le _, inv0, src, st₂, I₂, .refl ..⟩
    rintro n s' ⟨i, vars, σ', rfl, hi, inv, src', st', I', e'⟩
    have hno : ∀ {t : Sem (Option Value)} {Q' : Option Value → Shared → Prop} {E' : Value → Shared → Prop} {s'' : Shared}, wpAny C.M A t Q' NoE s'' → wpAny C.M A t Q' E' s'' := fun h => wpAny_noE h
    rcases Nat.lt_or_ge i xs.length with hlt | hge
    · have ha : xs[i]? = some xs[i] := List.getElem?_eq_getElem hlt
      refine wpAny_noE (Iter.next st' hB I' ha fun u s₃ ru I₃ st₃ e₃ _ _ => ?_)
      obtain ⟨_, asg⟩ := turn i xs[i] vars σ' ha inv
      refine wpAny_noE (hlet σ' s₃ it (i + 1) xs[i] u I₃ (List.getElem_mem hlt) ru _ ?_)
      refine wpAny_noE (asg s₃ u st₃ ru _ fun vars₁ σ₄ s₄ h₄ st₄ e₄ => ?_)
      obtain ⟨src₄, hbody⟩ := h₄
      refine wpAny_noE (hbody s₄ st₄ _ fun fl f vars₂ σ₅ s₅ h₅ st₅ fr₅ e₅ => ?_)
      have e345 : Step C.B F.frs (it :: F.own) σ' σ₅ s' s₅ := (e₃.mono hsing).trans ((Step.mono (S' := it :: F.own) e₄ hown).trans (Step.mono (S' := it :: F.own) e₅ hown))
      have big := e'.trans e345
      have again : UpV (fun v0 σ0 => Src σ0 b xs ∧ Inv (i + 1) v0 σ0) vars₂ σ₅ → ∃ m, m < xs.length - i ∧ ∃ i vars σ', m = xs.length - i ∧ i ≤ xs.length ∧ Inv i vars σ' ∧ Src σ' b xs ∧ St C A (F.with vars) σ' s₅ ∧ IterAt σ' s₅.heap it b xs i ∧ Step C.B F.frs (it :: F.own) σ₁ σ' s₂ s₅ := fun h₅ => by
        obtain ⟨vars0, σ0, st0, sub, src0, inv0⟩ := st₅.upV h₅
        exact ⟨xs.length - (i + 1), by omega, i + 1, vars0, σ0, rfl, hlt, inv0, src0, st0, (I₃.step (Step.trans (S := F.own) (Fs := F.frs) e₄ e₅) st₃.sok (I₃.obj.notStore st₃) (ItObj.notOwn (F := F.with vars) I₃.obj st₃) (src0.up sub)).sub sub src0, big.sub sub⟩
      cases fr₅ with
      | next => exact again h₅
      | cont => exact again h₅
      | brk => exact ends _ _ _ _ _ h₅ st₅ .next big
      | ret r => exact ends _ _ _ _ _ h₅ st₅ (.ret r) big
    · have hi' : i = xs.length := Nat.le_antisymm hi hge
      subst hi'
      refine wpAny_noE (Iter.stop st' hh hB I' (by simp) fun s₃ st₃ e₃ _ _ => ?_)
      exact wpAny_execs_nil (ends .next .next vars σ' s₃ (fin _ _ inv) st₃ .next (e'.trans (e₃.mono hsing)))) hs
end
end Mine
end

section
open PySem PySem.W PyProof.Rows PySem.Calls PySem.SeqAt
set_option Elab.async false
set_option maxRecDepth 100000
set_option linter.unusedVariables false
namespace Mine

def closOf (cells : List (Str × Addr)) : List (Str × NameKind) → List (Str × Addr) → Option (List (Str × Addr))
  | [], acc => some acc
  | (n, k) :: r, acc => if k == .free then match cells.lookup n with | some a => closOf cells r ((n, a) :: acc) | none => none else closOf cells r acc

theorem closureFor_of {scope : Scope} {env : Env} {cl : List (Str × Addr)} (h : closOf env.cells scope.names [] = some cl) : closureFor scope env = pure cl := by
  unfold closureFor
  have key : ∀ (names : List (Str × NameKind)) (acc : List (Str × Addr)), closOf env.cells names acc = some cl →
      (forIn names acc (fun (x : Str × NameKind) (r : List (Str × Addr)) => (if (x.2 == NameKind.free) = true then (do let a ← cellOf env x.1; pure (ForInStep.yield ((x.1, a) :: r))) else (pure (ForInStep.yield r) : Sem (ForInStep (List (Str × Addr)))))) : Sem (List (Str × Addr))) = pure cl := by
    intro names
    induction names with
    | nil => intro acc h; rw [List.forIn_nil]; cases h; rfl
    | cons x r ih =>
      intro acc h
      obtain ⟨n, k⟩ := x
      rw [List.forIn_cons]
      unfold closOf at h
      dsimp only
      split at h
      · rename_i hk
        rw [if_pos hk]
        unfold cellOf
        cases hl : env.cells.lookup n with
        | none => rw [hl] at h; cases h
        | some a => rw [hl] at h; exact ih _ h
      · rename_i hk
        rw [if_neg hk]
        exact ih _ h
  have := key scope.names [] h
  refine Eq.trans ?_ (congrArg (fun m => m >>= fun cs => (pure cs : Sem _)) this)
  rfl

theorem closOf_mem {cells : List (Str × Addr)} {cl : List (Str × Addr)} : ∀ (names : List (Str × NameKind)) (acc : List (Str × Addr)), closOf cells names acc = some cl → ∀ p ∈ cl, p ∈ acc ∨ (cells.lookup p.1 = some p.2 ∧ (p.1, NameKind.free) ∈ names)
  | [], acc, h, p, hp => by cases h; exact .inl hp
  | (n, k) :: r, acc, h, p, hp => by
    unfold closOf at h
    split at h
    · rename_i hk
      have hk' : k = .free := by simpa using hk
      cases hl : cells.lookup n with
      | none => rw [hl] at h; cases h
      | some a =>
        rw [hl] at h
        rcases closOf_mem r _ h p hp with q | ⟨q, q'⟩
        · rcases List.mem_cons.mp q with rfl | q
          · exact .inr ⟨hl, by rw [hk']; exact List.mem_cons_self⟩
          · exact .inl q
        · exact .inr ⟨q, List.mem_cons_of_mem _ q'⟩
    · rcases closOf_mem r _ h p hp with q | ⟨q, q'⟩
      · exact .inl q
      · exact .inr ⟨q, List.mem_cons_of_mem _ q'⟩
theorem closOf_names {cells : List (Str × Addr)} {cl : List (Str × Addr)} : ∀ (names : List (Str × NameKind)) (acc : List (Str × Addr)), closOf cells names acc = some cl → (names.map (·.1)).Nodup → (acc.map (·.1)).Nodup → (∀ n ∈ acc.map (·.1), n ∉ names.map (·.1)) → (cl.map (·.1)).Nodup
  | [], acc, h, _, ha, _ => by cases h; exact ha
  | (n, k) :: r, acc, h, nd, ha, hd => by
    obtain ⟨h1, h2⟩ := List.nodup_cons.mp nd
    unfold closOf at h
    split at h
    · cases hl : cells.lookup n with
      | none => rw [hl] at h; cases h
      | some a =>
        rw [hl] at h
        refine closOf_names r _ h h2 (List.nodup_cons.mpr ⟨fun q => hd _ q List.mem_cons_self, ha⟩) fun m hm => ?_
        rcases List.mem_cons.mp hm with rfl | hm
        · exact h1
        · exact fun q => hd m hm (List.mem_cons_of_mem _ q)
    · exact closOf_names r _ h h2 ha fun m hm q => hd m hm (List.mem_cons_of_mem _ q)

theorem cellsFrom_append (acc : List (Str × Addr)) : ∀ (names : List (Str × NameKind)) (k : Nat) (a : List (Str × Addr)), cellsFrom k names (a ++ acc) = cellsFrom k names a ++ acc
  | [], _, _ => rfl
  | (n, kd) :: r, k, a => by
    unfold cellsFrom
    split
    · exact cellsFrom_append acc r (k + 1) ((n, k) :: a)
    · exact cellsFrom_append acc r k a
theorem cellsFrom_mem : ∀ (names : List (Str × NameKind)) (h : Heap) (acc : List (Str × Addr)) (p : Str × Addr), p ∈ cellsFrom h.objs.size names acc → p ∈ acc ∨ (h.objs.size ≤ p.2 ∧ (pushCells h names).IsCell p.2 none ∧ (p.1, NameKind.cell) ∈ names)
  | [], _, _, _, hp => .inl hp
  | (n, k) :: r, h, acc, p, hp => by
    unfold cellsFrom at hp
    unfold pushCells
    split at hp
    · rename_i hk
      have hk' : k = .cell := by simpa using hk
      rw [if_pos hk]
      have hp' : p ∈ cellsFrom (h.push { cls := .type "cell", data := .cell none }).objs.size r ((n, h.objs.size) :: acc) := by rw [Heap.size_push]; exact hp
      rcases cellsFrom_mem r _ _ p hp' with q | ⟨q1, q2, q3⟩
      · rcases List.mem_cons.mp q with rfl | q
        · exact .inr ⟨Nat.le_refl _, ⟨_, pushCells_keeps r _ _ _ (Heap.get?_push_size _ rfl), rfl⟩, by rw [hk']; exact List.mem_cons_self⟩
        · exact .inl q
      · exact .inr ⟨by rw [Heap.size_push] at q1; exact Nat.le_of_succ_le q1, q2, List.mem_cons_of_mem _ q3⟩
    · rename_i hk
      rw [if_neg hk]
      rcases cellsFrom_mem r _ _ p hp with q | ⟨q1, q2, q3⟩
      · exact .inl q
      · exact .inr ⟨q1, q2, List.mem_cons_of_mem _ q3⟩
theorem cellsFrom_nodup : ∀ (names : List (Str × NameKind)) (k : Nat) (acc : List (Str × Addr)), (acc.map (·.2)).Nodup → (∀ p ∈ acc, p.2 < k) → ((cellsFrom k names acc).map (·.2)).Nodup
  | [], _, _, h, _ => h
  | (n, kd) :: r, k, acc, h, hl => by
    unfold cellsFrom
    split
    · refine cellsFrom_nodup r _ _ (List.nodup_cons.mpr ⟨fun q => ?_, h⟩) fun p hp => ?_
      · obtain ⟨p, hp, e⟩ := List.mem_map.mp q
        have := hl p hp
        exact absurd this (by rw [e]; exact Nat.lt_irrefl _)
      · rcases List.mem_cons.mp hp with rfl | hp
        · exact Nat.lt_succ_self _
        · exact Nat.lt_succ_of_lt (hl p hp)
    · exact cellsFrom_nodup r _ _ h hl
theorem cellsFrom_lookup {n : Str} : ∀ (names : List (Str × NameKind)) (k : Nat) (acc : List (Str × Addr)), (n, NameKind.cell) ∉ names → (cellsFrom k names acc).lookup n = acc.lookup n
  | [], _, _, _ => rfl
  | (m, kd) :: r, k, acc, h => by
    unfold cellsFrom
    split
    · rename_i hk
      have hk' : kd = .cell := by simpa using hk
      rw [cellsFrom_lookup r _ _ (fun q => h (List.mem_cons_of_mem _ q)), List.lookup_cons]
      have : n ≠ m := fun e => h (by rw [e, ← hk']; exact List.mem_cons_self)
      have : (n == m) = false := by simpa using this
      rw [this]
    · exact cellsFrom_lookup r _ _ fun q => h (List.mem_cons_of_mem _ q)

abbrev cEnv (scope : Scope) (cells : List (Str × Addr)) (D : Addr) (env : Env) : Env :=
  { scope := relabel scope env, locals := D, globals := env.globals, cells := cells, qual := env.qual, func := none, code := env.code, frame := env.frame, builtins := env.builtins }

theorem relabel_lookup {env : Env} {n : Str} : ∀ (names : List (Str × NameKind)), (names.map fun (n, k) => if (k == .free && env.scope.kind == .function && env.kindOf n == some .cell) = true then (n, NameKind.cell) else (n, k)).lookup n =
    (names.lookup n).map fun k => if (k == .free && env.scope.kind == .function && env.kindOf n == some .cell) = true then NameKind.cell else k
  | [] => rfl
  | (m, k) :: r => by
    have this : ∀ (b : Prop) [Decidable b], (if b then (m, NameKind.cell) else (m, k)) = (m, if b then NameKind.cell else k) := fun b _ => by split <;> rfl
    rw [List.map_cons]
    dsimp only
    rw [this, List.lookup_cons, List.lookup_cons]
    by_cases e : n = m
    · subst e
      simp
    · have hb : (n == m) = false := by simpa using e
      rw [hb]
      exact relabel_lookup r
theorem cEnv_kindOf {scope : Scope} {cells : List (Str × Addr)} {D : Addr} {env : Env} {n : Str} : (cEnv scope cells D env).kindOf n = (scope.names.lookup n).map fun k => if (k == .free && env.scope.kind == .function && env.kindOf n == some .cell) = true then NameKind.cell else k :=
  relabel_lookup scope.names

/-- a comprehension's scope under a frame -/
structure CompS (scope : Scope) (env : Env) (cl : List (Str × Addr)) : Prop where
  clos : closOf env.cells scope.names [] = some cl
  kind : scope.kind = .function
  nodup : (scope.names.map (·.1)).Nodup
  capt : ∀ p ∈ cl, env.kindOf p.1 = some .cell ∨ env.kindOf p.1 = some .free

/-- the names a comprehension sees of the frame around -/
def capVars (vars : List (Str × AV)) (cl : List (Str × Addr)) : List (Str × AV) := vars.filter fun p => (cl.lookup p.1).isSome
theorem capVars_lookup {cl : List (Str × Addr)} : ∀ (vars : List (Str × AV)) (y : Str) (a : AV), (capVars vars cl).lookup y = some a → vars.lookup y = some a ∧ ∃ c, cl.lookup y = some c
  | [], y, a, h => by simp [capVars] at h
  | (n, b) :: r, y, a, h => by
    unfold capVars at h
    rw [List.filter_cons] at h
    split at h
    · rename_i hs
      rw [List.lookup_cons] at h ⊢
      cases hb : y == n with
      | true =>
        rw [hb] at h; cases h
        rw [beq_iff_eq.mp hb]
        exact ⟨rfl, Option.isSome_iff_exists.mp hs⟩
      | false => rw [hb] at h; exact capVars_lookup r y a h
    · rename_i hs
      obtain ⟨h1, c, h2⟩ := capVars_lookup r y a h
      refine ⟨?_, c, h2⟩
      rw [List.lookup_cons]
      have : y ≠ n := fun e => hs (by subst e; dsimp only; rw [h2]; rfl)
      have : (y == n) = false := by simpa using this
      rw [this]; exact h1

section
variable {C : Cx} {A : Around} {F : Fm} {σ σ' : Store} {s s' : Shared}

/-- the frame around, after a step that also wrote what is new -/
theorem St.backS (x : St C A F σ s) {S : List Addr} (y : Step C.B F.frs S σ σ' s s') (hB : ∀ b ∈ S, C.B.get? b = none) (hO : ∀ b ∈ S, b ∉ F.own ∧ b ∉ F.frs) (sok : SOk s.heap S)
    (hso : ∀ a o, σ' a = some o → C.B.get? a = none ∧ ObjAt σ' s'.heap a o) (hbare : AllBare s'.gens) (hos : s'.os = C.os) : St C A F σ' s' := by
  have hfd : ∀ b ∈ F.frs, ∃ o es n, s'.heap.get? b = some o ∧ o.data = .dict es n := fun b hb => by
    obtain ⟨o, es, n, ho, hd⟩ := x.fd b hb
    obtain ⟨sl, e⟩ := y.f b o es n ho (x.notStore ho fun vs k q => by rw [hd] at q; cases q) (fun q => (hO b q).2 hb) hd
    exact ⟨_, es, n, e, hd⟩
  have hcell : ∀ c v, c ∈ F.own → s.heap.IsCell c v → s'.heap.IsCell c v := fun c v hc' hc => by
    obtain ⟨o, ho, hd⟩ := hc
    exact ⟨o, y.k c o ho (x.notStore ho fun vs k q => by rw [hd] at q; cases q) (fun q => (hO c q).1 hc') (fun ps q => by rw [q] at hd; simp [tObj] at hd) (.inr fun es n q => by rw [hd] at q; cases q), hd⟩
  exact {
    bk := x.bk.step y (fun _ _ e => x.sB e) (fun b o e q => by rw [hB b q] at e; cases e) (fun _ _ e => x.frB e)
    so := hso
    bare := hbare
    os := hos
    stack := x.stack
    ff := FunFrames.along x.ff fun b hb => by
      obtain ⟨o, es, n, ho, hd⟩ := hfd b hb
      exact ⟨o, ho, fun vs q => by rw [hd] at q; cases q⟩
    fd := hfd
    kind := x.kind
    gl := x.gl
    bi := x.bi
    lB := x.lB
    cB := fun p hp => ⟨(x.cB p hp).1, let ⟨_, v, hc⟩ := x.cB p hp; ⟨v, hcell _ _ (List.mem_cons_of_mem _ (List.mem_map.mpr ⟨p, hp, rfl⟩)) hc⟩⟩
    nd := x.nd
    ns := by
      obtain ⟨m, n, ne, v⟩ := x.ns
      refine ⟨m, Ns.ofDict n fun o es k ho hd => y.f _ o es k ho (x.notStore ho fun vs k q => by rw [hd] at q; cases q) (fun q => (hO _ q).1 List.mem_cons_self) hd, ne, fun z a e => ?_⟩
      have w := v z a e
      unfold VarOk at w ⊢
      split
      · rename_i q; rw [q] at w; obtain ⟨u, g1, g2⟩ := w; exact ⟨u, g1, g2.step y sok⟩
      all_goals first
        | (rename_i q; rw [q] at w; obtain ⟨c, u, g1, g2, g3⟩ := w; exact ⟨c, u, g1, hcell c _ (mem_own_cell (vars := F.vars) (fs := F.fs) g1) g2, g3.step y sok⟩)
        | (rename_i h1 h2 h3; split at w <;> simp_all) }

/-- a comprehension's frame -/
structure CFr (C : Cx) (A : Around) (F : Fm) (σ : Store) (s : Shared) (ce : Env) (S : List Addr) (cvars : List (Str × AV)) : Prop where
  out : St C A F σ s
  B : ∀ b ∈ S, C.B.get? b = none
  ap : ∀ b ∈ S, b ∉ F.own ∧ b ∉ F.frs
  sd : ∀ b ∈ S, ∃ o, s.heap.get? b = some o ∧ ((∃ es n, o.data = .dict es n) ∨ ∃ v, o.data = .cell v)
  loc : ce.locals ∈ S
  kind : ce.scope.kind = .function
  gl : ce.globals = mainGlobals
  bi : ce.builtins = builtinsNs
  sub : ∀ b ∈ S, b = ce.locals ∨ b ∈ ce.cells.map (·.2)
  ns : ∃ m, s.heap.Ns ce.locals m ∧ (NsNe ce m ∨ NextOk s.heap ce.locals)
  cells : ∀ p ∈ ce.cells, C.B.get? p.2 = none ∧ ∃ v, s.heap.IsCell p.2 v
  nd : (ce.cells.map (·.2)).Nodup
  cv : ∀ y a, cvars.lookup y = some a → ∃ c v, (ce.kindOf y = some .cell ∨ ce.kindOf y = some .free) ∧ ce.cells.lookup y = some c ∧ s.heap.IsCell c (some v) ∧ Rel σ s.heap a v ∧ c ∉ S

theorem CFr.pk {ce : Env} {S : List Addr} {cvars : List (Str × AV)} (x : CFr C A F σ s ce S cvars) : Pk s.heap ce.locals := by
  obtain ⟨m, ⟨o, es, ep, ho, hd, hk, hf⟩, hne⟩ := x.ns
  rcases hne with (⟨y, v, hy⟩ | hc) | hn
  · refine .inl fun o' es' k' ho' hd' he => ?_
    rw [ho] at ho'; cases ho'
    rw [hd] at hd'; cases hd'
    subst he
    rw [← hf y] at hy
    simp [nsFind, findBy] at hy
  · obtain ⟨p, hp, e⟩ := List.mem_map.mp hc
    obtain ⟨_, v, oc, hoc, hdc⟩ := x.cells p hp
    exact .inr (.inr ⟨oc, by rw [← e]; exact hoc, .inr ⟨v, hdc⟩⟩)
  · exact .inr hn
theorem CFr.sok {ce : Env} {S : List Addr} {cvars : List (Str × AV)} (x : CFr C A F σ s ce S cvars) : SOk s.heap S := fun b hb => by
  obtain ⟨o, ho, h⟩ := x.sd b hb
  refine ⟨o, ho, ?_⟩
  rcases h with ⟨es, n, hd⟩ | h
  · refine .inl ⟨es, n, hd, ?_⟩
    rcases x.sub b hb with rfl | hc
    · exact x.pk
    · obtain ⟨p, hp, rfl⟩ := List.mem_map.mp hc
      obtain ⟨_, v, oc, hoc, hdc⟩ := x.cells p hp
      rw [ho] at hoc; cases hoc; rw [hd] at hdc; cases hdc
  · exact .inr (.inl h)
theorem CFr.name_local {ce : Env} {S : List Addr} {cvars : List (Str × AV)} (x : CFr C A F σ s ce S cvars) {y : Str} {p : Pos} {a : AV} {v : Value} (hl : ce.kindOf y = some .local) (r : Rel σ s.heap a v) {M : Model} {A₂ : Around} {Q : Unit → Shared → Prop} {E : Value → Shared → Prop}
    (hQ : ∀ s', St C A ⟨ce, putv cvars y a, F.fs⟩ σ s' → Step C.B F.frs S σ σ s s' → Q () s') : wpAny M A₂ (assign (.Name y p) ce v) Q E s := by
  obtain ⟨m, n, _⟩ := x.ns
  obtain ⟨ol, es, ep, hol, hdl, _⟩ := id n
  refine wpAny_assign_Name (wpAny_storeName_local hl n (fun h' hn' hs => ?_) (by rw [x.kind]; rfl))
  have stp : Step C.B F.frs S σ σ s { s with heap := h', toks := s.toks + 1 } := .poke x.loc hs
  have hr : ∀ a v, Rel σ s.heap a v → Rel σ h' a v := fun a v r => r.step stp x.sok
  have hso : ∀ a o, σ a = some o → C.B.get? a = none ∧ ObjAt σ h' a o := fun a o e => by
    refine ⟨(x.out.so a o e).1, (x.out.so a o e).2.poke hs hr (fun ob vs k e q => ?_) fun da ia i => x.pk.ne i ia⟩
    have := hol.symm.trans e; cases this; rw [hdl] at q; cases q
  have back := x.out.backS stp x.B x.ap x.sok hso x.out.bare x.out.os
  have hcell : ∀ c v, s.heap.IsCell c v → h'.IsCell c v := fun c v hc => by
    obtain ⟨o, ho, hd⟩ := hc
    exact ⟨o, (hs.2 c fun e => by subst e; have := hol.symm.trans ho; cases this; rw [hdl] at hd; cases hd).trans ho, hd⟩
  refine hQ _ ?_ stp
  exact { back with
    kind := x.kind, gl := x.gl, bi := x.bi, lB := x.B _ x.loc, nd := x.nd
    cB := fun p hp => ⟨(x.cells p hp).1, let ⟨_, v, hc⟩ := x.cells p hp; ⟨v, hcell _ _ hc⟩⟩
    ns := ⟨_, hn', .inl ⟨y, v, by simp⟩, fun z b hz => by
      have hz' : (putv cvars y a).lookup z = some b := hz
      rw [putv_lookup] at hz'
      by_cases e : z = y
      · subst e; rw [if_pos rfl] at hz'; cases hz'
        unfold VarOk; rw [show (Fm.mk ce (putv cvars z a) F.fs).env.kindOf z = some .local from hl]
        exact ⟨v, by simp, hr _ _ r⟩
      · rw [if_neg e] at hz'
        obtain ⟨c, u, hk, hc, hcu, ru, _⟩ := x.cv z b hz'
        unfold VarOk
        rcases hk with hk | hk
        · rw [show (Fm.mk ce (putv cvars y a) F.fs).env.kindOf z = some .cell from hk]; exact ⟨c, u, hc, hcell _ _ hcu, hr _ _ ru⟩
        · rw [show (Fm.mk ce (putv cvars y a) F.fs).env.kindOf z = some .free from hk]; exact ⟨c, u, hc, hcell _ _ hcu, hr _ _ ru⟩⟩ }
end
end Mine
end

section
open PySem PySem.W PyProof.Rows PySem.Calls PySem.SeqAt
set_option Elab.async false
set_option maxRecDepth 100000
set_option linter.unusedVariables false
namespace Mine

section
variable {prog : Program} {w : World} {A : Around} {E : Value → Shared → Prop} {s : Shared}
theorem tp_pyNext_end {it t : Addr} {i : Nat} {items : Array Value} {Q : Option Value → Shared → Prop} (hh : A.handled = none)
    (hit : s.heap.IsTupleIter it t i) (ht : s.heap.IsTuple t items) (hx : items[i]? = none)
    (hQ : ∀ h', Heap.ExtBut it s.heap h' → s.heap.objs.size ≤ h'.objs.size → (∃ o vs, h'.get? it = some o ∧ o.data = .fields vs ∧ o.cls = .type "tuple_iterator") → Q none { s with heap := h' }) : wpAny (model prog w) A (pyNext (.ref it)) Q E s := by
  obtain ⟨o, ho, hc, hd⟩ := id hit
  obtain ⟨ol, hol, _, nl, hdl⟩ := ht
  unfold pyNext
  refine wpAny_bind (wpAny_attempt (wpAny_callSpecial?_slot (name := Str.ofString "__next__") hit.typeIs F.slot_tuple_iterator_next
    (wpAny_call_entry F.slot_tuple_iterator_next hit.typeIs F.entry_tuple_iterator_next ?_ (F.args_tuple_iterator_next_1 _))))
  show wpAny _ _ (field (.ref it) 0 >>= _) _ _ s
  refine wpAny_bind (wpAny_field ho hd (x := .ref t) rfl ?_)
  show wpAny _ _ (if (Value.ref t == Value.none) = true then _ else _) _ _ s
  rw [if_neg (show ¬ ((Value.ref t == Value.none) = true) from Bool.false_ne_true)]
  show wpAny _ _ (field (.ref it) 1 >>= _) _ _ s
  refine wpAny_bind (wpAny_field ho hd (x := .int i 0) rfl ?_)
  show wpAny _ _ (seqItems? (.ref t) >>= _) _ _ s
  refine wpAny_bind (wpAny_seqItems hol hdl ?_)
  simp only [Int.toNat_natCast, hx]
  refine wpAny_bind (wpAny_rule (wpAny_bind (wpAny_setField ho hd (by simp) ?_)))
  show wpAny _ _ (newExc (.type "StopIteration") [] >>= _) _ _ _
  refine wpAny_bind ?_
  simp only [newExc, newTuple]
  refine wpAny_bind (wpAny_newObj_type ?_ (by size_fits))
  refine wpAny_bind (m := firstArgMember _ _) (wpAny_of_eq (a := Value.none) (by first | rfl | (simp only [firstArgMember]; rfl)) ?_)
  refine wpAny_newObj_type ?_ (by size_fits)
  simp only [raiseNew]
  refine wpAny_bind (wpAny_handled ?_)
  first | rw [show A.in1.handled = none from hh] | rw [hh]
  refine wpAny_bind (wpAny_pure (wpAny_throw ?_))
  refine wpAny_bind (wpAny_isInstance (T := "StopIteration") (b := true) ⟨_, Heap.get?_push_size _ rfl, rfl⟩ isSubtype_stop ?_)
  exact wpAny_pure (hQ _ (((Heap.SameBut.update ..).extBut.push _).push _) (by simp only [Heap.size_push, Heap.size_after_update]; omega) ⟨_, _, Heap.get?_push_of_some _ (Heap.get?_push_of_some _ (Heap.get?_update_self _ ho (Obj.isFreed_of_fields (Obj.data_mapFields hd _)))), Obj.data_mapFields hd _, (Obj.cls_mapFields ..).trans hc⟩)
end

section
variable {C : Cx} {A : Around} {F : Fm} {σ σ' : Store} {s s' : Shared}

/-- a value falls into parts -/
def Unp (C : Cx) (A : Around) (F : Fm) (σ : Store) (a : AV) (as : List AV) : Prop :=
  ∀ s v, St C A F σ s → Rel σ s.heap a v → ∀ Q : List Value → Shared → Prop,
    (∀ vs s', St C A F σ s' → RelAll σ s'.heap as vs → Step C.B F.frs [] σ σ s s' → (∀ b o, s.heap.get? b = some o → s'.heap.get? b = some o) → FirstNew s.heap s'.heap → Q vs s') → wpAny C.M A (unpackItems v as.length none) Q NoE s

theorem Unp_tuple (hh : A.handled = none) (ds : List PyData) : Unp C A F σ (.dat (.tuple ds)) (ds.map .dat) := fun s v x r Q hQ => by
  cases r with
  | dat r =>
    cases r with
    | @tuple t o vs n _ h1 h2 h3 h4 h5 =>
      have ht : s.heap.IsTuple t vs := ⟨o, h2, h3, n, h4⟩
      have hlt : t ≠ s.heap.objs.size := Nat.ne_of_lt (Heap.lt_size h2)
      have ra := h5.rel
      have hlen : (ds.map AV.dat).length = vs.size := by rw [← ra.length]; simp
      rw [hlen]
      unfold unpackItems
      refine wpAny_bind ?_
      unfold notIterableAtAll
      refine wpAny_bind (wpAny_specialOf ht.typeIs PySem.F.slot_tuple_iter.lookup ?_)
      refine wpAny_pure ?_
      simp only [Bool.false_eq_true, if_false]
      refine wpAny_bind (wpAny_holding (wpAny_pyIter_tuple ht ?_))
      refine wpAny_bind (wpAny_holding (wpAny_draw_tuple hlt vs.size 0 _ _ ⟨_, Heap.get?_push_size _ rfl, rfl, rfl⟩ (ht.push _) (by omega) fun h₁ hit₁ hs₁ => ?_))
      have hall : List.take vs.size (List.drop 0 vs.toList) = vs.toList := by
        rw [List.drop_zero]; exact List.take_of_length_le (by simp)
      rw [hall]
      rw [if_neg (by simp)]
      have ht₁ : h₁.IsTuple t vs := (ht.push _).extBut hs₁.extBut hlt
      refine wpAny_bind (wpAny_holding (tp_pyNext_end hh hit₁ ht₁ (by simp) fun h₂ he₂ hz₂ ⟨ot, wt, hot, hdt, hct⟩ => ?_))
      simp only [Option.isSome_none, Bool.false_eq_true, if_false]
      have hk : ∀ b o, s.heap.get? b = some o → h₂.get? b = some o := fun b o e => by
        have hb : b ≠ s.heap.objs.size := Nat.ne_of_lt (Heap.lt_size e)
        exact he₂ b o hb (hs₁.extBut b o hb (Heap.get?_push_of_some _ e))
      have hz : s.heap.objs.size ≤ h₂.objs.size := Nat.le_trans (by rw [hs₁.1, Heap.size_push]; exact Nat.le_succ _) hz₂
      obtain ⟨st, stp⟩ := x.grow (s' := { s with heap := h₂ }) hk hz (Nat.le_refl _) x.bare rfl
      exact wpAny_pure (hQ _ _ st (ra.step stp (.nil _)) stp hk (.inr ⟨ot, hot, .inl fun c => by rw [hct]; nofun⟩))

theorem Asg_Tuple2 {t₁ t₂ : Expr} {k : Nat} {p : Pos} {a b c : AV} {P : List (Str × AV) → Store → Prop} (hu : Unp C A F σ c [a, b]) (h : Asg C A F σ t₁ a fun vars₁ σ₁ => ∃ b₁, (∀ h v, Rel σ h b v → True) ∧ b₁ = b ∧ Asg C A (F.with vars₁) σ₁ t₂ b P)
    (he : assignEach [t₁, t₂] F.env = [(false, assign t₁ F.env), (false, assign t₂ F.env)] := by rfl) : Asg C A F σ (.Tuple [t₁, t₂] k p) c P := fun s v st r Q hQ => by
  rw [arm_assign_Tuple]
  refine wpAny_bind (wpAny_standAt ?_)
  unfold unpack
  rw [he]
  refine wpAny_bind (wpAny_holding (hu s v st r _ fun vs s₁ st₁ ra e₁ _ _ => ?_))
  obtain ⟨v1, v2, rfl, r1, r2⟩ := ra.two
  refine wpAny_assignInOrder_more (h s₁ v1 st₁ r1 _ fun vars₁ σ₁ s₂ h₂ st₂ e₂ => ?_)
  obtain ⟨_, _, rfl, h₂⟩ := h₂
  refine wpAny_assignInOrder_more (h₂ s₂ v2 st₂ (r2.step e₂ st₁.sok) _ fun vars₂ σ₂ s₃ h₃ st₃ e₃ => ?_)
  exact wpAny_assignInOrder_none (hQ _ _ _ h₃ st₃ (((e₁.mono (by simp)).trans e₂).trans e₃))

/-! ## comprehensions: the frame's facts along what grows -/
theorem CFr.ext {ce : Env} {S : List Addr} {cvars : List (Str × AV)} (x : CFr C A F σ s ce S cvars) (st : St C A F σ s') {T : List Addr} (stp : Step C.B F.frs T σ σ s s') (hT : SOk s.heap T) (hS : ∀ b ∈ T, ItObj s.heap b)
    (hk : ∀ b o, b ∉ T → s.heap.get? b = some o → s'.heap.get? b = some o) (hfn : FirstNew s.heap s'.heap) (hlt : ∀ b ∈ T, b < ce.locals) : CFr C A F σ s' ce S cvars := by
  have hk' : ∀ b o, s.heap.get? b = some o → (∀ vs, o.data ≠ .fields vs) → s'.heap.get? b = some o := fun b o e hf => hk b o (fun hb => by
    obtain ⟨o', ho', ⟨vs, hd⟩, _⟩ := hS b hb
    rw [e] at ho'; cases ho'; exact hf vs hd) e
  have hcell : ∀ c v, s.heap.IsCell c v → s'.heap.IsCell c v := fun c v hc => by
    obtain ⟨o, ho, hd⟩ := hc
    exact ⟨o, hk' _ _ ho (fun vs q => by rw [hd] at q; cases q), hd⟩
  exact {
    out := st
    B := x.B
    ap := x.ap
    sd := fun b hb => by
      obtain ⟨o, ho, h⟩ := x.sd b hb
      exact ⟨o, hk' b o ho (fun vs q => by rcases h with ⟨es, n, h⟩ | ⟨v, h⟩ <;> rw [h] at q <;> cases q), h⟩
    loc := x.loc
    kind := x.kind
    gl := x.gl
    bi := x.bi
    sub := x.sub
    ns := by
      obtain ⟨m, ⟨o, es, ep, ho, hd, r⟩, hp⟩ := x.ns
      refine ⟨m, ⟨o, es, ep, hk' _ _ ho (fun vs q => by rw [hd] at q; cases q), hd, r⟩, hp.imp id fun hp => hp.keep (fun o e => hk _ o (fun hb => ?_) e) hfn⟩
      exact absurd (hlt _ hb) (Nat.not_lt.mpr (Nat.le_succ _))
    cells := fun p hp => ⟨(x.cells p hp).1, let ⟨_, v, hc⟩ := x.cells p hp; ⟨v, hcell _ _ hc⟩⟩
    nd := x.nd
    cv := fun y a e => let ⟨c, v, h1, h2, h3, h4, h5⟩ := x.cv y a e; ⟨c, v, h1, h2, hcell _ _ h3, h4.step stp hT, h5⟩ }
end
end Mine
end

section
open PySem PySem.W PyProof.Rows PySem.Calls PySem.SeqAt
set_option Elab.async false
set_option maxRecDepth 100000
set_option linter.unusedVariables false
namespace Mine
section
variable {C : Cx} {A : Around} {F : Fm} {σ σ' : Store} {s s' : Shared} {ce : Env} {S : List Addr} {cvars : List (Str × AV)}

theorem ItObj.sok1 {h : Heap} {it : Addr} (x : ItObj h it) : SOk h [it] := fun b hb => by
  obtain ⟨o, ho, hd, hc, _⟩ := x
  rcases List.mem_cons.mp hb with rfl | hb
  · exact ⟨o, ho, .inr (.inr ⟨hd, hc⟩)⟩
  · cases hb
theorem ItObj.of1 {h : Heap} {it b : Addr} (x : ItObj h it) (hb : b ∈ [it]) : ItObj h b := by
  rcases List.mem_cons.mp hb with rfl | hb
  · exact x
  · cases hb

def CAsg (C : Cx) (A : Around) (F : Fm) (ce : Env) (S : List Addr) (cvars : List (Str × AV)) (target : Expr) (σ : Store) (a : AV) (vars : List (Str × AV)) : Prop :=
  ∀ s v, CFr C A F σ s ce S cvars → Rel σ s.heap a v → ∀ Q : Unit → Shared → Prop, (∀ s', St C A ⟨ce, vars, F.fs⟩ σ s' → Step C.B F.frs S σ σ s s' → Q () s') → wpAny C.M A (assign target ce v) Q NoE s
theorem CAsg_Name {y : Str} {p : Pos} {a : AV} (hl : ce.kindOf y = some .local) : CAsg C A F ce S cvars (.Name y p) σ a (putv cvars y a) := fun s v x r Q hQ => x.name_local hl r hQ

theorem CAsg_Cell {y : Str} {p : Pos} {a : AV} {c : Addr} (hl : ce.kindOf y = some .cell) (hc : ce.cells.lookup y = some c) (hcS : c ∈ S) (hne : c ≠ ce.locals) (hno : ce.locals + 1 ∈ ce.cells.map (·.2)) : CAsg C A F ce S cvars (.Name y p) σ a (putv cvars y a) := fun s v x r Q hQ => by
  obtain ⟨m, n, _⟩ := x.ns
  have hcm := mem_of_lookup hc
  obtain ⟨_, v0, hcell⟩ := x.cells _ hcm
  refine wpAny_assign_Name (wpAny_storeName_cell x.kind hl hc hcell fun h' hc' hs => ?_)
  obtain ⟨oc, hoc, hdc⟩ := id hcell
  have stp : Step C.B F.frs S σ σ s { s with heap := h', toks := s.toks } := .poke hcS hs
  have hr : ∀ a v, Rel σ s.heap a v → Rel σ h' a v := fun a v r => r.step stp x.sok
  have hso : ∀ a o, σ a = some o → C.B.get? a = none ∧ ObjAt σ h' a o := fun a o e => by
    refine ⟨(x.out.so a o e).1, (x.out.so a o e).2.poke hs hr (fun ob vs k e q => ?_) fun da ia i hd => ?_⟩
    · have := hoc.symm.trans e; cases this; rw [hdc] at q; cases q
    · subst hd; obtain ⟨_, _, od, k, g1, g2⟩ := i; have := hoc.symm.trans g1; cases this; rw [hdc] at g2; cases g2
  have back := x.out.backS stp x.B x.ap x.sok hso x.out.bare x.out.os
  have hcl : ∀ d v, d ≠ c → s.heap.IsCell d v → h'.IsCell d v := fun d v hd hc => by
    obtain ⟨o, ho, hdd⟩ := hc
    exact ⟨o, (hs.2 d hd).trans ho, hdd⟩
  refine hQ _ ?_ stp
  exact { back with
    kind := x.kind, gl := x.gl, bi := x.bi, lB := x.B _ x.loc, nd := x.nd
    cB := fun p hp => ⟨(x.cells p hp).1, by
      obtain ⟨_, v, hc⟩ := x.cells p hp
      by_cases e : p.2 = c
      · rw [e]; exact ⟨_, hc'⟩
      · exact ⟨v, hcl _ _ e hc⟩⟩
    ns := ⟨m, n.sameBut hs (Ne.symm hne), .inr hno, fun z b hz => by
      have hz' : (putv cvars y a).lookup z = some b := hz
      rw [putv_lookup] at hz'
      by_cases e : z = y
      · subst e; rw [if_pos rfl] at hz'; cases hz'
        unfold VarOk; rw [show (Fm.mk ce (putv cvars z a) F.fs).env.kindOf z = some .cell from hl]
        exact ⟨c, v, hc, hc', hr _ _ r⟩
      · rw [if_neg e] at hz'
        obtain ⟨d, u, hk, hd, hcu, ru, _⟩ := x.cv z b hz'
        have hdc' : d ≠ c := fun e' => by
          subst e'
          exact e (name_of_addr (List.pairwise_map.mp x.nd) (mem_of_lookup hd) hcm)
        unfold VarOk
        rcases hk with hk | hk
        · rw [show (Fm.mk ce (putv cvars y a) F.fs).env.kindOf z = some .cell from hk]; exact ⟨d, u, hd, hcl _ _ hdc' hcu, hr _ _ ru⟩
        · rw [show (Fm.mk ce (putv cvars y a) F.fs).env.kindOf z = some .free from hk]; exact ⟨d, u, hd, hcl _ _ hdc' hcu, hr _ _ ru⟩⟩ }

theorem CAsg_Tuple {y z : Str} {p q : Pos} {k : Nat} {pos : Pos} {a b c : AV} (hu : Unp C A F σ c [a, b]) (hy : ce.kindOf y = some .local) (hz : ce.kindOf z = some .local)
    (hS : ∀ d ∈ (Fm.mk ce [] F.fs).own, d ∈ S ∨ d ∈ ce.cells.map (·.2)) : CAsg C A F ce S cvars (.Tuple [.Name y p, .Name z q] k pos) σ c (putv (putv cvars y a) z b) := fun s v x r Q hQ => by
  rw [arm_assign_Tuple]
  refine wpAny_bind (wpAny_standAt ?_)
  unfold unpack
  have he : assignEach [.Name y p, .Name z q] ce = [(false, assign (.Name y p) ce), (false, assign (.Name z q) ce)] := rfl
  rw [he]
  refine wpAny_bind (wpAny_holding (hu s v x.out r _ fun vs s₁ st₁ ra e₁ hk hfn => ?_))
  obtain ⟨v1, v2, rfl, r1, r2⟩ := ra.two
  have x₁ := x.ext st₁ e₁ (.nil _) (by simp) (fun b o _ e => hk b o e) hfn (by simp)
  refine wpAny_assignInOrder_more (x₁.name_local hy r1 fun s₂ st₂ e₂ => ?_)
  have st₂' : St C A ⟨ce, putv cvars y a, F.fs⟩ σ s₂ := st₂
  refine wpAny_assignInOrder_more (wpAny_assign_Name (St.store1 (F := ⟨ce, putv cvars y a, F.fs⟩) st₂' (y := z) (.inl hz) (r2.step e₂ x₁.sok) fun d s₃ hd hor st₃ e₃ _ _ => ?_))
  refine wpAny_assignInOrder_none (hQ _ st₃ (((e₁.mono (by simp)).trans e₂).trans (Step.mono (S := [d]) e₃ fun e he => ?_)))
  rcases List.mem_cons.mp he with rfl | he
  · rcases hor with ⟨_, rfl⟩ | ⟨hk, _⟩
    · exact x.loc
    · have hk' : ce.kindOf z = some .cell := hk
      rw [hz] at hk'; cases hk'
  · cases he

/-- the facts of the frame, at a turn's end -/
theorem CFr.again {s₂ : Shared} {σ₂ : Store} {it : Addr} (x : CFr C A F σ₂ s₂ ce S cvars) (hit : ItObj s₂.heap it) (hB : C.B.get? it = none) (e : Step C.B F.frs (it :: S) σ₂ σ' s₂ s') {vars : List (Str × AV)} (st : St C A ⟨ce, vars, F.fs⟩ σ' s') : CFr C A F σ' s' ce S cvars := by
  have notS : ∀ {b}, b ∈ F.own → b ∉ it :: S := fun {b} hb q => by
    rcases List.mem_cons.mp q with rfl | q
    · exact hit.notOwn x.out hb
    · exact (x.ap b q).1 hb
  obtain ⟨oi, hoi, ⟨wi, hdi⟩, hci, _⟩ := id hit
  have sok : SOk s₂.heap (it :: S) := fun b hb => by
    rcases List.mem_cons.mp hb with rfl | hb
    · exact ⟨oi, hoi, .inr (.inr ⟨⟨wi, hdi⟩, hci⟩)⟩
    · exact x.sok b hb
  have notF : it ∉ F.frs := fun q => by
    obtain ⟨o, es, n, ho, hd⟩ := x.out.fd it q
    rw [hoi] at ho; cases ho; rw [hdi] at hd; cases hd
  refine {
    out := x.out.backS e (fun b hb => ?_) (fun b hb => ?_) sok st.so st.bare st.os
    B := x.B
    ap := x.ap
    sd := fun b hb => ?_
    loc := x.loc
    kind := x.kind
    gl := x.gl
    bi := x.bi
    sub := x.sub
    ns := let ⟨m, n, ne, _⟩ := st.ns; ⟨m, n, .inl ne⟩
    cells := st.cB
    nd := x.nd
    cv := fun y a h => ?_ }
  · rcases List.mem_cons.mp hb with rfl | hb
    · exact hB
    · exact x.B b hb
  · rcases List.mem_cons.mp hb with rfl | hb
    · exact ⟨hit.notOwn x.out, notF⟩
    · exact x.ap b hb
  · have : b ∈ (Fm.mk ce vars F.fs).own := by
      rcases x.sub b hb with rfl | h
      · exact List.mem_cons_self
      · exact List.mem_cons_of_mem _ h
    exact st.ownData this
  · obtain ⟨c, v, hk, hc, ⟨o, ho, hd⟩, r, hcS⟩ := x.cv y a h
    refine ⟨c, v, hk, hc, ?_, r.step e sok, hcS⟩
    · refine ⟨o, e.k c o ho (x.out.notStore ho fun vs k q => by rw [hd] at q; cases q) (fun q => ?_) (fun ps q => by rw [q] at hd; simp [tObj] at hd) (.inr fun es n q => by rw [hd] at q; cases q), hd⟩
      rcases List.mem_cons.mp q with rfl | q
      · have := hoi.symm.trans ho; cases this; rw [hdi] at hd; cases hd
      · exact hcS q

/-- the tests of a clause -/
def Ti (C : Cx) (A : Around) (F : Fm) (σ : Store) (ifs : List Expr) (PB : Bool → Store → Prop) : Prop :=
  Tb C A F σ (forIn ifs true fun c r => if r = true then do let ok ← isTrue c F.env (eval c F.env); pure (ForInStep.yield ok) else pure (ForInStep.yield r)) PB
theorem Ti_nil {PB : Bool → Store → Prop} (h : PB true σ) : Ti C A F σ [] PB := fun s st Q hQ => by
  rw [List.forIn_nil]; exact wpAny_pure (hQ _ _ _ h st (.refl ..))
theorem Ti_one {PB : Bool → Store → Prop} {e : Expr} (h : Te C A F σ e PB) : Ti C A F σ [e] PB := fun s st Q hQ => by
  rw [List.forIn_cons]
  refine wpAny_bind ?_
  rw [if_pos rfl]
  refine wpAny_bind (h s st _ fun b σ₁ s₁ h₁ st₁ e₁ => wpAny_pure ?_)
  show wpAny C.M A (forIn [] b _) Q NoE s₁
  rw [List.forIn_nil]
  exact wpAny_pure (hQ _ _ _ h₁ st₁ e₁)
theorem Tb.up {t : Sem Bool} {PB : Bool → Store → Prop} (h : Tb C A F σ t fun b σ₁ => ∃ σ0, Sub σ0 σ₁ ∧ PB b σ0) : Tb C A F σ t PB := fun s st Q hQ => h s st Q fun b σ₁ s₁ h₁ st₁ e₁ => by
  obtain ⟨σ0, sub, hp⟩ := h₁
  exact hQ b σ0 s₁ hp (st₁.forget sub) (e₁.sub sub)

/-- one comprehension's turns -/
def CTurn (C : Cx) (A : Around) (F : Fm) (σ₁ : Store) (ce : Env) (S : List Addr) (cvars : List (Str × AV)) (target elt : Expr) (ifs : List Expr) (I : Nat → List AV → Store → Prop) (i : Nat) (a : AV) : Prop :=
  ∀ outs σ', I i outs σ' → (∀ b, σ₁ b ≠ none → σ' b ≠ none) → ∃ vars pz, CAsg C A F ce S cvars target σ' a vars ∧
    Ti C A ⟨ce, vars, F.fs⟩ σ' ifs (fun q σ'' => q = pz ∧ σ'' = σ') ∧
    (pz = true → Ev C A ⟨ce, vars, F.fs⟩ σ' elt fun r σ₃ => (∀ b, σ₁ b = none → σ' b ≠ none → σ₃ b = σ' b) ∧ (∀ b, σ₁ b ≠ none → σ₃ b ≠ none) ∧ I (i + 1) (outs ++ [r]) σ₃) ∧
    (pz = false → I (i + 1) outs σ')

theorem comp_loop (ok : C.Ok) (T : TF C.K) (hh : A.handled = none) {σ₁ σ₂ : Store} {s₂ : Shared} {it D : Addr} {b : AV} {xs : List AV} {elt target iter : Expr} {ifs : List Expr} {scope : Scope} {pos : Pos} {R : Result → Shared → Prop}
    (I : Nat → List AV → Store → Prop) (hlet : LetOk C A target b xs) (hlen : xs.length ≤ 10000) (hloc : ∀ i outs σ' σ'', I i outs σ' → (∀ a, σ₁ a ≠ none → σ'' a = σ' a) → I i outs σ'') (hsrc : ∀ i outs σ', I i outs σ' → Src σ' b xs)
    (turn : ∀ i a, xs[i]? = some a → CTurn C A F σ₁ ce S cvars target elt ifs I i a)
    (hD1 : σ₁ D = none) (hD : σ₂ D = some ⟨false, []⟩) (hdom : ∀ b, σ₁ b ≠ none → σ₂ b ≠ none) (inv0 : I 0 [] σ₂) (x : CFr C A F σ₂ s₂ ce S cvars) (I₂ : IterAt σ₂ s₂.heap it b xs 0) (hB : C.B.get? it = none) (hitl : it < ce.locals)
    (fin : ∀ outs σ' s', I xs.length outs σ' → σ' D = some ⟨false, outs⟩ → CFr C A F σ' s' ce S cvars → Step C.B F.frs (it :: S) σ₂ σ' s₂ s' → R (.ok .next) s') :
    codeAny C.M A (.compLoop (.ListComp elt [⟨target, iter, ifs, 0⟩] scope pos) 0 (.ref it) (.ref D) ce) R s₂ := by
  have hit := I₂.obj
  have noS : it ∉ S := fun q => by
    obtain ⟨o, ho, ⟨vs, hd⟩, _⟩ := hit
    obtain ⟨o', ho', h⟩ := x.sd it q
    rw [ho] at ho'; cases ho'
    rcases h with ⟨es, n, h⟩ | ⟨v, h⟩ <;> rw [hd] at h <;> cases h
  have hS : ∀ b ∈ S, b ∈ it :: S := fun b hb => List.mem_cons_of_mem _ hb
  have hsing : ∀ b ∈ [it], b ∈ it :: S := fun b hb => by
    rcases List.mem_cons.mp hb with rfl | hb
    · exact List.mem_cons_self
    · cases hb
  refine codeAny_loop rfl (fun n s' => ∃ i outs σ', n = xs.length - i ∧ i ≤ xs.length ∧ I i outs σ' ∧ σ' D = some ⟨false, outs⟩ ∧ outs.length ≤ i ∧ (∀ b, σ₁ b ≠ none → σ' b ≠ none) ∧ CFr C A F σ' s' ce S cvars ∧ IterAt σ' s'.heap it b xs i ∧ Step C.B F.frs (it :: S) σ₂ σ' s₂ s') (fun n s' hI => ?_) xs.length
    ⟨0, [], σ₂, rfl, Nat.zero_le _, inv0, hD, Nat.le_refl _, hdom, x, I₂, .refl ..⟩
  obtain ⟨i, outs, σ', rfl, hi, inv, hDo, hlo, hdm, x', I', e'⟩ := hI
  show wpAny C.M A ((compTurn (.ListComp elt [⟨target, iter, ifs, 0⟩] scope pos) 0 (.ref it) (.ref D) ce).onRaise (fun x => do noteFrame x ce; theTreesLotGoes x)) _ _ s'
  refine wpAny_noted (wpAny_noE ?_)
  rw [compTurn_list]
  refine wpAny_bind (wpAny_standAt (wpAny_bind ?_))
  rcases Nat.lt_or_ge i xs.length with hlt | hge
  · have ha : xs[i]? = some xs[i] := List.getElem?_eq_getElem hlt
    refine Iter.next x'.out hB I' ha fun u s₃ ru I₃ st₃ e₃ hk₃ hfn₃ => ?_
    refine wpAny_bind (hlet σ' s₃ it (i + 1) xs[i] u I₃ (List.getElem_mem hlt) ru _ ?_)
    obtain ⟨vars, pz, casg, tests, helt, hno⟩ := turn i xs[i] ha outs σ' inv hdm
    have x₃ : CFr C A F σ' s₃ ce S cvars := x'.ext st₃ e₃ I'.obj.sok1 (fun b hb => I'.obj.of1 hb) (fun b o hb e => hk₃ b o (fun q => hb (q ▸ List.mem_cons_self)) e) hfn₃ fun b hb => by
      rcases List.mem_cons.mp hb with rfl | hb
      · exact hitl
      · cases hb
    refine wpAny_bind (casg s₃ u x₃ ru _ fun s₄ st₄ e₄ => ?_)
    refine wpAny_bind (tests s₄ st₄ _ fun q σ₅ s₅ h₅ st₅ e₅ => ?_)
    obtain ⟨hq0, hs0⟩ := h₅
    rw [hs0] at st₅ e₅
    rw [← hq0] at helt hno
    have e35 : Step C.B F.frs S σ' σ' s₃ s₅ := e₄.trans (Step.mono (S' := S) e₅ (by simp))
    have e25 := (e'.trans (e₃.mono hsing)).trans (Step.mono (S' := it :: S) e35 hS)
    have nit : σ' it = none := I₃.obj.notStore st₃
    have go : ∀ (σ₆ : Store) (s₆ : Shared) (outs' : List AV), Step C.B F.frs (it :: S) σ₂ σ₆ s₂ s₆ → Step C.B F.frs S σ' σ₆ s₃ s₆ → St C A ⟨ce, vars, F.fs⟩ σ₆ s₆ → I (i + 1) outs' σ₆ → σ₆ D = some ⟨false, outs'⟩ → outs'.length ≤ i + 1 → (∀ b, σ₁ b ≠ none → σ₆ b ≠ none) →
        ∃ m, m < xs.length - i ∧ ∃ i outs σ', m = xs.length - i ∧ i ≤ xs.length ∧ I i outs σ' ∧ σ' D = some ⟨false, outs⟩ ∧ outs.length ≤ i ∧ (∀ b, σ₁ b ≠ none → σ' b ≠ none) ∧ CFr C A F σ' s₆ ce S cvars ∧ IterAt σ' s₆.heap it b xs i ∧ Step C.B F.frs (it :: S) σ₂ σ' s₂ s₆ :=
      fun σ₆ s₆ outs' e26 e36 st₆ hI hD' hl hd => ⟨xs.length - (i + 1), by omega, i + 1, outs', σ₆, rfl, hlt, hI, hD', hl, hd, x.again hit hB e26 st₆, I₃.step e36 x₃.sok nit noS (hsrc _ _ _ hI), e26⟩
    cases hq : q with
    | false =>
      simp only [Bool.false_eq_true, if_false]
      exact wpAny_pure ⟨rfl, go σ' s₅ outs e25 e35 st₅ (hno hq) hDo (Nat.le_succ_of_le hlo) hdm⟩
    | true =>
      simp only [if_true]
      refine wpAny_bind (wpAny_bind (helt hq s₅ st₅ _ fun r v σ₆ s₆ h₆ st₆ r₆ e₆ => ?_))
      obtain ⟨hkeep, hdm₆, hI₆⟩ := h₆
      have hD₆ : σ₆ D = some ⟨false, outs⟩ := by rw [hkeep D hD1 (by rw [hDo]; simp)]; exact hDo
      have hne : ∀ b, σ₁ b ≠ none → b ≠ D := fun b hb e => hb (e ▸ hD1)
      refine wpAny_bind (On_append ok T (F := ⟨ce, vars, F.fs⟩) (a := r) hD₆ (by omega) (P := fun _ σ₇ => σ₇ = upd σ₆ D ⟨false, outs ++ [r]⟩) rfl s₆ [.ref D, v] st₆ (.cons (.obj D) (.cons r₆ .nil)) _ fun w wv σ₇ s₇ h₇ st₇ r₇ e₇ => ?_)
      subst h₇
      have e37 : Step C.B F.frs S σ' (upd σ₆ D ⟨false, outs ++ [r]⟩) s₃ s₇ := (e35.trans (Step.mono (S' := S) e₆ (by simp))).trans (Step.mono (S' := S) e₇ (by simp))
      have e27 : Step C.B F.frs (it :: S) σ₂ (upd σ₆ D ⟨false, outs ++ [r]⟩) s₂ s₇ := (e'.trans (e₃.mono hsing)).trans (Step.mono (S' := it :: S) e37 hS)
      exact wpAny_pure (wpAny_pure ⟨rfl, go _ s₇ (outs ++ [r]) e27 e37 st₇ (hloc _ _ _ _ hI₆ fun b hb => upd_ne (hne b hb)) (upd_self _ _ _) (by simp; omega) fun b hb => by rw [upd_ne (hne b hb)]; exact hdm₆ b hb⟩)
  · have hi' : i = xs.length := Nat.le_antisymm hi hge
    subst hi'
    refine Iter.stop x'.out hh hB I' (by simp) fun s₃ st₃ e₃ hk₃ hfn₃ => ?_
    have x₃ : CFr C A F σ' s₃ ce S cvars := x'.ext st₃ e₃ I'.obj.sok1 (fun b hb => I'.obj.of1 hb) (fun b o hb e => hk₃ b o (fun q => hb (q ▸ List.mem_cons_self)) e) hfn₃ fun b hb => by
      rcases List.mem_cons.mp hb with rfl | hb
      · exact hitl
      · cases hb
    exact wpAny_pure (fin outs σ' s₃ inv hDo x₃ (e'.trans (e₃.mono hsing)))
end
end Mine
end

section
open PySem PySem.W PyProof.Rows PySem.Calls PySem.SeqAt
set_option Elab.async false
set_option maxRecDepth 100000
set_option linter.unusedVariables false
namespace Mine

section
variable {M : Model} {A : Around} {E : Value → Shared → Prop} {s : Shared}
theorem cl_nodup {cells : List (Str × Addr)} (hnd : (cells.map (·.2)).Nodup) : ∀ {cl : List (Str × Addr)}, (cl.map (·.1)).Nodup → (∀ p ∈ cl, (p.1, p.2) ∈ cells) → (cl.map (·.2)).Nodup
  | [], _, _ => List.nodup_nil
  | p :: r, hnm, hsub => by
    obtain ⟨h1, h2⟩ := List.nodup_cons.mp hnm
    refine List.nodup_cons.mpr ⟨fun q => ?_, cl_nodup hnd h2 fun p hp => hsub p (List.mem_cons_of_mem _ hp)⟩
    obtain ⟨q', hq', e⟩ := List.mem_map.mp q
    have e' : q'.2 = p.2 := e
    have m1 := hsub q' (List.mem_cons_of_mem _ hq')
    rw [e'] at m1
    have hn := name_of_addr (List.pairwise_map.mp hnd) m1 (hsub p List.mem_cons_self)
    exact h1 (show p.1 ∈ r.map (·.1) from hn ▸ List.mem_map.mpr ⟨q', hq', rfl⟩)
theorem pushCells_size : ∀ (names : List (Str × NameKind)) (h : Heap), h.objs.size ≤ (pushCells h names).objs.size
  | [], _ => Nat.le_refl _
  | (_, k) :: r, h => by
    unfold pushCells
    split
    · exact Nat.le_trans (by rw [Heap.size_push]; exact Nat.le_succ _) (pushCells_size r _)
    · exact pushCells_size r h

theorem pushCells_first : ∀ (names : List (Str × NameKind)) (h : Heap), (pushCells h names).objs.size ≠ h.objs.size → ∃ o, (pushCells h names).get? h.objs.size = some o ∧ NotInst o
  | [], _, hz => absurd rfl hz
  | (_, k) :: r, h, hz => by
    unfold pushCells at hz ⊢
    split at hz
    · rename_i hk
      rw [if_pos hk]
      exact ⟨_, pushCells_keeps r _ _ _ (Heap.get?_push_size _ rfl), .inr ⟨_, rfl⟩⟩
    · rename_i hk
      rw [if_neg hk]
      exact pushCells_first r h hz
theorem wpAny_compEnv {scope : Scope} {globals : Addr} {cl : List (Str × Addr)} {qual : Str} {env : Env} {Q : Env → Shared → Prop}
    (hQ : Q { scope := scope, locals := s.heap.objs.size, globals := globals, cells := cellsFrom (s.heap.objs.size + 1) scope.names cl, qual := qual, func := none, code := env.code, frame := env.frame, builtins := env.builtins }
      { s with heap := pushCells (s.heap.push { cls := .type "dict", data := .dict #[] }) scope.names }) : wpAny M A (newFunctionEnv scope globals cl [] qual none .none (some env)) Q E s := by
  simp only [newFunctionEnv, Option.isSome_some, if_true]
  refine wpAny_bind (wpAny_alloc ?_)
  refine wpAny_bind (wpAny_layCells _ (fun name kind cells => by cases hkc : kind == NameKind.cell <;> simp [hkc]) _ _ _ _ ?_)
  rw [show ({ s with heap := s.heap.push { cls := .type "dict", data := .dict #[] } } : Shared).heap.objs.size = s.heap.objs.size + 1 from Heap.size_push ..]
  rw [List.forIn_nil]
  exact wpAny_bind (wpAny_pure (wpAny_pure hQ))
end

section
variable {C : Cx} {A : Around} {F : Fm} {σ₁ : Store} {s₁ : Shared}

/-- what a list comprehension over b needs -/
structure CompI (C : Cx) (A : Around) (F : Fm) (σ₁ : Store) (scope : Scope) (cl : List (Str × Addr)) (target elt : Expr) (ifs : List Expr) (b : AV) (xs : List AV) (I : Nat → List AV → Store → Prop) : Prop where
  src : Src σ₁ b xs
  letOk : LetOk C A target b xs
  len : xs.length ≤ 10000
  inv0 : I 0 [] σ₁
  loc : ∀ i outs σ' σ'', I i outs σ' → (∀ a, σ₁ a ≠ none → σ'' a = σ' a) → I i outs σ''
  srcs : ∀ i outs σ', I i outs σ' → Src σ' b xs
  turn : ∀ D i a, xs[i]? = some a → CTurn C A F σ₁ (cEnv scope (cellsFrom (D + 1) scope.names cl) D F.env) (D :: (cellsFrom (D + 1) scope.names []).map (·.2)) (capVars F.vars cl) target elt ifs I i a

theorem comp_core (ok : C.Ok) (T : TF C.K) (hh : A.handled = none) {scope : Scope} {cl : List (Str × Addr)} (cs : CompS scope F.env cl) {b : AV} {xs : List AV} {elt target iter : Expr} {ifs : List Expr} {pos : Pos}
    {I : Nat → List AV → Store → Prop} (ci : CompI C A F σ₁ scope cl target elt ifs b xs I) {RR : Value → Addr → Result → Shared → Prop} {v : Value} (x : St C A F σ₁ s₁) (r : Rel σ₁ s₁.heap b v)
    (fin : ∀ D Dc cells S outs σ' s', σ₁ D = none → I xs.length outs σ' → σ' D = some ⟨false, outs⟩ → CFr C A F σ' s' (cEnv scope cells Dc F.env) S (capVars F.vars cl) → (∀ a ∈ S, s₁.heap.objs.size ≤ a) → Step C.B F.frs [] σ₁ σ' s₁ s' → RR (.ref D) Dc (.ok .next) s') :
    wpAny C.M A (pyIter v) (fun it s₂ => wpAny C.M A (newList []) (fun acc s₃ => wpAny C.M A (newFunctionEnv scope F.env.globals cl [] F.env.qual none .none (some F.env)) (fun cenv s₄ =>
      codeAny C.M A (.compStart (.ListComp elt [⟨target, iter, ifs, 0⟩] scope pos) 0 it acc { cenv with scope := relabel scope F.env }) (RR acc cenv.locals) s₄) NoE s₃) NoE s₂) NoE s₁ := by
  refine Src.iter ok T x ci.src r fun it s₂ hfr hB st₂ e₂ I₂ => ?_
  refine wpAny_newList ?_
  have keepL : ∀ a o, s₂.heap.get? a = some o → (s₂.heap.push { cls := .type "list", data := .seq ([] : List Value).toArray }).get? a = some o := fun a o e => Heap.get?_push_of_some _ e
  obtain ⟨st₃, e₃, hn₃⟩ := st₂.alloc (a := s₂.heap.objs.size) (o := ⟨false, []⟩) (s' := { s₂ with heap := s₂.heap.push { cls := .type "list", data := .seq ([] : List Value).toArray } }) (Nat.le_refl _) keepL (by rw [Heap.size_push]; exact Nat.le_succ _) rfl rfl
    ⟨[], 0, .nil, 0, Heap.get?_push_size _ rfl⟩
  generalize hD : s₂.heap.objs.size = D at st₃ e₃ hn₃ ⊢
  generalize hs₃ : ({ s₂ with heap := s₂.heap.push { cls := .type "list", data := .seq ([] : List Value).toArray } } : Shared) = s₃ at st₃ e₃ ⊢
  refine wpAny_compEnv ?_
  have I₃ : IterAt (upd σ₁ D ⟨false, []⟩) s₃.heap it b xs 0 := I₂.step e₃ (.nil _) (I₂.obj.notStore st₂) (by simp) (ci.src.up (Sub.upd hn₃))
  let Dc := s₃.heap.objs.size
  have keep₄ : ∀ a o, s₃.heap.get? a = some o → (pushCells (s₃.heap.push { cls := .type "dict", data := .dict #[] }) scope.names).get? a = some o := fun a o e => pushCells_keeps _ _ a o (Heap.get?_push_of_some _ e)
  have hz₄ : s₃.heap.objs.size ≤ (pushCells (s₃.heap.push { cls := .type "dict", data := .dict #[] }) scope.names).objs.size := Nat.le_trans (by rw [Heap.size_push]; exact Nat.le_succ _) (pushCells_size _ _)
  obtain ⟨st₄, e₄⟩ := st₃.grow (s' := { s₃ with heap := pushCells (s₃.heap.push { cls := .type "dict", data := .dict #[] }) scope.names }) keep₄ hz₄ (Nat.le_refl _) st₃.bare rfl
  have I₄ := I₃.step e₄ (.nil _) (I₃.obj.notStore st₃) (by simp) (ci.src.up (Sub.upd hn₃))
  have hdict : (pushCells (s₃.heap.push { cls := .type "dict", data := .dict #[] }) scope.names).Ns Dc fun _ => none := (Heap.Ns.new s₃.heap (.type "dict")).keeps (pushCells_keeps _ _)
  have hDc : s₃.heap.objs.size + 1 = (s₃.heap.push { cls := .type "dict", data := .dict #[] }).objs.size := (Heap.size_push ..).symm
  have free : ∀ p ∈ cl, F.env.cells.lookup p.1 = some p.2 ∧ scope.names.lookup p.1 = some .free := fun p hp => by
    rcases closOf_mem scope.names [] cs.clos p hp with h | ⟨h1, h2⟩
    · cases h
    · exact ⟨h1, lookup_mem cs.nodup h2⟩
  have ownCell : ∀ p ∈ cellsFrom (Dc + 1) scope.names [], Dc + 1 ≤ p.2 ∧ (pushCells (s₃.heap.push { cls := .type "dict", data := .dict #[] }) scope.names).IsCell p.2 none := fun p hp => by
    rw [show Dc + 1 = _ from hDc] at hp
    rcases cellsFrom_mem scope.names _ [] p hp with h | ⟨h1, h2, _⟩
    · cases h
    · exact ⟨by rw [show Dc + 1 = _ from hDc]; exact h1, h2⟩
  have cellsEq : cellsFrom (Dc + 1) scope.names cl = cellsFrom (Dc + 1) scope.names [] ++ cl := cellsFrom_append cl scope.names (Dc + 1) []
  have clF : ∀ p ∈ cl, p.2 ∈ F.own ∧ p.2 < Dc := fun p hp => by
    have hm := mem_of_lookup (free p hp).1
    obtain ⟨_, v, o, ho, _⟩ := st₃.cB _ hm
    exact ⟨List.mem_cons_of_mem _ (List.mem_map.mpr ⟨_, hm, rfl⟩), Heap.lt_size ho⟩
  have fresh : ∀ a, Dc ≤ a → C.B.get? a = none ∧ a ∉ F.own ∧ a ∉ F.frs := fun a ha => by
    refine ⟨st₃.freshB ha, fun h => ?_, fun h => ?_⟩
    · obtain ⟨o, ho, _⟩ := st₃.ownData h
      exact absurd (Heap.lt_size ho) (Nat.not_lt.mpr ha)
    · obtain ⟨o, _, _, ho, _⟩ := st₃.fd a h
      exact absurd (Heap.lt_size ho) (Nat.not_lt.mpr ha)
  have inS : ∀ a ∈ Dc :: (cellsFrom (Dc + 1) scope.names []).map (·.2), Dc ≤ a := fun a ha => by
    rcases List.mem_cons.mp ha with rfl | ha
    · exact Nat.le_refl _
    · obtain ⟨p, hp, rfl⟩ := List.mem_map.mp ha
      exact Nat.le_of_succ_le (ownCell p hp).1
  have cfr : CFr C A F (upd σ₁ D ⟨false, []⟩) { s₃ with heap := pushCells (s₃.heap.push { cls := .type "dict", data := .dict #[] }) scope.names } (cEnv scope (cellsFrom (Dc + 1) scope.names cl) Dc F.env) (Dc :: (cellsFrom (Dc + 1) scope.names []).map (·.2)) (capVars F.vars cl) := {
    out := st₄
    B := fun a ha => (fresh a (inS a ha)).1
    ap := fun a ha => (fresh a (inS a ha)).2
    sd := fun a ha => by
      rcases List.mem_cons.mp ha with rfl | ha
      · obtain ⟨o, es, ep, ho, hd, _⟩ := hdict
        exact ⟨o, ho, .inl ⟨es, ep, hd⟩⟩
      · obtain ⟨p, hp, rfl⟩ := List.mem_map.mp ha
        obtain ⟨o, ho, hd⟩ := (ownCell p hp).2
        exact ⟨o, ho, .inr ⟨_, hd⟩⟩
    loc := List.mem_cons_self
    kind := cs.kind
    gl := x.gl
    bi := x.bi
    sub := fun a ha => by
      rcases List.mem_cons.mp ha with rfl | ha
      · exact .inl rfl
      · refine .inr ?_
        show a ∈ (cellsFrom (Dc + 1) scope.names cl).map (·.2)
        rw [cellsEq, List.map_append]
        exact List.mem_append_left _ ha
    ns := ⟨_, hdict, .inr (by
      by_cases hz : ({ s₃ with heap := pushCells (s₃.heap.push { cls := .type "dict", data := .dict #[] }) scope.names } : Shared).heap.objs.size = Dc + 1
      · exact .inl hz.symm
      · obtain ⟨o, ho, hn⟩ := pushCells_first scope.names (s₃.heap.push { cls := .type "dict", data := .dict #[] }) (fun h => hz (by rw [show ({ s₃ with heap := pushCells (s₃.heap.push { cls := .type "dict", data := .dict #[] }) scope.names } : Shared).heap.objs.size = _ from h]; exact hDc.symm))
        exact .inr ⟨o, by rw [show Dc + 1 = _ from hDc]; exact ho, hn⟩)⟩
    cells := fun p hp => by
      have hp : p ∈ cellsFrom (Dc + 1) scope.names [] ++ cl := cellsEq ▸ hp
      rcases List.mem_append.mp hp with hp | hp
      · exact ⟨(fresh _ (Nat.le_of_succ_le (ownCell p hp).1)).1, _, (ownCell p hp).2⟩
      · have hm := mem_of_lookup (free p hp).1
        exact st₄.cB _ hm
    nd := by
      refine cellsFrom_nodup scope.names _ cl ?_ fun p hp => Nat.lt_succ_of_lt (clF p hp).2
      exact cl_nodup x.nd (closOf_names scope.names [] cs.clos cs.nodup List.nodup_nil (by simp)) fun p hp => mem_of_lookup (free p hp).1
    cv := fun y a e => by
      obtain ⟨hv, c, hc⟩ := capVars_lookup F.vars y a e
      have hm := mem_of_lookup hc
      obtain ⟨f1, f2⟩ := free _ hm
      obtain ⟨m, n, _, vs⟩ := st₄.ns
      have w := vs y a hv
      have hk : (cEnv scope (cellsFrom (Dc + 1) scope.names cl) Dc F.env).kindOf y = some .cell ∨ (cEnv scope (cellsFrom (Dc + 1) scope.names cl) Dc F.env).kindOf y = some .free := by
        rw [cEnv_kindOf, show scope.names.lookup y = some .free from f2]
        simp only [Option.map_some]
        split
        · exact .inl rfl
        · exact .inr rfl
      have hl : (cellsFrom (Dc + 1) scope.names cl).lookup y = some c := by
        rw [cellsFrom_lookup _ _ _ fun h => ?_]
        · exact hc
        · have := lookup_mem cs.nodup h
          rw [show scope.names.lookup y = some .free from f2] at this
          cases this
      have hcS : c ∉ Dc :: (cellsFrom (Dc + 1) scope.names []).map (·.2) := fun h => absurd (clF _ hm).2 (Nat.not_lt.mpr (inS c h))
      unfold VarOk at w
      have f1' : F.env.cells.lookup y = some c := f1
      rcases cs.capt _ hm with hkk | hkk
      · rw [show F.env.kindOf y = some .cell from hkk] at w
        obtain ⟨d, u, g1, g2, g3⟩ := w
        rw [f1'] at g1; cases g1
        exact ⟨c, u, hk, hl, g2, g3, hcS⟩
      · rw [show F.env.kindOf y = some .free from hkk] at w
        obtain ⟨d, u, g1, g2, g3⟩ := w
        rw [f1'] at g1; cases g1
        exact ⟨c, u, hk, hl, g2, g3, hcS⟩ }
  have hne : ∀ a, σ₁ a ≠ none → a ≠ D := fun a ha e => ha (e ▸ hn₃)
  have loop := comp_loop ok T hh (σ₁ := σ₁) (R := RR (.ref D) Dc) (pos := pos) (scope := scope) (iter := iter) I ci.letOk ci.len ci.loc ci.srcs (ci.turn Dc) hn₃ (upd_self _ _ _) (fun a ha => by rw [upd_ne (hne a ha)]; exact ha)
    (ci.loc _ _ _ _ ci.inv0 fun a ha => upd_ne (hne a ha)) cfr I₄ hB (Nat.lt_of_lt_of_le (let ⟨o, ho, _⟩ := I₂.obj; Heap.lt_size ho) e₃.sz) fun outs σ' s' hI hD' c' e' => by
      refine fin D _ _ _ outs σ' s' hn₃ hI hD' c' (fun a ha => Nat.le_trans (Nat.le_trans e₂.sz e₃.sz) (inS a ha)) ?_
      refine Step.shrink ((e₂.trans e₃).trans e₄) e' (fun a ha => .inr ?_) fun a ha => .inl ha
      rcases List.mem_cons.mp ha with rfl | ha
      · exact hfr
      · exact Nat.le_trans (Nat.le_trans e₂.sz e₃.sz) (inS a ha)
  refine codeAny_compStart_list loop ?_
  refine wpAny_noE ?_
  cases I₄ with
  | seq _ _ _ q => exact wpAny_pyIter_listiter q loop
  | rng _ _ _ q => exact wpAny_pyIter_rangeiter q loop

/-- no name of the scope is a plain local -/
theorem letGo_cells {M : Model} {E : Value → Shared → Prop} {s : Shared} {cenv : Env} {cellsOf : List (Str × NameKind) → List Value} {Q : Unit → Shared → Prop} : ∀ (vs : List (Str × NameKind)), (∀ x ∈ vs, x.2 ≠ .local) → Q () s → wpAny M A (comprehension.letGo cenv cellsOf vs) Q E s
  | [], _, h => wpAny_pure h
  | (n, k) :: r, hv, h => by
    rw [comprehension.letGo]
    have hb : (k == NameKind.local) = false := by simpa using hv (n, k) List.mem_cons_self
    refine wpAny_bind (wpAny_holding ?_)
    simp only [hb, Bool.false_eq_true, if_false]
    exact wpAny_point (letGo_cells r (fun x hx => hv x (List.mem_cons_of_mem _ hx)) h)

/-- a comprehension whose names are cells -/
theorem comp_cells {M : Model} {E : Value → Shared → Prop} {s : Shared} {env : Env} {e : Expr} {scope : Scope} {pos : Pos} {newAcc first : Sem Value} {g : Comprehension} {gs : List Comprehension} {cl : List (Str × Addr)} {Q : Value → Shared → Prop}
    (hcl : clausesOf e = g :: gs) (hs : ∀ x, foldedSetIterable g.iter env x = pure x) (hclos : closureFor scope env = pure cl) (hno : ∀ x ∈ scope.names, x.2 ≠ .local)
    (h : wpAny M A first (fun x s₁ => wpAny M A (pyIter x) (fun it s₂ => wpAny M A newAcc (fun acc s₃ => wpAny M A (newFunctionEnv scope env.globals cl [] env.qual none .none (some env)) (fun cenv s₄ =>
        codeAny M A (.compStart e 0 it acc { cenv with scope := relabel scope env }) (fun r s' => match r with | .ok _ => Q acc s' | .error _ => False) s₄) E s₃) E s₂) E s₁) E s) :
    wpAny M A (comprehension e scope env pos newAcc false first none) Q E s := by
  unfold comprehension
  rw [hclos, hcl]
  refine wpAny_bind (wpAny_mono h (fun x s₁ h₁ => wpAny_bind (wpAny_standAt (wpAny_bind (wpAny_of_eq (hs x) (wpAny_bind (wpAny_holding (wpAny_mono h₁ (fun it s₂ h₂ =>
    wpAny_standIf (wpAny_bind (wpAny_mono h₂ (fun acc s₃ h₃ => wpAny_bind (wpAny_pure (wpAny_bind (wpAny_mono h₃ (fun cenv s₄ h₄ => ?_) fun _ _ h' => h')))) fun _ _ h' => h')))
      fun _ _ h' => h'))))))) fun _ _ h' => h')
  dsimp only
  refine wpAny_holding (wpAny_bind (wpAny_attempt (wpAny_holding (wpAny_run (codeAny_mono h₄ fun r s' hr => ?_)))))
  cases r with
  | ok f => exact wpAny_bind (wpAny_holding (letGo_cells _ (fun x hx => hno x (List.mem_filter.mp (List.mem_reverse.mp hx)).1) (wpAny_pure hr)))
  | error x => exact hr.elim

/-- the frame around, after the comprehension's names went -/
theorem CFr.done {σ' : Store} {s' : Shared} {ce : Env} {S : List Addr} {cvars : List (Str × AV)} (c : CFr C A F σ' s' ce S cvars) {h' : Heap} (hs : Heap.SameBut ce.locals s'.heap h') :
    St C A F σ' { s' with heap := h' } ∧ Step C.B F.frs S σ' σ' s' { s' with heap := h' } ∧ (∀ a v, Rel σ' s'.heap a v → Rel σ' h' a v) := by
  obtain ⟨m, n, hp⟩ := c.ns
  obtain ⟨ol, es, ep, hol, hdl, _⟩ := id n
  have stp : Step C.B F.frs S σ' σ' s' { s' with heap := h' } := .poke (tk := s'.toks) c.loc hs
  have hr : ∀ a v, Rel σ' s'.heap a v → Rel σ' h' a v := fun a v r => r.step stp c.sok
  refine ⟨c.out.backS stp c.B c.ap c.sok (fun a o e => ?_) c.out.bare c.out.os, stp, hr⟩
  refine ⟨(c.out.so a o e).1, (c.out.so a o e).2.poke hs hr (fun ob vs k e q => ?_) fun da ia i => c.pk.ne i ia⟩
  have := hol.symm.trans e; cases this; rw [hdl] at q; cases q

variable {σ : Store} {P : AV → Store → Prop}

theorem Ev_ListComp (ok : C.Ok) (T : TF C.K) (hh : A.handled = none) {elt target iter : Expr} {ifs : List Expr} {scope : Scope} {cl : List (Str × Addr)} {pos : Pos} (cs : CompS scope F.env cl) {y : Str} (hy : scope.names.lookup y = some .local)
    (h : Ev C A F σ iter fun b σ₁ => ∃ xs I, CompI C A F σ₁ scope cl target elt ifs b xs I ∧ ∀ D outs σ', σ₁ D = none → I xs.length outs σ' → σ' D = some ⟨false, outs⟩ → P (.obj D) σ')
    (hs : ∀ x, foldedSetIterable iter F.env x = pure x := by intro _; rfl) : Ev C A F σ (.ListComp elt [⟨target, iter, ifs, 0⟩] scope pos) P := fun s st Q hQ => by
  show wpAny C.M A (eval (.ListComp elt [⟨target, iter, ifs, 0⟩] scope pos) F.env) Q NoE s
  rw [eval_ListComp]
  refine wpAny_comprehension_free (use := none) rfl hs (closureFor_of cs.clos) cs.kind (fun x hx hl => hl ▸ lookup_mem cs.nodup (by obtain ⟨n, k⟩ := x; exact hx)) (h s st _ fun b v σ₁ s₁ h₁ st₁ r₁ e₁ => ?_)
  obtain ⟨xs, I, ci, hP⟩ := h₁
  refine comp_core ok T hh cs ci (RR := fun acc Cc r s' => compPost C.M A NoE none Q acc Cc r s') st₁ r₁ fun D Dc cells S outs σ' s' hD hI hD' c hS e' => ?_
  obtain ⟨m, n, _⟩ := c.ns
  refine ⟨m, n, fun h' hs' => ?_⟩
  obtain ⟨st', e'', hr⟩ := c.done hs'
  exact hQ (.obj D) _ σ' _ (hP D outs σ' hD hI hD') st' (.obj D) (e₁.trans (Step.shrink e' e'' (fun a ha => .inr (hS a ha)) fun a ha => .inl ha))

/-- the same, where the one name is a cell -/
theorem Ev_ListCompCells (ok : C.Ok) (T : TF C.K) (hh : A.handled = none) {elt target iter : Expr} {ifs : List Expr} {scope : Scope} {cl : List (Str × Addr)} {pos : Pos} (cs : CompS scope F.env cl) (hno : ∀ x ∈ scope.names, x.2 ≠ .local)
    (h : Ev C A F σ iter fun b σ₁ => ∃ xs I, CompI C A F σ₁ scope cl target elt ifs b xs I ∧ ∀ D outs σ', σ₁ D = none → I xs.length outs σ' → σ' D = some ⟨false, outs⟩ → P (.obj D) σ')
    (hs : ∀ x, foldedSetIterable iter F.env x = pure x := by intro _; rfl) : Ev C A F σ (.ListComp elt [⟨target, iter, ifs, 0⟩] scope pos) P := fun s st Q hQ => by
  show wpAny C.M A (eval (.ListComp elt [⟨target, iter, ifs, 0⟩] scope pos) F.env) Q NoE s
  rw [eval_ListComp]
  refine comp_cells rfl hs (closureFor_of cs.clos) hno (h s st _ fun b v σ₁ s₁ h₁ st₁ r₁ e₁ => ?_)
  obtain ⟨xs, I, ci, hP⟩ := h₁
  refine comp_core ok T hh cs ci (RR := fun acc _ r s' => match r with | .ok _ => Q acc s' | .error _ => False) st₁ r₁ fun D Dc cells S outs σ' s' hD hI hD' c hS e' => ?_
  exact hQ (.obj D) _ σ' _ (hP D outs σ' hD hI hD') c.out (.obj D) (e₁.trans e')

/-- a name bound to a comprehension, when the two change places -/
theorem Ex_AssignComp (ok : C.Ok) (T : TF C.K) (hh : A.handled = none) {P : FP} {elt target iter : Expr} {ifs : List Expr} {scope : Scope} {cl : List (Str × Addr)} {pos spos : Pos} {z : Str} {pz : Pos} (cs : CompS scope F.env cl) {y : Str} (hy : scope.names.lookup y = some .local)
    (hz : F.env.kindOf z = some .local) (hsw : swapsWith (.ListComp elt [⟨target, iter, ifs, 0⟩] scope pos) (some (.Name z pz)) spos.line F.env = pure true)
    (h : Ev C A F σ iter fun b σ₁ => ∃ xs I, CompI C A F σ₁ scope cl target elt ifs b xs I ∧ ∀ D outs σ', σ₁ D = none → I xs.length outs σ' → σ' D = some ⟨false, outs⟩ → P .next (putv F.vars z (.obj D)) σ')
    (hs : ∀ x, foldedSetIterable iter F.env x = pure x := by intro _; rfl) : Ex C A F σ (.Assign [.Name z pz] (.ListComp elt [⟨target, iter, ifs, 0⟩] scope pos) spos) P := fun s st Q hQ => by
  rw [show exec (.Assign [.Name z pz] (.ListComp elt [⟨target, iter, ifs, 0⟩] scope pos) spos) F.env = _ from exec_Assign_Name_used _ _ _ _ hsw]
  refine wpAny_bind (wpAny_standAt (wpAny_bind ?_))
  show wpAny C.M A (do let _ ← comprehension (.ListComp elt [⟨target, iter, ifs, 0⟩] scope pos) scope F.env _ (newList []) false (eval iter F.env) (some (assign (.Name z pz) F.env))) _ _ s
  refine wpAny_bind (wpAny_mono (wpAny_comprehension_free (use := some (assign (.Name z pz) F.env)) (Q := fun _ s' => Q .next s') rfl hs (closureFor_of cs.clos) cs.kind (fun x hx hl => hl ▸ lookup_mem cs.nodup (by obtain ⟨n, k⟩ := x; exact hx)) (h s st _ fun b v σ₁ s₁ h₁ st₁ r₁ e₁ => ?_))
    (fun _ s' hq => wpAny_pure (wpAny_pure hq)) fun _ _ e => e)
  obtain ⟨xs, I, ci, hP⟩ := h₁
  refine comp_core ok T hh cs ci (RR := fun acc Cc r s' => compPost C.M A NoE (some (assign (.Name z pz) F.env)) (fun _ s' => Q .next s') acc Cc r s') st₁ r₁ fun D Dc cells S outs σ' s' hD hI hD' c hS e' => ?_
  show wpAny C.M A (assign (.Name z pz) F.env (.ref D)) _ NoE s'
  obtain ⟨m, n, hp⟩ := c.ns
  refine wpAny_assign_Name (c.out.store1 (.inl hz) (.obj D) fun d s'' hd hor st'' e'' hk'' hz'' => ?_)
  have hdl : d = F.env.locals := by
    rcases hor with ⟨_, h⟩ | ⟨h, _⟩
    · exact h
    · rw [hz] at h; cases h
  have hne : ∀ a ∈ S, a ∉ [d] := fun a ha q => by
    rcases List.mem_cons.mp q with rfl | q
    · exact (c.ap a ha).1 hd
    · cases q
  have kept : ∀ a o, s'.heap.get? a = some o → (∀ vs n, o.data = .seq vs n → True) → a ≠ d → s''.heap.get? a = some o := fun a o e _ hn => hk'' a o hn e
  have hdd : ∃ o es k, s'.heap.get? d = some o ∧ o.data = .dict es k := by
    obtain ⟨m', ⟨o, es, ep, ho, hd', _⟩, _⟩ := c.out.ns
    rw [hdl]; exact ⟨o, es, ep, ho, hd'⟩
  have c'' : CFr C A (F.with (putv F.vars z (.obj D))) σ' s'' (cEnv scope cells Dc F.env) S [] := {
    out := st''
    B := c.B
    ap := c.ap
    sd := fun a ha => let ⟨o, ho, h⟩ := c.sd a ha; ⟨o, hk'' a o (fun e => hne a ha (e ▸ List.mem_cons_self)) ho, h⟩
    loc := c.loc
    kind := c.kind
    gl := c.gl
    bi := c.bi
    sub := c.sub
    ns := by
      refine ⟨m, let ⟨o, es, ep, ho, r⟩ := n; ⟨o, es, ep, hk'' _ o (fun e => hne _ c.loc (e ▸ List.mem_cons_self)) ho, r⟩, hp.imp id fun hp => hp.keep (fun o e => hk'' _ o (fun q => ?_) e) (.inl hz'')⟩
      obtain ⟨od, es, kk, hod, hdd'⟩ := hdd
      have hl := Heap.lt_size hod
      have hg : s₁.heap.objs.size ≤ Dc := hS _ c.loc
      rw [← q] at hdl
      obtain ⟨m1, ⟨o1, _, _, ho1, _⟩, _⟩ := st₁.ns
      have := Heap.lt_size ho1
      rw [← hdl] at this
      exact absurd this (Nat.not_lt.mpr (Nat.le_trans hg (Nat.le_succ _)))
    cells := fun p hp => by
      obtain ⟨h1, v, o, ho, hdo⟩ := c.cells p hp
      obtain ⟨od, es, kk, hod, hdd'⟩ := hdd
      exact ⟨h1, v, o, hk'' _ o (fun e => by have e' : s'.heap.get? d = some o := e ▸ ho
                                             have := hod.symm.trans e'; cases this; rw [hdd'] at hdo; cases hdo) ho, hdo⟩
    nd := c.nd
    cv := fun y a e => by cases e }
  obtain ⟨od, es0, ep0, hod, hdd0, hkk, hff⟩ := n
  refine ⟨m, ⟨od, es0, ep0, hk'' _ od (fun e => hne _ c.loc (e ▸ List.mem_cons_self)) hod, hdd0, hkk, hff⟩, fun h' hs' => ?_⟩
  obtain ⟨st3, e3, hr3⟩ := c''.done hs'
  have e1' : Step C.B F.frs F.own σ σ' s s' := (e₁.trans e').mono (by simp)
  have e2' : Step C.B F.frs F.own σ' σ' s' s'' := e''.mono fun a ha => by
    rcases List.mem_cons.mp ha with rfl | ha
    · exact hd
    · cases ha
  exact hQ .next .next _ σ' _ (hP D outs σ' hD hI hD') st3 .next (Step.shrink (e1'.trans e2') e3 (fun a ha => .inr (Nat.le_trans e₁.sz (hS a ha))) fun a ha => .inl ha)
end
end Mine
end

section
open PySem PySem.W PyProof.Rows PySem.Calls PySem.SeqAt
set_option Elab.async false
set_option maxRecDepth 100000
set_option linter.unusedVariables false
namespace Mine
section
variable {C : Cx} {A : Around} {F : Fm} {σ σ' : Store} {s s' : Shared} {P : AV → Store → Prop} {PB : Bool → Store → Prop}

theorem St.fresh (x : St C A F σ s) {a : Addr} (ha : s.heap.objs.size ≤ a) : σ a = none := by
  cases q : σ a with
  | none => rfl
  | some z =>
    obtain ⟨ob, _, _, e, _⟩ := (x.so a z q).2.at_
    exact absurd (Heap.lt_size e) (Nat.not_lt.mpr ha)

theorem On_len (ok : C.Ok) (T : TF C.K) {a : AV} {k : SK} {xs : List AV} (hk : k ≠ .tuple) (hi : Items σ a k xs) (hz : xs.length ≤ 1000000) (hP : P (.int xs.length) σ) : On C A F σ [a] (fun vs => call (.builtin "len") vs) P := fun s vs st r Q hQ => by
  obtain ⟨v, rfl, r1⟩ := r.one
  obtain ⟨y, us, rfl, sq, ra⟩ := hi.at_ st r1
  have hlen : us.toArray.size = xs.length := by rw [List.size_toArray]; exact ra.length
  have fin : ∀ t u, Q (.int us.toArray.size t) { s with toks := u } := fun t u => by
    rw [hlen]
    exact hQ _ _ _ _ hP (st.tok u).1 (.int _ _) (st.tok u).2
  cases k with
  | tuple => exact absurd rfl hk
  | list => exact call_len_list sq (by rw [hlen]; omega) (fin _ _)
  | tags => exact tg_len (st.K ok) T sq (by rw [hlen]; omega) (fin _ _)

theorem On_range1 {n : Int} (hP : P (.rng 0 n) σ) : On C A F σ [.int n] (fun vs => call (.type "range") vs) P := fun s vs st r Q hQ => by
  obtain ⟨v, rfl, r1⟩ := r.one
  obtain ⟨t, rfl⟩ := r1.int_inv
  refine call_range_1 ?_
  obtain ⟨st2, e2⟩ := st.push { cls := .type "range", data := .fields #[.int 0 s.toks, .int n t, .int 1 (s.toks + 1)] } (s.toks + 1 + 1)
  exact hQ _ _ _ _ hP st2 (.rng (st.fresh (Nat.le_refl _)) (Heap.get?_push_size _ rfl)) e2
theorem On_range2 {n m : Int} (hP : P (.rng n m) σ) : On C A F σ [.int n, .int m] (fun vs => call (.type "range") vs) P := fun s vs st r Q hQ => by
  obtain ⟨v, u, rfl, r1, r2⟩ := r.two
  obtain ⟨t, rfl⟩ := r1.int_inv
  obtain ⟨t', rfl⟩ := r2.int_inv
  refine call_range_2 ?_
  obtain ⟨st2, e2⟩ := st.push { cls := .type "range", data := .fields #[.int n t, .int m t', .int 1 s.toks] } (s.toks + 1)
  exact hQ _ _ _ _ hP st2 (.rng (st.fresh (Nat.le_refl _)) (Heap.get?_push_size _ rfl)) e2
theorem On_int {n : Int} (hP : P (.int n) σ) : On C A F σ [.int n] (fun vs => call (.type "int") vs) P := fun s vs st r Q hQ => by
  obtain ⟨v, rfl, r1⟩ := r.one
  obtain ⟨t, rfl⟩ := r1.int_inv
  exact call_int_int (hQ _ _ _ _ hP st (.int _ _) (.refl ..))

theorem allocList (st : St C A F σ s) {a : Addr} {as : List AV} {vs : List Value} {n : Nat} {h' : Heap} {tk : Nat} (ha : s.heap.objs.size ≤ a) (hk : ∀ b o, s.heap.get? b = some o → h'.get? b = some o) (ho : h'.get? a = some { cls := .type "list", data := .seq vs.toArray n }) (r : RelAll σ s.heap as vs) :
    St C A F (upd σ a ⟨false, as⟩) { s with heap := h', toks := tk } ∧ Step C.B F.frs [] σ (upd σ a ⟨false, as⟩) s { s with heap := h', toks := tk } := by
  have hz : s.heap.objs.size ≤ h'.objs.size := Nat.le_trans ha (Nat.le_of_lt (Heap.lt_size ho))
  have st0 : Step C.B F.frs [] σ (upd σ a ⟨false, as⟩) s { s with heap := h', toks := tk } := .grow hk hz (Nat.le_refl _) fun b l q => by rw [upd_ne (Nat.ne_of_lt (Nat.lt_of_lt_of_le l ha))]; exact q
  have := st.alloc (a := a) (o := ⟨false, as⟩) (s' := { s with heap := h', toks := tk }) ha hk hz rfl rfl ⟨vs, 0, r.step st0 (.nil _), n, ho⟩
  exact ⟨this.1, this.2.1⟩

theorem On_list {a : AV} {xs : List AV} (hi : Items σ a .list xs) (hz : xs.length ≤ 100000) (hP : ∀ l, σ l = none → P (.obj l) (upd σ l ⟨false, xs⟩)) : On C A F σ [a] (fun vs => call (.type "list") vs) P := fun s vs st r Q hQ => by
  obtain ⟨v, rfl, r1⟩ := r.one
  obtain ⟨y, us, rfl, sq, ra⟩ := hi.at_ st r1
  obtain ⟨o, ho, hc, n, hd⟩ := sq
  refine call_list_seq y (.inl rfl) ho hc hd (fun h' c' hk hl => ?_) (by rw [List.size_toArray, ra.length, sizeLine_eq]; omega)
  obtain ⟨st2, e2⟩ := allocList st (tk := s.toks) (Nat.le_refl _) hk hl ra
  exact hQ _ _ _ _ (hP _ (st.fresh (Nat.le_refl _))) st2 (.obj _) e2

theorem RelAll.drop {h : Heap} {as : List AV} {vs : List Value} (r : RelAll σ h as vs) : ∀ n : Nat, RelAll σ h (as.drop n) (vs.drop n) := by
  induction r with
  | nil => intro n; simp; exact .nil
  | cons h1 h2 ih => intro n; cases n with | zero => exact .cons h1 h2 | succ n => simpa using ih n
theorem RelAll.take {h : Heap} {as : List AV} {vs : List Value} (r : RelAll σ h as vs) : ∀ n : Nat, RelAll σ h (as.take n) (vs.take n) := by
  induction r with
  | nil => intro n; simp; exact .nil
  | cons h1 h2 ih => intro n; cases n with | zero => exact .nil | succ n => exact .cons h1 (ih n)

theorem Ev_Slice {value lo hi : Expr} {p pos : Pos} (h : Ev C A F σ value fun a σ₁ => Ev C A F σ₁ lo fun b σ₂ => Ev C A F σ₂ hi fun c σ₃ => ∃ xs, ∃ i j : Nat, Items σ₃ a .list xs ∧ b = .int i ∧ c = .int j ∧ i ≤ j ∧ j ≤ xs.length ∧ xs.length ≤ 100000 ∧
      ∀ l, σ₃ l = none → P (.obj l) (upd σ₃ l ⟨false, (xs.drop i).take (j - i)⟩))
    (ht : ∀ o r, letTemporaryGo value o r = pure () := by intro _ _; rfl) : Ev C A F σ (.Subscript value (.Slice (some lo) (some hi) none p) pos) P := fun s st Q hQ =>
  wpAny_Subscript_list_slice (h s st _ fun a v σ₁ s₁ h₁ st₁ r₁ e₁ => wpAny_evalPart_some (h₁ s₁ st₁ _ fun b u σ₂ s₂ h₂ st₂ r₂ e₂ => wpAny_evalPart_some (h₂ s₂ st₂ _ fun c w σ₃ s₃ h₃ st₃ r₃ e₃ => by
    obtain ⟨xs, i, j, hi, rfl, rfl, hij, hj, hz, hP⟩ := h₃
    obtain ⟨y, us, rfl, sq, ra⟩ := hi.at_ st₃ ((r₁.step e₂ (.nil _)).step e₃ (.nil _))
    obtain ⟨t, rfl⟩ := (r₂.step e₃ (.nil _)).int_inv
    obtain ⟨t', rfl⟩ := r₃.int_inv
    have hlen := ra.length
    refine ⟨y, us.toArray, some i, some j, rfl, sq, by rw [List.size_toArray, hlen, sizeLine_eq]; omega, .int _ _, .int _ _, ?_⟩
    rw [slicePick_run us.toArray i j (by rw [List.size_toArray, hlen]; exact hj) hij]
    have keep : ∀ b o, s₃.heap.get? b = some o → ((s₃.heap.push { cls := .type "slice", data := .fields #[.int i t, .int j t', .none] }).push { cls := .type "list", data := .seq ((us.toArray.toList.drop i).take (j - i)).toArray }).get? b = some o := fun b o e => Heap.get?_push_of_some _ (Heap.get?_push_of_some _ e)
    obtain ⟨st4, e4⟩ := allocList st₃ (a := s₃.heap.objs.size + 1) (tk := s₃.toks) (Nat.le_succ _) keep (by
      have := Heap.get?_push_size (s₃.heap.push { cls := .type "slice", data := .fields #[.int i t, .int j t', .none] }) (o := { cls := .type "list", data := .seq ((us.toArray.toList.drop i).take (j - i)).toArray }) rfl
      rw [Heap.size_push] at this
      exact this) ((ra.drop i).take (j - i))
    exact hQ _ _ _ _ (hP _ (st₃.fresh (Nat.le_succ _))) st4 (.obj _) (((e₁.trans e₂).trans e₃).trans e4)))) ht

theorem Ex_AugAdd {P : FP} {x : Str} {p pos : Pos} {e : Expr} {i j : Int} (hk : F.env.kindOf x = some .local) (hv : F.vars.lookup x = some (.int i)) (he : Ev C A F σ e fun a σ₁ => a = .int j ∧ P .next (putv F.vars x (.int (i + j))) σ₁) : Ex C A F σ (.AugAssign (.Name x p) .Add e pos) P := fun s st Q hQ => by
  refine wpAny_AugAssign_Name ?_
  obtain ⟨m, n, hne, hvs⟩ := id st.ns
  have w := hvs x _ hv
  unfold VarOk at w
  rw [hk] at w
  obtain ⟨v, hm, rv⟩ := w
  refine wpAny_loadName_local st.kind hk n hm ?_
  refine he s st _ fun a u σ₁ s₁ h₁ st₁ r₁ e₁ => ?_
  obtain ⟨rfl, hP⟩ := h₁
  obtain ⟨t, rfl⟩ := rv.int_inv
  obtain ⟨t', rfl⟩ := r₁.int_inv
  refine AutoIntOps.iadd_0 ?_
  obtain ⟨st2, e2⟩ := st₁.tok (s₁.toks + 1)
  exact st2.store (.inl hk) (.int _ _) fun s₃ st₃ e₃ => hQ _ _ _ _ _ hP st₃ .next (((e₁.trans e2).mono (by simp)).trans e₃)

theorem Ex_While (hh : A.handled = none) {P : FP} {test : Expr} {body : List Stmt} {pos : Pos} (I : Nat → List (Str × AV) → Store → Prop) {n₀ : Nat} (h0 : I n₀ F.vars σ)
    (turn : ∀ n vars σ', I n vars σ' → Te C A (F.with vars) σ' test fun b σ₁ => if b then Exs C A (F.with vars) σ₁ body (fun fl vars₂ σ₂ => match fl with
        | .next | .cont => ∃ m, m < n ∧ UpV (I m) vars₂ σ₂
        | .brk => P .next vars₂ σ₂
        | .ret r => P (.ret r) vars₂ σ₂) else P .next vars σ₁) : Ex C A F σ (.While test body [] pos) P := fun s st Q hQ => by
  refine wpAny_While (codeAny_whileLoop (fun n s' => ∃ vars σ', I n vars σ' ∧ St C A (F.with vars) σ' s' ∧ Step C.B F.frs F.own σ σ' s s') ?_ n₀ ⟨F.vars, σ, h0, st, .refl ..⟩)
  rintro n s' ⟨vars, σ', hI, st', e'⟩
  refine wpAny_noE (turn n vars σ' hI s' st' _ fun b σ₁ s₁ h₁ st₁ e₁ => ?_)
  have e1 := e'.trans (Step.mono (S' := F.own) e₁ (by simp))
  cases b with
  | false =>
    simp only [Bool.false_eq_true, if_false] at h₁ ⊢
    exact wpAny_execs_nil (hQ _ _ _ _ _ h₁ st₁ .next e1)
  | true =>
    simp only [if_true] at h₁ ⊢
    refine wpAny_noE (h₁ s₁ st₁ _ fun fl f vars₂ σ₂ s₂ h₂ st₂ fr₂ e₂ => ?_)
    have e2 := e1.trans (Step.mono (S' := F.own) e₂ fun _ q => q)
    have again : (∃ m, m < n ∧ UpV (I m) vars₂ σ₂) → ∃ m, m < n ∧ ∃ vars σ', I m vars σ' ∧ St C A (F.with vars) σ' s₂ ∧ Step C.B F.frs F.own σ σ' s s₂ := fun ⟨m, hm, hu⟩ => by
      obtain ⟨vars0, σ0, st0, sub, hI0⟩ := st₂.upV hu
      exact ⟨m, hm, vars0, σ0, hI0, st0, e2.sub sub⟩
    cases fr₂ with
    | next => exact again h₂
    | cont => exact again h₂
    | brk => exact hQ _ _ _ _ _ h₂ st₂ .next e2
    | ret r => exact hQ _ _ _ _ _ h₂ st₂ (.ret r) e2
end
end Mine
end

section
open PySem PySem.W PyProof.Rows
set_option Elab.async false
set_option maxRecDepth 100000
set_option maxHeartbeats 8000000
namespace Mine
open_top hd for PySem.Challenge.rw_fy0010_01
end Mine
end

section
open PySem PySem.W PyProof.Rows PySem.Calls PySem.SeqAt
set_option Elab.async false
set_option maxRecDepth 100000
set_option linter.unusedVariables false
namespace Mine
/-- what the written part says -/
structure KF (K : Frag) : Prop where
  T : TF K
  pT : PlainCls K TagsC
  pt : PlainCls K TagC
  ga : findIn K (.ref TagC) "__getattribute__" = some (some (.builtin "object.__getattribute__"))
  app : typeIn K (.builtin "list.append") = some (.type "method_descriptor")
  nlen : nsIn K mainGlobals "len" = some none
  nset : nsIn K mainGlobals "set" = some none
  nfrozenset : nsIn K mainGlobals "frozenset" = some none
  nint : nsIn K mainGlobals "int" = some none
  nlist : nsIn K mainGlobals "list" = some none
  nrange : nsIn K mainGlobals "range" = some none
  nenumerate : nsIn K mainGlobals "enumerate" = some none
  nany : nsIn K mainGlobals "any" = some none
  nIndexError : nsIn K mainGlobals "IndexError" = some none
  vis_soft_pointer : nsIn K mainGlobals "is_soft_pointer" = some (some (.ref 148))
  kvis_soft_pointer : keepIn K (.ref 148) = true
  vis_hard_pointer : nsIn K mainGlobals "is_hard_pointer" = some (some (.ref 155))
  kvis_hard_pointer : keepIn K (.ref 155) = true
  vis_soft_owner : nsIn K mainGlobals "is_soft_owner" = some (some (.ref 162))
  kvis_soft_owner : keepIn K (.ref 162) = true
  vis_hard_owner : nsIn K mainGlobals "is_hard_owner" = some (some (.ref 169))
  kvis_hard_owner : keepIn K (.ref 169) = true
  vDXFTag : nsIn K mainGlobals "DXFTag" = some (some (.ref 137))
  kvDXFTag : keepIn K (.ref 137) = true
  vTags : nsIn K mainGlobals "Tags" = some (some (.ref 339))
  kvTags : keepIn K (.ref 339) = true
  vDXFValueError : nsIn K mainGlobals "DXFValueError" = some (some (.ref 44))
  kvDXFValueError : keepIn K (.ref 44) = true
  vlaw_take : nsIn K mainGlobals "_law_take" = some (some (.ref 350))
  kvlaw_take : keepIn K (.ref 350) = true
  vlaw_pairs : nsIn K mainGlobals "_law_pairs" = some (some (.ref 355))
  kvlaw_pairs : keepIn K (.ref 355) = true
  vlaw_pair : nsIn K mainGlobals "_law_pair" = some (some (.ref 362))
  kvlaw_pair : keepIn K (.ref 362) = true
  vlaw_codes : nsIn K mainGlobals "_law_codes" = some (some (.ref 367))
  kvlaw_codes : keepIn K (.ref 367) = true
  vlaw_first : nsIn K mainGlobals "_law_first" = some (some (.ref 374))
  kvlaw_first : keepIn K (.ref 374) = true
  vlaw_handle : nsIn K mainGlobals "_law_handle" = some (some (.ref 379))
  kvlaw_handle : keepIn K (.ref 379) = true
  vlaw_asked : nsIn K mainGlobals "_law_asked" = some (some (.ref 384))
  kvlaw_asked : keepIn K (.ref 384) = true
  vlaw_done : nsIn K mainGlobals "_law_done" = some (some (.ref 389))
  kvlaw_done : keepIn K (.ref 389) = true
  mget_handle : findIn K (.ref TagsC) "get_handle" = some (some (.ref 200))
  tmget_handle : typeIn K (.ref 200) = some (.type "function")
  kmget_handle : keepIn K (.ref 200) = true
  mreplace_handle : findIn K (.ref TagsC) "replace_handle" = some (some (.ref 207))
  tmreplace_handle : typeIn K (.ref 207) = some (.type "function")
  kmreplace_handle : keepIn K (.ref 207) = true
  mdxftype : findIn K (.ref TagsC) "dxftype" = some (some (.ref 214))
  tmdxftype : typeIn K (.ref 214) = some (.type "function")
  kmdxftype : keepIn K (.ref 214) = true
  mhas_tag : findIn K (.ref TagsC) "has_tag" = some (some (.ref 221))
  tmhas_tag : typeIn K (.ref 221) = some (.type "function")
  kmhas_tag : keepIn K (.ref 221) = true
  mget_first_value : findIn K (.ref TagsC) "get_first_value" = some (some (.ref 229))
  tmget_first_value : typeIn K (.ref 229) = some (.type "function")
  kmget_first_value : keepIn K (.ref 229) = true
  mget_first_tag : findIn K (.ref TagsC) "get_first_tag" = some (some (.ref 237))
  tmget_first_tag : typeIn K (.ref 237) = some (.type "function")
  kmget_first_tag : keepIn K (.ref 237) = true
  mfind_all : findIn K (.ref TagsC) "find_all" = some (some (.ref 244))
  tmfind_all : typeIn K (.ref 244) = some (.type "function")
  kmfind_all : keepIn K (.ref 244) = true
  mtag_index : findIn K (.ref TagsC) "tag_index" = some (some (.ref 252))
  tmtag_index : typeIn K (.ref 252) = some (.type "function")
  kmtag_index : keepIn K (.ref 252) = true
  mupdate : findIn K (.ref TagsC) "update" = some (some (.ref 259))
  tmupdate : typeIn K (.ref 259) = some (.type "function")
  kmupdate : keepIn K (.ref 259) = true
  mset_first : findIn K (.ref TagsC) "set_first" = some (some (.ref 266))
  tmset_first : typeIn K (.ref 266) = some (.type "function")
  kmset_first : keepIn K (.ref 266) = true
  mremove_tags : findIn K (.ref TagsC) "remove_tags" = some (some (.ref 271))
  tmremove_tags : typeIn K (.ref 271) = some (.type "function")
  kmremove_tags : keepIn K (.ref 271) = true
  mpop_tags : findIn K (.ref TagsC) "pop_tags" = some (some (.ref 278))
  tmpop_tags : typeIn K (.ref 278) = some (.type "function")
  kmpop_tags : keepIn K (.ref 278) = true
  mremove_tags_except : findIn K (.ref TagsC) "remove_tags_except" = some (some (.ref 283))
  tmremove_tags_except : typeIn K (.ref 283) = some (.type "function")
  kmremove_tags_except : keepIn K (.ref 283) = true
  mcollect_consecutive_tags : findIn K (.ref TagsC) "collect_consecutive_tags" = some (some (.ref 291))
  tmcollect_consecutive_tags : typeIn K (.ref 291) = some (.type "function")
  kmcollect_consecutive_tags : keepIn K (.ref 291) = true
  mhas_embedded_objects : findIn K (.ref TagsC) "has_embedded_objects" = some (some (.ref 298))
  tmhas_embedded_objects : typeIn K (.ref 298) = some (.type "function")
  kmhas_embedded_objects : keepIn K (.ref 298) = true
  mget_soft_pointers : findIn K (.ref TagsC) "get_soft_pointers" = some (some (.ref 315))
  tmget_soft_pointers : typeIn K (.ref 315) = some (.type "function")
  kmget_soft_pointers : keepIn K (.ref 315) = true
  mget_hard_pointers : findIn K (.ref TagsC) "get_hard_pointers" = some (some (.ref 322))
  tmget_hard_pointers : typeIn K (.ref 322) = some (.type "function")
  kmget_hard_pointers : keepIn K (.ref 322) = true
  mget_soft_owner_handles : findIn K (.ref TagsC) "get_soft_owner_handles" = some (some (.ref 329))
  tmget_soft_owner_handles : typeIn K (.ref 329) = some (.type "function")
  kmget_soft_owner_handles : keepIn K (.ref 329) = true
  mget_hard_owner_handles : findIn K (.ref TagsC) "get_hard_owner_handles" = some (some (.ref 336))
  tmget_hard_owner_handles : typeIn K (.ref 336) = some (.type "function")
  kmget_hard_owner_handles : keepIn K (.ref 336) = true
  mclone : findIn K (.ref TagsC) "clone" = some (some (.ref 193))
  tmclone : typeIn K (.ref 193) = some (.type "function")
  kmclone : keepIn K (.ref 193) = true
  tclone : findIn K (.ref TagC) "clone" = some (some (.ref 133))
  ttclone : typeIn K (.ref 133) = some (.type "function")
  ktclone : keepIn K (.ref 133) = true
  marker : ∃ t, nsIn K mainGlobals "EMBEDDED_OBJ_MARKER" = some (some (.int 101 t))
  embstr : ∃ t, nsIn K mainGlobals "EMBEDDED_OBJ_STR" = some (some (.str "Embedded Object" t))
  pcode : ∃ p rest, (∀ od k, od.data = Data.dict #[] k → findObj K TagC (some od) "code" = some (.bind (.builtin "property.__get__") (.ref p))) ∧ recIn K p "property" = some (.ref 82 :: rest)
  pvalue : ∃ p rest, (∀ od k, od.data = Data.dict #[] k → findObj K TagC (some od) "value" = some (.bind (.builtin "property.__get__") (.ref p))) ∧ recIn K p "property" = some (.ref 90 :: rest)
  scode : ∃ p, (∀ od k, od.data = Data.dict #[] k → findObj K TagC (some od) "_code" = some (.bind (.builtin "member_descriptor.__get__") (.ref p))) ∧ slotIn K p TagC = some 0
  svalue : ∃ p, (∀ od k, od.data = Data.dict #[] k → findObj K TagC (some od) "_value" = some (.bind (.builtin "member_descriptor.__get__") (.ref p))) ∧ slotIn K p TagC = some 1
  makes : makesIn K TagC = true
  tinit : ∃ f, findIn K (.ref TagC) "__init__" = some (some (.ref f)) ∧ typeIn K (.ref f) = some (.type "function")

theorem KF.of (P : Params) : KF (hd.heap_39 P) where
  T := ⟨by kernel_rfl, by kernel_rfl, by kernel_rfl, by kernel_rfl, by kernel_rfl, by kernel_rfl, by kernel_rfl, by kernel_rfl⟩
  pT := ⟨⟨"list.__getattribute__", by kernel_rfl, by decide +kernel⟩, by kernel_rfl⟩
  pt := ⟨⟨"object.__getattribute__", by kernel_rfl, by decide +kernel⟩, by kernel_rfl⟩
  ga := by kernel_rfl
  app := rfl
  nlen := rfl
  nset := rfl
  nfrozenset := rfl
  nint := rfl
  nlist := rfl
  nrange := rfl
  nenumerate := rfl
  nany := rfl
  nIndexError := rfl
  vis_soft_pointer := rfl
  kvis_soft_pointer := rfl
  vis_hard_pointer := rfl
  kvis_hard_pointer := rfl
  vis_soft_owner := rfl
  kvis_soft_owner := rfl
  vis_hard_owner := rfl
  kvis_hard_owner := rfl
  vDXFTag := rfl
  kvDXFTag := rfl
  vTags := rfl
  kvTags := rfl
  vDXFValueError := rfl
  kvDXFValueError := rfl
  vlaw_take := rfl
  kvlaw_take := rfl
  vlaw_pairs := rfl
  kvlaw_pairs := rfl
  vlaw_pair := rfl
  kvlaw_pair := rfl
  vlaw_codes := rfl
  kvlaw_codes := rfl
  vlaw_first := rfl
  kvlaw_first := rfl
  vlaw_handle := rfl
  kvlaw_handle := rfl
  vlaw_asked := rfl
  kvlaw_asked := rfl
  vlaw_done := rfl
  kvlaw_done := rfl
  mget_handle := rfl
  tmget_handle := rfl
  kmget_handle := rfl
  mreplace_handle := rfl
  tmreplace_handle := rfl
  kmreplace_handle := rfl
  mdxftype := rfl
  tmdxftype := rfl
  kmdxftype := rfl
  mhas_tag := rfl
  tmhas_tag := rfl
  kmhas_tag := rfl
  mget_first_value := rfl
  tmget_first_value := rfl
  kmget_first_value := rfl
  mget_first_tag := rfl
  tmget_first_tag := rfl
  kmget_first_tag := rfl
  mfind_all := rfl
  tmfind_all := rfl
  kmfind_all := rfl
  mtag_index := rfl
  tmtag_index := rfl
  kmtag_index := rfl
  mupdate := rfl
  tmupdate := rfl
  kmupdate := rfl
  mset_first := rfl
  tmset_first := rfl
  kmset_first := rfl
  mremove_tags := rfl
  tmremove_tags := rfl
  kmremove_tags := rfl
  mpop_tags := rfl
  tmpop_tags := rfl
  kmpop_tags := rfl
  mremove_tags_except := rfl
  tmremove_tags_except := rfl
  kmremove_tags_except := rfl
  mcollect_consecutive_tags := rfl
  tmcollect_consecutive_tags := rfl
  kmcollect_consecutive_tags := rfl
  mhas_embedded_objects := rfl
  tmhas_embedded_objects := rfl
  kmhas_embedded_objects := rfl
  mget_soft_pointers := rfl
  tmget_soft_pointers := rfl
  kmget_soft_pointers := rfl
  mget_hard_pointers := rfl
  tmget_hard_pointers := rfl
  kmget_hard_pointers := rfl
  mget_soft_owner_handles := rfl
  tmget_soft_owner_handles := rfl
  kmget_soft_owner_handles := rfl
  mget_hard_owner_handles := rfl
  tmget_hard_owner_handles := rfl
  kmget_hard_owner_handles := rfl
  mclone := rfl
  tmclone := rfl
  kmclone := rfl
  tclone := rfl
  ttclone := rfl
  ktclone := rfl
  marker := ⟨_, rfl⟩
  embstr := ⟨_, rfl⟩
  pcode := ⟨_, _, fun od k h => rfl, rfl⟩
  pvalue := ⟨_, _, fun od k h => rfl, rfl⟩
  scode := ⟨_, fun od k h => rfl, rfl⟩
  svalue := ⟨_, fun od k h => rfl, rfl⟩
  makes := rfl
  tinit := ⟨_, rfl, rfl⟩
end Mine
end

section
open PySem PySem.W PyProof.Rows PySem.Calls PySem.SeqAt
set_option Elab.async false
set_option maxRecDepth 100000
set_option linter.unusedVariables false
namespace Mine
section
variable {C : Cx} {A : Around} {F : Fm} {σ σ' : Store} {s s' : Shared} {P : AV → Store → Prop}

abbrev Vs := List (Str × AV)
theorem FnOk.cast {K K' : Frag} (h : K = K') {f : Addr} {fd : FuncData} {body : List Stmt} (x : FnOk K' f fd body) : FnOk K f fd body := h ▸ x
/-- a function's frame -/
abbrev fEnv (sc : Scope) (L f : Addr) (q : Str) (cd : Value) : Env := newEnv sc L mainGlobals (cellsFrom (L + 1) sc.names []) q (some f) cd none builtinsNs

theorem Fn_at (ok : C.Ok) {f : Addr} {fd : FuncData} {body : List Stmt} {sc : Scope} {cd : Value} (fo : FnOk C.K f fd body) (hsc : fd.scope = sc) (hcd : fd.code = cd) {k : Nat} {as : List AV} (names : List Str) (hlen : names.length = as.length)
    (hb : ∀ vs : List Value, vs.length = as.length → bindArgs fd ⟨vs, []⟩ = pure (names.zip vs))
    (hgen : sc.isGenerator = false) (hnd : names.Nodup) (hkinds : kindsOk sc names = true) (hsnd : (sc.names.map (·.1)).Nodup) (hloc : ∃ x ∈ names, sc.names.lookup x = some .local)
    (h : ∀ (A : Around) (L : Addr) (fs : List Env) (q : Str), Room A k → A.handled = none → Exs C A ⟨fEnv sc L f q cd, names.zip as, fEnv sc L f q cd :: fs⟩ σ body fun fl _ σ₁ => match fl with | .ret a => Up P a σ₁ | _ => Up P .none σ₁) :
    Fn C (k + 1) f as σ P := by
  subst hsc; subst hcd
  refine Fn_of ok fo names hlen hb hgen hnd hkinds hsnd (.inl hloc) fun A L fs env he room hh => ?_
  have e : env = fEnv fd.scope L f (fd.qualname ++ ".<locals>.") fd.code := by
    rw [he]; show newEnv _ _ fd.globals _ _ _ _ _ fd.builtins = _; rw [fo.gl, fo.bi]
  subst e
  exact h A L fs _ room hh
theorem Fn_atC (ok : C.Ok) {f : Addr} {fd : FuncData} {body : List Stmt} {sc : Scope} {cd : Value} (fo : FnOk C.K f fd body) (hsc : fd.scope = sc) (hcd : fd.code = cd) {k : Nat} {as : List AV} (names : List Str) (hlen : names.length = as.length)
    (hb : ∀ vs : List Value, vs.length = as.length → bindArgs fd ⟨vs, []⟩ = pure (names.zip vs))
    (hgen : sc.isGenerator = false) (hnd : names.Nodup) (hkinds : kindsOk sc names = true) (hsnd : (sc.names.map (·.1)).Nodup) (hloc : ∀ L : Addr, L + 1 ∈ (cellsFrom (L + 1) sc.names []).map (·.2))
    (h : ∀ (A : Around) (L : Addr) (fs : List Env) (q : Str), Room A k → A.handled = none → Exs C A ⟨fEnv sc L f q cd, names.zip as, fEnv sc L f q cd :: fs⟩ σ body fun fl _ σ₁ => match fl with | .ret a => Up P a σ₁ | _ => Up P .none σ₁) :
    Fn C (k + 1) f as σ P := by
  subst hsc; subst hcd
  refine Fn_of ok fo names hlen hb hgen hnd hkinds hsnd (.inr hloc) fun A L fs env he room hh => ?_
  have e : env = fEnv fd.scope L f (fd.qualname ++ ".<locals>.") fd.code := by
    rw [he]; show newEnv _ _ fd.globals _ _ _ _ _ fd.builtins = _; rw [fo.gl, fo.bi]
  subst e
  exact h A L fs _ room hh
end

theorem len1 {vs : List Value} (h : vs.length = 1) : ∃ a, vs = [a] := by
  match vs, h with | [a], _ => exact ⟨a, rfl⟩
theorem len2 {vs : List Value} (h : vs.length = 2) : ∃ a b, vs = [a, b] := by
  match vs, h with | [a, b], _ => exact ⟨a, b, rfl⟩
theorem len3 {vs : List Value} (h : vs.length = 3) : ∃ a b c, vs = [a, b, c] := by
  match vs, h with | [a, b, c], _ => exact ⟨a, b, c, rfl⟩
theorem len4 {vs : List Value} (h : vs.length = 4) : ∃ a b c d, vs = [a, b, c, d] := by
  match vs, h with | [a, b, c, d], _ => exact ⟨a, b, c, d, rfl⟩
theorem len5 {vs : List Value} (h : vs.length = 5) : ∃ a b c d e, vs = [a, b, c, d, e] := by
  match vs, h with | [a, b, c, d, e], _ => exact ⟨a, b, c, d, e, rfl⟩
theorem len6 {vs : List Value} (h : vs.length = 6) : ∃ a b c d e f, vs = [a, b, c, d, e, f] := by
  match vs, h with | [a, b, c, d, e, f], _ => exact ⟨a, b, c, d, e, f, rfl⟩


section
variable {C : Cx} {A : Around} {F : Fm} {σ σ' : Store} {s s' : Shared} {P : AV → Store → Prop} {PB : Bool → Store → Prop}
theorem Cx.Ok.val (ok : C.Ok) {n : Str} {v : Value} (e : nsIn C.K mainGlobals n = some (some v)) : C.mg n = some v := mg_of ok.K ok.g e
theorem Cx.Ok.non (ok : C.Ok) {n : Str} (e : nsIn C.K mainGlobals n = some none) : C.mg n = none := mg_none_of ok.K ok.g e

theorem Exs_mid {P : FP} {st : Stmt} {rest : List Stmt} (M : List (Str × AV) → Store → Prop) (h : Ex C A F σ st fun fl vars σ₁ => match fl with | .next => M vars σ₁ | fl => P fl vars σ₁) (h2 : ∀ vars σ₁, M vars σ₁ → Exs C A (F.with vars) σ₁ rest P) : Exs C A F σ (st :: rest) P :=
  Exs_cons (h.mono fun fl vars σ₁ hp => by
    cases fl with
    | next => exact h2 _ _ hp
    | brk => exact hp
    | cont => exact hp
    | ret a => exact hp)
theorem Tv.eq {t : Sem Value} {x : AV} {τ : Store} (h : Tv C A F σ t fun a σ₁ => a = x ∧ σ₁ = τ) (hP : P x τ) : Tv C A F σ t P := h.mono fun a σ₁ ⟨h1, h2⟩ => by subst h1; subst h2; exact hP
theorem upd_eq {σ : Store} {a : Addr} {o : AObj} (h : σ a = some o) : upd σ a o = σ := by
  funext b; unfold upd; split
  · rename_i e; rw [e, h]
  · rfl
theorem Ev_CallFn (ok : C.Ok) {x : Str} {np pos : Pos} {es : List Expr} {f : Addr} {j : Nat} (hg : nsIn C.K mainGlobals x = some (some (.ref f))) (keep : keepIn C.K (.ref f) = true) (room : Room A j) (hh : A.handled = none)
    (h : Sp C A F σ es fun as σ₁ => ∃ k, k ≤ j ∧ Fn C k f as σ₁ P) (hk : F.env.kindOf x = some .globalImplicit := by rfl) (hn : noStar es = true := by rfl) (hd : (x == ("__debug__" : Str)) = false := by decide) : Ev C A F σ (.Call (.Name x np) es [] pos) P :=
  Ev_Call ok (Ev_Global ok hk (ok.val hg) (a := .val (.ref f)) (fun h => .val _) ⟨.ref f, rfl, .ref keep, fun s st pos Q hQ => h s st pos Q fun as vs σ₁ s₁ h₁ => by
    obtain ⟨k, hkj, hfn⟩ := h₁
    exact hQ as vs σ₁ s₁ (hfn.on room hkj hh)⟩ hd) hn
theorem Ev_CallB (ok : C.Ok) {x : Str} {np pos : Pos} {es : List Expr} {id : String} (hg : nsIn C.K mainGlobals x = some none) (hb : bootBuiltins x = some (.builtin id)) (h : Sp C A F σ es fun as σ₁ => On C A F σ₁ as (fun vs => call (.builtin id) vs) P)
    (hx : x ≠ "__name__" := by decide) (hk : F.env.kindOf x = some .globalImplicit := by rfl) (hn : noStar es = true := by rfl) (hd : (x == ("__debug__" : Str)) = false := by decide) : Ev C A F σ (.Call (.Name x np) es [] pos) P :=
  Ev_Call ok (Ev_Builtin ok hk (ok.non hg) hb hx ⟨_, rfl, .builtin id, h⟩ hd) hn
theorem Ev_CallT (ok : C.Ok) {x : Str} {np pos : Pos} {es : List Expr} {id : String} (hg : nsIn C.K mainGlobals x = some none) (hb : bootBuiltins x = some (.type id)) (h : Sp C A F σ es fun as σ₁ => On C A F σ₁ as (fun vs => call (.type id) vs) P)
    (hx : x ≠ "__name__" := by decide) (hk : F.env.kindOf x = some .globalImplicit := by rfl) (hn : noStar es = true := by rfl) (hd : (x == ("__debug__" : Str)) = false := by decide) : Ev C A F σ (.Call (.Name x np) es [] pos) P :=
  Ev_Call ok (Ev_Builtin ok hk (ok.non hg) hb hx ⟨_, rfl, .type id, h⟩ hd) hn
end

/-- the digits' source -/
structure CS where
  p : Nat
  a : Int
def nextA (xs : List Int) (p : Nat) : Int := if h : p < xs.length then xs[p] % 999983 else 0
def refill (xs : List Int) (c : CS) (many : Int) : CS := if c.a < many then ⟨c.p + 1, nextA xs c.p⟩ else c
def take (xs : List Int) (c : CS) (many : Int) : Int × CS := let d := refill xs c many; (d.a % many, ⟨d.p, d.a / many⟩)
def cObj (xs : List Int) (c : CS) : AObj := ⟨false, [.dat (.list (xs.map .int)), .int c.p, .int c.a]⟩

theorem upd_upd (σ : Store) (a : Addr) (o o' : AObj) : upd (upd σ a o) a o' = upd σ a o' := by
  funext b; unfold upd; split <;> rfl

variable {C : Cx} {σ : Store}
set_option maxHeartbeats 4000000 in
theorem fn_take (P0 : Params) (hK : C.K = hd.heap_39 P0) (ok : C.Ok) (kf : KF C.K) {c : Addr} {xs : List Int} {st : CS} {many : Int} (hc : σ c = some (cObj xs st)) (hx : xs.length ≤ 100000) (hp : st.p ≤ 1000000) (hm : 0 < many) (hm' : many < 1000) :
    Fn C 1 350 [.obj c, .int many] σ fun r σ' => r = .int (take xs st many).1 ∧ σ' = upd σ c (cObj xs (take xs st many).2) := by
  have T := kf.T
  refine Fn_at ok (FnOk.cast hK ⟨⟨_, rfl, rfl⟩, rfl, rfl, rfl, rfl, rfl, rfl, _, _, _, _, rfl, rfl, rfl, rfl⟩) rfl rfl ["c", "many"] rfl (fun vs h => by obtain ⟨v, u, rfl⟩ := len2 h; rfl) rfl (by decide) rfl (by decide) ⟨"c", by simp, rfl⟩ fun A L fs q room hh => ?_
  dsimp only
  refine Exs_mid (fun vars σ₁ => vars = ([("c", .obj c), ("many", .int many)] : Vs) ∧ σ₁ = upd σ c (cObj xs (refill xs st many))) ?_ ?_
  · refine Ex_If (Te_Cmp (Ev_Sub (Ev_Name rfl (Ev_int (O2_item ok T (.obj hc) (by decide) rfl (by decide) (Ev_Name rfl (O2_ltI ⟨_, rfl, ?_⟩)))))))
    by_cases h : st.a < many
    · simp only [h, decide_true, if_true]
      have h2 : ∀ v : Int, upd σ c ⟨false, [AV.dat (.list (xs.map .int)), .int st.p, .int v]⟩ c = some ⟨false, [.dat (.list (xs.map .int)), .int st.p, .int v]⟩ := fun v => upd_self _ _ _
      refine Exs_cons (Ex_SetItem ok T (Tv.eq (x := .int (nextA xs st.p)) (τ := σ) ?_ (Ev_Name rfl (Ev_int ⟨c, false, _, 2, rfl, rfl, hc, by decide, by simp, by simp, ?_⟩))))
      · refine Ev_IfExp (Te_Cmp (Ev_Sub (Ev_Name rfl (Ev_int (O2_item ok T (.obj hc) (by decide) rfl (by decide)
          (Ev_CallB ok kf.nlen rfl (Sp_cons (Ev_Sub (Ev_Name rfl (Ev_int (O2_item ok T (.obj hc) (by decide) rfl (by decide) (Sp_nil (On_len ok T (by nofun) (.datL _) (by simp; omega) (O2_ltI ⟨_, rfl, ?_⟩))))))))))))))
        by_cases hl : st.p < xs.length
        · have hl' : (st.p : Int) < ((xs.map PyData.int).map AV.dat).length := by simp; exact hl
          simp only [hl', decide_true, if_true]
          refine Ev_Bin (Ev_Sub (Ev_Sub (Ev_Name rfl (Ev_int (O2_item ok T (.obj hc) (by decide) rfl (by decide) (Ev_Sub (Ev_Name rfl (Ev_int (O2_item ok T (.obj hc) (by decide) rfl (by decide) (O2_item (x := .int xs[st.p]) ok T (.datL _) (by omega) (by simp [hl]) (by omega) (Ev_int (O2_mod (by decide) ⟨?_, rfl⟩))))))))))))
          unfold nextA; rw [dif_pos hl]
        · have hl' : ¬ (st.p : Int) < ((xs.map PyData.int).map AV.dat).length := by simp; omega
          simp only [hl', decide_false, Bool.false_eq_true, if_false]
          refine Ev_int ⟨?_, rfl⟩
          unfold nextA; rw [dif_neg hl]
      · refine Exs_cons (Ex_SetItem ok T (Ev_Bin (Ev_Sub (Ev_Name rfl (Ev_int (O2_item ok T (.obj (h2 _)) (by decide) rfl (by decide) (Ev_int (O2_add (Ev_Name rfl (Ev_int ⟨c, false, _, 1, rfl, rfl, h2 _, by decide, by simp, by simp, ?_⟩))))))))))
        refine Exs_nil ⟨rfl, ?_⟩
        rw [upd_upd]
        unfold refill
        rw [if_pos h]
        rfl
    · simp only [h, decide_false, Bool.false_eq_true, if_false]
      refine Exs_nil ⟨rfl, ?_⟩
      unfold refill
      rw [if_neg h, upd_eq hc]
  · rintro vars σ₁ ⟨rfl, hσ⟩
    have h1 : σ₁ c = some ⟨false, [.dat (.list (xs.map .int)), .int (refill xs st many).p, .int (refill xs st many).a]⟩ := by rw [hσ, upd_self]; rfl
    refine Exs_cons (Ex_Assign (.inl rfl) (Ev_Bin (Ev_Sub (Ev_Name rfl (Ev_int (O2_item ok T (.obj h1) (by decide) rfl (by decide) (Ev_Name rfl (O2_mod hm ?_))))))))
    refine Exs_cons (Ex_SetItem ok T (Ev_Bin (Ev_Sub (Ev_Name rfl (Ev_int (O2_item ok T (.obj h1) (by decide) rfl (by decide) (Ev_Name rfl (O2_div hm hm' (Ev_Name rfl (Ev_int ⟨c, false, _, 2, rfl, rfl, h1, by decide, by simp, by simp, ?_⟩))))))))))
    refine Exs_cons (Ex_Return (Ev_Name rfl (Up.now ⟨rfl, ?_⟩)))
    rw [hσ, upd_upd]; rfl
end Mine
end

section
open PySem PySem.W PyProof.Rows PySem.Calls PySem.SeqAt
set_option Elab.async false
set_option maxRecDepth 100000
set_option linter.unusedVariables false
namespace Mine
section
variable {C : Cx} {A : Around} {F : Fm} {σ σ' : Store} {s s' : Shared} {P : AV → Store → Prop} {PB : Bool → Store → Prop}

theorem Ev_Attr {o : Expr} {attr : Str} {pos : Pos} (h : Ev C A F σ o fun a σ₁ => O1 C A F σ₁ a (fun v => getAttr v attr true) P) (hbase : attributeBase o attr F.env (eval o F.env) = eval o F.env := by rfl) : Ev C A F σ (.Attribute o attr pos) P := fun s st Q hQ => by
  show wpAny C.M A (eval (.Attribute o attr pos) F.env) Q NoE s
  rw [arm_eval_Attribute, hbase]
  refine wpAny_bind (h s st _ fun a v σ₁ s₁ h₁ st₁ r₁ e₁ => ?_)
  refine wpAny_bind (wpAny_standAt (wpAny_bind (wpAny_holding (h₁ s₁ v st₁ r₁ _ fun c w σ₂ s₂ h₂ st₂ r₂ e₂ => ?_))))
  exact wpAny_bind (wpAny_letTemporaryGo (wpAny_pure (hQ c w σ₂ s₂ h₂ st₂ r₂ (e₁.trans e₂))))

theorem O1_slot (ok : C.Ok) (kf : KF C.K) {c : Int} {x : Str} {attr : Str} {p : Addr} {i : Nat} {b : AV} (hf : ∀ od k, od.data = Data.dict #[] k → findObj C.K TagC (some od) attr = some (.bind (.builtin "member_descriptor.__get__") (.ref p))) (hp : slotIn C.K p TagC = some i)
    (hi : (i = 0 ∧ b = .int c) ∨ (i = 1 ∧ b = .str x)) (hP : P b σ) : O1 C A F σ (.tag c x) (fun v => getAttr v attr true) P := fun s v st r Q hQ => by
  obtain ⟨a, d, tc, tx, od, k, rfl, h1, h2, h3, h4⟩ := r.tag_inv
  obtain ⟨st2, e2⟩ := st.tok (s.toks + 1)
  refine get_bind (st.K ok) (tagInst h2 h3) kf.ga (hf od k h4) kf.pt.gt (wpAny_call ?_)
  rcases hi with ⟨rfl, rfl⟩ | ⟨rfl, rfl⟩
  · exact slot_get (s := { s with toks := s.toks + 1 }) (st2.K ok) (tagInst h2 h3) hp (v := .int c tc) rfl (handed_on rfl (hQ _ _ _ _ hP st2 (.int _ _) e2))
  · exact slot_get (s := { s with toks := s.toks + 1 }) (st2.K ok) (tagInst h2 h3) hp (v := .str x tx) rfl (handed_on rfl (hQ _ _ _ _ hP st2 (.str _ _) e2))
end

section
variable {C : Cx} {σ : Store} {c : Int} {x : Str}
theorem fn_code (P0 : Params) (hK : C.K = hd.heap_39 P0) (ok : C.Ok) (kf : KF C.K) : Fn C 1 82 [.tag c x] σ fun r σ' => r = .int c ∧ σ' = σ := by
  obtain ⟨p, hf, hp⟩ := kf.scode
  refine Fn_at ok (FnOk.cast hK ⟨⟨_, rfl, rfl⟩, rfl, rfl, rfl, rfl, rfl, rfl, _, _, _, _, rfl, rfl, rfl, rfl⟩) rfl rfl ["self"] rfl (fun vs h => by obtain ⟨v, rfl⟩ := len1 h; rfl) rfl (by decide) rfl (by decide) ⟨"self", by simp, rfl⟩ fun A L fs q room hh => ?_
  dsimp only
  exact Exs_cons (Ex_Return (Ev_Attr (Ev_Name rfl (O1_slot ok kf hf hp (.inl ⟨rfl, rfl⟩) (Up.now ⟨rfl, rfl⟩)))))
theorem fn_value (P0 : Params) (hK : C.K = hd.heap_39 P0) (ok : C.Ok) (kf : KF C.K) : Fn C 1 90 [.tag c x] σ fun r σ' => r = .str x ∧ σ' = σ := by
  obtain ⟨p, hf, hp⟩ := kf.svalue
  refine Fn_at ok (FnOk.cast hK ⟨⟨_, rfl, rfl⟩, rfl, rfl, rfl, rfl, rfl, rfl, _, _, _, _, rfl, rfl, rfl, rfl⟩) rfl rfl ["self"] rfl (fun vs h => by obtain ⟨v, rfl⟩ := len1 h; rfl) rfl (by decide) rfl (by decide) ⟨"self", by simp, rfl⟩ fun A L fs q room hh => ?_
  dsimp only
  exact Exs_cons (Ex_Return (Ev_Attr (Ev_Name rfl (O1_slot ok kf hf hp (.inr ⟨rfl, rfl⟩) (Up.now ⟨rfl, rfl⟩)))))
end

section
variable {C : Cx} {A : Around} {F : Fm} {σ σ' : Store} {s s' : Shared} {P : AV → Store → Prop} {PB : Bool → Store → Prop} {c : Int} {x : Str}
theorem O1_code (P0 : Params) (hK : C.K = hd.heap_39 P0) (ok : C.Ok) (kf : KF C.K) {j : Nat} (room : Room A (j + 2)) (hh : A.handled = none) (hP : P (.int c) σ) : O1 C A F σ (.tag c x) (fun v => getAttr v "code" true) P := fun s v st r Q hQ => by
  obtain ⟨p, rest, hf, hp⟩ := kf.pcode
  obtain ⟨a, d, tc, tx, od, k, rfl, h1, h2, h3, h4⟩ := r.tag_inv
  refine getProp ok kf.ga kf.pt (j := j + 1) room (Nat.le_add_left 1 j) hh hf hp (fn_code P0 hK ok kf) st r (tc := tc) (tx := tx) fun b w σ' s' hp' st' r' e' => ?_
  obtain ⟨rfl, rfl⟩ := hp'
  obtain ⟨tk, rfl⟩ := r'.int_inv
  exact ⟨rfl, hQ _ _ _ _ hP st' r' e'⟩
theorem O1_value (P0 : Params) (hK : C.K = hd.heap_39 P0) (ok : C.Ok) (kf : KF C.K) {j : Nat} (room : Room A (j + 2)) (hh : A.handled = none) (hP : P (.str x) σ) : O1 C A F σ (.tag c x) (fun v => getAttr v "value" true) P := fun s v st r Q hQ => by
  obtain ⟨p, rest, hf, hp⟩ := kf.pvalue
  obtain ⟨a, d, tc, tx, od, k, rfl, h1, h2, h3, h4⟩ := r.tag_inv
  refine getProp ok kf.ga kf.pt (j := j + 1) room (Nat.le_add_left 1 j) hh hf hp (fn_value P0 hK ok kf) st r (tc := tc) (tx := tx) fun b w σ' s' hp' st' r' e' => ?_
  obtain ⟨rfl, rfl⟩ := hp'
  obtain ⟨tk, rfl⟩ := r'.str_inv
  exact ⟨rfl, hQ _ _ _ _ hP st' r' e'⟩
end

def Agr (σ σ' : Store) : Prop := ∀ b, σ b ≠ none → σ' b = σ b
theorem Agr.refl (σ : Store) : Agr σ σ := fun _ _ => rfl
theorem Agr.sub {σ σ' : Store} (x : Agr σ σ') : Sub σ σ' := fun b => by
  by_cases h : σ b = none
  · exact .inl h
  · exact .inr (x b h).symm
theorem Agr.loc {σ σ' σ'' : Store} (x : Agr σ σ') (h : ∀ a, σ a ≠ none → σ'' a = σ' a) : Agr σ σ'' := fun b hb => (h b hb).trans (x b hb)
theorem Agr.get {σ σ' : Store} {a : Addr} {o : AObj} (x : Agr σ σ') (h : σ a = some o) : σ' a = some o := (x a (by rw [h]; simp)).trans h

/-- the abstract tags of a list of pairs -/
abbrev Pr := Int × Str
def tagsOf (l : List Pr) : List AV := l.map fun p => .tag p.1 p.2
def prD (p : Pr) : PyData := .tuple [.int p.1, .str p.2]
def datsOf (l : List Pr) : List AV := l.map fun p => .dat (prD p)

section
variable {C : Cx} {σ : Store}
/-- _law_pairs -/
theorem fn_pairs (P0 : Params) (hK : C.K = hd.heap_39 P0) (ok : C.Ok) (kf : KF C.K) {a : Addr} {l : List Pr} (ha : σ a = some ⟨true, tagsOf l⟩) (hl : l.length ≤ 1000) : Fn C 4 355 [.obj a] σ fun r σ' => r = .dat (.list (l.map prD)) ∧ σ' = σ := by
  have T := kf.T
  refine Fn_at ok (FnOk.cast hK ⟨⟨_, rfl, rfl⟩, rfl, rfl, rfl, rfl, rfl, rfl, _, _, _, _, rfl, rfl, rfl, rfl⟩) rfl rfl ["rows"] rfl (fun vs h => by obtain ⟨v, rfl⟩ := len1 h; rfl) rfl (by decide) rfl (by decide) ⟨"rows", by simp, rfl⟩ fun A L fs q room hh => ?_
  dsimp only
  refine Exs_cons (Ex_Return (Ev_ListComp ok T hh (cl := []) ⟨rfl, rfl, by decide, by simp⟩ (y := "one") rfl (Ev_Name rfl ⟨tagsOf l, fun i outs σ' => outs = (datsOf l).take i ∧ Agr σ σ', ⟨.seq (by nofun) (.tags ha), LetOk_Name, by simp [tagsOf]; omega, ⟨rfl, .refl _⟩, fun i outs σ' σ'' h hag => ⟨h.1, h.2.loc hag⟩, fun i outs σ' h => .seq (by nofun) (.tags (h.2.get ha)), ?_⟩, ?_⟩)))
  · rintro D i v hv outs σ' ⟨rfl, h2⟩ hdm
    obtain ⟨p, hp, rfl⟩ : ∃ p, l[i]? = some p ∧ .tag p.1 p.2 = v := by
      simpa [tagsOf] using hv
    refine ⟨_, true, CAsg_Name rfl, Ti_nil ⟨rfl, rfl⟩, fun _ => ?_, nofun⟩
    refine Ev_Tuple (Sp_cons (Ev_Attr (Ev_Name rfl (O1_code P0 hK ok kf (j := 1) room hh (Sp_cons (Ev_Attr (Ev_Name rfl (O1_value P0 hK ok kf (j := 1) room hh (Sp_nil ⟨[.int p.1, .str p.2], rfl, by simp, fun _ _ _ => rfl, hdm, ?_, h2⟩)))))))))
    rw [List.take_add_one]
    simp [datsOf, hp, prD]
  · rintro D outs σ' hD ⟨rfl, h2⟩ hD'
    refine Up.froze (ds := l.map prD) ⟨rfl, rfl⟩ h2.sub ?_ hD
    rw [hD', List.take_of_length_le (by simp [tagsOf, datsOf])]
    simp [datsOf, Function.comp_def]
end
end Mine
end

section
open PySem PySem.W PyProof.Rows PySem.Calls PySem.SeqAt
set_option Elab.async false
set_option maxRecDepth 100000
set_option maxHeartbeats 4000000
set_option linter.unusedVariables false
namespace Mine

def makesL (K : Frag) (c : Addr) : Bool := match K.lookup c with
  | some ⟨_, _, .cls cd, sl⟩ => !cd.abstract && !cd.hasDel && (sl.toList[4]?).join == some (.builtin "list.__new__") && !cd.mro.isEmpty && cd.mro.contains (.ref c) && cd.mro.contains (.type "list") &&
      specialIn K (.ref c) "__call__" == some (some (.builtin "type.__call__")) && instIn K (.ref c) (.type "type") == some true && findIn K (.ref c) "__init__" == some (some (.builtin "list.__init__"))
  | _ => false

structure MakesL (M : Model) (h : Heap) (c : Addr) : Prop where
  obj : ∃ oc od cd sl, h.get? c = some ⟨oc, od, .cls cd, sl⟩ ∧ cd.abstract = false ∧ cd.hasDel = false ∧ cd.mro.isEmpty = false
  made : Looks M h (Bind.madeBy (.ref c)) (some "list.__new__")
  base : Looks M h (Bind.staticBase (.ref c)) (.ref c)
  self : Looks M h (isSubtype (.ref c) (.ref c)) true
  top : Looks M h (isSubtype (.ref c) (.type "list")) true
  call : Looks M h (specialOf (.ref c) "__call__") (some (.builtin "type.__call__"))
  typ : Looks M h (isInstance (.ref c) (.type "type")) true
  init : Looks M h (typeLookup (.ref c) "__init__") (some (.builtin "list.__init__"))

theorem makesL_of {K : Frag} {M : Model} {h : Heap} (X : K.In h) {c : Addr} (e : makesL K c = true) : MakesL M h c := by
  unfold makesL at e
  split at e
  · rename_i oc od cd sl ho
    simp only [Bool.and_eq_true, Bool.not_eq_true', beq_iff_eq] at e
    obtain ⟨⟨⟨⟨⟨⟨⟨⟨e1, e2⟩, e3⟩, e4⟩, e5⟩, e6⟩, e7⟩, e8⟩, e9⟩ := e
    have hc : clsIn K c = some cd := by unfold clsIn; rw [ho]
    have hm : Looks M h (mroOf (.ref c)) cd.mro := (looks_clsIn X hc).andThen .now
    obtain ⟨c', l, hl⟩ : ∃ c l, cd.mro = c :: l := by cases q : cd.mro with | nil => rw [q] at e4; cases e4 | cons c l => exact ⟨c, l, rfl⟩
    have made : Looks M h (Bind.madeBy (.ref c)) (some "list.__new__") := by
      intro A Q E s k q
      unfold Bind.madeBy
      refine wpAny_bind (hm A _ E s k ?_)
      rw [hl, List.forIn_cons]
      refine wpAny_bind (wpAny_bind (wpAny_bind (wpAny_bind (wpAny_loadPart (k _ _ (X _ _ ho)) (wpAny_pure ?_)))))
      dsimp only
      rw [← Array.getElem?_toList, e3]
      exact wpAny_pure (wpAny_pure (wpAny_pure q))
    refine ⟨⟨oc, od, cd, sl, X _ _ ho, e1, e2, e4⟩, made, ?_, looks_mroIn X ?_, looks_mroIn X ?_, looks_specialIn X e7, looks_instIn X e8, looks_findIn X e9⟩
    · intro A Q E s k q
      unfold Bind.staticBase
      refine wpAny_bind (hm A _ E s k ?_)
      rw [hl, List.forIn_cons]
      exact wpAny_bind (wpAny_bind (wpAny_bind (made A _ E s k (wpAny_pure (wpAny_pure (wpAny_pure q))))))
    · unfold mroIn; rw [hc, Option.bind_some, if_neg (by rw [e4]; decide), e5]
    · unfold mroIn; rw [hc, Option.bind_some, if_neg (by rw [e4]; decide), e6]
  · cases e

theorem ln_split : splitId "list.__new__" = some ("list", "__new__") := by decide +kernel
theorem ln_kind : builtinKind "list.__new__" = some .builtinFn := by decide +kernel
abbrev tagsObj (c d : Addr) : Obj := { cls := .ref c, dict := some d, data := .seq #[] }

section
variable {prog : Program} {w : World} {A : Around} {K : Frag} {c : Addr} {R : Result → Shared → Prop} {h : Heap} {g : Array GenState} {d : Drawn} {t : Nat} {os : OsState}

theorem ln_args1 (c : Addr) : argsOk "list.__new__" ⟨[.ref c], []⟩ := by
  unfold argsOk; rw [signature?_of (id := "list.__new__") (n := ['_', '_', 'w', 'e', 'n', '_', '_']) (o := ['t', 's', 'i', 'l']) (by kernel_rfl) PySem.F.owner_list]; kernel_rfl
theorem ln_args2 (c : Addr) (a : Value) : argsOk "list.__new__" ⟨[.ref c, a], []⟩ := by
  unfold argsOk; rw [signature?_of (id := "list.__new__") (n := ['_', '_', 'w', 'e', 'n', '_', '_']) (o := ['t', 's', 'i', 'l']) (by kernel_rfl) PySem.F.owner_list]; kernel_rfl
theorem li_args1 (a : Value) : argsOk "list.__init__" ⟨[a], []⟩ := by
  unfold argsOk; rw [signature?_of (id := "list.__init__") (n := ['_', '_', 't', 'i', 'n', 'i', '_', '_']) (o := ['t', 's', 'i', 'l']) (by kernel_rfl) PySem.F.owner_list]; kernel_rfl

theorem new_L {rest : List Value} (Y : MakesL (model prog w) h c) (ha : argsOk "list.__new__" ⟨.ref c :: rest, []⟩)
    (hq : R (.ok (.ret (.ref (h.objs.size + 1)))) ⟨(h.push emptyDict).push (tagsObj c h.objs.size), g, d, t, os⟩) :
    codeAny (model prog w) A (.call (.builtin "list.__new__") ⟨.ref c :: rest, []⟩) R ⟨h, g, d, t, os⟩ := by
  obtain ⟨⟨oc, od, cd, sl, hC, e1, e2, e4⟩, made, base, self, top, call, typ, init⟩ := Y
  refine codeAny_call_builtin_code (Code.quiet_builtin _ (by decide +kernel)) ?_
  simp only [checkBuiltinCall, ln_kind, ln_split]
  rw [if_pos (by decide)]

  have ty : Looks (model prog w) h (isType (.ref c)) true := (Looks.ld hC).andThen .now
  repeat (first | simp only [bne_self_eq_false, Bool.not_true, Bool.false_eq_true, if_false] | lk)
  refine codeAny_builtin_stack PySem.F.entry_list_new rfl fun p st => ?_
  rw [Around.under_plainId PySem.F.plain_list_new _]
  simp only [owner_list_new]
  repeat (first | simp only [bne_self_eq_false, Bool.not_true, Bool.false_eq_true, if_false] | lk)
  refine wpAny_load (Heap.get?_push_of_some _ (Heap.get?_push_of_some _ hC)) (wpAny_pure ?_)
  rw [e2]
  refine wpAny_pure (wpAny_pure ?_)
  show R _ _
  rw [Heap.size_push]
  exact hq

/-- a new object of class Tags -/
theorem make_L {rest : List Value} (Y : MakesL (model prog w) h c) (ha : argsOk "list.__new__" ⟨.ref c :: rest, []⟩)
    (hq : codeAny (model prog w) (A.under (.builtin "type.__call__" ⟨.ref c :: rest, []⟩)) (.call (.builtin "list.__init__") ⟨.ref (h.objs.size + 1) :: rest, []⟩) (InitBack (h.objs.size + 1) R) ⟨(h.push emptyDict).push (tagsObj c h.objs.size), g, d, t, os⟩) :
    codeAny (model prog w) A (.call (.ref c) ⟨rest, []⟩) R ⟨h, g, d, t, os⟩ := by
  have Y' := Y
  obtain ⟨⟨oc, od, cd, sl, hC, e1, e2, e4⟩, made, base, self, top, call, typ, init⟩ := Y
  refine codeAny_of_tree ?_
  show wpAny _ _ (callAny (.ref c) _) _ _ _
  refine nd_load hC ?_
  show wpAny _ _ (callAny.viaDunder (.ref c) _) _ _ _
  unfold callAny.viaDunder
  refine wpAny_bind (call.at ?_)
  dsimp only
  rw [tc_bind]
  refine wpAny_bind (wpAny_pure (wpAny_bind (wpAny_pure ?_)))
  refine wpAny_pure (a := Fin.again (.call (.builtin "type.__call__") ⟨.ref c :: rest, []⟩)) (And.intro rfl ?_)
  refine codeAny_call_builtin_at (Code.quiet_builtin _ (by decide +kernel)) entry_typeCall (check_slot tc_kind tc_split typ (tc_args _ _ _) ?_)
  unfold Builtin.«type.__call__»
  have hm : Looks (model prog w) h (mroOf (.ref c)) cd.mro := ((Looks.ld (part := none) hC).andThen .now).andThen .now
  repeat (first | simp only [e4, Bool.false_eq_true, if_false] | with_reducible refine wpAny_call ?_ | lk)
  refine new_L Y' ha ?_
  have k : ∀ b o, h.get? b = some o → ((h.push emptyDict).push (tagsObj c h.objs.size)).get? b = some o := fun b o e => Heap.get?_push_of_some _ (Heap.get?_push_of_some _ e)
  have hx : ((h.push emptyDict).push (tagsObj c h.objs.size)).get? (h.objs.size + 1) = some (tagsObj c h.objs.size) := by heap_get
  have t1 : Looks (model prog w) ((h.push emptyDict).push (tagsObj c h.objs.size)) (typeOf (.ref (h.objs.size + 1))) (.ref c) := (Looks.ld hx).andThen .now
  have s1 := self.keeps k
  have i1 := init.keeps k
  have b1 : Looks (model prog w) ((h.push emptyDict).push (tagsObj c h.objs.size)) (bindSpecial (.builtin "list.__init__") (.ref (h.objs.size + 1))) (.builtin "list.__init__", [.ref (h.objs.size + 1)]) := Looks.of_pure (PySem.F.slot_list_init.bind _)
  unfold isInstance callSpecial? specialOf
  repeat (first | with_reducible refine wpAny_call ?_ | lk)
  refine codeAny_mono hq fun r s' z => ?_
  rcases r with e | (v | _ | _ | _) <;> first | exact z | exact z.elim | skip
  obtain ⟨rfl, z⟩ := z
  exact wpAny_pure (wpAny_pure z)
end
end Mine
end

section
open PySem PySem.W PyProof.Rows PySem.Calls PySem.SeqAt
set_option Elab.async false
set_option maxRecDepth 100000
set_option linter.unusedVariables false
namespace Mine

/-- the store of a generator expression: nothing moves -/
def E0 : Store := fun _ => none
theorem E0_sub (σ : Store) : Sub E0 σ := fun _ => .inl rfl

section
variable {C : Cx} {A A' : Around} {F : Fm} {σ σ' : Store} {s s' : Shared}

theorem St.gen {ce : Env} {vars : List (Str × AV)} (x : St C A ⟨ce, vars, F.fs⟩ σ s) (hA : A'.frames = some (ce :: F.fs)) (hf : ce.frame = some ce.locals) : St C A' ⟨ce, vars, ce :: F.fs⟩ σ s := by
  obtain ⟨m, n, _⟩ := id x.ns
  have hk : ce.scope.kind = .function := x.kind
  exact { x with
    stack := hA
    ff := Heap.FunFrames.cons (by rw [hk]; decide) hf n x.lB x.ff
    fd := fun b hb => by
      unfold Fm.frs at hb
      rw [List.filterMap_cons, hf] at hb
      rcases List.mem_cons.mp hb with rfl | hb
      · obtain ⟨o, es, ep, ho, hd, _⟩ := n
        exact ⟨o, es, ep, ho, hd⟩
      · exact x.fd b hb }
theorem St.ungen {ce : Env} {vars : List (Str × AV)} (x : St C A' ⟨ce, vars, ce :: F.fs⟩ σ s) (hA : A.frames = some F.fs) : St C A ⟨ce, vars, F.fs⟩ σ s :=
  { x with
    stack := hA
    ff := x.ff.2.2
    fd := fun b hb => x.fd b (by
      unfold Fm.frs at hb ⊢
      rw [List.filterMap_cons]
      split
      · exact hb
      · exact List.mem_cons_of_mem _ hb) }
theorem Step.unfr {B : Heap} {ce : Env} {vars vars' : List (Str × AV)} {env : Env} {fs : List Env} {S S' : List Addr} (hf : ce.frame = some ce.locals) (x : Step B (Fm.mk ce vars (ce :: fs)).frs S σ σ' s s') (hS : ∀ b ∈ S, b ∈ S') (hl : ce.locals ∈ S') : Step B (Fm.mk env vars' fs).frs S' σ σ' s s' where
  k b o e h1 h2 h3 h4 := x.k b o e h1 (fun q => h2 (hS b q)) h3 (h4.imp (fun h q => by
    unfold Fm.frs at q
    rw [List.filterMap_cons, hf] at q
    rcases List.mem_cons.mp q with rfl | q
    · exact h2 hl
    · exact h q) id)
  f b o es n e h1 h2 h3 := x.f b o es n e h1 (fun q => h2 (hS b q)) h3
  t b ps e h1 h2 := x.t b ps e h1 (fun q => h2 (hS b q))
  dom := x.dom
  sz := x.sz
  gens := x.gens

/-- a step seen from a larger store -/
theorem Step.big {B : Heap} {Fs S : List Addr} {σ0 : Store} (x : Step B Fs S σ0 σ0 s s') (sub : Sub σ0 σ) : Step B Fs S σ σ s s' where
  k b o e h1 := x.k b o e (sub.none h1)
  f b o es n e h1 := x.f b o es n e (sub.none h1)
  t b ps e h1 := x.t b ps e (sub.none h1)
  dom _ _ h := h
  sz := x.sz
  gens := x.gens

theorem ItList {h : Heap} {it l : Addr} {i : Nat} (q : h.IsListIter it l i) : ItObj h it := by
  obtain ⟨o, ho, hc, hd⟩ := q; exact ⟨o, ho, ⟨_, hd⟩, by rw [hc]; decide, by rw [hc]; decide⟩

theorem listNext (x : St C A F σ s) {A₂ : Around} {it l : Addr} {i : Nat} {vs : Array Value} {n : Nat} {o : Obj} (hB : C.B.get? it = none) (q : s.heap.IsListIter it l i) (hol : s.heap.get? l = some o) (hd : o.data = .seq vs n) {v : Value} (hv : vs[i]? = some v) {Q : Option Value → Shared → Prop}
    (hQ : ∀ s', St C A F σ s' → Step C.B F.frs [it] σ σ s s' → s'.heap.IsListIter it l (i + 1) → (∀ b o, b ≠ it → s.heap.get? b = some o → s'.heap.get? b = some o) → FirstNew s.heap s'.heap → Q (some v) s') : wpAny C.M A₂ (pyNext (.ref it)) Q NoE s := by
  refine tg_pyNext q hol hd hv fun h' hit' hs => ?_
  obtain ⟨st, stp⟩ := x.touch (ItList q) hB (tk := s.toks) (fun b o hb e => (hs.2 b hb).trans e) (Nat.le_of_eq hs.1.symm)
  exact hQ _ st stp hit' (fun b o hb e => (hs.2 b hb).trans e) (.inl hs.1)
theorem listStop (x : St C A F σ s) {A₂ : Around} (hh : A₂.handled = none) {it l : Addr} {i : Nat} {vs : Array Value} {n : Nat} {o : Obj} (hB : C.B.get? it = none) (q : s.heap.IsListIter it l i) (hol : s.heap.get? l = some o) (hd : o.data = .seq vs n) (hv : vs[i]? = none) {Q : Option Value → Shared → Prop}
    (hQ : ∀ s', St C A F σ s' → Step C.B F.frs [it] σ σ s s' → (∀ b o, b ≠ it → s.heap.get? b = some o → s'.heap.get? b = some o) → FirstNew s.heap s'.heap → Q none s') : wpAny C.M A₂ (pyNext (.ref it)) Q NoE s := by
  refine tg_pyNext_end hh q hol hd hv fun h' hs hz ⟨ot, hot, hct⟩ => ?_
  obtain ⟨st, stp⟩ := x.touch (ItList q) hB (tk := s.toks) (fun b o hb e => hs b o hb e) hz
  exact hQ _ st stp (fun b o hb e => hs b o hb e) (.inr ⟨ot, hot, .inl fun c => by rw [hct]; nofun⟩)

/-- one turn of a generator expression -/
def GTurn (C : Cx) (A A' : Around) (F : Fm) (ce : Env) (cvars : List (Str × AV)) (target elt : Expr) (ifs : List Expr) (pz : Bool) (a r : AV) : Prop :=
  ∃ vars, (∀ s v, CFr C A F E0 s ce [ce.locals] cvars → Rel E0 s.heap a v → ∀ Q : Unit → Shared → Prop, (∀ s', St C A ⟨ce, vars, F.fs⟩ E0 s' → Step C.B F.frs [ce.locals] E0 E0 s s' → Q () s') → wpAny C.M A' (assign target ce v) Q NoE s) ∧
    Ti C A' ⟨ce, vars, ce :: F.fs⟩ E0 ifs (fun q σ'' => q = pz ∧ σ'' = E0) ∧
    (pz = true → Ev C A' ⟨ce, vars, ce :: F.fs⟩ E0 elt fun b σ'' => b = r ∧ σ'' = E0)

/-- the generator's own objects -/
def GSok (h : Heap) (it L : Addr) : Prop := ItObj h it ∧ ∃ o es k, h.get? L = some o ∧ o.data = .dict es k ∧ es ≠ #[]
theorem GSok.sok {h : Heap} {it L : Addr} (x : GSok h it L) : SOk h [it, L] := fun b hb => by
  obtain ⟨⟨oi, hoi, hdi, hci, _⟩, o, es, k, ho, hd, hne⟩ := x
  rcases List.mem_cons.mp hb with rfl | hb
  · exact ⟨oi, hoi, .inr (.inr ⟨hdi, hci⟩)⟩
  · rcases List.mem_cons.mp hb with rfl | hb
    · exact ⟨o, ho, .inl ⟨es, k, hd, .inl fun o' es' k' ho' hd' => by rw [ho] at ho'; cases ho'; rw [hd] at hd'; cases hd'; exact hne⟩⟩
    · cases hb
theorem GSok.keep {h h' : Heap} {it L : Addr} (x : GSok h it L) (hk : ∀ b ∈ [it, L], ∀ o, h.get? b = some o → h'.get? b = some o) : GSok h' it L := by
  obtain ⟨⟨oi, hoi, r⟩, o, es, k, ho, r2⟩ := x
  exact ⟨⟨oi, hk _ List.mem_cons_self _ hoi, r⟩, o, es, k, hk _ (List.mem_cons_of_mem _ List.mem_cons_self) _ ho, r2⟩
theorem GSok.of {h : Heap} {it l : Addr} {ce : Env} {i : Nat} {m : Str → Option Value} (q : h.IsListIter it l i) (n : h.Ns ce.locals m) (hne : NsNe ce m) (hcl : ∀ p ∈ ce.cells, p.2 < ce.locals) : GSok h it ce.locals := by
  refine ⟨ItList q, ?_⟩
  obtain ⟨o, es, ep, ho, hd, hk, hf⟩ := n
  refine ⟨o, es, ep, ho, hd, fun he => ?_⟩
  rcases hne with ⟨y, v, hy⟩ | hc
  · subst he
    rw [← hf y] at hy
    simp [nsFind, findBy] at hy
  · obtain ⟨p, hp, e⟩ := List.mem_map.mp hc
    have := hcl p hp
    rw [e] at this
    exact absurd this (Nat.not_lt.mpr (Nat.le_succ _))

/-- the protocol: what a yield tells -/
def gProto (C : Cx) (A : Around) (F : Fm) (ce : Env) (it : Addr) (pz : Nat → Bool) (ov : Nat → AV) (n : Nat) (s₄ : Shared) : Protocol := fun m s₀ v s kap =>
  (∃ i, (passing pz n 0)[(passing pz n 0).length - 1 - m]? = some i ∧ Rel E0 s.heap (ov i) v) ∧ St C A F E0 s ∧ Step C.B F.frs [it, ce.locals] E0 E0 s₀ s ∧ GSok s.heap it ce.locals ∧
    ∀ s'', St C A F E0 s'' → Step C.B F.frs [it, ce.locals] E0 E0 s₄ s'' → (∀ b ∈ [it, ce.locals], ∀ o, s.heap.get? b = some o → s''.heap.get? b = some o) → kap (.send .none) s''
def gEnd (C : Cx) (A : Around) (F : Fm) (ce : Env) (it : Addr) (n : Nat) (s₀ s : Shared) : Prop := n = 0 ∧ St C A F E0 s ∧ Step C.B F.frs [it, ce.locals] E0 E0 s₀ s

theorem gen_frames {A : Around} {e : Expr} {it : Value} {ce : Env} (hst : A.frames = some F.fs) (hg : ∃ elt gs sc p, e = .GeneratorExp elt gs sc p) :
    (A.over (.compLoop e 0 it .none ce) []).frames = some (ce :: F.fs) := by
  obtain ⟨elt, gs, sc, p, rfl⟩ := hg
  show pushEnvs [ce] (pushEnvs [] A.frames) = _
  rw [hst]; rfl

/-- the frame's facts, from the time the generator was made -/
theorem CFr.from {ce : Env} {cvars : List (Str × AV)} {s₄ : Shared} {it : Addr} (x : CFr C A F E0 s₄ ce [ce.locals] cvars) (hit : ItObj s₄.heap it) (st : St C A F E0 s) (e : Step C.B F.frs [it, ce.locals] E0 E0 s₄ s) {m : Str → Option Value} (hn : s.heap.Ns ce.locals m) (hne : NsNe ce m) : CFr C A F E0 s ce [ce.locals] cvars := by
  obtain ⟨oi, hoi, ⟨wi, hdi⟩, hci, _⟩ := id hit
  have sok : SOk s₄.heap [it, ce.locals] := fun b hb => by
    rcases List.mem_cons.mp hb with rfl | hb
    · exact ⟨oi, hoi, .inr (.inr ⟨⟨wi, hdi⟩, hci⟩)⟩
    · exact x.sok b hb
  have cell : ∀ c v, c ∉ [ce.locals] → s₄.heap.IsCell c v → s.heap.IsCell c v := fun c v hc ⟨o, ho, hd⟩ =>
    ⟨o, e.k c o ho rfl (fun q => by
      rcases List.mem_cons.mp q with rfl | q
      · have := hoi.symm.trans ho; cases this; rw [hdi] at hd; cases hd
      · exact hc q) (fun ps q => by rw [q] at hd; simp [tObj] at hd) (.inr fun es n q => by rw [hd] at q; cases q), hd⟩
  have cellNot : ∀ c v, s₄.heap.IsCell c v → c ∉ [ce.locals] := fun c v ⟨o, ho, hd⟩ q => by
    obtain ⟨m', ⟨o', es, ep, ho', hd', _⟩, _⟩ := x.ns
    rcases List.mem_cons.mp q with rfl | q
    · have := ho.symm.trans ho'; cases this; rw [hd] at hd'; cases hd'
    · cases q
  exact {
    out := st
    B := x.B
    ap := x.ap
    sd := fun b hb => by
      rcases List.mem_cons.mp hb with rfl | hb
      · obtain ⟨o, es, ep, ho, hd, _⟩ := hn; exact ⟨o, ho, .inl ⟨es, ep, hd⟩⟩
      · cases hb
    loc := x.loc
    kind := x.kind
    gl := x.gl
    bi := x.bi
    sub := x.sub
    ns := ⟨m, hn, .inl hne⟩
    cells := fun p hp => ⟨(x.cells p hp).1, let ⟨_, v, hc⟩ := x.cells p hp; ⟨v, cell _ _ (cellNot _ _ hc) hc⟩⟩
    nd := x.nd
    cv := fun y a h => let ⟨c, v, h1, h2, h3, h4, h5⟩ := x.cv y a h; ⟨c, v, h1, h2, cell _ _ h5 h3, h4.step e sok, h5⟩ }
end
end Mine
end

section
open PySem PySem.W PyProof.Rows PySem.Calls PySem.SeqAt
set_option Elab.async false
set_option maxRecDepth 100000
set_option linter.unusedVariables false
namespace Mine
section
variable {C : Cx} {A : Around} {F : Fm}

theorem seg_genE (ok : C.Ok) (hh : A.handled = none) (hst : A.frames = some F.fs) {ce : Env} {cvars : List (Str × AV)} {elt target iter : Expr} {ifs : List Expr} {scope : Scope} {pos : Pos} {it l : Addr}
    (hf : ce.frame = some ce.locals) (hco : ce.scope.isCoroutine = false) {s₄ : Shared} (x₄ : CFr C A F E0 s₄ ce [ce.locals] cvars) (hit4 : ItObj s₄.heap it) (hB : C.B.get? it = none) (hitl : it < ce.locals) (hcl : ∀ p ∈ ce.cells, p.2 < ce.locals)
    {o : Obj} {n : Nat} {vs : Array Value} {xs : List AV} (hl4 : s₄.heap.get? l = some o) (hd : o.data = .seq vs n) (hvs : RelAll E0 s₄.heap xs vs.toList)
    (hlet : ∀ (s : Shared) (i : Nat) (a : AV) (v : Value), a ∈ xs → Rel E0 s.heap a v → s.heap.IsListIter it l i → ∀ Q : Unit → Shared → Prop, Q () s → wpAny C.M (A.over (.compLoop (.GeneratorExp elt [⟨target, iter, ifs, 0⟩] scope pos) 0 (.ref it) .none ce) []) (letOwnedTupleGo target (.ref it) v) Q NoE s)
    (pz : Nat → Bool) (ov : Nat → AV)
    (turn : ∀ i a, xs[i]? = some a → GTurn C A (A.over (.compLoop (.GeneratorExp elt [⟨target, iter, ifs, 0⟩] scope pos) 0 (.ref it) .none ce) []) F ce cvars target elt ifs (pz i) a (ov i)) :
    ∀ (k i : Nat) (s₀ s : Shared), xs.length - i = k → i ≤ xs.length → CFr C A F E0 s ce [ce.locals] cvars → s.heap.IsListIter it l i → Step C.B F.frs [it, ce.locals] E0 E0 s₀ s → Step C.B F.frs [it, ce.locals] E0 E0 s₄ s →
      Seg C.M A (fun n s₀ r s₁ => r = .ok .next ∧ gEnd C A F ce it n s₀ s₁) (gProto C A F ce it pz ov xs.length s₄) (passing pz xs.length i).length s₀
        (.compLoop (.GeneratorExp elt [⟨target, iter, ifs, 0⟩] scope pos) 0 (.ref it) .none ce)
        (C.M.den (.compLoop (.GeneratorExp elt [⟨target, iter, ifs, 0⟩] scope pos) 0 (.ref it) .none ce)) [] s := by
  have hA' : (A.over (.compLoop (.GeneratorExp elt [⟨target, iter, ifs, 0⟩] scope pos) 0 (.ref it) .none ce) []).frames = some (ce :: F.fs) := gen_frames hst ⟨_, _, _, _, rfl⟩
  have hh' : (A.over (.compLoop (.GeneratorExp elt [⟨target, iter, ifs, 0⟩] scope pos) 0 (.ref it) .none ce) []).handled = none := hh
  obtain ⟨oi, hoi, ⟨wi, hdi⟩, hci, hcn⟩ := id hit4
  have hlen : xs.length = vs.size := by rw [← hvs.length]; simp
  have notF : it ∉ F.frs := fun q => by
    obtain ⟨o, es, n, ho, hd⟩ := x₄.out.fd it q
    rw [hoi] at ho; cases ho; rw [hdi] at hd; cases hd
  have notO : it ∉ F.own := hit4.notOwn x₄.out
  have hBs : ∀ b ∈ [it, ce.locals], C.B.get? b = none := fun b hb => by
    rcases List.mem_cons.mp hb with rfl | hb
    · exact hB
    · exact x₄.B b hb
  have hOs : ∀ b ∈ [it, ce.locals], b ∉ F.own ∧ b ∉ F.frs := fun b hb => by
    rcases List.mem_cons.mp hb with rfl | hb
    · exact ⟨notO, notF⟩
    · exact x₄.ap b hb
  have sokOf : ∀ {s : Shared} {i : Nat}, CFr C A F E0 s ce [ce.locals] cvars → s.heap.IsListIter it l i → SOk s.heap [it, ce.locals] := fun {s i} x q b hb => by
    rcases List.mem_cons.mp hb with rfl | hb
    · obtain ⟨o, ho, hdd, hc, _⟩ := ItList q; exact ⟨o, ho, .inr (.inr ⟨hdd, hc⟩)⟩
    · exact x.sok b hb
  have sok₄ : SOk s₄.heap [it, ce.locals] := fun b hb => by
    rcases List.mem_cons.mp hb with rfl | hb
    · exact ⟨oi, hoi, .inr (.inr ⟨⟨wi, hdi⟩, hci⟩)⟩
    · exact x₄.sok b hb
  have itL : it ∈ [it, ce.locals] := List.mem_cons_self
  have loL : ce.locals ∈ [it, ce.locals] := List.mem_cons_of_mem _ List.mem_cons_self
  have subIt : ∀ b ∈ [it], b ∈ [it, ce.locals] := fun b hb => by
    rcases List.mem_cons.mp hb with rfl | hb
    · exact itL
    · cases hb
  have subLo : ∀ b ∈ [ce.locals], b ∈ [it, ce.locals] := fun b hb => List.mem_cons_of_mem _ hb
  have keepIt : ∀ {s s' : Shared} {j : Nat}, s.heap.IsListIter it l j → Step C.B F.frs [ce.locals] E0 E0 s s' → s'.heap.IsListIter it l j := fun {s s' j} ⟨oo, hoo, hcc, hdd⟩ e =>
    ⟨oo, e.k it oo hoo rfl (fun q => by
      rcases List.mem_cons.mp q with h | q
      · exact Nat.lt_irrefl _ (h ▸ hitl)
      · cases q) (fun ps q => by rw [q] at hcc; cases hcc) (.inr fun es m q => by rw [hdd] at q; cases q), hcc, hdd⟩
  have loS : ce.locals ∈ [ce.locals] := List.mem_cons_self
  intro k
  induction k with
  | zero =>
    intro i s₀ s hk hi x q e0 e4
    have hin : i = xs.length := by omega
    subst hin
    have hls : s.heap.get? l = some o := e4.k l o hl4 rfl (fun h => (SOk.not sok₄ hl4 (fun es m q => by rw [hd] at q; cases q) (fun v q => by rw [hd] at q; cases q) (fun v q => by rw [hd] at q; cases q)) h) (fun ps q => by rw [q] at hd; simp [tObj] at hd) (.inr fun es m q => by rw [hd] at q; cases q)
    show Seg C.M A _ _ _ s₀ _ ((compTurn (.GeneratorExp elt [⟨target, iter, ifs, 0⟩] scope pos) 0 (.ref it) .none ce).onRaise (leaving ce)) [] s
    rw [compTurn_gen, Sem.onRaise_eq_wrap]
    refine seg_bind_wrap (wpAny_standAt ?_)
    refine seg_bind_wrap (wpAny_noE (listStop x.out hh' hB q hls hd (by simp [hlen]) fun s₁ st₁ e₁ _ _ => ?_))
    exact seg_end (.ok .next) ⟨rfl, by rw [passing_end]; rfl, st₁, e0.trans (e₁.mono subIt)⟩
  | succ k ih =>
    intro i s₀ s hk hi x q e0 e4
    have hlt : i < xs.length := by omega
    have hls : s.heap.get? l = some o := e4.k l o hl4 rfl (fun h => (SOk.not sok₄ hl4 (fun es m q => by rw [hd] at q; cases q) (fun v q => by rw [hd] at q; cases q) (fun v q => by rw [hd] at q; cases q)) h) (fun ps q => by rw [q] at hd; simp [tObj] at hd) (.inr fun es m q => by rw [hd] at q; cases q)
    have ha : xs[i]? = some xs[i] := List.getElem?_eq_getElem hlt
    obtain ⟨v, hv, rv⟩ := hvs.get i _ ha
    obtain ⟨vars, casg, tests, helt⟩ := turn i xs[i] ha
    show Seg C.M A _ _ _ s₀ _ ((compTurn (.GeneratorExp elt [⟨target, iter, ifs, 0⟩] scope pos) 0 (.ref it) .none ce).onRaise (leaving ce)) [] s
    rw [compTurn_gen, Sem.onRaise_eq_wrap]
    refine seg_bind_wrap (wpAny_standAt ?_)
    refine seg_bind_wrap (wpAny_noE (listNext x.out hB q hls hd (v := v) (by simpa using hv) fun s₁ st₁ e₁ q₁ hk₁ hfn₁ => ?_))
    have e41 := e4.trans (e₁.mono subIt)
    have r₁ : Rel E0 s₁.heap xs[i] v := rv.step e41 sok₄
    have x₁ : CFr C A F E0 s₁ ce [ce.locals] cvars := x.ext st₁ e₁ (ItList q).sok1 (fun b hb => (ItList q).of1 hb) (fun b o hb e => hk₁ b o (fun q => hb (q ▸ List.mem_cons_self)) e) hfn₁ fun b hb => by
      rcases List.mem_cons.mp hb with rfl | hb
      · exact hitl
      · cases hb
    refine seg_bind_wrap (wpAny_noE (hlet s₁ (i + 1) xs[i] v (List.getElem_mem hlt) r₁ q₁ _ ?_))
    refine seg_bind_wrap (wpAny_noE (casg s₁ v x₁ r₁ _ fun s₂ st₂ e₂ => ?_))
    have gst₂ := st₂.gen hA' hf
    refine seg_bind_wrap (wpAny_noE (tests s₂ gst₂ _ fun qb σ₃ s₃ h₃ st₃ e₃ => ?_))
    obtain ⟨hqb, hσ₃⟩ := h₃
    rw [hσ₃] at st₃ e₃
    have e13 : Step C.B F.frs [it, ce.locals] E0 E0 s₁ s₃ := (e₂.mono subLo).trans (Step.unfr (vars' := F.vars) (env := F.env) hf e₃ (by simp) loL)
    have e03 : Step C.B F.frs [it, ce.locals] E0 E0 s s₃ := (e₁.mono subIt).trans e13
    have st₃' : St C A ⟨ce, vars, F.fs⟩ E0 s₃ := st₃.ungen hst
    have outer : ∀ {s' : Shared}, St C A ⟨ce, vars, F.fs⟩ E0 s' → Step C.B F.frs [it, ce.locals] E0 E0 s s' → CFr C A F E0 s' ce [ce.locals] cvars := fun {s'} st e => by
      obtain ⟨m, hn, hne, _⟩ := st.ns
      exact x₄.from hit4 (x.out.backS e hBs hOs (sokOf x q) st.so st.bare st.os) (e4.trans e) hn hne
    have q₃ : s₃.heap.IsListIter it l (i + 1) := keepIt q₁ (e₂.trans (Step.unfr (vars' := F.vars) (env := F.env) hf e₃ (by simp) loS))
    rw [hqb]
    cases hpz : pz i with
    | false =>
      rw [passing_false hlt hpz]
      simp only [Bool.false_eq_true, if_false]
      exact seg_again rfl (ih (i + 1) s₀ s₃ (by omega) hlt (outer st₃' e03) q₃ (e0.trans e03) (e4.trans e03))
    | true =>
      rw [passing_true hlt hpz, List.length_cons]
      simp only [if_true]
      have hy : ∀ v, yieldOut ce v = yieldValue v := fun v => by simp only [yieldOut, hco, Bool.false_eq_true, if_false]
      simp only [hy]
      rw [Sem.bind_eq_wrap', Sem.bind_eq_wrap', Sem.wrap_wrap, Sem.wrap_wrap]
      refine seg_wrap (wpAny_noE (helt hpz s₃ st₃ _ fun b y σ₅ s₅ h₅ st₅ r₅ e₅ => ?_))
      obtain ⟨hb, hσ₅⟩ := h₅
      rw [hσ₅] at st₅ e₅ r₅
      have e35 : Step C.B F.frs [it, ce.locals] E0 E0 s₃ s₅ := Step.unfr (vars' := F.vars) (env := F.env) hf e₅ (by simp) loL
      have e05 := e03.trans e35
      have st₅' : St C A ⟨ce, vars, F.fs⟩ E0 s₅ := st₅.ungen hst
      have x₅ := outer st₅' e05
      have q₅ : s₅.heap.IsListIter it l (i + 1) := keepIt q₃ (Step.unfr (vars' := F.vars) (env := F.env) hf e₅ (by simp) loS)
      refine seg_at (seg_yield rfl rfl rfl ⟨⟨i, passing_here hlt hpz, hb ▸ r₅⟩, x₅.out, e0.trans e05, (let ⟨m, n, ne, _⟩ := st₅'.ns; GSok.of q₅ n ne hcl), fun s'' st'' e'' hal => ?_⟩)
      obtain ⟨m, ⟨ob, es, ep, ho, hdd, r⟩, hnn⟩ := st₅'.ns
      have hn'' : s''.heap.Ns ce.locals m := ⟨ob, es, ep, hal _ loL _ ho, hdd, r⟩
      have q'' : s''.heap.IsListIter it l (i + 1) := let ⟨oo, hoo, h⟩ := q₅; ⟨oo, hal _ itL _ hoo, h⟩
      exact seg_again rfl (ih (i + 1) s'' s'' (by omega) hlt (x₄.from hit4 st'' e'' hn'' hnn.1) q'' (.refl ..) e'')
end
end Mine
end

section
open PySem PySem.W PyProof.Rows PySem.Calls PySem.SeqAt
set_option Elab.async false
set_option maxRecDepth 100000
set_option linter.unusedVariables false
namespace Mine

/-- a code object and its table -/
def CodeT (C : Cx) (c P : Addr) : Prop :=
  ∃ o vs file tf flags tg inF text tt, C.K.lookup c = some o ∧ o.cls = .type "code" ∧ o.data = .fields vs ∧ vs[11]? = some (.ref P) ∧ vs.getD 11 .none = .ref P ∧ vs.getD 18 .none = .str file tf ∧
    vs.getD 7 .none = .int flags tg ∧ vs.getD 9 .none = .bool inF ∧ vs.getD 10 .none = .int text tt ∧ c ≠ P ∧ C.B.get? P = some (tObj #[])

section
variable {C : Cx} {A A' : Around} {F : Fm} {σ σ' : Store} {s s' : Shared}

theorem CodeT.at_ {c P : Addr} (x : CodeT C c P) (ok : C.Ok) (st : St C A F σ s) : ∃ ps, s.heap.get? P = some (tObj ps) ∧ TriplesOk ps.toList ∧ s.heap.IsCode c P ps ∧ s.heap.TableAt c P ps ∧ isCodeTable C.B P := by
  obtain ⟨o, vs, file, tf, flags, tg, inF, text, tt, h1, h2, h3, h4, h5, h6, h7, h8, h9, h10, h11⟩ := x
  obtain ⟨more, g1, _, g3⟩ := st.bk.t P _ h11
  have hc := st.K ok _ _ h1
  have ht := g3 trivial
  have g1' : s.heap.get? P = some (tObj more) := by simpa using g1
  have ht' : TriplesOk more.toList := by simpa using ht
  exact ⟨more, g1', ht', ⟨o, vs, file, tf, flags, tg, inF, text, tt, _, hc, h3, h5, h6, h7, h8, h9, g1', rfl, ht', h10⟩, ⟨⟨o, vs, hc, h2, h3, h4⟩, g1'⟩, ⟨c, o, vs, ok.K _ _ h1, h2, h3, h4⟩⟩

theorem gcode (ok : C.Ok) {c P : Addr} (x : CodeT C c P) (st : St C A F σ s) {env : Env} (hc : env.code = .ref c) {pos : Pos} {qn : Str} {scope : Scope} {Q : Value → Shared → Prop}
    (hQ : ∀ code s', St C A F σ s' → Step C.B F.frs [] σ σ s s' → (∀ b o, b ≠ P → s.heap.get? b = some o → s'.heap.get? b = some o) → Q code s') : wpAny C.M A (genexprCode env pos qn scope) Q NoE s := by
  obtain ⟨ps, hP, htr, hcode, htab, hct⟩ := x.at_ ok st
  cases hnf : codeAmong pos ps.toList with
  | some cv =>
    obtain ⟨o, vs, file, tf, flags, tg, inF, text, tt, op, ho, hd, h11, h2, h7, h9, h10, hop, hpd, _, hne⟩ := id hcode
    unfold genexprCode codeAt
    rw [hc, if_neg (show ¬ ((Value.ref c == Value.none) = true) from Bool.false_ne_true)]
    refine wpAny_bind (wpAny_fieldsOf ho hd ?_)
    rw [h11]
    refine wpAny_bind (wpAny_fieldsOf hop hpd ?_)
    rw [hnf]
    exact wpAny_pure (hQ cv s st (.refl ..) fun _ _ _ e => e)
  | none =>
    refine wpAny_genexprCodeX hc hcode htab hnf fun c' h' tk hx hge hlt _ _ htab' _ => ?_
    have hz : s.heap.objs.size ≤ h'.objs.size := Nat.le_trans hge (Nat.le_of_lt hlt)
    have hP' : h'.get? P = some (tObj (ps ++ #[rawInt pos.line, rawInt pos.col, .ref c'])) := htab'.2
    have hσ : σ P = none := st.notStore hP (by nofun)
    have step : Step C.B F.frs [] σ σ s { s with heap := h', toks := tk } := {
      k := fun b o e _ _ hn _ => hx b o (fun q => by subst q; rw [hP] at e; cases e; exact hn ps rfl) e
      f := fun b o es n e _ _ hd => ⟨o.slots, hx b o (fun q => by subst q; rw [hP] at e; cases e; cases hd) e⟩
      t := fun b qs e _ _ => by
        by_cases q : b = P
        · subst q
          rw [hP] at e; cases e
          refine ⟨_, hP', .inr hct, fun _ => ?_⟩
          rw [Array.toList_append]
          exact TriplesOk_snoc _ _ _ _ htr
        · exact ⟨#[], (by rw [Array.append_empty]; exact hx b _ q e), .inl rfl, by simp⟩
      dom := fun _ _ h => h
      sz := hz
      gens := Nat.le_refl _ }
    refine hQ _ _ (st.move (fun b o e hf => hx b o (fun q => by subst q; rw [hP] at e; cases e; exact hf _ rfl) e) (st.bkStep step (by simp)) st.bare rfl fun a v r => r.step step (.nil _)) step fun b o hb e => hx b o hb e
end
end Mine
end

section
open PySem PySem.W PyProof.Rows PySem.Calls PySem.SeqAt
set_option Elab.async false
set_option maxRecDepth 100000
set_option linter.unusedVariables false
namespace Mine

section
variable {prog : Program} {w : World} {A : Around} {E : Value → Shared → Prop} {s : Shared}
theorem gx_pyNext {a : Addr} {g n : Nat} {gs : GenState} {P : Nat → Shared → Shared → Prop} {Y : Protocol} {Q : Option Value → Shared → Prop} (hh : A.handled = none)
    (hl : s.heap.NoLimit) (hroom : A.depth < recursionLimit) (hg : s.heap.IsGen a g) (hgs : s.gens[g]? = some gs)
    (hgo : gs.Goes (model prog w) A.in1 (fun n s₀ r s₁ => r = .ok .next ∧ P n s₀ s₁) Y n (.send .none) (s.setGen g .running))
    (hY : ∀ v s₁ gs', gs'.bare = true → Y (n - 1) (s.setGen g .running) v s₁ (fun r' s'' => match n with
        | 0 => False
        | m + 1 => gs'.Goes (model prog w) A.in1 (fun n s₀ r s₁ => r = .ok .next ∧ P n s₀ s₁) Y m r' s'') → Q (some v) (s₁.setGen g gs'))
    (hP : ∀ s₁, P n (s.setGen g .running) s₁ → ∀ h', (∀ b o, s₁.heap.get? b = some o → h'.get? b = some o) → s₁.heap.objs.size ≤ h'.objs.size → Q none { s₁.setGen g .finished with heap := h' }) :
    wpAny (model prog w) A (pyNext (.ref a)) Q E s := by
  unfold pyNext
  refine wpAny_bind (wpAny_attempt (wpAny_callSpecial?_slot (name := Str.ofString "__next__") hg.typeIs slot_gen_next
    (wpAny_call_entry slot_gen_next hg.typeIs entry_gen_next ?_ (args_gen_next _))))
  show wpAny _ A.in1 (Builtin.Generator.genWake (.ref a) (.send .none)) _ _ s
  unfold Builtin.Generator.genWake
  refine wpAny_bind (wpAny_holding (wpAny_genNumber hg (wpAny_bind (wpAny_genState hgs ?_))))
  cases gs with
  | running => exact hgo.elim
  | finished => exact hgo.elim
  | _ =>
    refine wpAny_bind (wpAny_roomToWake hl hroom ?_)
    show wpAny _ A.in1 (.resume g (.send .none) [] _) _ _ s
    refine wpAny_resumeQ hgs hgo (fun x s₁ hx => ?_) (fun v s₁ gs' hb hv => wpAny_pure ⟨v, rfl, wpAny_pure (hY v s₁ gs' hb hv)⟩)
    obtain ⟨rfl, hp⟩ := hx
    show wpAny _ A.in1 (newExc (.type "StopIteration") [] >>= _) _ _ _
    refine wpAny_bind ?_
    simp only [newExc, newTuple]
    refine wpAny_bind (wpAny_newObj_type ?_ (by size_fits))
    refine wpAny_bind (m := firstArgMember _ _) (wpAny_of_eq (a := Value.none) (by first | rfl | (simp only [firstArgMember]; rfl)) ?_)
    refine wpAny_newObj_type ?_ (by size_fits)
    simp only [raiseNew]
    refine wpAny_bind (wpAny_bind (wpAny_handled ?_))
    first | rw [show A.in1.handled = none from hh] | rw [hh]
    refine wpAny_throw ?_
    refine wpAny_bind (wpAny_isInstance (T := "StopIteration") (b := true) ⟨_, Heap.get?_push_size _ rfl, rfl⟩ isSubtype_stop ?_)
    exact wpAny_pure (hP s₁ hp _ (fun b o hb => Heap.get?_push_of_some _ (Heap.get?_push_of_some _ hb)) (by simp only [Heap.size_push]; show s₁.heap.objs.size ≤ s₁.heap.objs.size + 1 + 1; omega))
end

section
variable {C : Cx} {A A' : Around} {F : Fm} {σ σ' : Store} {s s' : Shared}

theorem AllBare.set {gens : Array GenState} {g : Nat} {x : GenState} (h : AllBare gens) (hx : x.bare = true) : AllBare (gens.setIfInBounds g x) := fun y hy => by
  obtain ⟨i, hi, rfl⟩ := Array.mem_iff_getElem.mp hy
  have hi' : i < gens.size := by simpa using hi
  rw [Array.getElem_setIfInBounds hi']
  split
  · exact hx
  · exact h _ (Array.getElem_mem hi')
theorem St.setGen (x : St C A F σ s) {g : Nat} {y : GenState} (hy : y.bare = true) : St C A F σ (s.setGen g y) := { x with bare := AllBare.set x.bare hy, so := x.so }
theorem Step.setGen {B : Heap} {Fs S : List Addr} {σ : Store} {s : Shared} {g : Nat} {y : GenState} : Step B Fs S σ σ s (s.setGen g y) :=
  .grow (fun _ _ e => e) (Nat.le_refl _) (by simp [Shared.setGen]) fun _ _ h => h

def simpleAV : AV → Bool
  | .tag .. | .dat (.int _) | .dat (.bool _) | .dat (.str _) | .dat .none => true
  | _ => false
theorem Rel.simple {σ0 : Store} (st : St C A F σ s) {b : AV} {v : Value} (hb : simpleAV b = true) (r : Rel σ0 s.heap b v) : Rel σ s.heap b v := by
  cases r with
  | dat h => cases h <;> first | exact .dat (.none) | exact .dat (.bool _) | exact .dat (.int _ _) | exact .dat (.str _ _) | cases hb
  | obj a => exact .obj a
  | @tag ta d c y tc tx h1 h2 h3 =>
    obtain ⟨g1, g2, od, kk, g3, g4⟩ := h3
    exact .tag (st.notStore h2 (by nofun)) h2 ⟨g1, st.notStore g3 (fun vs q q' => by rw [g4] at q'; cases q'), od, kk, g3, g4⟩
  | set h1 h2 h3 => cases hb
  | rng h1 h2 => cases hb
  | val v => exact .val v

/-- a generator stands, i values given -/
def GJ (C : Cx) (A : Around) (F : Fm) (As : Around) (a : Addr) (g : Nat) (it : Addr) (ce : Env) (pz : Nat → Bool) (ov : Nat → AV) (n : Nat) (s₄ : Shared) (i : Nat) (s : Shared) : Prop :=
  s.heap.IsGen a g ∧ Step C.B F.frs [it, ce.locals] E0 E0 s₄ s ∧ GSok s.heap it ce.locals ∧ ∃ gs, s.gens[g]? = some gs ∧ ∀ s'', St C A F E0 s'' → Step C.B F.frs [it, ce.locals] E0 E0 s₄ s'' →
    (∀ b ∈ [it, ce.locals], ∀ o, s.heap.get? b = some o → s''.heap.get? b = some o) → gs.Goes C.M As (fun n s₀ r s₁ => r = .ok .next ∧ gEnd C A F ce it n s₀ s₁) (gProto C A F ce it pz ov n s₄) ((passing pz n 0).length - i) (.send .none) s''

/-- what is fixed of the generator, seen from a frame -/
structure GFix (C : Cx) (F : Fm) (it : Addr) (ce : Env) (a : Addr) : Prop where
  B : ∀ b ∈ [it, ce.locals], C.B.get? b = none
  ap : ∀ b ∈ [it, ce.locals], b ∉ F.own ∧ b ∉ F.frs
  ne : a ∉ [it, ce.locals]

theorem GJ.hg {As : Around} {a g it : Addr} {ce : Env} {pz : Nat → Bool} {ov : Nat → AV} {n : Nat} {s₄ : Shared} {i : Nat} (j : GJ C A F As a g it ce pz ov n s₄ i s) : ∃ o, s.heap.get? a = some o ∧ (∃ vs, o.data = .fields vs) ∧ o.cls = .type "generator" :=
  let ⟨o, nm, qn, ho, hc, hd, _⟩ := j.1; ⟨o, ho, ⟨_, hd⟩, hc⟩

/-- the consumer's state after a turn of the generator -/
theorem turnSt (x : St C A F σ s) {it a : Addr} {ce : Env} (fx : GFix C F it ce a) {s₁ : Shared} (st : St C A F E0 s₁) (e : Step C.B F.frs [it, ce.locals] E0 E0 s s₁) (sok : SOk s.heap [it, ce.locals]) :
    St C A F σ s₁ ∧ Step C.B F.frs [it, ce.locals] σ σ s s₁ := by
  have e' := e.big (E0_sub σ)
  refine ⟨x.backS e' fx.B fx.ap sok (fun b o hb => ⟨(x.so b o hb).1, ?_⟩) st.bare st.os, e'⟩
  obtain ⟨vs, m, r, q⟩ := (x.so b o hb).2
  refine ⟨vs, m, r.map fun a v r => r.step e' sok, ?_⟩
  cases ht : o.tags with
  | false =>
    rw [ht] at q
    obtain ⟨k, q⟩ := q
    exact ⟨k, e.k _ _ q rfl (sok.not q (by nofun) (by nofun) (by nofun)) (by nofun) (.inr (by nofun))⟩
  | true =>
    rw [ht] at q
    obtain ⟨da, q, i⟩ := q
    exact ⟨da, e.k _ _ q rfl (sok.not q (by nofun) (by nofun) (by nofun)) (by nofun) (.inr (by nofun)), i.step e' sok ⟨_, _, q, rfl, by nofun⟩⟩

theorem GJ.next (hh : A'.handled = none) (hA : A'.frames = some F.fs) (hl : s.heap.NoLimit) (hroom : A'.depth < recursionLimit) (x : St C A F σ s) {a g it : Addr} {ce : Env} {pz : Nat → Bool} {ov : Nat → AV} {n : Nat} {s₄ : Shared} {i : Nat} (fx : GFix C F it ce a)
    (j : GJ C A F A'.in1 a g it ce pz ov n s₄ i s) {b : AV} (hb : ((passing pz n 0).map ov)[i]? = some b) (hsim : ∀ k, ov k = b → simpleAV b = true) {Q : Option Value → Shared → Prop}
    (hQ : ∀ v s', Rel σ s'.heap b v → GJ C A F A'.in1 a g it ce pz ov n s₄ (i + 1) s' → St C A F σ s' → Step C.B F.frs [it, ce.locals] σ σ s s' → Q (some v) s') : wpAny C.M A' (pyNext (.ref a)) Q NoE s := by
  obtain ⟨hgen, e4, gok, gs, hgs, hgo⟩ := id j
  have sok := gok.sok
  have hlen : i < (passing pz n 0).length := by
    have := hb
    rcases Nat.lt_or_ge i (passing pz n 0).length with h | h
    · exact h
    · rw [List.getElem?_eq_none (by simpa using h)] at hb; cases hb
  obtain ⟨m, hm⟩ : ∃ m, (passing pz n 0).length - i = m + 1 := ⟨(passing pz n 0).length - i - 1, by omega⟩
  have x0 := x.forget (E0_sub σ)
  have hgo' := hgo (s.setGen g .running) (x0.setGen rfl) (e4.trans .setGen) fun _ _ _ e => e
  rw [hm] at hgo'
  refine wpAny_pyNext_genexpQ (P := gEnd C A F ce it) hh hl hroom hgen hgs hgo' (fun v s₁ gs' hbare hv => ?_) (fun s₁ hp h' hk => absurd hp.1 (Nat.succ_ne_zero m))
  obtain ⟨⟨k, hk, rv⟩, st₁, e₁, gok₁, hkap⟩ := hv
  have hidx : (passing pz n 0).length - 1 - (m + 1 - 1) = i := by omega
  rw [hidx] at hk
  have hbk : ov k = b := by
    rw [List.getElem?_map, hk] at hb; simpa using hb
  rw [hbk] at rv
  have hgs1 : (s.setGen g .running).gens[g]? = some .running := setGen_self hgs
  have hg1 : g < s₁.gens.size := by
    have h1 : g < (s.setGen g .running).gens.size := by
      rcases Nat.lt_or_ge g (s.setGen g .running).gens.size with h | h
      · exact h
      · rw [Array.getElem?_eq_none h] at hgs1; cases hgs1
    exact Nat.lt_of_lt_of_le h1 e₁.gens
  have e₁' : Step C.B F.frs [it, ce.locals] E0 E0 s (s₁.setGen g gs') := (Step.setGen.trans e₁).trans .setGen
  have st₂ := st₁.setGen (g := g) hbare
  obtain ⟨stC, eC⟩ := turnSt x fx st₂ e₁' sok
  have e4' := e4.trans e₁'
  refine hQ v _ ?_ ⟨?_, e4', gok₁, gs', ?_, fun s'' st'' e'' hal => ?_⟩ stC eC
  · exact rv.simple stC (hsim k hbk)
  · obtain ⟨o, nm, qn, ho, hc, hd, hs⟩ := hgen
    exact ⟨o, nm, qn, e₁'.k _ _ ho rfl fx.ne (fun ps q => by rw [q] at hc; cases hc) (.inr fun es k q => by rw [hd] at q; cases q), hc, hd, hs⟩
  · simp [Shared.setGen, hg1]
  · have em : (passing pz n 0).length - (i + 1) = m := by omega
    rw [em]
    exact hkap s'' st'' e'' hal

theorem GJ.done (hh : A'.handled = none) (hl : s.heap.NoLimit) (hroom : A'.depth < recursionLimit) (x : St C A F σ s) {a g it : Addr} {ce : Env} {pz : Nat → Bool} {ov : Nat → AV} {n : Nat} {s₄ : Shared} (fx : GFix C F it ce a)
    (j : GJ C A F A'.in1 a g it ce pz ov n s₄ (passing pz n 0).length s) {Q : Option Value → Shared → Prop}
    (hQ : ∀ s', St C A F σ s' → Step C.B F.frs [it, ce.locals] σ σ s s' → Q none s') : wpAny C.M A' (pyNext (.ref a)) Q NoE s := by
  obtain ⟨hgen, e4, gok, gs, hgs, hgo⟩ := id j
  have sok := gok.sok
  have x0 := x.forget (E0_sub σ)
  have hgo' := hgo (s.setGen g .running) (x0.setGen rfl) (e4.trans .setGen) fun _ _ _ e => e
  rw [Nat.sub_self] at hgo'
  refine gx_pyNext (P := gEnd C A F ce it) hh hl hroom hgen hgs hgo' (fun v s₁ gs' hbare hv => ?_) (fun s₁ hp h' hk hz => ?_)
  · exact False.elim (hv.2.2.2.2 s₁ hv.2.1 ((e4.trans .setGen).trans hv.2.2.1) fun _ _ _ e => e)
  · obtain ⟨_, st₁, e₁⟩ := hp
    have e₁' : Step C.B F.frs [it, ce.locals] E0 E0 s (s₁.setGen g .finished) := (Step.setGen.trans e₁).trans .setGen
    obtain ⟨stC, eC⟩ := turnSt x fx (st₁.setGen (g := g) (y := .finished) rfl) e₁' sok
    obtain ⟨st3, e3⟩ := stC.grow (s' := { s₁.setGen g .finished with heap := h' }) (fun b o e => hk b o e) hz (Nat.le_refl _) stC.bare rfl
    exact hQ _ st3 (eC.trans (e3.mono (by simp)))
end
end Mine
end

section
open PySem PySem.W PyProof.Rows PySem.Calls PySem.SeqAt
set_option Elab.async false
set_option maxRecDepth 100000
set_option linter.unusedVariables false
namespace Mine

section
variable {C : Cx} {A A' : Around} {F : Fm} {σ σ' : Store} {s s' : Shared}

/-- what a consumer needs to know of the generator -/
structure GCtx (C : Cx) (A : Around) (F : Fm) (A' : Around) (a : Addr) (it : Addr) (ce : Env) (ov : Nat → AV) (s₄ : Shared) : Prop where
  hh : A'.handled = none
  hA : A'.frames = some F.fs
  room : A'.depth < recursionLimit
  fx : GFix C F it ce a
  sim : ∀ k, simpleAV (ov k) = true

/-- an object of the store takes one more -/
theorem St.pushSeq (x : St C A F σ s) {S : Addr} {b : Bool} {xs : List AV} (hS : σ S = some ⟨b, xs⟩) : ∃ o n vs, s.heap.get? S = some o ∧ o.data = .seq vs n ∧ vs.size = xs.length ∧
    ∀ a v, Rel σ s.heap a v → St C A F (upd σ S ⟨b, xs ++ [a]⟩) { s with heap := s.heap.update S (Obj.mapSeq (·.push v)) } ∧ Step C.B F.frs [] σ (upd σ S ⟨b, xs ++ [a]⟩) s { s with heap := s.heap.update S (Obj.mapSeq (·.push v)) } := by
  obtain ⟨us, n, ra, q⟩ := (x.so _ _ hS).2
  have ra : RelAll σ s.heap xs us := ra
  cases b with
  | false =>
    obtain ⟨m, q⟩ := q
    refine ⟨_, _, us.toArray, q, rfl, by simp [ra.length], fun a v r => ?_⟩
    exact x.mutate hS (o' := ⟨false, xs ++ [a]⟩) (tk := s.toks) (Heap.SameBut.update s.heap S (Obj.mapSeq (·.push v))) fun hr => ⟨us ++ [v], 0, (ra.map hr).append (.cons (hr _ _ r) .nil), by
      obtain ⟨n', g1⟩ : ∃ n', (s.heap.update S (Obj.mapSeq (·.push v))).get? S = some { cls := .type "list", data := .seq (us.toArray.push v) n' } := ⟨_, Heap.get?_update_self (Obj.mapSeq (·.push v)) q rfl⟩
      exact ⟨n', by simpa using g1⟩⟩
  | true =>
    obtain ⟨da, q, i1, i2, od, k, q2, q3⟩ := q
    have hdx : da ≠ S := fun e => by subst e; rw [q] at q2; cases q2; cases q3
    refine ⟨_, _, us.toArray, q, rfl, by simp [ra.length], fun a v r => ?_⟩
    obtain ⟨n', g1⟩ : ∃ n', (s.heap.update S (Obj.mapSeq (·.push v))).get? S = some { cls := .ref TagsC, dict := some da, data := .seq (us.toArray.push v) n' } := ⟨_, Heap.get?_update_self (Obj.mapSeq (·.push v)) q rfl⟩
    have g2 := (Heap.get?_update_other s.heap (a := S) (b := da) (Obj.mapSeq (·.push v)) (Ne.symm hdx)).trans q2
    exact x.mutate hS (o' := ⟨true, xs ++ [a]⟩) (tk := s.toks) (Heap.SameBut.update s.heap S (Obj.mapSeq (·.push v))) fun hr => ⟨us ++ [v], n', (ra.map hr).append (.cons (hr _ _ r) .nil), da, (by simpa using g1), i1, by rw [upd_ne hdx]; exact i2, od, k, g2, q3⟩

theorem GJ.other {As : Around} {a g it : Addr} {ce : Env} {pz : Nat → Bool} {ov : Nat → AV} {n : Nat} {s₄ : Shared} {i : Nat} (j : GJ C A F As a g it ce pz ov n s₄ i s) {S : Addr} (hS4 : s₄.heap.objs.size ≤ S) (hne : S ≠ a) (hnl : S ∉ [it, ce.locals]) {h' : Heap} (hs : Heap.SameBut S s.heap h') :
    GJ C A F As a g it ce pz ov n s₄ i { s with heap := h' } := by
  obtain ⟨⟨o, nm, qn, ho, hr⟩, e4, gok, gs, hgs, hgo⟩ := j
  refine ⟨⟨o, nm, qn, (hs.2 a (Ne.symm hne)).trans ho, hr⟩, ?_, gok.keep fun b hb o e => (hs.2 b fun q => hnl (q ▸ hb)).trans e, gs, hgs, fun s'' st'' e'' hal => hgo s'' st'' e'' fun b hb o e => hal b hb o ((hs.2 b fun q => hnl (q ▸ hb)).trans e)⟩
  refine Step.shrink e4 (Step.poke (tk := s.toks) (S := [S]) List.mem_cons_self hs) (fun b hb => ?_) fun b hb => .inl hb
  rcases List.mem_cons.mp hb with rfl | hb
  · exact .inr hS4
  · cases hb

theorem extend_loop (ok : C.Ok) {A₀ : Around} {a g it : Addr} {ce : Env} {pz : Nat → Bool} {ov : Nat → AV} {n : Nat} {s₄ : Shared} (cx : GCtx C A F A₀.in1 a it ce ov s₄) {S : Addr} (hS4 : s₄.heap.objs.size ≤ S) {b : Bool} (hlen : (passing pz n 0).length ≤ 10000) {res : Value} {R : Result → Shared → Prop} :
    ∀ (k i : Nat) (σ : Store) (s : Shared), (passing pz n 0).length - i = k → i ≤ (passing pz n 0).length → GJ C A F A₀.in1.in1 a g it ce pz ov n s₄ i s → St C A F σ s → σ S = some ⟨b, ((passing pz n 0).map ov).take i⟩ →
      (∀ σ' s', St C A F σ' s' → Step C.B F.frs [it, ce.locals] σ σ' s s' → σ' S = some ⟨b, (passing pz n 0).map ov⟩ → (∀ x, x ≠ S → σ' x = σ x) → R (.ok (.ret res)) s') →
      codeAny C.M A₀ (.builtin "list.extend.loop" ⟨[.ref S, .ref a, res], []⟩) R s := by
  intro k
  induction k with
  | zero =>
    intro i σ s hk hi j x hS hR
    have hin : i = (passing pz n 0).length := by omega
    subst hin
    refine codeAny_builtin PySem.F.entry_extend_loop ?_
    rw [Around.under_plainId PySem.F.plain_extend_loop _]
    show wpAny C.M A₀.in1 (pyNext (.ref a) >>= _) _ _ s
    refine wpAny_bind (wpAny_noE (GJ.done cx.hh (x.lim ok) cx.room x cx.fx j fun s' st' e' => ?_))
    exact wpAny_pure (hR σ s' st' e' (by rw [hS, List.take_of_length_le (by simp)]) fun _ _ => rfl)
  | succ k ih =>
    intro i σ s hk hi j x hS hR
    have hlt : i < (passing pz n 0).length := by omega
    have hb : ((passing pz n 0).map ov)[i]? = some (((passing pz n 0).map ov)[i]'(by simpa using hlt)) := List.getElem?_eq_getElem _
    refine codeAny_builtin PySem.F.entry_extend_loop ?_
    rw [Around.under_plainId PySem.F.plain_extend_loop _]
    show wpAny C.M A₀.in1 (pyNext (.ref a) >>= _) _ _ s
    refine wpAny_bind (wpAny_noE (GJ.next cx.hh cx.hA (x.lim ok) cx.room x cx.fx j hb (fun q hq => hq ▸ cx.sim q) fun v s₁ rv j₁ x₁ e₁ => ?_))
    obtain ⟨o, m, vs, ho, hd, hz, push⟩ := x₁.pushSeq hS
    obtain ⟨x₂, e₂⟩ := push _ v rv
    have hzz : vs.size = i := by rw [hz]; simp; omega
    show wpAny C.M A₀.in1 (updateSeq S (·.push v) >>= _) _ _ _
    refine wpAny_bind (wpAny_updateSeq ho hd (wpAny_pure ⟨plainId_quiet PySem.F.plain_extend_loop _, ?_⟩) (by rw [hzz, sizeLine_eq]; omega) (by rw [Array.size_push, hzz, sizeLine_eq]; omega))
    have hne : S ≠ a := fun q => by
      obtain ⟨oo, hoo, ⟨ws, hw⟩, _⟩ := j₁.hg
      subst q; rw [ho] at hoo; cases hoo; rw [hd] at hw; cases hw
    have hnl : S ∉ [it, ce.locals] := j₁.2.2.1.sok.not ho (fun es q h => by rw [hd] at h; cases h) (fun q h => by rw [hd] at h; cases h) (fun q h => by rw [hd] at h; cases h)
    have j₂ := j₁.other hS4 hne hnl (Heap.SameBut.update s₁.heap S (Obj.mapSeq (·.push v)))
    refine ih (i + 1) _ _ (by omega) hlt j₂ x₂ (by rw [upd_self, List.take_add_one, hb]; rfl) fun σ' s' st' e' h1 h2 => ?_
    exact hR σ' s' st' ((e₁.trans (e₂.mono (by simp))).trans e') h1 fun y hy => (h2 y hy).trans (upd_ne hy)
end
end Mine
end

section
open PySem PySem.W PyProof.Rows PySem.Calls PySem.SeqAt
set_option Elab.async false
set_option maxRecDepth 100000
set_option linter.unusedVariables false
namespace Mine

section
variable {prog : Program} {w : World} {A : Around} {E : Value → Shared → Prop} {s : Shared} {R : Result → Shared → Prop}

/-- list.__init__ of a generator, on an object of class Tags just made -/
theorem init_gen {S a da : Addr} {g n : Nat} (hS : s.heap.get? S = some { cls := .ref TagsC, dict := some da, data := .seq #[] n }) (hg : s.heap.IsGen a g)
    (h : ∀ h' n', Heap.SameBut S s.heap h' → h'.get? S = some { cls := .ref TagsC, dict := some da, data := .seq #[] n' } → codeAny (model prog w) A (.builtin "list.extend.loop" ⟨[.ref S, .ref a, .none], []⟩) R { s with heap := h' }) :
    wpAny (model prog w) A.in1 (Builtin.«list.__init__» ⟨[.ref S, .ref a], []⟩)
      (fun fin s' => match fin with | .done f => R (.ok f) s' | .again c' => c'.quiet = true ∧ codeAny (model prog w) A c' R s') (fun e s' => R (.error e) s') s := by
  obtain ⟨og, nm, qn, hog, hcg, hdg, hsg⟩ := id hg
  have hSa : S ≠ a := fun e => by subst e; rw [hS] at hog; cases hog; cases hcg
  show wpAny _ A.in1 (do let old ← Builtin.List.listItems (.ref S); Builtin.List.listUpdate (.ref S) (fun _ => #[]); letGo old.toList.reverse; Builtin.List.listExtendWith (.ref S) (.ref a) .none) _ _ s
  refine wpAny_bind ?_
  unfold Builtin.List.listItems
  refine wpAny_bind (wpAny_seqItems hS rfl (wpAny_pure ?_))
  show wpAny _ A.in1 (updateSeq S (fun _ => #[]) >>= fun _ => letGo (#[] : Array Value).toList.reverse >>= fun _ => Builtin.List.listExtendWith (.ref S) (.ref a) .none) _ _ s
  refine wpAny_bind (wpAny_updateSeq hS rfl ?_)
  have hS₂ := Heap.get?_update_self (Obj.mapSeq (fun _ => (#[] : Array Value))) hS rfl
  have oth : ∀ b o, b ≠ S → s.heap.get? b = some o → (s.heap.update S (Obj.mapSeq (fun _ => (#[] : Array Value)))).get? b = some o :=
    fun b o hb e => (Heap.get?_update_other _ _ (Ne.symm hb)).trans e
  have hg₂ : (s.heap.update S (Obj.mapSeq (fun _ => (#[] : Array Value)))).IsGen a g := ⟨og, nm, qn, oth _ _ (Ne.symm hSa) hog, hcg, hdg, hsg⟩
  refine wpAny_bind (wpAny_letGo ?_)
  unfold Builtin.List.listExtendWith
  refine wpAny_bind (wpAny_typeOf hg₂.typeIs ?_)
  have h1 : Builtin.List.listSameRef (.ref S) (.ref a) = false := by simp [Builtin.List.listSameRef, hSa]
  have h2 : (Value.type "generator" == Value.type "list") = false := by decide
  have h3 : (Value.type "generator" == Value.type "tuple") = false := by decide
  simp only [h1, h2, h3, Bool.or_false, Bool.false_eq_true, if_false]
  refine wpAny_bind (wpAny_pyIter_gen hg₂ ?_)
  refine wpAny_bind (wpAny_holding ?_)
  unfold Builtin.List.listLengthHint
  refine wpAny_bind (wpAny_specialOf hg₂.typeIs PySem.F.gen_no_len ?_)
  show wpAny _ A.in1 (specialOf (Value.ref a) (Str.ofString "__length_hint__") >>= _) _ _ _
  refine wpAny_bind (wpAny_specialOf hg₂.typeIs PySem.F.gen_no_hint ?_)
  refine wpAny_pure ?_
  show wpAny _ A.in1 (rule "list.extend.makes-room" >>= fun _ => Builtin.List.listTouch (.ref S) >>= fun _ =>
    again (.builtin "list.extend.loop" ⟨[.ref S, .ref a, .none], []⟩)) _ _ _
  refine wpAny_bind (wpAny_rule ?_)
  refine wpAny_bind ?_
  show wpAny _ A.in1 (updateSeq S (·.push .none) >>= fun _ => updateSeq S (·.pop)) _ _ _
  refine wpAny_bind (wpAny_updateSeq hS₂ rfl ?_)
  have hS₃ := Heap.get?_update_self (Obj.mapSeq (·.push Value.none)) hS₂ rfl
  refine wpAny_updateSeq (hz := by seq_fits) hS₃ rfl ?_
  have hS₄ := Heap.get?_update_self (Obj.mapSeq (·.pop)) hS₃ rfl
  refine wpAny_pure ⟨plainId_quiet PySem.F.plain_extend_loop _, h _ _ (((Heap.SameBut.update ..).trans (Heap.SameBut.update ..)).trans (Heap.SameBut.update ..)) hS₄⟩
end

section
variable {C : Cx} {A A' : Around} {F : Fm} {σ σ' : Store} {s s' : Shared}

theorem upd_upd' (σ : Store) (a : Addr) (o o' : AObj) : upd (upd σ a o) a o' = upd σ a o' := by
  funext b; unfold upd; split <;> rfl

abbrev tcA (A : Around) (rest : List Value) : Around := A.under (.builtin "type.__call__" ⟨.ref TagsC :: rest, []⟩)

/-- an empty object of class Tags -/
theorem St.newTags (x : St C A F σ s) : ∀ S, S = s.heap.objs.size + 1 → σ S = none ∧ St C A F (upd σ S ⟨true, []⟩) { s with heap := (s.heap.push emptyDict).push (tagsObj TagsC s.heap.objs.size) } ∧ Step C.B F.frs [] σ (upd σ S ⟨true, []⟩) s { s with heap := (s.heap.push emptyDict).push (tagsObj TagsC s.heap.objs.size) } ∧
    ((s.heap.push emptyDict).push (tagsObj TagsC s.heap.objs.size)).get? S = some (tagsObj TagsC s.heap.objs.size) := by
  rintro S rfl
  have hx : ((s.heap.push emptyDict).push (tagsObj TagsC s.heap.objs.size)).get? (s.heap.objs.size + 1) = some (tagsObj TagsC s.heap.objs.size) := by
    have := Heap.get?_push_size (s.heap.push emptyDict) (o := tagsObj TagsC s.heap.objs.size) rfl
    rw [Heap.size_push] at this
    exact this
  have hd : ((s.heap.push emptyDict).push (tagsObj TagsC s.heap.objs.size)).get? s.heap.objs.size = some emptyDict := Heap.get?_push_of_some _ (Heap.get?_push_size _ rfl)
  have hn : σ (s.heap.objs.size + 1) = none := x.fresh (Nat.le_succ _)
  have := x.alloc (a := s.heap.objs.size + 1) (o := ⟨true, []⟩) (s' := { s with heap := (s.heap.push emptyDict).push (tagsObj TagsC s.heap.objs.size) }) (Nat.le_succ _) (fun b o e => Heap.get?_push_of_some _ (Heap.get?_push_of_some _ e)) (by simp only [Heap.size_push]; omega) rfl rfl
    ⟨[], 0, .nil, s.heap.objs.size, hx, rfl, by rw [upd_ne (Nat.ne_of_lt (Nat.lt_succ_self _))]; exact x.fresh (Nat.le_refl _), _, 0, hd, rfl⟩
  exact ⟨hn, this.1, this.2.1, hx⟩

theorem tags_of_gen (ok : C.Ok) (T : TF C.K) (mk : makesL C.K TagsC = true) {A₂ : Around} {a g it : Addr} {ce : Env} {pz : Nat → Bool} {ov : Nat → AV} {n : Nat} {s₄ : Shared} (cx : GCtx C A₂ F (tcA A [.ref a]).in1 a it ce ov s₄)
    (hlen : (passing pz n 0).length ≤ 10000) (x : St C A₂ F σ s) (j : GJ C A₂ F (tcA A [.ref a]).in1.in1 a g it ce pz ov n s₄ 0 s) {R : Result → Shared → Prop}
    (hR : ∀ S s', σ S = none → St C A₂ F (upd σ S ⟨true, (passing pz n 0).map ov⟩) s' → Step C.B F.frs [it, ce.locals] σ (upd σ S ⟨true, (passing pz n 0).map ov⟩) s s' → R (.ok (.ret (.ref S))) s') :
    codeAny C.M A (.call (.ref TagsC) ⟨[.ref a], []⟩) R s := by
  obtain ⟨hn, x₁, e₁, hS⟩ := x.newTags _ rfl
  obtain ⟨h, gg, d, t, os⟩ := s
  refine make_L (makesL_of (x.K ok) mk) (ln_args2 _ _) ?_
  dsimp only at hn x₁ e₁ hS
  generalize hs₁ : (⟨(h.push emptyDict).push (tagsObj TagsC h.objs.size), gg, d, t, os⟩ : Shared) = s₁ at x₁ e₁ ⊢
  have hS' : s₁.heap.get? (h.objs.size + 1) = some { cls := .ref TagsC, dict := some h.objs.size, data := .seq #[] } := by rw [← hs₁]; exact hS
  have hgs : s₁.gens = gg := by rw [← hs₁]
  have hk : ∀ b o, h.get? b = some o → s₁.heap.get? b = some o := fun b o e => by rw [← hs₁]; exact Heap.get?_push_of_some _ (Heap.get?_push_of_some _ e)
  have htag : TagsAt s₁.heap (h.objs.size + 1) #[] := ⟨_, _, hS', emptyDict, 0, by rw [← hs₁]; exact Heap.get?_push_of_some _ (Heap.get?_push_size _ rfl), rfl⟩
  refine codeAny_call_builtin PySem.F.slot_list_init.plain PySem.F.entry_list_init (tg_check (x₁.K ok) T htag (n := "__init__") (by decide +kernel) (by first | exact .inl (by decide +kernel) | exact .inr (by decide +kernel)) (PySem.F.args_list_init_2 _ _) ?_)
  obtain ⟨hgen, e4, gok, gs, hgs0, hgo⟩ := j
  have j₁ : GJ C A₂ F (tcA A [.ref a]).in1.in1 a g it ce pz ov n s₄ 0 s₁ := by
    refine ⟨hgen.keeps hk, e4.trans ?_, gok.keep fun b _ o e => hk b o e, gs, by rw [hgs]; exact hgs0, fun s'' st'' e'' hal => hgo s'' st'' e'' fun b hb o e => hal b hb o (hk b o e)⟩
    exact .grow hk (Nat.le_of_lt (by rw [← hs₁]; simp only [Heap.size_push]; omega)) (by rw [hgs]; exact Nat.le_refl _) fun _ _ h => h
  refine init_gen hS' j₁.1 fun h' n' hsb hS'' => ?_
  have hSn : ∀ o, h.get? (h.objs.size + 1) ≠ some o := fun o e => absurd (Heap.lt_size e) (Nat.not_lt.mpr (Nat.le_succ _))
  have hne : h.objs.size + 1 ≠ a := fun q => by obtain ⟨o, _, _, ho, _⟩ := hgen; exact hSn o (q ▸ ho)
  have hsz4 : s₄.heap.objs.size ≤ h.objs.size + 1 := Nat.le_trans e4.sz (Nat.le_succ _)
  have hnl : h.objs.size + 1 ∉ [it, ce.locals] := j₁.2.2.1.sok.not hS' (by nofun) (by nofun) (by nofun)
  have x₂ := x₁.mutate (a := h.objs.size + 1) (upd_self _ _ _) (o' := ⟨true, []⟩) (tk := s₁.toks) hsb fun hr => by
    obtain ⟨_, _, _, da, q, i1, i2, od, k, q2, q3⟩ := (x₁.so (h.objs.size + 1) _ (upd_self _ _ _)).2
    have hda : da = h.objs.size := Nat.succ.inj i1
    subst hda
    have hdne : h.objs.size ≠ h.objs.size + 1 := Nat.ne_of_lt (Nat.lt_succ_self _)
    exact ⟨[], n', .nil, h.objs.size, hS'', rfl, by rw [upd_ne hdne]; exact i2, od, k, (hsb.2 _ hdne).trans q2, q3⟩
  rw [upd_upd'] at x₂
  have j₂ := j₁.other hsz4 hne hnl hsb
  refine extend_loop ok cx (S := h.objs.size + 1) hsz4 (b := true) hlen _ 0 _ _ rfl (Nat.zero_le _) j₂ x₂.1 (upd_self _ _ _) fun σ' s' st' e' h1 h2 => ?_
  have hσ : σ' = upd σ (h.objs.size + 1) ⟨true, (passing pz n 0).map ov⟩ := by
    funext y
    by_cases hy : y = h.objs.size + 1
    · subst hy; rw [upd_self]; exact h1
    · rw [upd_ne hy, h2 y hy, upd_ne hy]
  subst hσ
  exact ⟨rfl, hR _ s' hn st' ((((e₁.mono (by simp)).trans (x₂.2.mono (by simp))).trans e'))⟩
end
end Mine
end

section
open PySem PySem.W PyProof.Rows PySem.Calls PySem.SeqAt
set_option Elab.async false
set_option maxRecDepth 100000
set_option linter.unusedVariables false
namespace Mine

section
variable {C : Cx} {A A' As : Around} {F : Fm} {σ σ' : Store} {s s' : Shared}

theorem St.at (x : St C A F σ s) (h : As.frames = some F.fs) : St C As F σ s := { x with stack := h }
theorem CFr.at {ce : Env} {S : List Addr} {cvars : List (Str × AV)} (x : CFr C A F σ s ce S cvars) (h : As.frames = some F.fs) : CFr C As F σ s ce S cvars := { x with out := x.out.at h }

/-- a generator expression, made -/
structure GReady (C : Cx) (F : Fm) (σ : Store) (As : Around) (s₀ : Shared) (a : Addr) (pz : Nat → Bool) (ov : Nat → AV) (n : Nat) (s : Shared) : Prop where
  ex : ∃ g it ce s₄, GJ C As F As a g it ce pz ov n s₄ 0 s ∧ GFix C F it ce a ∧ s₀.heap.objs.size ≤ it ∧ s₀.heap.objs.size ≤ ce.locals

theorem seg_genStart (ok : C.Ok) (hh : As.handled = none) (hst : As.frames = some F.fs) {ce : Env} {cvars : List (Str × AV)} {elt target iter : Expr} {ifs : List Expr} {scope : Scope} {pos : Pos} {it l : Addr}
    (hf : ce.frame = some ce.locals) (hco : ce.scope.isCoroutine = false) {s₄ : Shared} (x₄ : CFr C As F E0 s₄ ce [ce.locals] cvars) (q4 : s₄.heap.IsListIter it l 0) {m4 : Str → Option Value} (n4 : s₄.heap.Ns ce.locals m4) (ne4 : NsNe ce m4) (hB : C.B.get? it = none) (hitl : it < ce.locals) (hcl : ∀ p ∈ ce.cells, p.2 < ce.locals)
    {o : Obj} {n : Nat} {vs : Array Value} {xs : List AV} (hl4 : s₄.heap.get? l = some o) (hd : o.data = .seq vs n) (hvs : RelAll E0 s₄.heap xs vs.toList)
    (hlet : ∀ (s : Shared) (i : Nat) (a : AV) (v : Value), a ∈ xs → Rel E0 s.heap a v → s.heap.IsListIter it l i → ∀ Q : Unit → Shared → Prop, Q () s → wpAny C.M (As.over (.compLoop (.GeneratorExp elt [⟨target, iter, ifs, 0⟩] scope pos) 0 (.ref it) .none ce) []) (letOwnedTupleGo target (.ref it) v) Q NoE s)
    (pz : Nat → Bool) (ov : Nat → AV)
    (turn : ∀ i a, xs[i]? = some a → GTurn C As (As.over (.compLoop (.GeneratorExp elt [⟨target, iter, ifs, 0⟩] scope pos) 0 (.ref it) .none ce) []) F ce cvars target elt ifs (pz i) a (ov i))
    (s : Shared) (st : St C As F E0 s) (e4 : Step C.B F.frs [it, ce.locals] E0 E0 s₄ s) (hal : ∀ b ∈ [it, ce.locals], ∀ o, s₄.heap.get? b = some o → s.heap.get? b = some o) :
    Seg C.M As (fun n s₀ r s₁ => r = .ok .next ∧ gEnd C As F ce it n s₀ s₁) (gProto C As F ce it pz ov xs.length s₄) (passing pz xs.length 0).length s
      (.compStart (.GeneratorExp elt [⟨target, iter, ifs, 0⟩] scope pos) 0 (.ref it) .none ce)
      (C.M.den (.compStart (.GeneratorExp elt [⟨target, iter, ifs, 0⟩] scope pos) 0 (.ref it) .none ce)) [] s := by
  have q : s.heap.IsListIter it l 0 := let ⟨oo, hoo, h⟩ := q4; ⟨oo, hal _ List.mem_cons_self _ hoo, h⟩
  have xs' : CFr C As F E0 s ce [ce.locals] cvars := by
    obtain ⟨ob, es, ep, ho, hdd, r⟩ := n4
    exact x₄.from (ItList q4) st e4 ⟨ob, es, ep, hal _ (List.mem_cons_of_mem _ List.mem_cons_self) _ ho, hdd, r⟩ ne4
  have loop := seg_genE (iter := iter) (scope := scope) (pos := pos) ok hh hst hf hco x₄ (ItList q4) hB hitl hcl hl4 hd hvs hlet pz ov turn xs.length 0 s s (Nat.sub_zero _) (Nat.zero_le _) xs' q (.refl ..) e4
  show Seg C.M As _ _ _ s _ ((compStart (.GeneratorExp elt [⟨target, iter, ifs, 0⟩] scope pos) 0 (.ref it) .none ce).onRaise (leaving ce)) [] s
  unfold compStart
  rw [Sem.onRaise_eq_wrap]
  show Seg C.M As _ _ _ s _ ((ask >>= _).wrap _ _ _ _) [] s
  refine seg_bind_wrap (wpAny_askSetting ?_)
  split
  · exact seg_again rfl loop
  · first
      | exact seg_bind_wrap (wpAny_rule (seg_bind_wrap (wpAny_standAt (seg_bind_wrap (wpAny_pyIter_listiter q (seg_again rfl loop))))))
      | (refine seg_bind_wrap (wpAny_rule ?_); show Seg C.M As _ _ _ s _ ((standAt iter.pos >>= _).wrap _ _ _ _) [] s; exact seg_bind_wrap (wpAny_standAt (seg_bind_wrap (wpAny_pyIter_listiter q (seg_again rfl loop)))))

/-- the environment of a generator expression -/
abbrev gEnv (scope : Scope) (cl : List (Str × Addr)) (D : Addr) (code : Value) (env : Env) : Env := genEnv scope cl D code builtinsNs env

theorem gen_make (ok : C.Ok) (T : TF C.K) {j : Nat} (room : Room A (j + 3)) (hh : A.handled = none) {elt target iter : Expr} {ifs : List Expr} {scope : Scope} {cl : List (Str × Addr)} {pos : Pos} {c P : Addr}
    (cs : CompS scope F.env cl) (hco : scope.isCoroutine = false) (hcell : ∀ y ∈ scope.names, y.2 ≠ .cell) (h0 : scope.names.lookup (".0" : Str) = some NameKind.local) (hcode : F.env.code = .ref c) (ct : CodeT C c P)
    (hs : ∀ x, genFold iter F.env x = pure x) (st : St C A F σ s)
    {b : AV} {k : SK} {xs : List AV} {pz : Nat → Bool} {ov : Nat → AV} (hk : k ≠ .tuple) (hi : Items σ b k xs)
    (he : Ev C A F σ iter fun b' σ₁ => b' = b ∧ σ₁ = σ) (hF : A.frames = some F.fs)
    (hsim : ∀ i, simpleAV (ov i) = true)
    (hlet : ∀ (it : Addr) (ce : Env) (As : Around) (s : Shared) (i : Nat) (a : AV) (l : Addr) (v : Value), a ∈ xs → Rel E0 s.heap a v → s.heap.IsListIter it l i → ∀ Q : Unit → Shared → Prop, Q () s → wpAny C.M As (letOwnedTupleGo target (.ref it) v) Q NoE s)
    (turn : ∀ D code (As A' : Around), Room A' j → A'.handled = none → A'.frames = some (gEnv scope cl D code F.env :: F.fs) → ∀ i a, xs[i]? = some a → GTurn C As A' F (gEnv scope cl D code F.env) (capVars F.vars cl) target elt ifs (pz i) a (ov i))
    {Q : Value → Shared → Prop}
    (hQ : ∀ a s', St C A F σ s' → Step C.B F.frs [] σ σ s s' → (∀ As : Around, As.frames = some F.fs → As.handled = none → Room As (j + 1) → GReady C F σ As s a pz ov xs.length s') → Q (.ref a) s') :
    wpAny C.M A (eval (.GeneratorExp elt [⟨target, iter, ifs, 0⟩] scope pos) F.env) Q NoE s := by
  refine wpAny_GeneratorExp_make hco (closureFor_of cs.clos) hcell h0 cs.kind (by have := room.depth; have : recursionLimit = 1000 := rfl; omega) (he s st _ fun b' v σ₁ s₁ h₁ st₁ r₁ e₁ => ?_) hs
  obtain ⟨rfl, rfl⟩ := h₁
  obtain ⟨l, us, rfl, sq, ra⟩ := hi.at_ st₁ r₁
  obtain ⟨ol, nl, hol, hdl⟩ := sq.obj
  have iterd : ∀ {Q' : Value → Shared → Prop}, Q' (.ref s₁.heap.objs.size) { s₁ with heap := s₁.heap.push { cls := .type "list_iterator", data := .fields #[.ref l, .int 0 0] } } → wpAny C.M A (pyIter (.ref l)) Q' NoE s₁ := fun hq => by
    cases k with
    | list => exact wpAny_pyIter_list sq hq
    | tuple => exact absurd rfl hk
    | tags => exact tg_pyIter (st₁.K ok) T sq hq
  refine iterd ?_
  obtain ⟨st₂, e₂⟩ := st₁.push { cls := .type "list_iterator", data := .fields #[.ref l, .int 0 0] } s₁.toks
  have q₂ : (s₁.heap.push { cls := .type "list_iterator", data := .fields #[.ref l, .int 0 0] }).IsListIter s₁.heap.objs.size l 0 := ⟨_, Heap.get?_push_size _ rfl, rfl, rfl⟩
  refine ⟨st₂.lim ok, ?_⟩
  refine gcode ok ct st₂ hcode fun code s₃ st₃ e₃ hk₃ => ?_
  obtain ⟨bm, ob, hb1, hb2, hb3, hb4, hb5, hb6⟩ := ok.bm
  have hgl : F.env.globals = mainGlobals := st.gl
  rw [hgl]
  have hbm := st₃.bk.k _ _ hb3 (fun ps q => by rw [q] at hb6; simp [tObj] at hb6)
  refine wpAny_builtinsFor (st₃.g ok) hb1 hb2 hbm hb4 hb5 hb6 ?_
  intro h' hn' hs'
  have hz' : h'.objs.size = s₃.heap.objs.size + 1 := by rw [hs'.1, Heap.size_push]
  have keep' : ∀ b o, s₃.heap.get? b = some o → h'.get? b = some o := fun b o e => hs'.extBut b o (Nat.ne_of_lt (Heap.lt_size e)) (Heap.get?_push_of_some _ e)
  generalize hce : gEnv scope cl s₃.heap.objs.size code F.env = ce
  have hceL : ce.locals = s₃.heap.objs.size := by rw [← hce]; rfl
  have hceC : ce.cells = cl := by rw [← hce]; rfl
  let gst : GenState := .fresh (.compStart (.GeneratorExp elt [⟨target, iter, ifs, 0⟩] scope pos) 0 (.ref s₁.heap.objs.size) .none ce)
  let gob : Obj := { cls := .type "generator", data := .fields #[.int s₃.gens.size 0, .str "<genexpr>" (s₃.toks + 1), .str (F.env.qual ++ "<genexpr>") (s₃.toks + 1 + 1)] }
  show Q (.ref h'.objs.size) { s₃ with gens := s₃.gens.push (.fresh (.compStart (.GeneratorExp elt [⟨target, iter, ifs, 0⟩] scope pos) 0 (.ref s₁.heap.objs.size) .none (gEnv scope cl s₃.heap.objs.size code F.env))), toks := s₃.toks + 1 + 1 + 1, heap := h'.push gob }
  rw [hce]
  have keep5 : ∀ b o, s₃.heap.get? b = some o → (h'.push gob).get? b = some o := fun b o e => Heap.get?_push_of_some _ (keep' b o e)
  obtain ⟨st₅, e₅⟩ := st₃.grow (s' := { s₃ with gens := s₃.gens.push gst, toks := s₃.toks + 1 + 1 + 1, heap := h'.push gob }) keep5 (by show s₃.heap.objs.size ≤ (h'.push gob).objs.size; rw [Heap.size_push, hz']; omega) (by show s₃.gens.size ≤ (s₃.gens.push gst).size; rw [Array.size_push]; omega) (AllBare.push st₃.bare rfl) rfl
  have e25 : Step C.B F.frs [] σ₁ σ₁ s₁ { s₃ with gens := s₃.gens.push gst, toks := s₃.toks + 1 + 1 + 1, heap := h'.push gob } := (e₂.trans e₃).trans e₅
  have hit2 : s₁.heap.objs.size < s₃.heap.objs.size := Nat.lt_of_lt_of_le (by show s₁.heap.objs.size < (s₁.heap.push _).objs.size; rw [Heap.size_push]; exact Nat.lt_succ_self _) e₃.sz
  refine hQ h'.objs.size _ st₅ (e₁.trans e25) fun As hAs hhs roomS => ⟨s₃.gens.size, s₁.heap.objs.size, ce, { s₃ with gens := s₃.gens.push gst, toks := s₃.toks + 1 + 1 + 1, heap := h'.push gob }, ?_, ?_, e₁.sz, ?_⟩
  rotate_left
  · -- what is fixed
    have fresh : ∀ a, s₃.heap.objs.size ≤ a → C.B.get? a = none ∧ a ∉ F.own ∧ a ∉ F.frs := fun a ha => by
      refine ⟨st₃.freshB ha, fun h => ?_, fun h => ?_⟩
      · obtain ⟨o, ho, _⟩ := st₃.ownData h
        exact absurd (Heap.lt_size ho) (Nat.not_lt.mpr ha)
      · obtain ⟨o, _, _, ho, _⟩ := st₃.fd a h
        exact absurd (Heap.lt_size ho) (Nat.not_lt.mpr ha)
    have freshI : C.B.get? s₁.heap.objs.size = none ∧ s₁.heap.objs.size ∉ F.own ∧ s₁.heap.objs.size ∉ F.frs := by
      refine ⟨st₁.freshB (Nat.le_refl _), fun h => ?_, fun h => ?_⟩
      · obtain ⟨o, ho, _⟩ := st₁.ownData h
        exact absurd (Heap.lt_size ho) (Nat.lt_irrefl _)
      · obtain ⟨o, _, _, ho, _⟩ := st₁.fd _ h
        exact absurd (Heap.lt_size ho) (Nat.lt_irrefl _)
    refine ⟨fun b hb => ?_, fun b hb => ?_, fun hb => ?_⟩
    · rcases List.mem_cons.mp hb with rfl | hb
      · exact freshI.1
      · rcases List.mem_cons.mp hb with rfl | hb
        · rw [hceL]; exact (fresh _ (Nat.le_refl _)).1
        · cases hb
    · rcases List.mem_cons.mp hb with rfl | hb
      · exact freshI.2
      · rcases List.mem_cons.mp hb with rfl | hb
        · rw [hceL]; exact (fresh _ (Nat.le_refl _)).2
        · cases hb
    · rcases List.mem_cons.mp hb with h | hb
      · rw [hz'] at h; exact absurd h (Nat.ne_of_gt (Nat.lt_succ_of_lt hit2))
      · rcases List.mem_cons.mp hb with h | hb
        · rw [hz', hceL] at h; exact absurd h (Nat.succ_ne_self _)
        · cases hb
  · rw [hceL]; exact Nat.le_trans e₁.sz (Nat.le_of_lt hit2)
  · generalize hs5 : ({ s₃ with gens := s₃.gens.push gst, toks := s₃.toks + 1 + 1 + 1, heap := h'.push gob } : Shared) = s₅ at st₅ e₅ e25 ⊢
    have h5h : s₅.heap = h'.push gob := by rw [← hs5]
    have h5g : s₅.gens = s₃.gens.push gst := by rw [← hs5]
    have keepS : ∀ b o, s₃.heap.get? b = some o → s₅.heap.get? b = some o := fun b o e => by rw [h5h]; exact keep5 b o e
    have q3 : s₃.heap.IsListIter s₁.heap.objs.size l 0 := by
      obtain ⟨oo, hoo, hc, hd⟩ := q₂
      exact ⟨oo, e₃.k _ _ hoo (st₂.notStore hoo fun vs m q => by rw [hd] at q; cases q) (by simp) (fun ps q => by rw [q] at hc; cases hc) (.inr fun es m q => by rw [hd] at q; cases q), hc, hd⟩
    have q5 : s₅.heap.IsListIter s₁.heap.objs.size l 0 := let ⟨oo, hoo, h⟩ := q3; ⟨oo, keepS _ _ hoo, h⟩
    have n5 : s₅.heap.Ns ce.locals fun y => if y = ".0" then some (.ref s₁.heap.objs.size) else none := by
      rw [hceL, h5h]; exact hn'.push _
    have ne5 : NsNe ce fun y => if y = ".0" then some (.ref s₁.heap.objs.size) else none := .inl ⟨".0", _, if_pos rfl⟩
    have free : ∀ p ∈ cl, F.env.cells.lookup p.1 = some p.2 ∧ scope.names.lookup p.1 = some .free := fun p hp => by
      rcases closOf_mem scope.names [] cs.clos p hp with h | ⟨h1, h2⟩
      · cases h
      · exact ⟨h1, lookup_mem cs.nodup h2⟩
    have clLt : ∀ p ∈ cl, p.2 < s₁.heap.objs.size := fun p hp => by
      obtain ⟨_, v, o, ho, _⟩ := st₁.cB _ (mem_of_lookup (free p hp).1)
      exact Heap.lt_size ho
    have x5 : CFr C As F E0 s₅ ce [ce.locals] (capVars F.vars cl) := {
      out := (st₅.forget (E0_sub σ₁)).at hAs
      B := fun b hb => by
        rcases List.mem_cons.mp hb with rfl | hb
        · rw [hceL]; exact st₃.freshB (Nat.le_refl _)
        · cases hb
      ap := fun b hb => by
        rcases List.mem_cons.mp hb with rfl | hb
        · rw [hceL]
          refine ⟨fun h => ?_, fun h => ?_⟩
          · obtain ⟨o, ho, _⟩ := st₃.ownData h
            exact absurd (Heap.lt_size ho) (Nat.lt_irrefl _)
          · obtain ⟨o, _, _, ho, _⟩ := st₃.fd _ h
            exact absurd (Heap.lt_size ho) (Nat.lt_irrefl _)
        · cases hb
      sd := fun b hb => by
        rcases List.mem_cons.mp hb with rfl | hb
        · obtain ⟨o, es, ep, ho, hd, _⟩ := n5
          exact ⟨o, ho, .inl ⟨es, ep, hd⟩⟩
        · cases hb
      loc := List.mem_cons_self
      kind := by rw [← hce]; exact cs.kind
      gl := by rw [← hce]; exact st.gl
      bi := by rw [← hce]; rfl
      sub := fun b hb => by
        rcases List.mem_cons.mp hb with rfl | hb
        · exact .inl rfl
        · cases hb
      ns := ⟨_, n5, .inl ne5⟩
      cells := fun p hp => st₅.cB _ (mem_of_lookup (free p (hceC ▸ hp)).1)
      nd := by rw [hceC]; exact cl_nodup st.nd (closOf_names scope.names [] cs.clos cs.nodup List.nodup_nil (by simp)) fun p hp => mem_of_lookup (free p hp).1
      cv := fun y a e => by
        obtain ⟨hv, c', hc'⟩ := capVars_lookup F.vars y a e
        have hm := mem_of_lookup hc'
        obtain ⟨f1, f2⟩ := free _ hm
        obtain ⟨m, n, _, vs⟩ := st₅.ns
        have w := vs y a hv
        have hk' : ce.kindOf y = some .cell ∨ ce.kindOf y = some .free := .inr (by rw [← hce]; exact f2)
        have hcS : c' ∉ [ce.locals] := fun h => by
          have hlt := clLt _ hm
          rcases List.mem_cons.mp h with h | h
          · have h' : c' = s₃.heap.objs.size := h.trans hceL
            have hlt' : c' < s₁.heap.objs.size := hlt
            rw [h'] at hlt'
            exact absurd (Nat.lt_trans hlt' hit2) (Nat.lt_irrefl _)
          · cases h
        have f1' : F.env.cells.lookup y = some c' := f1
        unfold VarOk at w
        rcases cs.capt _ hm with hkk | hkk
        · rw [show F.env.kindOf y = some .cell from hkk] at w
          obtain ⟨d, u, g1, g2, g3⟩ := w
          rw [f1'] at g1; cases g1
          exact ⟨c', u, hk', by rw [hceC]; exact hc', g2, g3.sub (E0_sub _), hcS⟩
        · rw [show F.env.kindOf y = some .free from hkk] at w
          obtain ⟨d, u, g1, g2, g3⟩ := w
          rw [f1'] at g1; cases g1
          exact ⟨c', u, hk', by rw [hceC]; exact hc', g2, g3.sub (E0_sub _), hcS⟩ }
    have hlP : l ≠ P := fun h => by
      obtain ⟨ps, hP, _⟩ := ct.at_ ok st₁
      rw [h, hP] at hol; cases hol; cases hdl
    have hl5 : s₅.heap.get? l = some ol := keepS _ _ (hk₃ l ol hlP (Heap.get?_push_of_some _ hol))
    have hitl : s₁.heap.objs.size < ce.locals := by rw [hceL]; exact hit2
    have hclL : ∀ p ∈ ce.cells, p.2 < ce.locals := fun p hp => Nat.lt_trans (clLt p (hceC ▸ hp)) hitl
    have over : (As.over (.compLoop (.GeneratorExp elt [⟨target, iter, ifs, 0⟩] scope pos) 0 (.ref s₁.heap.objs.size) .none ce) []).depth ≤ As.depth + 1 ∧ (As.over (.compLoop (.GeneratorExp elt [⟨target, iter, ifs, 0⟩] scope pos) 0 (.ref s₁.heap.objs.size) .none ce) []).units ≤ As.units + 3 := by
      refine ⟨?_, ?_⟩
      · show As.depth + 0 + 1 ≤ _; omega
      · show As.units + 0 + 3 ≤ _; omega
    refine ⟨⟨gob, _, _, by rw [h5h]; exact Heap.get?_push_size _ rfl, rfl, rfl, rfl⟩, .refl .., GSok.of q5 n5 ne5 hclL, gst, by rw [h5g]; exact Array.getElem?_push_size .., fun s'' st'' e'' hal => ⟨rfl, ?_⟩⟩
    refine seg_genStart ok hhs hAs (by rw [← hce]; simp [gEnv, genEnv]) (by rw [← hce]; exact hco) x5 q5 n5 ne5 (st₁.freshB (Nat.le_refl _)) hitl hclL hl5 hdl ((ra.step e25 (.nil _)).sub (E0_sub _)) (fun s i a v ha r q => hlet _ ce _ s i a l v ha r q) pz ov (fun i a ha => ?_) s'' st'' e'' hal
    have := turn s₃.heap.objs.size code As (As.over (.compLoop (.GeneratorExp elt [⟨target, iter, ifs, 0⟩] scope pos) 0 (.ref s₁.heap.objs.size) .none ce) []) ⟨by have := over.1; have := roomS.depth; omega, by have := over.2; have := roomS.units; omega⟩ hhs (by rw [hce]; exact gen_frames hAs ⟨_, _, _, _, rfl⟩) i a ha
    rw [hce] at this
    exact this
end
end Mine
end

section
open PySem PySem.W PyProof.Rows PySem.Calls PySem.SeqAt
set_option Elab.async false
set_option maxRecDepth 100000
set_option linter.unusedVariables false
namespace Mine

section
variable {C : Cx} {A A' As : Around} {F : Fm} {σ σ' : Store} {s s' : Shared} {P : AV → Store → Prop}

/-- Tags(a generator expression), by whatever name -/
theorem Ev_CallTags (ok : C.Ok) (T : TF C.K) (mk : makesL C.K TagsC = true) (keep : keepIn C.K (.ref TagsC) = true) {j : Nat} (room : Room A (j + 3)) (hh : A.handled = none) {x : Str} {np pos gpos : Pos} {elt target iter : Expr} {ifs : List Expr} {scope : Scope} {cl : List (Str × Addr)} {c Pt : Addr}
    (name : Ev C A F σ (.Name x np) fun a σ₁ => a = .val (.ref TagsC) ∧ σ₁ = σ)
    (cs : CompS scope F.env cl) (hcode : F.env.code = .ref c) (ct : CodeT C c Pt)
    {b : AV} {k : SK} {xs : List AV} {pz : Nat → Bool} {ov : Nat → AV} (hk : k ≠ .tuple) (hi : Items σ b k xs) (hlen : (passing pz xs.length 0).length ≤ 10000)
    (he : Ev C A F σ iter fun b' σ₁ => b' = b ∧ σ₁ = σ)
    (hsim : ∀ i, simpleAV (ov i) = true)
    (hlet : ∀ (it : Addr) (ce : Env) (As : Around) (s : Shared) (i : Nat) (a : AV) (l : Addr) (v : Value), a ∈ xs → Rel E0 s.heap a v → s.heap.IsListIter it l i → ∀ Q : Unit → Shared → Prop, Q () s → wpAny C.M As (letOwnedTupleGo target (.ref it) v) Q NoE s)
    (turn : ∀ D code (As A' : Around), Room A' j → A'.handled = none → A'.frames = some (gEnv scope cl D code F.env :: F.fs) → ∀ i a, xs[i]? = some a → GTurn C As A' F (gEnv scope cl D code F.env) (capVars F.vars cl) target elt ifs (pz i) a (ov i))
    (hP : ∀ S, σ S = none → P (.obj S) (upd σ S ⟨true, (passing pz xs.length 0).map ov⟩))
    (hco : scope.isCoroutine = false := by rfl) (hcell : ∀ y ∈ scope.names, y.2 ≠ .cell := by decide) (h0 : scope.names.lookup (".0" : Str) = some NameKind.local := by rfl) (hs : ∀ x, genFold iter F.env x = pure x := by intro _; rfl) :
    Ev C A F σ (.Call (.Name x np) [.GeneratorExp elt [⟨target, iter, ifs, 0⟩] scope gpos] [] pos) P := fun s st Q hQ => by
  refine wpAny_Call_ofName (name s st _ fun a v σ₁ s₁ h₁ st₁ r₁ e₁ => ?_)
  obtain ⟨rfl, rfl⟩ := h₁
  obtain rfl := r₁.val_inv
  refine callWith_of (P := fun h => C.K.In h) rfl (fun h X => keeps_K keep h X) (evalArgs_plain (spliced_more (env := F.env) (e := .GeneratorExp elt [⟨target, iter, ifs, 0⟩] scope gpos) (rest := []) (pos := pos) ?_ (by rfl)))
  refine gen_make ok T room hh cs hco hcell h0 hcode ct hs st₁ hk hi he st₁.stack hsim hlet turn fun a s₂ st₂ e₂ ready => ?_
  refine spliced_none ⟨st₂.K ok, wpAny_call ?_⟩
  have hA : (tcA A [.ref a]).in1.in1.frames = some F.fs := st₂.stack
  have hH : (tcA A [.ref a]).in1.in1.handled = none := hh
  obtain ⟨g, it, ce, s₄, gj, fx, l1, l2⟩ := ready (tcA A [.ref a]).in1.in1 hA hH ⟨by have := room.depth; show A.depth + 1 + _ ≤ _; omega, by have := room.units; show A.units + 1 + 1 + 1 + _ + _ ≤ _; omega⟩
  refine tags_of_gen ok T mk (A := A) (A₂ := (tcA A [.ref a]).in1.in1) ⟨hh, hA, (by have := room.depth; show A.depth + 1 < 1000; omega), fx, hsim⟩ hlen (st₂.at hA) gj fun S s₃ hn st₃ e₃ => ?_
  refine hQ (.obj S) (.ref S) _ s₃ (hP S hn) (st₃.at st₂.stack) (.obj S) (e₁.trans (Step.shrink e₂ e₃ (fun b hb => .inr ?_) fun b hb => .inl hb))
  rcases List.mem_cons.mp hb with rfl | hb
  · exact l1
  · rcases List.mem_cons.mp hb with rfl | hb
    · exact l2
    · cases hb
end
end Mine
end

section
open PySem PySem.W PyProof.Rows PySem.Calls PySem.SeqAt
set_option Elab.async false
set_option maxRecDepth 100000
set_option linter.unusedVariables false
namespace Mine

section
variable {C : Cx} {A A' As : Around} {F : Fm} {σ σ' : Store} {s s' : Shared} {P : AV → Store → Prop}

theorem any_loop (ok : C.Ok) {A₀ : Around} {a g it : Addr} {ce : Env} {pz : Nat → Bool} {tr : Nat → Bool} {n : Nat} {s₄ : Shared} (cx : GCtx C A F A₀.in1 a it ce (fun i => .bool (tr i)) s₄) {R : Result → Shared → Prop} :
    ∀ (k i : Nat) (s : Shared), (passing pz n 0).length - i = k → i ≤ (passing pz n 0).length → GJ C A F A₀.in1.in1 a g it ce pz (fun i => .bool (tr i)) n s₄ i s → St C A F σ s →
      (∀ s', St C A F σ s' → Step C.B F.frs [it, ce.locals] σ σ s s' → R (.ok (.ret (.bool (((passing pz n 0).drop i).any tr)))) s') →
      codeAny C.M A₀ (.builtin "any.loop" ⟨[.ref a], []⟩) R s := by
  intro k
  induction k with
  | zero =>
    intro i s hk hi j x hR
    have hin : i = (passing pz n 0).length := by omega
    subst hin
    refine codeAny_builtin PySem.F.entry_any_loop ?_
    rw [Around.under_plainId PySem.F.plain_any_loop _]
    show wpAny C.M A₀.in1 (pyNext (.ref a) >>= _) _ _ s
    refine wpAny_bind (wpAny_noE (GJ.done cx.hh (x.lim ok) cx.room x cx.fx j fun s' st' e' => ?_))
    refine wpAny_bind (wpAny_rule (wpAny_pure ?_))
    have := hR s' st' e'
    rw [List.drop_of_length_le (Nat.le_refl _)] at this
    exact this
  | succ k ih =>
    intro i s hk hi j x hR
    have hlt : i < (passing pz n 0).length := by omega
    have hb : ((passing pz n 0).map (fun i => AV.bool (tr i)))[i]? = some (.bool (tr (passing pz n 0)[i])) := by simp [hlt]
    have hd : (passing pz n 0).drop i = (passing pz n 0)[i] :: (passing pz n 0).drop (i + 1) := List.drop_eq_getElem_cons hlt
    refine codeAny_builtin PySem.F.entry_any_loop ?_
    rw [Around.under_plainId PySem.F.plain_any_loop _]
    show wpAny C.M A₀.in1 (pyNext (.ref a) >>= _) _ _ s
    refine wpAny_bind (wpAny_noE (GJ.next cx.hh cx.hA (x.lim ok) cx.room x cx.fx j hb (fun q hq => rfl) fun v s₁ rv j₁ x₁ e₁ => ?_))
    obtain rfl := rv.bool_inv
    refine wpAny_bind (wpAny_holding (wpAny_truthy_bool (wpAny_bind (wpAny_letGo ?_))))
    cases hq : tr (passing pz n 0)[i] with
    | false =>
      simp only [Bool.false_eq_true, if_false]
      refine wpAny_pure ⟨plainId_quiet PySem.F.plain_any_loop _, ih (i + 1) _ (by omega) hlt j₁ x₁ fun s' st' e' => ?_⟩
      have := hR s' st' (e₁.trans e')
      rw [hd, List.any_cons, hq, Bool.false_or] at this
      exact this
    | true =>
      simp only [if_true]
      refine wpAny_bind (wpAny_rule (wpAny_pure ?_))
      have := hR s₁ x₁ e₁
      rw [hd, List.any_cons, hq, Bool.true_or] at this
      exact this

/-- any(a generator expression) -/
theorem Ev_CallAny (ok : C.Ok) (T : TF C.K) {j : Nat} (room : Room A (j + 3)) (hh : A.handled = none) (hg : nsIn C.K mainGlobals "any" = some none) {np pos gpos : Pos} {elt target iter : Expr} {ifs : List Expr} {scope : Scope} {cl : List (Str × Addr)} {c Pt : Addr}
    (cs : CompS scope F.env cl) (hcode : F.env.code = .ref c) (ct : CodeT C c Pt)
    {b : AV} {k : SK} {xs : List AV} {pz : Nat → Bool} {tr : Nat → Bool} (hk : k ≠ .tuple) (hi : Items σ b k xs)
    (he : Ev C A F σ iter fun b' σ₁ => b' = b ∧ σ₁ = σ)
    (hlet : ∀ (it : Addr) (ce : Env) (As : Around) (s : Shared) (i : Nat) (a : AV) (l : Addr) (v : Value), a ∈ xs → Rel E0 s.heap a v → s.heap.IsListIter it l i → ∀ Q : Unit → Shared → Prop, Q () s → wpAny C.M As (letOwnedTupleGo target (.ref it) v) Q NoE s)
    (turn : ∀ D code (As A' : Around), Room A' j → A'.handled = none → A'.frames = some (gEnv scope cl D code F.env :: F.fs) → ∀ i a, xs[i]? = some a → GTurn C As A' F (gEnv scope cl D code F.env) (capVars F.vars cl) target elt ifs (pz i) a (.bool (tr i)))
    (hP : P (.bool ((passing pz xs.length 0).any tr)) σ)
    (hkn : F.env.kindOf "any" = some .globalImplicit := by rfl) (hco : scope.isCoroutine = false := by rfl) (hcell : ∀ y ∈ scope.names, y.2 ≠ .cell := by decide) (h0 : scope.names.lookup (".0" : Str) = some NameKind.local := by rfl) (hs : ∀ x, genFold iter F.env x = pure x := by intro _; rfl) :
    Ev C A F σ (.Call (.Name "any" np) [.GeneratorExp elt [⟨target, iter, ifs, 0⟩] scope gpos] [] pos) P := fun s st Q hQ => by
  refine wpAny_Call_ofName (Ev_Builtin (P := fun a σ₁ => a = .val (.builtin "any") ∧ σ₁ = σ) ok hkn (ok.non hg) rfl (by decide) ⟨rfl, rfl⟩ (by decide) s st _ fun a v σ₁ s₁ h₁ st₁ r₁ e₁ => ?_)
  obtain ⟨rfl, rfl⟩ := h₁
  obtain rfl := r₁.val_inv
  refine callWith_of (P := fun h => C.K.In h) rfl (fun h X => KeepOk.builtin "any" h X) (evalArgs_plain (spliced_more (env := F.env) (e := .GeneratorExp elt [⟨target, iter, ifs, 0⟩] scope gpos) (rest := []) (pos := pos) ?_ (by rfl)))
  refine gen_make ok T room hh cs hco hcell h0 hcode ct hs st₁ hk hi he st₁.stack (fun _ => rfl) hlet turn fun a s₂ st₂ e₂ ready => ?_
  refine spliced_none ⟨st₂.K ok, ?_⟩
  have hA : A.in1.in1.frames = some F.fs := st₂.stack
  obtain ⟨g, it, ce, s₄, gj, fx, l1, l2⟩ := ready A.in1.in1 hA hh ⟨by have := room.depth; show A.depth + _ ≤ _; omega, by have := room.units; show A.units + 1 + 1 + _ + _ ≤ _; omega⟩
  refine call_function_tree PySem.F.kind_any PySem.F.plain_any PySem.F.entry_any (PySem.F.args_any1 _) ?_
  show wpAny C.M A.in1 (oneArg "any" ⟨[.ref a], []⟩ >>= fun v => pyIter v >>= fun it => again (.builtin "any.loop" ⟨[it], []⟩)) _ _ s₂
  refine wpAny_bind (wpAny_pure (wpAny_bind (wpAny_pyIter_gen gj.1 (wpAny_pure ⟨plainId_quiet PySem.F.plain_any_loop _, ?_⟩))))
  refine any_loop ok (A₀ := A) (A := A.in1.in1) ⟨hh, hA, (by have := room.depth; show A.depth < 1000; omega), fx, fun _ => rfl⟩ _ 0 _ rfl (Nat.zero_le _) gj (st₂.at hA) fun s₃ st₃ e₃ => ?_
  · refine hQ _ _ _ s₃ hP (st₃.at st₂.stack) (.bool _) (e₁.trans (Step.shrink e₂ e₃ (fun b hb => .inr ?_) fun b hb => .inl hb))
    rcases List.mem_cons.mp hb with rfl | hb
    · exact l1
    · rcases List.mem_cons.mp hb with rfl | hb
      · exact l2
      · cases hb
end
end Mine
end

section
open PySem PySem.W PyProof.Rows PySem.Calls PySem.SeqAt
set_option Elab.async false
set_option maxRecDepth 100000
set_option linter.unusedVariables false
namespace Mine
section
variable {C : Cx} {A : Around} {F : Fm} {σ σ' : Store} {s s' : Shared} {P : AV → Store → Prop} {PB : Bool → Store → Prop}

theorem Ev_Cmp2 {l r₁ r₂ : Expr} {op₁ op₂ : CmpOp} {pos : Pos} (h : Ev C A F σ l fun a σ₁ => Ev C A F σ₁ r₁ fun b σ₂ => O2 C A F σ₂ a b (compareOp op₁) fun c σ₃ => ∃ q, c = .bool q ∧ if q then Ev C A F σ₃ r₂ fun d σ₄ => O2 C A F σ₄ b d (compareOp op₂) P else P (.bool false) σ₃)
    (hm : lastMarks [op₁, op₂] [r₁, r₂] = false := by with_unfolding_all rfl) : Ev C A F σ (.Compare l [op₁, op₂] [r₁, r₂] pos) P :=
  fun s st Q hQ => Compare_chain (h s st _ fun a v σ₁ s₁ h₁ st₁ r₁ e₁ => chain_link (h₁ s₁ st₁ _ fun b u σ₂ s₂ h₂ st₂ r₂ e₂ => h₂ s₂ v u st₂ (r₁.step e₂ (.nil _)) r₂ _ fun c w σ₃ s₃ h₃ st₃ r₃ e₃ => by
    obtain ⟨q, rfl, hp⟩ := h₃
    obtain rfl := r₃.bool_inv
    refine wpAny_truthy_bool ?_
    cases q with
    | false => exact hQ _ _ _ _ hp st₃ (.bool _) ((e₁.trans e₂).trans e₃)
    | true => exact chain_last (hp s₃ st₃ _ fun d y σ₄ s₄ h₄ st₄ r₄ e₄ => h₄ s₄ u y st₄ ((r₂.step e₃ (.nil _)).step e₄ (.nil _)) r₄ _ fun c w σ₅ s₅ h₅ st₅ r₅ e₅ => hQ c w σ₅ s₅ h₅ st₅ r₅ ((((e₁.trans e₂).trans e₃).trans e₄).trans e₅)))) hm

theorem Ev_Or1 {e : Expr} {pos : Pos} (h : Ev C A F σ e P) : Ev C A F σ (.BoolOp .Or [e] pos) P := fun s st Q hQ => BoolOp_one (h s st Q hQ)
theorem Ev_Or {e₁ e₂ : Expr} {rest : List Expr} {pos : Pos} (h : Ev C A F σ e₁ fun a σ₁ => ∃ q, a = .bool q ∧ if q then P (.bool true) σ₁ else Ev C A F σ₁ (.BoolOp .Or (e₂ :: rest) pos) P) : Ev C A F σ (.BoolOp .Or (e₁ :: e₂ :: rest) pos) P :=
  fun s st Q hQ => BoolOp_or (h s st _ fun a v σ₁ s₁ h₁ st₁ r₁ e₁ => by
    obtain ⟨q, rfl, hp⟩ := h₁
    obtain rfl := r₁.bool_inv
    refine wpAny_truthy_bool ?_
    cases q with
    | true => exact hQ _ _ _ _ hp st₁ (.bool _) e₁
    | false => exact hp s₁ st₁ Q fun c w σ₂ s₂ h₂ st₂ r₂ e₂ => hQ c w σ₂ s₂ h₂ st₂ r₂ (e₁.trans e₂))

/-- i < (a value) < k -/
theorem Ev_Between {e : Expr} {i j k : Int} {k1 k2} {p1 p2 pos : Pos} (h : Ev C A F σ e fun a σ₁ => a = .int j ∧ P (.bool (decide (i < j) && decide (j < k))) σ₁) (hm : lastMarks [CmpOp.Lt, CmpOp.Lt] [e, Expr.Constant (.int k) k2 p2] = false := by with_unfolding_all rfl) :
    Ev C A F σ (.Compare (.Constant (.int i) k1 p1) [.Lt, .Lt] [e, .Constant (.int k) k2 p2] pos) P :=
  Ev_Cmp2 (Ev_int (h.mono fun a σ₁ ⟨ha, hP⟩ => by
    subst ha
    refine O2_ltI ⟨_, rfl, ?_⟩
    by_cases q : i < j
    · simp only [q, decide_true, if_true]
      simp only [q, decide_true, Bool.true_and] at hP
      exact Ev_int (O2_ltI hP)
    · simp only [q, decide_false, Bool.false_eq_true, if_false]
      simp only [q, decide_false, Bool.false_and] at hP
      exact hP)) hm
end

def softP (c : Int) : Bool := (decide (329 < c) && decide (c < 340)) || c == 1005
def hardP (c : Int) : Bool := (decide (339 < c) && decide (c < 350)) || ((decide (389 < c) && decide (c < 400)) || (decide (479 < c) && decide (c < 482)))
def softO (c : Int) : Bool := decide (349 < c) && decide (c < 360)
def hardO (c : Int) : Bool := decide (359 < c) && decide (c < 370)

section
variable {C : Cx} {σ : Store} {c : Int} {x : Str}
theorem fn_softP (P0 : Params) (hK : C.K = hd.heap_39 P0) (ok : C.Ok) (kf : KF C.K) : Fn C 3 148 [.tag c x] σ fun r σ' => r = .bool (softP c) ∧ σ' = σ := by
  refine Fn_at ok (FnOk.cast hK ⟨⟨_, rfl, rfl⟩, rfl, rfl, rfl, rfl, rfl, rfl, _, _, _, _, rfl, rfl, rfl, rfl⟩) rfl rfl ["tag"] rfl (fun vs h => by obtain ⟨v, rfl⟩ := len1 h; rfl) rfl (by decide) rfl (by decide) ⟨"tag", by simp, rfl⟩ fun A L fs q room hh => ?_
  dsimp only
  refine Exs_cons (Ex_Return (Ev_Or (Ev_Between (j := c) (Ev_Attr (Ev_Name rfl (O1_code P0 hK ok kf (j := 0) room hh ⟨rfl, ?_⟩))))))
  refine ⟨_, rfl, ?_⟩
  split
  · rename_i h
    exact Up.now ⟨by rw [softP, h]; rfl, rfl⟩
  · rename_i h
    have h' : (decide (329 < c) && decide (c < 340)) = false := by simpa using h
    exact Ev_Or1 (Ev_Cmp (Ev_Attr (Ev_Name rfl (O1_code P0 hK ok kf (j := 0) room hh (Ev_int (O2_eqI (Up.now ⟨by rw [softP, h', Bool.false_or], rfl⟩)))))))
theorem fn_hardP (P0 : Params) (hK : C.K = hd.heap_39 P0) (ok : C.Ok) (kf : KF C.K) : Fn C 3 155 [.tag c x] σ fun r σ' => r = .bool (hardP c) ∧ σ' = σ := by
  refine Fn_at ok (FnOk.cast hK ⟨⟨_, rfl, rfl⟩, rfl, rfl, rfl, rfl, rfl, rfl, _, _, _, _, rfl, rfl, rfl, rfl⟩) rfl rfl ["tag"] rfl (fun vs h => by obtain ⟨v, rfl⟩ := len1 h; rfl) rfl (by decide) rfl (by decide) ⟨"tag", by simp, rfl⟩ fun A L fs q room hh => ?_
  dsimp only
  refine Exs_cons (Ex_Assign (.inl rfl) (Ev_Attr (Ev_Name rfl (O1_code P0 hK ok kf (j := 0) room hh ?_))))
  refine Exs_cons (Ex_Return (Ev_Or (Ev_Between (j := c) (Ev_Name rfl ⟨rfl, ?_⟩))))
  refine ⟨_, rfl, ?_⟩
  split
  · rename_i h
    exact Up.now ⟨by rw [hardP, h]; rfl, rfl⟩
  · rename_i h
    have h' : (decide (339 < c) && decide (c < 350)) = false := by simpa using h
    refine Ev_Or (Ev_Between (j := c) (Ev_Name rfl ⟨rfl, ?_⟩))
    refine ⟨_, rfl, ?_⟩
    split
    · rename_i h2
      exact Up.now ⟨by rw [hardP, h', h2]; rfl, rfl⟩
    · rename_i h2
      have h2' : (decide (389 < c) && decide (c < 400)) = false := by simpa using h2
      exact Ev_Or1 (Ev_Between (j := c) (Ev_Name rfl ⟨rfl, Up.now ⟨by rw [hardP, h', h2']; rfl, rfl⟩⟩))
theorem fn_softO (P0 : Params) (hK : C.K = hd.heap_39 P0) (ok : C.Ok) (kf : KF C.K) : Fn C 3 162 [.tag c x] σ fun r σ' => r = .bool (softO c) ∧ σ' = σ := by
  refine Fn_at ok (FnOk.cast hK ⟨⟨_, rfl, rfl⟩, rfl, rfl, rfl, rfl, rfl, rfl, _, _, _, _, rfl, rfl, rfl, rfl⟩) rfl rfl ["tag"] rfl (fun vs h => by obtain ⟨v, rfl⟩ := len1 h; rfl) rfl (by decide) rfl (by decide) ⟨"tag", by simp, rfl⟩ fun A L fs q room hh => ?_
  dsimp only
  exact Exs_cons (Ex_Return (Ev_Between (j := c) (Ev_Attr (Ev_Name rfl (O1_code P0 hK ok kf (j := 0) room hh ⟨rfl, Up.now ⟨rfl, rfl⟩⟩)))))
theorem fn_hardO (P0 : Params) (hK : C.K = hd.heap_39 P0) (ok : C.Ok) (kf : KF C.K) : Fn C 3 169 [.tag c x] σ fun r σ' => r = .bool (hardO c) ∧ σ' = σ := by
  refine Fn_at ok (FnOk.cast hK ⟨⟨_, rfl, rfl⟩, rfl, rfl, rfl, rfl, rfl, rfl, _, _, _, _, rfl, rfl, rfl, rfl⟩) rfl rfl ["tag"] rfl (fun vs h => by obtain ⟨v, rfl⟩ := len1 h; rfl) rfl (by decide) rfl (by decide) ⟨"tag", by simp, rfl⟩ fun A L fs q room hh => ?_
  dsimp only
  exact Exs_cons (Ex_Return (Ev_Between (j := c) (Ev_Attr (Ev_Name rfl (O1_code P0 hK ok kf (j := 0) room hh ⟨rfl, Up.now ⟨rfl, rfl⟩⟩)))))
theorem fn_tclone (P0 : Params) (hK : C.K = hd.heap_39 P0) (ok : C.Ok) (kf : KF C.K) : Fn C 1 133 [.tag c x] σ fun r σ' => r = .tag c x ∧ σ' = σ := by
  refine Fn_at ok (FnOk.cast hK ⟨⟨_, rfl, rfl⟩, rfl, rfl, rfl, rfl, rfl, rfl, _, _, _, _, rfl, rfl, rfl, rfl⟩) rfl rfl ["self"] rfl (fun vs h => by obtain ⟨v, rfl⟩ := len1 h; rfl) rfl (by decide) rfl (by decide) ⟨"self", by simp, rfl⟩ fun A L fs q room hh => ?_
  dsimp only
  exact Exs_cons (Ex_Return (Ev_Name rfl (Up.now ⟨rfl, rfl⟩)))
end
end Mine
end

section
open PySem PySem.W PyProof.Rows PySem.Calls PySem.SeqAt
set_option Elab.async false
set_option maxRecDepth 100000
set_option linter.unusedVariables false
namespace Mine

/-- all that a contract needs -/
structure Bx (C : Cx) (P0 : Params) : Prop where
  hK : C.K = hd.heap_39 P0
  ok : C.Ok
  kf : KF C.K
  tab : ∀ P ∈ [178, 188, 216, 239, 300, 310, 317, 324, 331], C.B.get? P = some (tObj #[])

section
variable {C : Cx} {P0 : Params}
theorem Bx.ct (x : Bx C P0) {c P : Addr} (hP : P ∈ [178, 188, 216, 239, 300, 310, 317, 324, 331]) (h : ∃ o vs file tf flags tg inF text tt, (hd.heap_39 P0).lookup c = some o ∧ o.cls = .type "code" ∧ o.data = .fields vs ∧ vs[11]? = some (.ref P) ∧ vs.getD 11 .none = .ref P ∧ vs.getD 18 .none = .str file tf ∧
    vs.getD 7 .none = .int flags tg ∧ vs.getD 9 .none = .bool inF ∧ vs.getD 10 .none = .int text tt ∧ c ≠ P) : CodeT C c P := by
  obtain ⟨o, vs, file, tf, flags, tg, inF, text, tt, h1, h2, h3, h4, h5, h6, h7, h8, h9, h10⟩ := h
  exact ⟨o, vs, file, tf, flags, tg, inF, text, tt, by rw [x.hK]; exact h1, h2, h3, h4, h5, h6, h7, h8, h9, h10, x.tab P hP⟩

theorem Bx.mkL (x : Bx C P0) : makesL C.K TagsC = true := by rw [x.hK]; kernel_rfl
theorem ct182 (x : Bx C P0) : CodeT C 182 178 := x.ct (by simp) ⟨_, _, _, _, _, _, _, _, _, rfl, rfl, rfl, rfl, rfl, rfl, rfl, rfl, rfl, by decide⟩
theorem ct192 (x : Bx C P0) : CodeT C 192 188 := x.ct (by simp) ⟨_, _, _, _, _, _, _, _, _, rfl, rfl, rfl, rfl, rfl, rfl, rfl, rfl, rfl, by decide⟩
theorem ct220 (x : Bx C P0) : CodeT C 220 216 := x.ct (by simp) ⟨_, _, _, _, _, _, _, _, _, rfl, rfl, rfl, rfl, rfl, rfl, rfl, rfl, rfl, by decide⟩
theorem ct243 (x : Bx C P0) : CodeT C 243 239 := x.ct (by simp) ⟨_, _, _, _, _, _, _, _, _, rfl, rfl, rfl, rfl, rfl, rfl, rfl, rfl, rfl, by decide⟩
theorem ct304 (x : Bx C P0) : CodeT C 304 300 := x.ct (by simp) ⟨_, _, _, _, _, _, _, _, _, rfl, rfl, rfl, rfl, rfl, rfl, rfl, rfl, rfl, by decide⟩
theorem ct314 (x : Bx C P0) : CodeT C 314 310 := x.ct (by simp) ⟨_, _, _, _, _, _, _, _, _, rfl, rfl, rfl, rfl, rfl, rfl, rfl, rfl, rfl, by decide⟩
theorem ct321 (x : Bx C P0) : CodeT C 321 317 := x.ct (by simp) ⟨_, _, _, _, _, _, _, _, _, rfl, rfl, rfl, rfl, rfl, rfl, rfl, rfl, rfl, by decide⟩
theorem ct328 (x : Bx C P0) : CodeT C 328 324 := x.ct (by simp) ⟨_, _, _, _, _, _, _, _, _, rfl, rfl, rfl, rfl, rfl, rfl, rfl, rfl, rfl, by decide⟩
theorem ct335 (x : Bx C P0) : CodeT C 335 331 := x.ct (by simp) ⟨_, _, _, _, _, _, _, _, _, rfl, rfl, rfl, rfl, rfl, rfl, rfl, rfl, rfl, by decide⟩
end

theorem filter_range {α β : Type} (f : α → β) (p : α → Bool) (d : α) : ∀ l : List α, (((List.range l.length).filter fun i => p (l.getD i d)).map fun i => f (l.getD i d)) = (l.filter p).map f := by
  intro l
  induction l with
  | nil => rfl
  | cons a r ih =>
    rw [List.length_cons, List.range_succ_eq_map, List.filter_cons, List.filter_map, List.filter_cons]
    have h0 : (a :: r).getD 0 d = a := rfl
    have hs : ∀ i, (a :: r).getD (i + 1) d = r.getD i d := fun i => rfl
    have e : ((fun i => p ((a :: r).getD i d)) ∘ Nat.succ) = fun i => p (r.getD i d) := rfl
    rw [h0, e]
    have e2 : ∀ L : List Nat, ((L.map Nat.succ).map fun i => f ((a :: r).getD i d)) = L.map fun i => f (r.getD i d) := fun L => by
      rw [List.map_map]; rfl
    split
    · rw [List.map_cons, e2, ih]; rfl
    · rw [e2, ih]
theorem passing_list {α β : Type} (f : α → β) (p : α → Bool) (d : α) (l : List α) {n : Nat} (hn : n = l.length) : (passing (fun i => p (l.getD i d)) n 0).map (fun i => f (l.getD i d)) = (l.filter p).map f := by
  subst hn
  unfold passing
  rw [List.drop_zero]
  exact filter_range f p d l

section
variable {C : Cx} {A A' As : Around} {F : Fm} {σ σ' : Store} {s s' : Shared} {P : AV → Store → Prop}

theorem GTurn_Name {ce : Env} {cvars : List (Str × AV)} {y : Str} {p : Pos} {elt : Expr} {ifs : List Expr} {pz : Bool} {a r : AV} (hl : ce.kindOf y = some .local)
    (h : Ti C A' ⟨ce, putv cvars y a, ce :: F.fs⟩ E0 ifs (fun q σ'' => q = pz ∧ σ'' = E0)) (h2 : pz = true → Ev C A' ⟨ce, putv cvars y a, ce :: F.fs⟩ E0 elt fun b σ'' => b = r ∧ σ'' = E0) : GTurn C A A' F ce cvars (.Name y p) elt ifs pz a r :=
  ⟨putv cvars y a, fun s v x rel Q hQ => x.name_local hl rel hQ, h, h2⟩

/-- Tags(... for y in (a Tags) if ...) -/
theorem Ev_TagsOf {P0 : Params} (x : Bx C P0) {j : Nat} (room : Room A (j + 3)) (hh : A.handled = none) {nm : Str} {np pos gpos : Pos} {elt iter : Expr} {y : Str} {yp : Pos} {ifs : List Expr} {scope : Scope} {cl : List (Str × Addr)} {c Pt : Addr}
    (name : Ev C A F σ (.Name nm np) fun a σ₁ => a = .val (.ref TagsC) ∧ σ₁ = σ)
    (cs : CompS scope F.env cl) (hcode : F.env.code = .ref c) (ct : CodeT C c Pt)
    {b : AV} {l : List Pr} {f : Pr → Pr} {p : Pr → Bool} {k : SK} (hk : k ≠ .tuple) (hi : Items σ b k (tagsOf l)) (hlen : l.length ≤ 10000)
    (he : Ev C A F σ iter fun b' σ₁ => b' = b ∧ σ₁ = σ) (hl : scope.names.lookup y = some .local)
    (turn : ∀ D code (A' : Around), Room A' j → A'.handled = none → ∀ q ∈ l, let ce := gEnv scope cl D code F.env
      Ti C A' ⟨ce, putv (capVars F.vars cl) y (.tag q.1 q.2), ce :: F.fs⟩ E0 ifs (fun w σ'' => w = p q ∧ σ'' = E0) ∧ (p q = true → Ev C A' ⟨ce, putv (capVars F.vars cl) y (.tag q.1 q.2), ce :: F.fs⟩ E0 elt fun b σ'' => b = .tag (f q).1 (f q).2 ∧ σ'' = E0))
    (hP : ∀ S, σ S = none → P (.obj S) (upd σ S ⟨true, tagsOf ((l.filter p).map f)⟩))
    (hco : scope.isCoroutine = false := by rfl) (hcell : ∀ y ∈ scope.names, y.2 ≠ .cell := by decide) (h0 : scope.names.lookup (".0" : Str) = some NameKind.local := by rfl) (hs : ∀ x, genFold iter F.env x = pure x := by intro _; rfl) :
    Ev C A F σ (.Call (.Name nm np) [.GeneratorExp elt [⟨.Name y yp, iter, ifs, 0⟩] scope gpos] [] pos) P := by
  have e : (passing (fun i => p (l.getD i ((0, "") : Pr))) (tagsOf l).length 0).map (fun i => AV.tag (f (l.getD i ((0, "") : Pr))).1 (f (l.getD i ((0, "") : Pr))).2) = tagsOf ((l.filter p).map f) := by
    rw [passing_list (fun q => AV.tag (f q).1 (f q).2) p ((0, "") : Pr) l (by simp [tagsOf])]
    simp [tagsOf, List.map_map, Function.comp_def]
  refine Ev_CallTags x.ok x.kf.T x.mkL x.kf.kvTags room hh name cs hcode ct (pz := fun i => p (l.getD i ((0, "") : Pr))) (ov := fun i => AV.tag (f (l.getD i ((0, "") : Pr))).1 (f (l.getD i ((0, "") : Pr))).2) hk hi ?_ he (fun _ => rfl) (fun it ce As s i a l v _ _ _ Q hQ => wpAny_of_eq (a := ()) (rfl : letOwnedTupleGo (.Name y yp) (.ref it) v = pure ()) hQ) (fun D code As A' hroom hh' hfr i a ha => ?_) (fun S hS => ?_) hco hcell h0 hs
  · have := congrArg List.length e
    rw [List.length_map] at this
    rw [this]
    have := List.length_filter_le p l
    simp [tagsOf]; omega
  · obtain ⟨q, hq, rfl⟩ : ∃ q, l[i]? = some q ∧ .tag q.1 q.2 = a := by simpa [tagsOf] using ha
    have hg : l.getD i ((0, "") : Pr) = q := by rw [List.getD_eq_getElem?_getD, hq]; rfl
    rw [hg]
    have := turn D code A' hroom hh' q (List.mem_of_getElem? hq)
    exact GTurn_Name hl this.1 this.2
  · rw [e]; exact hP S hS
end
end Mine
end

section
open PySem PySem.W PyProof.Rows PySem.Calls PySem.SeqAt
set_option Elab.async false
set_option maxRecDepth 100000
set_option linter.unusedVariables false
namespace Mine
/-- a new Tags with these -/
abbrev NewT (σ : Store) (l : List Pr) : AV → Store → Prop := fun r σ' => ∃ S, σ S = none ∧ r = .obj S ∧ σ' = upd σ S ⟨true, tagsOf l⟩

section
variable {C : Cx} {P0 : Params} {σ : Store} {a : Addr} {l : List Pr}

theorem fn_find_all (x : Bx C P0) {code : Int} (ha : σ a = some ⟨true, tagsOf l⟩) (hl : l.length ≤ 1000) : Fn C 7 244 [.obj a, .int code] σ (NewT σ (l.filter fun q => q.1 == code)) := by
  refine Fn_at x.ok (FnOk.cast x.hK ⟨⟨_, rfl, rfl⟩, rfl, rfl, rfl, rfl, rfl, rfl, _, _, _, _, rfl, rfl, rfl, rfl⟩) rfl rfl ["self", "code"] rfl (fun vs h => by obtain ⟨v, u, rfl⟩ := len2 h; rfl) rfl (by decide) rfl (by decide) ⟨"self", by simp, rfl⟩ fun A L fs q room hh => ?_
  dsimp only
  refine Exs_cons (Ex_Return (Ev_TagsOf x (j := 3) room hh (Ev_Global x.ok rfl (x.ok.val x.kf.vTags) (fun h => .val _) ⟨rfl, rfl⟩) (cl := [("code", L + 1)]) ⟨rfl, rfl, by decide, by simp; exact .inl rfl⟩ rfl (ct243 x) (by nofun) (.tags ha) (by omega) (Ev_Name rfl ⟨rfl, rfl⟩) rfl (f := id) (p := fun q => q.1 == code) (fun D cd A' room' hh' q hq => ⟨Ti_one (Te_Cmp (Ev_Attr (Ev_Name rfl (O1_code P0 x.hK x.ok x.kf (j := 1) room' hh' (Ev_Name rfl (O2_eqI ⟨_, rfl, rfl, rfl⟩)))))), fun _ => Ev_Name rfl ⟨rfl, rfl⟩⟩) fun S hS => Up.now ⟨S, hS, rfl, by simp⟩))
theorem fn_clone (x : Bx C P0) (ha : σ a = some ⟨true, tagsOf l⟩) (hl : l.length ≤ 1000) : Fn C 7 193 [.obj a] σ (NewT σ l) := by
  refine Fn_at x.ok (FnOk.cast x.hK ⟨⟨_, rfl, rfl⟩, rfl, rfl, rfl, rfl, rfl, rfl, _, _, _, _, rfl, rfl, rfl, rfl⟩) rfl rfl ["self"] rfl (fun vs h => by obtain ⟨v, rfl⟩ := len1 h; rfl) rfl (by decide) rfl (by decide) ⟨"self", by simp, rfl⟩ fun A L fs q room hh => ?_
  dsimp only
  refine Exs_cons (Ex_Return (Ev_TagsOf x (j := 3) room hh (Ev_Global x.ok rfl (x.ok.val x.kf.vTags) (fun h => .val _) ⟨rfl, rfl⟩) (cl := []) ⟨rfl, rfl, by decide, by simp⟩ rfl (ct192 x) (by nofun) (.tags ha) (by omega) (Ev_Name rfl ⟨rfl, rfl⟩) rfl (f := id) (p := fun q => true) (fun D cd A' room' hh' q hq => ⟨Ti_nil ⟨rfl, rfl⟩, fun _ => ?_⟩) fun S hS => Up.now ⟨S, hS, rfl, by rw [List.filter_eq_self.mpr (by simp)]; simp⟩))
  exact Ev_Meth x.ok (Ev_Name rfl ⟨_, _, MethTo_tag x.ok x.kf.pt x.kf.tclone x.kf.ttclone, KeepOk.ref x.kf.ktclone, Sp_nil (Fn.on (fn_tclone P0 x.hK x.ok x.kf) room' (by omega) hh')⟩)
theorem fn_has_tag (x : Bx C P0) {code : Int} (ha : σ a = some ⟨true, tagsOf l⟩) (hl : l.length ≤ 1000) : Fn C 7 221 [.obj a, .int code] σ fun r σ' => r = .bool (l.any fun q => q.1 == code) ∧ σ' = σ := by
  refine Fn_at x.ok (FnOk.cast x.hK ⟨⟨_, rfl, rfl⟩, rfl, rfl, rfl, rfl, rfl, rfl, _, _, _, _, rfl, rfl, rfl, rfl⟩) rfl rfl ["self", "code"] rfl (fun vs h => by obtain ⟨v, u, rfl⟩ := len2 h; rfl) rfl (by decide) rfl (by decide) ⟨"self", by simp, rfl⟩ fun A L fs q room hh => ?_
  dsimp only
  refine Exs_cons (Ex_Return (Ev_CallAny x.ok x.kf.T (j := 3) room hh x.kf.nany (cl := [("code", L + 1)]) ⟨rfl, rfl, by decide, by simp; exact .inl rfl⟩ rfl (ct220 x) (pz := fun _ => true) (tr := fun i => (l.getD i ((0, "") : Pr)).1 == code) (by nofun) (.tags ha) (Ev_Name rfl ⟨rfl, rfl⟩) (fun it ce As s i a l v _ _ _ Q hQ => wpAny_of_eq (a := ()) (by rfl) hQ) (fun D cd As A' room' hh' hfr i a ha => ?_) (Up.now ⟨?_, rfl⟩)))
  · obtain ⟨q, hq, rfl⟩ : ∃ q, l[i]? = some q ∧ .tag q.1 q.2 = a := by simpa [tagsOf] using ha
    have hg : l.getD i ((0, "") : Pr) = q := by rw [List.getD_eq_getElem?_getD, hq]; rfl
    dsimp only
    rw [hg]
    exact GTurn_Name rfl (Ti_nil ⟨rfl, rfl⟩) fun _ => Ev_Cmp (Ev_Attr (Ev_Name rfl (O1_code P0 x.hK x.ok x.kf (j := 1) room' hh' (Ev_Name rfl (O2_eqI ⟨rfl, rfl⟩)))))
  · have := passing_list (fun q : Pr => q.1 == code) (fun _ => true) ((0, "") : Pr) l (n := (tagsOf l).length) (by simp [tagsOf])
    have h2 := congrArg (List.any · id) this
    simp only [List.any_map, Function.comp_def, id] at h2
    rw [List.filter_eq_self.mpr (by simp)] at h2
    exact congrArg AV.bool h2
end

section
variable {C : Cx} {P0 : Params} {σ : Store} {a : Addr} {l : List Pr}
theorem fn_soft_pointers (x : Bx C P0) (ha : σ a = some ⟨true, tagsOf l⟩) (hl : l.length ≤ 1000) : Fn C 8 315 [.obj a] σ (NewT σ (l.filter fun q => softP q.1)) := by
  refine Fn_at x.ok (FnOk.cast x.hK ⟨⟨_, rfl, rfl⟩, rfl, rfl, rfl, rfl, rfl, rfl, _, _, _, _, rfl, rfl, rfl, rfl⟩) rfl rfl ["self"] rfl (fun vs h => by obtain ⟨v, rfl⟩ := len1 h; rfl) rfl (by decide) rfl (by decide) ⟨"self", by simp, rfl⟩ fun A L fs q room hh => ?_
  dsimp only
  exact Exs_cons (Ex_Return (Ev_TagsOf x (j := 4) room hh (Ev_Global x.ok rfl (x.ok.val x.kf.vTags) (fun h => .val _) ⟨rfl, rfl⟩) (cl := []) ⟨rfl, rfl, by decide, by simp⟩ rfl (ct314 x) (by nofun) (.tags ha) (by omega) (Ev_Name rfl ⟨rfl, rfl⟩) rfl (f := id) (p := fun q => softP q.1) (fun D cd A' room' hh' q hq => ⟨Ti_one (Te_val (Ev_CallFn x.ok x.kf.vis_soft_pointer x.kf.kvis_soft_pointer room' hh' (Sp_cons (Ev_Name rfl (Sp_nil ⟨3, by omega, (fn_softP P0 x.hK x.ok x.kf).mono fun r σ' ⟨h1, h2⟩ => by subst h1; subst h2; exact B1_bool ⟨rfl, rfl⟩⟩))))), fun _ => Ev_Name rfl ⟨rfl, rfl⟩⟩) fun S hS => Up.now ⟨S, hS, rfl, by simp⟩))
theorem fn_hard_pointers (x : Bx C P0) (ha : σ a = some ⟨true, tagsOf l⟩) (hl : l.length ≤ 1000) : Fn C 8 322 [.obj a] σ (NewT σ (l.filter fun q => hardP q.1)) := by
  refine Fn_at x.ok (FnOk.cast x.hK ⟨⟨_, rfl, rfl⟩, rfl, rfl, rfl, rfl, rfl, rfl, _, _, _, _, rfl, rfl, rfl, rfl⟩) rfl rfl ["self"] rfl (fun vs h => by obtain ⟨v, rfl⟩ := len1 h; rfl) rfl (by decide) rfl (by decide) ⟨"self", by simp, rfl⟩ fun A L fs q room hh => ?_
  dsimp only
  exact Exs_cons (Ex_Return (Ev_TagsOf x (j := 4) room hh (Ev_Global x.ok rfl (x.ok.val x.kf.vTags) (fun h => .val _) ⟨rfl, rfl⟩) (cl := []) ⟨rfl, rfl, by decide, by simp⟩ rfl (ct321 x) (by nofun) (.tags ha) (by omega) (Ev_Name rfl ⟨rfl, rfl⟩) rfl (f := id) (p := fun q => hardP q.1) (fun D cd A' room' hh' q hq => ⟨Ti_one (Te_val (Ev_CallFn x.ok x.kf.vis_hard_pointer x.kf.kvis_hard_pointer room' hh' (Sp_cons (Ev_Name rfl (Sp_nil ⟨3, by omega, (fn_hardP P0 x.hK x.ok x.kf).mono fun r σ' ⟨h1, h2⟩ => by subst h1; subst h2; exact B1_bool ⟨rfl, rfl⟩⟩))))), fun _ => Ev_Name rfl ⟨rfl, rfl⟩⟩) fun S hS => Up.now ⟨S, hS, rfl, by simp⟩))
theorem fn_soft_owners (x : Bx C P0) (ha : σ a = some ⟨true, tagsOf l⟩) (hl : l.length ≤ 1000) : Fn C 8 329 [.obj a] σ (NewT σ (l.filter fun q => softO q.1)) := by
  refine Fn_at x.ok (FnOk.cast x.hK ⟨⟨_, rfl, rfl⟩, rfl, rfl, rfl, rfl, rfl, rfl, _, _, _, _, rfl, rfl, rfl, rfl⟩) rfl rfl ["self"] rfl (fun vs h => by obtain ⟨v, rfl⟩ := len1 h; rfl) rfl (by decide) rfl (by decide) ⟨"self", by simp, rfl⟩ fun A L fs q room hh => ?_
  dsimp only
  exact Exs_cons (Ex_Return (Ev_TagsOf x (j := 4) room hh (Ev_Global x.ok rfl (x.ok.val x.kf.vTags) (fun h => .val _) ⟨rfl, rfl⟩) (cl := []) ⟨rfl, rfl, by decide, by simp⟩ rfl (ct328 x) (by nofun) (.tags ha) (by omega) (Ev_Name rfl ⟨rfl, rfl⟩) rfl (f := id) (p := fun q => softO q.1) (fun D cd A' room' hh' q hq => ⟨Ti_one (Te_val (Ev_CallFn x.ok x.kf.vis_soft_owner x.kf.kvis_soft_owner room' hh' (Sp_cons (Ev_Name rfl (Sp_nil ⟨3, by omega, (fn_softO P0 x.hK x.ok x.kf).mono fun r σ' ⟨h1, h2⟩ => by subst h1; subst h2; exact B1_bool ⟨rfl, rfl⟩⟩))))), fun _ => Ev_Name rfl ⟨rfl, rfl⟩⟩) fun S hS => Up.now ⟨S, hS, rfl, by simp⟩))
theorem fn_hard_owners (x : Bx C P0) (ha : σ a = some ⟨true, tagsOf l⟩) (hl : l.length ≤ 1000) : Fn C 8 336 [.obj a] σ (NewT σ (l.filter fun q => hardO q.1)) := by
  refine Fn_at x.ok (FnOk.cast x.hK ⟨⟨_, rfl, rfl⟩, rfl, rfl, rfl, rfl, rfl, rfl, _, _, _, _, rfl, rfl, rfl, rfl⟩) rfl rfl ["self"] rfl (fun vs h => by obtain ⟨v, rfl⟩ := len1 h; rfl) rfl (by decide) rfl (by decide) ⟨"self", by simp, rfl⟩ fun A L fs q room hh => ?_
  dsimp only
  exact Exs_cons (Ex_Return (Ev_TagsOf x (j := 4) room hh (Ev_Global x.ok rfl (x.ok.val x.kf.vTags) (fun h => .val _) ⟨rfl, rfl⟩) (cl := []) ⟨rfl, rfl, by decide, by simp⟩ rfl (ct335 x) (by nofun) (.tags ha) (by omega) (Ev_Name rfl ⟨rfl, rfl⟩) rfl (f := id) (p := fun q => hardO q.1) (fun D cd A' room' hh' q hq => ⟨Ti_one (Te_val (Ev_CallFn x.ok x.kf.vis_hard_owner x.kf.kvis_hard_owner room' hh' (Sp_cons (Ev_Name rfl (Sp_nil ⟨3, by omega, (fn_hardO P0 x.hK x.ok x.kf).mono fun r σ' ⟨h1, h2⟩ => by subst h1; subst h2; exact B1_bool ⟨rfl, rfl⟩⟩))))), fun _ => Ev_Name rfl ⟨rfl, rfl⟩⟩) fun S hS => Up.now ⟨S, hS, rfl, by simp⟩))
end
end Mine
end

section
open PySem PySem.W PyProof.Rows PySem.Calls PySem.SeqAt
set_option Elab.async false
set_option maxRecDepth 100000
set_option linter.unusedVariables false
namespace Mine

abbrev lk (vars : List (Str × AV)) (x : Str) : Option AV := vars.lookup x
theorem lk_self {l : List (Str × AV)} {x : Str} {a : AV} : (putv l x a).lookup x = some a := by rw [putv_lookup, if_pos rfl]
theorem lk_ne {l : List (Str × AV)} {x z : Str} {a b : AV} (h : l.lookup z = some b) (hne : z ≠ x) : (putv l x a).lookup z = some b := by rw [putv_lookup, if_neg hne, h]
theorem tagsOf_get {l : List Pr} {i : Nat} {v : AV} (h : (tagsOf l)[i]? = some v) : ∃ q, l[i]? = some q ∧ v = .tag q.1 q.2 := by
  obtain ⟨q, h1, h2⟩ : ∃ q, l[i]? = some q ∧ .tag q.1 q.2 = v := by simpa [tagsOf] using h
  exact ⟨q, h1, h2.symm⟩
theorem datsOf_get {l : List Pr} {i : Nat} {v : AV} (h : (datsOf l)[i]? = some v) : ∃ q, l[i]? = some q ∧ v = .dat (prD q) := by
  obtain ⟨q, h1, h2⟩ : ∃ q, l[i]? = some q ∧ .dat (prD q) = v := by simpa [datsOf] using h
  exact ⟨q, h1, h2.symm⟩
theorem forall_take_succ {α : Type} {l : List α} {i : Nat} {q : α} {p : α → Prop} (h : ∀ x ∈ l.take i, p x) (hq : l[i]? = some q) (hp : p q) : ∀ x ∈ l.take (i + 1), p x := fun x hx => by
  rw [List.take_add_one, hq] at hx
  rcases List.mem_append.mp hx with hx | hx
  · exact h x hx
  · rw [Option.mem_toList] at hx
    cases hx; exact hp

/-- what the machine can write down -/
abbrev Ok (l : List Pr) : Prop := ∀ q ∈ l, shaped (.str q.2) = true
def embQ (q : Pr) : Bool := q.1 == 101 && q.2 == ("Embedded Object" : Str)

section
variable {C : Cx} {P0 : Params} {σ : Store} {a : Addr} {l : List Pr}

theorem fn_emb (x : Bx C P0) (ha : σ a = some ⟨true, tagsOf l⟩) (hl : Ok l) : Fn C 3 298 [.obj a] σ fun r σ' => r = .bool (l.any embQ) ∧ σ' = σ := by
  refine Fn_at x.ok (FnOk.cast x.hK ⟨⟨_, rfl, rfl⟩, rfl, rfl, rfl, rfl, rfl, rfl, _, _, _, _, rfl, rfl, rfl, rfl⟩) rfl rfl ["self"] rfl (fun vs h => by obtain ⟨v, rfl⟩ := len1 h; rfl) rfl (by decide) rfl (by decide) ⟨"self", by simp, rfl⟩ fun A L fs q room hh => ?_
  obtain ⟨tm, hm⟩ := x.kf.marker
  obtain ⟨te, hemb⟩ := x.kf.embstr
  dsimp only
  refine Exs_cons (Ex_For x.ok x.kf.T hh (Ev_Name rfl ⟨tagsOf l, .seq (by nofun) (.tags ha), LetOk_Name, fun i vars σ' => lk vars "self" = some (.obj a) ∧ σ' = σ ∧ ∀ q ∈ l.take i, embQ q = false, ⟨rfl, rfl, by simp⟩, ?_, ?_⟩))
  · rintro i v vars σ' hv ⟨h1, rfl, h3⟩
    obtain ⟨q, hq, rfl⟩ := tagsOf_get hv
    have again : embQ q = false → UpV (fun v0 σ0 => Src σ0 (.obj a) (tagsOf l) ∧ lk v0 "self" = some (.obj a) ∧ σ0 = σ' ∧ ∀ q ∈ l.take (i + 1), embQ q = false) (putv vars "tag" (.tag q.1 q.2)) σ' := fun hq' =>
      UpV.now ⟨.seq (by nofun) (.tags ha), lk_ne h1 (by decide), rfl, forall_take_succ h3 hq hq'⟩
    refine ⟨.seq (by nofun) (.tags ha), Asg_Name (.inl rfl) ⟨.seq (by nofun) (.tags ha), Exs_cons <| Ex_If <| Te_BoolOp <| Ta_and <| Te_Cmp <| Ev_Attr <| Ev_Name lk_self <| O1_code P0 x.hK x.ok x.kf (j := 0) room hh <| Ev_Global x.ok rfl (x.ok.val hm) (fun h => .int _ _) <| O2_eqI ⟨_, rfl, ?_⟩⟩⟩
    by_cases hc : q.1 = 101
    · rw [if_pos (by simpa using hc)]
      refine Ta_and <| Te_Cmp <| Ev_Attr <| Ev_Name lk_self <| O1_value P0 x.hK x.ok x.kf (j := 0) room hh <| Ev_Global x.ok rfl (x.ok.val hemb) (fun h => .str _ _) <| O2_eqD (room.less (Nat.zero_le _)) (.dat _) (.dat _) (hl q (List.mem_of_getElem? hq)) (by decide +kernel) ⟨_, rfl, ?_⟩
      have e : PyData.eqv (.str q.2) (.str "Embedded Object") = (q.2 == ("Embedded Object" : Str)) := rfl
      rw [e]
      by_cases hs : q.2 = "Embedded Object"
      · rw [if_pos (by simpa using hs)]
        refine Ta_andNil ?_
        refine Exs_cons (Ex_Return (Ev_bool (Up.now ⟨?_, rfl⟩)))
        have : embQ q = true := by simp [embQ, hc, hs]
        rw [List.any_eq_true.mpr ⟨q, List.mem_of_getElem? hq, this⟩]
      · rw [if_neg (by simpa using hs)]
        exact Exs_nil <| Exs_nil (again (by simp [embQ, hs]))
    · rw [if_neg (by simpa using hc)]
      exact Exs_nil <| Exs_nil (again (by simp [embQ, hc]))
  · rintro vars σ' ⟨h1, rfl, h3⟩
    refine Exs_cons (Ex_Return (Ev_bool (Up.now ⟨?_, rfl⟩)))
    have : l.any embQ = false := List.any_eq_false.mpr fun q hq => by
      have := h3 q (by rw [List.take_of_length_le (by simp [tagsOf])]; exact hq)
      simp [this]
    rw [this]

theorem fn_dxftype (x : Bx C P0) {q0 : Pr} (ha : σ a = some ⟨true, tagsOf l⟩) (h0 : l[0]? = some q0) : Fn C 3 214 [.obj a] σ fun r σ' => r = .str q0.2 ∧ σ' = σ := by
  refine Fn_at x.ok (FnOk.cast x.hK ⟨⟨_, rfl, rfl⟩, rfl, rfl, rfl, rfl, rfl, rfl, _, _, _, _, rfl, rfl, rfl, rfl⟩) rfl rfl ["self"] rfl (fun vs h => by obtain ⟨v, rfl⟩ := len1 h; rfl) rfl (by decide) rfl (by decide) ⟨"self", by simp, rfl⟩ fun A L fs q room hh => ?_
  dsimp only
  exact Exs_cons (Ex_Return (Ev_Attr (Ev_Sub (Ev_Name rfl (Ev_int (O2_item (x := .tag q0.1 q0.2) x.ok x.kf.T (.tags ha) (by decide) (by simp [tagsOf, h0]) (by decide) (O1_value P0 x.hK x.ok x.kf (j := 0) room hh (Up.now ⟨rfl, rfl⟩))))))))
end

/-- the first place from i, before j -/
def firstAt (l : List Pr) (code : Int) (i j : Nat) : Option Nat := (List.range' i (j - i)).find? fun k => (l.getD k ((0, "") : Pr)).1 == code
def optAV : Option Nat → AV
  | none => .none
  | some n => .int n

section
variable {C : Cx} {P0 : Params} {σ : Store} {pv : AV} {l : List Pr}
theorem fn_first (x : Bx C P0) {code : Int} {i j : Nat} (hp : Items σ pv .list (datsOf l)) (hj : j ≤ l.length) (hl : l.length ≤ 1000) (hi : i ≤ 1000) : Fn C 2 374 [pv, .int code, .int i, .int j] σ fun r σ' => r = optAV (firstAt l code i j) ∧ σ' = σ := by
  refine Fn_at x.ok (FnOk.cast x.hK ⟨⟨_, rfl, rfl⟩, rfl, rfl, rfl, rfl, rfl, rfl, _, _, _, _, rfl, rfl, rfl, rfl⟩) rfl rfl ["pairs", "code", "start", "stop"] rfl (fun vs h => by obtain ⟨v, u, w, z, rfl⟩ := len4 h; rfl) rfl (by decide) rfl (by decide) ⟨"pairs", by simp, rfl⟩ fun A L fs q room hh => ?_
  dsimp only
  have hn : ((j : Int) - (i : Int)).toNat = j - i := by omega
  have src : Src σ (.rng i j) ((List.range (j - i)).map fun k : Nat => AV.int (i + k)) := .rng rfl (by rw [hn]) (by omega) (by omega) (by omega) (by omega)
  refine Exs_cons <| Ex_For x.ok x.kf.T hh <| Ev_CallT x.ok x.kf.nrange rfl <| Sp_cons <| Ev_Name rfl <| Sp_cons <| Ev_Name rfl <| Sp_nil <| On_range2 ⟨_, src, LetOk_Name, fun k vars σ' => lk vars "pairs" = some pv ∧ lk vars "code" = some (.int code) ∧ σ' = σ ∧ ∀ m ∈ (List.range' i (j - i)).take k, ((l.getD m ((0, "") : Pr)).1 == code) = false, ⟨rfl, rfl, rfl, by simp⟩, ?_, ?_⟩
  · rintro k v vars σ' hv ⟨h1, h2, rfl, h3⟩
    have hk : k < j - i := by
      rcases Nat.lt_or_ge k (j - i) with h | h
      · exact h
      · rw [List.getElem?_eq_none (by simpa using h)] at hv; cases hv
    have hv' : v = .int ((i + k : Nat) : Int) := by
      rw [List.getElem?_map, List.getElem?_range hk] at hv
      simp at hv; rw [← hv]; simp
    subst hv'
    have hlt : i + k < l.length := by omega
    have hit : (datsOf l)[((i + k : Nat) : Int).toNat]? = some (.dat (prD l[i + k])) := by rw [Int.toNat_natCast]; simp [datsOf, hlt]
    have hg : l.getD (i + k) ((0, "") : Pr) = l[i + k] := by simp [List.getD_eq_getElem?_getD, hlt]
    have hr : (List.range' i (j - i))[k]? = some (i + k) := by rw [List.getElem?_range' hk]; simp
    refine ⟨src, Asg_Name (.inl rfl) ⟨src, Exs_cons <| Ex_If <| Te_Cmp <| Ev_Sub <| Ev_Sub <| Ev_Name (lk_ne h1 (by decide)) <| Ev_Name lk_self <| O2_item x.ok x.kf.T hp (by omega) hit (by omega) <| Ev_int <| O2_item (x := .int l[i+k].1) x.ok x.kf.T (.datT _) (by decide) rfl (by decide) <| Ev_Name (lk_ne h2 (by decide)) <| O2_eqI ⟨_, rfl, ?_⟩⟩⟩
    split
    · rename_i hc
      refine Exs_cons (Ex_Return (Ev_Name lk_self (Up.now ⟨?_, rfl⟩)))
      have : firstAt l code i j = some (i + k) := by
        unfold firstAt
        rw [List.find?_eq_some_iff_append]
        refine ⟨by rw [hg]; exact hc, (List.range' i (j - i)).take k, (List.range' i (j - i)).drop (k + 1), ?_, fun m hm => by rw [h3 m hm]; rfl⟩
        have e := List.drop_eq_getElem_cons (l := List.range' i (j - i)) (i := k) (by simpa using hk)
        rw [List.getElem_range'] at e
        simp only [Nat.one_mul] at e
        rw [← e, List.take_append_drop]
      rw [this]; rfl
    · rename_i hc
      refine Exs_nil <| Exs_nil (UpV.now ⟨src, lk_ne h1 (by decide), lk_ne h2 (by decide), rfl, forall_take_succ h3 hr (by rw [hg]; simpa using hc)⟩)
  · rintro vars σ' ⟨h1, h2, rfl, h3⟩
    refine Exs_cons (Ex_Return (Ev_none (Up.now ⟨?_, rfl⟩)))
    have : firstAt l code i j = none := by
      unfold firstAt
      rw [List.find?_eq_none]
      intro m hm
      have := h3 m (by rw [List.take_of_length_le (by simp)]; exact hm)
      rw [this]; exact Bool.false_ne_true
    rw [this]; rfl
end
end Mine
end

section
open PySem PySem.W PyProof.Rows PySem.Calls PySem.SeqAt
set_option Elab.async false
set_option maxRecDepth 100000
set_option linter.unusedVariables false
namespace Mine

def codesL : List Int := [0, 5, 105, 8, 8, 330, 340, 350, 360, 101, 1005, 480]
def valuesL : List Str := ["LINE", "FF", "A0", "Embedded Object", "x"]
def codes6 : List Int := [5, 8, 330, 340, 0, 105]
def pairOf (xs : List Int) (st : CS) : Pr × CS :=
  ((codesL.getD (take xs st 12).1.toNat 0, valuesL.getD (take xs (take xs st 12).2 5).1.toNat ""), (take xs (take xs st 12).2 5).2)
def codesGo (xs : List Int) : Nat → CS → List Int × CS
  | 0, st => ([], st)
  | n + 1, st => ((codesGo xs n st).1 ++ [codes6.getD (take xs (codesGo xs n st).2 6).1.toNat 0], (take xs (codesGo xs n st).2 6).2)
def codesOf (xs : List Int) (st : CS) : List Int × CS := codesGo xs (1 + (take xs st 3).1.toNat) (take xs st 3).2

theorem take_range {xs : List Int} {st : CS} {many : Int} (h : 0 < many) : 0 ≤ (take xs st many).1 ∧ (take xs st many).1 < many :=
  ⟨Int.emod_nonneg _ (by omega), Int.emod_lt_of_pos _ h⟩
theorem take_p {xs : List Int} {st : CS} {many : Int} : (take xs st many).2.p ≤ st.p + 1 := by
  show (refill xs st many).p ≤ _
  unfold refill
  split
  · exact Nat.le_refl _
  · exact Nat.le_succ _
theorem pairOf_p {xs : List Int} {st : CS} : (pairOf xs st).2.p ≤ st.p + 2 := by
  have h1 := take_p (xs := xs) (st := st) (many := 12)
  have h2 := take_p (xs := xs) (st := (take xs st 12).2) (many := 5)
  show (take xs (take xs st 12).2 5).2.p ≤ _
  omega
theorem codesGo_p {xs : List Int} {st : CS} : ∀ n, (codesGo xs n st).2.p ≤ st.p + n
  | 0 => Nat.le_refl _
  | n + 1 => by
    have h1 := codesGo_p (xs := xs) (st := st) n
    have h2 := take_p (xs := xs) (st := (codesGo xs n st).2) (many := 6)
    show (take xs (codesGo xs n st).2 6).2.p ≤ _
    omega
theorem codesOf_p {xs : List Int} {st : CS} : (codesOf xs st).2.p ≤ st.p + 4 := by
  have h0 := take_range (xs := xs) (st := st) (many := 3) (by decide)
  have h1 := take_p (xs := xs) (st := st) (many := 3)
  have h2 := codesGo_p (xs := xs) (st := (take xs st 3).2) (1 + (take xs st 3).1.toNat)
  show (codesGo xs (1 + (take xs st 3).1.toNat) (take xs st 3).2).2.p ≤ _
  omega
theorem codesGo_len {xs : List Int} {st : CS} : ∀ n, (codesGo xs n st).1.length = n
  | 0 => rfl
  | n + 1 => by
    show ((codesGo xs n st).1 ++ [_]).length = _
    rw [List.length_append, codesGo_len n]; rfl
theorem getD_get {α : Type} {l : List α} {i : Nat} {d : α} (h : i < l.length) : l[i]? = some (l.getD i d) := by
  rw [List.getD_eq_getElem?_getD, List.getElem?_eq_getElem h]; rfl

def asInts : List Expr → Option (List Int)
  | [] => some []
  | .Constant (.int i) _ _ :: r => (asInts r).map (i :: ·)
  | _ => none
def asStrs : List Expr → Option (List Str)
  | [] => some []
  | .Constant (.str i) _ _ :: r => (asStrs r).map (i :: ·)
  | _ => none
section
variable {C : Cx} {A : Around} {F : Fm} {σ : Store} {P : AV → Store → Prop}
theorem Sp_ints : ∀ {es : List Expr} {is : List Int} {P : List AV → Store → Prop}, asInts es = some is → P (is.map AV.int) σ → Sp C A F σ es P
  | [], is, P, h, hP => by cases h; exact Sp_nil hP
  | e :: r, is, P, h, hP => by
    unfold asInts at h
    split at h
    · cases h; rename_i e; cases e
    · rename_i i k p r' e
      cases e
      obtain ⟨js, hj, rfl⟩ := Option.map_eq_some_iff.mp h
      exact Sp_cons (Ev_int (Sp_ints hj hP))
    · cases h
theorem Sp_strs : ∀ {es : List Expr} {is : List Str} {P : List AV → Store → Prop}, asStrs es = some is → P (is.map AV.str) σ → Sp C A F σ es P
  | [], is, P, h, hP => by cases h; exact Sp_nil hP
  | e :: r, is, P, h, hP => by
    unfold asStrs at h
    split at h
    · cases h; rename_i e; cases e
    · rename_i i k p r' e
      cases e
      obtain ⟨js, hj, rfl⟩ := Option.map_eq_some_iff.mp h
      exact Sp_cons (Ev_str (Sp_strs hj hP))
    · cases h
theorem Ex_Set {P : FP} {x : Str} {p pos : Pos} {e : Expr} (h : Ev C A F σ e fun a σ₁ => P .next (putv F.vars x a) σ₁) (hk : F.env.kindOf x = some .local := by kernel_rfl) (hs : swapsWith e (some (.Name x p)) pos.line F.env = pure false := by rfl) : Ex C A F σ (.Assign [.Name x p] e pos) P := Ex_Assign (.inl hk) h hs
theorem Ev_ListInts {es : List Expr} {pos : Pos} (is : List Int) (h : asInts es = some is) (hl : is.length ≤ 1000) (hP : ∀ a, σ a = none → P (.obj a) (upd σ a ⟨false, is.map AV.int⟩)) : Ev C A F σ (.List es pos) P :=
  Ev_List (Sp_ints h ⟨by rw [List.length_map]; exact hl, hP⟩)
theorem Ex_SetInts {P : FP} {x : Str} {p pos lpos : Pos} {es : List Expr} (is : List Int) (h : asInts es = some is) (hl : is.length ≤ 1000) (hP : ∀ a, σ a = none → P .next (putv F.vars x (.obj a)) (upd σ a ⟨false, is.map AV.int⟩)) (hk : F.env.kindOf x = some .local := by kernel_rfl) : Ex C A F σ (.Assign [.Name x p] (.List es lpos) pos) P := Ex_Set (Ev_ListInts is h hl hP) hk
theorem Ev_ListStrs {es : List Expr} {pos : Pos} (is : List Str) (h : asStrs es = some is) (hl : is.length ≤ 1000) (hP : ∀ a, σ a = none → P (.obj a) (upd σ a ⟨false, is.map AV.str⟩)) : Ev C A F σ (.List es pos) P :=
  Ev_List (Sp_strs h ⟨by rw [List.length_map]; exact hl, hP⟩)
theorem Ex_SetStrs {P : FP} {x : Str} {p pos lpos : Pos} {es : List Expr} (is : List Str) (h : asStrs es = some is) (hl : is.length ≤ 1000) (hP : ∀ a, σ a = none → P .next (putv F.vars x (.obj a)) (upd σ a ⟨false, is.map AV.str⟩)) (hk : F.env.kindOf x = some .local := by kernel_rfl) : Ex C A F σ (.Assign [.Name x p] (.List es lpos) pos) P := Ex_Set (Ev_ListStrs is h hl hP) hk
end

section
variable {C : Cx} {P0 : Params} {σ : Store} {c : Addr} {xs : List Int} {st : CS}

theorem On_take (x : Bx C P0) {P : AV → Store → Prop} {many : Int} (hc : σ c = some (cObj xs st)) (hx : xs.length ≤ 100000) (hp : st.p ≤ 1000000) (hm : 0 < many) (hm' : many < 1000) (h : P (.int (take xs st many).1) (upd σ c (cObj xs (take xs st many).2))) :
    ∃ k, k ≤ 1 ∧ Fn C k 350 [.obj c, .int many] σ P :=
  ⟨1, Nat.le_refl _, (fn_take P0 x.hK x.ok x.kf hc hx hp hm hm').mono fun r σ' ⟨h1, h2⟩ => by subst h1; subst h2; exact h⟩

set_option maxHeartbeats 400000 in
theorem fn_pair (x : Bx C P0) (hc : σ c = some (cObj xs st)) (hx : xs.length ≤ 100000) (hp : st.p ≤ 100000) : Fn C 2 362 [.obj c] σ fun r σ' => r = .dat (prD (pairOf xs st).1) ∧ σ' = upd σ c (cObj xs (pairOf xs st).2) := by
  refine Fn_at x.ok (FnOk.cast x.hK ⟨⟨_, rfl, rfl⟩, rfl, rfl, rfl, rfl, rfl, rfl, _, _, _, _, rfl, rfl, rfl, rfl⟩) rfl rfl ["c"] rfl (fun vs h => by obtain ⟨v, rfl⟩ := len1 h; rfl) rfl (by decide) rfl (by decide) ⟨"c", by simp, rfl⟩ fun A L fs q room hh => ?_
  dsimp only
  refine Exs_cons ?_
  refine (Ex_SetInts codesL ?_ ?_ ?_ :)
  · decide +kernel
  · simp [codesL]
  intro L1 hL1
  refine Exs_cons ?_
  refine (Ex_SetStrs valuesL ?_ ?_ ?_ :)
  · decide +kernel
  · simp [valuesL]
  intro L2 hL2
  have c1 : c ≠ L1 := fun e => by rw [← e, hc] at hL1; cases hL1
  have h1 : (upd σ L1 ⟨false, codesL.map AV.int⟩) c = some (cObj xs st) := (upd_ne c1).trans hc
  have c2 : c ≠ L2 := fun e => by rw [← e] at hL2; have := hL2.symm.trans h1; cases this
  have l12 : L1 ≠ L2 := fun e => by rw [← e, upd_self] at hL2; cases hL2
  have h2 : (upd (upd σ L1 ⟨false, codesL.map AV.int⟩) L2 ⟨false, valuesL.map AV.str⟩) c = some (cObj xs st) := (upd_ne c2).trans h1
  have g1 : ∀ o, (upd (upd (upd σ L1 ⟨false, codesL.map AV.int⟩) L2 ⟨false, valuesL.map AV.str⟩) c o) L1 = some ⟨false, codesL.map AV.int⟩ := fun o => (upd_ne (Ne.symm c1)).trans ((upd_ne l12).trans (upd_self _ _ _))
  have g2 : ∀ o o', (upd (upd (upd (upd σ L1 ⟨false, codesL.map AV.int⟩) L2 ⟨false, valuesL.map AV.str⟩) c o) c o') L2 = some ⟨false, valuesL.map AV.str⟩ := fun o o' => (upd_ne (Ne.symm c2)).trans ((upd_ne (Ne.symm c2)).trans (upd_self _ _ _))
  have r1 := take_range (xs := xs) (st := st) (many := 12) (by decide)
  have r2 := take_range (xs := xs) (st := (take xs st 12).2) (many := 5) (by decide)
  have p1 := take_p (xs := xs) (st := st) (many := 12)
  have room1 : Room A 1 := room
  refine Exs_cons <| Ex_Return <| Ev_Tuple <| Sp_cons <| Ev_Sub <| Ev_Name (lk_ne lk_self (by decide)) <| Ev_CallFn x.ok x.kf.vlaw_take x.kf.kvlaw_take room1 hh <| Sp_cons <| Ev_Name (lk_ne (lk_ne rfl (by decide)) (by decide)) <| Sp_cons <| Ev_int <| Sp_nil <| On_take x h2 hx (by omega) (by decide) (by decide) ?_
  refine O2_item (x := .int (codesL.getD (take xs st 12).1.toNat 0)) x.ok x.kf.T (.obj (g1 _)) r1.1 ?_ (by omega) ?_
  · rw [List.getElem?_map, getD_get (l := codesL) (d := 0) (by show _ < 12; omega)]; rfl
  refine Sp_cons <| Ev_Sub <| Ev_Name lk_self <| Ev_CallFn x.ok x.kf.vlaw_take x.kf.kvlaw_take room1 hh <| Sp_cons <| Ev_Name (lk_ne (lk_ne rfl (by decide)) (by decide)) <| Sp_cons <| Ev_int <| Sp_nil <| On_take x (upd_self _ _ _) hx (by omega) (by decide) (by decide) ?_
  refine O2_item (x := .str (valuesL.getD (take xs (take xs st 12).2 5).1.toNat "")) x.ok x.kf.T (.obj (g2 _ _)) r2.1 ?_ (by omega) ?_
  · rw [List.getElem?_map, getD_get (l := valuesL) (d := ("" : Str)) (by show _ < 5; omega)]; rfl
  refine Sp_nil ⟨[.int _, .str _], rfl, by simp, ?_⟩
  refine Up.to ⟨rfl, rfl⟩ ?_
  rw [upd_upd]
  exact Sub.updBoth ((Sub.upd hL1).trans (Sub.upd hL2)) _ _

set_option maxHeartbeats 400000 in
theorem fn_codes (x : Bx C P0) (hc : σ c = some (cObj xs st)) (hx : xs.length ≤ 100000) (hp : st.p ≤ 100000) : Fn C 2 367 [.obj c] σ fun r σ' => r = .dat (.list ((codesOf xs st).1.map .int)) ∧ σ' = upd σ c (cObj xs (codesOf xs st).2) := by
  refine Fn_atC x.ok (FnOk.cast x.hK ⟨⟨_, rfl, rfl⟩, rfl, rfl, rfl, rfl, rfl, rfl, _, _, _, _, rfl, rfl, rfl, rfl⟩) rfl rfl ["c"] rfl (fun vs h => by obtain ⟨v, rfl⟩ := len1 h; rfl) rfl (by decide) rfl (by decide) (fun L => by simp [cellsFrom]) fun A L fs q room hh => ?_
  dsimp only
  have r1 := take_range (xs := xs) (st := st) (many := 3) (by decide)
  have p1 := take_p (xs := xs) (st := st) (many := 3)
  have room1 : Room A 1 := room
  generalize hn : 1 + (take xs st 3).1.toNat = n
  generalize ht : (take xs st 3).2 = t at p1
  have hcs : codesOf xs st = codesGo xs n t := by unfold codesOf; rw [hn, ht]
  have hn' : (1 + (take xs st 3).1 : Int) = n := by omega
  have hnn : ((n : Int) - 0).toNat = n := by omega
  have hn3 : n ≤ 3 := by omega
  have src : ∀ σ, Src σ (.rng 0 n) ((List.range n).map fun k : Nat => AV.int (0 + k)) := fun σ => .rng rfl (by rw [hnn]) (by decide) (by omega) (by decide) (by omega)
  let σ₁ := upd σ c (cObj xs t)
  have dom : ∀ (Z : AObj) a, (upd σ c Z) a ≠ none → σ₁ a ≠ none := fun Z a h => by
    by_cases e : a = c
    · rw [e]; show upd σ c _ c ≠ none; rw [upd_self]; nofun
    · show upd σ c _ a ≠ none; rw [upd_ne e]; rw [upd_ne e] at h; exact h
  refine Exs_cons <| Ex_Return <| Ev_ListComp x.ok x.kf.T hh (cl := [("c", L + 1)]) ⟨rfl, rfl, by decide, by simp; exact .inl rfl⟩ (y := "turn") rfl <| Ev_CallT x.ok x.kf.nrange rfl <| Sp_cons <| Ev_Bin <| Ev_int <| Ev_CallFn x.ok x.kf.vlaw_take x.kf.kvlaw_take room1 hh <| Sp_cons <| Ev_Name rfl <| Sp_cons <| Ev_int <| Sp_nil <| On_take x hc hx (by omega) (by decide) (by decide) ?_
  refine O2_add ?_
  rw [hn', ht]
  refine Sp_nil <| On_range1 ⟨_, fun i outs σ' => outs = ((codesGo xs i t).1.map PyData.int).map AV.dat ∧ Agr (upd σ c (cObj xs (codesGo xs i t).2)) σ', ⟨src _, LetOk_Name, by simp; omega, ⟨rfl, .refl _⟩, fun i outs σ' σ'' h hag => ⟨h.1, h.2.loc fun a ha => hag a (dom _ a ha)⟩, fun i outs σ' h => src _, ?_⟩, ?_⟩
  · rintro D i v hv outs σ' ⟨rfl, h2⟩ hdm
    have hi : i < n := by
      rcases Nat.lt_or_ge i n with h | h
      · exact h
      · rw [List.getElem?_eq_none (by simpa using h)] at hv; cases hv
    have hc' : σ' c = some (cObj xs (codesGo xs i t).2) := h2.get (upd_self _ _ _)
    have r6 := take_range (xs := xs) (st := (codesGo xs i t).2) (many := 6) (by decide)
    have pg := codesGo_p (xs := xs) (st := t) i
    refine ⟨_, true, CAsg_Name rfl, Ti_nil ⟨rfl, rfl⟩, fun _ => ?_, nofun⟩
    refine Ev_Sub <| Ev_ListInts codes6 rfl (by simp [codes6]) fun L3 hL3 => ?_
    have c3 : c ≠ L3 := fun e => by rw [← e, hc'] at hL3; cases hL3
    refine Ev_CallFn x.ok x.kf.vlaw_take x.kf.kvlaw_take room1 hh <| Sp_cons <| Ev_Name rfl <| Sp_cons <| Ev_int <| Sp_nil <| On_take x ((upd_ne c3).trans hc') hx (by omega) (by decide) (by decide) ?_
    refine O2_item (x := .int (codes6.getD (take xs (codesGo xs i t).2 6).1.toNat 0)) x.ok x.kf.T (.obj ((upd_ne (Ne.symm c3)).trans (upd_self _ _ _))) r6.1 ?_ (by omega) ?_
    · rw [List.getElem?_map, getD_get (l := codes6) (d := 0) (by show _ < 6; omega)]; rfl
    · refine ⟨fun b h1 h3 => ?_, fun b h1 => ?_, ?_, fun b hb => ?_⟩
      · have e1 : b ≠ c := fun e => by
          rw [e] at h1
          have h1' : upd σ c (cObj xs t) c = none := h1
          rw [upd_self] at h1'; cases h1'
        have e2 : b ≠ L3 := fun e => h3 (e ▸ hL3)
        rw [upd_ne e1, upd_ne e2]
      · by_cases e1 : b = c
        · rw [e1, upd_self]; nofun
        · rw [upd_ne e1]
          by_cases e2 : b = L3
          · rw [e2, upd_self]; nofun
          · rw [upd_ne e2]; exact hdm b h1
      · show _ = (((codesGo xs i t).1 ++ [codes6.getD (take xs (codesGo xs i t).2 6).1.toNat 0]).map PyData.int).map AV.dat
        simp
      · by_cases e1 : b = c
        · rw [e1, upd_self, upd_self]; rfl
        · rw [upd_ne e1, upd_ne e1]
          rw [upd_ne e1] at hb
          have := h2 b (by rw [upd_ne e1]; exact hb)
          rw [upd_ne e1] at this
          have e2 : b ≠ L3 := fun e => hb (by rw [← this, e]; exact hL3)
          rw [upd_ne e2]; exact this
  · rintro D outs σ' hD ⟨rfl, h2⟩ hD'
    have hlen : ((List.range n).map fun k : Nat => AV.int (0 + k)).length = n := by simp
    rw [hlen] at h2 hD'
    have hDc : D ≠ c := fun e => by
      have hD1 : upd σ c (cObj xs t) D = none := hD
      rw [e, upd_self] at hD1; cases hD1
    rw [hcs]
    refine Up.froze (ds := (codesGo xs n t).1.map .int) ⟨rfl, rfl⟩ h2.sub hD' ?_
    have hD1 : upd σ c (cObj xs t) D = none := hD
    rw [upd_ne hDc] at hD1
    rw [upd_ne hDc]; exact hD1
end
end Mine
end

section
open PySem PySem.W PyProof.Rows PySem.Calls PySem.SeqAt
set_option Elab.async false
set_option maxRecDepth 100000
set_option linter.unusedVariables false
namespace Mine

def isH (q : Pr) : Bool := q.1 == 5 || q.1 == 105
def handleOf (l : List Pr) : Option Str := if l.length < 2 then none else if isH (l.getD 1 ((0, "") : Pr)) then some (l.getD 1 ((0, "") : Pr)).2 else ((l.filter isH).map (·.2)).head?
def optS : Option Str → AV
  | none => .none
  | some x => .str x

theorem any5 (c : Int) : ([PyData.int 5, .int 105].any fun y => PyData.eqv y (.int c)) = (c == 5 || c == 105) := by
  show ((PyData.eqv (.int 5) (.int c)) || ((PyData.eqv (.int 105) (.int c)) || false)) = _
  have e : ∀ a b : Int, PyData.eqv (.int a) (.int b) = (a == b) := fun a b => rfl
  rw [e, e, Bool.or_false, BEq.comm (a := (5 : Int)), BEq.comm (a := (105 : Int))]

theorem filterMap_take {α β : Type} {p : α → Bool} {f : α → β} {l : List α} {i : Nat} {q : α} (hq : l[i]? = some q) : ((l.take (i + 1)).filter p).map f = ((l.take i).filter p).map f ++ (if p q then [f q] else []) := by
  rw [List.take_add_one, hq, Option.toList_some, List.filter_append, List.map_append]
  congr 1
  cases h : p q <;> simp [List.filter_cons, h]

theorem Items.agr {σ σ' : Store} {a : AV} {k : SK} {xs : List AV} (h : Items σ a k xs) (hag : Agr σ σ') : Items σ' a k xs := by
  cases h with
  | obj h => exact .obj (hag.get h)
  | tags h => exact .tags (hag.get h)
  | datL ds => exact .datL ds
  | datT ds => exact .datT ds
theorem Items.notRng {σ : Store} {a : AV} {k : SK} {xs : List AV} (h : Items σ a k xs) : ∀ lo hi, a ≠ .rng lo hi := by
  intro lo hi e
  subst e
  cases h
theorem datsOf_isRef (l : List Pr) : ∀ a ∈ datsOf l, isRefAV a = true := by
  intro a ha
  obtain ⟨q, _, rfl⟩ := List.mem_map.mp ha
  rfl

section
variable {C : Cx} {P0 : Params} {σ : Store} {pv : AV} {l : List Pr}

/-- c in [5, 105] -/
theorem Te_in5 {A : Around} {F : Fm} {PB : Bool → Store → Prop} (room : Room A 0) {e : Expr} {c : Int} {es : List Expr} {lp pos : Pos} (hes : asInts es = some [5, 105]) (h : Ev C A F σ e fun a σ₁ => a = .int c ∧ PB (c == 5 || c == 105) σ₁) (hm : behindInMarks .In (.List es lp) = false := by with_unfolding_all rfl) : Te C A F σ (.Compare e [.In] [.List es lp] pos) PB :=
  Tb.up <| Te_Cmp (hm := hm) <| h.mono fun a σ₁ ⟨ha, hP⟩ => by
    subst ha
    refine Ev_ListInts [5, 105] hes (by simp) fun L3 hL3 => ?_
    exact O2_inL (d := .int c) (ds := [.int 5, .int 105]) room (.dat _) (.list (upd_self _ _ _) (IsDs.map [.int 5, .int 105])) rfl (by decide +kernel) ⟨_, rfl, σ₁, Sub.upd hL3, by rw [any5]; exact hP⟩

theorem fn_handle (x : Bx C P0) (hp : Items σ pv .list (datsOf l)) (hl : l.length ≤ 1000) : Fn C 2 379 [pv] σ fun r σ' => r = optS (handleOf l) ∧ σ' = σ := by
  refine Fn_at x.ok (FnOk.cast x.hK ⟨⟨_, rfl, rfl⟩, rfl, rfl, rfl, rfl, rfl, rfl, _, _, _, _, rfl, rfl, rfl, rfl⟩) rfl rfl ["pairs"] rfl (fun vs h => by obtain ⟨v, rfl⟩ := len1 h; rfl) rfl (by decide) rfl (by decide) ⟨"pairs", by simp, rfl⟩ fun A L fs q room hh => ?_
  dsimp only
  have hlen : (datsOf l).length = l.length := by simp [datsOf]
  have room0 : Room A 0 := room.less (Nat.zero_le _)
  refine Exs_cons <| Ex_If <| Te_Cmp <| Ev_CallB x.ok x.kf.nlen rfl <| Sp_cons <| Ev_Name rfl <| Sp_nil <| On_len x.ok x.kf.T (by nofun) hp (by omega) <| Ev_int <| O2_ltI ⟨_, rfl, ?_⟩
  rw [hlen]
  by_cases h2 : (l.length : Int) < 2
  · rw [if_pos (by simpa using h2)]
    refine Exs_cons <| Ex_Return <| Ev_none <| Up.now ⟨?_, rfl⟩
    unfold handleOf; rw [if_pos (by omega)]; rfl
  rw [if_neg (by simpa using h2)]
  refine Exs_nil ?_
  have h2' : ¬ l.length < 2 := by omega
  have hit : (datsOf l)[(1 : Int).toNat]? = some (.dat (prD (l.getD 1 ((0, "") : Pr)))) := by
    rw [show (1 : Int).toNat = 1 from rfl]; show (l.map _)[1]? = _; rw [List.getElem?_map, getD_get (l := l) (i := 1) (d := ((0, "") : Pr)) (by omega)]; rfl
  refine Exs_cons <| Ex_If <| Te_in5 room0 (by rfl) <| Ev_Sub <| Ev_Sub <| Ev_Name rfl <| Ev_int <| O2_item x.ok x.kf.T hp (by decide) hit (by decide) <| Ev_int <| O2_item (x := .int (l.getD 1 ((0, "") : Pr)).1) x.ok x.kf.T (.datT _) (by decide) rfl (by decide) ⟨rfl, ?_⟩
  split
  · rename_i h
    have h : isH (l.getD 1 ((0, "") : Pr)) = true := h
    refine Exs_cons <| Ex_Return <| Ev_Sub <| Ev_Sub <| Ev_Name rfl <| Ev_int <| O2_item x.ok x.kf.T hp (by decide) hit (by decide) <| Ev_int <| O2_item (x := .str (l.getD 1 ((0, "") : Pr)).2) x.ok x.kf.T (.datT _) (by decide) rfl (by decide) <| Up.now ⟨?_, rfl⟩
    unfold handleOf; rw [if_neg h2', if_pos h]; rfl
  rename_i h
  have h : ¬ isH (l.getD 1 ((0, "") : Pr)) = true := h
  refine Exs_nil ?_
  have hho : handleOf l = ((l.filter isH).map (·.2)).head? := by unfold handleOf; rw [if_neg h2', if_neg h]
  refine Exs_cons <| Ex_AssignComp x.ok x.kf.T hh (cl := []) ⟨rfl, rfl, by decide, by simp⟩ (y := "code") rfl rfl rfl <| Ev_Name rfl ⟨datsOf l, fun i outs σ' => outs = ((l.take i).filter isH).map (fun q => AV.str q.2) ∧ Agr σ σ', ⟨.seq (k := .list) (by nofun) hp, LetOk_Tuple hp.notRng (datsOf_isRef l), by omega, ⟨rfl, .refl _⟩, fun i outs σ' σ'' h hag => ⟨h.1, h.2.loc hag⟩, fun i outs σ' h => .seq (k := .list) (by nofun) (hp.agr h.2), ?_⟩, ?_⟩
  · rintro D i v hv outs σ' ⟨rfl, hag⟩ hdm
    obtain ⟨q, hq, rfl⟩ := datsOf_get hv
    refine ⟨_, isH q, CAsg_Tuple (a := .int q.1) (b := .str q.2) (Unp_tuple hh [.int q.1, .str q.2]) rfl rfl (fun d hd => ?_), Ti_one (Te_in5 room0 (by rfl) (Ev_Name rfl ⟨rfl, rfl, rfl⟩)), fun _ => Ev_Name rfl ⟨fun _ _ _ => rfl, hdm, ?_, hag⟩, fun hf => ⟨?_, hag⟩⟩
    · rcases List.mem_cons.mp hd with rfl | h
      · exact .inl List.mem_cons_self
      · exact .inr h
    · rw [filterMap_take hq, if_pos (by assumption)]
    · rw [filterMap_take hq, if_neg (by simp [hf]), List.append_nil]
  · rintro D outs σ' hD ⟨rfl, hag⟩ hD'
    rw [List.take_of_length_le (by omega)] at hD'
    refine Exs_cons <| Ex_Return <| Ev_IfExp <| Te_val <| Ev_Name lk_self <| B1_list hD' (by have := List.length_filter_le isH l; simp; omega) ?_
    rw [hho]
    cases hf : l.filter isH with
    | nil => exact Ev_none (Up.to ⟨rfl, rfl⟩ hag.sub)
    | cons q0 r =>
      rw [hf] at hD'
      exact Ev_Sub <| Ev_Name lk_self <| Ev_int <| O2_item (x := .str q0.2) x.ok x.kf.T (.obj hD') (by decide) rfl (by decide) <| Up.to ⟨rfl, rfl⟩ hag.sub
end
end Mine
end

section
open PySem PySem.W PyProof.Rows PySem.Calls PySem.SeqAt PySem.Builtin PySem.Builtin.ObjectAttr PySem.Builtin.Getset_descriptor
set_option Elab.async false
set_option maxRecDepth 100000
set_option maxHeartbeats 4000000
set_option linter.unusedVariables false
namespace Mine
section
variable {prog : Program} {w : World} {A : Around} {K : Frag} {C x : Addr} {s : Shared} {R : Result → Shared → Prop} {E : Value → Shared → Prop}

def slotted (i : Nat) (v : Value) (o : Obj) : Obj := { o with slots := (o.slots ++ Array.replicate (i + 1 - o.slots.size) none).setIfInBounds i (some v) }

theorem slot_setH {ox : Obj} {od : Option Obj} {v : Value} {p i : Nat} (X : K.In s.heap) (I : InstAt s.heap x ox C od)
    (hp : slotIn K p C = some i) (hi : i < 1000) (h : R (.ok (.ret .none)) { s with heap := s.heap.update x (slotted i v) }) :
    codeAny (model prog w) A (.call (.builtin "member_descriptor.__set__") ⟨[.ref p, .ref x, v], []⟩) R s := by
  obtain ⟨n, tn, owner, behind, tb, d, sl, cd, ho, hc, hm, hb, rfl⟩ := slot_of X hp
  obtain ⟨hh, g, dr, t, os⟩ := s
  have L0 := I.type (M := model prog w)
  have L1 := looks_mroIn (M := model prog w) X hm
  have L2 : Looks (model prog w) hh (Slots.slotNamesOf (.ref C)) cd.slotNames := (looks_clsIn X hc).andThen .now
  have hx := I.at_
  dsimp only at ho hx L0 L1
  have f0 := looks_field (M := model prog w) ho 0 (v := .str n tn) rfl
  have f1 := looks_field (M := model prog w) ho 1 (v := owner) rfl
  have f3 := looks_field (M := model prog w) ho 3 (v := .builtin "proto.slot#set") rfl
  have f4 := looks_field (M := model prog w) ho 4 (v := .int behind tb) rfl
  refine codeAny_call_builtin PySem.W.KF.slot_mset.plain PySem.W.KF.entry_mset (PySem.W.KF.slot_mset.check _ _ _ _ _ _ _ _ ⟨_, ho, rfl⟩ (PySem.W.KF.args_mset _ _ _) ?_)
  unfold Builtin.«member_descriptor.__set__» descrSet descrStoreThrough descrCheckInstance descrNameAndClass isInstance
  have f5 : Looks (model prog w) hh (descrItself (.ref p)) [.ref p] := ((Looks.ld (part := none) ho).andThen .now).andThen (Looks.of_pure (by kernel_rfl))
  repeat lk
  refine ⟨Code.quiet_builtin _ (by decide +kernel), codeAny_builtin PySem.W.KF.entry_slotset ?_⟩
  unfold Builtin.«proto.slot#set» Slots.target
  repeat lk
  rw [if_neg hb]
  refine wpAny_pure (wpAny_bind ?_)
  unfold setSlotAt
  dsimp only
  rw [if_neg (by rw [sizeLine_eq]; omega)]
  exact wpAny_updatePart hx (wpAny_pure h)

/-- x.name = v, where a slot takes it -/
theorem setAttr_slot {ox : Obj} {od : Option Obj} {name : Str} {v : Value} {p i : Nat} {Q : Unit → Shared → Prop} (X : K.In s.heap) (I : InstAt s.heap x ox C od)
    (hs : findIn K (.ref C) "__setattr__" = some (some (.builtin "object.__setattr__"))) (hov : plainOver K C = true) (ht : takerIn K C name = some (some (.ref p))) (hT : typeIn K (.ref p) = some (.type "member_descriptor"))
    (hp : slotIn K p C = some i) (hi : i < 1000) (h : Q () { s with heap := s.heap.update x (slotted i v), toks := s.toks + 1 }) : wpAny (model prog w) A (setAttr (.ref x) name v) Q E s := by
  refine set_plain X I hs ?_
  refine osa_descr (s := { s with toks := s.toks + 1 }) PySem.W.KF.slot_mset X I hov ht hT ?_
  exact slot_setH (s := { s with toks := s.toks + 1 }) X I hp hi h
end
end Mine
end

section
open PySem PySem.W PyProof.Rows PySem.Calls PySem.SeqAt
set_option Elab.async false
set_option maxRecDepth 100000
set_option linter.unusedVariables false
namespace Mine

section
variable {C : Cx} {P0 : Params} {A : Around} {F : Fm} {σ : Store} {s : Shared}

theorem tagInst0 {h : Heap} {a d : Addr} {sl : Array (Option Value)} {od : Obj} (e : h.get? a = some { cls := .ref TagC, dict := some d, data := .plain, slots := sl }) (e2 : h.get? d = some od) : PySem.W.InstAt h a { cls := .ref TagC, dict := some d, data := .plain, slots := sl } TagC (some od) := ⟨e, rfl, rfl, e2⟩

set_option maxHeartbeats 1000000 in
theorem tinit_core {K : Frag} (ok : C.Ok) (hCK : C.K = K) (X : K.In s.heap) (lim : s.heap.NoLimit) (hd : A.depth < recursionLimit) {f : Addr} {fd : FuncData} {p1 p2 p3 p4 p5 p6 p7 p8 : Pos}
    (fo : FnOk K f fd [.Assign [.Attribute (.Name "self" p1) "_code" p2] (.Name "code" p3) p4, .Assign [.Attribute (.Name "self" p5) "_value" p6] (.Name "value" p7) p8])
    (hsc : fd.scope.names = ([("self", .local), ("code", .local), ("value", .local)] : List (Str × NameKind))) (hgen : fd.scope.isGenerator = false) {a dx : Addr} {c v : Value} (hb : bindArgs fd ⟨[.ref a, c, v], []⟩ = pure ([("self", .ref a), ("code", c), ("value", v)] : List (Str × Value)))
    (hs : findIn K (.ref TagC) "__setattr__" = some (some (.builtin "object.__setattr__"))) (hov : plainOver K TagC = true) {pc pv : Addr} (ht1 : takerIn K TagC "_code" = some (some (.ref pc))) (hT1 : typeIn K (.ref pc) = some (.type "member_descriptor")) (hp1 : slotIn K pc TagC = some 0)
    (ht2 : takerIn K TagC "_value" = some (some (.ref pv))) (hT2 : typeIn K (.ref pv) = some (.type "member_descriptor")) (hp2 : slotIn K pv TagC = some 1) (hKa : K.lookup a = none)
    (ha : s.heap.get? a = some (instObj TagC dx)) (hdx : s.heap.get? dx = some emptyDict) {R : Result → Shared → Prop}
    (hR : ∀ s', (∀ b o, b ≠ a → s.heap.get? b = some o → s'.heap.get? b = some o) → s'.heap.get? a = some { instObj TagC dx with slots := #[some c, some v] } → s.heap.objs.size ≤ s'.heap.objs.size → s'.gens = s.gens → s'.os = s.os → R (.ok (.ret .none)) s') :
    codeAny C.M A (.call (.ref f) ⟨[.ref a, c, v], []⟩) R s := by
  obtain ⟨o, hlo, hdo⟩ := fo.o
  have ho := X _ _ hlo
  obtain ⟨cc, oc, vs, tq, hc, hoc, hdc, hq⟩ := fo.code
  refine codeAny_call_function hd ho hdo fo.co hgen fo.body ⟨cc, oc, vs, tq, hc, X _ _ hoc, hdc, hq⟩ ?_
  rw [hb]
  refine wpAny_pure ?_
  rw [fo.clo]
  refine wpAny_newFunctionEnv_cells fo.kind (fun y hy => ?_) fun env he s' i => ?_
  · rw [hsc]
    rcases List.mem_cons.mp hy with rfl | hy
    · exact .inl rfl
    · rcases List.mem_cons.mp hy with rfl | hy
      · exact .inl rfl
      · rcases List.mem_cons.mp hy with rfl | hy
        · exact .inl rfl
        · cases hy
  have hkf : env.scope.kind = .function := by rw [he]; exact fo.kind
  have hkindOf : ∀ y, env.kindOf y = fd.scope.names.lookup y := fun y => by rw [he]; rfl
  have k1 : env.kindOf "self" = some .local := by rw [hkindOf, hsc]; rfl
  have k2 : env.kindOf "code" = some .local := by rw [hkindOf, hsc]; rfl
  have k3 : env.kindOf "value" = some .local := by rw [hkindOf, hsc]; rfl
  obtain ⟨h1, tk, rfl⟩ := i.toInCall.same
  have n := i.toInCall.ns
  have keep := i.toInCall.keep
  have fresh := i.toInCall.fresh
  clear he i
  have nd : ([(("self" : Str), Value.ref a), ("code", c), ("value", v)].map (·.1)).Nodup := by show [("self" : Str), "code", "value"].Nodup; decide
  generalize hm : bindL env.kindOf ([("self", Value.ref a), ("code", c), ("value", v)] : List (Str × Value)) (fun _ => none) = m at n
  have m1 : m "self" = some (.ref a) := by rw [← hm]; exact bindL_get k1 nd (by simp)
  have m2 : m "code" = some c := by rw [← hm]; exact bindL_get k2 nd (by simp)
  have m3 : m "value" = some v := by rw [← hm]; exact bindL_get k3 nd (by simp)
  have lim1 : h1.NoLimit := lim.keeps keep
  have X1 : K.In h1 := fun b o e => keep _ _ (X _ _ e)
  have ha1 := keep _ _ ha
  have hdx1 := keep _ _ hdx
  have hal : env.locals ≠ a := fun e => absurd (Heap.lt_size ha) (Nat.not_lt.mpr (by rw [← e]; exact fresh))
  have hda : dx ≠ a := fun e => by rw [e, ha] at hdx; cases hdx
  refine ⟨lim1, codeAny_func ?_⟩
  dsimp only at n X1 ha1 hdx1
  refine wpAny_execs_cons (plainObj_wpAny_Assign_Attribute (wpAny_Name (wpAny_loadName_local hkf k2 n m2 ?_) (by decide)))
  refine wpAny_Name (wpAny_loadName_local hkf k1 n m1 ?_) (by decide)
  refine setAttr_slot (s := { s with heap := h1, toks := tk }) X1 (tagInst0 ha1 hdx1) hs hov ht1 hT1 hp1 (by decide) ?_
  have ha2 : (h1.update a (slotted 0 c)).get? a = some { cls := .ref TagC, dict := some dx, data := .plain, slots := #[some c] } := Heap.get?_update_self (slotted 0 c) ha1 rfl
  have hdx2 : (h1.update a (slotted 0 c)).get? dx = some emptyDict := (Heap.get?_update_other _ _ (Ne.symm hda)).trans hdx1
  have n2 : (h1.update a (slotted 0 c)).Ns env.locals m := n.sameBut (Heap.SameBut.update ..) hal
  have X2 : K.In (h1.update a (slotted 0 c)) := fun b o e => (Heap.get?_update_other _ _ (fun q => by subst q; rw [hKa] at e; cases e)).trans (X1 _ _ e)
  dsimp only
  refine wpAny_execs_cons (plainObj_wpAny_Assign_Attribute (wpAny_Name (wpAny_loadName_local hkf k3 n2 m3 ?_) (by decide)))
  refine wpAny_Name (wpAny_loadName_local hkf k1 n2 m1 ?_) (by decide)
  refine setAttr_slot X2 (tagInst0 ha2 hdx2) hs hov ht2 hT2 hp2 (by decide) ?_
  have ha3 : ((h1.update a (slotted 0 c)).update a (slotted 1 v)).get? a = some { cls := .ref TagC, dict := some dx, data := .plain, slots := #[some c, some v] } := Heap.get?_update_self (slotted 1 v) ha2 rfl
  refine wpAny_execs_nil ?_
  exact hR _ (fun b o hb e => (Heap.get?_update_other _ _ (Ne.symm hb)).trans ((Heap.get?_update_other _ _ (Ne.symm hb)).trans (keep _ _ e))) ha3 (by
    show _ ≤ ((h1.update a _).update a _).objs.size
    rw [Heap.size_update, Heap.size_update]
    exact Nat.le_of_lt (Nat.lt_of_le_of_lt fresh (let ⟨_, _, _, ho, _⟩ := n; Heap.lt_size ho))) rfl rfl

/-- a new DXFTag -/
theorem On_newTag (x : Bx C P0) {P : AV → Store → Prop} {j : Nat} (room : Room A (j + 1)) {c : Int} {y : Str} (hP : P (.tag c y) σ) : On C A F σ [.int c, .str y] (fun vs => call (.ref TagC) vs) P := fun s vs st r Q hQ => by
  obtain ⟨v, u, rfl, r1, r2⟩ := r.two
  obtain ⟨tc, rfl⟩ := r1.int_inv
  obtain ⟨ty, rfl⟩ := r2.str_inv
  have X := st.K x.ok
  have lim := st.lim x.ok
  obtain ⟨fI, hfI, htI⟩ := x.kf.tinit
  have hfI' : fI = 61 := by
    have h2 : findIn C.K (.ref TagC) "__init__" = some (some (.ref 61)) := by rw [x.hK]; kernel_rfl
    rw [hfI] at h2; cases h2; rfl
  subst hfI'
  have st0 := st
  refine wpAny_call ?_
  have keep : ∀ b o, s.heap.get? b = some o → ((s.heap.push emptyDict).push (instObj TagC s.heap.objs.size)).get? b = some o := fun b o e => Heap.get?_push_of_some _ (Heap.get?_push_of_some _ e)
  have hz : ((s.heap.push emptyDict).push (instObj TagC s.heap.objs.size)).objs.size = s.heap.objs.size + 1 + 1 := by rw [Heap.size_push, Heap.size_push]
  have ha : ((s.heap.push emptyDict).push (instObj TagC s.heap.objs.size)).get? (s.heap.objs.size + 1) = some (instObj TagC s.heap.objs.size) := by
    have := Heap.get?_push_size (s.heap.push emptyDict) (o := instObj TagC s.heap.objs.size) rfl
    rw [Heap.size_push] at this
    exact this
  have hdx : ((s.heap.push emptyDict).push (instObj TagC s.heap.objs.size)).get? s.heap.objs.size = some emptyDict := Heap.get?_push_of_some _ (Heap.get?_push_size _ rfl)
  have hKa : C.K.lookup (s.heap.objs.size + 1) = none := by
    cases q : C.K.lookup (s.heap.objs.size + 1) with
    | none => rfl
    | some o => exact absurd (Heap.lt_size (X _ _ q)) (Nat.not_lt.mpr (Nat.le_succ _))
  obtain ⟨h, g, d, t, os⟩ := s
  dsimp only at keep hz ha hdx hKa X lim
  obtain ⟨pc, q1, q2, q3⟩ : ∃ pc, takerIn (hd.heap_39 P0) TagC "_code" = some (some (.ref pc)) ∧ typeIn (hd.heap_39 P0) (.ref pc) = some (.type "member_descriptor") ∧ slotIn (hd.heap_39 P0) pc TagC = some 0 := ⟨_, rfl, rfl, rfl⟩
  obtain ⟨pv, q4, q5, q6⟩ : ∃ pc, takerIn (hd.heap_39 P0) TagC "_value" = some (some (.ref pc)) ∧ typeIn (hd.heap_39 P0) (.ref pc) = some (.type "member_descriptor") ∧ slotIn (hd.heap_39 P0) pc TagC = some 1 := ⟨_, rfl, rfl, rfl⟩
  refine make_core (makes_of X x.kf.makes) (looks_findIn X hfI) (fun self => bind_fn X self htI) (.inl rfl) ?_
  refine tinit_core (s := ⟨(h.push emptyDict).push (instObj TagC h.objs.size), g, d, t, os⟩) x.ok x.hK (fun b o e => keep _ _ (X b o (by rw [x.hK]; exact e))) (lim.keeps keep) (by have := room.depth; show A.depth + 1 < 1000; omega)
    ⟨⟨_, rfl, rfl⟩, rfl, rfl, rfl, rfl, rfl, rfl, _, _, _, _, rfl, rfl, rfl, rfl⟩ rfl rfl rfl (by kernel_rfl) (by kernel_rfl) q1 q2 q3 q4 q5 q6 (by rw [← x.hK]; exact hKa) ha hdx fun s' hk hat hsz hg ho => ?_
  refine ⟨rfl, ?_⟩
  have ext : ∀ b o, h.get? b = some o → s'.heap.get? b = some o := fun b o e => hk b o (fun q => absurd (Heap.lt_size e) (Nat.not_lt.mpr (by rw [q]; exact Nat.le_succ _))) (keep _ _ e)
  have hsz' : h.objs.size ≤ s'.heap.objs.size := Nat.le_trans (by rw [hz]; omega) hsz
  obtain ⟨st', e'⟩ := st.grow (s' := s') ext hsz' (by rw [hg]; exact Nat.le_refl _) (by rw [hg]; exact st.bare) ho
  refine hQ (.tag c y) (.ref (h.objs.size + 1)) σ s' hP st' ?_ e'
  refine .tag (d := h.objs.size) (tc := tc) (tx := ty) (st.fresh (Nat.le_succ _)) hat ⟨rfl, st.fresh (Nat.le_refl _), _, 0, hk _ _ (Nat.ne_of_lt (Nat.lt_succ_self _)) hdx, rfl⟩
end
end Mine
end

section
open PySem PySem.W PyProof.Rows PySem.Calls PySem.SeqAt
set_option Elab.async false
set_option maxRecDepth 100000
set_option linter.unusedVariables false
namespace Mine
section
variable {C : Cx} {A : Around} {F : Fm} {σ σ' : Store} {s s' : Shared}
/-- a value falls into parts, walked elsewhere -/
def UnpG (C : Cx) (A A₂ : Around) (F : Fm) (σ : Store) (a : AV) (as : List AV) : Prop :=
  ∀ s v, St C A F σ s → Rel σ s.heap a v → ∀ Q : List Value → Shared → Prop,
    (∀ vs s', St C A F σ s' → RelAll σ s'.heap as vs → Step C.B F.frs [] σ σ s s' → (∀ b o, s.heap.get? b = some o → s'.heap.get? b = some o) → FirstNew s.heap s'.heap → Q vs s') → wpAny C.M A₂ (unpackItems v as.length none) Q NoE s

theorem Unp_tupleG {A₂ : Around} (hh : A₂.handled = none) (ds : List PyData) : UnpG C A A₂ F σ (.dat (.tuple ds)) (ds.map .dat) := fun s v x r Q hQ => by
  cases r with
  | dat r =>
    cases r with
    | @tuple t o vs n _ h1 h2 h3 h4 h5 =>
      have ht : s.heap.IsTuple t vs := ⟨o, h2, h3, n, h4⟩
      have hlt : t ≠ s.heap.objs.size := Nat.ne_of_lt (Heap.lt_size h2)
      have ra := h5.rel
      have hlen : (ds.map AV.dat).length = vs.size := by rw [← ra.length]; simp
      rw [hlen]
      unfold unpackItems
      refine wpAny_bind ?_
      unfold notIterableAtAll
      refine wpAny_bind (wpAny_specialOf ht.typeIs PySem.F.slot_tuple_iter.lookup ?_)
      refine wpAny_pure ?_
      simp only [Bool.false_eq_true, if_false]
      refine wpAny_bind (wpAny_holding (wpAny_pyIter_tuple ht ?_))
      refine wpAny_bind (wpAny_holding (wpAny_draw_tuple hlt vs.size 0 _ _ ⟨_, Heap.get?_push_size _ rfl, rfl, rfl⟩ (ht.push _) (by omega) fun h₁ hit₁ hs₁ => ?_))
      have hall : List.take vs.size (List.drop 0 vs.toList) = vs.toList := by
        rw [List.drop_zero]; exact List.take_of_length_le (by simp)
      rw [hall]
      rw [if_neg (by simp)]
      have ht₁ : h₁.IsTuple t vs := (ht.push _).extBut hs₁.extBut hlt
      refine wpAny_bind (wpAny_holding (tp_pyNext_end hh hit₁ ht₁ (by simp) fun h₂ he₂ hz₂ ⟨ot, wt, hot, hdt, hct⟩ => ?_))
      simp only [Option.isSome_none, Bool.false_eq_true, if_false]
      have hk : ∀ b o, s.heap.get? b = some o → h₂.get? b = some o := fun b o e => by
        have hb : b ≠ s.heap.objs.size := Nat.ne_of_lt (Heap.lt_size e)
        exact he₂ b o hb (hs₁.extBut b o hb (Heap.get?_push_of_some _ e))
      have hz : s.heap.objs.size ≤ h₂.objs.size := Nat.le_trans (by rw [hs₁.1, Heap.size_push]; exact Nat.le_succ _) hz₂
      obtain ⟨st, stp⟩ := x.grow (s' := { s with heap := h₂ }) hk hz (Nat.le_refl _) x.bare rfl
      exact wpAny_pure (hQ _ _ st (ra.step stp (.nil _)) stp hk (.inr ⟨ot, hot, .inl fun c => by rw [hct]; nofun⟩))

theorem CAsg_TupleG {A₂ : Around} {ce : Env} {S : List Addr} {cvars : List (Str × AV)} {y z : Str} {p q : Pos} {k : Nat} {pos : Pos} {a b c : AV} (hu : UnpG C A A₂ F σ c [a, b]) (hy : ce.kindOf y = some .local) (hz : ce.kindOf z = some .local)
    (hS : ∀ d ∈ (Fm.mk ce [] F.fs).own, d ∈ S ∨ d ∈ ce.cells.map (·.2)) : ∀ s v, CFr C A F σ s ce S cvars → Rel σ s.heap c v → ∀ Q : Unit → Shared → Prop, (∀ s', St C A ⟨ce, putv (putv cvars y a) z b, F.fs⟩ σ s' → Step C.B F.frs S σ σ s s' → Q () s') → wpAny C.M A₂ (assign (.Tuple [.Name y p, .Name z q] k pos) ce v) Q NoE s := fun s v x r Q hQ => by
  rw [arm_assign_Tuple]
  refine wpAny_bind (wpAny_standAt ?_)
  unfold unpack
  have he : assignEach [.Name y p, .Name z q] ce = [(false, assign (.Name y p) ce), (false, assign (.Name z q) ce)] := rfl
  rw [he]
  refine wpAny_bind (wpAny_holding (hu s v x.out r _ fun vs s₁ st₁ ra e₁ hk hfn => ?_))
  obtain ⟨v1, v2, rfl, r1, r2⟩ := ra.two
  have x₁ := x.ext st₁ e₁ (.nil _) (by simp) (fun b o _ e => hk b o e) hfn (by simp)
  refine wpAny_assignInOrder_more (x₁.name_local hy r1 fun s₂ st₂ e₂ => ?_)
  have st₂' : St C A ⟨ce, putv cvars y a, F.fs⟩ σ s₂ := st₂
  refine wpAny_assignInOrder_more (wpAny_assign_Name (St.store1 (F := ⟨ce, putv cvars y a, F.fs⟩) st₂' (y := z) (.inl hz) (r2.step e₂ x₁.sok) fun d s₃ hd hor st₃ e₃ _ _ => ?_))
  refine wpAny_assignInOrder_none (hQ _ st₃ (((e₁.mono (by simp)).trans e₂).trans (Step.mono (S := [d]) e₃ fun e he => ?_)))
  rcases List.mem_cons.mp he with rfl | he
  · rcases hor with ⟨_, rfl⟩ | ⟨hk, _⟩
    · exact x.loc
    · have hk' : ce.kindOf z = some .cell := hk
      rw [hz] at hk'; cases hk'
  · cases he


theorem GTurn_Tuple {A' : Around} {ce : Env} {cvars : List (Str × AV)} {y z : Str} {p q : Pos} {k : Nat} {tp : Pos} {elt : Expr} {ifs : List Expr} {pz : Bool} {a b c r : AV} (hu : UnpG C A A' F E0 c [a, b]) (hy : ce.kindOf y = some .local) (hz : ce.kindOf z = some .local)
    (h : Ti C A' ⟨ce, putv (putv cvars y a) z b, ce :: F.fs⟩ E0 ifs (fun q σ'' => q = pz ∧ σ'' = E0)) (h2 : pz = true → Ev C A' ⟨ce, putv (putv cvars y a) z b, ce :: F.fs⟩ E0 elt fun b σ'' => b = r ∧ σ'' = E0) : GTurn C A A' F ce cvars (.Tuple [.Name y p, .Name z q] k tp) elt ifs pz c r :=
  ⟨putv (putv cvars y a) z b, fun s v x rel Q hQ => CAsg_TupleG hu hy hz (fun d hd => (List.mem_cons.mp hd).elim (fun e => .inl (e ▸ List.mem_cons_self)) .inr) s v x rel Q hQ, h, h2⟩
end

section
variable {C : Cx} {P0 : Params} {σ : Store} {pv : AV} {l : List Pr}
theorem fn_from_tuples (x : Bx C P0) (hp : Items σ pv .list (datsOf l)) (hl : l.length ≤ 1000) : Fn C 7 183 [.val (.ref TagsC), pv] σ (NewT σ l) := by
  refine Fn_at x.ok (FnOk.cast x.hK ⟨⟨_, rfl, rfl⟩, rfl, rfl, rfl, rfl, rfl, rfl, _, _, _, _, rfl, rfl, rfl, rfl⟩) rfl rfl ["cls", "tags"] rfl (fun vs h => by obtain ⟨v, u, rfl⟩ := len2 h; rfl) rfl (by decide) rfl (by decide) ⟨"cls", by simp, rfl⟩ fun A L fs q room hh => ?_
  dsimp only
  have e : (passing (fun i => true) (datsOf l).length 0).map (fun i => AV.tag (l.getD i ((0, "") : Pr)).1 (l.getD i ((0, "") : Pr)).2) = tagsOf l := by
    rw [passing_list (fun q : Pr => AV.tag q.1 q.2) (fun _ => true) ((0, "") : Pr) l (by simp [datsOf]), List.filter_eq_self.mpr (by simp)]; rfl
  refine Exs_cons <| Ex_Return <| Ev_CallTags x.ok x.kf.T x.mkL x.kf.kvTags (j := 3) room hh (Ev_Name rfl ⟨rfl, rfl⟩) (cl := []) ⟨rfl, rfl, by decide, by simp⟩ rfl (ct182 x) (pz := fun _ => true) (ov := fun i => AV.tag (l.getD i ((0, "") : Pr)).1 (l.getD i ((0, "") : Pr)).2) (by nofun) hp ?_ (Ev_Name rfl ⟨rfl, rfl⟩) (fun _ => rfl) (fun it ce As s i a lx v ha hr hi Q hQ => ?_) (fun D cd As A' room' hh' hfr i a ha => ?_) fun S hS => Up.now ⟨S, hS, rfl, by rw [e]⟩
  · have := congrArg List.length e
    rw [List.length_map] at this
    rw [this]; simp [tagsOf]; omega
  · obtain ⟨y, rfl⟩ := hr.isRef (datsOf_isRef l a ha)
    exact wpAny_letOwnedTupleGo_listiter hi hQ
  · obtain ⟨q, hq, rfl⟩ := datsOf_get ha
    have hg : l.getD i ((0, "") : Pr) = q := by rw [List.getD_eq_getElem?_getD, hq]; rfl
    dsimp only
    rw [hg]
    refine GTurn_Tuple (a := .int q.1) (b := .str q.2) (Unp_tupleG hh' [.int q.1, .str q.2]) rfl rfl (Ti_nil ⟨rfl, rfl⟩) fun _ => ?_
    exact Ev_Call x.ok (Ev_Global x.ok rfl (x.ok.val x.kf.vDXFTag) (a := .val (.ref TagC)) (fun h => .val _) ⟨.ref TagC, rfl, .ref x.kf.kvDXFTag, Sp_cons <| Ev_Name rfl <| Sp_cons <| Ev_Name lk_self <| Sp_nil <| On_newTag x (j := 2) room' ⟨rfl, rfl⟩⟩)
end
end Mine
end

section
open PySem PySem.W PyProof.Rows PySem.Calls PySem.SeqAt
set_option Elab.async false
set_option maxRecDepth 100000
set_option linter.unusedVariables false
namespace Mine

/-- a value that is a list of these ints -/
def intsAV (ns : List Int) : List AV := ns.map AV.int
theorem IntsAre.of {σ : Store} {h : Heap} : ∀ {ns : List Int} {vs : List Value}, RelAll σ h (intsAV ns) vs → PyProof.Rows.IntsAre vs ns
  | [], _, r => by cases r; exact .nil
  | n :: ns, _, r => by
    cases r with
    | cons r1 r2 =>
      obtain ⟨t, rfl⟩ := Rel.int_inv r1
      exact .cons n t (IntsAre.of r2)
theorem firstMet_contains (ns : List Int) (n : Nat) (hn : n = ns.length) (k : Int) : (PyProof.Rows.firstMet (fun i => ns.getD i 0) n).any (· == k) = ns.contains k := by
  rw [PyProof.Rows.firstMet_any, hn]
  have := filter_range (fun x : Int => x) (fun _ => true) 0 ns
  rw [List.filter_eq_self.mpr (by simp), List.filter_eq_self.mpr (by simp), List.map_id'] at this
  rw [this]
  induction ns with
  | nil => rfl
  | cons a r ih => 
    rw [List.any_cons, List.contains_cons]
    have e : (a == k) = (k == a) := BEq.comm
    rw [e]
    have ih' : r.any (· == k) = r.contains k := by
      clear ih this hn
      induction r with
      | nil => rfl
      | cons b r ih => rw [List.any_cons, List.contains_cons, ih, BEq.comm (a := b)]
    rw [ih']

section
variable {C : Cx} {P0 : Params} {A : Around} {F : Fm} {σ : Store} {s : Shared} {P : AV → Store → Prop}

theorem On_set (hh : A.handled = none) {a : AV} {ns : List Int} (hi : Items σ a .list (intsAV ns)) (hn : ns.length ≤ 900) (hP : P (.set false fun k => ns.contains k) σ) : On C A F σ [a] (fun vs => call (.type "set") vs) P := fun s vs st r Q hQ => by
  obtain ⟨v, rfl, r1⟩ := r.one
  obtain ⟨l, us, rfl, q, ra⟩ := hi.at_ st r1
  have hlen : us.length = ns.length := by rw [ra.length]; simp [intsAV]
  have hsz : us.toArray.size = ns.length := by rw [List.size_toArray]; exact hlen
  refine PySem.call_set_list (items := us.toArray) (ns := ns) hh q (by simpa using IntsAre.of ra) (by rw [hsz]; have : scanBound = 4096 := rfl; omega) fun h' tk hS hk => ?_
  obtain ⟨o, ho, hso⟩ := hS.objOf
  have hle := PyProof.Rows.firstMet_length_le (fun i => ns.getD i 0) us.toArray.size
  have ext : ∀ b o, s.heap.get? b = some o → h'.get? b = some o := fun b o e => hk b o (Heap.lt_size e) e
  have hz : s.heap.objs.size ≤ h'.objs.size := Nat.le_of_lt (Heap.lt_size ho)
  obtain ⟨st', e'⟩ := st.grow (s' := { s with heap := h', toks := tk }) ext hz (Nat.le_refl _) st.bare rfl
  have hS' : (fun k' => (PyProof.Rows.firstMet (fun i => ns.getD i 0) us.toArray.size).any (· == k')) = fun k => ns.contains k := funext fun k => firstMet_contains ns _ hsz k
  rw [hS'] at hso
  refine hQ _ _ σ _ hP st' (.set (st.fresh (Nat.le_refl _)) ho ⟨hso.1.1, ?_, (PyProof.Rows.firstMet (fun i => ns.getD i 0) us.toArray.size).length, ?_, ?_⟩) e'
  · obtain ⟨_, es, ep, t, hd, _⟩ := hso; exact ⟨es, ep, t, hd⟩
  · rw [hsz] at hle ⊢; omega
  · obtain ⟨cls, dict, data, slots⟩ := o
    have hc : cls = .type "set" := hso.1.1
    subst hc
    exact hso.intSetOf

theorem Rel.set_inv {h : Heap} {fz : Bool} {S : Int → Bool} {v : Value} (r : Rel σ h (.set fz S) v) : ∃ a o, v = .ref a ∧ h.get? a = some o ∧ SetO fz o S := by
  cases r with | set _ h2 h3 => exact ⟨_, _, rfl, h2, h3⟩

theorem setAt {h : Heap} {a : Addr} {o : Obj} {S : Int → Bool} (ho : h.get? a = some o) (q : SetO false o S) (prog : Program) (w : World) : ∃ n, h.SetOf (intKind prog w) a S n := by
  obtain ⟨hc, _, n, hn, hi⟩ := q
  refine ⟨n, (hi.kind prog w).setOf ?_ (by have : scanBound = 4096 := rfl; omega)⟩
  obtain ⟨cls, dict, data, slots⟩ := o
  have hc : cls = .type "set" := hc
  subst hc
  exact ho

theorem O2_inSet {c : Int} {S : Int → Bool} (hP : P (.bool (S c)) σ) : O2 C A F σ (.int c) (.set false S) (compareOp .In) P :=
  .now (fun s v u st r1 r2 Q hQ => by
    obtain ⟨t, rfl⟩ := r1.int_inv
    obtain ⟨a, o, rfl, ho, q⟩ := r2.set_inv
    obtain ⟨n, hS⟩ := setAt ho q C.prog C.w
    exact wpAny_inSet_of (isInt_self c t) rfl hS (hQ _ _ (.bool _))) hP
theorem O2_notInSet {c : Int} {S : Int → Bool} (hP : P (.bool (!S c)) σ) : O2 C A F σ (.int c) (.set false S) (compareOp .NotIn) P :=
  .now (fun s v u st r1 r2 Q hQ => by
    obtain ⟨t, rfl⟩ := r1.int_inv
    obtain ⟨a, o, rfl, ho, q⟩ := r2.set_inv
    obtain ⟨n, hS⟩ := setAt ho q C.prog C.w
    exact wpAny_notInSet_of (isInt_self c t) rfl hS (hQ _ _ (.bool _))) hP
end
end Mine
end

section
open PySem PySem.W PyProof.Rows PySem.Calls PySem.SeqAt
set_option Elab.async false
set_option maxRecDepth 100000
set_option linter.unusedVariables false
namespace Mine

section
variable {C : Cx} {P0 : Params} {A : Around} {F : Fm} {σ : Store} {s : Shared} {P : AV → Store → Prop}

theorem slice_all {env : Env} {p : Pos} {Q : Value → Shared → Prop} {E : Value → Shared → Prop} (h : Q (.ref s.heap.objs.size) { s with heap := s.heap.push { cls := .type "slice", data := .fields #[.none, .none, .none] } }) : wpAny C.M A (eval (.Slice none none none p) env) Q E s := by
  show wpAny C.M A (newFields "slice" [.none, .none, .none]) Q E s
  unfold newFields
  exact wpAny_newObj_type h (by size_fits)

/-- x[:] = a list -/
theorem Ex_SetAll (ok : C.Ok) (T : TF C.K) {P : FP} {o e : Expr} {p1 p pos : Pos} (h : Ev C A F σ e fun a σ₁ => Ev C A F σ₁ o fun b σ₂ => ∃ x l xs ys, b = .obj x ∧ a = .obj l ∧ σ₂ x = some ⟨true, xs⟩ ∧ σ₂ l = some ⟨false, ys⟩ ∧ xs.length ≤ 100000 ∧ ys.length ≤ 100000 ∧ P .next F.vars (upd σ₂ x ⟨true, ys⟩))
    (hs : swapsWith e (some (.Subscript o (.Slice none none none p1) p)) pos.line F.env = pure false := by rfl) : Ex C A F σ (.Assign [.Subscript o (.Slice none none none p1) p] e pos) P :=
  fun s st Q hQ => wpAny_Assign_Subscript (h s st _ fun a v σ₁ s₁ h₁ st₁ r₁ e₁ => h₁ s₁ st₁ _ fun b u σ₂ s₂ h₂ st₂ r₂ e₂ => slice_all (by
    obtain ⟨x, l, xs, ys, rfl, rfl, hx, hl, hz, hz', hP⟩ := h₂
    obtain rfl := r₂.obj_inv
    obtain rfl := r₁.obj_inv
    obtain ⟨st₃, e₃⟩ := st₂.push { cls := .type "slice", data := .fields #[.none, .none, .none] } s₂.toks
    have hsl : (s₂.heap.push { cls := .type "slice", data := .fields #[.none, .none, .none] }).get? s₂.heap.objs.size = some { cls := .type "slice", data := .fields #[.none, .none, .none] } := Heap.get?_push_size _ rfl
    obtain ⟨us, n, ra, q⟩ := (st₃.so _ _ hx).2
    have ra : RelAll σ₂ _ xs us := ra
    obtain ⟨da, q, i1, i2, od, k, q2, q3⟩ := q
    obtain ⟨ws, n2, rb, q4⟩ := (st₃.so _ _ hl).2
    have rb : RelAll σ₂ _ ys ws := rb
    obtain ⟨m, q4⟩ := q4
    have tg : TagsAt (s₂.heap.push { cls := .type "slice", data := .fields #[.none, .none, .none] }) x us.toArray := ⟨da, n, q, od, k, q2, q3⟩
    have hdx : da ≠ x := fun e => by subst e; rw [q] at q2; cases q2; cases q3
    have hxl : x ≠ l := fun e => by subst e; rw [hx] at hl; cases hl
    have hl1 := ra.length
    have hl2 := rb.length
    refine tg_setAll (s := { s₂ with heap := s₂.heap.push { cls := .type "slice", data := .fields #[.none, .none, .none] } }) (st₃.K ok) T tg hsl ⟨_, q4, rfl, _, rfl⟩ hxl (by rw [List.size_toArray, hl1]; exact hz) (by rw [List.size_toArray, hl2]; exact hz') ?_
    have cv : (us.toArray.extract 0 0 ++ ws.toArray ++ us.toArray.extract us.toArray.size us.toArray.size) = ws.toArray := by simp
    obtain ⟨n', g1⟩ : ∃ n', ((s₂.heap.push { cls := .type "slice", data := .fields #[.none, .none, .none] }).update x (Obj.mapSeq fun xs => xs.extract 0 0 ++ ws.toArray ++ xs.extract us.toArray.size xs.size)).get? x = some { cls := .ref TagsC, dict := some da, data := .seq (us.toArray.extract 0 0 ++ ws.toArray ++ us.toArray.extract us.toArray.size us.toArray.size) n' } := ⟨_, Heap.get?_update_self (Obj.mapSeq fun xs => xs.extract 0 0 ++ ws.toArray ++ xs.extract us.toArray.size xs.size) q rfl⟩
    rw [cv] at g1
    have g2 := (Heap.get?_update_other (s₂.heap.push { cls := .type "slice", data := .fields #[.none, .none, .none] }) (a := x) (b := da) (Obj.mapSeq fun xs => xs.extract 0 0 ++ ws.toArray ++ xs.extract us.toArray.size xs.size) (Ne.symm hdx)).trans q2
    have := st₃.mutate hx (o' := ⟨true, ys⟩) (tk := s₂.toks) (Heap.SameBut.update _ x (Obj.mapSeq fun xs => xs.extract 0 0 ++ ws.toArray ++ xs.extract us.toArray.size xs.size)) fun hr => ⟨ws, n', rb.map hr, da, g1, i1, by rw [upd_ne hdx]; exact i2, od, k, g2, q3⟩
    exact hQ .next .next F.vars _ _ hP this.1 .next ((((e₁.trans e₂).trans e₃).trans this.2).mono (by simp)))) hs
end
end Mine
end

section
open PySem PySem.W PyProof.Rows PySem.Calls PySem.SeqAt
set_option Elab.async false
set_option maxRecDepth 100000
set_option linter.unusedVariables false
namespace Mine
theorem tagsOf_len (l : List Pr) : (tagsOf l).length = l.length := List.length_map _
theorem datsOf_len (l : List Pr) : (datsOf l).length = l.length := List.length_map _
section
variable {C : Cx} {P0 : Params} {σ : Store} {a : Addr} {l : List Pr}

theorem fn_remove (x : Bx C P0) {cv : AV} {ns : List Int} (ha : σ a = some ⟨true, tagsOf l⟩) (hl : l.length ≤ 1000) (hc : Items σ cv .list (intsAV ns)) (hn : ns.length ≤ 900) : Fn C 4 271 [.obj a, cv] σ fun r σ' => r = .none ∧ σ' = upd σ a ⟨true, tagsOf (l.filter fun q => !ns.contains q.1)⟩ := by
  refine Fn_at x.ok (FnOk.cast x.hK ⟨⟨_, rfl, rfl⟩, rfl, rfl, rfl, rfl, rfl, rfl, _, _, _, _, rfl, rfl, rfl, rfl⟩) rfl rfl ["self", "codes"] rfl (fun vs h => by obtain ⟨v, u, rfl⟩ := len2 h; rfl) rfl (by decide) rfl (by decide) ⟨"self", by simp, rfl⟩ fun A L fs q room hh => ?_
  dsimp only
  have hlen : (tagsOf l).length = l.length := by simp [tagsOf]
  refine Exs_cons <| Ex_SetAll x.ok x.kf.T <| Ev_ListComp x.ok x.kf.T hh (cl := [("codes", L + 1)]) ⟨rfl, rfl, by decide, by simp; exact .inl rfl⟩ (y := "tag") rfl <| Ev_Name rfl ⟨tagsOf l, fun i outs σ' => outs = tagsOf ((l.take i).filter fun q => !ns.contains q.1) ∧ Agr σ σ', ⟨.seq (by nofun) (.tags ha), LetOk_Name, by omega, ⟨rfl, .refl _⟩, fun i outs σ' σ'' h hag => ⟨h.1, h.2.loc hag⟩, fun i outs σ' h => .seq (by nofun) (.tags (h.2.get ha)), ?_⟩, ?_⟩
  · rintro D i v hv outs σ' ⟨rfl, hag⟩ hdm
    obtain ⟨q, hq, rfl⟩ := tagsOf_get hv
    have ft : tagsOf ((l.take (i + 1)).filter fun q => !ns.contains q.1) = tagsOf ((l.take i).filter fun q => !ns.contains q.1) ++ (if (!ns.contains q.1) = true then [AV.tag q.1 q.2] else []) := filterMap_take (p := fun q : Pr => !ns.contains q.1) (f := fun q : Pr => AV.tag q.1 q.2) hq
    refine ⟨_, !ns.contains q.1, CAsg_Name rfl, Ti_one (Te_Cmp <| Ev_Attr <| Ev_Name lk_self <| O1_code P0 x.hK x.ok x.kf (j := 1) room hh <| Ev_CallT x.ok x.kf.nset rfl <| Sp_cons <| Ev_Name (lk_ne rfl (by decide)) <| Sp_nil <| On_set hh (hc.agr hag) hn <| O2_notInSet ⟨_, rfl, rfl, rfl⟩), fun h => Ev_Name lk_self ⟨fun _ _ _ => rfl, hdm, ?_, hag⟩, fun hf => ⟨?_, hag⟩⟩
    · exact (by rw [ft, if_pos h] : tagsOf ((l.take (i + 1)).filter fun q => !ns.contains q.1) = _).symm
    · exact (by rw [ft, if_neg (by simpa using hf), List.append_nil] : tagsOf ((l.take (i + 1)).filter fun q => !ns.contains q.1) = _).symm
  · rintro D outs σ' hD ⟨rfl, hag⟩ hD'
    rw [List.take_of_length_le (by omega)] at hD'
    have hfl := List.length_filter_le (fun q : Pr => !ns.contains q.1) l
    refine Ev_Name rfl ⟨a, D, _, _, rfl, rfl, hag.get ha, hD', by omega, by rw [tagsOf_len]; omega, ?_⟩
    exact Exs_nil (Up.to ⟨rfl, rfl⟩ (hag.sub.updBoth _ _))

theorem fn_except (x : Bx C P0) {cv : AV} {ns : List Int} (ha : σ a = some ⟨true, tagsOf l⟩) (hl : l.length ≤ 1000) (hc : Items σ cv .list (intsAV ns)) (hn : ns.length ≤ 900) : Fn C 4 283 [.obj a, cv] σ fun r σ' => r = .none ∧ σ' = upd σ a ⟨true, tagsOf (l.filter fun q => ns.contains q.1)⟩ := by
  refine Fn_at x.ok (FnOk.cast x.hK ⟨⟨_, rfl, rfl⟩, rfl, rfl, rfl, rfl, rfl, rfl, _, _, _, _, rfl, rfl, rfl, rfl⟩) rfl rfl ["self", "codes"] rfl (fun vs h => by obtain ⟨v, u, rfl⟩ := len2 h; rfl) rfl (by decide) rfl (by decide) ⟨"self", by simp, rfl⟩ fun A L fs q room hh => ?_
  dsimp only
  have hlen : (tagsOf l).length = l.length := by simp [tagsOf]
  refine Exs_cons <| Ex_SetAll x.ok x.kf.T <| Ev_ListComp x.ok x.kf.T hh (cl := [("codes", L + 1)]) ⟨rfl, rfl, by decide, by simp; exact .inl rfl⟩ (y := "tag") rfl <| Ev_Name rfl ⟨tagsOf l, fun i outs σ' => outs = tagsOf ((l.take i).filter fun q => ns.contains q.1) ∧ Agr σ σ', ⟨.seq (by nofun) (.tags ha), LetOk_Name, by omega, ⟨rfl, .refl _⟩, fun i outs σ' σ'' h hag => ⟨h.1, h.2.loc hag⟩, fun i outs σ' h => .seq (by nofun) (.tags (h.2.get ha)), ?_⟩, ?_⟩
  · rintro D i v hv outs σ' ⟨rfl, hag⟩ hdm
    obtain ⟨q, hq, rfl⟩ := tagsOf_get hv
    have ft : tagsOf ((l.take (i + 1)).filter fun q => ns.contains q.1) = tagsOf ((l.take i).filter fun q => ns.contains q.1) ++ (if (ns.contains q.1) = true then [AV.tag q.1 q.2] else []) := filterMap_take (p := fun q : Pr => ns.contains q.1) (f := fun q : Pr => AV.tag q.1 q.2) hq
    refine ⟨_, ns.contains q.1, CAsg_Name rfl, Ti_one (Te_Cmp <| Ev_Attr <| Ev_Name lk_self <| O1_code P0 x.hK x.ok x.kf (j := 1) room hh <| Ev_CallT x.ok x.kf.nset rfl <| Sp_cons <| Ev_Name (lk_ne rfl (by decide)) <| Sp_nil <| On_set hh (hc.agr hag) hn <| O2_inSet ⟨_, rfl, rfl, rfl⟩), fun h => Ev_Name lk_self ⟨fun _ _ _ => rfl, hdm, ?_, hag⟩, fun hf => ⟨?_, hag⟩⟩
    · exact (by rw [ft, if_pos h] : tagsOf ((l.take (i + 1)).filter fun q => ns.contains q.1) = _).symm
    · exact (by rw [ft, if_neg (by simpa using hf), List.append_nil] : tagsOf ((l.take (i + 1)).filter fun q => ns.contains q.1) = _).symm
  · rintro D outs σ' hD ⟨rfl, hag⟩ hD'
    rw [List.take_of_length_le (by omega)] at hD'
    have hfl := List.length_filter_le (fun q : Pr => ns.contains q.1) l
    refine Ev_Name rfl ⟨a, D, _, _, rfl, rfl, hag.get ha, hD', by omega, by rw [tagsOf_len]; omega, ?_⟩
    exact Exs_nil (Up.to ⟨rfl, rfl⟩ (hag.sub.updBoth _ _))
end
end Mine
end

section
open PySem PySem.W PyProof.Rows PySem.Calls PySem.SeqAt
set_option Elab.async false
set_option maxRecDepth 100000
set_option linter.unusedVariables false
namespace Mine
section
variable {C : Cx} {P0 : Params} {A : Around} {F : Fm} {σ : Store} {s : Shared} {P : AV → Store → Prop}

/-- what a class method's name needs -/
structure CMeth (K : Frag) (c : Addr) (name : Str) (f : Addr) : Prop where
  hg : specialIn K (.ref c) "__getattribute__" = some (some (.builtin "type.__getattribute__"))
  hr : readsIn K c (.type "type") = true
  hp : ∃ p obj rest, findCls K (.ref c) (.type "type") name = some (.get (.builtin "classmethod.__get__") (.ref p) obj (.ref c)) ∧ recIn K p "classmethod" = some (.ref f :: rest)
  hf : fnIn K f = true

theorem cm_from (x : Bx C P0) : CMeth C.K TagsC "from_tuples" 183 := by rw [x.hK]; exact ⟨by kernel_rfl, by kernel_rfl, ⟨_, _, _, rfl, rfl⟩, by kernel_rfl⟩
theorem cm_strip (x : Bx C P0) : CMeth C.K TagsC "strip" 305 := by rw [x.hK]; exact ⟨by kernel_rfl, by kernel_rfl, ⟨_, _, _, rfl, rfl⟩, by kernel_rfl⟩

/-- a class method, called -/
theorem Ev_ClsMeth (ok : C.Ok) {j : Nat} (room : Room A j) (hh : A.handled = none) {o e : Expr} {c f : Addr} {name : Str} {apos pos : Pos} {r : List Expr} {pl : Sem Bool} (cm : CMeth C.K c name f)
    (ho : Ev C A F σ o fun a σ₁ => a = .val (.ref c) ∧ σ₁ = σ) (h : Sp C A F σ (e :: r) fun as σ₂ => ∃ k, k ≤ j ∧ Fn C k f (.val (.ref c) :: as) σ₂ P) (hn : noStar (e :: r) = true := by rfl)
    (he : eval (.Call (.Attribute o name apos) (e :: r) [] pos) F.env = (do
      let ov ← eval o F.env
      standAt apos.atName
      let (f, first) ← holding [ov] (getMethod ov name pl)
      callWith pos f first (backTo pos (starEach (e :: r) F.env)) (backToKw pos (keywordEach [] F.env))) := by rfl) :
    Ev C A F σ (.Call (.Attribute o name apos) (e :: r) [] pos) P := fun s st Q hQ => methodCall_KW (ho s st _ fun a v σ₁ s₁ h₁ st₁ r₁ e₁ => by
  obtain ⟨rfl, rfl⟩ := h₁
  obtain rfl := r₁.val_inv
  obtain ⟨p, obj, rest, hc, hp⟩ := cm.hp
  refine method_cls (st₁.K ok) cm.hg (cls_bind (st₁.K ok) cm.hr hc (wpAny_call ?_))
  have K1 : C.K.In s₁.heap := st₁.K ok
  refine cm_get (s := { s₁ with toks := s₁.toks + 1 }) K1 hp ?_
  refine handed_on rfl ?_
  obtain ⟨st₂, e₂⟩ := st₁.push (methodObj (.ref f) (.ref c)) (s₁.toks + 1)
  have hq : (s₁.heap.push (methodObj (.ref f) (.ref c))).get? s₁.heap.objs.size = some (methodObj (.ref f) (.ref c)) := Heap.get?_push_size _ rfl
  have fin : wpAny C.M A (spliced (backTo pos (starEach (e :: r) F.env))) (fun vs s₃ => MethP C.K s₁.heap.objs.size f (.ref c) s₃.heap ∧ wpAny C.M A (call (.ref s₁.heap.objs.size) ([] ++ vs)) Q NoE s₃) NoE { s₁ with heap := s₁.heap.push (methodObj (.ref f) (.ref c)), toks := s₁.toks + 1 } :=
    h _ st₂ pos _ fun as vs σ₃ s₃ h₃ st₃ r₃ e₃ => by
      obtain ⟨k, hkj, hfn⟩ := h₃
      have hq3 : s₃.heap.get? s₁.heap.objs.size = some (methodObj (.ref f) (.ref c)) := e₃.k _ _ hq (st₁.fresh (Nat.le_refl _)) (by simp) (fun ps q => by simp [tObj] at q) (.inr fun es n q => by cases q)
      refine ⟨⟨hq3, st₃.K ok⟩, wpAny_call (method_call hq3 ?_)⟩
      exact hfn A F s₃ (.ref c :: vs) _ (room.less hkj) hh st₃ (.cons (.val _) r₃) fun a v σ' s' hp' st' r' e' => hQ a v σ' s' hp' st' r' (((e₁.trans e₂).trans e₃).trans e')
  have plain := starEach_plain (env := F.env) (pos := pos) hn
  have h1 := (starEach_cons (env := F.env) hn).1
  rw [h1] at fin plain ⊢
  exact callWith_of (P := MethP C.K s₁.heap.objs.size f (.ref c)) (by rw [plain]; rfl) (fun h X => keeps_M cm.hf h X) (evalArgs_plain fin)) he
end
end Mine
end

section
open PySem PySem.W PyProof.Rows PySem.Calls PySem.SeqAt
set_option Elab.async false
set_option maxRecDepth 100000
set_option linter.unusedVariables false
namespace Mine
section
variable {prog : Program} {w : World} {A : Around} {E : Value → Shared → Prop} {s : Shared}

/-- a frozenset of ints, as it lies -/
def FzAt (prog : Program) (w : World) (h : Heap) (a : Addr) (S : Int → Bool) (n : Nat) : Prop :=
  ∃ es ep t, h.get? a = some { cls := .type "frozenset", data := .set es ep t } ∧ ElemsOf (intKind prog w) es.toList ∧ (∀ k, S k = true ↔ ∃ e ∈ es.toList, (intKind prog w).is k e.2 = true) ∧ es.size < scanBound ∧ t.fits es.size = true ∧ es.size = n

theorem gave_ok (b : Bool) {s₁ : Shared} {Q' : Unit → Shared → Prop} (hq : Q' () s₁) : wpAny (model prog w) A (match b with | true => rule "set.scan.the-table-gave-way" | false => pure ()) Q' E s₁ := by
  cases b
  · exact wpAny_pure hq
  · exact wpAny_rule hq

theorem fz_put {h : Heap} {a : Addr} {es : Array (Int × Value)} {ep : Nat} {t : SetTable} (ho : h.get? a = some { cls := .type "frozenset", data := .set es ep t }) (es' : Array (Int × Value)) (t' : SetTable) :
    (h.update a (Obj.putSet es' t')).get? a = some { cls := .type "frozenset", data := .set es' (ep + 1) t' } := by
  have := Heap.get?_update_self (Obj.putSet es' t') ho (by rw [putSet_of es' t' rfl]; rfl)
  rw [putSet_of es' t' rfl] at this
  exact this

theorem fz_add {a : Addr} {S : Int → Bool} {n : Nat} {k : Int} {tk : Tok} {Q : Bool → Shared → Prop} (hS : FzAt prog w s.heap a S n) (hroom : n + 1 < scanBound)
    (h : ∀ b h', Heap.SameBut a s.heap h' → FzAt prog w h' a (fun k' => S k' || decide (k' = k)) (if S k then n else n + 1) → Q b { s with heap := h' }) :
    wpAny (model prog w) A (setAddHashed a (.int k tk) ((intKind prog w).hash k)) Q E s := by
  obtain ⟨es, ep, t, ho, hel, hmem, hb, hf, hn⟩ := hS
  have hkey : (intKind prog w).is k (.int k tk) = true := intKind_is _ _ _ _
  have hsc : (Value.int k tk).scannable = true := rfl
  have hb1 : es.size + 1 < scanBound := by rw [hn]; exact hroom
  unfold setAddHashed setAddHashedIn
  refine wpAny_holding (wpAny_bind (wpAny_setState_of ho rfl hf ?_))
  dsimp only
  rw [byScan_of hsc hb hel]
  simp only [↓reduceIte]
  unfold setAddByScan
  refine wpAny_bind (wpAny_bind (wpAny_rule (wpAny_bind (wpAny_setScan_of hkey ho rfl hf hel ?_))))
  cases hr : List.findIdx? (fun e => (intKind prog w).is k e.2) es.toList with
  | some j =>
    dsimp only
    obtain ⟨hj, hpj, _⟩ := List.findIdx?_eq_some_iff_getElem.mp hr
    have hSk : S k = true := (hmem k).mpr ⟨es.toList[j], List.getElem_mem hj, hpj⟩
    refine wpAny_pure (wpAny_pure ?_)
    have e : s = { s with heap := s.heap } := by cases s; rfl
    rw [e]
    refine h false s.heap (Heap.SameBut.refl a s.heap) ⟨es, ep, t, ho, hel, fun k' => ?_, hb, hf, by rw [hSk]; exact hn⟩
    rw [Bool.or_eq_true, decide_eq_true_eq, ← hmem k']
    exact ⟨fun hk => hk.elim id (fun e => e ▸ hSk), .inl⟩
  | none =>
    dsimp only
    have hSk : S k = false := by
      cases hk : S k with
      | false => rfl
      | true =>
        obtain ⟨e, he, hp⟩ := (hmem k).mp hk
        have := List.findIdx?_eq_none_iff.mp hr e he
        rw [hp] at this; cases this
    have hperm := layNew_perm t es ((intKind prog w).hash k) (.int k tk)
    have hfits := layNew_fits t es ((intKind prog w).hash k) (.int k tk)
    generalize layNew t es ((intKind prog w).hash k) (.int k tk) = L at hperm hfits ⊢
    obtain ⟨es1, t1, wasDummy, gave⟩ := L
    dsimp only at hperm hfits ⊢
    rw [Array.toList_push] at hperm
    have hel1 : ElemsOf (intKind prog w) es1.toList := (hel.push hkey hsc).perm hperm
    have hmem1 : ∀ k', (S k' || decide (k' = k)) = true ↔ ∃ e ∈ es1.toList, (intKind prog w).is k' e.2 = true := mem_push_iff hkey hmem hperm
    have hsz1 : es1.size = n + 1 := by rw [← Array.length_toList, hperm.length_eq, List.length_append, Array.length_toList, hn]; rfl
    have hb1' : es1.size < scanBound := by rw [hsz1]; exact hroom
    refine wpAny_bind (gave_ok gave ?_)
    have tail : ∀ t2 : SetTable, t2.fits es1.size = true → ∀ A', wpAny (model prog w) A' (do
        storeSet a es1 t2
        if (!wasDummy && t2.tooFull) = true then do
            (match (relayAll t2 es1 (SetTable.grown es1.size)).2.2 with | true => rule "set.scan.the-table-gave-way" | false => pure ())
            storeSet a (relayAll t2 es1 (SetTable.grown es1.size)).1 (relayAll t2 es1 (SetTable.grown es1.size)).2.1
            pure (some true)
          else pure (some true)) (fun r s' => r = some true ∧ Q true s') E s := fun t2 hf2 A' => by
      have ho1 := fz_put ho es1 t2
      have hsb1 := Heap.SameBut.update s.heap a (Obj.putSet es1 t2)
      refine wpAny_bind (wpAny_storeSet_of ho rfl ?_ (fits_of_scanBound hb1'))
      split
      · have hp := relayAll_perm t2 es1 (SetTable.grown es1.size)
        have hfr := relayAll_fits t2 es1 (SetTable.grown es1.size)
        generalize relayAll t2 es1 (SetTable.grown es1.size) = Rl at hp hfr ⊢
        obtain ⟨es2, t3, gave2⟩ := Rl
        dsimp only at hp hfr ⊢
        have hsz : es2.size = es1.size := by rw [← Array.length_toList, hp.length_eq, Array.length_toList]
        have hb2 : es2.size < scanBound := by rw [hsz]; exact hb1'
        refine wpAny_bind (gave_ok gave2 ?_)
        refine wpAny_bind (wpAny_storeSet_of ho1 rfl ?_ (fits_of_scanBound hb2))
        refine wpAny_pure ⟨rfl, h true _ (hsb1.trans (Heap.SameBut.update _ a _)) ⟨es2, _, t3, fz_put ho1 es2 t3, hel1.perm hp, fun k' => (hmem1 k').trans ⟨fun ⟨e, he, q⟩ => ⟨e, hp.mem_iff.mpr he, q⟩, fun ⟨e, he, q⟩ => ⟨e, hp.mem_iff.mp he, q⟩⟩, hb2, by rw [hsz] at hfr ⊢; exact hfr, ?_⟩⟩
        rw [hSk, hsz, hsz1]; rfl
      · refine wpAny_pure ⟨rfl, h true _ hsb1 ⟨es1, _, t2, ho1, hel1, hmem1, hb1', hf2, ?_⟩⟩
        rw [hSk, hsz1]; rfl
    split
    · refine wpAny_bind ?_
      rw [hashByValue_scannable 8 hsc]
      refine wpAny_pure ?_
      refine wpAny_mono (tail _ ?_ _) (fun r s' hr => ?_) fun _ _ e => e
      · split
        · exact hfits
        · exact SetTable.fits_plain_off hfits
      · obtain ⟨rfl, hq⟩ := hr; exact wpAny_pure hq
    · refine wpAny_bind (wpAny_pure ?_)
      simp only [↓reduceIte]
      refine wpAny_mono (tail _ hfits _) (fun r s' hr => ?_) fun _ _ e => e
      obtain ⟨rfl, hq⟩ := hr; exact wpAny_pure hq
end
end Mine
end

section
open PySem PySem.W PyProof.Rows PySem.Calls PySem.SeqAt
set_option Elab.async false
set_option maxRecDepth 100000
set_option linter.unusedVariables false
namespace Mine
section
variable {prog : Program} {w : World} {A : Around} {E : Value → Shared → Prop} {R : Result → Shared → Prop} {g : Array GenState} {d : Drawn} {os : OsState}

theorem FzAt.congr {h : Heap} {a : Addr} {S S' : Int → Bool} {n n' : Nat} (x : FzAt prog w h a S n) (e : ∀ k, S k = S' k) (en : n = n') : FzAt prog w h a S' n' := by
  have : S = S' := funext e
  subst this; subst en; exact x
theorem FzAt.keep {h h' : Heap} {a : Addr} {S : Int → Bool} {n : Nat} (x : FzAt prog w h a S n) (hk : ∀ o, h.get? a = some o → h'.get? a = some o) : FzAt prog w h' a S n := by
  obtain ⟨es, ep, t, ho, r⟩ := x
  exact ⟨es, ep, t, hk _ ho, r⟩

/-- the ints of a list go into a frozenset -/
theorem fz_loop (hh : A.handled = none) {S it l : Addr} {items : Array Value} {ns : List Int} (hi : PyProof.Rows.IntsAre items.toList ns) (hb : items.size + 1 < scanBound) (hSi : S ≠ it) (hSl : S ≠ l) (hil : l ≠ it) :
    ∀ (k i : Nat) (h : Heap) (tk : Nat), items.size - i = k → i ≤ items.size → h.IsListIter it l i → h.IsList l items → FzAt prog w h S (fun k' => (PyProof.Rows.firstMet (fun i => ns.getD i 0) i).any (· == k')) (PyProof.Rows.firstMet (fun i => ns.getD i 0) i).length →
      (∀ h' tk', (∀ b o, b ≠ S → b ≠ it → h.get? b = some o → h'.get? b = some o) → FzAt prog w h' S (fun k' => (PyProof.Rows.firstMet (fun i => ns.getD i 0) items.size).any (· == k')) (PyProof.Rows.firstMet (fun i => ns.getD i 0) items.size).length → R (.ok (.ret .none)) ⟨h', g, d, tk', os⟩) →
      codeAny (model prog w) A (.builtin "set.update.loop" ⟨[.ref S, .ref it], []⟩) R ⟨h, g, d, tk, os⟩ := by
  intro k
  induction k with
  | zero =>
    intro i h tk hk hle hit hl hS hR
    have hin : i = items.size := by omega
    subst hin
    refine codeAny_builtin PyProof.Rows.F.entry_set_update_loop ?_
    rw [Around.under_plainId PyProof.Rows.F.plain_set_update_loop _]
    show wpAny _ A.in1 (pyNext (.ref it) >>= _) _ _ _
    refine wpAny_bind (wpAny_pyNext_list_end hh hit hl (by simp) fun h' he' => ?_)
    exact wpAny_pure (hR _ _ (fun b o h1 h2 e => he' b o h2 e) (hS.keep fun o e => he' S o hSi e))
  | succ k ih =>
    intro i h tk hk hle hit hl hS hR
    have hlt : i < items.size := by omega
    refine codeAny_builtin PyProof.Rows.F.entry_set_update_loop ?_
    rw [Around.under_plainId PyProof.Rows.F.plain_set_update_loop _]
    show wpAny _ A.in1 (pyNext (.ref it) >>= _) _ _ _
    refine wpAny_bind (wpAny_pyNext_list_item hit hl (x := items[i]) (by simp [hlt]) fun h1 hit1 hs1 => ?_)
    obtain ⟨t, ht⟩ := PyProof.Rows.IntsAre.int_at hi i items[i] (by rw [Array.getElem?_toList]; exact Array.getElem?_eq_getElem hlt)
    rw [ht]
    have hS1 := hS.keep (h' := h1) fun o e => hs1.extBut S o hSi e
    have hl1 : h1.IsList l items := hl.extBut hs1.extBut hil
    show wpAny _ A.in1 (holding [Value.int (ns.getD i 0) t] (setAdd S (.int (ns.getD i 0) t)) >>= _) _ _ _
    refine wpAny_bind (wpAny_holding ?_)
    unfold setAdd
    refine wpAny_holding (wpAny_bind ((intKind prog w).pyHash (k := ns.getD i 0) (intKind_is _ _ _ _) ?_))
    have hroom : (PyProof.Rows.firstMet (fun i => ns.getD i 0) i).length + 1 < scanBound := by
      have := PyProof.Rows.firstMet_length_le (fun i => ns.getD i 0) i
      omega
    refine fz_add hS1 hroom fun b h2 hs2 hS2 => ?_
    refine wpAny_pure ⟨plainId_quiet PyProof.Rows.F.plain_set_update_loop _, ih (i + 1) h2 _ (by omega) hlt (hit1.extBut hs2.extBut (Ne.symm hSi)) (hl1.extBut hs2.extBut (Ne.symm hSl)) (hS2.congr (fun k' => by rw [PyProof.Rows.firstMet_succ, PyProof.Rows.step_any]) (by rw [PyProof.Rows.firstMet_succ, PyProof.Rows.step_length])) fun h' tk' hk' hS' => ?_⟩
    exact hR h' tk' (fun b o h3 h4 e => hk' b o h3 h4 (hs2.extBut b o h3 (hs1.extBut b o h4 e))) hS'
end
end Mine
end

section
open PySem PySem.W PyProof.Rows PySem.Calls PySem.SeqAt
set_option Elab.async false
set_option maxRecDepth 100000
set_option linter.unusedVariables false
namespace Mine

theorem fz_mro : mroOf (.type "frozenset") = pure [.type "frozenset", .type "object"] := by rw [mroOf_type]; kernel_rfl
theorem fz_lookup_new : typeLookup (.type "frozenset") "__new__" = pure (some (.builtin "frozenset.__new__")) := by rw [typeLookup_type, builtinLookup_eq_fast]; kernel_rfl
theorem fz_lookup_init : typeLookup (.type "frozenset") "__init__" = pure (some (.builtin "object.__init__")) := by rw [typeLookup_type, builtinLookup_eq_fast]; kernel_rfl
theorem fz_sub : isSubtype (.type "frozenset") (.type "frozenset") = pure true := by rw [isSubtype_type]; kernel_rfl
theorem fz_called : TypeCalled "frozenset" "frozenset.__new__" "object.__init__" :=
  ⟨by decide +kernel, by decide +kernel, ⟨_, _, fz_mro⟩, madeBy_type fz_mro fz_lookup_new (by decide +kernel), by decide +kernel, fz_sub, by
    exact .of (owner := "object") (n := "__init__") fz_lookup_init (by decide +kernel) (by decide +kernel) (by decide +kernel)
      (by first | exact .inl (by decide +kernel) | exact .inr (by decide +kernel)) (by rw [isSubtype_type]; kernel_rfl)⟩
theorem fz_typeCall (a : Value) : checkTypeCall "frozenset" ⟨[a], []⟩ = pure () := by kernel_rfl
theorem fz_newCall (a : Value) : checkBuiltinCall "frozenset.__new__" ⟨[.type "frozenset", a], []⟩ = pure () := by kernel_rfl
theorem fz_entry : entryFor table "frozenset.__new__" = some Builtin.«frozenset.__new__» := entryFor_of_tree (by kernel_rfl)

def fzSpec (l : Addr) (items : Array Value) (ns : List Int) : PySem.Spec := fun A R s => A.handled = none ∧ s.heap.IsList l items ∧ PyProof.Rows.IntsAre items.toList ns ∧ items.size = ns.length ∧ ns.length ≤ 900 ∧
  ∀ h' tk o, (∀ b o, b < s.heap.objs.size → s.heap.get? b = some o → h'.get? b = some o) → h'.get? s.heap.objs.size = some o → SetO true o (fun k => ns.contains k) → R (.ok (.ret (.ref s.heap.objs.size))) { s with heap := h', toks := tk }

set_option maxHeartbeats 3200000 in
theorem fz_new (l : Addr) (items : Array Value) (ns : List Int) : Meets (Builtin.«frozenset.__new__» ⟨[.type "frozenset", .ref l], []⟩) (fzSpec l items ns) :=
  .of_wp fun prog w A R s h => by
    obtain ⟨hh, hl, hi, hz, hn, hR⟩ := h
    obtain ⟨hp, g, d, tk, os⟩ := s
    obtain ⟨ol, hol, hcl, nl, hdl⟩ := hl
    obtain ⟨ocls, odict, odata, oslots⟩ := ol
    simp only at hcl hdl hol hR
    subst hcl; subst hdl
    have hsub := fz_sub
    have hli := fz_lookup_init
    have hsls := PySem.F.sub_list_set
    have hslf := PySem.F.sub_list_frozenset
    have hne : (Value.type "list" == Value.type "dict") = false := by decide
    have hne2 : (Value.type "list" == Value.type "frozenset") = false := by decide
    unfold Builtin.«frozenset.__new__» Builtin.Frozenset.newClass Builtin.Frozenset.newFrom Builtin.Frozenset.updateFrom
    generalize hPI : pyIter = PI
    wp_walk
    refine wpAny_askSetting (wpAny_pure ?_)
    dsimp only
    simp only [newObj]
    refine wpAny_bind (wpAny_alloc (wpAny_pure ?_))
    generalize hld : (!_) = led
    have hS : (hp.push { cls := .type "frozenset", dict := none, data := .set #[] 0 (.fresh 0 0 led) }).get? hp.objs.size = some { cls := .type "frozenset", dict := none, data := .set #[] 0 (.fresh 0 0 led) } := Heap.get?_push_size _ rfl
    have hol' : (hp.push { cls := .type "frozenset", dict := none, data := .set #[] 0 (.fresh 0 0 led) }).get? l = some { cls := .type "list", dict := odict, data := .seq items nl, slots := oslots } := Heap.get?_push_of_some _ hol
    wp_walk
    subst hPI
    have hl1 : (hp.push { cls := .type "frozenset", dict := none, data := .set #[] 0 (.fresh 0 0 led) }).IsList l items := ⟨_, hol', rfl, nl, rfl⟩
    refine wpAny_pyIter_list hl1 ?_
    have hlS : l < hp.objs.size := Heap.lt_size hol
    have hz1 : (hp.push { cls := .type "frozenset", dict := none, data := .set #[] 0 (.fresh 0 0 led) }).objs.size = hp.objs.size + 1 := Heap.size_push ..
    have hSi : hp.objs.size ≠ (hp.push { cls := .type "frozenset", dict := none, data := .set #[] 0 (.fresh 0 0 led) }).objs.size := by rw [hz1]; exact Nat.ne_of_lt (Nat.lt_succ_self _)
    have hil : l ≠ (hp.push { cls := .type "frozenset", dict := none, data := .set #[] 0 (.fresh 0 0 led) }).objs.size := by rw [hz1]; exact Nat.ne_of_lt (Nat.lt_succ_of_lt hlS)
    refine wpAny_bind (wpAny_runValue ?_)
    refine fz_loop (by show A.handled = none; exact hh) hi (by rw [hz]; have : scanBound = 4096 := rfl; omega) hSi (Nat.ne_of_gt hlS) hil _ 0 _ _ rfl (Nat.zero_le _) ⟨_, Heap.get?_push_size _ rfl, rfl, rfl⟩ (hl1.push _) ?_ fun h' tk' hk hF => ?_
    · exact ⟨#[], 0, _, Heap.get?_push_of_some _ hS, fun e he => by simp at he, fun k => by simp [PyProof.Rows.firstMet_zero], by decide, by rfl, rfl⟩
    · refine wpAny_pure (wpAny_pure (wpAny_pure ⟨_, rfl, ?_⟩))
      obtain ⟨es, ep, t, ho, hel, hmem, hb, hf, hsz⟩ := hF
      have hle := PyProof.Rows.firstMet_length_le (fun i => ns.getD i 0) items.size
      refine hR h' tk' _ (fun b o hb' e => hk b o (Nat.ne_of_lt hb') (by rw [hz1]; exact Nat.ne_of_lt (Nat.lt_succ_of_lt hb')) (Heap.get?_push_of_some _ (Heap.get?_push_of_some _ e))) ho ⟨rfl, ⟨es, ep, t, rfl⟩, (PyProof.Rows.firstMet (fun i => ns.getD i 0) items.size).length, by rw [hz] at hle ⊢; omega, ?_⟩
      have hS' : (fun k' => (PyProof.Rows.firstMet (fun i => ns.getD i 0) items.size).any (· == k')) = fun k => ns.contains k := funext fun k => firstMet_contains ns _ hz k
      rw [hS'] at hmem
      have so : Obj.SetObjOf (intKind prog w) ({ cls := .type "set", data := .set es ep t } : Obj) (fun k => ns.contains k) (PyProof.Rows.firstMet (fun i => ns.getD i 0) items.size).length := ⟨⟨rfl, rfl, rfl⟩, es, ep, t, rfl, hel, hmem, hsz, hf⟩
      exact so.intSetOf
end Mine
end

section
open PySem PySem.W PyProof.Rows PySem.Calls PySem.SeqAt
set_option Elab.async false
set_option maxRecDepth 100000
set_option linter.unusedVariables false
namespace Mine
section
variable {prog : Program} {w : World} {A : Around} {E : Value → Shared → Prop} {s : Shared}
theorem fz_contains {a : Addr} {o : Obj} {S : Int → Bool} {c : Int} {t : Tok} {Q : Bool → Shared → Prop} (ho : s.heap.get? a = some o) (q : SetO true o S) (h : Q (S c) { s with toks := s.toks + 1 }) :
    wpAny (model prog w) A (contains (.ref a) (.int c t)) Q E s := by
  obtain ⟨hc, _, n, hn, hi⟩ := q
  obtain ⟨_, es, ep, tb, hd, hel, hmem, hsz, hf⟩ := hi.kind prog w
  have hT : s.TypeIs (.ref a) "frozenset" := ⟨_, ho, hc⟩
  have hb : es.size < 4096 := by rw [hsz]; omega
  have hkey : (intKind prog w).is c (.int c t) = true := intKind_is _ _ _ _
  unfold contains
  try with_reducible refine wpAny_holding ?_
  refine wpAny_bind (wpAny_specialOf hT FB.slot_frozenset_contains.lookup ?_)
  show wpAny _ _ (if (some (Value.builtin "frozenset.__contains__") == some Value.none) = true then _ else _) _ E s
  rw [if_neg (by rw [beq_builtin_none]; exact Bool.false_ne_true)]
  refine wpAny_bind (wpAny_callSpecialUnlessNone?_slot (name := Str.ofString "__contains__") hT FB.slot_frozenset_contains
    (wpAny_call_entry FB.slot_frozenset_contains hT FB.entry_frozenset_contains ?_ (FB.args_frozenset_contains_2 _ _)))
  unfold Builtin.«frozenset.__contains__» Builtin.Frozenset.oneOther
  simp only [List.isEmpty_nil, bind_assoc]
  unfold Builtin.Frozenset.addrOf Builtin.Frozenset.withSetAsKey setContains
  refine wpAny_bind (wpAny_pure ?_)
  refine wpAny_bind (wpAny_pure ?_)
  refine wpAny_bind (wpAny_tryCatch (wpAny_holding ?_))
  refine wpAny_bind ((intKind prog w).pyHash hkey ?_)
  refine wpAny_bind (setFind_any (s := { s with toks := s.toks + 1 }) hkey rfl ho hd hel hmem hb hf fun r hr => ?_)
  refine wpAny_pure ?_
  show wpAny _ _ (ret (Value.bool r.isSome)) _ _ _
  rw [hr]
  exact wpAny_pure ⟨_, rfl, wpAny_truthy_bool h⟩
end

section
variable {C : Cx} {P0 : Params} {A : Around} {F : Fm} {σ : Store} {s : Shared} {P : AV → Store → Prop}
theorem O2_inFz {c : Int} {S : Int → Bool} (hP : P (.bool (S c)) σ) : O2 C A F σ (.int c) (.set true S) (compareOp .In) P :=
  .now (fun s v u st r1 r2 Q hQ => by
    obtain ⟨t, rfl⟩ := r1.int_inv
    obtain ⟨a, o, rfl, ho, q⟩ := r2.set_inv
    show wpAny _ _ (do return .bool (← contains (.ref a) (.int c t))) Q NoE s
    exact wpAny_bind (fz_contains ho q (wpAny_pure (hQ _ _ (.bool _))))) hP
theorem O2_notInFz {c : Int} {S : Int → Bool} (hP : P (.bool (!S c)) σ) : O2 C A F σ (.int c) (.set true S) (compareOp .NotIn) P :=
  .now (fun s v u st r1 r2 Q hQ => by
    obtain ⟨t, rfl⟩ := r1.int_inv
    obtain ⟨a, o, rfl, ho, q⟩ := r2.set_inv
    show wpAny _ _ (do return .bool (!(← contains (.ref a) (.int c t)))) Q NoE s
    exact wpAny_bind (fz_contains ho q (wpAny_pure (hQ _ _ (.bool _))))) hP

theorem On_frozenset (hh : A.handled = none) {a : AV} {ns : List Int} (hi : Items σ a .list (intsAV ns)) (hn : ns.length ≤ 900) (hP : P (.set true fun k => ns.contains k) σ) : On C A F σ [a] (fun vs => call (.type "frozenset") vs) P := fun s vs st r Q hQ => by
  obtain ⟨v, rfl, r1⟩ := r.one
  obtain ⟨l, us, rfl, q, ra⟩ := hi.at_ st r1
  have hlen : us.length = ns.length := by rw [ra.length]; simp [intsAV]
  refine callType_new fz_called (by decide) (fz_typeCall _) (fz_newCall _) (fun obj => PySem.F.args_object_init_2 obj _) fz_entry (fz_new l us.toArray ns) ⟨hh, q, by simpa using IntsAre.of ra, by rw [List.size_toArray]; exact hlen, hn, fun h' tk o hk ho hso => ?_⟩
  have ext : ∀ b o, s.heap.get? b = some o → h'.get? b = some o := fun b o e => hk b o (Heap.lt_size e) e
  obtain ⟨st', e'⟩ := st.grow (s' := { s with heap := h', toks := tk }) ext (Nat.le_of_lt (Heap.lt_size ho)) (Nat.le_refl _) st.bare rfl
  exact ⟨⟨o, ho, hso.1⟩, hQ _ _ σ _ hP st' (.set (st.fresh (Nat.le_refl _)) ho hso) e'⟩
end
end Mine
end

section
open PySem PySem.W PyProof.Rows PySem.Calls PySem.SeqAt
set_option Elab.async false
set_option maxRecDepth 100000
set_option linter.unusedVariables false
namespace Mine
section
variable {C : Cx} {P0 : Params} {σ : Store} {a : Addr} {l : List Pr}
theorem Items_codes {ns : List Int} : Items σ (.dat (.list (ns.map .int))) .list (intsAV ns) := by
  have := Items.datL (σ := σ) (ns.map .int)
  rw [List.map_map] at this
  exact this
theorem fn_strip (x : Bx C P0) {ns : List Int} (ha : σ a = some ⟨true, tagsOf l⟩) (hl : l.length ≤ 1000) (hn : ns.length ≤ 900) : Fn C 7 305 [.val (.ref TagsC), .obj a, .dat (.list (ns.map .int))] σ (NewT σ (l.filter fun q => !ns.contains q.1)) := by
  refine Fn_at x.ok (FnOk.cast x.hK ⟨⟨_, rfl, rfl⟩, rfl, rfl, rfl, rfl, rfl, rfl, _, _, _, _, rfl, rfl, rfl, rfl⟩) rfl rfl ["cls", "tags", "codes"] rfl (fun vs h => by obtain ⟨v, u, w, rfl⟩ := len3 h; rfl) rfl (by decide) rfl (by decide) ⟨"tags", by simp, rfl⟩ fun A L fs q room hh => ?_
  dsimp only
  exact Exs_cons <| Ex_Return <| Ev_TagsOf x (j := 3) room hh (Ev_Name rfl ⟨rfl, rfl⟩) (cl := [("codes", L + 1)]) ⟨rfl, rfl, by decide, by simp; exact .inl rfl⟩ rfl (ct304 x) (by nofun) (.tags ha) (by omega) (Ev_Name rfl ⟨rfl, rfl⟩) rfl (f := id) (p := fun q => !ns.contains q.1) (fun D cd A' room' hh' q hq => ⟨Ti_one <| Te_Cmp <| Ev_Attr <| Ev_Name lk_self <| O1_code P0 x.hK x.ok x.kf (j := 1) room' hh' <| Ev_CallT x.ok x.kf.nfrozenset rfl <| Sp_cons <| Ev_Name (lk_ne rfl (by decide)) <| Sp_nil <| On_frozenset hh' Items_codes hn <| O2_notInFz ⟨_, rfl, rfl, rfl⟩, fun _ => Ev_Name lk_self ⟨rfl, rfl⟩⟩) fun S hS => Up.now ⟨S, hS, rfl, by simp⟩
end
end Mine
end

section
open PySem PySem.W PyProof.Rows PySem.Calls PySem.SeqAt
set_option Elab.async false
set_option maxRecDepth 100000
set_option linter.unusedVariables false
namespace Mine
section
variable {C : Cx} {P0 : Params} {A : Around} {F : Fm} {σ : Store} {s : Shared} {P : AV → Store → Prop}

/-- Tags() -/
theorem On_newTags0 (x : Bx C P0) (hP : ∀ S, σ S = none → P (.obj S) (upd σ S ⟨true, []⟩)) : On C A F σ [] (fun vs => call (.ref TagsC) vs) P := fun s vs st r Q hQ => by
  cases r
  obtain ⟨hn, x₁, e₁, hS⟩ := st.newTags _ rfl
  refine wpAny_call ?_
  obtain ⟨h, gg, d, t, os⟩ := s
  refine make_L (makesL_of (st.K x.ok) x.mkL) (ln_args1 _) ?_
  dsimp only at hn x₁ e₁ hS
  generalize hs₁ : (⟨(h.push emptyDict).push (tagsObj TagsC h.objs.size), gg, d, t, os⟩ : Shared) = s₁ at x₁ e₁ ⊢
  have hS' : s₁.heap.get? (h.objs.size + 1) = some { cls := .ref TagsC, dict := some h.objs.size, data := .seq #[] } := by rw [← hs₁]; exact hS
  have htag : TagsAt s₁.heap (h.objs.size + 1) #[] := ⟨_, _, hS', emptyDict, 0, by rw [← hs₁]; exact Heap.get?_push_of_some _ (Heap.get?_push_size _ rfl), rfl⟩
  refine codeAny_call_builtin PySem.F.slot_list_init.plain PySem.F.entry_list_init (tg_check (x₁.K x.ok) x.kf.T htag (n := "__init__") (by decide +kernel) (by first | exact .inl (by decide +kernel) | exact .inr (by decide +kernel)) (PySem.F.args_list_init_1 _) ?_)
  show wpAny _ _ (do let old ← Builtin.List.listItems (.ref (h.objs.size + 1)); Builtin.List.listUpdate (.ref (h.objs.size + 1)) (fun _ => #[]); letGo old.toList.reverse; ret .none) _ _ s₁
  refine wpAny_bind ?_
  unfold Builtin.List.listItems
  refine wpAny_bind (wpAny_seqItems hS' rfl (wpAny_pure ?_))
  show wpAny _ _ (updateSeq (h.objs.size + 1) (fun _ => #[]) >>= fun _ => letGo (#[] : Array Value).toList.reverse >>= fun _ => ret .none) _ _ s₁
  refine wpAny_bind (wpAny_updateSeq hS' rfl ?_)
  have hS₂ := Heap.get?_update_self (Obj.mapSeq (fun _ => (#[] : Array Value))) hS' rfl
  refine wpAny_bind (wpAny_letGo (wpAny_pure ?_))
  refine ⟨rfl, ?_⟩
  have x₂ := x₁.mutate (a := h.objs.size + 1) (upd_self _ _ _) (o' := ⟨true, []⟩) (tk := s₁.toks) (Heap.SameBut.update s₁.heap (h.objs.size + 1) (Obj.mapSeq (fun _ => (#[] : Array Value)))) fun hr => by
    obtain ⟨_, _, _, da, q, i1, i2, od, k, q2, q3⟩ := (x₁.so (h.objs.size + 1) _ (upd_self _ _ _)).2
    have hda : da = h.objs.size := Nat.succ.inj i1
    subst hda
    have hdne : h.objs.size ≠ h.objs.size + 1 := Nat.ne_of_lt (Nat.lt_succ_self _)
    exact ⟨[], _, .nil, h.objs.size, hS₂, rfl, by rw [upd_ne hdne]; exact i2, od, k, (Heap.get?_update_other _ _ (Ne.symm hdne)).trans q2, q3⟩
  rw [upd_upd] at x₂
  exact hQ (.obj (h.objs.size + 1)) _ _ _ (hP _ hn) x₂.1 (.obj _) (e₁.trans x₂.2)

/-- i += n, a local -/
theorem Te_lt {PB : Bool → Store → Prop} {e₁ e₂ : Expr} {pos : Pos} {i j : Int} (h : Ev C A F σ e₁ fun a σ₁ => a = .int i ∧ Ev C A F σ₁ e₂ fun b σ₂ => b = .int j ∧ PB (decide (i < j)) σ₂) (hm : behindInMarks .Lt e₂ = false := by with_unfolding_all rfl) : Te C A F σ (.Compare e₁ [.Lt] [e₂] pos) PB :=
  Te_Cmp (hm := hm) <| h.mono fun a σ₁ ⟨ha, h2⟩ => by
    subst ha
    exact h2.mono fun b σ₂ ⟨hb, hp⟩ => by subst hb; exact O2_ltI ⟨_, rfl, hp⟩
end


section
variable {C : Cx} {A : Around} {F : Fm} {σ σ' : Store} {s s' : Shared} {P : AV → Store → Prop}
/-- a contract's start, where some arguments may be left to their defaults -/
theorem Fn_atD {K : Frag} (ok : C.Ok) (hCK : C.K = K) {f : Addr} {fd : FuncData} {body : List Stmt} {sc : Scope} {cd : Value} (fo : FnOk K f fd body) (hsc : fd.scope = sc) (hcd : fd.code = cd) {k : Nat} {as : List AV} (ds : List AV) (dvs : List Value) (hrel : ∀ h, RelAll σ h ds dvs) (names : List Str) (hlen : names.length = (as ++ ds).length)
    (hb : ∀ (s : Shared) (vs : List Value), K.In s.heap → vs.length = as.length → BindsTo s fd ⟨vs, []⟩ (names.zip (vs ++ dvs)))
    (hgen : sc.isGenerator = false) (hnd : names.Nodup) (hkinds : kindsOk sc names = true) (hsnd : (sc.names.map (·.1)).Nodup) (hloc : ∃ x ∈ names, sc.names.lookup x = some .local)
    (h : ∀ (A : Around) (L : Addr) (fs : List Env) (q : Str), Room A k → A.handled = none → Exs C A ⟨fEnv sc L f q cd, names.zip (as ++ ds), fEnv sc L f q cd :: fs⟩ σ body fun fl _ σ₁ => match fl with | .ret a => Up P a σ₁ | _ => Up P .none σ₁) :
    Fn C (k + 1) f as σ P := fun A F s vs R room hh st r hR => by
  subst hCK; subst hsc; subst hcd
  have hz : (names.zip (as ++ ds)).map (·.1) = names := List.map_fst_zip (Nat.le_of_eq hlen)
  refine call_fnC ok fo room (Nat.le_add_left 1 k) st (hb s vs (st.K ok) r.length) (Binds.of (r.append (hrel _)) hlen) hgen (by rw [hz]; exact hnd) (by rw [hz]; exact hkinds) hsnd (.inl (by rw [hz]; exact hloc)) (P := Up P)
    (fun L env he => ?_) fun a v σ₁ s₁ h₁ st₁ r₁ e₁ => ?_
  · have e : env = fEnv fd.scope L f (fd.qualname ++ ".<locals>.") fd.code := by
      rw [he]; show newEnv _ _ fd.globals _ _ _ _ _ fd.builtins = _; rw [fo.gl, fo.bi]
    subst e
    exact (h (A.deeper _) L F.fs _ (room.deeper) hh).mono fun fl vars σ' hp => by cases fl <;> exact hp
  · obtain ⟨a0, σ0, sub, cv, hp⟩ := h₁
    exact hR a0 v σ0 s₁ hp (st₁.forget sub) (cv.rel st₁ sub r₁) (e₁.sub sub)
end
end Mine
end

section
open PySem PySem.W PyProof.Rows PySem.Calls PySem.SeqAt
set_option Elab.async false
set_option maxRecDepth 100000
set_option linter.unusedVariables false
namespace Mine
theorem takeWhile_cut {α : Type} {p : α → Bool} : ∀ {L : List α} {m : Nat} {q : α}, (∀ x ∈ L.take m, p x = true) → L[m]? = some q → p q = false → L.takeWhile p = L.take m
  | [], m, q, _, h, _ => by simp at h
  | a :: r, 0, q, _, h, hq => by
    have : a = q := by simpa using h
    rw [List.takeWhile_cons, this, hq]; rfl
  | a :: r, m + 1, q, hp, h, hq => by
    rw [List.takeWhile_cons, hp a (by simp), if_pos rfl, List.take_succ_cons, takeWhile_cut (fun x hx => hp x (by rw [List.take_succ_cons]; exact List.mem_cons_of_mem _ hx)) (by simpa using h) hq]
theorem takeWhile_all {α : Type} {p : α → Bool} {L : List α} (h : ∀ x ∈ L, p x = true) : L.takeWhile p = L := by
  induction L with
  | nil => rfl
  | cons a r ih => rw [List.takeWhile_cons, h a (by simp), if_pos rfl, ih fun x hx => h x (List.mem_cons_of_mem _ hx)]
/-- the run of pairs from i whose codes are among these -/
def runOf (l : List Pr) (ns : List Int) (i j : Nat) : List Pr := ((l.drop i).take (j - i)).takeWhile fun q => ns.contains q.1

section
variable {C : Cx} {P0 : Params} {σ : Store} {a : Addr} {l : List Pr}
theorem fn_collect (x : Bx C P0) {ns : List Int} {cv : AV} {i j : Nat} (ha : σ a = some ⟨true, tagsOf l⟩) (hl : l.length ≤ 1000) (hc : Items σ cv .list (intsAV ns)) (hn : ns.length ≤ 900) (hi : i ≤ j) (hj : j ≤ l.length) :
    Fn C 4 291 [.obj a, cv, .int i, .int j] σ (NewT σ (runOf l ns i j)) := by
  refine Fn_atD x.ok x.hK ⟨⟨_, rfl, rfl⟩, rfl, rfl, rfl, rfl, rfl, rfl, _, _, _, _, rfl, rfl, rfl, rfl⟩ rfl rfl [] [] (fun _ => .nil) ["self", "codes", "start", "end"] rfl (fun s vs X h => by obtain ⟨v, u, w, z, rfl⟩ := len4 h; exact binds_K X rfl rfl rfl rfl rfl) rfl (by decide) rfl (by decide) ⟨"self", by simp, rfl⟩ fun A L fs q room hh => ?_
  dsimp only
  refine Exs_cons <| Ex_Assign (.inl rfl) <| Ev_CallT x.ok x.kf.nfrozenset rfl <| Sp_cons <| Ev_Name rfl <| Sp_nil <| On_frozenset hh hc hn ?_
  refine Exs_cons <| Ex_Assign (.inl rfl) <| Ev_CallT x.ok x.kf.nint rfl <| Sp_cons <| Ev_Name rfl <| Sp_nil <| On_int ?_
  refine Exs_cons <| Ex_If <| Te_Cmp <| Ev_Name rfl <| Ev_none <| O2_isNone rfl ⟨_, rfl, ?_⟩
  rw [if_neg (show ¬ (isN (.int j) = true) from Bool.false_ne_true)]
  refine Exs_nil ?_
  refine Exs_cons <| Ex_Assign (.inl rfl) <| Ev_Call x.ok <| Ev_Global x.ok rfl (x.ok.val x.kf.vTags) (a := .val (.ref TagsC)) (fun h => .val _) ⟨.ref TagsC, rfl, .ref x.kf.kvTags, Sp_nil <| On_newTags0 x fun S hS => ?_⟩
  have haS : a ≠ S := fun e => by rw [← e, ha] at hS; cases hS
  refine Exs_mid (fun vars σ₁ => lk vars "bag" = some (.obj S) ∧ σ₁ = upd σ S ⟨true, tagsOf (runOf l ns i j)⟩) ?_ (fun vars σ₁ ⟨hv, hσ⟩ => Exs_cons <| Ex_Return <| Ev_Name hv <| Up.now ⟨S, hS, rfl, hσ⟩)
  refine Ex_While hh (fun n vars σ' => ∃ m, i + m ≤ j ∧ n = j - (i + m) ∧ lk vars "self" = some (.obj a) ∧ lk vars "codes" = some (.set true fun k => ns.contains k) ∧ lk vars "end" = some (.int j) ∧ lk vars "index" = some (.int ((i + m : Nat) : Int)) ∧ lk vars "bag" = some (.obj S) ∧ σ' = upd σ S ⟨true, tagsOf ((l.drop i).take m)⟩ ∧ ∀ q ∈ (l.drop i).take m, ns.contains q.1 = true) (n₀ := j - i) ⟨0, hi, rfl, ?_, ?_, ?_, ?_, lk_self, rfl, by simp⟩ ?_
  · exact lk_ne (lk_ne (lk_ne rfl (by decide)) (by decide)) (by decide)
  · exact lk_ne (lk_ne lk_self (by decide)) (by decide)
  · exact lk_ne (lk_ne (lk_ne rfl (by decide)) (by decide)) (by decide)
  · exact lk_ne lk_self (by decide)
  rintro n vars σ' ⟨m, hm, rfl, h1, h2, h3, h4, h5, rfl, h6⟩
  have hget : ∀ b, (upd σ S b) a = some ⟨true, tagsOf l⟩ := fun b => (upd_ne haS).trans ha
  refine Te_lt (i := ((i + m : Nat) : Int)) (j := j) (Ev_Name h4 ⟨rfl, Ev_Name h3 ⟨rfl, ?_⟩⟩)
  by_cases hlt : i + m < j
  · rw [if_pos (by simp only [decide_eq_true_eq]; omega)]
    have hlt' : i + m < l.length := by omega
    have hq : (tagsOf l)[((i + m : Nat) : Int).toNat]? = some (.tag l[i + m].1 l[i + m].2) := by rw [Int.toNat_natCast]; simp [tagsOf, hlt']
    have hd : ((l.drop i).take (j - i))[m]? = some l[i + m] := by rw [List.getElem?_take_of_lt (by omega), List.getElem?_drop, List.getElem?_eq_getElem hlt']
    refine Exs_cons <| Ex_Assign (.inl rfl) <| Ev_Sub <| Ev_Name h1 <| Ev_Name h4 <| O2_item x.ok x.kf.T (.tags (hget _)) (by omega) hq (by omega) ?_
    refine Exs_cons <| Ex_If <| Te_Cmp <| Ev_Attr <| Ev_Name lk_self <| O1_code P0 x.hK x.ok x.kf (j := 1) room hh <| Ev_Name (lk_ne h2 (by decide)) <| O2_inFz ⟨_, rfl, ?_⟩
    by_cases hc : ns.contains l[i + m].1 = true
    · rw [if_pos hc]
      have hz : (tagsOf ((l.drop i).take m)).length ≤ 100000 := by rw [tagsOf_len, List.length_take]; omega
      refine Exs_cons <| Ex_Expr <| Ev_Meth x.ok <| Ev_Name (lk_ne h5 (by decide)) ⟨_, _, MethTo_tagsAppend x.ok x.kf.pT x.kf.T (upd_self _ _ _) x.kf.app, KeepOk.builtin _, Sp_cons <| Ev_Name lk_self <| Sp_nil <| On_append x.ok x.kf.T (upd_self _ _ _) hz ?_⟩
      refine Exs_cons <| Ex_AugAdd (i := ((i + m : Nat) : Int)) (j := 1) rfl (lk_ne h4 (by decide)) <| Ev_int ⟨rfl, Exs_nil <| Exs_nil ⟨j - (i + (m + 1)), by omega, UpV.now ⟨m + 1, by omega, rfl, lk_ne (lk_ne h1 (by decide)) (by decide), lk_ne (lk_ne h2 (by decide)) (by decide), lk_ne (lk_ne h3 (by decide)) (by decide), ?_, lk_ne (lk_ne h5 (by decide)) (by decide), ?_, ?_⟩⟩⟩
      · exact lk_self.trans (by congr 2)
      · rw [upd_upd]
        congr 2
        rw [List.take_add_one, List.getElem?_drop, List.getElem?_eq_getElem hlt']
        simp [tagsOf]
      · exact forall_take_succ h6 (by rw [List.getElem?_drop, List.getElem?_eq_getElem hlt']) hc
    · rw [if_neg hc]
      refine Exs_cons <| Ex_Break ⟨lk_ne h5 (by decide), ?_⟩
      have := takeWhile_cut (p := fun q : Pr => ns.contains q.1) (L := (l.drop i).take (j - i)) (m := m) (fun y hy => h6 y (by rw [List.take_take] at hy; rwa [Nat.min_eq_left (by omega)] at hy)) hd (by simpa using hc)
      unfold runOf
      rw [this, List.take_take, Nat.min_eq_left (by omega)]
  · rw [if_neg (by simp only [decide_eq_true_eq]; omega)]
    have hmj : m = j - i := by omega
    refine ⟨h5, ?_⟩
    subst hmj
    unfold runOf
    rw [takeWhile_all h6]
end
end Mine
end

section
open PySem PySem.W PyProof.Rows PySem.Calls PySem.SeqAt
set_option Elab.async false
set_option maxRecDepth 100000
set_option linter.unusedVariables false
namespace Mine
section
variable {C : Cx} {P0 : Params} {A : Around} {F : Fm} {σ : Store} {s : Shared}

/-- a value falls into parts, in a function's frame -/
def UnpA (C : Cx) (A : Around) (F : Fm) (σ : Store) (a : AV) (as : List AV) : Prop :=
  ∀ s v, St C A F σ s → Rel σ s.heap a v → ∀ Q : List Value → Shared → Prop,
    (∀ vs s', St C A F σ s' → RelAll σ s'.heap as vs → Step C.B F.frs [] σ σ s s' → Q vs s') → wpAny C.M A (unpackItems v as.length none) Q NoE s
theorem Unp.toA {a : AV} {as : List AV} (h : Unp C A F σ a as) : UnpA C A F σ a as := fun s v x r Q hQ => h s v x r Q fun vs s' st ra e _ _ => hQ vs s' st ra e

theorem Asg_Tuple2A {t₁ t₂ : Expr} {k : Nat} {p : Pos} {a b c : AV} {P : List (Str × AV) → Store → Prop} (hu : UnpA C A F σ c [a, b]) (h : Asg C A F σ t₁ a fun vars₁ σ₁ => Asg C A (F.with vars₁) σ₁ t₂ b P)
    (he : assignEach [t₁, t₂] F.env = [(false, assign t₁ F.env), (false, assign t₂ F.env)] := by rfl) : Asg C A F σ (.Tuple [t₁, t₂] k p) c P := fun s v st r Q hQ => by
  rw [arm_assign_Tuple]
  refine wpAny_bind (wpAny_standAt ?_)
  unfold unpack
  rw [he]
  refine wpAny_bind (wpAny_holding (hu s v st r _ fun vs s₁ st₁ ra e₁ => ?_))
  obtain ⟨v1, v2, rfl, r1, r2⟩ := ra.two
  refine wpAny_assignInOrder_more (h s₁ v1 st₁ r1 _ fun vars₁ σ₁ s₂ h₂ st₂ e₂ => ?_)
  refine wpAny_assignInOrder_more (h₂ s₂ v2 st₂ (r2.step e₂ st₁.sok) _ fun vars₂ σ₂ s₃ h₃ st₃ e₃ => ?_)
  exact wpAny_assignInOrder_none (hQ _ _ _ h₃ st₃ (((e₁.mono (by simp)).trans e₂).trans e₃))

/-- a list of two -/
theorem UnpA_list2 (hh : A.handled = none) {l : Addr} {a b : AV} (hl : σ l = some ⟨false, [a, b]⟩) : UnpA C A F σ (.obj l) [a, b] := fun s v x r Q hQ => by
  obtain rfl := r.obj_inv
  obtain ⟨us, n, ra, q⟩ := (x.so _ _ hl).2
  have ra : RelAll σ s.heap [a, b] us := ra
  obtain ⟨m, q⟩ := q
  obtain ⟨v1, v2, rfl, r1, r2⟩ := ra.two
  have hL : s.heap.IsList l #[v1, v2] := ⟨_, q, rfl, _, rfl⟩
  show wpAny _ _ (unpackItems (.ref l) 2 none) _ _ _
  unfold unpackItems
  refine wpAny_bind ?_
  unfold notIterableAtAll
  refine wpAny_bind (wpAny_specialOf hL.typeIs PySem.F.slot_list_iter.lookup ?_)
  refine wpAny_pure ?_
  simp only [Bool.false_eq_true, if_false]
  refine wpAny_bind (wpAny_holding (wpAny_pyIter_list hL ?_))
  obtain ⟨x0, e0⟩ := x.push { cls := .type "list_iterator", data := .fields #[.ref l, .int 0 0] } s.toks
  have q0 : (s.heap.push { cls := .type "list_iterator", data := .fields #[.ref l, .int 0 0] }).IsListIter s.heap.objs.size l 0 := ⟨_, Heap.get?_push_size _ rfl, rfl, rfl⟩
  have hne : l ≠ s.heap.objs.size := Nat.ne_of_lt (Heap.lt_size q)
  have o0 : (s.heap.push { cls := .type "list_iterator", data := .fields #[.ref l, .int 0 0] }).get? l = some { cls := .type "list", data := .seq #[v1, v2] m } := Heap.get?_push_of_some _ q
  have hB : C.B.get? s.heap.objs.size = none := x.freshB (Nat.le_refl _)
  refine wpAny_bind (wpAny_holding ?_)
  show wpAny _ _ (pyNext (.ref s.heap.objs.size) >>= _) _ _ _
  refine wpAny_bind (listNext x0 hB q0 o0 rfl (v := v1) rfl fun s₁ x₁ e₁ q₁ k₁ _ => ?_)
  refine wpAny_bind (wpAny_holding ?_)
  show wpAny _ _ (pyNext (.ref s.heap.objs.size) >>= _) _ _ _
  refine wpAny_bind (listNext x₁ hB q₁ (k₁ _ _ hne o0) rfl (v := v2) rfl fun s₂ x₂ e₂ q₂ k₂ _ => ?_)
  refine wpAny_bind (wpAny_holding (wpAny_pure (wpAny_pure (wpAny_pure ?_))))
  rw [if_neg (by simp)]
  refine wpAny_bind (wpAny_holding (listStop x₂ hh hB q₂ (k₂ _ _ hne (k₁ _ _ hne o0)) rfl rfl fun s₃ x₃ e₃ k₃ _ => ?_))
  simp only [Option.isSome_none, Bool.false_eq_true, if_false]
  have sk : ∀ {s' : Shared} {i : Nat}, s'.heap.IsListIter s.heap.objs.size l i → SOk s'.heap [s.heap.objs.size] := fun q => (ItList q).sok1
  have e13 := (e₁.trans e₂).trans e₃
  refine wpAny_pure (hQ _ _ x₃ ?_ (Step.shrink e0 e13 (fun c hc => .inr ?_) fun c hc => .inl hc))
  · exact .cons ((r1.step e0 (.nil _)).step e13 (sk q0)) (.cons ((r2.step e0 (.nil _)).step e13 (sk q0)) .nil)
  · rcases List.mem_cons.mp hc with rfl | hc
    · exact Nat.le_refl _
    · cases hc

/-- a, b = e -/
theorem Ex_AssignTuple2 {P : FP} {t₁ t₂ e : Expr} {k : Nat} {p pos : Pos} (h : Ev C A F σ e fun c σ₁ => Asg C A F σ₁ (.Tuple [t₁, t₂] k p) c fun vars σ₂ => P .next vars σ₂)
    (hs : swapsWithSole [.Tuple [t₁, t₂] k p] e pos.line F.env = pure false := by rfl) (hw : swappedStores [.Tuple [t₁, t₂] k p] e F.env = pure none := by rfl) : Ex C A F σ (.Assign [.Tuple [t₁, t₂] k p] e pos) P := fun s st Q hQ =>
  Assign_Tuple (h s st _ fun c v σ₁ s₁ h₁ st₁ r₁ e₁ => h₁ s₁ v st₁ r₁ _ fun vars σ₂ s₂ h₂ st₂ e₂ => hQ .next .next vars σ₂ s₂ h₂ st₂ .next ((e₁.mono (by simp)).trans e₂)) hs hw

def putvs : List (Str × AV) → List Str → List AV → List (Str × AV)
  | vars, n :: ns, a :: as => putvs (putv vars n a) ns as
  | vars, _, _ => vars
theorem assign_names {Q : Unit → Shared → Prop} : ∀ {ns : List Str} {as : List AV} {vs : List Value} {F : Fm} {s : Shared}, (∀ n ∈ ns, F.env.kindOf n = some .local) → St C A F σ s → RelAll σ s.heap as vs → ns.length = as.length →
    (∀ s', St C A (F.with (putvs F.vars ns as)) σ s' → Step C.B F.frs F.own σ σ s s' → Q () s') → wpAny C.M A (assignInOrder (ns.map fun n => bindName F.env n) vs) Q NoE s
  | [], [], _, F, s, _, st, r, _, hQ => by
    cases r
    exact wpAny_assignInOrder_none (hQ s st (.refl ..))
  | n :: ns, a :: as, _, F, s, hk, st, r, hl, hQ => by
    cases r with
    | @cons _ _ v vs r1 r2 =>
      refine wpAny_assignInOrder_more (bindName_ (st.store (.inl (hk n List.mem_cons_self)) r1 fun s₁ st₁ e₁ => ?_))
      exact assign_names (F := F.with (putv F.vars n a)) (fun m hm => hk m (List.mem_cons_of_mem _ hm)) st₁ (r2.step e₁ st.sok) (by simpa using hl) fun s' st' e' => hQ s' st' (e₁.trans e')
  | [], _ :: _, _, _, _, _, _, _, hl, _ => by simp at hl
  | _ :: _, [], _, _, _, _, _, _, hl, _ => by simp at hl

theorem RelAll.rev {h : Heap} : ∀ {as : List AV} {vs : List Value}, RelAll σ h as vs → RelAll σ h as.reverse vs.reverse
  | [], _, r => by cases r; exact .nil
  | a :: as, _, r => by
    cases r with
    | cons r1 r2 => rw [List.reverse_cons, List.reverse_cons]; exact r2.rev.append (.cons r1 .nil)

/-- a, b = x, y ; a, b, c = x, y, z -/
theorem Ex_AssignSwap (hh : A.handled = none) {P : FP} {elts es : List Expr} {k k' : Nat} {p p' pos : Pos} {names : List Str} (hw : swappedStores [.Tuple elts k p] (.Tuple es k' p') F.env = pure (some names)) (hk : ∀ n ∈ names.reverse, F.env.kindOf n = some .local) (hn : names.length ≤ 10)
    (h : Sp C A F σ es fun as σ₁ => as.length = names.length ∧ P .next (putvs F.vars names.reverse as.reverse) σ₁)
    (hs : swapsWithSole [.Tuple elts k p] (.Tuple es k' p') pos.line F.env = pure false := by rfl) : Ex C A F σ (.Assign [.Tuple elts k p] (.Tuple es k' p') pos) P := fun s st Q hQ =>
  Assign_Tuple_swapped (names := names) (wpAny_Tuple (h s st p' _ fun as vs σ₁ s₁ h₁ st₁ r₁ e₁ => by
    obtain ⟨hl, hP⟩ := h₁
    have hvl := r₁.length
    refine ⟨by rw [hvl, hl, sizeLine_eq]; omega, ?_⟩
    obtain ⟨st₂, e₂⟩ := st₁.push { cls := .type "tuple", data := .seq vs.toArray } s₁.toks
    have ht : (s₁.heap.push { cls := .type "tuple", data := .seq vs.toArray }).IsTuple s₁.heap.objs.size vs.toArray := ⟨_, Heap.get?_push_size _ rfl, rfl, _, rfl⟩
    have hnl : names.length = vs.toArray.size := by rw [List.size_toArray, hvl, hl]
    rw [hnl]
    have r2 := r₁.step e₂ (.nil _)
    refine unpackItems_tuple (s := { s₁ with heap := s₁.heap.push { cls := .type "tuple", data := .seq vs.toArray } }) hh ht fun h' he => ?_
    have hz : (s₁.heap.push { cls := .type "tuple", data := .seq vs.toArray }).objs.size = s₁.heap.objs.size + 1 := Heap.size_push ..
    have ext : ∀ b o, (s₁.heap.push { cls := .type "tuple", data := .seq vs.toArray }).get? b = some o → h'.get? b = some o := fun b o e => he b o (Nat.ne_of_lt (Heap.lt_size e)) e
    have hsz : (s₁.heap.push { cls := .type "tuple", data := .seq vs.toArray }).objs.size ≤ h'.objs.size := by
      rw [hz]
      obtain ⟨ot, hot, _⟩ := ht
      exact Heap.lt_size (ext _ _ hot)
    obtain ⟨st₃, e₃⟩ := st₂.grow (s' := { s₁ with heap := h' }) ext hsz (Nat.le_refl _) st₂.bare rfl
    refine assign_names hk st₃ ?_ (by simp [hl]) fun s₄ st₄ e₄ => hQ .next .next _ _ s₄ hP st₄ .next (((((e₁.trans e₂).trans e₃).mono (by simp)).trans e₄))
    have := (r2.step e₃ (.nil _)).rev
    simpa using this)) hs hw
end
end Mine
end

section
open PySem PySem.W PyProof.Rows PySem.Calls PySem.SeqAt
set_option Elab.async false
set_option maxRecDepth 100000
set_option linter.unusedVariables false
namespace Mine
section
variable {C : Cx} {A : Around} {F : Fm} {σ σ' : Store} {s s' : Shared}

/-- the frame, after a step that may have touched more frames' slots than its own -/
theorem St.backF (x : St C A F σ s) {FR : List Addr} (y : Step C.B FR [] σ σ s s') (hFR : ∀ b ∈ FR, C.B.get? b = none) (hk : ∀ a o, σ a = some o → ∀ ob, s.heap.get? a = some ob → s'.heap.get? a = some ob) (hbare : AllBare s'.gens) (hos : s'.os = C.os) : St C A F σ s' := by
  have hfd : ∀ b ∈ F.frs, ∃ o es n, s'.heap.get? b = some o ∧ o.data = .dict es n := fun b hb => by
    obtain ⟨o, es, n, ho, hd⟩ := x.fd b hb
    obtain ⟨sl, e⟩ := y.f b o es n ho (x.notStore ho fun vs k q => by rw [hd] at q; cases q) (by simp) hd
    exact ⟨_, es, n, e, hd⟩
  have hcell : ∀ c v, s.heap.IsCell c v → s'.heap.IsCell c v := fun c v hc => by
    obtain ⟨o, ho, hd⟩ := hc
    exact ⟨o, y.k c o ho (x.notStore ho fun vs k q => by rw [hd] at q; cases q) (by simp) (fun ps q => by rw [q] at hd; simp [tObj] at hd) (.inr fun es n q => by rw [hd] at q; cases q), hd⟩
  exact {
    bk := x.bk.step y (fun _ _ e => x.sB e) (by simp) (fun b o e q => by rw [hFR b q] at e; cases e)
    so := fun a o e => by
      obtain ⟨h1, vs, n, r, q⟩ := x.so a o e
      refine ⟨h1, vs, n, r.map fun b v r => r.step y (.nil _), ?_⟩
      cases ht : o.tags with
      | false => rw [ht] at q; obtain ⟨m, q⟩ := q; exact ⟨m, hk a o e _ q⟩
      | true =>
        rw [ht] at q
        obtain ⟨da, q, i1, i2, od, k, q2, q3⟩ := q
        obtain ⟨sl, e2⟩ := y.f da od #[] k q2 i2 (by simp) q3
        exact ⟨da, hk a o e _ q, i1, i2, _, k, e2, q3⟩
    bare := hbare
    os := hos
    stack := x.stack
    ff := FunFrames.along x.ff fun b hb => by
      obtain ⟨o, es, n, ho, hd⟩ := hfd b hb
      exact ⟨o, ho, fun vs q => by rw [hd] at q; cases q⟩
    fd := hfd
    kind := x.kind
    gl := x.gl
    bi := x.bi
    lB := x.lB
    cB := fun p hp => ⟨(x.cB p hp).1, let ⟨_, v, hc⟩ := x.cB p hp; ⟨v, hcell _ _ hc⟩⟩
    nd := x.nd
    ns := by
      obtain ⟨m, n, ne, v⟩ := x.ns
      exact ⟨m, Ns.ofDict n fun o es k ho hd => y.f _ o es k ho (x.notStore ho fun vs k q => by rw [hd] at q; cases q) (by simp) hd, ne, fun z a e => (v z a e).move (fun c v hc => hcell _ _ hc) fun a v r => r.step y (.nil _)⟩ }

/-- an exception of the class 44 flies, seen from a frame: sr is the heap at the raise, FR the frames that may have been touched, B what stands -/
structure Flies (C : Cx) (A : Around) (F : Fm) (σ : Store) (FR : List Addr) (sr : Shared) (e : Addr) (s' : Shared) : Prop where
  st : St C A F σ sr
  sub : ∀ b ∈ F.frs, b ∈ FR
  fB : ∀ b ∈ FR, C.B.get? b = none
  fd : ∀ b ∈ FR, ∃ o es n, sr.heap.get? b = some o ∧ o.data = .dict es n
  fly : ∃ B t, (∀ b o, sr.heap.get? b = some o → b ∉ FR → B.get? b = some o) ∧ Heap.FlyingW B F.fs e (.ref 44) (.ref t) s'.heap ∧ B.get? t = none
  up : sr.heap.UpToSlots s'.heap
  sz : sr.heap.objs.size ≤ s'.heap.objs.size
  gens : s'.gens = sr.gens
  os : s'.os = sr.os

theorem Flies.step {FR : List Addr} {sr : Shared} {e : Addr} (x : Flies C A F σ FR sr e s') : Step C.B FR [] σ σ sr s' := by
  obtain ⟨B, t, hB, hfl, _⟩ := x.fly
  have kept : ∀ b o, sr.heap.get? b = some o → b ∉ FR → s'.heap.get? b = some o := fun b o e hb => hfl.1 b o (hB b o e hb)
  exact {
    k := fun b o e hσ _ ht hd => kept b o e fun hb => by
      obtain ⟨o', es, n, ho, hdd⟩ := x.fd b hb
      rw [e] at ho; cases ho
      rcases hd with hd | hd
      · exact hd hb
      · exact hd _ _ hdd
    f := fun b o es n e hσ _ hd => x.up b o e fun vs q => by rw [hd] at q; cases q
    t := fun b ps e hσ _ => by
      refine ⟨#[], ?_, .inl rfl, by simp⟩
      rw [Array.append_empty]
      refine kept b _ e fun hb => ?_
      obtain ⟨o', es, n, ho, hdd⟩ := x.fd b hb
      rw [e] at ho; cases ho; cases hdd
    dom := fun _ _ h => h
    sz := x.sz
    gens := by rw [x.gens]; exact Nat.le_refl _ }

theorem Flies.back {FR : List Addr} {sr : Shared} {e : Addr} (x : Flies C A F σ FR sr e s') : St C A F σ s' := by
  obtain ⟨B, t, hB, hfl, _⟩ := x.fly
  refine x.st.backF x.step x.fB (fun a o ha ob hob => hfl.1 a ob (hB a ob hob fun hb => ?_)) (by rw [x.gens]; exact x.st.bare) (x.os.trans x.st.os)
  obtain ⟨o', es, n, ho, hdd⟩ := x.fd a hb
  obtain ⟨oo, vs, m, hoo, hd⟩ := (x.st.so a o ha).2.at_
  rw [ho] at hoo; cases hoo; rw [hdd] at hd; cases hd

/-- what an exception leaves behind, from where a tree began -/
def FlyX (C : Cx) (A : Around) (F : Fm) (S : List Addr) (σ : Store) (s : Shared) (σ' : Store) (e : Addr) (s' : Shared) : Prop :=
  ∃ FR sr, Flies C A F σ' FR sr e s' ∧ Step C.B F.frs S σ σ' s sr ∧ ∀ b ∈ FR, b ∈ F.frs ∨ s.heap.objs.size ≤ b

theorem FlyX.step {S : List Addr} {e : Addr} (x : FlyX C A F S σ s σ' e s') : Step C.B F.frs S σ σ' s s' := by
  obtain ⟨FR, sr, f, st, hF⟩ := x
  exact Step.shrink st f.step (by simp) hF
theorem FlyX.after {S : List Addr} {e : Addr} {σ₀ : Store} {s₀ : Shared} (x : FlyX C A F S σ s σ' e s') (y : Step C.B F.frs S σ₀ σ s₀ s) : FlyX C A F S σ₀ s₀ σ' e s' := by
  obtain ⟨FR, sr, f, st, hF⟩ := x
  exact ⟨FR, sr, f, y.trans st, fun b hb => (hF b hb).imp id fun h => Nat.le_trans y.sz h⟩
theorem FlyX.mono {S S' : List Addr} {e : Addr} (x : FlyX C A F S σ s σ' e s') (h : ∀ b ∈ S, b ∈ S') : FlyX C A F S' σ s σ' e s' := by
  obtain ⟨FR, sr, f, st, hF⟩ := x
  exact ⟨FR, sr, f, st.mono h, hF⟩
end
end Mine
end

section
open PySem PySem.W PyProof.Rows PySem.Calls PySem.SeqAt
set_option Elab.async false
set_option maxRecDepth 100000
set_option linter.unusedVariables false
namespace Mine
section
variable {C : Cx} {A : Around} {F : Fm} {σ σ' : Store} {s s' : Shared}

/-- a call of a function, up to its body -/
theorem enter_fn (ok : C.Ok) {f : Addr} {fd : FuncData} {body : List Stmt} (fo : FnOk C.K f fd body) {k : Nat} (room : Room A k) (hk : 1 ≤ k) (st : St C A F σ s)
    {args : List Value} {kw : List (Str × Value)} {binds : List (Str × Value)} {vars : List (Str × AV)} (hb : BindsTo s fd ⟨args, kw⟩ binds) (hv : Binds σ s.heap vars binds)
    (hgen : fd.scope.isGenerator = false) (hnd : (vars.map (·.1)).Nodup) (hkinds : kindsOk fd.scope (vars.map (·.1)) = true) (hsnd : (fd.scope.names.map (·.1)).Nodup)
    (hloc : (∃ x ∈ vars.map (·.1), fd.scope.names.lookup x = some .local) ∨ ∀ L : Addr, L + 1 ∈ (cellsFrom (L + 1) fd.scope.names []).map (·.2))
    {R : Result → Shared → Prop}
    (h : ∀ L env s₁, env = callEnvC fd L f → St C (A.deeper env) ⟨env, vars, env :: F.fs⟩ σ s₁ → Step C.B F.frs [] σ σ s s₁ → s.heap.objs.size ≤ env.locals → (∀ p ∈ env.cells, s.heap.objs.size ≤ p.2) → env.frame = some env.locals →
      wpAny C.M (A.deeper env) (execs body env) (fun fl s' => R (.ok (.ret (match fl with | .ret v => v | _ => .none))) s') (fun e s' => wpAny C.M (A.deeper env) (leaving env e) (fun _ s'' => R (.error e) s'') (fun e' s'' => R (.error e') s'') s') s₁) :
    codeAny C.M A (.call (.ref f) ⟨args, kw⟩) R s := by
  obtain ⟨o, hlo, hdo⟩ := fo.o
  have X := st.K ok
  have ho := X _ _ hlo
  obtain ⟨c, oc, vs, tq, hc, hoc, hdc, hq⟩ := fo.code
  refine codeAny_call_function (room.deep hk) ho hdo fo.co hgen fo.body ⟨c, oc, vs, tq, hc, X _ _ hoc, hdc, hq⟩ ?_
  refine hb _ _ _ _ ?_
  have names := hv.names
  have bnd : (binds.map (·.1)).Nodup := by rw [names]; exact hnd
  have kinds : ∀ x ∈ binds, fd.scope.names.lookup x.1 = some .local ∨ (fd.scope.names.lookup x.1 = some .cell ∧ ((cellsFrom (s.heap.objs.size + 1) fd.scope.names []).lookup x.1).isSome = true) := fun x hx => by
    have hm : x.1 ∈ vars.map (·.1) := names ▸ List.mem_map.mpr ⟨x, hx, rfl⟩
    have := List.all_eq_true.mp hkinds _ hm
    split at this
    · rename_i q; exact .inl q
    · rename_i q; exact .inr ⟨q, (cellsFrom_isSome x.1 fd.scope.names _ 0 [] [] rfl).trans this⟩
    · cases this
  rw [fo.clo]
  refine wpAny_newFunctionEnv_cells fo.kind kinds fun env he s' i => ?_
  have henv : env = callEnvC fd s.heap.objs.size f := he
  clear he
  have hcells : env.cells = cellsFrom (s.heap.objs.size + 1) fd.scope.names [] := by rw [henv]; rfl
  have okc := cellsFrom_ok fd.scope.names (s.heap.push { cls := .type "frame", data := .dict #[] }) (s.heap.objs.size + 1) [] ⟨fun _ _ hm => (nomatch hm), List.Pairwise.nil⟩ (by rw [Heap.size_push]; exact Nat.le_refl _)
  rw [Heap.size_push] at okc
  rw [← hcells] at okc
  have hkf : env.scope.kind = .function := by rw [henv]; exact fo.kind
  have hscope : env.scope = fd.scope := by rw [henv]; rfl
  have hkindOf : ∀ y, env.kindOf y = fd.scope.names.lookup y := fun y => by unfold Env.kindOf; rw [hscope]
  have hlocals : env.locals = s.heap.objs.size := by rw [henv]; rfl
  have hcn : (env.cells.map (·.1)).Nodup := by rw [hcells]; exact cellsFrom_names _ _ _ hsnd List.nodup_nil (by simp)
  have hfr : env.frame = some env.locals := by rw [henv]; rfl
  have get : ∀ y a, vars.lookup y = some a → ∃ v, (y, v) ∈ binds ∧ Rel σ s.heap a v := fun y a e => hv.find e
  have ent := st.enter (env := env) (vars := vars) i (fun p hp => ⟨Nat.le_of_succ_le (okc.empty p.1 p.2 hp).2, _, i.cell p.1 p.2 (lookup_mem hcn hp)⟩) (by exact List.pairwise_map.mpr okc.apart) hkf hfr (by rw [henv]; exact fo.gl) (by rw [henv]; exact fo.bi)
    (by
      rcases hloc with ⟨x, hx, hl⟩ | hloc
      · obtain ⟨⟨y, a⟩, hp, rfl⟩ := List.mem_map.mp hx
        obtain ⟨v, hm, _⟩ := get y a (lookup_mem hnd hp)
        exact .inl ⟨y, v, bindL_get (by rw [hkindOf]; exact hl) bnd hm⟩
      · exact .inr (by rw [hcells, hlocals]; exact hloc _))
    (fun y a e => by
      obtain ⟨v, hm, r⟩ := get y a e
      refine ⟨v, r, ?_⟩
      rcases kinds _ hm with hl | ⟨hl, hs⟩
      · exact .inl ⟨by rw [hkindOf]; exact hl, bindL_get (by rw [hkindOf]; exact hl) bnd hm⟩
      · refine .inr ⟨by rw [hkindOf]; exact hl, bindC_get (by rw [hkindOf, hl]; decide) bnd hm, ?_⟩
        rw [hcells]; exact Option.isSome_iff_exists.mp hs)
  refine ⟨ent.1.lim ok, codeAny_func ?_⟩
  exact h _ env _ henv ent.1 ent.2 (by rw [hlocals]; exact Nat.le_refl _) (fun p hp => Nat.le_of_succ_le (okc.empty p.1 p.2 hp).2) hfr
end
end Mine
end

section
open PySem PySem.W PyProof.Rows PySem.Calls PySem.SeqAt
set_option Elab.async false
set_option maxRecDepth 100000
set_option linter.unusedVariables false
namespace Mine
/-! a run never shrinks the heap -/
theorem runs_sz {M : Model} {Γ : Ctx} {p : Pos} {t : Sem Fin} {fs : List Frame} {s s' : Shared} {e : End} (h : Runs M Γ p t fs s e s') : s.heap.objs.size ≤ s'.heap.objs.size := by
  induction h <;> (try simp only [Shared.setGen, Heap.size_push, Heap.size_update] at *) <;> omega

theorem wakes_sz {M : Model} {Γ : Ctx} {p : Pos} {g : Nat} {r : Resume} {s s' : Shared} {res : GenResult} (h : Wakes M Γ p g r s res s') : s.heap.objs.size ≤ s'.heap.objs.size := by
  unfold Wakes at h
  split at h
  · exact h.elim
  · split at h
    · obtain ⟨e₁, s₁, hr, _, _, rfl⟩ := h; exact (runs_sz hr : (s.setGen g .running).heap.objs.size ≤ s₁.heap.objs.size)
    · rw [h.2]; exact Nat.le_refl _
    · rw [h.2]; exact Nat.le_refl _
  · obtain ⟨e₁, s₁, hr, _, _, rfl⟩ := h; exact (runs_sz hr : (s.setGen g .running).heap.objs.size ≤ s₁.heap.objs.size)
  · rw [h.2]; exact Nat.le_refl _
  · rw [h.2]; exact Nat.le_refl _

theorem wp_sz {α : Type} (M : Model) (Γ : Ctx) (n : Nat) (t : Sem α) : ∀ (Q : α → Pos → Shared → Prop) (E : Value → Pos → Shared → Prop) (p : Pos) (s : Shared), n ≤ s.heap.objs.size → Sem.wp M Γ t Q E p s →
    Sem.wp M Γ t (fun a p' s' => n ≤ s'.heap.objs.size ∧ Q a p' s') (fun e p' s' => n ≤ s'.heap.objs.size ∧ E e p' s') p s := by
  induction t with
  | pure a => intro Q E p s hn h; exact ⟨hn, h⟩
  | raise e => intro Q E p s hn h; exact ⟨hn, h⟩
  | unsupported _ => intro Q E p s _ h; exact h
  | finish _ => intro Q E p s _ h; exact h
  | rule _ k ih => intro Q E p s hn h; exact ih () Q E p s hn h
  | «at» p' k ih => intro Q E p s hn h; exact ih () Q E p' s hn h
  | load a _ k ih => intro Q E p s hn h; obtain ⟨o, ho, h⟩ := h; exact ⟨o, ho, ih o Q E p s hn h⟩
  | update a _ f k ih => intro Q E p s hn h; exact ⟨h.1, ih () Q E p _ (by show n ≤ (s.heap.update a f).objs.size; rw [Heap.size_update]; exact hn) h.2⟩
  | loadIfAlive a k ih => intro Q E p s hn h; exact ih _ Q E p s hn h
  | point _ k ih => intro Q E p s hn h; exact ih () Q E p s hn h
  | register _ _ => intro Q E p s _ h; exact h
  | alloc o k ih => intro Q E p s hn h; exact ih _ Q E p _ (by show n ≤ (s.heap.push o).objs.size; rw [Heap.size_push]; exact Nat.le_succ_of_le hn) h
  | fresh k ih => intro Q E p s hn h; exact ih _ Q E p _ hn h
  | ask k ih => intro Q E p s hn h; exact ih _ Q E p s hn h
  | choose src m k ih => intro Q E p s hn h; exact ⟨h.1, ih _ Q E p _ hn h.2⟩
  | os q _ k ih => intro Q E p s hn h; exact ih _ Q E p _ hn h
  | call c hd _ _ k ih => intro Q E p s hn h; obtain ⟨r, s', hr, h⟩ := h; exact ⟨r, s', hr, ih r Q E p s' (Nat.le_trans hn (runs_sz hr)) h⟩
  | handled own k ih => intro Q E p s hn h; exact ih _ Q E p s hn h
  | genState g k ih => intro Q E p s hn h; obtain ⟨st, hs, h⟩ := h; exact ⟨st, hs, ih _ Q E p s hn h⟩
  | newGen c k ih => intro Q E p s hn h; exact ih _ Q E p _ hn h
  | resume g r _ k ih => intro Q E p s hn h; obtain ⟨res, s', hw, h⟩ := h; exact ⟨res, s', hw, ih res Q E p s' (Nat.le_trans hn (wakes_sz hw)) h⟩
  | yield _ _ _ _ => intro Q E p s _ h; exact h
  | stack k ih => intro Q E p s hn h; exact ih _ Q E p s hn h
  | fork _ _ => intro Q E p s _ h; exact h
  | thread k ih => intro Q E p s hn h; exact ih _ Q E p s hn h
  | await _ _ _ _ _ => intro Q E p s _ h; exact h

theorem wpAny_sz {α : Type} {M : Model} {A : Around} {s : Shared} {t : Sem α} {Q : α → Shared → Prop} {E : Value → Shared → Prop}
    (h : wpAny M A t (fun a s' => s.heap.objs.size ≤ s'.heap.objs.size → Q a s') (fun e s' => s.heap.objs.size ≤ s'.heap.objs.size → E e s') s) : wpAny M A t Q E s :=
  wpAny_mono (fun Γ p hΓ => wp_sz M Γ _ t _ _ p s (Nat.le_refl _) (h Γ p hΓ) : wpAny M A t (fun a s' => s.heap.objs.size ≤ s'.heap.objs.size ∧ (s.heap.objs.size ≤ s'.heap.objs.size → Q a s')) (fun e s' => s.heap.objs.size ≤ s'.heap.objs.size ∧ (s.heap.objs.size ≤ s'.heap.objs.size → E e s')) s) (fun _ _ x => x.2 x.1) (fun _ _ x => x.2 x.1)
end Mine
end

section
open PySem PySem.W PyProof.Rows PySem.Calls PySem.SeqAt
set_option Elab.async false
set_option maxRecDepth 100000
set_option linter.unusedVariables false
namespace Mine
section
variable {C : Cx} {A A' : Around} {F : Fm} {σ σ' σ'' : Store} {s s' : Shared}

/-- an exception just made in this frame -/
def MadeX (C : Cx) (A : Around) (F : Fm) (S : List Addr) (σ : Store) (s : Shared) (σ' : Store) (e : Addr) (s' : Shared) : Prop :=
  ∃ sr vs, St C A F σ' sr ∧ Step C.B F.frs S σ σ' s sr ∧ Heap.MadeExcOf sr.heap s'.heap e (.ref 44) vs ∧ sr.heap.objs.size ≤ s'.heap.objs.size ∧ s'.gens = sr.gens ∧ s'.os = sr.os
def ExcX (m : Bool) (C : Cx) (A : Around) (F : Fm) (S : List Addr) (σ : Store) (s : Shared) (σ' : Store) (e : Addr) (s' : Shared) : Prop :=
  (m = true ∧ MadeX C A F S σ s σ' e s') ∨ FlyX C A F S σ s σ' e s'
theorem MadeX.after {S : List Addr} {e : Addr} {σ₀ : Store} {s₀ : Shared} (x : MadeX C A F S σ s σ' e s') (y : Step C.B F.frs S σ₀ σ s₀ s) : MadeX C A F S σ₀ s₀ σ' e s' := by
  obtain ⟨sr, vs, st, stp, r⟩ := x
  exact ⟨sr, vs, st, y.trans stp, r⟩
theorem ExcX.after {m : Bool} {S : List Addr} {e : Addr} {σ₀ : Store} {s₀ : Shared} (x : ExcX m C A F S σ s σ' e s') (y : Step C.B F.frs S σ₀ σ s₀ s) : ExcX m C A F S σ₀ s₀ σ' e s' := x.imp (fun h => ⟨h.1, h.2.after y⟩) (·.after y)

theorem Flies.forget {FR : List Addr} {sr : Shared} {e : Addr} (x : Flies C A F σ FR sr e s') {σ₀ : Store} (q : Sub σ₀ σ) : Flies C A F σ₀ FR sr e s' := { x with st := x.st.forget q }
theorem FlyX.forget {S : List Addr} {e : Addr} (x : FlyX C A F S σ s σ' e s') {σ₀ : Store} (q : Sub σ₀ σ') : FlyX C A F S σ s σ₀ e s' := by
  obtain ⟨FR, sr, f, st, hF⟩ := x
  exact ⟨FR, sr, f.forget q, st.sub q, hF⟩

theorem frs_cons {env : Env} {vars : List (Str × AV)} {fs : List Env} (hf : env.frame = some env.locals) : (Fm.mk env vars (env :: fs)).frs = env.locals :: (fs.filterMap (·.frame)) := by
  show (env :: fs).filterMap (·.frame) = _
  rw [List.filterMap_cons, hf]

/-- an exception goes out of a function -/
theorem ExcX.leaves {m : Bool} {env : Env} {vars vars' : List (Str × AV)} {s₁ : Shared} {e : Addr} (x : St C A F σ s) (hs₁ : s.heap.objs.size ≤ env.locals) (hcs : ∀ p ∈ env.cells, s.heap.objs.size ≤ p.2) (hf : env.frame = some env.locals)
    (e₁ : Step C.B F.frs [] σ σ s s₁) (y : ExcX m C (A.deeper env) ⟨env, vars', env :: F.fs⟩ (Fm.mk env vars (env :: F.fs)).own σ s₁ σ' e s') {Q : Unit → Shared → Prop} {E : Value → Shared → Prop} (hQ : ∀ s'', FlyX C A F [] σ s σ' e s'' → Q () s'') :
    wpAny C.M (A.deeper env) (leaving env (.ref e)) Q E s' := by
  have hfr : (A.deeper env).frames = some (env :: F.fs) := Around.frames_deeper x.stack
  have hin : ∀ (en : Env), en ∈ (env :: F.fs) → ∀ b, en.frame = some b → b ∈ (env :: F.fs).filterMap (·.frame) := fun en he b hb => List.mem_filterMap.mpr ⟨en, he, hb⟩
  rcases y with ⟨_, sr, vs, st, stp, hx, hz, hg, ho⟩ | ⟨FR, sr, fl, stp, hF⟩
  · have hB : (hideAll sr.heap ((env :: F.fs).filterMap (·.frame))).StaysIn sr.heap := fun b o q => of_hideAll _ q
    have ff := st.ff
    refine wpAny_sz (wpAny_leaves_madeW hfr hf hB (funFrames_hide ff hin) hx fun h' t x1 x2 x3 x4 hsz => hQ _ ?_)
    have lv := x.leave (F' := ⟨env, vars', env :: F.fs⟩) hs₁ hcs rfl hf e₁ st stp
    refine ⟨(Fm.mk env vars' (env :: F.fs)).frs, sr, { st := lv.1, sub := fun b hb => ?_, fB := fun b hb => (ff.mem hb).1, fd := fun b hb => st.fd b hb, fly := ⟨_, t, fun b o e hb => hideAll_get _ e hb, x1, x3⟩, up := (Heap.UpToSlots.of_keeps hx.keeps).trans x4, sz := ?_, gens := hg, os := ho }, lv.2, fun b hb => ?_⟩
    · rw [frs_cons hf]; exact List.mem_cons_of_mem _ hb
    · exact Nat.le_trans hz hsz
    · rw [frs_cons hf] at hb
      rcases List.mem_cons.mp hb with rfl | hb
      · exact .inr hs₁
      · exact .inl hb
  · obtain ⟨B, t, hB, hfl, ht⟩ := fl.fly
    refine wpAny_sz (wpAny_leaves_onW hfr hf hfl fun h' x1 x2 hsz => hQ _ ?_)
    have lv := x.leave (F' := ⟨env, vars', env :: F.fs⟩) hs₁ hcs rfl hf e₁ fl.st stp
    refine ⟨FR, sr, { st := lv.1, sub := fun b hb => fl.sub b (by rw [frs_cons hf]; exact List.mem_cons_of_mem _ hb), fB := fl.fB, fd := fl.fd, fly := ⟨B, t, hB, x1, ht⟩, up := fl.up.trans x2, sz := ?_, gens := fl.gens, os := fl.os }, lv.2, fun b hb => ?_⟩
    · exact Nat.le_trans fl.sz hsz
    · rcases hF b hb with h | h
      · rw [frs_cons hf] at h
        rcases List.mem_cons.mp h with rfl | h
        · exact .inr hs₁
        · exact .inl h
      · exact .inr (Nat.le_trans e₁.sz h)
end
end Mine
end

section
open PySem PySem.W PyProof.Rows PySem.Calls PySem.SeqAt
set_option Elab.async false
set_option maxRecDepth 100000
set_option linter.unusedVariables false
namespace Mine

/-- the exception's class, as it stands -/
structure ExcCls (h : Heap) (c : Addr) (bmB : List Value) (newId : String) : Prop where
  o : ∃ bm N nm q bs hdct sn sub ab col dd k0 k1 k2 k3 k5 mN, h.get? c = some (excClassObj nm q c N bs bm hdct sn sub ab col dd k0 k1 k2 k3 k5 newId) ∧ h.Ns N mN ∧ mN "__init__" = none ∧ OwnTail h bmB bm
theorem excCls_of {K : Frag} {h : Heap} {c : Addr} {bmB : List Value} {newId : String} (X : K.In h) (q : excIn K c bmB newId = true) : ExcCls h c bmB newId := by
  unfold excIn at q
  split at q
  · rename_i dd cd sl ho
    split at q
    · rename_i C' bm k0 k1 k2 k3 n k5 hm hs
      simp only [Bool.and_eq_true, beq_iff_eq, Bool.not_eq_true'] at q
      obtain ⟨⟨⟨⟨⟨rfl, rfl⟩, hdel⟩, ht⟩, hok⟩, hni⟩ := q
      obtain ⟨nm, bs, mro, ns, qn, hd, sn, sub, ab, col, del⟩ := cd
      dsimp only at hm hdel hok hni
      subst hm hdel
      have hsl : sl = #[k0, k1, k2, k3, some (.builtin n), k5] := by
        obtain ⟨l⟩ := sl
        simp only at hs
        rw [hs]
      subst hsl
      exact ⟨bm, ns, nm, qn, bs, hd, sn, sub, ab, col, dd, k0, k1, k2, k3, k5, _, X _ _ ho, .of_isNs (isNs_of_in X hok), nsMap_none_of_in X hok hni, tail_of_in X ht⟩
    · cases q
  · cases q

section
variable {C : Cx} {P0 : Params} {A A' : Around} {F : Fm} {σ σ' σ'' : Store} {s s' : Shared}

theorem exc44 (x : Bx C P0) (st : St C A F σ s) : ExcCls s.heap 44 [.type "Exception", .type "BaseException", .type "object"] "Exception.__new__" :=
  excCls_of (st.K x.ok) (by rw [x.hK]; kernel_rfl)

/-- a tree that gives a value, or raises from a call -/
def TvX (C : Cx) (A : Around) (F : Fm) (σ : Store) (t : Sem Value) (P : AV → Store → Prop) (X : Store → Prop) : Prop :=
  ∀ s, St C A F σ s → ∀ (Q E : Value → Shared → Prop),
    (∀ a v σ' s', P a σ' → St C A F σ' s' → Rel σ' s'.heap a v → Step C.B F.frs [] σ σ' s s' → Q v s') → (∀ e σ' s', X σ' → FlyX C A F [] σ s σ' e s' → E (.ref e) s') → wpAny C.M A t Q E s
/-- a statement that may raise -/
def SxX (m : Bool) (C : Cx) (A : Around) (F : Fm) (σ : Store) (t : Sem Flow) (P : FP) (X : List (Str × AV) → Store → Prop) : Prop :=
  ∀ s, St C A F σ s → ∀ (Q : Flow → Shared → Prop) (E : Value → Shared → Prop),
    (∀ fl f vars σ' s', P fl vars σ' → St C A (F.with vars) σ' s' → FlowRel σ' s'.heap fl f → Step C.B F.frs F.own σ σ' s s' → Q f s') →
    (∀ e vars σ' s', X vars σ' → ExcX m C A (F.with vars) F.own σ s σ' e s' → E (.ref e) s') → wpAny C.M A t Q E s
abbrev ExX (m : Bool) (C : Cx) (A : Around) (F : Fm) (σ : Store) (st : Stmt) (P : FP) (X : List (Str × AV) → Store → Prop) : Prop := SxX m C A F σ (exec st F.env) P X
abbrev ExsX (m : Bool) (C : Cx) (A : Around) (F : Fm) (σ : Store) (sts : List Stmt) (P : FP) (X : List (Str × AV) → Store → Prop) : Prop := SxX m C A F σ (execs sts F.env) P X

variable {m : Bool} {P : FP} {X : List (Str × AV) → Store → Prop}
theorem Sx.toX {t : Sem Flow} (h : Sx C A F σ t P) : SxX m C A F σ t P X := fun s st Q E hQ hE => wpAny_noE (h s st Q hQ)
theorem SxX.mono {t : Sem Flow} {P' : FP} (h : SxX m C A F σ t P X) (hp : ∀ fl vars σ', P fl vars σ' → P' fl vars σ') : SxX m C A F σ t P' X := fun s st Q E hQ hE => h s st Q E (fun fl f vars σ' s' p => hQ fl f vars σ' s' (hp _ _ _ p)) hE
theorem ExsX_nil (h : P .next F.vars σ) : ExsX m C A F σ [] P X := (Exs_nil h).toX
theorem ExsX_cons {st : Stmt} {rest : List Stmt} (h : ExX m C A F σ st (fun fl vars σ₁ => match fl with | .next => ExsX m C A (F.with vars) σ₁ rest P X | fl => P fl vars σ₁) X) : ExsX m C A F σ (st :: rest) P X := fun s x Q E hQ hE =>
  wpAny_execs_cons (h s x _ _ (fun fl f vars σ₁ s₁ h₁ st₁ r₁ e₁ => by
    cases r₁ with
    | next => exact h₁ s₁ st₁ Q E (fun fl f vars' σ₂ s₂ h₂ st₂ r₂ e₂ => hQ fl f vars' σ₂ s₂ h₂ st₂ r₂ (e₁.trans e₂)) fun e vars' σ₂ s₂ hx y => hE e vars' σ₂ s₂ hx (y.after e₁)
    | brk => exact hQ _ _ _ _ _ h₁ st₁ .brk e₁
    | cont => exact hQ _ _ _ _ _ h₁ st₁ .cont e₁
    | ret r => exact hQ _ _ _ _ _ h₁ st₁ (.ret r) e₁) hE)
theorem ExX_If {t : Expr} {b o : List Stmt} {pos : Pos} (h : Te C A F σ t fun c σ₁ => if c then ExsX m C A F σ₁ b P X else ExsX m C A F σ₁ o P X) : ExX m C A F σ (.If t b o pos) P X := fun s st Q E hQ hE =>
  wpAny_If (wpAny_noE (h s st _ fun c σ₁ s₁ h₁ st₁ e₁ => by
    have e1 : Step C.B F.frs F.own σ σ₁ s s₁ := e₁.mono (by simp)
    cases c
    · exact h₁ s₁ st₁ _ _ (fun fl f vars σ₂ s₂ h₂ st₂ r₂ e₂ => hQ fl f vars σ₂ s₂ h₂ st₂ r₂ (e1.trans e₂)) fun e vars σ₂ s₂ hx y => hE e vars σ₂ s₂ hx (y.after e1)
    · exact h₁ s₁ st₁ _ _ (fun fl f vars σ₂ s₂ h₂ st₂ r₂ e₂ => hQ fl f vars σ₂ s₂ h₂ st₂ r₂ (e1.trans e₂)) fun e vars σ₂ s₂ hx y => hE e vars σ₂ s₂ hx (y.after e1)))
theorem ExX_Assign {x : Str} {p pos : Pos} {e : Expr} (hk : F.env.kindOf x = some .local) (h : TvX C A F σ (eval e F.env) (fun a σ₁ => P .next (putv F.vars x a) σ₁) (X F.vars)) (hs : swapsWith e (some (.Name x p)) pos.line F.env = pure false := by rfl) : ExX m C A F σ (.Assign [.Name x p] e pos) P X := fun s st Q E hQ hE =>
  wpAny_Assign_Name (h s st _ _ (fun a v σ₁ s₁ h₁ st₁ r₁ e₁ => st₁.store (.inl hk) r₁ fun s₂ st₂ e₂ => hQ _ _ _ _ _ h₁ st₂ .next ((e₁.mono (by simp)).trans e₂)) fun e σ₁ s₁ hx y => hE e F.vars σ₁ s₁ hx (.inr (y.mono (by simp)))) hs
theorem ExX_Expr {e : Expr} {pos : Pos} (h : TvX C A F σ (eval e F.env) (fun a σ₁ => P .next F.vars σ₁) (X F.vars)) (hi : interactive F.env = false := by rfl) (hs : swapsWith e none pos.line F.env = pure false := by rfl) : ExX m C A F σ (.Expr e pos) P X := fun s st Q E hQ hE =>
  wpAny_Expr_any (h s st _ _ (fun a v σ₁ s₁ h₁ st₁ r₁ e₁ => hQ _ _ _ _ _ h₁ st₁ .next (e₁.mono (by simp))) fun e σ₁ s₁ hx y => hE e F.vars σ₁ s₁ hx (.inr (y.mono (by simp)))) hi hs

/-- raise DXFValueError(e), where e is a name or a constant -/
theorem ExX_Raise (x : Bx C P0) (hh : A.handled = none) {np cpos pos : Pos} {e₀ : Expr} (hev : ∀ s, St C A F σ s → ∀ Q : Value → Shared → Prop, (∀ v tk, Q v { s with toks := tk }) → wpAny C.M A (eval e₀ F.env) Q NoE s) (hX : X F.vars σ) (hk : F.env.kindOf "DXFValueError" = some .globalImplicit := by rfl) (hn : noStar [e₀] = true := by rfl) :
    ExX true C A F σ (.Raise (some (.Call (.Name "DXFValueError" np) [e₀] [] cpos)) none pos) P X := fun s st Q E hQ hE => by
  obtain ⟨bm, N, nm, q, bs, hdct, sn, sub, ab, col, dd, k0, k1, k2, k3, k5, mN, hC, hN, hni, T⟩ := (exc44 x st).o
  have plain := starEach_plain (env := F.env) (pos := cpos) hn
  have h1 := (starEach_cons (env := F.env) hn).1
  refine wpAny_sz (wpAny_Raise_call_subT (C := 44) (nm := nm) (q := q) (N := N) (bs := bs) (bm := bm) (hdct := hdct) (sn := sn) (sub := sub) (ab := ab) (col := col) (dd := dd) (k0 := k0) (k1 := k1) (k2 := k2) (k3 := k3) (k5 := k5) (mN := mN)
    PySem.F.excBase_Exception (T.hasType PySem.F.excBase_Exception.hasBase) hh plain hni ?_)
  have nm44 := Calls.Name_function_global (M := C.M) (A := A) (E := NoE) (Q := fun f s₁ => f = .ref 44 ∧ s₁ = s) st.kind hk (Calls.loadGlobal_global (by rw [st.gl]; exact st.g x.ok) (x.ok.val x.kf.vDXFValueError) ⟨rfl, rfl⟩) (pos := np) (by decide)
  refine wpAny_noE (wpAny_mono nm44 (fun f s₁ h₁ => ?_) fun _ _ e => e)
  obtain ⟨rfl, rfl⟩ := h₁
  refine ⟨rfl, ?_⟩
  have sp : ∀ Q' : List Value → Shared → Prop, (∀ v tk, Q' [v] { s₁ with toks := tk }) → wpAny C.M A (spliced (backTo cpos (starEach [e₀] F.env))) Q' NoE s₁ := fun Q' h => spliced_more (env := F.env) (e := e₀) (rest := []) (pos := cpos) (hev s₁ st _ fun v tk => spliced_none (h v tk)) h1
  rw [h1] at sp ⊢
  refine Calls.evalArgs_plain ?_
  refine wpAny_noE ?_
  refine sp _ fun v tk => ?_
  refine ⟨rfl, by rw [sizeLine_eq]; show 1 ≤ 16777216; omega, hC, hN, T, fun h' e hm hsz => ?_⟩
  obtain ⟨st2, e2⟩ := st.tok tk
  exact hE e F.vars σ _ hX (.inl ⟨rfl, { s₁ with toks := tk }, _, st2, e2.mono (by simp), hm, hsz, rfl, rfl⟩)
end
end Mine
end

section
open PySem PySem.W PyProof.Rows PySem.Calls PySem.SeqAt
set_option Elab.async false
set_option maxRecDepth 100000
set_option linter.unusedVariables false
namespace Mine
section
variable {C : Cx} {A A' : Around} {F : Fm} {σ σ' σ'' : Store} {s s' : Shared} {P : AV → Store → Prop} {X : Store → Prop}

/-- a contract of a function that may raise -/
def FnX (C : Cx) (k : Nat) (f : Addr) (as : List AV) (σ : Store) (P : AV → Store → Prop) (X : Store → Prop) : Prop :=
  ∀ (A : Around) (F : Fm) (s : Shared) (vs : List Value) (R : Result → Shared → Prop), Room A k → A.handled = none → St C A F σ s → RelAll σ s.heap as vs →
    (∀ a v σ' s', P a σ' → St C A F σ' s' → Rel σ' s'.heap a v → Step C.B F.frs [] σ σ' s s' → R (.ok (.ret v)) s') → (∀ e σ' s', X σ' → FlyX C A F [] σ s σ' e s' → R (.error (.ref e)) s') → codeAny C.M A (.call (.ref f) ⟨vs, []⟩) R s
theorem FnX.mono {k : Nat} {f : Addr} {as : List AV} {P' : AV → Store → Prop} {X' : Store → Prop} (x : FnX C k f as σ P X) (h : ∀ a σ', P a σ' → P' a σ') (hx : ∀ σ', X σ' → X' σ') : FnX C k f as σ P' X' :=
  fun A F s vs R room hh st r hR hE => x A F s vs R room hh st r (fun a v σ' s' p => hR a v σ' s' (h _ _ p)) fun e σ' s' q => hE e σ' s' (hx _ q)

theorem FnX_at {K : Frag} (ok : C.Ok) (hCK : C.K = K) {f : Addr} {fd : FuncData} {body : List Stmt} {sc : Scope} {cd : Value} (fo : FnOk K f fd body) (hsc : fd.scope = sc) (hcd : fd.code = cd) {k : Nat} {as : List AV} (ds : List AV) (dvs : List Value) (hrel : ∀ h, RelAll σ h ds dvs) (names : List Str) (hlen : names.length = (as ++ ds).length)
    (hb : ∀ (s : Shared) (vs : List Value), K.In s.heap → vs.length = as.length → BindsTo s fd ⟨vs, []⟩ (names.zip (vs ++ dvs)))
    (hgen : sc.isGenerator = false) (hnd : names.Nodup) (hkinds : kindsOk sc names = true) (hsnd : (sc.names.map (·.1)).Nodup) (hloc : ∃ x ∈ names, sc.names.lookup x = some .local)
    (h : ∀ (A : Around) (L : Addr) (fs : List Env) (q : Str), Room A k → A.handled = none → ExsX true C A ⟨fEnv sc L f q cd, names.zip (as ++ ds), fEnv sc L f q cd :: fs⟩ σ body (fun fl _ σ₁ => match fl with | .ret a => Up P a σ₁ | _ => Up P .none σ₁) fun _ σ₁ => ∃ σ0, Sub σ0 σ₁ ∧ X σ0) :
    FnX C (k + 1) f as σ P X := fun A F s vs R room hh st r hR hE => by
  subst hCK; subst hsc; subst hcd
  have hz : (names.zip (as ++ ds)).map (·.1) = names := List.map_fst_zip (Nat.le_of_eq hlen)
  refine enter_fn ok fo room (Nat.le_add_left 1 k) st (hb s vs (st.K ok) r.length) (Binds.of (r.append (hrel _)) hlen) hgen (by rw [hz]; exact hnd) (by rw [hz]; exact hkinds) hsnd (.inl (by rw [hz]; exact hloc)) fun L env s₁ he st₁ e₁ hl hcs hf => ?_
  have e : env = fEnv fd.scope L f (fd.qualname ++ ".<locals>.") fd.code := by
    rw [he]; show newEnv _ _ fd.globals _ _ _ _ _ fd.builtins = _; rw [fo.gl, fo.bi]
  clear he
  subst e
  refine h (A.deeper _) L F.fs _ (room.deeper) hh s₁ st₁ _ _ (fun fl fw vars' σ₂ s₂ p₂ st₂ r₂ e₂ => ?_) fun e vars' σ₂ s₂ hx y => ?_
  · have lv := st.leave (F' := ⟨_, vars', _ :: F.fs⟩) hl hcs rfl hf e₁ st₂ e₂
    cases r₂ with
    | next =>
      obtain ⟨a0, σ0, sub, cv, hp⟩ := p₂
      exact hR a0 _ σ0 s₂ hp (lv.1.forget sub) (cv.rel lv.1 sub .none) (lv.2.sub sub)
    | brk =>
      obtain ⟨a0, σ0, sub, cv, hp⟩ := p₂
      exact hR a0 _ σ0 s₂ hp (lv.1.forget sub) (cv.rel lv.1 sub .none) (lv.2.sub sub)
    | cont =>
      obtain ⟨a0, σ0, sub, cv, hp⟩ := p₂
      exact hR a0 _ σ0 s₂ hp (lv.1.forget sub) (cv.rel lv.1 sub .none) (lv.2.sub sub)
    | ret rr =>
      obtain ⟨a0, σ0, sub, cv, hp⟩ := p₂
      exact hR a0 _ σ0 s₂ hp (lv.1.forget sub) (cv.rel lv.1 sub rr) (lv.2.sub sub)
  · obtain ⟨σ0, sub, hX⟩ := hx
    exact ExcX.leaves st hl hcs hf e₁ y fun s'' fly => hE e σ0 s'' hX (fly.forget sub)
end
end Mine
end

section
open PySem PySem.W PyProof.Rows PySem.Calls PySem.SeqAt
set_option Elab.async false
set_option maxRecDepth 100000
set_option linter.unusedVariables false
namespace Mine
section
variable {C : Cx} {P0 : Params} {σ : Store} {a : Addr} {l : List Pr}

/-- the first with this code -/
def firstQ (l : List Pr) (code : Int) : Option Pr := l.find? fun q => q.1 == code

theorem name_ev {C : Cx} {A : Around} {F : Fm} {σ : Store} {y : Str} {p : Pos} {b : AV} (hv : F.vars.lookup y = some b) (hd : (y == ("__debug__" : Str)) = false := by decide) (hn : (y == ("__classdict__" : Str)) = false := by decide) :
    ∀ s, St C A F σ s → ∀ Q : Value → Shared → Prop, (∀ v tk, Q v { s with toks := tk }) → wpAny C.M A (eval (.Name y p) F.env) Q NoE s := by
  intro s st Q hQ
  obtain ⟨m, n, _, vs⟩ := st.ns
  have v := vs y b hv
  unfold VarOk at v
  refine wpAny_Name ?_ hd
  split at v
  · rename_i e; obtain ⟨v, h1, h2⟩ := v; exact wpAny_loadName_local st.kind e n h1 (hQ v s.toks)
  · rename_i e; obtain ⟨c, v, h1, h2, h3⟩ := v; exact wpAny_loadName_cell st.kind e h1 h2 (hQ v s.toks)
  · rename_i e; obtain ⟨c, v, h1, h2, h3⟩ := v; exact wpAny_loadName_free st.kind e h1 h2 (hQ v s.toks) hn
  · exact v.elim
theorem str_ev {C : Cx} {A : Around} {F : Fm} {σ : Store} {y : Str} {k p} : ∀ s, St C A F σ s → ∀ Q : Value → Shared → Prop, (∀ v tk, Q v { s with toks := tk }) → wpAny C.M A (eval (.Constant (.str y) k p) F.env) Q NoE s :=
  fun s st Q hQ => wpAny_Constant_str (hQ _ _)
end
end Mine
end

section
open PySem PySem.W PyProof.Rows PySem.Calls PySem.SeqAt
set_option Elab.async false
set_option maxRecDepth 100000
set_option linter.unusedVariables false
namespace Mine
section
variable {C : Cx} {P0 : Params} {A : Around} {F : Fm} {σ : Store} {a : Addr} {l : List Pr} {P : AV → Store → Prop}
theorem O2_isRef {c : Addr} (hP : P (.bool true) σ) : O2 C A F σ (.val (.ref c)) (.val (.ref c)) (compareOp .Is) P :=
  .now (fun s v u st r1 r2 Q hQ => by obtain rfl := r1.val_inv; obtain rfl := r2.val_inv; exact wpAny_is_ref_self (hQ _ s.toks (.bool _))) hP
theorem O2_isStrRef {c : Addr} {y : Str} (hP : P (.bool false) σ) : O2 C A F σ (.str y) (.val (.ref c)) (compareOp .Is) P :=
  .now (fun s v u st r1 r2 Q hQ => by obtain ⟨t, rfl⟩ := r1.str_inv; obtain rfl := r2.val_inv; exact wpAny_is_plain rfl (hQ _ s.toks (.bool false))) hP

theorem firstQ_some {i : Nat} {q : Pr} {code : Int} (h : ∀ x ∈ l.take i, (x.1 == code) = false) (hq : l[i]? = some q) (hc : (q.1 == code) = true) : firstQ l code = some q := by
  unfold firstQ
  rw [List.find?_eq_some_iff_append]
  have hi : i < l.length := (List.getElem?_eq_some_iff.mp hq).1
  have e := List.drop_eq_getElem_cons hi
  have hqe : l[i] = q := (List.getElem?_eq_some_iff.mp hq).2
  rw [hqe] at e
  exact ⟨hc, l.take i, l.drop (i + 1), by rw [← e, List.take_append_drop], fun x hx => by rw [h x hx]; rfl⟩
theorem firstQ_none {code : Int} (h : ∀ x ∈ l, (x.1 == code) = false) : firstQ l code = none := by
  unfold firstQ
  rw [List.find?_eq_none]
  intro x hx
  rw [h x hx]; exact Bool.false_ne_true

theorem fnx_first_value (x : Bx C P0) {code : Int} (ha : σ a = some ⟨true, tagsOf l⟩) : FnX C 3 229 [.obj a, .int code] σ (fun r σ' => ∃ q, firstQ l code = some q ∧ r = .str q.2 ∧ σ' = σ) (fun σ' => firstQ l code = none ∧ σ' = σ) := by
  refine FnX_at x.ok x.hK ⟨⟨_, rfl, rfl⟩, rfl, rfl, rfl, rfl, rfl, rfl, _, _, _, _, rfl, rfl, rfl, rfl⟩ rfl rfl [.val (.ref 44)] [.ref 44] (fun _ => .cons (.val _) .nil) ["self", "code", "default"] rfl (fun s vs X h => by obtain ⟨v, u, rfl⟩ := len2 h; exact binds_K X rfl rfl rfl rfl rfl) rfl (by decide) rfl (by decide) ⟨"self", by simp, rfl⟩ fun A L fs q room hh => ?_
  dsimp only
  refine ExsX_cons (Sx.toX (Ex_For x.ok x.kf.T hh (Ev_Name rfl ⟨tagsOf l, .seq (by nofun) (.tags ha), LetOk_Name, fun i vars σ' => lk vars "self" = some (.obj a) ∧ lk vars "code" = some (.int code) ∧ lk vars "default" = some (.val (.ref 44)) ∧ σ' = σ ∧ ∀ q ∈ l.take i, (q.1 == code) = false, ⟨rfl, rfl, rfl, rfl, by simp⟩, ?_, ?_⟩)))
  · rintro i v vars σ' hv ⟨h1, h2, h3, rfl, h4⟩
    obtain ⟨q, hq, rfl⟩ := tagsOf_get hv
    refine ⟨.seq (by nofun) (.tags ha), Asg_Name (.inl rfl) ⟨.seq (by nofun) (.tags ha), Exs_cons <| Ex_If <| Te_Cmp <| Ev_Attr <| Ev_Name lk_self <| O1_code P0 x.hK x.ok x.kf (j := 0) room hh <| Ev_Name (lk_ne h2 (by decide)) <| O2_eqI ⟨_, rfl, ?_⟩⟩⟩
    cases hc : (q.1 == code) with
    | true =>
      rw [if_pos rfl]
      exact Exs_cons <| Ex_Return <| Ev_Attr <| Ev_Name lk_self <| O1_value P0 x.hK x.ok x.kf (j := 0) room hh <| Up.now ⟨q, firstQ_some h4 hq hc, rfl, rfl⟩
    | false =>
      rw [if_neg Bool.false_ne_true]
      exact Exs_nil <| Exs_nil <| UpV.now ⟨.seq (by nofun) (.tags ha), lk_ne h1 (by decide), lk_ne h2 (by decide), lk_ne h3 (by decide), rfl, forall_take_succ h4 hq hc⟩
  · rintro vars σ' ⟨h1, h2, h3, rfl, h4⟩
    have hnone : firstQ l code = none := firstQ_none fun y hy => h4 y (by rw [List.take_of_length_le (by simp [tagsOf])]; exact hy)
    refine ExsX_cons <| ExX_If <| Te_Cmp <| Ev_Name h3 <| Ev_Global x.ok rfl (x.ok.val x.kf.vDXFValueError) (fun h => .val _) <| O2_isRef ⟨_, rfl, ?_⟩
    rw [if_pos rfl]
    exact ExsX_cons <| ExX_Raise x hh (name_ev h2) ⟨_, .refl _, hnone, rfl⟩
theorem fnx_first_tag (x : Bx C P0) {code : Int} (ha : σ a = some ⟨true, tagsOf l⟩) : FnX C 3 237 [.obj a, .int code] σ (fun r σ' => ∃ q, firstQ l code = some q ∧ r = .tag q.1 q.2 ∧ σ' = σ) (fun σ' => firstQ l code = none ∧ σ' = σ) := by
  refine FnX_at x.ok x.hK ⟨⟨_, rfl, rfl⟩, rfl, rfl, rfl, rfl, rfl, rfl, _, _, _, _, rfl, rfl, rfl, rfl⟩ rfl rfl [.val (.ref 44)] [.ref 44] (fun _ => .cons (.val _) .nil) ["self", "code", "default"] rfl (fun s vs X h => by obtain ⟨v, u, rfl⟩ := len2 h; exact binds_K X rfl rfl rfl rfl rfl) rfl (by decide) rfl (by decide) ⟨"self", by simp, rfl⟩ fun A L fs q room hh => ?_
  dsimp only
  refine ExsX_cons (Sx.toX (Ex_For x.ok x.kf.T hh (Ev_Name rfl ⟨tagsOf l, .seq (by nofun) (.tags ha), LetOk_Name, fun i vars σ' => lk vars "self" = some (.obj a) ∧ lk vars "code" = some (.int code) ∧ lk vars "default" = some (.val (.ref 44)) ∧ σ' = σ ∧ ∀ q ∈ l.take i, (q.1 == code) = false, ⟨rfl, rfl, rfl, rfl, by simp⟩, ?_, ?_⟩)))
  · rintro i v vars σ' hv ⟨h1, h2, h3, rfl, h4⟩
    obtain ⟨q, hq, rfl⟩ := tagsOf_get hv
    refine ⟨.seq (by nofun) (.tags ha), Asg_Name (.inl rfl) ⟨.seq (by nofun) (.tags ha), Exs_cons <| Ex_If <| Te_Cmp <| Ev_Attr <| Ev_Name lk_self <| O1_code P0 x.hK x.ok x.kf (j := 0) room hh <| Ev_Name (lk_ne h2 (by decide)) <| O2_eqI ⟨_, rfl, ?_⟩⟩⟩
    cases hc : (q.1 == code) with
    | true =>
      rw [if_pos rfl]
      exact Exs_cons <| Ex_Return <| Ev_Name lk_self <| Up.now ⟨q, firstQ_some h4 hq hc, rfl, rfl⟩
    | false =>
      rw [if_neg Bool.false_ne_true]
      exact Exs_nil <| Exs_nil <| UpV.now ⟨.seq (by nofun) (.tags ha), lk_ne h1 (by decide), lk_ne h2 (by decide), lk_ne h3 (by decide), rfl, forall_take_succ h4 hq hc⟩
  · rintro vars σ' ⟨h1, h2, h3, rfl, h4⟩
    have hnone : firstQ l code = none := firstQ_none fun y hy => h4 y (by rw [List.take_of_length_le (by simp [tagsOf])]; exact hy)
    refine ExsX_cons <| ExX_If <| Te_Cmp <| Ev_Name h3 <| Ev_Global x.ok rfl (x.ok.val x.kf.vDXFValueError) (fun h => .val _) <| O2_isRef ⟨_, rfl, ?_⟩
    rw [if_pos rfl]
    exact ExsX_cons <| ExX_Raise x hh (name_ev h2) ⟨_, .refl _, hnone, rfl⟩
theorem fn_first_value (x : Bx C P0) {code : Int} {dv : Str} (ha : σ a = some ⟨true, tagsOf l⟩) : Fn C 3 229 [.obj a, .int code, .str dv] σ (fun r σ' => r = .str (((firstQ l code).map (·.2)).getD dv) ∧ σ' = σ) := by
  refine Fn_atD x.ok x.hK ⟨⟨_, rfl, rfl⟩, rfl, rfl, rfl, rfl, rfl, rfl, _, _, _, _, rfl, rfl, rfl, rfl⟩ rfl rfl [] [] (fun _ => .nil) ["self", "code", "default"] rfl (fun s vs X h => by obtain ⟨v, u, w, rfl⟩ := len3 h; exact binds_K X rfl rfl rfl rfl rfl) rfl (by decide) rfl (by decide) ⟨"self", by simp, rfl⟩ fun A L fs q room hh => ?_
  dsimp only
  refine Exs_cons (Ex_For x.ok x.kf.T hh (Ev_Name rfl ⟨tagsOf l, .seq (by nofun) (.tags ha), LetOk_Name, fun i vars σ' => lk vars "self" = some (.obj a) ∧ lk vars "code" = some (.int code) ∧ lk vars "default" = some (.str dv) ∧ σ' = σ ∧ ∀ q ∈ l.take i, (q.1 == code) = false, ⟨rfl, rfl, rfl, rfl, by simp⟩, ?_, ?_⟩))
  · rintro i v vars σ' hv ⟨h1, h2, h3, rfl, h4⟩
    obtain ⟨q, hq, rfl⟩ := tagsOf_get hv
    refine ⟨.seq (by nofun) (.tags ha), Asg_Name (.inl rfl) ⟨.seq (by nofun) (.tags ha), Exs_cons <| Ex_If <| Te_Cmp <| Ev_Attr <| Ev_Name lk_self <| O1_code P0 x.hK x.ok x.kf (j := 0) room hh <| Ev_Name (lk_ne h2 (by decide)) <| O2_eqI ⟨_, rfl, ?_⟩⟩⟩
    cases hc : (q.1 == code) with
    | true =>
      rw [if_pos rfl]
      exact Exs_cons <| Ex_Return <| Ev_Attr <| Ev_Name lk_self <| O1_value P0 x.hK x.ok x.kf (j := 0) room hh <| Up.now ⟨by rw [firstQ_some h4 hq hc]; rfl, rfl⟩
    | false =>
      rw [if_neg Bool.false_ne_true]
      exact Exs_nil <| Exs_nil <| UpV.now ⟨.seq (by nofun) (.tags ha), lk_ne h1 (by decide), lk_ne h2 (by decide), lk_ne h3 (by decide), rfl, forall_take_succ h4 hq hc⟩
  · rintro vars σ' ⟨h1, h2, h3, rfl, h4⟩
    have hnone : firstQ l code = none := firstQ_none fun y hy => h4 y (by rw [List.take_of_length_le (by simp [tagsOf])]; exact hy)
    refine Exs_cons <| Ex_If <| Te_Cmp <| Ev_Name h3 <| Ev_Global x.ok rfl (x.ok.val x.kf.vDXFValueError) (fun h => .val _) <| O2_isStrRef ⟨_, rfl, ?_⟩
    rw [if_neg Bool.false_ne_true]
    exact Exs_cons <| Ex_Return <| Ev_Name h3 <| Up.now ⟨by rw [hnone]; rfl, rfl⟩
end
end Mine
end

section
open PySem PySem.W PyProof.Rows PySem.Calls PySem.SeqAt
set_option Elab.async false
set_option maxRecDepth 100000
set_option linter.unusedVariables false
namespace Mine
theorem firstAt_some {l : List Pr} {code : Int} {i j m : Nat} (hlt : i + m < j) (h : ∀ k, k < m → ((l.getD (i + k) ((0, "") : Pr)).1 == code) = false) (hc : ((l.getD (i + m) ((0, "") : Pr)).1 == code) = true) : firstAt l code i j = some (i + m) := by
  unfold firstAt
  rw [List.find?_eq_some_iff_append]
  have hk : m < j - i := by omega
  have e := List.drop_eq_getElem_cons (l := List.range' i (j - i)) (i := m) (by simpa using hk)
  rw [List.getElem_range'] at e
  simp only [Nat.one_mul] at e
  refine ⟨hc, (List.range' i (j - i)).take m, (List.range' i (j - i)).drop (m + 1), by rw [← e, List.take_append_drop], fun y hy => ?_⟩
  obtain ⟨k, hk1, hk2⟩ := List.mem_take_iff_getElem.mp hy
  rw [List.getElem_range'] at hk2
  simp only [Nat.one_mul] at hk2
  have hkm : k < m := by omega
  rw [← hk2, h k hkm]; rfl
theorem firstAt_none {l : List Pr} {code : Int} {i j : Nat} (h : ∀ k, k < j - i → ((l.getD (i + k) ((0, "") : Pr)).1 == code) = false) : firstAt l code i j = none := by
  unfold firstAt
  rw [List.find?_eq_none]
  intro y hy
  obtain ⟨h1, h2⟩ := List.mem_range'_1.mp hy
  have := h (y - i) (by omega)
  rw [show i + (y - i) = y by omega] at this
  rw [this]; exact Bool.false_ne_true

section
variable {C : Cx} {P0 : Params} {σ : Store} {a : Addr} {l : List Pr}
theorem fnx_tag_index (x : Bx C P0) {code : Int} {i j : Nat} (ha : σ a = some ⟨true, tagsOf l⟩) (hl : l.length ≤ 1000) (hi : i ≤ j) (hj : j ≤ l.length) : FnX C 4 252 [.obj a, .int code, .int i, .int j] σ (fun r σ' => ∃ k, firstAt l code i j = some k ∧ r = .int k ∧ σ' = σ) (fun σ' => firstAt l code i j = none ∧ σ' = σ) := by
  refine FnX_at x.ok x.hK ⟨⟨_, rfl, rfl⟩, rfl, rfl, rfl, rfl, rfl, rfl, _, _, _, _, rfl, rfl, rfl, rfl⟩ rfl rfl [] [] (fun _ => .nil) ["self", "code", "start", "end"] rfl (fun s vs X h => by obtain ⟨v, u, w, z, rfl⟩ := len4 h; exact binds_K X rfl rfl rfl rfl rfl) rfl (by decide) rfl (by decide) ⟨"self", by simp, rfl⟩ fun A L fs q room hh => ?_
  dsimp only
  refine ExsX_cons <| Sx.toX <| Ex_If <| Te_Cmp <| Ev_Name rfl <| Ev_none <| O2_isNone rfl ⟨_, rfl, ?_⟩
  rw [if_neg (show ¬ (isN (.int j) = true) from Bool.false_ne_true)]
  refine Exs_nil ?_
  refine ExsX_cons <| Sx.toX <| Ex_Assign (.inl rfl) <| Ev_Name rfl ?_

  refine ExsX_cons (Sx.toX (Ex_While hh (fun n vars σ' => ∃ m, i + m ≤ j ∧ n = j - (i + m) ∧ lk vars "self" = some (.obj a) ∧ lk vars "code" = some (.int code) ∧ lk vars "end" = some (.int j) ∧ lk vars "index" = some (.int ((i + m : Nat) : Int)) ∧ σ' = σ ∧ ∀ k, k < m → ((l.getD (i + k) ((0, "") : Pr)).1 == code) = false) (n₀ := j - i) ⟨0, hi, rfl, lk_ne rfl (by decide), lk_ne rfl (by decide), lk_ne rfl (by decide), lk_self, rfl, fun k hk => absurd hk (Nat.not_lt_zero _)⟩ ?_))
  rintro n vars σ' ⟨m, hm, rfl, h1, h2, h3, h4, rfl, h5⟩
  refine Te_lt (i := ((i + m : Nat) : Int)) (j := j) (Ev_Name h4 ⟨rfl, Ev_Name h3 ⟨rfl, ?_⟩⟩)
  by_cases hlt : i + m < j
  · rw [if_pos (by simp only [decide_eq_true_eq]; omega)]
    have hlt' : i + m < l.length := by omega
    have hq : (tagsOf l)[((i + m : Nat) : Int).toNat]? = some (.tag (l.getD (i + m) ((0, "") : Pr)).1 (l.getD (i + m) ((0, "") : Pr)).2) := by
      rw [Int.toNat_natCast]; show (l.map _)[i + m]? = _; rw [List.getElem?_map, getD_get (l := l) (d := ((0, "") : Pr)) hlt']; rfl
    refine Exs_cons <| Ex_If <| Te_Cmp <| Ev_Attr <| Ev_Sub <| Ev_Name h1 <| Ev_Name h4 <| O2_item x.ok x.kf.T (.tags ha) (by omega) hq (by omega) <| O1_code P0 x.hK x.ok x.kf (j := 1) room hh <| Ev_Name h2 <| O2_eqI ⟨_, rfl, ?_⟩
    cases hc : ((l.getD (i + m) ((0, "") : Pr)).1 == code) with
    | true =>
      rw [if_pos rfl]
      exact Exs_cons <| Ex_Return <| Ev_Name h4 <| Up.now ⟨i + m, firstAt_some hlt h5 hc, rfl, rfl⟩
    | false =>
      rw [if_neg Bool.false_ne_true]
      refine Exs_nil <| Exs_cons <| Ex_AugAdd (i := ((i + m : Nat) : Int)) (j := 1) rfl h4 <| Ev_int ⟨rfl, Exs_nil ⟨j - (i + (m + 1)), by omega, UpV.now ⟨m + 1, by omega, rfl, lk_ne h1 (by decide), lk_ne h2 (by decide), lk_ne h3 (by decide), lk_self.trans (by congr 2), rfl, fun k hk => ?_⟩⟩⟩
      rcases Nat.lt_or_ge k m with h | h
      · exact h5 k h
      · have : k = m := by omega
        rw [this]; exact hc
  · rw [if_neg (by simp only [decide_eq_true_eq]; omega)]
    have hmj : m = j - i := by omega
    subst hmj
    exact ExsX_cons <| ExX_Raise x hh (name_ev h2) ⟨_, .refl _, firstAt_none h5, rfl⟩


theorem fnx_tag_index0 (x : Bx C P0) {code : Int} (ha : σ a = some ⟨true, tagsOf l⟩) (hl : l.length ≤ 1000) : FnX C 4 252 [.obj a, .int code] σ (fun r σ' => ∃ k, firstAt l code 0 l.length = some k ∧ r = .int k ∧ σ' = σ) (fun σ' => firstAt l code 0 l.length = none ∧ σ' = σ) := by
  refine FnX_at x.ok x.hK ⟨⟨_, rfl, rfl⟩, rfl, rfl, rfl, rfl, rfl, rfl, _, _, _, _, rfl, rfl, rfl, rfl⟩ rfl rfl [.int 0, .none] [.int 0 _, .none] (fun _ => .cons (.int _ _) (.cons .none .nil)) ["self", "code", "start", "end"] rfl (fun s vs X h => by obtain ⟨v, u, rfl⟩ := len2 h; exact binds_K X rfl rfl rfl rfl rfl) rfl (by decide) rfl (by decide) ⟨"self", by simp, rfl⟩ fun A L fs q room hh => ?_
  dsimp only
  have hlen : (tagsOf l).length = l.length := by simp [tagsOf]
  refine ExsX_cons <| Sx.toX <| Ex_If <| Te_Cmp <| Ev_Name rfl <| Ev_none <| O2_isNone rfl ⟨_, rfl, ?_⟩
  rw [if_pos (show isN .none = true from rfl)]
  refine Exs_cons <| Ex_Assign (.inl rfl) <| Ev_CallB x.ok x.kf.nlen rfl <| Sp_cons <| Ev_Name rfl <| Sp_nil <| On_len x.ok x.kf.T (by nofun) (.tags ha) (by omega) ?_
  rw [hlen]
  refine Exs_nil ?_
  refine ExsX_cons <| Sx.toX <| Ex_Assign (.inl rfl) <| Ev_Name rfl ?_
  have hi : 0 ≤ l.length := Nat.zero_le _
  generalize hj' : l.length = j at hi
  have hj : j ≤ l.length := by omega

  refine ExsX_cons (Sx.toX (Ex_While hh (fun n vars σ' => ∃ m, (0 : Nat) + m ≤ j ∧ n = j - ((0 : Nat) + m) ∧ lk vars "self" = some (.obj a) ∧ lk vars "code" = some (.int code) ∧ lk vars "end" = some (.int j) ∧ lk vars "index" = some (.int (((0 : Nat) + m : Nat) : Int)) ∧ σ' = σ ∧ ∀ k, k < m → ((l.getD ((0 : Nat) + k) ((0, "") : Pr)).1 == code) = false) (n₀ := j - (0 : Nat)) ⟨0, by omega, rfl, lk_ne (lk_ne rfl (by decide)) (by decide), lk_ne (lk_ne rfl (by decide)) (by decide), lk_ne lk_self (by decide), lk_self.trans rfl, rfl, fun k hk => absurd hk (Nat.not_lt_zero _)⟩ ?_))
  rintro n vars σ' ⟨m, hm, rfl, h1, h2, h3, h4, rfl, h5⟩
  refine Te_lt (i := (((0 : Nat) + m : Nat) : Int)) (j := j) (Ev_Name h4 ⟨rfl, Ev_Name h3 ⟨rfl, ?_⟩⟩)
  by_cases hlt : (0 : Nat) + m < j
  · rw [if_pos (by simp only [decide_eq_true_eq]; omega)]
    have hlt' : (0 : Nat) + m < l.length := by omega
    have hq : (tagsOf l)[(((0 : Nat) + m : Nat) : Int).toNat]? = some (.tag (l.getD ((0 : Nat) + m) ((0, "") : Pr)).1 (l.getD ((0 : Nat) + m) ((0, "") : Pr)).2) := by
      rw [Int.toNat_natCast]; show (l.map _)[(0 : Nat) + m]? = _; rw [List.getElem?_map, getD_get (l := l) (d := ((0, "") : Pr)) hlt']; rfl
    refine Exs_cons <| Ex_If <| Te_Cmp <| Ev_Attr <| Ev_Sub <| Ev_Name h1 <| Ev_Name h4 <| O2_item x.ok x.kf.T (.tags ha) (by omega) hq (by omega) <| O1_code P0 x.hK x.ok x.kf (j := 1) room hh <| Ev_Name h2 <| O2_eqI ⟨_, rfl, ?_⟩
    cases hc : ((l.getD ((0 : Nat) + m) ((0, "") : Pr)).1 == code) with
    | true =>
      rw [if_pos rfl]
      exact Exs_cons <| Ex_Return <| Ev_Name h4 <| Up.now ⟨(0 : Nat) + m, firstAt_some hlt h5 hc, rfl, rfl⟩
    | false =>
      rw [if_neg Bool.false_ne_true]
      refine Exs_nil <| Exs_cons <| Ex_AugAdd (i := (((0 : Nat) + m : Nat) : Int)) (j := 1) rfl h4 <| Ev_int ⟨rfl, Exs_nil ⟨j - ((0 : Nat) + (m + 1)), by omega, UpV.now ⟨m + 1, by omega, rfl, lk_ne h1 (by decide), lk_ne h2 (by decide), lk_ne h3 (by decide), lk_self.trans (by congr 2), rfl, fun k hk => ?_⟩⟩⟩
      rcases Nat.lt_or_ge k m with h | h
      · exact h5 k h
      · have : k = m := by omega
        rw [this]; exact hc
  · rw [if_neg (by simp only [decide_eq_true_eq]; omega)]
    have hmj : m = j - 0 := by omega
    subst hmj
    exact ExsX_cons <| ExX_Raise x hh (name_ev h2) ⟨_, .refl _, firstAt_none h5, rfl⟩

end
end Mine
end

section
open PySem PySem.W PyProof.Rows PySem.Calls PySem.SeqAt
set_option Elab.async false
set_option maxRecDepth 100000
set_option linter.unusedVariables false
namespace Mine
section
variable {C : Cx} {P0 : Params} {A : Around} {F : Fm} {σ : Store} {s s' : Shared} {P : AV → Store → Prop} {X : Store → Prop}

/-- a method's call that may raise; the arguments do not -/
theorem TvX_Meth (ok : C.Ok) {j : Nat} (room : Room A j) (hh : A.handled = none) {o : Expr} {name : Str} {apos pos : Pos} {es : List Expr} {pl : Sem Bool}
    (h : Ev C A F σ o fun a σ₁ => ∃ f fas, MethTo C A F σ₁ a name (.ref f) fas ∧ KeepOk C (.ref f) ∧ Sp C A F σ₁ es fun as σ₂ => ∃ k, k ≤ j ∧ FnX C k f (fas ++ as) σ₂ P X) (hn : noStar es = true := by rfl)
    (he : eval (.Call (.Attribute o name apos) es [] pos) F.env = (do
      let ov ← eval o F.env
      standAt apos.atName
      let (f, first) ← holding [ov] (getMethod ov name pl)
      callWith pos f first (backTo pos (starEach es F.env)) (backToKw pos (keywordEach [] F.env))) := by rfl) :
    TvX C A F σ (eval (.Call (.Attribute o name apos) es [] pos) F.env) P X := fun s st Q E hQ hE =>
  methodCall_KW (wpAny_noE (h s st _ fun a v σ₁ s₁ h₁ st₁ r₁ e₁ => by
    obtain ⟨f, fas, hm, hk, hsp⟩ := h₁
    refine wpAny_noE (hm pl s₁ v st₁ r₁ _ fun first rf => ?_)
    have fin : wpAny C.M A (spliced (backTo pos (starEach es F.env))) (fun vs s₂ => C.K.In s₂.heap ∧ wpAny C.M A (call (.ref f) (first ++ vs)) Q E s₂) E s₁ :=
      wpAny_noE (hsp s₁ st₁ pos _ fun as vs σ₂ s₂ h₂ st₂ r₂ e₂ => by
        obtain ⟨k, hkj, hfn⟩ := h₂
        refine ⟨st₂.K ok, wpAny_call (hfn A F s₂ (first ++ vs) _ (room.less hkj) hh st₂ ((rf.step e₂ (.nil _)).append r₂) (fun a v σ' s' hp st' r' e' => hQ a v σ' s' hp st' r' ((e₁.trans e₂).trans e')) fun e σ' s' hx y => hE e σ' s' hx (y.after (e₁.trans e₂)))⟩)
    have plain := starEach_plain (env := F.env) (pos := pos) hn
    cases es with
    | nil =>
      refine callWith_of (P := fun h => C.K.In h) rfl hk ?_
      unfold evalArgs
      show wpAny C.M A (spliced [] >>= _) _ E s₁
      have fin' : wpAny C.M A (spliced []) (fun vs s₂ => C.K.In s₂.heap ∧ wpAny C.M A (call (.ref f) (first ++ vs)) Q E s₂) E s₁ := fin
      refine wpAny_bind (wpAny_mono fin' (fun vs s₂ h₁ => wpAny_bind (wpAny_pure ?_)) fun _ _ x => x)
      refine wpAny_holding ?_
      exact wpAny_bind (wpAny_pure (wpAny_bind (wpAny_pure (wpAny_pure h₁))))
    | cons e r =>
      have h1 := (starEach_cons (env := F.env) hn).1
      rw [h1] at fin plain ⊢
      refine callWith_of (P := fun h => C.K.In h) (by rw [plain]; rfl) hk (evalArgs_plain fin))) he
end

section
variable {C : Cx} {P0 : Params} {σ : Store} {a : Addr} {l : List Pr}
/-- update -/
theorem fnx_update (x : Bx C P0) {q : Pr} (ha : σ a = some ⟨true, tagsOf l⟩) (hl : l.length ≤ 1000) : FnX C 5 259 [.obj a, .tag q.1 q.2] σ (fun r σ' => ∃ k, firstAt l q.1 0 l.length = some k ∧ r = .none ∧ σ' = upd σ a ⟨true, tagsOf (l.set k q)⟩) (fun σ' => firstAt l q.1 0 l.length = none ∧ σ' = σ) := by
  refine FnX_at x.ok x.hK ⟨⟨_, rfl, rfl⟩, rfl, rfl, rfl, rfl, rfl, rfl, _, _, _, _, rfl, rfl, rfl, rfl⟩ rfl rfl [] [] (fun _ => .nil) ["self", "tag"] rfl (fun s vs X h => by obtain ⟨v, u, rfl⟩ := len2 h; exact BindsTo.of_eq rfl) rfl (by decide) rfl (by decide) ⟨"self", by simp, rfl⟩ fun A L fs qq room hh => ?_
  dsimp only
  refine ExsX_cons <| ExX_Assign rfl <| TvX_Meth (j := 4) x.ok room hh <| Ev_Name rfl ⟨_, _, MethTo_obj x.ok x.kf.pT ha x.kf.mtag_index x.kf.tmtag_index, KeepOk.ref x.kf.kmtag_index, Sp_cons <| Ev_Attr <| Ev_Name rfl <| O1_code P0 x.hK x.ok x.kf (j := 2) room hh <| Sp_nil ⟨4, Nat.le_refl _, (fnx_tag_index0 x ha hl).mono (fun r σ' ⟨k, h1, h2, h3⟩ => ?_) fun σ' ⟨h1, h2⟩ => ⟨_, .refl _, h1, h2⟩⟩⟩
  subst h2; subst h3
  have hk : k < l.length := by
    unfold firstAt at h1
    have := List.mem_of_find?_eq_some h1
    have := (List.mem_range'_1.mp this).2
    omega
  refine Sx.toX <| Exs_cons <| Ex_SetItem x.ok x.kf.T <| Ev_Name rfl <| Ev_Name rfl <| Ev_Name lk_self ⟨a, true, _, k, rfl, rfl, ha, by omega, by rw [tagsOf_len]; omega, by rw [tagsOf_len]; omega, Exs_nil (Up.now ⟨k, h1, rfl, ?_⟩)⟩
  rw [Int.toNat_natCast]
  congr 2
  simp [tagsOf, List.map_set]
end
end Mine
end

section
open PySem PySem.W PyProof.Rows PySem.Calls PySem.SeqAt
set_option Elab.async false
set_option maxRecDepth 100000
set_option linter.unusedVariables false
namespace Mine
section
variable {C : Cx} {P0 : Params} {A A' : Around} {F : Fm} {σ σ' : Store} {s s' : Shared}

theorem Flies.on {FR : List Addr} {sr : Shared} {e : Addr} (x : Flies C A F σ FR sr e s') {h' : Heap} (hf : ∀ B cls a, Heap.FlyingW B F.fs e cls a s'.heap → Heap.FlyingW B F.fs e cls a h') (hu : s'.heap.UpToSlots h') (hz : s'.heap.objs.size ≤ h'.objs.size) : Flies C A F σ FR sr e { s' with heap := h' } := by
  obtain ⟨B, t, hB, hfl, ht⟩ := x.fly
  exact { st := x.st, sub := x.sub, fB := x.fB, fd := x.fd, fly := ⟨B, t, hB, hf _ _ _ hfl, ht⟩, up := x.up.trans hu, sz := Nat.le_trans x.sz hz, gens := x.gens, os := x.os }

theorem St.mark (x : St C A F σ s) {h : Option Value} : St C (A.mark h) F σ s := { x with stack := x.stack }
theorem St.unmark {h : Option Value} (x : St C (A.mark h) F σ s) : St C A F σ s := { x with stack := x.stack }
theorem Room.mark {k : Nat} {h : Option Value} (r : Room A k) : Room (A.mark h) k := ⟨r.depth, r.units⟩

/-- the frame looks at an exception from a call, and lets it land -/
theorem FlyX.land {S : List Addr} {e : Addr} {fs : List Env} (y : FlyX C A F S σ s σ' e s') (hA : A.frames = some F.fs) (hfs : F.fs = F.env :: fs) (hf : F.env.frame = some F.env.locals) {Q : Unit → Shared → Prop} {E : Value → Shared → Prop}
    (hQ : ∀ s'', FlyX C A F S σ s σ' e s'' → Q () s'') : wpAny C.M A (noteFrame (.ref e) F.env) (fun _ s₂ => wpAny C.M A (setFlight (.ref e) none) Q E s₂) E s' := by
  obtain ⟨FR, sr, fl, stp, hF⟩ := y
  obtain ⟨B, t, hB, hfl, ht⟩ := fl.fly
  rw [hfs] at hfl
  refine wpAny_sz (wpAny_looks_onW (by rw [hA, hfs]) hf hfl fun h' x1 x2 hsz => ?_)
  refine wpAny_sz (wpAny_landsW x1 fun h'' x3 x4 hsz2 => hQ _ ⟨FR, sr, ?_, stp, hF⟩)
  exact { st := fl.st, sub := fl.sub, fB := fl.fB, fd := fl.fd, fly := ⟨B, t, hB, by rw [hfs]; exact x3, ht⟩, up := (fl.up.trans x2).trans x4, sz := Nat.le_trans fl.sz (Nat.le_trans hsz hsz2), gens := fl.gens, os := fl.os }
theorem FlyX.again {S : List Addr} {e : Addr} (y : FlyX C A F S σ s σ' e s') {Q : Unit → Shared → Prop} {E : Value → Shared → Prop}
    (hQ : ∀ s'', FlyX C A F S σ s σ' e s'' → Q () s'') : wpAny C.M A' (setFlight (.ref e) none) Q E s' := by
  obtain ⟨FR, sr, fl, stp, hF⟩ := y
  obtain ⟨B, t, hB, hfl, ht⟩ := fl.fly
  refine wpAny_sz (lands_againW hfl fun h' x1 x2 hsz => hQ _ ⟨FR, sr, ?_, stp, hF⟩)
  exact { st := fl.st, sub := fl.sub, fB := fl.fB, fd := fl.fd, fly := ⟨B, t, hB, x1, ht⟩, up := fl.up.trans x2, sz := Nat.le_trans fl.sz hsz, gens := fl.gens, os := fl.os }
theorem FlyX.back {S : List Addr} {e : Addr} (y : FlyX C A F S σ s σ' e s') : St C A F σ' s' := let ⟨_, _, f, _, _⟩ := y; f.back
theorem FlyX.obj {S : List Addr} {e : Addr} (y : FlyX C A F S σ s σ' e s') : ∃ oe, s'.heap.get? e = some oe ∧ oe.cls = .ref 44 := by
  obtain ⟨FR, sr, fl, stp, hF⟩ := y
  obtain ⟨B, t, hB, hfl, ht⟩ := fl.fly
  exact hfl.there

/-- try: body except DXFValueError: suite, where only a call of the body raises -/
theorem Ex_Try (x : Bx C P0) {P : FP} {X : List (Str × AV) → Store → Prop} {body : List Stmt} {b₀ : Stmt} {suite : List Stmt} {np hp pos : Pos} {fs : List Env} (hfs : F.fs = F.env :: fs) (hf : F.env.frame = some F.env.locals)
    (h : ExsX false C A F σ body P X) (hs : ∀ (e : Addr) vars σ₁, X vars σ₁ → Exs C (A.mark (some (.ref e))) (F.with vars) σ₁ (b₀ :: suite) P) (hk : F.env.kindOf "DXFValueError" = some .globalImplicit := by rfl) :
    Ex C A F σ (.Try body [.ExceptHandler (some (.Name "DXFValueError" np)) none (b₀ :: suite) hp] [] [] pos) P := fun s st Q hQ => by
  refine wpAny_Try_except (h s st _ _ (fun fl f vars σ₁ s₁ h₁ st₁ r₁ e₁ => ?_) fun e vars σ₁ s₁ hx y => ?_)
  · cases r₁ with
    | next => exact wpAny_execs_nil (hQ _ _ _ _ _ h₁ st₁ .next e₁)
    | brk => exact hQ _ _ _ _ _ h₁ st₁ .brk e₁
    | cont => exact hQ _ _ _ _ _ h₁ st₁ .cont e₁
    | ret r => exact hQ _ _ _ _ _ h₁ st₁ (.ret r) e₁
  · rcases y with ⟨hm, _⟩ | y
    · cases hm
    refine FlyX.land (F := F.with vars) y st.stack hfs hf fun s₂ y₂ => ?_
    refine wpAny_handleBy_cons (codeAny_handlers_test ?_) (by intro q; cases q)
    have st₂ := y₂.back
    have nm44 := Calls.Name_function_global (M := C.M) (A := A.mark (some (.ref e))) (E := NoE) (Q := fun f s₁ => f = .ref 44 ∧ s₁ = s₂) st₂.kind hk (Calls.loadGlobal_global (by rw [st₂.gl]; exact st₂.g x.ok) (x.ok.val x.kf.vDXFValueError) ⟨rfl, rfl⟩) (pos := np) (by decide)
    refine wpAny_noE (wpAny_mono nm44 (fun f s₃ h₃ => ?_) fun _ _ e => e)
    obtain ⟨rfl, rfl⟩ := h₃
    obtain ⟨bm, N, nm, q, bs, hdct, sn, sub, ab, col, dd, k0, k1, k2, k3, k5, mN, hC, hN, hni, T⟩ := (exc44 x st₂).o
    obtain ⟨oe, hoe, hcls⟩ := y₂.obj
    refine wpAny_excMatches_sub_self hC hoe hcls (T.hasType PySem.F.excBase_Exception.hasBase) ?_
    refine codeAny_handlers_suite ?_
    refine FlyX.again y₂ fun s₄ y₄ => ?_
    have st₄ := y₄.back
    refine wpAny_noE (hs e vars σ₁ hx s₄ st₄.mark _ fun fl f vars₅ σ₅ s₅ h₅ st₅ r₅ e₅ => ?_)
    exact hQ fl f vars₅ σ₅ s₅ h₅ st₅.unmark r₅ (y₄.step.trans e₅)
end
end Mine
end

section
open PySem PySem.W PyProof.Rows PySem.Calls PySem.SeqAt
set_option Elab.async false
set_option maxRecDepth 100000
set_option linter.unusedVariables false
namespace Mine
section
variable {C : Cx} {P0 : Params} {σ : Store} {a : Addr} {l : List Pr}
def setFirst (l : List Pr) (q : Pr) : List Pr := match firstAt l q.1 0 l.length with
  | some k => l.set k q
  | none => l ++ [q]
/-- set_first -/
theorem fn_set_first (x : Bx C P0) {q : Pr} (ha : σ a = some ⟨true, tagsOf l⟩) (hl : l.length ≤ 1000) : Fn C 6 266 [.obj a, .tag q.1 q.2] σ (fun r σ' => r = .none ∧ σ' = upd σ a ⟨true, tagsOf (setFirst l q)⟩) := by
  refine Fn_at x.ok (FnOk.cast x.hK ⟨⟨_, rfl, rfl⟩, rfl, rfl, rfl, rfl, rfl, rfl, _, _, _, _, rfl, rfl, rfl, rfl⟩) rfl rfl ["self", "tag"] rfl (fun vs h => by obtain ⟨v, u, rfl⟩ := len2 h; rfl) rfl (by decide) rfl (by decide) ⟨"self", by simp, rfl⟩ fun A L fs qq room hh => ?_
  dsimp only
  refine Exs_cons <| Ex_Try x (X := fun vars σ₁ => vars = ([("self", .obj a), ("tag", .tag q.1 q.2)] : Vs) ∧ firstAt l q.1 0 l.length = none ∧ σ₁ = σ) rfl rfl ?_ ?_
  · refine ExsX_cons <| ExX_Expr <| TvX_Meth (j := 5) x.ok room hh <| Ev_Name rfl ⟨_, _, MethTo_obj x.ok x.kf.pT ha x.kf.mupdate x.kf.tmupdate, KeepOk.ref x.kf.kmupdate, Sp_cons <| Ev_Name rfl <| Sp_nil ⟨5, Nat.le_refl _, (fnx_update x ha hl).mono (fun r σ' ⟨k, h1, h2, h3⟩ => ?_) fun σ' ⟨h1, h2⟩ => ⟨rfl, h1, h2⟩⟩⟩
    subst h3
    exact ExsX_nil <| Exs_nil <| Up.now ⟨rfl, by unfold setFirst; rw [h1]⟩
  · rintro e vars σ₁ ⟨rfl, h1, rfl⟩
    refine Exs_cons <| Ex_Expr <| Ev_Meth x.ok <| Ev_Name rfl ⟨_, _, MethTo_tagsAppend x.ok x.kf.pT x.kf.T ha x.kf.app, KeepOk.builtin _, Sp_cons <| Ev_Name rfl <| Sp_nil <| On_append x.ok x.kf.T ha (by rw [tagsOf_len]; omega) <| Exs_nil <| Exs_nil <| Up.now ⟨rfl, ?_⟩⟩
    unfold setFirst; rw [h1]; simp [tagsOf]
end
end Mine
end

section
open PySem PySem.W PyProof.Rows PySem.Calls PySem.SeqAt
set_option Elab.async false
set_option maxRecDepth 100000
set_option linter.unusedVariables false
namespace Mine
section
variable {prog : Program} {w : World} {A : Around} {E : Value → Shared → Prop} {s : Shared} {K : Frag}

/-- a list iterator over any sequence, drawn from -/
theorem Draws.seqO (hh : A.handled = none) (it l : Addr) (hne : l ≠ it) (ol : Obj) (items : Array Value) (n : Nat) (hd : ol.data = .seq items n) :
    Draws prog w A it [it, l] items.size (fun i v => items[i]? = some v) (fun i h => h.IsListIter it l i ∧ h.get? l = some ol) where
  live := fun _ _ st => let ⟨o, ho, _⟩ := st.1; ⟨o, ho⟩
  frame := fun _ _ _ st hk => ⟨st.1.at fun o e => hk it (by simp) o e, hk l (by simp) _ st.2⟩
  item := fun i s Q E hi st hQ => by
    obtain ⟨o, ho, hc, hdd⟩ := id st.1
    have hx : items[i]? = some items[i] := by simp [hi]
    unfold Builtin.SmallTypes.nextOf
    refine wpAny_bind (wpAny_callSpecial?_slot (name := Str.ofString "__next__") st.1.typeIs slot_listiter_next (wpAny_call_entry slot_listiter_next st.1.typeIs entry_listiter_next ?_ (args_listiter_next _)))
    show wpAny _ _ (field (.ref it) 0 >>= _) _ _ s
    refine wpAny_bind (wpAny_field ho hdd (x := .ref l) rfl ?_)
    show wpAny _ _ (if (Value.ref l == Value.none) = true then _ else _) _ _ s
    rw [if_neg (show ¬ ((Value.ref l == Value.none) = true) from Bool.false_ne_true)]
    show wpAny _ _ (field (.ref it) 1 >>= _) _ _ s
    refine wpAny_bind (wpAny_field ho hdd (x := .int i 0) rfl ?_)
    show wpAny _ _ (seqItems? (.ref l) >>= _) _ _ s
    refine wpAny_bind (wpAny_seqItems st.2 hd ?_)
    simp only [Int.toNat_natCast, hx]
    refine wpAny_bind (wpAny_setField ho hdd (by simp) (wpAny_pure ⟨_, rfl, wpAny_pure (hQ _ _ s.toks hx ⟨?_, ?_⟩ (Heap.SameBut.update ..))⟩))
    · exact ⟨_, Heap.get?_update_self _ ho (Obj.isFreed_of_fields (Obj.data_mapFields hdd _)), (Obj.cls_mapFields ..).trans hc, by
        rw [Obj.data_mapFields hdd]; simp [rawInt]⟩
    · exact (Heap.get?_update_other _ _ (Ne.symm hne)).trans st.2
  done := fun s Q E st hE => by
    obtain ⟨o, ho, hc, hdd⟩ := id st.1
    have hx : items[items.size]? = none := by simp
    unfold Builtin.SmallTypes.nextOf
    refine wpAny_bind (wpAny_callSpecial?_slot (name := Str.ofString "__next__") st.1.typeIs slot_listiter_next (wpAny_call_entry slot_listiter_next st.1.typeIs entry_listiter_next ?_ (args_listiter_next _)))
    show wpAny _ _ (field (.ref it) 0 >>= _) _ _ s
    refine wpAny_bind (wpAny_field ho hdd (x := .ref l) rfl ?_)
    show wpAny _ _ (if (Value.ref l == Value.none) = true then _ else _) _ _ s
    rw [if_neg (show ¬ ((Value.ref l == Value.none) = true) from Bool.false_ne_true)]
    show wpAny _ _ (field (.ref it) 1 >>= _) _ _ s
    refine wpAny_bind (wpAny_field ho hdd (x := .int items.size 0) rfl ?_)
    show wpAny _ _ (seqItems? (.ref l) >>= _) _ _ s
    refine wpAny_bind (wpAny_seqItems st.2 hd ?_)
    simp only [Int.toNat_natCast, hx]
    refine wpAny_bind (wpAny_rule (wpAny_bind (wpAny_setField ho hdd (by simp) ?_)))
    show wpAny _ _ (newExc (.type "StopIteration") [] >>= _) _ _ _
    refine wpAny_bind ?_
    simp only [newExc, newTuple]
    refine wpAny_bind (wpAny_newObj_type ?_ (by size_fits))
    refine wpAny_bind (m := firstArgMember _ _) (wpAny_of_eq (a := Value.none) (by first | rfl | (simp only [firstArgMember]; rfl)) ?_)
    refine wpAny_newObj_type ?_ (by size_fits)
    simp only [raiseNew]
    refine wpAny_bind (wpAny_handled ?_)
    rw [show A.in1.handled = none from hh]
    refine wpAny_bind (wpAny_pure (wpAny_throw ?_))
    exact hE _ _ (((Heap.SameBut.update ..).extBut.push _).push _) ⟨_, Heap.get?_push_size _ rfl, rfl⟩

set_option maxHeartbeats 1000000 in
theorem meets_enum_tags (T : TF K) (l : Addr) (items : Array Value) :
    Meets (Builtin.«enumerate.__new__» ⟨[.type "enumerate", .ref l], []⟩) (fun _ R s => (K.In s.heap ∧ TagsAt s.heap l items) ∧
      R (.ok (.ret (.ref (s.heap.push { cls := .type "list_iterator", data := .fields #[.ref l, .int 0 0] }).objs.size)))
        { s with heap := (s.heap.push { cls := .type "list_iterator", data := .fields #[.ref l, .int 0 0] }).push { cls := .type "enumerate", data := .fields #[.none, .bool false, .ref s.heap.objs.size, rawInt 0, .none, .none] } }) :=
  .of_wp fun prog w A R s h => by
    obtain ⟨hp, g, d, tk, os⟩ := s; obtain ⟨⟨X, tg⟩, h⟩ := h
    have hsub := sub_enumerate
    have hI : ∀ {B : Around} {Q : Value → Shared → Prop} {E : Value → Shared → Prop}, Q (.ref hp.objs.size) ⟨hp.push { cls := .type "list_iterator", data := .fields #[.ref l, .int 0 0] }, g, d, tk, os⟩ → wpAny (model prog w) B (pyIter (.ref l)) Q E ⟨hp, g, d, tk, os⟩ := fun q => tg_pyIter (s := ⟨hp, g, d, tk, os⟩) X T tg q
    wp_walk
    refine wpAny_stack_any fun st => wpAny_pure ?_
    split
    · rename_i c _ _ _ _ _
      cases (c == Value.type "enumerate")
      · wp_walk using hI
        exact ⟨_, rfl, h⟩
      · wp_walk using hI
        exact ⟨_, rfl, h⟩
    · wp_walk using hI
      exact ⟨_, rfl, h⟩

theorem call_enum_tags {l : Addr} {items : Array Value} {Q : Value → Shared → Prop} (X : K.In s.heap) (T : TF K) (tg : TagsAt s.heap l items)
    (h : ∀ h', IsEnum h' (s.heap.objs.size + 1) s.heap.objs.size 0 .none → h'.IsListIter s.heap.objs.size l 0 → h'.objs.size = s.heap.objs.size + 2 →
      (∀ b o, s.heap.get? b = some o → h'.get? b = some o) → Q (.ref (s.heap.objs.size + 1)) { s with heap := h' }) :
    wpAny (model prog w) A (call (.type "enumerate") [.ref l]) Q E s := by
  refine callType_new F.called_enumerate (by decide) (F.typeCall_enumerate_1 _) (F.newCall_enumerate_1 _) (fun obj => F.args_object_init_2 obj _) F.entry_enumerate_new (meets_enum_tags T l items) ⟨⟨X, tg⟩, ?_⟩
  have hz : (s.heap.push { cls := .type "list_iterator", data := .fields #[.ref l, .int 0 0] }).objs.size = s.heap.objs.size + 1 := Heap.size_push ..
  show _ ∧ _
  rw [hz]
  have he : IsEnum ((s.heap.push { cls := .type "list_iterator", data := .fields #[.ref l, .int 0 0] }).push { cls := .type "enumerate", data := .fields #[.none, .bool false, .ref s.heap.objs.size, rawInt 0, .none, .none] }) (s.heap.objs.size + 1) s.heap.objs.size 0 .none := by
    have := Heap.get?_push_size (s.heap.push { cls := .type "list_iterator", data := .fields #[.ref l, .int 0 0] }) (o := { cls := .type "enumerate", data := .fields #[.none, .bool false, .ref s.heap.objs.size, rawInt 0, .none, .none] }) rfl
    rw [hz] at this; exact this
  exact ⟨⟨_, he, rfl⟩, h _ he ⟨_, Heap.get?_push_of_some _ (Heap.get?_push_size _ rfl), rfl, rfl⟩ (by rw [Heap.size_push, hz]) fun b o x => Heap.get?_push_of_some _ (Heap.get?_push_of_some _ x)⟩
end
end Mine
end

section
open PySem PySem.W PyProof.Rows PySem.Calls PySem.SeqAt
set_option Elab.async false
set_option maxRecDepth 100000
set_option linter.unusedVariables false
namespace Mine
section
variable {C : Cx} {P0 : Params} {A : Around} {F : Fm} {σ σ' : Store} {s s' : Shared}

theorem ItObj.keep {B : Heap} {Fs S : List Addr} {b : Addr} {o : Obj} {vs : Array Value} (y : Step B Fs S σ σ' s s') (ho : s.heap.get? b = some o) (hd : o.data = .fields vs) (hc : o.cls ≠ .none) (hσ : σ b = none) (hb : b ∉ S) : s'.heap.get? b = some o :=
  y.k b o ho hσ hb (fun ps q => hc (by rw [q]; rfl)) (.inr fun es n q => by rw [hd] at q; cases q)

theorem sokS {S : List Addr} {h : Heap} (hit : ∀ b ∈ S, ItObj h b) : SOk h S := fun b hb => by
  obtain ⟨o, ho, ⟨vs, hd⟩, hc, _⟩ := hit b hb
  exact ⟨o, ho, .inr (.inr ⟨⟨vs, hd⟩, hc⟩)⟩
/-- iterators move on; new objects may have come -/
theorem St.touchS (x : St C A F σ s) {S : List Addr} (hit : ∀ b ∈ S, ItObj s.heap b) (hB : ∀ b ∈ S, C.B.get? b = none) {h' : Heap} {tk : Nat} (hk : ∀ b o, b ∉ S → s.heap.get? b = some o → h'.get? b = some o) (hz : s.heap.objs.size ≤ h'.objs.size) :
    St C A F σ { s with heap := h', toks := tk } ∧ Step C.B F.frs S σ σ s { s with heap := h', toks := tk } := by
  have st : Step C.B F.frs S σ σ s { s with heap := h', toks := tk } := {
    k := fun b o e _ hb _ _ => hk b o hb e
    f := fun b o es n e _ hb _ => ⟨o.slots, hk b o hb e⟩
    t := fun b ps e _ hb => ⟨#[], (by rw [Array.append_empty]; exact hk b _ hb e), .inl rfl, by simp⟩
    dom := fun _ _ h => h
    sz := hz
    gens := Nat.le_refl _ }
  refine ⟨x.move (fun b o' e hf => hk b o' (fun q => ?_) e) (x.bk.step st (fun _ _ e => x.sB e) (fun b o e q => ?_) (fun _ _ e => x.frB e)) x.bare rfl fun a v r => r.step st (sokS hit), st⟩
  · obtain ⟨o, ho, ⟨vs, hd⟩, _⟩ := hit b q
    rw [ho] at e; cases e; exact hf _ hd
  · rw [hB b q] at e; cases e

theorem call_raw {f : Value} {e : Expr} {r : List Expr} {pos : Pos} (hn : noStar (e :: r) = true) (hk : KeepOk C f) {Q : Value → Shared → Prop}
    (fin : wpAny C.M A (spliced (backTo pos (starEach (e :: r) F.env))) (fun vs s₁ => C.K.In s₁.heap ∧ wpAny C.M A (call f vs) Q NoE s₁) NoE s) : wpAny C.M A (callWith pos f [] (backTo pos (starEach (e :: r) F.env)) []) Q NoE s := by
  have plain := starEach_plain (env := F.env) (pos := pos) hn
  have h1 := (starEach_cons (env := F.env) hn).1
  rw [h1] at fin plain ⊢
  exact callWith_of (P := fun h => C.K.In h) (by rw [plain]; rfl) hk (evalArgs_plain fin)

theorem enumIt {h : Heap} {e it : Addr} {i : Int} {old : Value} (x : IsEnum h e it i old) : ItObj h e := ⟨_, x, ⟨_, rfl⟩, (fun e => by injection e with e; exact absurd e (by decide)), fun e => by injection e⟩
theorem enumOutIt {h : Heap} {e it : Addr} {i : Int} {old : Value} {a : Addr} (x : IsEnumOut h e it i old a) : ItObj h e := ⟨_, x, ⟨_, rfl⟩, (fun e => by injection e with e; exact absurd e (by decide)), fun e => by injection e⟩

/-- for i, v in enumerate(a Tags) -/
theorem Ex_ForEnum (ok : C.Ok) (T : TF C.K) (hh : A.handled = none) (hg : nsIn C.K mainGlobals "enumerate" = some none) {P : FP} {xi xv : Str} {pi pv pt np cpos pos : Pos} {x1 : Nat} {e : Expr} {body : List Stmt} {l : Addr} {xs : List AV}
    (hxi : F.env.kindOf xi = some .local) (hxv : F.env.kindOf xv = some .local)
    (h : Ev C A F σ e fun a σ₁ => a = .obj l ∧ σ₁ l = some ⟨true, xs⟩ ∧ ∃ Inv : Nat → List (Str × AV) → Store → Prop, Inv 0 F.vars σ₁ ∧
      (∀ i a vars σ', xs[i]? = some a → Inv i vars σ' → σ' l = some ⟨true, xs⟩ → Exs C A (F.with (putv (putv vars xi (.int i)) xv a)) σ' body fun fl vars₂ σ₃ => match fl with
        | .next | .cont => UpV (fun v0 σ0 => σ0 l = some ⟨true, xs⟩ ∧ Inv (i + 1) v0 σ0) vars₂ σ₃
        | .brk => P .next vars₂ σ₃
        | .ret r => P (.ret r) vars₂ σ₃) ∧
      (∀ vars σ', Inv xs.length vars σ' → P .next vars σ'))
    (hk : F.env.kindOf "enumerate" = some .globalImplicit := by rfl) (hn : noStar [e] = true := by rfl) :
    Ex C A F σ (.For (.Tuple [.Name xi pi, .Name xv pv] x1 pt) (.Call (.Name "enumerate" np) [e] [] cpos) body [] pos) P := fun s st Q hQ => by
  refine wpAny_For (wpAny_Call_ofName ?_) (by intro _; rfl)
  refine Ev_Builtin ok hk (ok.non hg) (v := .type "enumerate") rfl (by decide) (P := fun a σ₁ => a = .val (.type "enumerate") ∧ σ₁ = σ) ⟨rfl, rfl⟩ (by decide) s st _ fun a v σ₀ s₀ h₀ st₀ r₀ e₀ => ?_
  obtain ⟨rfl, rfl⟩ := h₀
  obtain rfl := r₀.val_inv
  refine call_raw hn (.type _) ?_
  refine spliced_more (h s₀ st₀ _ fun a v σ₁ s₁ h₁ st₁ r₁ e₁ => spliced_none ⟨st₁.K ok, ?_⟩) (starEach_cons (env := F.env) hn).1
  obtain ⟨rfl, hl₁, Inv, inv0, turn, fin⟩ := h₁
  obtain rfl := r₁.obj_inv
  obtain ⟨vs₁, n₁, ra₁, q₁⟩ := (st₁.so _ _ hl₁).2
  have q₁ := id q₁
  obtain ⟨da₁, q₁, i₁₁, i₁₂, od₁, k₁, q₁₂, q₁₃⟩ := q₁
  refine call_enum_tags (st₁.K ok) T ⟨da₁, n₁, q₁, od₁, k₁, q₁₂, q₁₃⟩ fun h₂ he₂ hit₂ hz₂ hk₂ => ?_
  obtain ⟨st₂, e₂⟩ := st₁.grow (s' := { s₁ with heap := h₂ }) hk₂ (by show s₁.heap.objs.size ≤ h₂.objs.size; omega) (Nat.le_refl _) st₁.bare rfl
  generalize hit : s₁.heap.objs.size = it at he₂ hit₂ hz₂
  generalize hen : it + 1 = en at he₂
  have hne : en ≠ it := by omega
  have hBi : C.B.get? it = none := st₁.freshB (by omega)
  have hBe : C.B.get? en = none := st₁.freshB (by omega)
  refine wpAny_pyIter_enum (s := { s₁ with heap := h₂ }) he₂ ?_
  have hown : ∀ b ∈ F.own, b ∈ en :: it :: F.own := fun b hb => List.mem_cons_of_mem _ (List.mem_cons_of_mem _ hb)
  have htwo : ∀ b ∈ [en, it], b ∈ en :: it :: F.own := fun b hb => by
    rcases List.mem_cons.mp hb with rfl | hb
    · exact List.mem_cons_self
    · rcases List.mem_cons.mp hb with rfl | hb
      · exact List.mem_cons_of_mem _ List.mem_cons_self
      · cases hb
  have hB2 : ∀ b ∈ [en, it], C.B.get? b = none := fun b hb => by
    rcases List.mem_cons.mp hb with rfl | hb
    · exact hBe
    · rcases List.mem_cons.mp hb with rfl | hb
      · exact hBi
      · cases hb
  have ends : ∀ fl f vars σ' s', P fl vars σ' → St C A (F.with vars) σ' s' → FlowRel σ' s'.heap fl f → Step C.B F.frs (en :: it :: F.own) σ₁ σ' { s₁ with heap := h₂ } s' → Q f s' := fun fl f vars σ' s' hp st' fr e' => by
    refine hQ fl f vars σ' s' hp st' fr (Step.shrink ((((e₀.trans e₁).trans e₂).mono (by simp)) : Step C.B F.frs F.own σ₀ σ₁ s { s₁ with heap := h₂ }) e' (fun b hb => ?_) fun b hb => .inl hb)
    have hs1 : s.heap.objs.size ≤ s₁.heap.objs.size := (e₀.trans e₁).sz
    rcases List.mem_cons.mp hb with rfl | hb
    · exact .inr (by omega)
    · rcases List.mem_cons.mp hb with rfl | hb
      · exact .inr (by omega)
      · exact .inl hb
  refine codeAny_forLoop_any (fun n s' => ∃ (i : Nat) (vars : List (Str × AV)) (σ' : Store) (old : Value), n = xs.length - i ∧ i ≤ xs.length ∧ Inv i vars σ' ∧ σ' l = some ⟨true, xs⟩ ∧ St C A (F.with vars) σ' s' ∧ IsEnum s'.heap en it i old ∧ s'.heap.IsListIter it l i ∧ Step C.B F.frs (en :: it :: F.own) σ₁ σ' { s₁ with heap := h₂ } s') ?_ xs.length
    ⟨0, F.vars, σ₁, .none, rfl, Nat.zero_le _, inv0, hl₁, st₂, he₂, hit₂, .refl ..⟩
  rintro n s' ⟨i, vars, σ', old, rfl, hi, inv, hl', st', he', hit', e'⟩
  obtain ⟨vs, n', ra, q⟩ := (st'.so _ _ hl').2
  have ra : RelAll σ' s'.heap xs vs := ra
  obtain ⟨da, q, i1, i2, od, k, q2, q3⟩ := id q
  have hlen : vs.toArray.size = xs.length := by rw [List.size_toArray]; exact ra.length
  have hitO : ItObj s'.heap it := ItList hit'
  have henO : ItObj s'.heap en := enumIt he'
  have hli : l ≠ it := fun e => by
    have := hitO.notStore st'
    rw [← e, hl'] at this; cases this
  have hle : en ≠ l := fun e => by
    have := henO.notStore st'
    rw [e, hl'] at this; cases this
  have D := Draws.seqO (prog := C.prog) (w := C.w) (A := A.in1) hh it l hli { cls := .ref TagsC, dict := some da, data := .seq vs.toArray n' } vs.toArray n' rfl
  have hit2 : ∀ b ∈ [en, it], ItObj s'.heap b := fun b hb => by
    rcases List.mem_cons.mp hb with rfl | hb
    · exact henO
    · rcases List.mem_cons.mp hb with rfl | hb
      · exact hitO
      · cases hb
  have ne2 : ∀ {b : Addr}, b ∉ [en, it] → b ≠ en ∧ b ≠ it := fun h => by
    simp only [List.mem_cons, List.not_mem_nil, or_false, not_or] at h; exact h
  rcases Nat.lt_or_ge i xs.length with hlt | hge
  · have ha : xs[i]? = some xs[i] := List.getElem?_eq_getElem hlt
    refine wpAny_noE (wpAny_pyNext_enum_itemD D he' ⟨hit', q⟩ (by rw [hlen]; exact hlt) hne (by simp [hne, hle]) fun u h₃ tk hu heo hst₃ ht₃ hz₃ hk₃ => ?_)
    obtain ⟨st₃, e₃⟩ := st'.touchS hit2 hB2 (h' := h₃) (tk := tk + 1) (fun b o hb e => hk₃ b o (ne2 hb).1 (ne2 hb).2 e) (by rw [hz₃]; exact Nat.le_succ _)
    refine wpAny_noE (wpAny_letOwnedTupleGo_enum (s := { s' with heap := h₃, toks := tk + 1 }) heo fun h₄ he₄ hs₄ => ?_)
    have hs₄ : Heap.SameBut en h₃ h₄ := hs₄
    have hit3 : ∀ b ∈ [en], ItObj h₃ b := fun b hb => by
      rcases List.mem_cons.mp hb with rfl | hb
      · exact enumOutIt heo
      · cases hb
    have hB3 : ∀ b ∈ [en], C.B.get? b = none := fun b hb => hB2 b (by rcases List.mem_cons.mp hb with rfl | hb; exact List.mem_cons_self; cases hb)
    obtain ⟨st₄, e₄⟩ := st₃.touchS hit3 hB3 (h' := h₄) (tk := tk + 1) (fun b o hb e => (hs₄.2 b (by simpa using hb)).trans e) (Nat.le_of_eq hs₄.1.symm)
    have hS : s'.heap.objs.size ≠ en := Nat.ne_of_gt (let ⟨o, ho, _⟩ := henO; Heap.lt_size ho)
    have ht₄ : h₄.IsTuple s'.heap.objs.size #[.int i tk, u] := ⟨_, (hs₄.2 _ hS).trans ht₃, rfl, _, rfl⟩
    have hz₄ : h₄.objs.size = s'.heap.objs.size + 1 := hs₄.1.trans hz₃
    refine wpAny_noE (wpAny_assign_Tuple (s := { s' with heap := h₄, toks := tk + 1 }) hh ht₄ rfl rfl fun h₅ hx₅ => ?_)
    have keep₅ : ∀ b o, h₄.get? b = some o → h₅.get? b = some o := fun b o e => hx₅ b o (Nat.ne_of_lt (Heap.lt_size e)) e
    obtain ⟨st₅, e₅⟩ := st₄.grow (s' := { s' with heap := h₅, toks := tk + 1 }) keep₅ (by
      obtain ⟨o, ho, _⟩ := ht₄
      have := Heap.lt_size (keep₅ _ _ ho)
      show h₄.objs.size ≤ h₅.objs.size
      rw [hz₄]; exact this) (Nat.le_refl _) st₄.bare rfl
    have e35 : Step C.B F.frs [en, it] σ' σ' s' { s' with heap := h₅, toks := tk + 1 } := (e₃.trans (Step.mono (S' := [en, it]) e₄ (by simp))).trans (Step.mono (S' := [en, it]) e₅ (by simp))
    obtain ⟨u', hu', ru⟩ := ra.get _ _ ha
    obtain rfl : u' = u := by
      have h1 : vs.toArray[i]? = some u := hu
      rw [List.getElem?_toArray, hu'] at h1
      exact Option.some.inj h1
    have ru5 := ru.step e35 (sokS hit2)
    show wpAny C.M A (assignInOrder [assign (.Name xi pi) F.env, assign (.Name xv pv) F.env] [.int i tk, u']) _ _ _
    refine wpAny_assignInOrder_more (wpAny_assign_Name (st₅.store (.inl hxi) (.int (i : Int) tk) fun s₆ st₆ e₆ => ?_))
    refine wpAny_assignInOrder_more (wpAny_assign_Name (st₆.store (.inl hxv) (ru5.step e₆ st₅.sok) fun s₇ st₇ e₇ => ?_))
    refine wpAny_assignInOrder_none ?_
    refine wpAny_noE (turn i xs[i] vars σ' ha inv hl' s₇ st₇ _ fun fl f vars₂ σ₈ s₈ h₈ st₈ fr₈ e₈ => ?_)
    have e57 : Step C.B F.frs F.own σ' σ₈ { s' with heap := h₅, toks := tk + 1 } s₈ := (Step.trans (Fs := F.frs) (S := F.own) e₆ e₇).trans e₈
    have big : Step C.B F.frs (en :: it :: F.own) σ₁ σ₈ { s₁ with heap := h₂ } s₈ := (e'.trans (Step.mono (S' := en :: it :: F.own) e35 htwo)).trans (e57.mono hown)
    have hen5 : IsEnum h₅ en it ((i : Int) + 1) u' := keep₅ _ _ he₄
    have hit5 : h₅.IsListIter it l (i + 1) := by
      obtain ⟨o, ho, r⟩ := hst₃.1
      exact ⟨o, keep₅ _ _ ((hs₄.2 it (Ne.symm hne)).trans ho), r⟩
    have nEn : en ∉ F.own := ItObj.notOwn (F := F.with vars) (enumIt hen5 : ItObj (Shared.heap { s' with heap := h₅, toks := tk + 1 }) en) st₅
    have nIt : it ∉ F.own := ItObj.notOwn (F := F.with vars) (ItList hit5 : ItObj (Shared.heap { s' with heap := h₅, toks := tk + 1 }) it) st₅
    have hen8 : IsEnum s₈.heap en it ((i : Int) + 1) u' := ItObj.keep e57 hen5 rfl (by nofun) (henO.notStore st') nEn
    have hit8 : s₈.heap.IsListIter it l (i + 1) := by
      obtain ⟨o, ho, hc, hd⟩ := hit5
      exact ⟨o, ItObj.keep e57 ho hd (by rw [hc]; nofun) (hitO.notStore st') nIt, hc, hd⟩
    have again : UpV (fun v0 σ0 => σ0 l = some ⟨true, xs⟩ ∧ Inv (i + 1) v0 σ0) vars₂ σ₈ → ∃ m, m < xs.length - i ∧ ∃ (i : Nat) (vars : List (Str × AV)) (σ' : Store) (old : Value), m = xs.length - i ∧ i ≤ xs.length ∧ Inv i vars σ' ∧ σ' l = some ⟨true, xs⟩ ∧ St C A (F.with vars) σ' s₈ ∧ IsEnum s₈.heap en it i old ∧ s₈.heap.IsListIter it l i ∧ Step C.B F.frs (en :: it :: F.own) σ₁ σ' { s₁ with heap := h₂ } s₈ := fun h₈ => by
      obtain ⟨vars0, σ0, st0, sub, hl0, inv0⟩ := st₈.upV h₈
      exact ⟨xs.length - (i + 1), by omega, i + 1, vars0, σ0, u', rfl, hlt, inv0, hl0, st0, (by push_cast; exact hen8), hit8, big.sub sub⟩
    cases fr₈ with
    | next => exact again h₈
    | cont => exact again h₈
    | brk => exact ends _ _ _ _ _ h₈ st₈ .next big
    | ret r => exact ends _ _ _ _ _ h₈ st₈ (.ret r) big
  · have hi' : i = xs.length := Nat.le_antisymm hi hge
    subst hi'
    refine wpAny_noE (wpAny_sz (wpAny_pyNext_enum_endD D he' (by rw [hlen]; exact ⟨hit', q⟩) fun h₃ hx₃ hz₃ => ?_))
    have hit4 : ∀ b ∈ [it], ItObj s'.heap b := fun b hb => hit2 b (by rcases List.mem_cons.mp hb with rfl | hb; simp; cases hb)
    have hB4 : ∀ b ∈ [it], C.B.get? b = none := fun b hb => hB2 b (by rcases List.mem_cons.mp hb with rfl | hb; simp; cases hb)
    obtain ⟨st₃, e₃⟩ := st'.touchS hit4 hB4 (h' := h₃) (tk := s'.toks) (fun b o hb e => hx₃ b o (by simpa using hb) e) hz₃
    exact wpAny_execs_nil (ends .next .next vars σ' _ (fin _ _ inv) st₃ .next (e'.trans (Step.mono (S' := en :: it :: F.own) e₃ fun b hb => htwo b (by rcases List.mem_cons.mp hb with rfl | hb; simp; cases hb))))
end
end Mine
end

section
open PySem PySem.W PyProof.Rows PySem.Calls PySem.SeqAt
set_option Elab.async false
set_option maxRecDepth 100000
set_option linter.unusedVariables false
namespace Mine
/-- the first handle replaced -/
def replH (v : Str) : List Pr → List Pr
  | [] => []
  | q :: r => if isH q then (q.1, v) :: r else q :: replH v r
theorem replH_at {v : Str} {q : Pr} : ∀ {l : List Pr} {i : Nat}, (∀ x ∈ l.take i, isH x = false) → l[i]? = some q → isH q = true → replH v l = l.set i (q.1, v)
  | [], _, _, h, _ => by simp at h
  | p :: r, 0, _, h, hq => by
    simp at h; subst h
    show (if isH p then _ else _) = _
    rw [if_pos hq]; rfl
  | p :: r, i + 1, hx, h, hq => by
    show (if isH p then _ else _) = _
    rw [if_neg (by rw [hx p (by simp)]; exact Bool.false_ne_true), replH_at (i := i) (fun x hx' => hx x (by rw [List.take_succ_cons]; exact List.mem_cons_of_mem _ hx')) (by simpa using h) hq]; rfl
theorem replH_none {v : Str} : ∀ {l : List Pr}, (∀ x ∈ l, isH x = false) → replH v l = l
  | [], _ => rfl
  | p :: r, hx => by
    show (if isH p then _ else _) = _
    rw [if_neg (by rw [hx p (by simp)]; exact Bool.false_ne_true), replH_none fun x hx' => hx x (by simp [hx'])]
theorem replH_len {v : Str} : ∀ {l : List Pr}, (replH v l).length = l.length
  | [] => rfl
  | p :: r => by
    show (if isH p then (p.1, v) :: r else p :: replH v r).length = _
    split
    · rfl
    · simp [replH_len]

section
variable {C : Cx} {P0 : Params} {σ : Store} {a : Addr} {l : List Pr}
/-- c in (5, 105) -/
theorem Te_inT5 {A : Around} {F : Fm} {PB : Bool → Store → Prop} (room : Room A 0) {e : Expr} {c : Int} {es : List Expr} {k : Nat} {lp pos : Pos} (hes : asInts es = some [5, 105]) (h : Ev C A F σ e fun a σ₁ => a = .int c ∧ PB (c == 5 || c == 105) σ₁) (hm : behindInMarks .In (.Tuple es k lp) = false := by with_unfolding_all rfl) : Te C A F σ (.Compare e [.In] [.Tuple es k lp] pos) PB :=
  Te_Cmp (hm := hm) <| h.mono fun a σ₁ ⟨ha, hP⟩ => by
    subst ha
    refine Ev_Tuple (Sp_ints hes ⟨[.int 5, .int 105], rfl, by simp, ?_⟩)
    exact O2_inT (d := .int c) (ds := [.int 5, .int 105]) room (.dat _) (.dat _) rfl (by decide +kernel) ⟨_, rfl, by rw [any5]; exact hP⟩

/-- replace_handle -/
theorem fn_replace (x : Bx C P0) {v : Str} (ha : σ a = some ⟨true, tagsOf l⟩) (hl : l.length ≤ 1000) : Fn C 3 207 [.obj a, .str v] σ fun r σ' => r = .none ∧ σ' = upd σ a ⟨true, tagsOf (replH v l)⟩ := by
  refine Fn_at x.ok (FnOk.cast x.hK ⟨⟨_, rfl, rfl⟩, rfl, rfl, rfl, rfl, rfl, rfl, _, _, _, _, rfl, rfl, rfl, rfl⟩) rfl rfl ["self", "new_handle"] rfl (fun vs h => by obtain ⟨v, u, rfl⟩ := len2 h; rfl) rfl (by decide) rfl (by decide) ⟨"self", by simp, rfl⟩ fun A L fs q room hh => ?_
  dsimp only
  refine Exs_cons <| Ex_ForEnum x.ok x.kf.T hh x.kf.nenumerate rfl rfl <| Ev_Name rfl ⟨rfl, ha, fun i vars σ' => lk vars "self" = some (.obj a) ∧ lk vars "new_handle" = some (.str v) ∧ σ' = σ ∧ ∀ q ∈ l.take i, isH q = false, ⟨rfl, rfl, rfl, by simp⟩, ?_, ?_⟩
  · rintro i u vars σ' hu ⟨h1, h2, rfl, h4⟩ _
    obtain ⟨q, hq, rfl⟩ := tagsOf_get hu
    have hi : i < l.length := (List.getElem?_eq_some_iff.mp hq).1
    refine Exs_cons <| Ex_If <| Te_inT5 (room.less (Nat.zero_le _)) rfl <| Ev_Attr <| Ev_Name lk_self <| O1_code P0 x.hK x.ok x.kf (j := 0) room hh ⟨rfl, ?_⟩
    cases hc : isH q with
    | true =>
      rw [show (q.1 == 5 || q.1 == 105) = true from hc, if_pos rfl]
      refine Exs_cons <| Ex_SetItem x.ok x.kf.T <| Ev_Call x.ok <| Ev_Global x.ok rfl (x.ok.val x.kf.vDXFTag) (a := .val (.ref TagC)) (fun h => .val _) ⟨.ref TagC, rfl, .ref x.kf.kvDXFTag, Sp_cons <| Ev_Attr <| Ev_Name lk_self <| O1_code P0 x.hK x.ok x.kf (j := 0) room hh <| Sp_cons <| Ev_Name (lk_ne (lk_ne h2 (by decide)) (by decide)) <| Sp_nil <| On_newTag x (j := 1) room <| Ev_Name (lk_ne (lk_ne h1 (by decide)) (by decide)) <| Ev_Name (lk_ne lk_self (by decide)) ⟨a, true, _, i, rfl, rfl, ha, by omega, by rw [tagsOf_len]; omega, by rw [tagsOf_len]; omega, ?_⟩⟩
      refine Exs_cons <| Ex_ReturnNone <| Up.now ⟨rfl, ?_⟩
      rw [replH_at h4 hq hc, Int.toNat_natCast]
      congr 2
      simp [tagsOf, List.map_set]
    | false =>
      rw [show (q.1 == 5 || q.1 == 105) = false from hc, if_neg Bool.false_ne_true]
      exact Exs_nil <| Exs_nil <| UpV.now ⟨ha, lk_ne (lk_ne h1 (by decide)) (by decide), lk_ne (lk_ne h2 (by decide)) (by decide), rfl, forall_take_succ h4 hq hc⟩
  · rintro vars σ' ⟨h1, h2, rfl, h4⟩
    refine Exs_nil <| Up.now ⟨rfl, ?_⟩
    rw [replH_none fun y hy => h4 y (by rw [List.take_of_length_le (by simp [tagsOf])]; exact hy), upd_eq ha]
end
end Mine
end

section
open PySem PySem.W PyProof.Rows PySem.Calls PySem.SeqAt
set_option Elab.async false
set_option maxRecDepth 100000
set_option linter.unusedVariables false
namespace Mine
section
variable {prog : Program} {w : World} {A : Around} {E : Value → Shared → Prop} {s : Shared}
/-- the next of a generator function's -/
theorem gf_pyNext {a : Addr} {g n : Nat} {gs : GenState} {P : Nat → Shared → Shared → Prop} {Y : Protocol} {Q : Option Value → Shared → Prop} (hh : A.handled = none)
    (hl : s.heap.NoLimit) (hroom : A.depth < recursionLimit) (hg : s.heap.IsGen a g) (hgs : s.gens[g]? = some gs)
    (hgo : gs.Goes (model prog w) A.in1 (fun n s₀ r s₁ => r = .ok (.ret .none) ∧ P n s₀ s₁) Y n (.send .none) (s.setGen g .running))
    (hY : ∀ v s₁ gs', gs'.bare = true → Y (n - 1) (s.setGen g .running) v s₁ (fun r' s'' => match n with
        | 0 => False
        | m + 1 => gs'.Goes (model prog w) A.in1 (fun n s₀ r s₁ => r = .ok (.ret .none) ∧ P n s₀ s₁) Y m r' s'') → Q (some v) (s₁.setGen g gs'))
    (hP : ∀ s₁, P n (s.setGen g .running) s₁ → ∀ h', (∀ b o, s₁.heap.get? b = some o → h'.get? b = some o) → s₁.heap.objs.size ≤ h'.objs.size → Q none { s₁.setGen g .finished with heap := h' }) :
    wpAny (model prog w) A (pyNext (.ref a)) Q E s := by
  unfold pyNext
  refine wpAny_bind (wpAny_attempt (wpAny_callSpecial?_slot (name := Str.ofString "__next__") hg.typeIs slot_gen_next
    (wpAny_call_entry slot_gen_next hg.typeIs entry_gen_next ?_ (args_gen_next _))))
  show wpAny _ A.in1 (Builtin.Generator.genWake (.ref a) (.send .none)) _ _ s
  unfold Builtin.Generator.genWake
  refine wpAny_bind (wpAny_holding (wpAny_genNumber hg (wpAny_bind (wpAny_genState hgs ?_))))
  cases gs with
  | running => exact hgo.elim
  | finished => exact hgo.elim
  | _ =>
    refine wpAny_bind (wpAny_roomToWake hl hroom ?_)
    show wpAny _ A.in1 (.resume g (.send .none) [] _) _ _ s
    refine wpAny_resumeQ hgs hgo (fun x s₁ hx => ?_) (fun v s₁ gs' hb hv => wpAny_pure ⟨v, rfl, wpAny_pure (hY v s₁ gs' hb hv)⟩)
    obtain ⟨rfl, hp⟩ := hx
    show wpAny _ A.in1 (newExc (.type "StopIteration") [] >>= _) _ _ _
    refine wpAny_bind ?_
    simp only [newExc, newTuple]
    refine wpAny_bind (wpAny_newObj_type ?_ (by size_fits))
    refine wpAny_bind (m := firstArgMember _ _) (wpAny_of_eq (a := Value.none) (by first | rfl | (simp only [firstArgMember]; rfl)) ?_)
    refine wpAny_newObj_type ?_ (by size_fits)
    simp only [raiseNew]
    refine wpAny_bind (wpAny_bind (wpAny_handled ?_))
    first | rw [show A.in1.handled = none from hh] | rw [hh]
    refine wpAny_throw ?_
    refine wpAny_bind (wpAny_isInstance (T := "StopIteration") (b := true) ⟨_, Heap.get?_push_size _ rfl, rfl⟩ isSubtype_stop ?_)
    exact wpAny_pure (hP s₁ hp _ (fun b o hb => Heap.get?_push_of_some _ (Heap.get?_push_of_some _ hb)) (by simp only [Heap.size_push]; show s₁.heap.objs.size ≤ s₁.heap.objs.size + 1 + 1; omega))
end

section
variable {C : Cx} {A A' : Around} {F : Fm} {σ σ' : Store} {s s' : Shared}

/-- a call of a generator function -/
theorem enter_gen (ok : C.Ok) {f : Addr} {fd : FuncData} {body : List Stmt} (fo : FnOk C.K f fd body) {k : Nat} (room : Room A k) (hk : 1 ≤ k) (st : St C A F σ s)
    {args : List Value} {kw : List (Str × Value)} {binds : List (Str × Value)} {vars : List (Str × AV)} (hb : BindsTo s fd ⟨args, kw⟩ binds) (hv : Binds σ s.heap vars binds)
    (hgen : fd.scope.isGenerator = true) (hnd : (vars.map (·.1)).Nodup) (hkinds : kindsOk fd.scope (vars.map (·.1)) = true) (hsnd : (fd.scope.names.map (·.1)).Nodup)
    (hloc : (∃ x ∈ vars.map (·.1), fd.scope.names.lookup x = some .local) ∨ ∀ L : Addr, L + 1 ∈ (cellsFrom (L + 1) fd.scope.names []).map (·.2))
    {R : Result → Shared → Prop}
    (h : ∀ L env s₁ a g, env = callEnvC fd L f → St C (A.deeper env) ⟨env, vars, env :: F.fs⟩ σ s₁ → Step C.B F.frs [] σ σ s s₁ → s.heap.objs.size ≤ env.locals → (∀ p ∈ env.cells, s.heap.objs.size ≤ p.2) → env.frame = some env.locals →
      s₁.heap.IsGen a g → s₁.gens[g]? = some (.fresh (.func body env)) → R (.ok (.ret (.ref a))) s₁) :
    codeAny C.M A (.call (.ref f) ⟨args, kw⟩) R s := by
  obtain ⟨o, hlo, hdo⟩ := fo.o
  have X := st.K ok
  have ho := X _ _ hlo
  obtain ⟨c, oc, vs, tq, hc, hoc, hdc, hq⟩ := fo.code
  refine codeAny_call_generator (room.deep hk) ho hdo fo.co hgen fo.body ⟨c, oc, vs, tq, hc, X _ _ hoc, hdc, hq⟩ ?_
  refine hb _ _ _ _ ?_
  have names := hv.names
  have bnd : (binds.map (·.1)).Nodup := by rw [names]; exact hnd
  have kinds : ∀ x ∈ binds, fd.scope.names.lookup x.1 = some .local ∨ (fd.scope.names.lookup x.1 = some .cell ∧ ((cellsFrom (s.heap.objs.size + 1) fd.scope.names []).lookup x.1).isSome = true) := fun x hx => by
    have hm : x.1 ∈ vars.map (·.1) := names ▸ List.mem_map.mpr ⟨x, hx, rfl⟩
    have := List.all_eq_true.mp hkinds _ hm
    split at this
    · rename_i q; exact .inl q
    · rename_i q; exact .inr ⟨q, (cellsFrom_isSome x.1 fd.scope.names _ 0 [] [] rfl).trans this⟩
    · cases this
  rw [fo.clo]
  refine wpAny_newFunctionEnv_cells fo.kind kinds fun env he s' i => ?_
  have henv : env = callEnvC fd s.heap.objs.size f := he
  clear he
  have hcells : env.cells = cellsFrom (s.heap.objs.size + 1) fd.scope.names [] := by rw [henv]; rfl
  have okc := cellsFrom_ok fd.scope.names (s.heap.push { cls := .type "frame", data := .dict #[] }) (s.heap.objs.size + 1) [] ⟨fun _ _ hm => (nomatch hm), List.Pairwise.nil⟩ (by rw [Heap.size_push]; exact Nat.le_refl _)
  rw [Heap.size_push] at okc
  rw [← hcells] at okc
  have hkf : env.scope.kind = .function := by rw [henv]; exact fo.kind
  have hscope : env.scope = fd.scope := by rw [henv]; rfl
  have hkindOf : ∀ y, env.kindOf y = fd.scope.names.lookup y := fun y => by unfold Env.kindOf; rw [hscope]
  have hlocals : env.locals = s.heap.objs.size := by rw [henv]; rfl
  have hcn : (env.cells.map (·.1)).Nodup := by rw [hcells]; exact cellsFrom_names _ _ _ hsnd List.nodup_nil (by simp)
  have hfr : env.frame = some env.locals := by rw [henv]; rfl
  have get : ∀ y a, vars.lookup y = some a → ∃ v, (y, v) ∈ binds ∧ Rel σ s.heap a v := fun y a e => hv.find e
  have ent := st.enter (env := env) (vars := vars) i (fun p hp => ⟨Nat.le_of_succ_le (okc.empty p.1 p.2 hp).2, _, i.cell p.1 p.2 (lookup_mem hcn hp)⟩) (by exact List.pairwise_map.mpr okc.apart) hkf hfr (by rw [henv]; exact fo.gl) (by rw [henv]; exact fo.bi)
    (by
      rcases hloc with ⟨x, hx, hl⟩ | hloc
      · obtain ⟨⟨y, a⟩, hp, rfl⟩ := List.mem_map.mp hx
        obtain ⟨v, hm, _⟩ := get y a (lookup_mem hnd hp)
        exact .inl ⟨y, v, bindL_get (by rw [hkindOf]; exact hl) bnd hm⟩
      · exact .inr (by rw [hcells, hlocals]; exact hloc _))
    (fun y a e => by
      obtain ⟨v, hm, r⟩ := get y a e
      refine ⟨v, r, ?_⟩
      rcases kinds _ hm with hl | ⟨hl, hs⟩
      · exact .inl ⟨by rw [hkindOf]; exact hl, bindL_get (by rw [hkindOf]; exact hl) bnd hm⟩
      · refine .inr ⟨by rw [hkindOf]; exact hl, bindC_get (by rw [hkindOf, hl]; decide) bnd hm, ?_⟩
        rw [hcells]; exact Option.isSome_iff_exists.mp hs)
  refine ⟨ent.1.lim ok, ?_⟩
  obtain ⟨st₂, e₂⟩ := ent
  have grown := st₂.grow (s' := { s' with gens := s'.gens.push (.fresh (.func body env)), toks := s'.toks + 1 + 1, heap := s'.heap.push { cls := .type "generator", data := .fields #[.int s'.gens.size 0, .str fd.name s'.toks, .str fd.qualname (s'.toks + 1)] } })
    (fun b o e => Heap.get?_push_of_some _ e) (by show s'.heap.objs.size ≤ (s'.heap.push _).objs.size; rw [Heap.size_push]; exact Nat.le_succ _) (by show s'.gens.size ≤ (s'.gens.push _).size; rw [Array.size_push]; exact Nat.le_succ _) (AllBare.push st₂.bare rfl) rfl
  have e₃ : Step C.B F.frs [] σ σ s' { s' with gens := s'.gens.push (.fresh (.func body env)), toks := s'.toks + 1 + 1, heap := s'.heap.push { cls := .type "generator", data := .fields #[.int s'.gens.size 0, .str fd.name s'.toks, .str fd.qualname (s'.toks + 1)] } } :=
    .grow (fun b o e => Heap.get?_push_of_some _ e) (by show s'.heap.objs.size ≤ (s'.heap.push _).objs.size; rw [Heap.size_push]; exact Nat.le_succ _) (by show s'.gens.size ≤ (s'.gens.push _).size; rw [Array.size_push]; exact Nat.le_succ _) fun _ _ h => h
  exact h _ env _ _ s'.gens.size henv grown.1 (e₂.trans e₃) (by rw [hlocals]; exact Nat.le_refl _) (fun p hp => Nat.le_of_succ_le (okc.empty p.1 p.2 hp).2) hfr ⟨_, _, _, Heap.get?_push_size _ rfl, rfl, rfl, rfl⟩ (Array.getElem?_push_size ..)

theorem Step.monoF {B : Heap} {Fs Fs' S : List Addr} (x : Step B Fs S σ σ' s s') (h : ∀ b ∈ Fs, b ∈ Fs') : Step B Fs' S σ σ' s s' :=
  ⟨fun b o e h1 h2 h3 h4 => x.k b o e h1 h2 h3 (h4.imp (fun q q' => q (h b q')) id), x.f, x.t, x.dom, x.sz, x.gens⟩

/-- a generator's frame beside the frame that draws from it -/
structure GAp (C : Cx) (F : Fm) (ge : Env) : Prop where
  fr : ge.frame = some ge.locals
  B : ∀ b ∈ ge.locals :: ge.cells.map (·.2), C.B.get? b = none
  ap : ∀ b ∈ ge.locals :: ge.cells.map (·.2), b ∉ F.own ∧ b ∉ F.frs

/-- after the generator ran -/
theorem GAp.ran {ge : Env} {vars vars' : List (Str × AV)} (ap : GAp C F ge) (x : St C A F σ s) (g : St C A' ⟨ge, vars, ge :: F.fs⟩ σ s) {A'' : Around} (g' : St C A'' ⟨ge, vars', ge :: F.fs⟩ σ' s')
    (e : Step C.B (Fm.mk ge vars (ge :: F.fs)).frs (Fm.mk ge vars (ge :: F.fs)).own σ σ' s s') : St C A F σ' s' ∧ Step C.B F.frs (ge.locals :: ge.cells.map (·.2)) σ σ' s s' := by
  have e' : Step C.B F.frs (ge.locals :: ge.cells.map (·.2)) σ σ' s s' := Step.unfr (vars' := F.vars) (env := F.env) ap.fr e (fun b h => h) List.mem_cons_self
  exact ⟨x.backS e' ap.B ap.ap g.sok g'.so g'.bare g'.os, e'⟩
/-- after the consumer ran -/
theorem GAp.drew {ge : Env} {vars : List (Str × AV)} (g : St C A' ⟨ge, vars, ge :: F.fs⟩ σ s) (x : St C A F σ' s') (e : Step C.B F.frs [] σ σ' s s') : St C A' ⟨ge, vars, ge :: F.fs⟩ σ' s' :=
  g.back (e.monoF fun b hb => by
    unfold Fm.frs at hb ⊢
    rw [List.filterMap_cons]
    split
    · exact hb
    · exact List.mem_cons_of_mem _ hb) x.so x.bare x.os
end
end Mine
end

section
open PySem PySem.W PyProof.Rows PySem.Calls PySem.SeqAt
set_option Elab.async false
set_option maxRecDepth 100000
set_option linter.unusedVariables false
namespace Mine

/-- what a generator function gives: what the one that draws does before a resumption; what is told at a yield, at the end -/
structure GSpec where
  N : Nat
  re : Nat → Store → Store → Prop
  yd : Nat → List (Str × AV) → Store → AV → Prop
  en : Store → Prop

abbrev gAr (F : Fm) (ge : Env) : Around := { frames := some (ge :: F.fs) }
abbrev gOwn (ge : Env) : List Addr := ge.locals :: ge.cells.map (·.2)
/-- where consumer and generator meet -/
structure GMeet (C : Cx) (A : Around) (F : Fm) (ge : Env) (σb : Store) (sb : Shared) (vars : List (Str × AV)) (σ : Store) (s : Shared) : Prop where
  x : St C A F σ s
  g : St C (gAr F ge) ⟨ge, vars, ge :: F.fs⟩ σ s
  e : Step C.B F.frs (gOwn ge) σb σ sb s

def gfY (C : Cx) (A : Around) (F : Fm) (ge : Env) (σb : Store) (sb : Shared) (G : GSpec) : Protocol := fun m s₀ v s kap =>
  ∃ vars σ a, 0 < m ∧ m ≤ G.N ∧ G.yd (G.N - m) vars σ a ∧ Rel σ s.heap a v ∧ GMeet C A F ge σb sb vars σ s ∧ ∀ σ'' s'', G.re (G.N - m + 1) σ σ'' → GMeet C A F ge σb sb vars σ'' s'' → Step C.B F.frs [] σ σ'' s s'' → kap (.send .none) s''
def gfP (C : Cx) (A : Around) (F : Fm) (ge : Env) (σb : Store) (sb : Shared) (G : GSpec) : Nat → Shared → Shared → Prop := fun n _ s => n = 1 ∧ ∃ σ, G.en σ ∧ St C A F σ s ∧ Step C.B F.frs (gOwn ge) σb σ sb s
abbrev gfR (C : Cx) (A : Around) (F : Fm) (ge : Env) (σb : Store) (sb : Shared) (G : GSpec) : GenEnd := fun n s₀ r s₁ => r = .ok (.ret .none) ∧ gfP C A F ge σb sb G n s₀ s₁

section
variable {C : Cx} {A A' As : Around} {F : Fm} {ge : Env} {σb σ σ' : Store} {sb s s' : Shared} {G : GSpec} {vars : List (Str × AV)}

theorem GMeet.setGen (x : GMeet C A F ge σb sb vars σ s) {g : Nat} {y : GenState} (hy : y.bare = true) : GMeet C A F ge σb sb vars σ (s.setGen g y) := ⟨x.x.setGen hy, x.g.setGen hy, x.e.trans .setGen⟩

/-- a generator stands, i values given -/
def GK (C : Cx) (A : Around) (F : Fm) (ge : Env) (σb : Store) (sb : Shared) (G : GSpec) (As : Around) (g i : Nat) (vars : List (Str × AV)) (σ : Store) (s : Shared) : Prop :=
  ∃ gs, s.gens[g]? = some gs ∧ ∀ σ'' s'', G.re i σ σ'' → GMeet C A F ge σb sb vars σ'' s'' → Step C.B F.frs [] σ σ'' s s'' → gs.Goes C.M As (gfR C A F ge σb sb G) (gfY C A F ge σb sb G) (G.N + 1 - i) (.send .none) s''

/-- the base of a generator: where it was made -/
structure GBase (C : Cx) (A : Around) (F : Fm) (ge : Env) (σb : Store) (sb : Shared) (a g : Addr) : Prop where
  ap : GAp C F ge
  x : St C A F σb sb
  gen : sb.heap.IsGen a g
  na : a ∉ gOwn ge
  gl : g < sb.gens.size
theorem GBase.at_ {a g : Addr} (b : GBase C A F ge σb sb a g) (e : Step C.B F.frs (gOwn ge) σb σ sb s) : s.heap.IsGen a g := by
  obtain ⟨o, nm, qn, ho, hc, hd, hs⟩ := b.gen
  exact ⟨o, nm, qn, e.k _ _ ho (b.x.notStore ho fun vs k q => by rw [hd] at q; cases q) b.na (fun ps q => by rw [q] at hc; cases hc) (.inr fun es k q => by rw [hd] at q; cases q), hc, hd, hs⟩

theorem setGen_at {g : Nat} {x y : GenState} (h : s.gens[g]? = some x) : (s.setGen g y).gens[g]? = some y := setGen_self h

theorem GK.next {σ₁ : Store} {s₁ : Shared} {a g i : Nat} (b : GBase C A F ge σb sb a g) (ok : C.Ok) (hh : A'.handled = none) (room : A'.depth < recursionLimit) (j : GK C A F ge σb sb G A'.in1 g i vars σ₁ s₁) (hi : i < G.N) (m : GMeet C A F ge σb sb vars σ s) (hre : G.re i σ₁ σ) (e : Step C.B F.frs [] σ₁ σ s₁ s) (hgn : s.gens = s₁.gens) {Q : Option Value → Shared → Prop}
    (hQ : ∀ v y vars' σ' s', G.yd i vars' σ' y → Rel σ' s'.heap y v → GK C A F ge σb sb G A'.in1 g (i + 1) vars' σ' s' → GMeet C A F ge σb sb vars' σ' s' → Q (some v) s') : wpAny C.M A' (pyNext (.ref a)) Q NoE s := by
  obtain ⟨gs, hgs, hgo⟩ := j
  rw [← hgn] at hgs
  have hgo' := hgo σ (s.setGen g .running) hre (m.setGen rfl) (e.trans .setGen)
  obtain ⟨k, hk⟩ : ∃ k, G.N + 1 - i = k + 1 := ⟨G.N - i, by omega⟩
  rw [hk] at hgo'
  refine gf_pyNext (P := gfP C A F ge σb sb G) hh (m.x.lim ok) room (b.at_ m.e) hgs hgo' (fun v s₁ gs' hbare hv => ?_) (fun s₁ hp => absurd hp.1 (by omega))
  obtain ⟨vars', σ', y, hm0, hmN, hyd, rv, mt, hkap⟩ := hv
  have hidx : G.N - (k + 1 - 1) = i := by omega
  rw [hidx] at hyd hkap
  refine hQ v y vars' σ' _ hyd rv ⟨gs', ?_, fun σ'' s'' h1 h2 h3 => ?_⟩ (mt.setGen hbare)
  · have h2 : g < s₁.gens.size := Nat.lt_of_lt_of_le b.gl mt.e.gens
    simp [Shared.setGen, h2]
  · have := hkap σ'' s'' h1 h2 (Step.setGen.trans h3)
    have em : G.N + 1 - (i + 1) = k := by omega
    rw [em]; exact this

theorem GK.done {σ₁ : Store} {s₁ : Shared} {a g : Nat} (b : GBase C A F ge σb sb a g) (ok : C.Ok) (hh : A'.handled = none) (room : A'.depth < recursionLimit) (j : GK C A F ge σb sb G A'.in1 g G.N vars σ₁ s₁) (m : GMeet C A F ge σb sb vars σ s) (hre : G.re G.N σ₁ σ) (e : Step C.B F.frs [] σ₁ σ s₁ s) (hgn : s.gens = s₁.gens) {Q : Option Value → Shared → Prop}
    (hQ : ∀ σ' s', G.en σ' → St C A F σ' s' → Step C.B F.frs (gOwn ge) σb σ' sb s' → Q none s') : wpAny C.M A' (pyNext (.ref a)) Q NoE s := by
  obtain ⟨gs, hgs, hgo⟩ := j
  rw [← hgn] at hgs
  have hgo' := hgo σ (s.setGen g .running) hre (m.setGen rfl) (e.trans .setGen)
  have hk : G.N + 1 - G.N = 1 := by omega
  rw [hk] at hgo'
  refine gf_pyNext (P := gfP C A F ge σb sb G) hh (m.x.lim ok) room (b.at_ m.e) hgs hgo' (fun v s₁ gs' hbare hv => ?_) (fun s₁ hp h' hk hz => ?_)
  · obtain ⟨vars', σ', y, hm0, _⟩ := hv
    exact absurd hm0 (Nat.lt_irrefl 0)
  · obtain ⟨_, σ', hen, st₁, e₁⟩ := hp
    have st₂ := st₁.setGen (g := g) (y := .finished) rfl
    obtain ⟨st3, e3⟩ := st₂.grow (s' := { s₁.setGen g .finished with heap := h' }) (fun b o e => hk b o e) hz (Nat.le_refl _) st₂.bare rfl
    exact hQ σ' _ hen st3 ((e₁.trans .setGen).trans (e3.mono (by simp)))

theorem GMeet.ran (b : GAp C F ge) (m : GMeet C A F ge σb sb vars σ s) {vars' : List (Str × AV)} {A'' : Around} (g' : St C A'' ⟨ge, vars', ge :: F.fs⟩ σ' s') (e : Step C.B (Fm.mk ge vars (ge :: F.fs)).frs (gOwn ge) σ σ' s s') : GMeet C A F ge σb sb vars' σ' s' := by
  obtain ⟨x, e'⟩ := b.ran m.x m.g g' e
  exact ⟨x, g'.at rfl, m.e.trans e'⟩

/-- a yield, a statement of its own -/
theorem seg_gyield (b : GAp C F ge) (P : AV → Store → Prop) {i : Nat} {s₀ : Shared} {c : Code} {fs : List Frame} {K : Flow → Sem Fin} {H : Value → Sem Fin} {gd : Bool → Bool} {lv : List Value → List Value} {e : Expr} {ypos pos : Pos} (hA : (As.over c fs).frames = some (ge :: F.fs)) (hi : i < G.N) (m : GMeet C A F ge σb sb vars σ s)
    (hev : Ev C (As.over c fs) ⟨ge, vars, ge :: F.fs⟩ σ e fun a σ' => G.yd i vars σ' a ∧ P a σ')
    (hK : ∀ a σ' s' σ'' s'', P a σ' → St C (As.over c fs) ⟨ge, vars, ge :: F.fs⟩ σ' s' → Step C.B (Fm.mk ge vars (ge :: F.fs)).frs [] σ σ' s s' → G.re (i + 1) σ' σ'' → GMeet C A F ge σb sb vars σ'' s'' → Step C.B F.frs [] σ' σ'' s' s'' → Seg C.M As (gfR C A F ge σb sb G) (gfY C A F ge σb sb G) (G.N + 1 - (i + 1)) s'' c (K .next) fs s'')
    (hfs : splitAtGen fs = none) (hgd : gd false = false) (hfg : fs.any Frame.guarded = false) (hco : ge.scope.isCoroutine = false := by rfl) (hin : interactive ge = false := by rfl) :
    Seg C.M As (gfR C A F ge σb sb G) (gfY C A F ge σb sb G) (G.N + 1 - i) s₀ c ((exec (.Expr (.Yield (some e) ypos) pos) ge).wrap K H gd lv) fs s := by
  have hn : G.N + 1 - i = (G.N - i) + 1 := by omega
  have hn' : G.N + 1 - (i + 1) = G.N - i := by omega
  rw [hn]
  rw [hn'] at hK
  refine seg_Expr_Yield hfs hgd hfg (wpAny_noE (hev s (m.g.at hA) _ fun a v σ' s' ⟨hyd, hP⟩ st' r' e' => ?_)) hco hin
  intro kap hkap
  have hx : G.N - (G.N - i) = i := by omega
  refine ⟨vars, σ', a, by omega, Nat.sub_le _ _, by rw [hx]; exact hyd, r', m.ran b st' (e'.mono (by simp)), fun σ'' s'' h1 h2 h3 => hkap .none s'' ?_⟩
  rw [hx] at h1
  exact hK a σ' s' σ'' s'' hP st' e' h1 h2 h3

/-- a statement without a yield -/
theorem seg_gsx (b : GAp C F ge) {n : Nat} {s₀ : Shared} {c : Code} {fs : List Frame} {K : Flow → Sem Fin} {H : Value → Sem Fin} {gd : Bool → Bool} {lv : List Value → List Value} {t : Sem Flow} (hA : (As.over c fs).frames = some (ge :: F.fs)) (m : GMeet C A F ge σb sb vars σ s) {P : FP}
    (h : Sx C (As.over c fs) ⟨ge, vars, ge :: F.fs⟩ σ t P) (hK : ∀ vars' σ' s', P .next vars' σ' → GMeet C A F ge σb sb vars' σ' s' → Step C.B (Fm.mk ge vars (ge :: F.fs)).frs (gOwn ge) σ σ' s s' → Seg C.M As (gfR C A F ge σb sb G) (gfY C A F ge σb sb G) n s₀ c (K .next) fs s') (hnx : ∀ fl vars' σ', P fl vars' σ' → fl = .next) :
    Seg C.M As (gfR C A F ge σb sb G) (gfY C A F ge σb sb G) n s₀ c (t.wrap K H gd lv) fs s :=
  seg_wrap (wpAny_noE (h s (m.g.at hA) _ fun fl f vars' σ' s' hp st' fr e' => by
    cases fr with
    | next => exact hK vars' σ' s' hp (m.ran b st' e') e'
    | brk => exact absurd (hnx _ _ _ hp) (by nofun)
    | cont => exact absurd (hnx _ _ _ hp) (by nofun)
    | ret r => exact absurd (hnx _ _ _ hp) (by nofun)))

/-- a generator function just called -/
theorem GK.fresh {g : Nat} {body : List Stmt} (hgs : s.gens[g]? = some (.fresh (.func body ge)))
    (h : ∀ σ'' s'', G.re 0 σ σ'' → GMeet C A F ge σb sb vars σ'' s'' → Step C.B F.frs [] σ σ'' s s'' → Seg C.M As (gfR C A F ge σb sb G) (gfY C A F ge σb sb G) (G.N + 1) s'' (.func body ge)
      ((execs body ge).wrap (fun f => .pure (.done (.ret (match f with | .ret v => v | _ => .none)))) (fun e => (leaving ge e).wrap (fun _ => .raise e) .raise id id) id id) [] s'') : GK C A F ge σb sb G As g 0 vars σ s :=
  ⟨_, hgs, fun σ'' s'' h1 h2 h3 => ⟨rfl, seg_func (h σ'' s'' h1 h2 h3)⟩⟩
/-- the end of the body -/
theorem seg_gend {s₀ : Shared} {c : Code} (hen : G.en σ) (m : GMeet C A F ge σb sb vars σ s) : Seg C.M As (gfR C A F ge σb sb G) (gfY C A F ge σb sb G) (G.N + 1 - G.N) s₀ c (.pure (.done (.ret .none))) [] s := by
  have hn : G.N + 1 - G.N = 1 := by omega
  rw [hn]
  exact seg_end (.ok (.ret .none)) ⟨rfl, rfl, σ, hen, m.x, m.e⟩
end
end Mine
end

section
open PySem PySem.W PyProof.Rows PySem.Calls PySem.SeqAt
set_option Elab.async false
set_option maxRecDepth 100000
set_option linter.unusedVariables false
namespace Mine
section
variable {M : Model} {A : Around} {E : Value → Shared → Prop} {s : Shared} {K : Frag} {x C f : Addr} {ox : Obj} {od : Option Obj}
/-- iter() of a made object whose __iter__ is a generator function -/
theorem own_iter {prog : Program} {w : World} {Q : Value → Shared → Prop} (X : K.In s.heap) (I : PySem.W.InstAt s.heap x ox C od) (hs : findIn K (.ref C) "__iter__" = some (some (.ref f))) (ht : typeIn K (.ref f) = some (.type "function"))
    (h : wpAny (model prog w) A (call (.ref f) [.ref x]) (fun v s' => ∃ a g, v = .ref a ∧ s'.heap.IsGen a g ∧ Q v s') E s) : wpAny (model prog w) A (pyIter (.ref x)) Q E s := by
  have fin : wpAny (model prog w) A (call (.ref f) [.ref x] >>= fun v => pure (some v)) (fun r s' => ∃ a g, r = some (.ref a) ∧ s'.heap.IsGen a g ∧ Q (.ref a) s') E s :=
    wpAny_bind (wpAny_mono h (fun v s' h' => by obtain ⟨a, g, rfl, h1, h2⟩ := h'; exact wpAny_pure ⟨a, g, rfl, h1, h2⟩) fun _ _ z => z)
  have one : ∀ refuse : Sem Value, wpAny (model prog w) A (callSpecialIfBoundUnlessNone? (.ref x) "__iter__" refuse) (fun r s' => ∃ a g, r = some (.ref a) ∧ s'.heap.IsGen a g ∧ Q (.ref a) s') E s := by
    intro refuse
    simp only [callSpecialIfBoundUnlessNone?, bindSpecialIfBound?]
    refine wpAny_holding (wpAny_bind (wpAny_bind (wpAny_bind (I.type.here ((looks_findIn X hs).here ?_)))))
    refine wpAny_bind (wpAny_askSetting (wpAny_ite ?_))
    have fin2 : wpAny (model prog w) A (if (Value.ref f == Value.none) = true then (refuse >>= fun v => pure (some v)) else (call (.ref f) [.ref x] >>= fun v => pure (some v))) (fun r s' => ∃ a g, r = some (.ref a) ∧ s'.heap.IsGen a g ∧ Q (.ref a) s') E s := by
      rw [if_neg (show ¬ ((Value.ref f == Value.none) = true) from Bool.false_ne_true)]
      exact fin
    split
    · exact wpAny_bind ((bind_fn X _ ht).here (wpAny_pure (by exact fin2)))
    · exact wpAny_tryCatch (wpAny_bind ((bind_fn X _ ht).here (wpAny_pure (by exact fin2))))
  unfold pyIter
  refine wpAny_bind (wpAny_bind (I.type.here ((looks_findIn X hs).here ?_)))
  show wpAny _ A (callSpecialIfBoundUnlessNone? (.ref x) "__iter__" _ >>= _) Q E s
  refine wpAny_bind (wpAny_mono (one _) (fun r s' hr => ?_) fun _ _ z => z)
  obtain ⟨a, g, rfl, hg, hq⟩ := hr
  refine wpAny_bind (wpAny_specialOf hg.typeIs slot_gen_next.lookup ?_)
  exact wpAny_pure hq
end

section
variable {C : Cx} {P0 : Params} {A A' As : Around} {F : Fm} {σ σ' : Store} {s s' : Shared}

/-- a call of a generator function: what then stands -/
theorem call_gen (ok : C.Ok) {f : Addr} {fd : FuncData} {body : List Stmt} (fo : FnOk C.K f fd body) {k : Nat} (room : Room A k) (hk : 1 ≤ k) (st : St C A F σ s)
    {args : List Value} {kw : List (Str × Value)} {binds : List (Str × Value)} {vars : List (Str × AV)} (hb : BindsTo s fd ⟨args, kw⟩ binds) (hv : Binds σ s.heap vars binds)
    (hgen : fd.scope.isGenerator = true) (hnd : (vars.map (·.1)).Nodup) (hkinds : kindsOk fd.scope (vars.map (·.1)) = true) (hsnd : (fd.scope.names.map (·.1)).Nodup)
    (hloc : (∃ x ∈ vars.map (·.1), fd.scope.names.lookup x = some .local) ∨ ∀ L : Addr, L + 1 ∈ (cellsFrom (L + 1) fd.scope.names []).map (·.2))
    {R : Result → Shared → Prop}
    (h : ∀ L q s₁ a g, let ge := fEnv fd.scope L f q fd.code
      GBase C A F ge σ s₁ a g → GMeet C A F ge σ s₁ vars σ s₁ → s₁.gens[g]? = some (.fresh (.func body ge)) → Step C.B F.frs [] σ σ s s₁ → (∀ b ∈ gOwn ge, s.heap.objs.size ≤ b) → R (.ok (.ret (.ref a))) s₁) :
    codeAny C.M A (.call (.ref f) ⟨args, kw⟩) R s := by
  refine enter_gen ok fo room hk st hb hv hgen hnd hkinds hsnd hloc fun L env s₁ a g he st₁ e₁ hl hcs hf hgen' hgs => ?_
  have e : env = fEnv fd.scope L f (fd.qualname ++ ".<locals>.") fd.code := by
    rw [he]; show newEnv _ _ fd.globals _ _ _ _ _ fd.builtins = _; rw [fo.gl, fo.bi]
  clear he
  subst e
  have own : ∀ b ∈ gOwn (fEnv fd.scope L f (fd.qualname ++ ".<locals>.") fd.code), s.heap.objs.size ≤ b := fun b hb => by
    rcases List.mem_cons.mp hb with rfl | hb
    · exact hl
    · obtain ⟨p, hp, rfl⟩ := List.mem_map.mp hb
      exact hcs p hp
  have x₁ := st.back e₁ st₁.so st₁.bare st₁.os
  refine h L _ s₁ a g ⟨⟨hf, fun b hb => st.freshB (own b hb), fun b hb => ⟨fun hq => ?_, fun hq => ?_⟩⟩, x₁, hgen', fun hb => ?_, ?_⟩ ⟨x₁, st₁.at rfl, .refl ..⟩ hgs e₁ own
  · obtain ⟨o, ho, _⟩ := st.ownData hq
    exact absurd (Heap.lt_size ho) (Nat.not_lt.mpr (own b hb))
  · obtain ⟨o, _, _, ho, _⟩ := st.fd b hq
    exact absurd (Heap.lt_size ho) (Nat.not_lt.mpr (own b hb))
  · obtain ⟨o, ho, hd⟩ := st₁.ownData hb
    obtain ⟨o', nm, qn, ho', hc, hd', hs⟩ := hgen'
    rw [ho] at ho'; cases ho'
    rcases hd with ⟨es, n, hd⟩ | ⟨v, hd⟩ <;> rw [hd] at hd' <;> cases hd'
  · rcases Nat.lt_or_ge g s₁.gens.size with h | h
    · exact h
    · rw [Array.getElem?_eq_none h] at hgs; cases hgs

theorem gen_over {body : List Stmt} {ge : Env} (h : A.frames = some F.fs) : ((A.in1).over (.func body ge) []).frames = some (ge :: F.fs) := by
  show pushEnvs [ge] (pushEnvs [] A.frames) = _
  rw [h]; rfl
theorem Room.over {k : Nat} {body : List Stmt} {ge : Env} (r : Room A (k + 1)) : Room ((A.in1).over (.func body ge) []) k := by
  refine ⟨?_, ?_⟩
  · have := r.depth; show A.depth + 0 + 1 + _ ≤ _; omega
  · have := r.units; show A.units + 1 + 0 + 3 + _ + _ ≤ _; omega

/-- a tag falls into its code and its value -/
theorem UnpA_tag (x : Bx C P0) {j : Nat} (room : Room A (j + 3)) (hh : A.handled = none) {c : Int} {y : Str} : UnpA C A F σ (.tag c y) [.int c, .str y] := fun s v st r Q hQ => by
  have hit : findIn C.K (.ref TagC) "__iter__" = some (some (.ref 105)) := by rw [x.hK]; kernel_rfl
  have htt : typeIn C.K (.ref 105) = some (.type "function") := by rw [x.hK]; kernel_rfl
  obtain ⟨a, d, tc, tx, od, k, rfl, h1, h2, h3, h4⟩ := r.tag_inv
  have X := st.K x.ok
  have I := tagInst h2 h3
  have st0 := st
  show wpAny _ _ (unpackItems (.ref a) 2 none) _ _ _
  unfold unpackItems
  refine wpAny_bind ?_
  unfold notIterableAtAll
  refine wpAny_bind (wpAny_bind (I.type.here ((looks_findIn X hit).here ?_)))
  refine wpAny_pure ?_
  simp only [Bool.false_eq_true, if_false]
  refine wpAny_bind (wpAny_holding (own_iter X I hit htt (wpAny_call ?_)))
  refine call_gen x.ok (FnOk.cast x.hK ⟨⟨_, rfl, rfl⟩, rfl, rfl, rfl, rfl, rfl, rfl, _, _, _, _, rfl, rfl, rfl, rfl⟩) (k := 1) (room.less (by omega)) (Nat.le_refl _) st (vars := [("self", .tag c y)]) (binds := [("self", .ref a)]) (.of_eq rfl) (.cons r .nil) rfl (by simp) rfl (by decide) (.inl ⟨"self", by simp, rfl⟩) fun L q s₁ b g => ?_
  intro ge gb m hgs e₁ own
  refine ⟨b, g, rfl, gb.gen, ?_⟩
  have hF : A.frames = some F.fs := st.stack
  let G : GSpec := { N := 2, re := fun i σ₁ σ' => σ' = σ₁, yd := fun i vars σ' b => σ' = σ ∧ vars = ([("self", .tag c y)] : Vs) ∧ b = if i = 0 then .int c else .str y, en := fun σ' => σ' = σ }
  have hA : ∀ body, ((A.in1).over (.func body ge) []).frames = some (ge :: F.fs) := fun body => gen_over hF
  obtain ⟨p, hfp, hpp⟩ := x.kf.scode
  have hhO : ∀ body, ((A.in1).over (.func body ge) []).handled = none := fun _ => hh
  have K0 : GK C A F ge σ s₁ G A.in1 g 0 [("self", .tag c y)] σ s₁ := GK.fresh hgs fun σ₂ s₂ hst₂ m₂ _ => by
    obtain rfl : σ₂ = σ := hst₂
    refine seg_execs_cons (seg_gyield (G := G) gb.ap (fun _ σ' => σ' = σ₂) (hA _) (i := 0) (show 0 < 2 from Nat.zero_lt_two) m₂ (Ev_Attr (Ev_Name rfl (O1_slot x.ok x.kf hfp hpp (.inl ⟨rfl, rfl⟩) ⟨⟨rfl, rfl, rfl⟩, rfl⟩))) (fun _ σ₂' _ σ₃ s₃ hy₃ _ _ hst₃ m₃ _ => ?_) rfl rfl rfl)
    obtain rfl : σ₃ = σ₂' := hst₃
    have hy₃ : σ₃ = σ₂ := hy₃
    subst hy₃
    refine seg_execs_cons (seg_gyield (G := G) gb.ap (fun _ σ' => σ' = σ₃) (hA _) (i := 1) (show 1 < 2 from Nat.one_lt_two) m₃ (Ev_Attr (Ev_Name rfl (O1_value P0 x.hK x.ok x.kf (j := j) room.over (hhO _) ⟨⟨rfl, rfl, rfl⟩, rfl⟩))) (fun _ σ₃' _ σ₄ s₄ hy₄ _ _ hst₄ m₄ _ => ?_) rfl rfl rfl)
    obtain rfl : σ₄ = σ₃' := hst₄
    have hy₄ : σ₄ = σ₃ := hy₄
    subst hy₄
    exact seg_execs_nil (seg_gend (G := G) rfl m₄)
  have rdeep : A.depth < recursionLimit := (room.less (j := 1) (by omega)).deep (Nat.le_refl _)
  refine wpAny_bind (wpAny_holding ?_)
  show wpAny _ _ (pyNext (.ref b) >>= _) _ _ _
  refine wpAny_bind (GK.next gb x.ok hh rdeep K0 (show 0 < 2 from Nat.zero_lt_two) m rfl (.refl ..) rfl fun v1 y1 vars1 σ₂ s₂ hy1 r1 K1 m₂ => ?_)
  obtain ⟨rfl, rfl, rfl⟩ := hy1
  refine wpAny_bind (wpAny_holding ?_)
  show wpAny _ _ (pyNext (.ref b) >>= _) _ _ _
  refine wpAny_bind (GK.next gb x.ok hh rdeep K1 (show 1 < 2 from Nat.one_lt_two) m₂ rfl (.refl ..) rfl fun v2 y2 vars2 σ₃ s₃ hy2 r2 K2 m₃ => ?_)
  obtain ⟨rfl, rfl, rfl⟩ := hy2
  refine wpAny_bind (wpAny_holding (wpAny_pure (wpAny_pure (wpAny_pure ?_))))
  rw [if_neg (by simp)]
  refine wpAny_bind (wpAny_holding (GK.done gb x.ok hh rdeep K2 m₃ rfl (.refl ..) rfl fun σ₄ s₄ h4 st₄ e₄ => ?_))
  have h4 : σ₄ = _ := h4
  rw [h4] at st₄ e₄
  simp only [Option.isSome_none, Bool.false_eq_true, if_false]
  obtain ⟨tk1, rfl⟩ := r1.int_inv
  obtain ⟨tk2, rfl⟩ := r2.str_inv
  exact wpAny_pure (hQ _ _ st₄ (.cons (.int _ _) (.cons (.str _ _) .nil)) (Step.shrink e₁ e₄ (fun b hb => .inr (own b hb)) fun b hb => .inl hb))
end
end Mine
end

section
open PySem PySem.W PyProof.Rows PySem.Calls PySem.SeqAt
set_option Elab.async false
set_option maxRecDepth 100000
set_option linter.unusedVariables false
namespace Mine
section
variable {prog : Program} {w : World} {M : Model} {A : Around} {E : Value → Shared → Prop} {s : Shared} {K : Frag} {a : Addr} {vs : Array Value}
/-- an item out of bounds -/
theorem tg_getItem_out (X : K.In s.heap) (T : TF K) (x : TagsAt s.heap a vs) {k : Int} {t : Tok} {Q : Value → Shared → Prop} (hh : A.handled = none)
    (h0 : 0 ≤ k) (hfit : k < 2 ^ 63) (hx : vs[k.toNat]? = none) (hE : ∀ h' tk e, Heap.NewExc s.heap h' e "IndexError" → E (.ref e) { s with heap := h', toks := tk }) : wpAny (model prog w) A (getItem (.ref a) (.int k t)) Q E s := by
  obtain ⟨o, n, ho, hd, hc⟩ := x.obj
  unfold getItem
  refine wpAny_holding (wpAny_bind (tg_seqKey X T x ?_))
  refine wpAny_bind (tg_callSpecial X x T.getitem slot_list_getitem.bind (tg_call X T x (n := "__getitem__") (by decide +kernel) (by first | exact .inl (by decide +kernel) | exact .inr (by decide +kernel)) slot_list_getitem.plain entry_list_getitem (args_list_getitem _ _) ?_))
  show wpAny _ _ (Builtin.List.listSubscript? (.int k t) >>= _) _ _ s
  refine wpAny_bind (wpAny_listSubscript_int (fitsIndex_of h0 hfit) ?_)
  clear hfit
  obtain ⟨j, rfl⟩ := Int.eq_ofNat_of_zero_le h0
  have hx' : vs[j]? = none := hx
  show wpAny _ _ ((seqItemAt a j >>= fun r => pure (r.map (j, ·))) >>= _) _ _ s
  refine wpAny_bind (wpAny_bind (wpAny_seqItemAt ho hd (wpAny_pure ?_)))
  rw [hx']
  have hA : A.in1.handled = none := hh
  first
    | exact wpAny_bind (wpAny_rule (by exact_raiseError plainExc_IndexError hA hE))
    | exact wpAny_bind (wpAny_rule (wpAny_bind (by exact_raiseError plainExc_IndexError hA hE)))
    | exact wpAny_bind (wpAny_bind (wpAny_rule (by exact_raiseError plainExc_IndexError hA hE)))
    | exact wpAny_rule (by exact_raiseError plainExc_IndexError hA hE)

/-- the frame where an exception was made notes it, and lets it land -/
theorem note_land {base : Heap} {env : Env} {outer : List Env} {L e : Addr} {oe : Obj} {us : Array Value} {Q : Unit → Shared → Prop}
    (hfr : A.frames = some (env :: outer)) (hl : s.heap.FunFrames base (env :: outer)) (hf : env.frame = some L) (he : s.heap.get? e = some oe) (hd : oe.data = .fields us) (h1 : us[1]? = some .none)
    (h : ∀ h' T oT ts, h'.get? e = some (Obj.mapFields (·.setIfInBounds 1 (.ref T)) oe) → h'.get? T = some oT → oT.data = .fields ts → 3 < ts.size → T ≠ e → s.heap.get? T = none →
      (∀ b o, s.heap.get? b = some o → b ≠ e → b ∉ (env :: outer).filterMap (·.frame) → h'.get? b = some o) → (∀ b o, s.heap.get? b = some o → b ≠ e → ∃ sl, h'.get? b = some { o with slots := sl }) → s.heap.objs.size ≤ h'.objs.size → Q () { s with heap := h' }) :
    wpAny M A (noteFrame (.ref e) env) (fun _ s₁ => wpAny M A (setFlight (.ref e) none) Q E s₁) E s := by
  have hsz : 1 < us.size := (Array.getElem?_eq_some_iff.mp h1).1
  have hene : e ∉ (env :: outer).filterMap (·.frame) := fun hm => by
    obtain ⟨_, o, ho, hnf⟩ := hl.mem hm
    rw [he] at ho; injection ho with ho; subst ho; exact hnf us hd
  unfold noteFrame
  simp only [hf]
  refine wpAny_bind (wpAny_field he hd h1 ?_)
  rw [if_neg (by decide)]
  refine wpAny_bind (wpAny_frameOf_fun hfr hl hf fun h₁ hs₁ => ?_)
  refine wpAny_bind (wpAny_entryPlaceOf fun pl hpl => ?_)
  unfold EntryCells.newEntry newFields
  refine wpAny_bind (wpAny_newObj_type ?_ (hpl.sizeOk5 _ _ _ _ _))
  have he₁ : h₁.get? e = some oe := (hs₁.2.1 e hene).trans he
  generalize hTo : ({ cls := .type "traceback", dict := none, data := .fields ([Value.none, .ref L, .none, rawInt L, .none] ++ (if pl.isEmpty then List.replicate 6 Value.none else pl)).toArray } : Obj) = oT
  have hTd : oT.data = .fields ([Value.none, .ref L, .none, rawInt L, .none] ++ (if pl.isEmpty then List.replicate 6 Value.none else pl)).toArray := by rw [← hTo]
  have hTfree : oT.isFreed = false := Obj.isFreed_of_fields hTd
  have he₂ := Heap.get?_push_of_some (h := h₁) oT he₁
  refine wpAny_setField he₂ hd hsz ?_
  have hTe : h₁.objs.size ≠ e := Nat.ne_of_gt (Heap.lt_size he₁)
  have hd₃ := Obj.data_mapFields hd (·.setIfInBounds 1 (Value.ref h₁.objs.size))
  have he₃ := Heap.get?_update_self (Obj.mapFields (·.setIfInBounds 1 (Value.ref h₁.objs.size))) he₂ (Obj.isFreed_of_fields hd₃)
  have hT₃ := (Heap.get?_update_other (h₁.push oT) (Obj.mapFields (·.setIfInBounds 1 (Value.ref h₁.objs.size))) (Ne.symm hTe)).trans (Heap.get?_push_size h₁ hTfree)
  have hsz3 : 3 < ([Value.none, .ref L, .none, rawInt L, .none] ++ (if pl.isEmpty then List.replicate 6 Value.none else pl)).toArray.size := by simp only [List.size_toArray, List.length_append, List.length_cons, List.length_nil] <;> omega
  refine wpAny_setFlight_none (s := { s with heap := (h₁.push oT).update e (Obj.mapFields (·.setIfInBounds 1 (Value.ref h₁.objs.size))) }) he₃ hd₃ (by simp [hsz]) hT₃ hTd hsz3 ?_
  have hd4 := Obj.data_mapFields hTd (·.setIfInBounds 3 Value.none)
  have keep : ∀ b o, b ≠ e → h₁.get? b = some o → (((h₁.push oT).update e (Obj.mapFields (·.setIfInBounds 1 (Value.ref h₁.objs.size)))).update h₁.objs.size (Obj.mapFields (·.setIfInBounds 3 .none))).get? b = some o := fun b o hbe hb => by
    rw [Heap.get?_update_other _ _ (Nat.ne_of_gt (Heap.lt_size hb)), Heap.get?_update_other _ _ (Ne.symm hbe)]
    exact Heap.get?_push_of_some _ hb
  refine h _ h₁.objs.size _ _ ((Heap.get?_update_other _ _ hTe).trans he₃) (Heap.get?_update_self _ hT₃ (Obj.isFreed_of_fields hd4)) hd4 (by simpa using hsz3) hTe ?_ (fun b o hb hbe hbf => keep b o hbe ((hs₁.2.1 b hbf).trans hb)) (fun b o hb hbe => ?_) ?_
  · exact Heap.get?_none_of_le (Nat.le_of_eq hs₁.1.symm)
  · obtain ⟨sl, hsl⟩ := hs₁.2.2 b o hb
    exact ⟨sl, keep b _ hbe hsl⟩
  · rw [Heap.size_after_update, Heap.size_after_update, Heap.size_push, hs₁.1]; exact Nat.le_succ _
end
end Mine
end

section
open PySem PySem.W PyProof.Rows PySem.Calls PySem.SeqAt
set_option Elab.async false
set_option maxRecDepth 100000
set_option linter.unusedVariables false
namespace Mine
section
variable {prog : Program} {w : World} {A : Around} {E : Value → Shared → Prop} {s : Shared} {env : Env}
variable {nm q : Str} {C N : Addr} {bs bm bmB : List Value} {hdct : Bool} {sn : List Str} {sub : List Value} {ab : Bool} {col : Option Bool} {dd : Option Addr} {k0 k1 k2 k3 k5 : Option Value} {B newId initId : String}

theorem entry_unchain : entryFor table "proto.unchain" = some Builtin.«proto.unchain» := entryFor_of_fast (by kernel_rfl)

/-- an exception raised while another is handled -/
theorem raiseNew_ctx {α : Type} {e e1 : Addr} {oe o1 : Obj} {us ws : Array Value} {Q : α → Shared → Prop} (hh : A.handled = some (.ref e1)) (hne : e1 ≠ e) (h1 : s.heap.get? e1 = some o1) (hd1 : o1.data = .fields us) (hu : us[2]? = some .none)
    (he : s.heap.get? e = some oe) (hde : oe.data = .fields ws) (hz : 2 < ws.size) (h : E (.ref e) { s with heap := s.heap.update e (Obj.mapFields (·.setIfInBounds 2 (.ref e1))) }) : wpAny (model prog w) A (raiseNew (.ref e) : Sem α) Q E s := by
  unfold raiseNew
  refine wpAny_bind (wpAny_handled ?_)
  rw [hh]
  dsimp only
  rw [if_pos (show (Value.ref e1 != Value.ref e) = true from by simp [hne])]
  refine wpAny_bind (wpAny_holding (wpAny_runValue (codeAny_builtin entry_unchain ?_)))
  show wpAny _ _ (field (.ref e1) 2 >>= _) _ _ s
  refine wpAny_bind (wpAny_field h1 hd1 hu ?_)
  rw [if_pos (by rfl)]
  refine wpAny_pure ?_
  show wpAny (model prog w) A (setField (.ref e) 2 (.ref e1) >>= _) _ _ s
  exact wpAny_bind (wpAny_setField he hde hz (wpAny_throw h))

theorem raiseStmt_ctx {x : Sem Value} {e1 : Addr} {Q : Flow → Shared → Prop} (hbase : bm.contains (.type "BaseException") = true) (hh : A.handled = some (.ref e1))
    (h : wpAny (model prog w) A x (fun v s₁ => ∃ e t o1 us, v = .ref e ∧ s₁.heap.get? C = some (excClassObj nm q C N bs bm hdct sn sub ab col dd k0 k1 k2 k3 k5 newId) ∧
      s₁.heap.get? e = some { cls := .ref C, data := .fields #[.ref t, .none, .none, .none, .bool false, .none] } ∧ e1 ≠ e ∧ s₁.heap.get? e1 = some o1 ∧ o1.data = .fields us ∧ us[2]? = some .none ∧ E (.ref e) { s₁ with heap := s₁.heap.update e (Obj.mapFields (·.setIfInBounds 2 (.ref e1))) }) E s) :
    wpAny (model prog w) A (raiseStmt env (some x) none) Q E s := by
  have hcB : (Value.ref C :: bm).contains (.type "BaseException") = true := by rw [List.contains_cons, hbase, Bool.or_true]
  unfold raiseStmt
  refine wpAny_bind (wpAny_mono h (fun v s₁ h₁ => ?_) fun _ _ x => x)
  obtain ⟨e, t, o1, us, rfl, hC, he, hne, h1, hd1, hu, hE⟩ := h₁
  obtain ⟨hp, g, d, tk, os⟩ := s₁
  repeat (first | with_reducible refine wpAny_loadPart_at he ?_ | with_reducible refine wpAny_loadPart_at hC ?_ | (with_reducible refine wpAny_isSubtype_exc hC ?_; rw [hcB]) | wp_step)
  exact raiseNew_ctx hh hne h1 hd1 hu he rfl (show 2 < 6 from by decide) hE

theorem Raise_ctx (F : ExcBaseFacts B newId initId bmB) {mN : Str → Option Value} {x : Str} {np cpos pos : Pos} {args : List Expr} {e1 : Addr} {Q : Flow → Shared → Prop}
    (hbase : bm.contains (.type "BaseException") = true) (hh : A.handled = some (.ref e1)) (hplain : (backTo cpos (starEach args env)).any (·.1) = false) (hni : mN "__init__" = none)
    (h : wpAny (model prog w) A (eval (.Name x np) env) (fun f s₁ => f = .ref C ∧ wpAny (model prog w) A (evalArgs (.ref C) true (backTo cpos (starEach args env)) [])
      (fun a s₂ => a.kw = [] ∧ a.pos.length ≤ sizeLine ∧ s₂.heap.get? C = some (excClassObj nm q C N bs bm hdct sn sub ab col dd k0 k1 k2 k3 k5 newId) ∧ s₂.heap.Ns N mN ∧ OwnTail s₂.heap bmB bm ∧
        (∃ o1 us, s₂.heap.get? e1 = some o1 ∧ o1.data = .fields us ∧ us[2]? = some .none) ∧
        ∀ h' e, Heap.MadeExcOf s₂.heap h' e (.ref C) a.pos → E (.ref e) { s₂ with heap := h'.update e (Obj.mapFields (·.setIfInBounds 2 (.ref e1))) }) E s₁) E s) :
    wpAny (model prog w) A (exec (.Raise (some (.Call (.Name x np) args [] cpos)) none pos) env) Q E s := by
  rw [arm_exec_Raise]
  simp only [evalOpt, Option.map]
  refine wpAny_bind (wpAny_standAt (raiseStmt_ctx (C := C) (nm := nm) (q := q) (N := N) (bs := bs) (bm := bm) (hdct := hdct) (sn := sn) (sub := sub) (ab := ab) (col := col) (dd := dd) (k0 := k0) (k1 := k1) (k2 := k2) (k3 := k3) (k5 := k5) (newId := newId) hbase hh (wpAny_bind (wpAny_mono (wpAny_Call_ofName (wpAny_mono h (fun f s₁ h₁ => ?_) fun _ _ x => x)) (fun v s₃ h₃ => wpAny_bind (wpAny_standAt (wpAny_pure h₃))) fun _ _ x => x))))
  obtain ⟨rfl, h₁⟩ := h₁
  unfold callWith
  refine wpAny_bind (wpAny_holding (wpAny_mono h₁ (fun a s₂ h₂ => wpAny_bind (wpAny_standAt ?_)) fun _ _ x => x))
  obtain ⟨apos, akw⟩ := a
  obtain ⟨hkw, hlen, hC, hn, T, ⟨o1, us, ho1, hd1, hu⟩, h₂⟩ := h₂
  obtain rfl : akw = [] := hkw
  obtain ⟨hp, g, d, tk, os⟩ := s₂
  simp only [hplain]
  refine wpAny_bind (wpAny_keeperOf_exc hC ?_)
  refine wpAny_bind (wpAny_call_exc_subT (hrest := hlen) F T hC hn hni fun h' e hm => wpAny_bind (wpAny_holding (wpAny_point (wpAny_pure ?_))))
  obtain ⟨t, ht, _, _⟩ := hm.there
  exact ⟨e, t, o1, us, rfl, hm.keeps _ _ hC, ht, (fun q => by subst q; have := hm.new; rw [ho1] at this; cases this), hm.keeps _ _ ho1, hd1, hu, h₂ h' e hm⟩
end
end Mine
end

section
open PySem PySem.W PyProof.Rows PySem.Calls PySem.SeqAt
set_option Elab.async false
set_option maxRecDepth 100000
set_option linter.unusedVariables false
namespace Mine
section
variable {C : Cx} {P0 : Params} {A A' : Around} {F : Fm} {σ σ' : Store} {s s' : Shared}

/-- only frames' slots have changed of what stood -/
theorem St.slots (st : St C A F σ s) (hk : ∀ b o, s.heap.get? b = some o → b ∉ F.frs → s'.heap.get? b = some o) (hs : ∀ b o, s.heap.get? b = some o → ∃ sl, s'.heap.get? b = some { o with slots := sl }) (hz : s.heap.objs.size ≤ s'.heap.objs.size) (hg : s'.gens = s.gens) (ho : s'.os = s.os) :
    St C A F σ s' ∧ Step C.B F.frs [] σ σ s s' := by
  have notF : ∀ b o, s.heap.get? b = some o → (∀ es n, o.data ≠ .dict es n) → b ∉ F.frs := fun b o e h hb => by
    obtain ⟨o', es, n, ho', hd⟩ := st.fd b hb
    rw [e] at ho'; cases ho'; exact h _ _ hd
  have step : Step C.B F.frs [] σ σ s s' := {
    k := fun b o e _ _ _ hd => hk b o e (hd.elim id fun h => notF b o e h)
    f := fun b o es n e _ _ _ => hs b o e
    t := fun b ps e _ _ => ⟨#[], (by rw [Array.append_empty]; exact hk b _ e (notF b _ e (by nofun))), .inl rfl, by simp⟩
    dom := fun _ _ h => h
    sz := hz
    gens := by rw [hg]; exact Nat.le_refl _ }
  refine ⟨st.backF step (fun b hb => (st.ff.mem hb).1) (fun a o ha ob hob => hk a ob hob (notF a ob hob fun es n q => ?_)) (by rw [hg]; exact st.bare) (ho.trans st.os), step⟩
  obtain ⟨oo, vs, m, hoo, hd⟩ := (st.so a o ha).2.at_
  rw [hob] at hoo; cases hoo; rw [hd] at q; cases q

/-- an exception raised in a suite, on its way out of the frame -/
theorem suite_leaves {Am : Around} {e t : Addr} {oe : Obj} {vs : Array Value} {env : Env} {fs : List Env} {h7 : Heap} (hAm : Am.frames = some (env :: fs)) (hA : A.frames = some (env :: fs)) (hf : env.frame = some env.locals) (ff : s.heap.FunFrames C.B (env :: fs))
    (hk : ∀ b o, s.heap.get? b = some o → h7.get? b = some o) (hen : s.heap.get? e = none) (he : h7.get? e = some oe) (hcls : oe.cls = .ref 44) (hd : oe.data = .fields vs) (h0 : vs[0]? = some (.ref t)) (h1 : vs[1]? = some .none) (htn : s.heap.get? t = none) (hz7 : s.heap.objs.size ≤ h7.objs.size) {tk : Nat} {Q : Value → Unit → Shared → Prop} {E : Value → Value → Shared → Prop}
    (hQ : ∀ h9, (∃ B, (∀ b o, s.heap.get? b = some o → b ∉ (env :: fs).filterMap (·.frame) → B.get? b = some o) ∧ Heap.FlyingW B fs e (.ref 44) (.ref t) h9 ∧ B.get? t = none) → s.heap.UpToSlots h9 → s.heap.objs.size ≤ h9.objs.size → Q (.ref e) () { s with heap := h9, toks := tk }) :
    notedBy C.M Am env (cameBackBy C.M A env (fun x s' => wpAny C.M A (leaving env x) (Q x) (E x) s')) (.ref e) { s with heap := h7, toks := tk } := by
  have hin : ∀ (en : Env), en ∈ (env :: fs) → ∀ b, en.frame = some b → b ∈ (env :: fs).filterMap (·.frame) := fun en he b hb => List.mem_filterMap.mpr ⟨en, he, hb⟩
  have hsz : 1 < vs.size := (Array.getElem?_eq_some_iff.mp h1).1
  generalize hB : hideAll s.heap ((env :: fs).filterMap (·.frame)) = B
  have hBs : B.StaysIn s.heap := fun b o q => of_hideAll _ (hB ▸ q)
  have ffB : h7.FunFrames B (env :: fs) := by
    have h1 : s.heap.FunFrames B (env :: fs) := hB ▸ funFrames_hide ff hin
    exact h1.of_keeps fun b o e _ => ⟨o, hk b o e, rfl⟩
  have fresh : ∀ b, s.heap.get? b = none → B.get? b = none := fun b hb => by
    cases hq : B.get? b with
    | none => rfl
    | some o' => have := hBs b o' hq; rw [hb] at this; cases this
  unfold notedBy noteFrame
  simp only [hf]
  refine wpAny_bind (wpAny_field he hd h1 ?_)
  rw [if_neg (by decide)]
  refine wpAny_sz (wpAny_entryW (s := { s with heap := h7, toks := tk }) (base := B) hAm ffB hf he (fun b o hb => hk b o (hBs b o hb)) (fresh e hen) hd hsz h0 fun h8 hN hz8 => ?_)
  obtain ⟨k1, k2, k3, k4⟩ := hN
  rw [hcls] at k3
  have hz8 : h7.objs.size ≤ h8.objs.size := hz8
  obtain ⟨oe', vs', T, oT, ts, he', hcv, hd', h1', hnT, hTe, hT, hdT, h3⟩ := id k3
  have hz3 : 3 < ts.size := (Array.getElem?_eq_some_iff.mp h3).1
  unfold cameBackBy
  refine wpAny_bind (wpAny_field he' hd' h1' ?_)
  rw [if_neg (by show ¬ ((Value.ref T == Value.none) = true); exact Bool.false_ne_true)]
  have sf : ∀ {Q' : Unit → Shared → Prop} {E' : Value → Shared → Prop}, Q' () { s with heap := h8.update T (Obj.mapFields (·.setIfInBounds 3 (rawInt env.locals))), toks := tk } → wpAny C.M A (setFlight (.ref e) env.frame) Q' E' { s with heap := h8, toks := tk } := fun {Q' E'} hq => by
    unfold setFlight
    refine wpAny_bind (wpAny_field he' hd' h1' ?_)
    rw [if_pos (show (Value.ref T != Value.none) = true from by simp)]
    rw [hf]
    exact wpAny_setField hT hdT hz3 hq
  show wpAny C.M A (setFlight (.ref e) env.frame) (fun _ s'' => wpAny C.M A (leaving env (.ref e)) (Q (.ref e)) (E (.ref e)) s'') _ { s with heap := h8, toks := tk }
  refine sf ?_
  have other : ∀ b, b ≠ T → (h8.update T (Obj.mapFields (·.setIfInBounds 3 (rawInt env.locals)))).get? b = h8.get? b := fun b hb => Heap.get?_update_other _ _ (Ne.symm hb)
  have noRecord : ∀ b o, h8.get? b = some o → (∀ vs, o.data ≠ .fields vs) → b ≠ T := fun b o hb hnf q => by
    rw [q, hT] at hb; injection hb with hb; subst hb; exact hnf ts hdT
  have hd9 := Obj.data_mapFields hdT (·.setIfInBounds 3 (rawInt env.locals))
  have held : Heap.HeldW B (env :: fs) e (.ref 44) (.ref t) env.locals (h8.update T (Obj.mapFields (·.setIfInBounds 3 (rawInt env.locals)))) :=
    ⟨fun b o hb => (other b fun q => by rw [q, hnT] at hb; cases hb).trans (k1 b o hb), fresh e hen, k2.of_keeps fun b o hb hnf => ⟨o, (other b (noRecord b o hb hnf)).trans hb, rfl⟩,
      oe', vs', T, _, _, (other e (Ne.symm hTe)).trans he', hcv, hd', h1', hnT, hTe, Heap.get?_update_self _ hT (Obj.isFreed_of_fields hd9), hd9, by simp [hz3]⟩
  unfold leaving
  refine wpAny_bind (wpAny_noteFrame_againW hf held.2.2.2 ?_)
  refine wpAny_sz (wpAny_landsW held fun h10 hfl hup hz10 => ?_)
  obtain ⟨j1, j2, ⟨_, _, j3⟩, j4⟩ := hfl
  refine hQ h10 ⟨B, fun b o e hb => hB ▸ hideAll_get _ e hb, ⟨j1, j2, j3, j4⟩, fresh t htn⟩ (fun b o hb hnf => ?_) ?_
  · obtain ⟨sl, e8⟩ := k4 b o (hk b o hb) hnf
    obtain ⟨sl', e10⟩ := hup b _ ((other b (noRecord b _ e8 hnf)).trans e8) hnf
    exact ⟨sl', e10⟩
  · have hz10 : (h8.update T (Obj.mapFields (·.setIfInBounds 3 (rawInt env.locals)))).objs.size ≤ h10.objs.size := hz10
    rw [Heap.size_after_update] at hz10
    exact Nat.le_trans hz7 (Nat.le_trans hz8 hz10)
end
end Mine
end

section
open PySem PySem.W PyProof.Rows PySem.Calls PySem.SeqAt
set_option Elab.async false
set_option maxRecDepth 100000
set_option linter.unusedVariables false
namespace Mine
section
variable {C : Cx} {P0 : Params} {σ : Store} {a : Addr} {l : List Pr}

/-- get_handle of a list too short -/
theorem fnx_get_handle_short (x : Bx C P0) (ha : σ a = some ⟨true, tagsOf l⟩) (hl : l.length < 2) : FnX C 5 200 [.obj a] σ (fun _ _ => False) (fun σ' => σ' = σ) := fun A F s vs R room hh st r hR hE => by
  obtain ⟨v, rfl, r1⟩ := r.one
  obtain rfl := r1.obj_inv
  refine enter_fn x.ok (FnOk.cast x.hK ⟨⟨_, rfl, rfl⟩, rfl, rfl, rfl, rfl, rfl, rfl, _, _, _, _, rfl, rfl, rfl, rfl⟩) room (by decide) st (binds := [("self", .ref a)]) (vars := [("self", .obj a)]) (.of_eq rfl) (.cons (.obj a) .nil) rfl (by simp) rfl (by decide) (.inl ⟨"self", by simp, rfl⟩) fun L env s₁ he st₁ e₁ hlo hcs hf => ?_
  have hkI : env.kindOf "IndexError" = some .globalImplicit := by rw [he]; rfl
  have hkD : env.kindOf "DXFValueError" = some .globalImplicit := by rw [he]; rfl
  have hkS : env.kindOf "self" = some .local := by rw [he]; rfl
  have hfr : (A.deeper env).frames = some (env :: F.fs) := st₁.stack
  refine wpAny_execs_cons (wpAny_Try_except (wpAny_execs_cons (Assign_Tuple (Subscript_ ?_) ?_ ?_)))
  rotate_left
  · rw [he]; rfl
  · rw [he]; rfl
  refine wpAny_noE (Ev_Name (P := fun b σ' => b = .obj a ∧ σ' = σ) rfl ⟨rfl, rfl⟩ (by decide) (by decide) s₁ st₁ _ fun b v σ₂ s₂ h₂ st₂ r₂ e₂ => ?_)
  obtain ⟨rfl, rfl⟩ := h₂
  obtain rfl := r₂.obj_inv
  refine wpAny_Constant_int ?_
  obtain ⟨st₃, e₃⟩ := st₂.tok (s₂.toks + 1)
  generalize hs₃ : ({ s₂ with toks := s₂.toks + 1 } : Shared) = s₃ at st₃ e₃ ⊢
  have e13 : Step C.B (Fm.mk env ([("self", .obj a)] : Vs) (env :: F.fs)).frs [] σ₂ σ₂ s₁ s₃ := e₂.trans e₃
  obtain ⟨vs, n, ra, q⟩ := (st₃.so _ _ ha).2
  have ra : RelAll σ₂ s₃.heap (tagsOf l) vs := ra
  obtain ⟨da, q, i1, i2, od, k, q2, q3⟩ := q
  have tg : TagsAt s₃.heap a vs.toArray := ⟨da, n, q, od, k, q2, q3⟩
  have hvs : vs.toArray[(1 : Int).toNat]? = none := by
    have h1 : vs.length = l.length := ra.length.trans (tagsOf_len l)
    simp; omega
  unfold subscriptTail getitemInPython
  refine wpAny_bind (wpAny_bind (tg_spec (st₃.K x.ok) tg x.kf.T.getitem ?_))
  refine wpAny_pure ?_
  rw [subscripted_of rfl]
  refine wpAny_bind (wpAny_operating (wpAny_sz (tg_getItem_out (st₃.K x.ok) x.kf.T tg (t := s₂.toks) hh (by decide) (by decide) hvs fun h4 tk4 e hx hz34 => ?_)))
  obtain ⟨oe, te, hoe, hce, hde⟩ := hx.there
  have hne : ∀ b o, s₃.heap.get? b = some o → b ≠ e := fun b o hb q => by subst q; have := hx.new; rw [hb] at this; cases this
  have ff4 : h4.FunFrames C.B (env :: F.fs) := st₃.ff.of_keeps fun b o e _ => ⟨o, hx.keeps b o e, rfl⟩
  refine note_land (s := { s₃ with heap := h4, toks := tk4 }) hfr ff4 hf hoe hde rfl fun h5 T oT ts he5 hT5 hdT hz3 hTe hTn keep5 slots5 hz5 => ?_
  have hz34 : s₃.heap.objs.size ≤ h4.objs.size := hz34
  have hz5 : h4.objs.size ≤ h5.objs.size := hz5
  -- the exception's own record, its traceback
  have hde5 := Obj.data_mapFields hde (·.setIfInBounds 1 (.ref T))
  have hT3 : ∀ b o, s₃.heap.get? b = some o → b ≠ T := fun b o hb q => by
    have := hx.keeps b o hb
    subst q; rw [hTn] at this; cases this
  obtain ⟨st₅, e₅⟩ := st₃.slots (s' := { s₃ with heap := h5, toks := tk4 }) (fun b o hb hbf => keep5 b o (hx.keeps b o hb) (hne b o hb) hbf) (fun b o hb => slots5 b o (hx.keeps b o hb) (hne b o hb)) (Nat.le_trans hz34 hz5) rfl rfl
  refine wpAny_handleBy_builtin (X := "IndexError") (T := "IndexError") (b := true) PySem.F.isExc_IndexError PySem.F.notTuple_IndexError PySem.F.self_IndexError ?_
  have nmI := Calls.Name_function_global (M := C.M) (A := (A.deeper env).mark (some (.ref e))) (E := NoE) (Q := fun f s' => f = .type "IndexError" ∧ s' = { s₃ with heap := h5, toks := tk4 }) st₅.kind hkI (Calls.loadGlobal_builtin (by rw [st₅.gl]; exact st₅.g x.ok) (x.ok.non x.kf.nIndexError) (by rw [st₅.bi]; exact st₅.b x.ok) ((x.ok.boot "IndexError" (by decide)).trans rfl) ⟨rfl, rfl⟩) (pos := ⟨74, 15, 74, 25⟩) (by decide)
  refine wpAny_noE (wpAny_mono nmI (fun f s' h' => ?_) fun _ _ e => e)
  obtain ⟨rfl, rfl⟩ := h'
  refine ⟨rfl, ⟨_, he5, (Obj.cls_mapFields _ _).trans hce⟩, ?_⟩
  rw [if_pos rfl]
  refine wpAny_setFlight_none (s := { s₃ with heap := h5, toks := tk4 }) he5 hde5 rfl hT5 hdT hz3 ?_
  have other : ∀ b, b ≠ T → (h5.update T (Obj.mapFields (·.setIfInBounds 3 .none))).get? b = h5.get? b := fun b hb => Heap.get?_update_other _ _ (Ne.symm hb)
  generalize hh6 : h5.update T (Obj.mapFields (·.setIfInBounds 3 .none)) = h6 at other
  have hz6 : h5.objs.size ≤ h6.objs.size := by rw [← hh6, Heap.size_after_update]; exact Nat.le_refl _
  have he6 := (other e (Ne.symm hTe)).trans he5
  obtain ⟨st₆, e₆⟩ := st₃.slots (s' := { s₃ with heap := h6, toks := tk4 }) (fun b o hb hbf => (other b (hT3 b o hb)).trans (keep5 b o (hx.keeps b o hb) (hne b o hb) hbf)) (fun b o hb => by
    obtain ⟨sl, h⟩ := slots5 b o (hx.keeps b o hb) (hne b o hb)
    exact ⟨sl, (other b (hT3 b o hb)).trans h⟩) (Nat.le_trans (Nat.le_trans hz34 hz5) hz6) rfl rfl
  obtain ⟨bm, N, nm, q', bs, hdct, sn, sub, ab, col, dd, k0, k1, k2, k3, k5, mN, hC, hN, hni, TT⟩ := (exc44 x st₆).o
  have plain : ∀ pos : Pos, (backTo pos (starEach [Expr.Constant (.str "No handle found.") 0 ⟨75, 32, 75, 50⟩] env)).any (·.1) = false := fun pos => starEach_plain rfl
  refine wpAny_execs_cons (wpAny_sz (Raise_ctx (C := 44) (nm := nm) (q := q') (N := N) (bs := bs) (bm := bm) (hdct := hdct) (sn := sn) (sub := sub) (ab := ab) (col := col) (dd := dd) (k0 := k0) (k1 := k1) (k2 := k2) (k3 := k3) (k5 := k5) (mN := mN) (e1 := e)
    PySem.F.excBase_Exception (TT.hasType PySem.F.excBase_Exception.hasBase) rfl (plain _) hni ?_))
  have nm44 := Calls.Name_function_global (M := C.M) (A := (A.deeper env).mark (some (.ref e))) (E := NoE) (Q := fun f s' => f = .ref 44 ∧ s' = { s₃ with heap := h6, toks := tk4 }) st₆.kind hkD (Calls.loadGlobal_global (by rw [st₆.gl]; exact st₆.g x.ok) (x.ok.val x.kf.vDXFValueError) ⟨rfl, rfl⟩) (pos := ⟨75, 18, 75, 31⟩) (by decide)
  refine wpAny_noE (wpAny_mono nm44 (fun f s' h' => ?_) fun _ _ e => e)
  obtain ⟨rfl, rfl⟩ := h'
  refine ⟨rfl, ?_⟩
  refine Calls.evalArgs_plain (x := eval (Expr.Constant (.str "No handle found.") 0 ⟨75, 32, 75, 50⟩) env) (rest := []) ?_
  refine spliced_more (env := env) (e := Expr.Constant (.str "No handle found.") 0 ⟨75, 32, 75, 50⟩) (rest := []) (pos := ⟨75, 18, 75, 51⟩) (wpAny_Constant_str (spliced_none ?_)) rfl
  refine ⟨rfl, by rw [sizeLine_eq]; show 1 ≤ 16777216; omega, hC, hN, TT, ⟨_, _, he6, hde5, rfl⟩, fun h7 e2 hm hz67 => ?_⟩
  obtain ⟨t, ht, htn, _⟩ := hm.there
  have hk7 : ∀ b o, h6.get? b = some o → (h7.update e2 (Obj.mapFields (·.setIfInBounds 2 (.ref e)))).get? b = some o := fun b o hb => by
    rw [Heap.get?_update_other _ _ (fun q => by subst q; have := hm.new; rw [hb] at this; cases this)]
    exact hm.keeps b o hb
  have hd7 := Obj.data_mapFields (o := { cls := .ref 44, data := .fields #[.ref t, .none, .none, .none, .bool false, .none] }) rfl (·.setIfInBounds 2 (.ref e))
  have he7 := Heap.get?_update_self (Obj.mapFields (·.setIfInBounds 2 (.ref e))) ht (Obj.isFreed_of_fields hd7)
  have hcs' : ∀ p ∈ env.cells, s.heap.objs.size ≤ p.2 := hcs
  refine suite_leaves (C := C) (Am := (A.deeper env).mark (some (.ref e))) (A := A.deeper env) (tk := tk4 + 1) (Q := fun x _ s'' => R (.error x) s'') (E := fun _ e' s'' => R (.error e') s'') (s := { s₃ with heap := h6, toks := tk4 }) (h7 := h7.update e2 (Obj.mapFields (·.setIfInBounds 2 (.ref e)))) hfr hfr hf st₆.ff hk7 hm.new he7 (Obj.cls_mapFields _ _) hd7 rfl rfl htn hz67 fun h9 ⟨B, hB, hfly, hBt⟩ hup hz9 => ?_
  have e16 := e13.trans e₆
  have lv := st.leave (F' := ⟨env, ([("self", .obj a)] : Vs), env :: F.fs⟩) hlo hcs' rfl hf e₁ st₆ (e16.mono (by simp))
  refine hE e2 σ₂ _ rfl ⟨(Fm.mk env ([("self", .obj a)] : Vs) (env :: F.fs)).frs, { s₃ with heap := h6, toks := tk4 }, { st := lv.1, sub := fun b hb => ?_, fB := fun b hb => (st₆.ff.mem hb).1, fd := fun b hb => st₆.fd b hb, fly := ⟨B, t, hB, hfly, hBt⟩, up := hup, sz := hz9, gens := rfl, os := rfl }, lv.2, fun b hb => ?_⟩
  · rw [frs_cons hf]; exact List.mem_cons_of_mem _ hb
  · rw [frs_cons hf] at hb
    rcases List.mem_cons.mp hb with rfl | hb
    · exact .inr hlo
    · exact .inl hb
end
end Mine
end

section
open PySem PySem.W PyProof.Rows PySem.Calls PySem.SeqAt
set_option Elab.async false
set_option maxRecDepth 100000
set_option linter.unusedVariables false
namespace Mine
section
variable {C : Cx} {P0 : Params} {A : Around} {F : Fm} {σ : Store} {a : Addr} {l : List Pr}

/-- a try whose body does not raise -/
theorem Ex_TryOk {P : FP} {body : List Stmt} {h₀ : ExceptHandler} {hs : List ExceptHandler} {pos : Pos} (h : Exs C A F σ body P) : Ex C A F σ (.Try body (h₀ :: hs) [] [] pos) P := fun s st Q hQ =>
  wpAny_Try_except (wpAny_noE (h s st _ fun fl f vars σ₁ s₁ h₁ st₁ r₁ e₁ => by
    cases r₁ with
    | next => exact wpAny_execs_nil (hQ _ _ _ _ _ h₁ st₁ .next e₁)
    | brk => exact hQ _ _ _ _ _ h₁ st₁ .brk e₁
    | cont => exact hQ _ _ _ _ _ h₁ st₁ .cont e₁
    | ret r => exact hQ _ _ _ _ _ h₁ st₁ (.ret r) e₁))

/-- y == 5 or y == 105 -/
theorem Te_or5 {PB : Bool → Store → Prop} {y : Str} {c : Int} {p1 p2 p3 p4 q1 q2 pos : Pos} {k1 k2} (hv : F.vars.lookup y = some (.int c)) (h : PB (c == 5 || c == 105) σ) (hd : (y == ("__debug__" : Str)) = false := by decide) (hn : (y == ("__classdict__" : Str)) = false := by decide) :
    Te C A F σ (.BoolOp .Or [.Compare (.Name y p1) [.Eq] [.Constant (.int 5) k1 p2] q1, .Compare (.Name y p3) [.Eq] [.Constant (.int 105) k2 p4] q2] pos) PB := by
  refine Te_BoolOp <| Ta_or <| Te_Cmp <| Ev_Name hv (Ev_int <| O2_eqI ⟨_, rfl, ?_⟩) hd hn
  cases h5 : (c == 5) with
  | true => rw [if_pos rfl]; rw [h5] at h; exact h
  | false =>
    rw [if_neg Bool.false_ne_true]
    refine Ta_or <| Te_Cmp <| Ev_Name hv (Ev_int <| O2_eqI ⟨_, rfl, ?_⟩) hd hn
    rw [h5] at h
    cases h6 : (c == 105) with
    | true => rw [if_pos rfl]; rw [h6] at h; exact h
    | false => rw [if_neg Bool.false_ne_true]; rw [h6] at h; exact Ta_orNil h

theorem head_filter {l : List Pr} {i : Nat} {q : Pr} (h : ∀ x ∈ l.take i, isH x = false) (hq : l[i]? = some q) (hc : isH q = true) : ((l.filter isH).map (·.2)).head? = some q.2 := by
  have hi : i < l.length := (List.getElem?_eq_some_iff.mp hq).1
  have e := List.drop_eq_getElem_cons hi
  have hqe : l[i] = q := (List.getElem?_eq_some_iff.mp hq).2
  rw [hqe] at e
  rw [← List.take_append_drop i l, List.filter_append, List.filter_eq_nil_iff.mpr (fun x hx => by rw [h x hx]; exact Bool.false_ne_true), List.nil_append, e, List.filter_cons_of_pos hc]
  rfl
theorem head_filter_none {l : List Pr} (h : ∀ x ∈ l, isH x = false) : ((l.filter isH).map (·.2)).head? = none := by
  rw [List.filter_eq_nil_iff.mpr (fun x hx => by rw [h x hx]; exact Bool.false_ne_true)]; rfl

theorem fnx_get_handle (x : Bx C P0) (ha : σ a = some ⟨true, tagsOf l⟩) (hll : l.length ≤ 1000) : FnX C 5 200 [.obj a] σ (fun r σ' => ∃ v, handleOf l = some v ∧ r = .str v ∧ σ' = σ) (fun σ' => handleOf l = none ∧ σ' = σ) := by
  by_cases hl : l.length < 2
  · exact (fnx_get_handle_short x ha hl).mono (fun r σ' h => h.elim) fun σ' h => ⟨by unfold handleOf; rw [if_pos hl], h⟩
  have hq1 : l[1]? = some (l.getD 1 ((0, "") : Pr)) := getD_get (by omega)
  generalize hq : l.getD 1 ((0, "") : Pr) = q1 at hq1
  have hH : handleOf l = if isH q1 then some q1.2 else ((l.filter isH).map (·.2)).head? := by unfold handleOf; rw [if_neg hl, hq]
  have hit : (tagsOf l)[(1 : Int).toNat]? = some (.tag q1.1 q1.2) := by
    show (l.map _)[1]? = _; rw [List.getElem?_map, hq1]; rfl
  refine FnX_at x.ok x.hK ⟨⟨_, rfl, rfl⟩, rfl, rfl, rfl, rfl, rfl, rfl, _, _, _, _, rfl, rfl, rfl, rfl⟩ rfl rfl [] [] (fun _ => .nil) ["self"] rfl (fun s vs X h => by obtain ⟨v, rfl⟩ := len1 h; exact BindsTo.of_eq rfl) rfl (by decide) rfl (by decide) ⟨"self", by simp, rfl⟩ fun A L fs qq room hh => ?_
  dsimp only
  refine ExsX_cons <| Sx.toX <| Ex_TryOk <| Exs_cons <| Ex_AssignTuple2 <| Ev_Sub <| Ev_Name rfl <| Ev_int <| O2_item x.ok x.kf.T (.tags ha) (by decide) hit (by decide) <| Asg_Tuple2A (UnpA_tag x (j := 1) room hh) <| Asg_Name (.inl rfl) <| Asg_Name (.inl rfl) <| Exs_nil ?_
  refine ExsX_cons <| Sx.toX <| Ex_If <| Te_or5 (lk_ne lk_self (by decide)) ?_
  cases hc : isH q1 with
  | true =>
    rw [show (q1.1 == 5 || q1.1 == 105) = true from hc, if_pos rfl]
    exact Exs_cons <| Ex_Return <| Ev_Name lk_self <| Up.now ⟨q1.2, by rw [hH, hc, if_pos rfl], rfl, rfl⟩
  | false =>
    rw [show (q1.1 == 5 || q1.1 == 105) = false from hc, if_neg Bool.false_ne_true]
    rw [hc, if_neg Bool.false_ne_true] at hH
    refine Exs_nil ?_
    refine ExsX_cons <| Sx.toX <| Ex_For x.ok x.kf.T hh <| Ev_Name (lk_ne (lk_ne rfl (by decide)) (by decide)) ⟨tagsOf l, .seq (by nofun) (.tags ha), LetOk_Tuple (by nofun) (fun v hv => ?_), fun i vars σ' => lk vars "self" = some (.obj a) ∧ σ' = σ ∧ ∀ q ∈ l.take i, isH q = false, ⟨lk_ne (lk_ne rfl (by decide)) (by decide), rfl, by simp⟩, ?_, ?_⟩
    · obtain ⟨q, _, rfl⟩ := List.mem_map.mp hv; rfl
    · rintro i v vars σ' hv ⟨h1, rfl, h4⟩
      obtain ⟨q, hq, rfl⟩ := tagsOf_get hv
      refine ⟨.seq (by nofun) (.tags ha), Asg_Tuple2A (UnpA_tag x (j := 1) room hh) <| Asg_Name (.inl rfl) <| Asg_Name (.inl rfl) ⟨.seq (by nofun) (.tags ha), Exs_cons <| Ex_If <| Te_or5 (lk_ne lk_self (by decide)) ?_⟩⟩
      cases hc : isH q with
      | true =>
        rw [show (q.1 == 5 || q.1 == 105) = true from hc, if_pos rfl]
        exact Exs_cons <| Ex_Return <| Ev_Name lk_self <| Up.now ⟨q.2, hH.trans (head_filter h4 hq hc), rfl, rfl⟩
      | false =>
        rw [show (q.1 == 5 || q.1 == 105) = false from hc, if_neg Bool.false_ne_true]
        exact Exs_nil <| Exs_nil <| UpV.now ⟨.seq (by nofun) (.tags ha), lk_ne (lk_ne h1 (by decide)) (by decide), rfl, forall_take_succ h4 hq hc⟩
    · rintro vars σ' ⟨h1, rfl, h4⟩
      refine ExsX_cons <| ExX_Raise x hh str_ev ⟨_, .refl _, hH.trans (head_filter_none fun y hy => h4 y ?_), rfl⟩
      rw [List.take_of_length_le (by simp [tagsOf])]; exact hy
end
end Mine
end

section
open PySem PySem.W PyProof.Rows PySem.Calls PySem.SeqAt
set_option Elab.async false
set_option maxRecDepth 100000
set_option linter.unusedVariables false
namespace Mine
section
variable {prog : Program} {w : World} {A : Around} {R : GenEnd} {Y : Protocol} {n : Nat} {s₀ : Shared} {c : Code} {fs : List Frame} {s : Shared} {env : Env}
  {K : Flow → Sem Fin} {H : Value → Sem Fin} {gd : Bool → Bool} {lv : List Value → List Value}

/-- the frame that waits for a loop -/
abbrev loopK (env : Env) (K : Flow → Sem Fin) (H : Value → Sem Fin) (gd : Bool → Bool) (lv : List Value → List Value) : Result → Sem Fin := fun r =>
  ((match r with | .ok f => (.pure f : Sem Flow) | .error e => .raise e).onRaise fun (x : Value) => do
    if (← field x 1) == Value.none then unsupported "frame.own-activation:exception-without-traceback"
    setFlight x env.frame).wrap K H gd lv

/-- a for with a yield within -/
theorem seg_For {target iter : Expr} {body : List Stmt} {pos : Pos}
    (h : wpAny (model prog w) (A.over c fs) (eval iter env) (fun x s₁ => wpAny (model prog w) (A.over c fs) (pyIter x) (fun it s₂ => ∀ p, Seg (model prog w) A R Y n s₀ (.forLoop target it body [] env) ((model prog w).den (.forLoop target it body [] env))
      (.ret (loopK env K H gd lv) none (gd false) (lv []) c p [] :: fs) s₂) (fun _ _ => False) s₁) (fun _ _ => False) s) (hs : ∀ x, foldedSetIterable iter env x = pure x := by intro _; rfl) :
    Seg (model prog w) A R Y n s₀ c ((exec (.For target iter body [] pos) env).wrap K H gd lv) fs s := by
  rw [exec_For]
  refine seg_bind_wrap (wpAny_standAt (seg_bind_wrap (wpAny_noE (wpAny_mono h (fun x s₁ h₁ => ?_) fun _ _ e => e))))
  refine seg_bind_wrap (wpAny_of_eq (hs x) (seg_bind_wrap (wpAny_standAt (seg_bind_wrap (wpAny_holding (wpAny_noE (wpAny_mono h₁ (fun it s₂ h₂ => ?_) fun _ _ e => e)))))))
  exact seg_call h₂

theorem seg_forLoop {target : Expr} {it : Value} {body : List Stmt}
    (h : wpAny (model prog w) (A.over (.forLoop target it body [] env) fs) (pyNext it) (fun r s₁ => match r with
      | none => Seg (model prog w) A R Y n s₀ (.forLoop target it body [] env) (.pure (.again (.block [] env))) fs s₁
      | some v => wpAny (model prog w) (A.over (.forLoop target it body [] env) fs) (letOwnedTupleGo target it v) (fun _ s₂ => wpAny (model prog w) (A.over (.forLoop target it body [] env) fs) (assign target env v) (fun _ s₃ =>
          Seg (model prog w) A R Y n s₀ (.forLoop target it body [] env) ((execs body env).wrap (fun f => match f with
            | .next | .cont => .pure (.again (.forLoop target it body [] env))
            | .brk => .pure (.done .next)
            | .ret v => .pure (.done (.ret v))) (fun e => (do noteFrame e env; theTreesLotGoes e : Sem Unit).wrap (fun _ => .raise e) .raise id id) id id) fs s₃) (fun _ _ => False) s₂) (fun _ _ => False) s₁) (fun _ _ => False) s) :
    Seg (model prog w) A R Y n s₀ (.forLoop target it body [] env) ((model prog w).den (.forLoop target it body [] env)) fs s := by
  show Seg _ A R Y n s₀ _ ((forTurn target it body [] env).onRaise (fun x => do noteFrame x env; theTreesLotGoes x)) fs s
  unfold forTurn
  rw [Sem.onRaise_eq_wrap]
  refine seg_bind_wrap (wpAny_standAt (seg_bind_wrap (wpAny_onRaise (wpAny_noE (wpAny_mono h (fun r s₁ h₁ => ?_) fun _ _ e => e)))))
  cases r with
  | none => exact h₁
  | some v =>
    refine seg_bind_wrap (wpAny_noE (wpAny_mono h₁ (fun _ s₂ h₂ => ?_) fun _ _ e => e))
    refine seg_bind_wrap (wpAny_noE (wpAny_mono h₂ (fun _ s₃ h₃ => ?_) fun _ _ e => e))
    rw [Sem.bind_eq_wrap', Sem.wrap_wrap]
    rw [Sem.wrap_congr (execs body env) _ _ (K' := fun f => match f with
            | .next | .cont => .pure (.again (.forLoop target it body [] env))
            | .brk => .pure (.done .next)
            | .ret v => .pure (.done (.ret v))) (H' := (fun e => (do noteFrame e env; theTreesLotGoes e : Sem Unit).wrap (fun _ => .raise e) .raise id id))
        (fun f => by cases f <;> rfl)
        (fun e => by first | exact Sem.bind_eq_wrap _ _ | (show (do noteFrame e env; theTreesLotGoes e : Sem Unit).bind (fun _ => .raise e) = _; rw [Sem.bind_eq_wrap]))]
    exact h₃

/-- the end of a loop -/
theorem seg_blockNil {p : Pos} (h : Seg (model prog w) A R Y n s₀ c (K .next) fs s) : Seg (model prog w) A R Y n s₀ (.block [] env) ((model prog w).den (.block [] env)) (.ret (loopK env K H gd lv) none (gd false) (lv []) c p [] :: fs) s := by
  show Seg _ A R Y n s₀ _ (leafOf (.ok .next)) _ s
  exact seg_leaf (.ok .next) h
end
end Mine
end

section
open PySem PySem.W PyProof.Rows PySem.Calls PySem.SeqAt
set_option Elab.async false
set_option maxRecDepth 100000
set_option linter.unusedVariables false
namespace Mine
section
variable {prog : Program} {w : World} {A : Around} {R : GenEnd} {Y : Protocol} {n : Nat} {s₀ : Shared} {c : Code} {fs : List Frame} {s : Shared} {env : Env}
  {K : Flow → Sem Fin} {H : Value → Sem Fin} {gd : Bool → Bool} {lv : List Value → List Value}
theorem seg_If {t : Expr} {body orelse : List Stmt} {pos : Pos}
    (h : wpAny (model prog w) (A.over c fs) (isTrue t env (eval t env)) (fun b s₁ => if b then Seg (model prog w) A R Y n s₀ c ((execs body env).wrap K H gd lv) fs s₁ else Seg (model prog w) A R Y n s₀ c ((execs orelse env).wrap K H gd lv) fs s₁) (fun _ _ => False) s) :
    Seg (model prog w) A R Y n s₀ c ((exec (.If t body orelse pos) env).wrap K H gd lv) fs s := by
  rw [arm_exec_If]
  refine seg_bind_wrap (wpAny_standAt (seg_bind_wrap (wpAny_noE (wpAny_mono h (fun b s₁ h₁ => ?_) fun _ _ e => e))))
  cases b with
  | true => exact h₁
  | false => exact h₁
end

section
variable {C : Cx} {P0 : Params} {A A' As : Around} {F : Fm} {ge : Env} {σb σ σ' : Store} {sb s s' : Shared} {G : GSpec} {vars : List (Str × AV)}

/-- after a run that also moved an iterator of the generator's own -/
theorem GMeet.ranIt (b : GAp C F ge) (m : GMeet C A F ge σb sb vars σ s) {it : Addr} (hit : ItObj s.heap it) (hB : C.B.get? it = none) (hge : sb.heap.objs.size ≤ it) {vars' : List (Str × AV)} {A'' : Around} (g' : St C A'' ⟨ge, vars', ge :: F.fs⟩ σ' s')
    (e : Step C.B (Fm.mk ge vars (ge :: F.fs)).frs (it :: gOwn ge) σ σ' s s') : GMeet C A F ge σb sb vars' σ' s' := by
  have e' : Step C.B F.frs (it :: gOwn ge) σ σ' s s' := Step.unfr (vars' := F.vars) (env := F.env) b.fr e (fun b h => h) (List.mem_cons_of_mem _ List.mem_cons_self)
  have notF : it ∉ F.frs := fun q => by
    obtain ⟨o, ho, ⟨vs, hd⟩, _⟩ := hit
    obtain ⟨o', es, n, ho', hd'⟩ := m.x.fd it q
    rw [ho] at ho'; cases ho'; rw [hd] at hd'; cases hd'
  have hB2 : ∀ d ∈ it :: gOwn ge, C.B.get? d = none := fun d hd => by
    rcases List.mem_cons.mp hd with rfl | hd
    · exact hB
    · exact b.B d hd
  have hO2 : ∀ d ∈ it :: gOwn ge, d ∉ F.own ∧ d ∉ F.frs := fun d hd => by
    rcases List.mem_cons.mp hd with rfl | hd
    · exact ⟨hit.notOwn m.x, notF⟩
    · exact b.ap d hd
  have sok : SOk s.heap (it :: gOwn ge) := fun d hd => by
    rcases List.mem_cons.mp hd with rfl | hd
    · exact hit.sok1 d List.mem_cons_self
    · exact m.g.sok d hd
  refine ⟨m.x.backS e' hB2 hO2 sok g'.so g'.bare g'.os, g'.at rfl, Step.shrink m.e e' (fun d hd => ?_) fun d hd => .inl hd⟩
  rcases List.mem_cons.mp hd with rfl | hd
  · exact .inr hge
  · exact .inl hd

/-- what pop_tags gives: L is the list that draws -/
def popG (a L : Addr) (l : List Pr) (pass : Pr → Bool) (σ2 : Store) : GSpec where
  N := (l.filter pass).length
  re := fun i σ σ'' => if i = 0 then σ'' = σ else σ'' = upd σ L ⟨false, (tagsOf (l.filter pass)).take i⟩
  yd := fun i _ σ' y => ∃ q r rem, (l.filter pass)[i]? = some q ∧ y = .tag q.1 q.2 ∧ σ2 r = none ∧ σ' = upd (upd σ2 r ⟨false, rem⟩) L ⟨false, (tagsOf (l.filter pass)).take i⟩
  en := fun σ' => ∃ r, σ2 r = none ∧ σ' = upd (upd (upd σ2 r ⟨false, tagsOf (l.filter fun q => !pass q)⟩) L ⟨false, tagsOf (l.filter pass)⟩) a ⟨true, tagsOf (l.filter fun q => !pass q)⟩

/-- the store within the loop -/
def popσ (r L : Addr) (l : List Pr) (pass : Pr → Bool) (σ2 : Store) (p : Nat) : Store :=
  upd (upd σ2 r ⟨false, tagsOf ((l.take p).filter fun q => !pass q)⟩) L ⟨false, (tagsOf (l.filter pass)).take ((l.take p).filter pass).length⟩

theorem take_filter_get {l : List Pr} {pass : Pr → Bool} {p : Nat} {q : Pr} (hq : l[p]? = some q) (hp : pass q = true) : (l.filter pass)[((l.take p).filter pass).length]? = some q := by
  have hi : p < l.length := (List.getElem?_eq_some_iff.mp hq).1
  have e := List.drop_eq_getElem_cons hi
  have hqe : l[p] = q := (List.getElem?_eq_some_iff.mp hq).2
  rw [hqe] at e
  have : l.filter pass = (l.take p).filter pass ++ (q :: (l.drop (p + 1)).filter pass) := by
    rw [← List.filter_cons_of_pos hp, ← e, ← List.filter_append, List.take_append_drop]
  rw [this]; simp
theorem take_succ_filter {l : List Pr} {pass : Pr → Bool} {p : Nat} {q : Pr} (hq : l[p]? = some q) : (l.take (p + 1)).filter pass = (l.take p).filter pass ++ (if pass q then [q] else []) := by
  rw [List.take_add_one, hq]
  simp only [Option.toList, List.filter_append]
  congr 1
  cases h : pass q <;> simp [h]
end
end Mine
end

section
open PySem PySem.W PyProof.Rows PySem.Calls PySem.SeqAt
set_option Elab.async false
set_option maxRecDepth 100000
set_option linter.unusedVariables false
namespace Mine
theorem upd_comm {σ : Store} {a b : Addr} {o o' : AObj} (h : a ≠ b) : upd (upd σ a o) b o' = upd (upd σ b o') a o := by
  funext c; unfold upd; by_cases h1 : c = a
  · subst h1; simp [h]
  · simp [h1]
section
variable {C : Cx} {P0 : Params} {A A' As : Around} {F : Fm} {ge : Env} {σb σ σ' : Store} {sb s s' : Shared} {G : GSpec} {vars : List (Str × AV)}

theorem IterAt.steps {F' : Fm} {A'' : Around} {it : Addr} {b : AV} {xs : List AV} {i : Nat} (I : IterAt σ s.heap it b xs i) (st : St C A'' F' σ s) (e : Step C.B F'.frs F'.own σ σ' s s') (src : Src σ' b xs) : IterAt σ' s'.heap it b xs i :=
  I.step e st.sok (I.obj.notStore st) (I.obj.notOwn st) src

theorem seg_pop (x : Bx C P0) {bodyF : List Stmt} {cp : Pos} {K : Flow → Sem Fin} {H : Value → Sem Fin} {gd : Bool → Bool} {lv : List Value → List Value} (hAs : As.frames = some F.fs) (hh : As.handled = none) {j : Nat} (room : Room As (j + 4)) (hgd : gd false = false) (ap : GAp C F ge)
    (hkt : ge.kindOf "tag" = some .local) (hco : ge.scope.isCoroutine = false) (hin : interactive ge = false)
    {it : Addr} (hBi : C.B.get? it = none) (hit4 : sb.heap.objs.size ≤ it) {a L r : Addr} {l : List Pr} {ns : List Int} {σ2 : Store} (ha2 : σ2 a = some ⟨true, tagsOf l⟩) (hL2 : σ2 L = some ⟨false, []⟩) (hr2 : σ2 r = none) (hl : l.length ≤ 1000)
    {t1 p1 p2 p3 p4 p5 p6 p7 p13 : Pos} {stA : Stmt}
    (happ : ∀ (Al : Around) (vars : List (Str × AV)) (σ' : Store) (q : Pr) (rem : List AV), lk vars "remaining" = some (.obj r) → lk vars "tag" = some (.tag q.1 q.2) → σ' r = some ⟨false, rem⟩ → rem.length ≤ 1000 →
      Ex C Al ⟨ge, vars, ge :: F.fs⟩ σ' stA fun fl vars' σ'' => fl = .next ∧ vars' = vars ∧ σ'' = upd σ' r ⟨false, rem ++ [.tag q.1 q.2]⟩)
    (hend : ∀ s₀ vars s', GMeet C A F ge σb sb vars (popσ r L l (fun q => ns.contains q.1) σ2 l.length) s' → lk vars "self" = some (.obj a) → lk vars "remaining" = some (.obj r) →
      Seg C.M As (gfR C A F ge σb sb (popG a L l (fun q => ns.contains q.1) σ2)) (gfY C A F ge σb sb (popG a L l (fun q => ns.contains q.1) σ2)) ((popG a L l (fun q => ns.contains q.1) σ2).N + 1 - (popG a L l (fun q => ns.contains q.1) σ2).N) s₀ (.func bodyF ge) (K .next) [] s') :
    let G := popG a L l (fun q => ns.contains q.1) σ2
    let body : List Stmt := [.If (.Compare (.Attribute (.Name "tag" p1) "code" p2) [.In] [.Name "codes" p3] p4) [.Expr (.Yield (some (.Name "tag" p5)) p6) p7] [stA] p13]
    ∀ (k p : Nat) (s₀ s : Shared) (vars : List (Str × AV)), l.length - p = k → p ≤ l.length → GMeet C A F ge σb sb vars (popσ r L l (fun q => ns.contains q.1) σ2 p) s → IterAt (popσ r L l (fun q => ns.contains q.1) σ2 p) s.heap it (.obj a) (tagsOf l) p →
      lk vars "self" = some (.obj a) → lk vars "codes" = some (.set false fun k => ns.contains k) → lk vars "remaining" = some (.obj r) →
      Seg C.M As (gfR C A F ge σb sb G) (gfY C A F ge σb sb G) (G.N + 1 - ((l.take p).filter fun q => ns.contains q.1).length) s₀ (.forLoop (.Name "tag" t1) (.ref it) body [] ge) (C.M.den (.forLoop (.Name "tag" t1) (.ref it) body [] ge))
        [.ret (loopK ge K H gd lv) none (gd false) (lv []) (.func bodyF ge) cp []] s := by
  intro G body
  have hAl : (As.over (.forLoop (.Name "tag" t1) (.ref it) body [] ge) [.ret (loopK ge K H gd lv) none (gd false) (lv []) (.func bodyF ge) cp []]).frames = some (ge :: F.fs) := by
    show pushEnvs [] (pushEnvs [ge] As.frames) = _
    rw [hAs]; rfl
  have hhl : (As.over (.forLoop (.Name "tag" t1) (.ref it) body [] ge) [.ret (loopK ge K H gd lv) none (gd false) (lv []) (.func bodyF ge) cp []]).handled = none := hh
  have rooml : Room (As.over (.forLoop (.Name "tag" t1) (.ref it) body [] ge) [.ret (loopK ge K H gd lv) none (gd false) (lv []) (.func bodyF ge) cp []]) (j + 3) := by
    refine ⟨?_, ?_⟩
    · have := room.depth; show As.depth + (1 + 0) + 0 + _ ≤ _; omega
    · have := room.units; show As.units + 3 + 0 + _ + _ ≤ _; omega
  generalize hAle : As.over (.forLoop (.Name "tag" t1) (.ref it) body [] ge) [.ret (loopK ge K H gd lv) none (gd false) (lv []) (.func bodyF ge) cp []] = Al at hAl hhl rooml
  have hrL : r ≠ L := fun e => by rw [e, hL2] at hr2; cases hr2
  have hra : r ≠ a := fun e => by rw [e, ha2] at hr2; cases hr2
  have hLa : L ≠ a := fun e => by rw [e, ha2] at hL2; cases hL2
  have hpa : ∀ p, popσ r L l (fun q => ns.contains q.1) σ2 p a = some ⟨true, tagsOf l⟩ := fun p => by unfold popσ; rw [upd_ne (Ne.symm hLa), upd_ne (Ne.symm hra), ha2]
  have hpr : ∀ p, popσ r L l (fun q => ns.contains q.1) σ2 p r = some ⟨false, tagsOf ((l.take p).filter fun q => !ns.contains q.1)⟩ := fun p => by unfold popσ; rw [upd_ne hrL, upd_self]
  intro k
  induction k with
  | zero =>
    intro p s₀ s vars hk hp m I h1 h2 h3
    have hpe : p = l.length := by omega
    subst hpe
    refine seg_forLoop (hAle ▸ Iter.stop (m.g.at hAl) hhl hBi I (by simp [tagsOf]) fun s₁ st₁ e₁ _ _ => ?_)
    refine seg_again rfl (seg_blockNil ?_)
    have hN : ((l.take l.length).filter fun q => ns.contains q.1).length = (popG a L l (fun q => ns.contains q.1) σ2).N := by rw [List.take_length]; rfl
    rw [hN]
    exact hend s₀ vars s₁ (m.ranIt ap I.obj hBi hit4 st₁ (e₁.mono fun b hb => by
      rcases List.mem_cons.mp hb with rfl | hb
      · exact List.mem_cons_self
      · cases hb)) h1 h3
  | succ k ih =>
    intro p s₀ s vars hk hp m I h1 h2 h3
    have hlt : p < l.length := by omega
    have hq : l[p]? = some l[p] := List.getElem?_eq_getElem hlt
    generalize l[p] = q at hq
    have hqt : (tagsOf l)[p]? = some (.tag q.1 q.2) := by show (l.map _)[p]? = _; rw [List.getElem?_map, hq]; rfl
    refine seg_forLoop (hAle ▸ Iter.next (m.g.at hAl) hBi I hqt fun v s₁ rv I₁ st₁ e₁ _ _ => ?_)
    refine wpAny_of_eq (a := ()) rfl ?_
    refine wpAny_noE (Asg_Name (C := C) (A := Al) (F := ⟨ge, vars, ge :: F.fs⟩) (.inl hkt) (P := fun vars' σ' => vars' = putv vars "tag" (.tag q.1 q.2) ∧ σ' = popσ r L l (fun q => ns.contains q.1) σ2 p) ⟨rfl, rfl⟩ s₁ v st₁ rv _ fun vars' σ' s₂ h₂ st₂ e₂ => ?_)
    obtain ⟨rfl, rfl⟩ := h₂
    have g1 : lk (putv vars "tag" (.tag q.1 q.2)) "self" = some (.obj a) := lk_ne h1 (by decide)
    have g2 : lk (putv vars "tag" (.tag q.1 q.2)) "codes" = some (.set false fun k => ns.contains k) := lk_ne h2 (by decide)
    have g3 : lk (putv vars "tag" (.tag q.1 q.2)) "remaining" = some (.obj r) := lk_ne h3 (by decide)
    have I₂ := I₁.steps st₁ e₂ (.seq (by nofun) (.tags (hpa p)))
    have m₂ : GMeet C A F ge σb sb (putv vars "tag" (.tag q.1 q.2)) _ s₂ := m.ranIt ap I.obj hBi hit4 st₂ ((e₁.mono (fun b hb => by
      rcases List.mem_cons.mp hb with rfl | hb
      · exact List.mem_cons_self
      · cases hb)).trans (Step.mono (S' := it :: gOwn ge) e₂ fun b hb => List.mem_cons_of_mem _ hb))
    refine seg_execs_cons (seg_If (hAle ▸ ?_))
    refine (Te_Cmp (PB := fun b σ' => b = ns.contains q.1 ∧ σ' = popσ r L l (fun q => ns.contains q.1) σ2 p) (F := ⟨ge, putv vars "tag" (.tag q.1 q.2), ge :: F.fs⟩) (Ev_Attr (Ev_Name lk_self (O1_code P0 x.hK x.ok x.kf (j := j) (rooml.less (by omega)) hhl (Ev_Name g2 (O2_inSet ⟨_, rfl, rfl, rfl⟩)))))) s₂ st₂ _ fun b σ' s₃ hb st₃ e₃ => ?_
    obtain ⟨rfl, rfl⟩ := hb
    have I₃ := I₂.steps (F' := ⟨ge, putv vars "tag" (.tag q.1 q.2), ge :: F.fs⟩) st₂ (e₃.mono (by simp)) (.seq (by nofun) (.tags (hpa p)))
    have m₃ := m₂.ran ap st₃ (e₃.mono (by simp))
    have hagain : Code.quiet (.forLoop (.Name "tag" t1) (.ref it) body [] ge) = true := rfl
    have hc1 := take_succ_filter (pass := fun q => ns.contains q.1) hq
    have hc2 := take_succ_filter (pass := fun q => !ns.contains q.1) hq
    cases hpass : ns.contains q.1 with
    | true =>
      rw [if_pos rfl]
      rw [hpass, if_pos rfl] at hc1
      rw [hpass, Bool.not_true, if_neg Bool.false_ne_true, List.append_nil] at hc2
      have hcnt : ((l.take (p + 1)).filter fun q => ns.contains q.1).length = ((l.take p).filter fun q => ns.contains q.1).length + 1 := by rw [hc1]; simp
      have hget : (l.filter fun q => ns.contains q.1)[((l.take p).filter fun q => ns.contains q.1).length]? = some q := take_filter_get hq hpass
      have hi : ((l.take p).filter fun q => ns.contains q.1).length < G.N := (List.getElem?_eq_some_iff.mp hget).1
      refine seg_execs_cons (seg_gyield (G := G) ap (fun _ σ' => σ' = popσ r L l (fun q => ns.contains q.1) σ2 p) (hAle ▸ hAl) hi m₃ (hAle ▸ Ev_Name lk_self ⟨⟨q, r, _, hget, rfl, hr2, rfl⟩, rfl⟩) (fun b σ' s' σ'' s'' hσ' st' e' hre m'' e'' => ?_) rfl rfl (by simp [Frame.guarded, hgd]) hco hin)
      subst hσ'
      have hσ'' : σ'' = popσ r L l (fun q => ns.contains q.1) σ2 (p + 1) := by
        have h : σ'' = upd (popσ r L l (fun q => ns.contains q.1) σ2 p) L ⟨false, (tagsOf (l.filter fun q => ns.contains q.1)).take (((l.take p).filter fun q => ns.contains q.1).length + 1)⟩ := hre
        rw [h]
        unfold popσ
        rw [upd_upd, hcnt, hc2]
      subst hσ''
      have I₄ := I₃.steps (F' := ⟨ge, putv vars "tag" (.tag q.1 q.2), ge :: F.fs⟩) st₃ (e'.mono (by simp)) (.seq (by nofun) (.tags (hpa p)))
      have I₅ := I₄.step e'' (.nil _) (I₄.obj.notStore st') (by simp) (.seq (by nofun) (.tags (hpa (p + 1))))
      refine seg_execs_nil (seg_execs_nil (seg_again hagain ?_))
      rw [← hcnt]
      exact ih (p + 1) s'' s'' _ (by omega) hlt m'' I₅ g1 g2 g3
    | false =>
      rw [if_neg Bool.false_ne_true]
      rw [hpass, if_neg Bool.false_ne_true, List.append_nil] at hc1
      rw [hpass, Bool.not_false, if_pos rfl] at hc2
      refine seg_execs_cons ?_
      refine seg_gsx (G := G) ap (hAle ▸ hAl) m₃ (hAle ▸ happ Al _ _ q _ g3 lk_self (hpr p) (by rw [tagsOf_len]; exact Nat.le_trans (List.length_filter_le _ _) (by rw [List.length_take]; omega))) (fun vars' σ' s' ⟨_, hv, hσ'⟩ m' e' => ?_) fun fl vars' σ' h => h.1
      have hcnt : ((l.take (p + 1)).filter fun q => ns.contains q.1).length = ((l.take p).filter fun q => ns.contains q.1).length := by rw [hc1]
      have hσ : σ' = popσ r L l (fun q => ns.contains q.1) σ2 (p + 1) := by
        rw [hσ']
        unfold popσ
        rw [upd_comm (Ne.symm hrL), upd_upd, hc1, hc2]
        simp [tagsOf]
      subst hv
      subst hσ
      have I₄ := I₃.steps (F' := ⟨ge, putv vars "tag" (.tag q.1 q.2), ge :: F.fs⟩) st₃ e' (.seq (by nofun) (.tags (hpa (p + 1))))
      refine seg_execs_nil (seg_execs_nil (seg_again hagain ?_))
      rw [← hcnt]
      exact ih (p + 1) s₀ s' _ (by omega) hlt m' I₄ g1 g2 g3
end
end Mine
end

section
open PySem PySem.W PyProof.Rows PySem.Calls PySem.SeqAt
set_option Elab.async false
set_option maxRecDepth 100000
set_option linter.unusedVariables false
namespace Mine
section
variable {prog : Program} {w : World} {A : Around} {E : Value → Shared → Prop} {s : Shared} {R : Result → Shared → Prop}
/-- list.__init__ of a generator, on a list just made -/
theorem init_genL {S a : Addr} {g n : Nat} (hS : s.heap.get? S = some { cls := .type "list", data := .seq #[] n }) (hg : s.heap.IsGen a g)
    (h : ∀ h' n', Heap.SameBut S s.heap h' → h'.get? S = some { cls := .type "list", data := .seq #[] n' } → codeAny (model prog w) A (.builtin "list.extend.loop" ⟨[.ref S, .ref a, .none], []⟩) R { s with heap := h' }) :
    wpAny (model prog w) A.in1 (Builtin.«list.__init__» ⟨[.ref S, .ref a], []⟩)
      (fun fin s' => match fin with | .done f => R (.ok f) s' | .again c' => c'.quiet = true ∧ codeAny (model prog w) A c' R s') (fun e s' => R (.error e) s') s := by
  obtain ⟨og, nm, qn, hog, hcg, hdg, hsg⟩ := id hg
  have hSa : S ≠ a := fun e => by subst e; rw [hS] at hog; cases hog; exact absurd (by injection hcg) (show ¬ ("list" = "generator") by decide)
  show wpAny _ A.in1 (do let old ← Builtin.List.listItems (.ref S); Builtin.List.listUpdate (.ref S) (fun _ => #[]); letGo old.toList.reverse; Builtin.List.listExtendWith (.ref S) (.ref a) .none) _ _ s
  refine wpAny_bind ?_
  unfold Builtin.List.listItems
  refine wpAny_bind (wpAny_seqItems hS rfl (wpAny_pure ?_))
  show wpAny _ A.in1 (updateSeq S (fun _ => #[]) >>= fun _ => letGo (#[] : Array Value).toList.reverse >>= fun _ => Builtin.List.listExtendWith (.ref S) (.ref a) .none) _ _ s
  refine wpAny_bind (wpAny_updateSeq hS rfl ?_)
  have hS₂ := Heap.get?_update_self (Obj.mapSeq (fun _ => (#[] : Array Value))) hS rfl
  have oth : ∀ b o, b ≠ S → s.heap.get? b = some o → (s.heap.update S (Obj.mapSeq (fun _ => (#[] : Array Value)))).get? b = some o :=
    fun b o hb e => (Heap.get?_update_other _ _ (Ne.symm hb)).trans e
  have hg₂ : (s.heap.update S (Obj.mapSeq (fun _ => (#[] : Array Value)))).IsGen a g := ⟨og, nm, qn, oth _ _ (Ne.symm hSa) hog, hcg, hdg, hsg⟩
  refine wpAny_bind (wpAny_letGo ?_)
  unfold Builtin.List.listExtendWith
  refine wpAny_bind (wpAny_typeOf hg₂.typeIs ?_)
  have h1 : Builtin.List.listSameRef (.ref S) (.ref a) = false := by simp [Builtin.List.listSameRef, hSa]
  have h2 : (Value.type "generator" == Value.type "list") = false := by decide
  have h3 : (Value.type "generator" == Value.type "tuple") = false := by decide
  simp only [h1, h2, h3, Bool.or_false, Bool.false_eq_true, if_false]
  refine wpAny_bind (wpAny_pyIter_gen hg₂ ?_)
  refine wpAny_bind (wpAny_holding ?_)
  unfold Builtin.List.listLengthHint
  refine wpAny_bind (wpAny_specialOf hg₂.typeIs PySem.F.gen_no_len ?_)
  show wpAny _ A.in1 (specialOf (Value.ref a) (Str.ofString "__length_hint__") >>= _) _ _ _
  refine wpAny_bind (wpAny_specialOf hg₂.typeIs PySem.F.gen_no_hint ?_)
  refine wpAny_pure ?_
  show wpAny _ A.in1 (rule "list.extend.makes-room" >>= fun _ => Builtin.List.listTouch (.ref S) >>= fun _ =>
    again (.builtin "list.extend.loop" ⟨[.ref S, .ref a, .none], []⟩)) _ _ _
  refine wpAny_bind (wpAny_rule ?_)
  refine wpAny_bind ?_
  show wpAny _ A.in1 (updateSeq S (·.push .none) >>= fun _ => updateSeq S (·.pop)) _ _ _
  refine wpAny_bind (wpAny_updateSeq hS₂ rfl ?_)
  have hS₃ := Heap.get?_update_self (Obj.mapSeq (·.push Value.none)) hS₂ rfl
  refine wpAny_updateSeq (hz := by seq_fits) hS₃ rfl ?_
  have hS₄ := Heap.get?_update_self (Obj.mapSeq (·.pop)) hS₃ rfl
  refine wpAny_pure ⟨plainId_quiet PySem.F.plain_extend_loop _, h _ _ (((Heap.SameBut.update ..).trans (Heap.SameBut.update ..)).trans (Heap.SameBut.update ..)) hS₄⟩
end

section
variable {C : Cx} {P0 : Params} {A : Around} {F : Fm} {ge : Env} {σb σ σ' : Store} {sb s s' : Shared} {vars : List (Str × AV)}

theorem tagsOf_take (l : List Pr) (i : Nat) : (tagsOf l).take i = tagsOf (l.take i) := by simp [tagsOf, List.map_take]

/-- list() draws all that pop_tags gives -/
theorem pop_draw (ok : C.Ok) {A₀ : Around} (hh : A₀.handled = none) (room : A₀.depth < recursionLimit) {a b g L : Addr} {l : List Pr} {pass : Pr → Bool} (hL : σb L = some ⟨false, []⟩) (gb : GBase C A F ge σb sb b g) (hl : l.length ≤ 1000) {R : Result → Shared → Prop}
    (hR : ∀ σ' s', (popG a L l pass σb).en σ' → St C A F σ' s' → Step C.B F.frs (gOwn ge) σb σ' sb s' → R (.ok (.ret .none)) s') :
    ∀ (k i : Nat) (σ₁ : Store) (s₁ : Shared) (σ : Store) (s : Shared) (vars : List (Str × AV)), (l.filter pass).length - i = k → i ≤ (l.filter pass).length → GK C A F ge σb sb (popG a L l pass σb) A₀.in1.in1 g i vars σ₁ s₁ → GMeet C A F ge σb sb vars σ s → (popG a L l pass σb).re i σ₁ σ →
      Step C.B F.frs [] σ₁ σ s₁ s → s.gens = s₁.gens → σ L = some ⟨false, (tagsOf (l.filter pass)).take i⟩ → codeAny C.M A₀ (.builtin "list.extend.loop" ⟨[.ref L, .ref b, .none], []⟩) R s := by
  intro k
  induction k with
  | zero =>
    intro i σ₁ s₁ σ s vars hk hi K m hre e hgn hσ
    have hin : i = (l.filter pass).length := by omega
    subst hin
    refine codeAny_builtin PySem.F.entry_extend_loop ?_
    rw [Around.under_plainId PySem.F.plain_extend_loop _]
    show wpAny C.M A₀.in1 (pyNext (.ref b) >>= _) _ _ s
    refine wpAny_bind (wpAny_noE (GK.done gb ok (A' := A₀.in1) hh room K m hre e hgn fun σ' s' hen st' e' => ?_))
    exact wpAny_pure (hR σ' s' hen st' e')
  | succ k ih =>
    intro i σ₁ s₁ σ s vars hk hi K m hre e hgn hσ
    have hlt : i < (l.filter pass).length := by omega
    refine codeAny_builtin PySem.F.entry_extend_loop ?_
    rw [Around.under_plainId PySem.F.plain_extend_loop _]
    show wpAny C.M A₀.in1 (pyNext (.ref b) >>= _) _ _ s
    refine wpAny_bind (wpAny_noE (GK.next gb ok (A' := A₀.in1) hh room K hlt m hre e hgn fun v y vars' σ' s' hyd rv K' m' => ?_))
    obtain ⟨q, r, rem, hq, rfl, hr, rfl⟩ := hyd
    obtain ⟨o, n, vs, ho, hd, hz, push⟩ := m'.x.pushSeq (S := L) (upd_self _ _ _)
    obtain ⟨x₂, e₂⟩ := push _ v rv
    have hzz : vs.size = i := by rw [hz]; simp [tagsOf]; omega
    have htk : (tagsOf (l.filter pass)).take i ++ [.tag q.1 q.2] = (tagsOf (l.filter pass)).take (i + 1) := by
      rw [tagsOf_take, tagsOf_take, List.take_add_one, hq]; simp [tagsOf]
    rw [htk] at x₂ e₂
    show wpAny C.M A₀.in1 (updateSeq L (·.push v) >>= _) _ _ _
    have hll : (l.filter pass).length ≤ 1000 := Nat.le_trans (List.length_filter_le _ _) hl
    refine wpAny_bind (wpAny_updateSeq ho hd (wpAny_pure ⟨plainId_quiet PySem.F.plain_extend_loop _, ?_⟩) (by rw [hzz, sizeLine_eq]; omega) (by rw [Array.size_push, hzz, sizeLine_eq]; omega))
    exact ih (i + 1) _ s' _ _ vars' (by omega) hlt K' ⟨x₂, GAp.drew m'.g x₂ e₂, m'.e.trans (e₂.mono (by simp))⟩ rfl e₂ rfl (upd_self _ _ _)
end
end Mine
end

section
open PySem PySem.W PyProof.Rows PySem.Calls PySem.SeqAt
set_option Elab.async false
set_option maxRecDepth 100000
set_option linter.unusedVariables false
namespace Mine
section
variable {C : Cx} {P0 : Params} {A : Around} {F : Fm} {σ : Store} {s : Shared} {P : AV → Store → Prop}

/-- a method's call, up to the function -/
theorem Meth_raw {o e : Expr} {name : Str} {apos pos : Pos} {r : List Expr} {f : Addr} {fas : List AV} {pl : Sem Bool} {a : AV} (ho : Ev C A F σ o fun b σ₁ => b = a ∧ σ₁ = σ) (hm : MethTo C A F σ a name (.ref f) fas) (hk : KeepOk C (.ref f)) {Q : Value → Shared → Prop} (st : St C A F σ s)
    (h : ∀ s₁ first, St C A F σ s₁ → RelAll σ s₁.heap fas first → Step C.B F.frs [] σ σ s s₁ → wpAny C.M A (spliced (backTo pos (starEach (e :: r) F.env))) (fun vs s₂ => C.K.In s₂.heap ∧ wpAny C.M A (call (.ref f) (first ++ vs)) Q NoE s₂) NoE s₁) (hn : noStar (e :: r) = true := by rfl)
    (he : eval (.Call (.Attribute o name apos) (e :: r) [] pos) F.env = (do
      let ov ← eval o F.env
      standAt apos.atName
      let (f, first) ← holding [ov] (getMethod ov name pl)
      callWith pos f first (backTo pos (starEach (e :: r) F.env)) (backToKw pos (keywordEach [] F.env))) := by rfl) : wpAny C.M A (eval (.Call (.Attribute o name apos) (e :: r) [] pos) F.env) Q NoE s :=
  methodCall_KW (ho s st _ fun b v σ₁ s₁ h₁ st₁ r₁ e₁ => by
    obtain ⟨rfl, rfl⟩ := h₁
    refine hm pl s₁ v st₁ r₁ _ fun first rf => ?_
    have fin := h s₁ first st₁ rf e₁
    have plain := starEach_plain (env := F.env) (pos := pos) hn
    have h1 := (starEach_cons (env := F.env) hn).1
    rw [h1] at fin plain ⊢
    exact callWith_of (P := fun h => C.K.In h) (by rw [plain]; rfl) hk (evalArgs_plain fin)) he

/-- list(rows.pop_tags(codes)) -/
theorem Ev_PopList (x : Bx C P0) {j : Nat} (room : Room A (j + 8)) (hh : A.handled = none) {np rp ap cp mp pos : Pos} {a : Addr} {l : List Pr} {ns : List Int} {rw_ cn : Str} (ha : σ a = some ⟨true, tagsOf l⟩) (hl : l.length ≤ 1000) (hn : ns.length ≤ 900)
    (hr : Ev C A F σ (.Name rw_ rp) fun b σ₁ => b = .obj a ∧ σ₁ = σ) (hc : Ev C A F σ (.Name cn cp) fun b σ₁ => b = .dat (.list (ns.map .int)) ∧ σ₁ = σ)
    (hP : ∀ L, σ L = none → P (.obj L) (upd (upd σ L ⟨false, tagsOf (l.filter fun q => ns.contains q.1)⟩) a ⟨true, tagsOf (l.filter fun q => !ns.contains q.1)⟩))
    {pl : Sem Bool} (hk : F.env.kindOf "list" = some .globalImplicit := by rfl)
    (he : eval (.Call (.Attribute (.Name rw_ rp) "pop_tags" ap) [.Name cn cp] [] mp) F.env = (do
      let ov ← eval (.Name rw_ rp) F.env
      standAt ap.atName
      let (f, first) ← holding [ov] (getMethod ov "pop_tags" pl)
      callWith mp f first (backTo mp (starEach [.Name cn cp] F.env)) (backToKw mp (keywordEach [] F.env))) := by rfl) :
    Ev C A F σ (.Call (.Name "list" np) [.Call (.Attribute (.Name rw_ rp) "pop_tags" ap) [.Name cn cp] [] mp] [] pos) P := fun s st Q hQ => by
  refine wpAny_Call_ofName (Ev_Builtin x.ok hk (x.ok.non x.kf.nlist) (v := .type "list") rfl (by decide) (P := fun a σ₁ => a = .val (.type "list") ∧ σ₁ = σ) ⟨rfl, rfl⟩ (by decide) s st _ fun b v σ₀ s₀ h₀ st₀ r₀ e₀ => ?_)
  obtain ⟨rfl, rfl⟩ := h₀
  obtain rfl := r₀.val_inv
  refine call_raw rfl (.type _) (spliced_more ?_ rfl)
  refine Meth_raw hr (MethTo_obj x.ok x.kf.pT ha x.kf.mpop_tags x.kf.tmpop_tags) (.ref x.kf.kmpop_tags) st₀ (fun s₁ first st₁ rf e₁ => ?_) rfl he
  refine spliced_more (hc s₁ st₁ _ fun b v σ₂ s₂ h₂ st₂ r₂ e₂ => spliced_none ⟨st₂.K x.ok, ?_⟩) rfl
  obtain ⟨rfl, rfl⟩ := h₂
  obtain ⟨fv, rfl, rfv⟩ := rf.one
  have rfv := rfv.step e₂ (.nil _)
  refine wpAny_call (call_gen x.ok (FnOk.cast x.hK ⟨⟨_, rfl, rfl⟩, rfl, rfl, rfl, rfl, rfl, rfl, _, _, _, _, rfl, rfl, rfl, rfl⟩) (k := 1) (room.less (by omega)) (Nat.le_refl _) st₂ (vars := [("self", .obj a), ("codes", .dat (.list (ns.map .int)))]) (binds := [("self", fv), ("codes", v)]) (.of_eq rfl) (.cons rfv (.cons r₂ .nil)) rfl (show (["self", "codes"] : List Str).Nodup from by decide) rfl (by decide) (.inl ⟨"self", by simp, rfl⟩) fun L q s₃ b g => ?_)
  intro ge gb m hgs e₃ own
  refine spliced_none ⟨gb.x.K x.ok, ?_⟩
  show wpAny C.M A (call (.type "list") [.ref b]) Q NoE s₃
  have hF : A.frames = some F.fs := st.stack
  generalize hS : s₃.heap.objs.size = S
  have hσS : σ₂ S = none := gb.x.fresh (Nat.le_of_eq hS)
  refine callType_codes (Q₁ := fun obj s₄ => obj = .ref S ∧ s₄ = { s₃ with heap := s₃.heap.push { cls := .type "list", data := .seq #[] } }) PySem.F.called_list (PySem.F.typeCall_list_1 _) PySem.F.entry_list_init (code_list_new _ ⟨by rw [hS], rfl⟩) fun obj s₄ h₄ => ?_
  obtain ⟨rfl, rfl⟩ := h₄
  have hS4 : (s₃.heap.push { cls := .type "list", data := .seq #[] }).get? S = some { cls := .type "list", data := .seq #[] } := hS ▸ Heap.get?_push_size _ rfl
  refine ⟨⟨_, hS4, rfl⟩, PySem.F.args_list_init_2 _ _, ?_⟩
  refine init_genL (s := { s₃ with heap := s₃.heap.push { cls := .type "list", data := .seq #[] } }) hS4 (gb.gen.push _) fun h5 n5 hs5 hS5 => ?_
  have keep5 : ∀ b o, s₃.heap.get? b = some o → h5.get? b = some o := fun b o e => (hs5.2 b (fun q => by
    have := Heap.lt_size e
    rw [hS, q] at this
    exact Nat.lt_irrefl _ this)).trans (Heap.get?_push_of_some _ e)
  obtain ⟨x5, e5⟩ := allocList gb.x (a := S) (as := []) (vs := []) (h' := h5) (tk := s₃.toks) (Nat.le_of_eq hS) keep5 hS5 .nil
  generalize hs5e : ({ s₃ with heap := h5, toks := s₃.toks } : Shared) = s₅ at x5 e5
  have keep5 : ∀ b o, s₃.heap.get? b = some o → s₅.heap.get? b = some o := by rw [← hs5e]; exact keep5
  have hgs5 : s₅.gens = s₃.gens := by rw [← hs5e]
  have gb5 : GBase C A F ge (upd σ₂ S ⟨false, []⟩) s₅ b g := ⟨gb.ap, x5, gb.gen.keeps keep5, gb.na, by rw [hgs5]; exact gb.gl⟩
  have m5 : GMeet C A F ge (upd σ₂ S ⟨false, []⟩) s₅ _ (upd σ₂ S ⟨false, []⟩) s₅ := ⟨x5, GAp.drew m.g x5 e5, .refl ..⟩
  have ha5 : upd σ₂ S ⟨false, []⟩ a = some ⟨true, tagsOf l⟩ := by rw [upd_ne (fun q => by rw [q, hσS] at ha; cases ha)]; exact ha
  have hL5 : upd σ₂ S ⟨false, []⟩ S = some ⟨false, []⟩ := upd_self _ _ _
  have K0 : GK C A F ge (upd σ₂ S ⟨false, []⟩) s₅ (popG a S l (fun q => ns.contains q.1) (upd σ₂ S ⟨false, []⟩)) A.in1.in1.in1 g 0 [("self", .obj a), ("codes", .dat (.list (ns.map .int)))] (upd σ₂ S ⟨false, []⟩) s₅ := by
    refine GK.fresh (by rw [hgs5]; exact hgs) fun σ3 s6 hre m6 _ => ?_
    have hre : σ3 = upd σ₂ S ⟨false, []⟩ := hre
    subst hre
    have hF3 : A.in1.in1.in1.frames = some F.fs := hF
    have hA : ∀ body, (A.in1.in1.in1.over (.func body ge) []).frames = some (ge :: F.fs) := fun body => by
      show pushEnvs [ge] (pushEnvs [] A.frames) = _
      rw [hF]; rfl
    have hh0 : ∀ body, (A.in1.in1.in1.over (.func body ge) []).handled = none := fun _ => hh
    have room3 : Room A.in1.in1.in1 (j + 5) := (((room : Room A (j + 7 + 1)).in1 : Room A.in1 (j + 6 + 1)).in1 : Room A.in1.in1 (j + 5 + 1)).in1
    refine seg_execs_cons (seg_gsx (G := popG a S l (fun q => ns.contains q.1) (upd σ₂ S ⟨false, []⟩)) gb.ap (hA _) m6 (P := fun fl vars' σ' => fl = .next ∧ ∃ r, upd σ₂ S ⟨false, []⟩ r = none ∧ vars' = putv ([("self", .obj a), ("codes", .dat (.list (ns.map .int)))] : Vs) "remaining" (.obj r) ∧ σ' = upd (upd σ₂ S ⟨false, []⟩) r ⟨false, []⟩) (Ex_Assign (.inl rfl) (Ev_List (Sp_nil ⟨by simp, fun r hr => ⟨rfl, r, hr, rfl, rfl⟩⟩))) (fun vars1 σ4 s7 h7 m7 e7 => ?_) fun fl _ _ h => h.1)
    obtain ⟨_, r, hr, rfl, rfl⟩ := h7
    have hrS : r ≠ S := fun q => by rw [q, hL5] at hr; cases hr
    have hra : r ≠ a := fun q => by rw [q, ha5] at hr; cases hr
    refine seg_execs_cons (seg_gsx (G := popG a S l (fun q => ns.contains q.1) (upd σ₂ S ⟨false, []⟩)) gb.ap (hA _) m7 (P := fun fl vars' σ' => fl = .next ∧ vars' = putv (putv ([("self", .obj a), ("codes", .dat (.list (ns.map .int)))] : Vs) "remaining" (.obj r)) "codes" (.set false fun k => ns.contains k) ∧ σ' = upd (upd σ₂ S ⟨false, []⟩) r ⟨false, []⟩) (Ex_Assign (.inl rfl) (Ev_CallT x.ok x.kf.nset rfl (Sp_cons (Ev_Name (lk_ne rfl (by decide)) (Sp_nil (On_set (hh0 _) Items_codes hn ⟨rfl, rfl, rfl⟩)))))) (fun vars2 σ5 s8 h8 m8 e8 => ?_) fun fl _ _ h => h.1)
    obtain ⟨_, rfl, rfl⟩ := h8
    refine seg_execs_cons (seg_For ?_)
    have a8 : upd (upd σ₂ S ⟨false, []⟩) r ⟨false, []⟩ a = some ⟨true, tagsOf l⟩ := by rw [upd_ne (Ne.symm hra)]; exact ha5
    refine Ev_Name (C := C) (F := ⟨ge, putv (putv ([("self", .obj a), ("codes", .dat (.list (ns.map .int)))] : Vs) "remaining" (.obj r)) "codes" (.set false fun k => ns.contains k), ge :: F.fs⟩) (P := fun b σ' => b = .obj a ∧ σ' = upd (upd σ₂ S ⟨false, []⟩) r ⟨false, []⟩) (lk_ne (lk_ne rfl (by decide)) (by decide)) ⟨rfl, rfl⟩ (by decide) (by decide) s8 (m8.g.at (hA _)) _ fun b v σ6 s9 h9 st9 r9 e9 => ?_
    obtain ⟨rfl, rfl⟩ := h9
    refine Src.iter x.ok x.kf.T st9 (.seq (by nofun) (.tags a8)) r9 fun it s10 hge hB st10 e10 I10 => ?_
    intro cp
    have m10 := m8.ran gb.ap st10 ((e9.trans e10).mono (by simp))
    have h0 : popσ r S l (fun q => ns.contains q.1) (upd σ₂ S ⟨false, []⟩) 0 = upd (upd σ₂ S ⟨false, []⟩) r ⟨false, []⟩ := by
      unfold popσ
      exact upd_eq (by rw [upd_ne (Ne.symm hrS)]; exact hL5)
    have hge5 : s₅.heap.objs.size ≤ it := Nat.le_trans m8.e.sz (Nat.le_trans e9.sz hge)
    refine seg_pop x (cp := cp) hF3 hh room3 rfl gb.ap rfl rfl rfl hB hge5 ha5 hL5 hr hl (fun Al vars σ' q rem g1 g2 g3 g4 => ?_) (fun s₀' vars s11 m11 g1 g3 => ?_) l.length 0 _ s10 _ rfl (Nat.zero_le _) (h0 ▸ m10) (h0 ▸ I10) (lk_ne (lk_ne rfl (by decide)) (by decide)) lk_self (lk_ne lk_self (by decide))
    · exact Ex_Expr (Ev_Meth x.ok (Ev_Name g1 ⟨_, _, MethTo_append g3, KeepOk.builtin _, Sp_cons <| Ev_Name g2 <| Sp_nil <| On_append x.ok x.kf.T g3 (by omega) ⟨rfl, rfl, rfl⟩⟩))
    · have hpa : popσ r S l (fun q => ns.contains q.1) (upd σ₂ S ⟨false, []⟩) l.length a = some ⟨true, tagsOf l⟩ := by
        unfold popσ; rw [upd_ne (fun q => by rw [q, hσS] at ha; cases ha), upd_ne (Ne.symm hra)]; exact ha5
      have hpr : popσ r S l (fun q => ns.contains q.1) (upd σ₂ S ⟨false, []⟩) l.length r = some ⟨false, tagsOf (l.filter fun q => !ns.contains q.1)⟩ := by
        unfold popσ; rw [upd_ne hrS, upd_self, List.take_length]
      refine seg_execs_cons (seg_gsx (G := popG a S l (fun q => ns.contains q.1) (upd σ₂ S ⟨false, []⟩)) gb.ap (hA _) m11 (P := fun fl vars' σ' => fl = .next ∧ σ' = upd (popσ r S l (fun q => ns.contains q.1) (upd σ₂ S ⟨false, []⟩) l.length) a ⟨true, tagsOf (l.filter fun q => !ns.contains q.1)⟩)
        (Ex_SetAll x.ok x.kf.T (Ev_Name g3 (Ev_Name g1 ⟨a, r, _, _, rfl, rfl, hpa, hpr, by rw [tagsOf_len]; omega, by rw [tagsOf_len]; exact Nat.le_trans (List.length_filter_le _ _) (by omega), rfl, rfl⟩))) (fun vars' σ' s12 h12 m12 e12 => ?_) fun fl _ _ h => h.1)
      refine seg_execs_nil (seg_gend (G := popG a S l (fun q => ns.contains q.1) (upd σ₂ S ⟨false, []⟩)) ⟨r, hr, ?_⟩ m12)
      rw [h12.2]
      unfold popσ
      rw [List.take_length, List.take_of_length_le (by rw [tagsOf_len]; exact Nat.le_refl _)]
  have rdeep : A.depth < recursionLimit := (room.less (j := 1) (by omega)).deep (Nat.le_refl _)
  refine pop_draw x.ok (A₀ := A.in1) hh rdeep hL5 gb5 hl (fun σ' s' hen st' e' => ?_) _ 0 _ s₅ _ s₅ _ rfl (Nat.zero_le _) K0 m5 rfl (.refl ..) rfl (by rw [hL5]; rfl)
  obtain ⟨r, hr', rfl⟩ := hen
  refine ⟨rfl, ?_⟩
  have hrS : r ≠ S := fun q => by rw [q, hL5] at hr'; cases hr'
  have hr2 : σ₂ r = none := by rw [upd_ne hrS] at hr'; exact hr'
  have hra : r ≠ a := fun q => by rw [q, ha] at hr2; cases hr2
  have sub : Sub (upd (upd σ₂ S ⟨false, tagsOf (l.filter fun q => ns.contains q.1)⟩) a ⟨true, tagsOf (l.filter fun q => !ns.contains q.1)⟩) (upd (upd (upd (upd σ₂ S ⟨false, []⟩) r ⟨false, tagsOf (l.filter fun q => !ns.contains q.1)⟩) S ⟨false, tagsOf (l.filter fun q => ns.contains q.1)⟩) a ⟨true, tagsOf (l.filter fun q => !ns.contains q.1)⟩) := by
    refine Sub.updBoth ?_ _ _
    rw [upd_comm hrS, upd_upd]
    refine Sub.upd ?_
    rw [upd_ne hrS]; exact hr2
  have big := Step.shrink (((((e₀.trans e₁).trans e₂).trans e₃).trans e5)) e' (S' := []) (Fs' := F.frs) (fun c hc => .inr (Nat.le_trans ((e₀.trans e₁).trans e₂).sz (own c hc))) fun c hc => .inl hc
  exact hQ (.obj S) (.ref S) _ s' (hP S hσS) (st'.forget sub) (.obj S) (big.sub sub)
end
end Mine
end

section
open PySem PySem.W PyProof.Rows PySem.Calls PySem.SeqAt
set_option Elab.async false
set_option maxRecDepth 100000
set_option linter.unusedVariables false
namespace Mine
theorem capVars_get {cl : List (Str × Addr)} {y : Str} {a : AV} (hc : (cl.lookup y).isSome = true) : ∀ {vars : List (Str × AV)}, vars.lookup y = some a → (capVars vars cl).lookup y = some a
  | [], h => by simp at h
  | (n, b) :: r, h => by
    unfold capVars
    rw [List.filter_cons]
    rw [List.lookup_cons] at h
    cases hb : y == n with
    | true =>
      have e : y = n := beq_iff_eq.mp hb
      subst e
      rw [hb] at h
      rw [if_pos hc, List.lookup_cons, hb]
      exact h
    | false =>
      rw [hb] at h
      split
      · rw [List.lookup_cons, hb]; exact capVars_get hc h
      · exact capVars_get hc h

/-! what can be compared -/
theorem canLay_pr {q : Pr} (h : shaped (.str q.2) = true) : (prD q).canLay0 = true := by
  have h1 : PyData.strOk q.2 = true := by have := canLay_of_shaped h; simpa [PyData.canLay0] using this
  simp [prD, PyData.canLay0, PyData.canLayAll0, h1]
theorem canLay_prs {l : List Pr} (h : Ok l) : PyData.canLayAll0 (l.map prD) = true := by
  induction l with
  | nil => simp [PyData.canLayAll0]
  | cons q r ih =>
    rw [List.map_cons]
    simp [PyData.canLayAll0, canLay_pr (h q List.mem_cons_self), ih fun x hx => h x (List.mem_cons_of_mem _ hx)]
theorem depth_prs (l : List Pr) : PyData.depthAll (l.map prD) ≤ 1 := by
  induction l with
  | nil => simp [PyData.depthAll]
  | cons q r ih =>
    rw [List.map_cons]
    have : (prD q).depth = 1 := by simp [prD, PyData.depth, PyData.depthAll]
    simp only [PyData.depthAll, this]; omega
theorem shaped_prs {l : List Pr} (h : Ok l) : shaped (.list (l.map prD)) = true := by
  unfold shaped
  have h1 : (PyData.list (l.map prD)).canLay0 = true := by rw [PyData.canLay0]; exact canLay_prs h
  have h2 := depth_prs l
  have h3 : (PyData.list (l.map prD)).depth ≤ 64 := by rw [PyData.depth]; omega
  rw [h1, Bool.true_and]; exact decide_eq_true h3
theorem eqv_prs {l : List Pr} (h : Ok l) : PyData.eqv (.list (l.map prD)) (.list (l.map prD)) = true := eqv_refl _ (canLay_of_shaped (shaped_prs h))
theorem canLay_ints (ns : List Int) : PyData.canLayAll0 (ns.map .int) = true := by
  induction ns with
  | nil => simp [PyData.canLayAll0]
  | cons q r ih => rw [List.map_cons]; simp [PyData.canLayAll0, PyData.canLay0, ih]
theorem any_ints (ns : List Int) (c : Int) : ((ns.map PyData.int).any fun y => PyData.eqv y (.int c)) = ns.contains c := by
  induction ns with
  | nil => rfl
  | cons n r ih =>
    rw [List.map_cons, List.any_cons, ih, List.contains_cons]
    have : PyData.eqv (.int n) (.int c) = (c == n) := by
      show (n == c) = _
      exact Bool.beq_comm
    rw [this]
theorem IsDs_prs {σ : Store} {p : Addr} {l : List Pr} (h : σ p = some ⟨false, datsOf l⟩) : IsD σ (.obj p) (.list (l.map prD)) := by
  refine .list h ?_
  have : datsOf l = (l.map prD).map .dat := by simp [datsOf]
  rw [this]; exact IsDs.map _

section
variable {C : Cx} {P0 : Params} {A : Around} {F : Fm} {σ : Store} {P : AV → Store → Prop}
/-- what [y for y in pairs if ..] needs -/
theorem filtI {scope : Scope} {cl : List (Str × Addr)} {p1 p2 : Pos} {y : Str} (hy : scope.names.lookup y = some .local) {test : Expr} {pv : AV} {l : List Pr} {pr : Pr → Bool} (hp : Items σ pv .list (datsOf l)) (hl : l.length ≤ 1000)
    (ht : ∀ (D : Addr) (q : Pr) (σ' : Store), q ∈ l → Agr σ σ' → Te C A ⟨cEnv scope (cellsFrom (D + 1) scope.names cl) D F.env, putv (capVars F.vars cl) y (.dat (prD q)), F.fs⟩ σ' test fun b σ'' => b = pr q ∧ σ'' = σ')
    {R : Addr → Store → Prop} (hP : ∀ D σ', σ D = none → Agr σ σ' → σ' D = some ⟨false, datsOf (l.filter pr)⟩ → R D σ') (hd : (y == ("__debug__" : Str)) = false) (hn : (y == ("__classdict__" : Str)) = false) :
    ∃ xs I, CompI C A F σ scope cl (.Name y p2) (.Name y p1) [test] pv xs I ∧ ∀ D outs σ', σ D = none → I xs.length outs σ' → σ' D = some ⟨false, outs⟩ → R D σ' := by
  have hlen : (datsOf l).length = l.length := by simp [datsOf]
  refine ⟨datsOf l, fun i outs σ' => outs = datsOf ((l.take i).filter pr) ∧ Agr σ σ', ⟨.seq (k := .list) (by nofun) hp, LetOk_Name, by omega, ⟨rfl, .refl _⟩, fun i outs σ' σ'' h hag => ⟨h.1, h.2.loc hag⟩, fun i outs σ' h => .seq (k := .list) (by nofun) (hp.agr h.2), ?_⟩, ?_⟩
  · rintro D i v hv outs σ' ⟨rfl, hag⟩ hdm
    obtain ⟨q, hq, rfl⟩ := datsOf_get hv
    have ft : datsOf ((l.take (i + 1)).filter pr) = datsOf ((l.take i).filter pr) ++ (if pr q = true then [AV.dat (prD q)] else []) := filterMap_take (p := pr) (f := fun q : Pr => AV.dat (prD q)) hq
    refine ⟨_, pr q, CAsg_Name (by rw [cEnv_kindOf, hy]; rfl), Ti_one (ht D q σ' (List.mem_of_getElem? hq) hag), fun h => Ev_Name lk_self ⟨fun _ _ _ => rfl, hdm, ?_, hag⟩ hd hn, fun hf => ⟨?_, hag⟩⟩
    · exact (by rw [ft, if_pos h] : datsOf ((l.take (i + 1)).filter pr) = _).symm
    · exact (by rw [ft, if_neg (by simp [hf]), List.append_nil] : datsOf ((l.take (i + 1)).filter pr) = _).symm
  · rintro D outs σ' hD ⟨rfl, hag⟩ hD'
    rw [List.take_of_length_le (by omega)] at hD'
    exact hP D σ' hD hag hD'
/-- [y for y in pairs if ..] -/
theorem Ev_Filt (ok : C.Ok) (T : TF C.K) (hh : A.handled = none) {scope : Scope} {cl : List (Str × Addr)} {pos p1 p2 : Pos} (cs : CompS scope F.env cl) {y : Str} (hy : scope.names.lookup y = some .local) {iterE test : Expr} {pv : AV} {l : List Pr} {pr : Pr → Bool} (hp : Items σ pv .list (datsOf l)) (hl : l.length ≤ 1000)
    (he : Ev C A F σ iterE fun b σ₁ => b = pv ∧ σ₁ = σ)
    (ht : ∀ (D : Addr) (q : Pr) (σ' : Store), q ∈ l → Agr σ σ' → Te C A ⟨cEnv scope (cellsFrom (D + 1) scope.names cl) D F.env, putv (capVars F.vars cl) y (.dat (prD q)), F.fs⟩ σ' test fun b σ'' => b = pr q ∧ σ'' = σ')
    (hP : ∀ D σ', σ D = none → Agr σ σ' → σ' D = some ⟨false, datsOf (l.filter pr)⟩ → P (.obj D) σ')
    (hs : ∀ x, foldedSetIterable iterE F.env x = pure x := by intro _; rfl) (hd : (y == ("__debug__" : Str)) = false := by decide) (hn : (y == ("__classdict__" : Str)) = false := by decide) :
    Ev C A F σ (.ListComp (.Name y p1) [⟨.Name y p2, iterE, [test], 0⟩] scope pos) P :=
  Ev_ListComp ok T hh cs hy (he.mono fun b σ₁ ⟨h1, h2⟩ => by
    subst h1; subst h2
    exact filtI hy hp hl ht hP hd hn) hs
/-- z = [y for y in pairs if ..] -/
theorem Ex_AssignFilt (ok : C.Ok) (T : TF C.K) (hh : A.handled = none) {P : FP} {scope : Scope} {cl : List (Str × Addr)} {pos spos pz p1 p2 : Pos} {z : Str} (cs : CompS scope F.env cl) {y : Str} (hy : scope.names.lookup y = some .local) (hz : F.env.kindOf z = some .local) {iterE test : Expr}
    (hsw : swapsWith (.ListComp (.Name y p1) [⟨.Name y p2, iterE, [test], 0⟩] scope pos) (some (.Name z pz)) spos.line F.env = pure true) {pv : AV} {l : List Pr} {pr : Pr → Bool} (hp : Items σ pv .list (datsOf l)) (hl : l.length ≤ 1000)
    (he : Ev C A F σ iterE fun b σ₁ => b = pv ∧ σ₁ = σ)
    (ht : ∀ (D : Addr) (q : Pr) (σ' : Store), q ∈ l → Agr σ σ' → Te C A ⟨cEnv scope (cellsFrom (D + 1) scope.names cl) D F.env, putv (capVars F.vars cl) y (.dat (prD q)), F.fs⟩ σ' test fun b σ'' => b = pr q ∧ σ'' = σ')
    (hP : ∀ D σ', σ D = none → Agr σ σ' → σ' D = some ⟨false, datsOf (l.filter pr)⟩ → P .next (putv F.vars z (.obj D)) σ')
    (hs : ∀ x, foldedSetIterable iterE F.env x = pure x := by intro _; rfl) (hd : (y == ("__debug__" : Str)) = false := by decide) (hn : (y == ("__classdict__" : Str)) = false := by decide) :
    Ex C A F σ (.Assign [.Name z pz] (.ListComp (.Name y p1) [⟨.Name y p2, iterE, [test], 0⟩] scope pos) spos) P :=
  Ex_AssignComp ok T hh cs hy hz hsw (he.mono fun b σ₁ ⟨h1, h2⟩ => by
    subst h1; subst h2
    exact filtI hy hp hl ht hP hd hn) hs

/-- one[0] in codes -/
theorem Te_in0 (x : Bx C P0) (room : Room A 0) {y cn : Str} {q : Pr} {ns : List Int} {p1 p2 p3 p4 p5 : Pos} {k} {PB : Bool → Store → Prop} (hv : F.vars.lookup y = some (.dat (prD q))) (hc : F.vars.lookup cn = some (.dat (.list (ns.map .int)))) (h : PB (ns.contains q.1) σ)
    (hd : (y == ("__debug__" : Str)) = false := by decide) (hn : (y == ("__classdict__" : Str)) = false := by decide) (hd' : (cn == ("__debug__" : Str)) = false := by decide) (hn' : (cn == ("__classdict__" : Str)) = false := by decide) :
    Te C A F σ (.Compare (.Subscript (.Name y p1) (.Constant (.int 0) k p2) p3) [.In] [.Name cn p4] p5) PB :=
  Te_Cmp (hm := rfl) <| Ev_Sub <| Ev_Name hv (Ev_int <| O2_item (x := .int q.1) x.ok x.kf.T (.datT _) (by decide) rfl (by decide) <| Ev_Name hc (O2_inL (d := .int q.1) (ds := ns.map .int) room (.dat _) (.dat _) rfl (canLay_ints ns) ⟨_, rfl, by rw [any_ints]; exact h⟩) hd' hn') hd hn
theorem Te_notIn0 (x : Bx C P0) (room : Room A 0) {y cn : Str} {q : Pr} {ns : List Int} {p1 p2 p3 p4 p5 : Pos} {k} {PB : Bool → Store → Prop} (hv : F.vars.lookup y = some (.dat (prD q))) (hc : F.vars.lookup cn = some (.dat (.list (ns.map .int)))) (h : PB (!ns.contains q.1) σ)
    (hd : (y == ("__debug__" : Str)) = false := by decide) (hn : (y == ("__classdict__" : Str)) = false := by decide) (hd' : (cn == ("__debug__" : Str)) = false := by decide) (hn' : (cn == ("__classdict__" : Str)) = false := by decide) :
    Te C A F σ (.Compare (.Subscript (.Name y p1) (.Constant (.int 0) k p2) p3) [.NotIn] [.Name cn p4] p5) PB :=
  Te_Cmp (hm := rfl) <| Ev_Sub <| Ev_Name hv (Ev_int <| O2_item (x := .int q.1) x.ok x.kf.T (.datT _) (by decide) rfl (by decide) <| Ev_Name hc (O2_notInL (d := .int q.1) (ds := ns.map .int) room (.dat _) (.dat _) rfl (canLay_ints ns) ⟨_, rfl, by rw [any_ints]; exact h⟩) hd' hn') hd hn

/-- _law_pairs of any list of tags -/
theorem fn_pairsI (x : Bx C P0) {pv : AV} {k : SK} {l : List Pr} (hk : k ≠ .tuple) (hp : Items σ pv k (tagsOf l)) (hl : l.length ≤ 1000) : Fn C 4 355 [pv] σ fun r σ' => r = .dat (.list (l.map prD)) ∧ σ' = σ := by
  refine Fn_at x.ok (FnOk.cast x.hK ⟨⟨_, rfl, rfl⟩, rfl, rfl, rfl, rfl, rfl, rfl, _, _, _, _, rfl, rfl, rfl, rfl⟩) rfl rfl ["rows"] rfl (fun vs h => by obtain ⟨v, rfl⟩ := len1 h; rfl) rfl (by decide) rfl (by decide) ⟨"rows", by simp, rfl⟩ fun A L fs q room hh => ?_
  dsimp only
  refine Exs_cons (Ex_Return (Ev_ListComp x.ok x.kf.T hh (cl := []) ⟨rfl, rfl, by decide, by simp⟩ (y := "one") rfl (Ev_Name rfl ⟨tagsOf l, fun i outs σ' => outs = (datsOf l).take i ∧ Agr σ σ', ⟨.seq hk hp, LetOk_Name, by simp [tagsOf]; omega, ⟨rfl, .refl _⟩, fun i outs σ' σ'' h hag => ⟨h.1, h.2.loc hag⟩, fun i outs σ' h => .seq hk (hp.agr h.2), ?_⟩, ?_⟩)))
  · rintro D i v hv outs σ' ⟨rfl, h2⟩ hdm
    obtain ⟨p, hp, rfl⟩ : ∃ p, l[i]? = some p ∧ .tag p.1 p.2 = v := by
      simpa [tagsOf] using hv
    refine ⟨_, true, CAsg_Name rfl, Ti_nil ⟨rfl, rfl⟩, fun _ => ?_, nofun⟩
    refine Ev_Tuple (Sp_cons (Ev_Attr (Ev_Name rfl (O1_code P0 x.hK x.ok x.kf (j := 1) room hh (Sp_cons (Ev_Attr (Ev_Name rfl (O1_value P0 x.hK x.ok x.kf (j := 1) room hh (Sp_nil ⟨[.int p.1, .str p.2], rfl, by simp, fun _ _ _ => rfl, hdm, ?_, h2⟩)))))))))
    rw [List.take_add_one]
    simp [datsOf, hp, prD]
  · rintro D outs σ' hD ⟨rfl, h2⟩ hD'
    refine Up.froze (ds := l.map prD) ⟨rfl, rfl⟩ h2.sub ?_ hD
    rw [hD', List.take_of_length_le (by simp [tagsOf, datsOf])]
    simp [datsOf, Function.comp_def]
end
end Mine
end

section
open PySem PySem.W PyProof.Rows PySem.Calls PySem.SeqAt
set_option Elab.async false
set_option maxRecDepth 100000
set_option linter.unusedVariables false
namespace Mine
/-- the deed on a plain list -/
def doneL (kind : Int) (q : Pr) (ns : List Int) (l : List Pr) : List Pr :=
  if kind = 0 then (match firstAt l q.1 0 l.length with | some k => l.set k q | none => l)
  else if kind = 1 then setFirst l q
  else if kind = 2 then l.filter fun q => !ns.contains q.1
  else if kind = 3 then l.filter fun q => ns.contains q.1
  else if kind = 4 then l.filter fun q => !ns.contains q.1
  else if kind = 5 then replH q.2 l
  else l ++ [q]

/-- what stands behind a deed -/
def DoneP (a p : Addr) (σ : Store) (l' : List Pr) : AV → Store → Prop := fun r σ' => ∃ R p', r = .obj R ∧ σ' R = some ⟨false, [.bool true, .obj p']⟩ ∧ σ' a = some ⟨true, tagsOf l'⟩ ∧ σ' p' = some ⟨false, datsOf l'⟩ ∧ ∀ y, σ y ≠ none → y ≠ a → y ≠ p → σ' y = σ y

theorem firstAt_lt {l : List Pr} {code : Int} {k : Nat} (h : firstAt l code 0 l.length = some k) : k < l.length := by
  unfold firstAt at h
  have := List.mem_of_find?_eq_some h
  have := (List.mem_range'_1.mp this).2
  omega

section
variable {C : Cx} {P0 : Params} {A : Around} {F : Fm} {σ : Store} {P : AV → Store → Prop}
/-- DXFTag(pair[0], pair[1]) -/
theorem Ev_tagOf (x : Bx C P0) {j : Nat} (room : Room A (j + 1)) {y : Str} {q : Pr} {np p1 p2 p3 p4 p5 p6 pos : Pos} {k1 k2} (hv : F.vars.lookup y = some (.dat (prD q))) (h : P (.tag q.1 q.2) σ) (hk : F.env.kindOf "DXFTag" = some .globalImplicit)
    (hd : (y == ("__debug__" : Str)) = false := by decide) (hn : (y == ("__classdict__" : Str)) = false := by decide) :
    Ev C A F σ (.Call (.Name "DXFTag" np) [.Subscript (.Name y p1) (.Constant (.int 0) k1 p2) p3, .Subscript (.Name y p4) (.Constant (.int 1) k2 p5) p6] [] pos) P :=
  Ev_Call x.ok (Ev_Global x.ok hk (x.ok.val x.kf.vDXFTag) (a := .val (.ref TagC)) (fun h => .val _) ⟨.ref TagC, rfl, .ref x.kf.kvDXFTag, Sp_cons <| Ev_Sub <| Ev_Name hv (Ev_int <| O2_item (x := .int q.1) x.ok x.kf.T (.datT _) (by decide) rfl (by decide) <| Sp_cons <| Ev_Sub <| Ev_Name hv (Ev_int <| O2_item (x := .str q.2) x.ok x.kf.T (.datT _) (by decide) rfl (by decide) <| Sp_nil <| On_newTag x room h) hd hn) hd hn⟩)

/-- return [.., pairs] -/
theorem Ev_done {a p : Addr} {l' : List Pr} {σ0 : Store} {pos : Pos} {e1 e : Expr} (h1 : Ev C A F σ e1 fun b σ₁ => b = .bool true ∧ σ₁ = σ) (h : Ev C A F σ e fun b σ₁ => ∃ p', b = .obj p' ∧ σ₁ a = some ⟨true, tagsOf l'⟩ ∧ σ₁ p' = some ⟨false, datsOf l'⟩ ∧ ∀ y, σ0 y ≠ none → y ≠ a → y ≠ p → σ₁ y = σ0 y)
    (hst1 : ∀ env, starEach [e1, e] env = (false, eval e1 env) :: starEach [e] env := by intro _; rfl) (hst : ∀ env, starEach [e] env = (false, eval e env) :: starEach [] env := by intro _; rfl) :
    Ev C A F σ (.List [e1, e] pos) (Up (DoneP a p σ0 l')) := by
  refine Ev_List (Sp_cons (h1.mono fun b₁ σ₁ ⟨hb₁, hσ₁⟩ => ?_) hst1)
  subst hb₁; subst hσ₁
  refine Sp_cons (h.mono fun b σ₁ ⟨p', hb, h1, h2, h3⟩ => ?_) hst
  subst hb
  refine Sp_nil ⟨by simp, fun R hR => Up.now ⟨R, p', rfl, upd_self _ _ _, ?_, ?_, fun y hy hya hyp => ?_⟩⟩
  · rw [upd_ne (fun q => by rw [q, hR] at h1; cases h1)]; exact h1
  · rw [upd_ne (fun q => by rw [q, hR] at h2; cases h2)]; exact h2
  · have := h3 y hy hya hyp
    rw [upd_ne (fun q => by rw [q, hR] at this; exact hy (by rw [q]; exact this.symm))]; exact this

theorem upd_keep {a p : Addr} {o : AObj} {σ : Store} : ∀ y, σ y ≠ none → y ≠ a → y ≠ p → upd σ a o y = σ y := fun y _ hy _ => upd_ne hy
theorem upd_keep2 {a p : Addr} {o o' : AObj} {σ : Store} : ∀ y, σ y ≠ none → y ≠ a → y ≠ p → upd (upd σ a o) p o' y = σ y := fun y _ hy hp => by rw [upd_ne hp, upd_ne hy]

set_option maxHeartbeats 2000000 in
theorem fn_done (x : Bx C P0) {a p : Addr} {l : List Pr} {q : Pr} {kind : Int} {ns : List Int} (ha : σ a = some ⟨true, tagsOf l⟩) (hp : σ p = some ⟨false, datsOf l⟩) (hl : l.length ≤ 900) (hn : ns.length ≤ 900) (hok : Ok l) (hq : shaped (.str q.2) = true) :
    Fn C 10 389 [.obj a, .obj p, .int kind, .dat (prD q), .dat (.list (ns.map .int))] σ (DoneP a p σ (doneL kind q ns l)) := by
  refine Fn_at x.ok (FnOk.cast x.hK ⟨⟨_, rfl, rfl⟩, rfl, rfl, rfl, rfl, rfl, rfl, _, _, _, _, rfl, rfl, rfl, rfl⟩) rfl rfl ["rows", "pairs", "kind", "pair", "codes"] rfl (fun vs h => by obtain ⟨v1, v2, v3, v4, v5, rfl⟩ := len5 h; rfl) rfl (by decide) rfl (by decide) ⟨"rows", by simp, rfl⟩ fun A L fs qq room hh => ?_
  have hap : p ≠ a := fun e => by rw [e, ha] at hp; cases hp
  have hdl : (datsOf l).length = l.length := by simp [datsOf]
  have room0 : Room A 0 := room.less (Nat.zero_le _)
  generalize hvars : (["rows", "pairs", "kind", "pair", "codes"] : List Str).zip [AV.obj a, AV.obj p, AV.int kind, AV.dat (prD q), AV.dat (.list (ns.map .int))] = vars
  have v1 : lk vars "rows" = some (.obj a) := by rw [← hvars]; kernel_rfl
  have v2 : lk vars "pairs" = some (.obj p) := by rw [← hvars]; kernel_rfl
  have v3 : lk vars "kind" = some (.int kind) := by rw [← hvars]; kernel_rfl
  have v4 : lk vars "pair" = some (.dat (prD q)) := by rw [← hvars]; kernel_rfl
  have v5 : lk vars "codes" = some (.dat (.list (ns.map .int))) := by rw [← hvars]; kernel_rfl
  refine Exs_cons <| Ex_Assign (.inl rfl) <| Ev_CallFn x.ok x.kf.vlaw_first x.kf.kvlaw_first (j := 9) room hh <| Sp_cons <| Ev_Name v2 <| Sp_cons <| Ev_Sub <| Ev_Name v4 <| Ev_int <| O2_item (x := .int q.1) x.ok x.kf.T (.datT _) (by decide) rfl (by decide) <| Sp_cons <| Ev_int <| Sp_cons <| Ev_CallB x.ok x.kf.nlen rfl <| Sp_cons <| Ev_Name v2 <| Sp_nil <| On_len x.ok x.kf.T (k := .list) (by nofun) (.obj hp) (by omega) <| Sp_nil ⟨2, by omega, ?_⟩
  rw [hdl]
  refine (fn_first x (i := 0) (j := l.length) (.obj hp) (Nat.le_refl _) (by omega) (by omega)).mono fun r σ' ⟨h1, h2⟩ => ?_
  subst h1; subst h2
  dsimp only
  have w1 : lk (putv vars "place" (optAV (firstAt l q.1 0 l.length))) "rows" = some (.obj a) := lk_ne v1 (by decide)
  have w2 : lk (putv vars "place" (optAV (firstAt l q.1 0 l.length))) "pairs" = some (.obj p) := lk_ne v2 (by decide)
  have w3 : lk (putv vars "place" (optAV (firstAt l q.1 0 l.length))) "kind" = some (.int kind) := lk_ne v3 (by decide)
  have w4 : lk (putv vars "place" (optAV (firstAt l q.1 0 l.length))) "pair" = some (.dat (prD q)) := lk_ne v4 (by decide)
  have w5 : lk (putv vars "place" (optAV (firstAt l q.1 0 l.length))) "codes" = some (.dat (.list (ns.map .int))) := lk_ne v5 (by decide)
  have w6 : lk (putv vars "place" (optAV (firstAt l q.1 0 l.length))) "place" = some (optAV (firstAt l q.1 0 l.length)) := lk_self
  generalize putv vars "place" (optAV (firstAt l q.1 0 l.length)) = vs at w1 w2 w3 w4 w5 w6
  clear v1 v2 v3 v4 v5 hvars
  unfold doneL
  refine Exs_cons <| Ex_If <| Te_Cmp <| Ev_Name w3 <| Ev_int <| O2_eqI ⟨_, rfl, ?_⟩
  by_cases hk0 : kind = 0
  · rw [if_pos (by simpa using hk0), if_pos hk0]
    refine Exs_cons <| Ex_Assign (.inl rfl) <| Ev_bool ?_
    cases hf : firstAt l q.1 0 l.length with
    | some k =>
      rw [hf] at w6
      have hk := firstAt_lt hf
      refine Exs_cons <| Ex_Try x (X := fun _ _ => False) rfl rfl (ExsX_cons <| ExX_Expr <| TvX_Meth (j := 9) x.ok room hh <| Ev_Name (lk_ne w1 (by decide)) ⟨_, _, MethTo_obj x.ok x.kf.pT ha x.kf.mupdate x.kf.tmupdate, KeepOk.ref x.kf.kmupdate, Sp_cons <| Ev_tagOf x (j := 8) room (lk_ne w4 (by decide)) (Sp_nil ⟨5, by omega, (fnx_update x ha (by omega)).mono (fun r σ'' ⟨k', h1, h2, h3⟩ => ?_) fun σ'' ⟨h1, h2⟩ => by rw [hf] at h1; cases h1⟩) rfl⟩) fun e vars σ₁ h => h.elim
      rw [hf] at h1; cases h1; subst h3
      refine ExsX_nil <| Exs_cons <| Ex_If <| Te_Cmp <| Ev_Name (lk_ne w6 (by decide)) <| Ev_none <| O2_isNotNone rfl ⟨_, rfl, ?_⟩
      rw [if_pos (show (!isN (.int k)) = true from rfl)]
      refine Exs_cons <| Ex_SetItem x.ok x.kf.T <| Ev_Name (lk_ne w4 (by decide)) <| Ev_Name (lk_ne w2 (by decide)) <| Ev_Name (lk_ne w6 (by decide)) ⟨p, false, _, k, rfl, rfl, (upd_ne hap).trans hp, by omega, by rw [hdl]; omega, by omega, ?_⟩
      refine Exs_nil <| Exs_cons <| Ex_Return <| Ev_done (Ev_Cmp (Ev_Name lk_self (Ev_Cmp (Ev_Name (lk_ne w6 (by decide)) (Ev_none (O2_isNone rfl (O2_eqD room0 (.dat _) (.dat _) (by decide) rfl ⟨rfl, rfl⟩))))))) <| Ev_Name (lk_ne w2 (by decide)) ⟨p, rfl, ?_, ?_, upd_keep2⟩
      · rw [upd_ne (Ne.symm hap), upd_self]
      · rw [upd_self, Int.toNat_natCast]; simp [datsOf, List.map_set]
    | none =>
      rw [hf] at w6
      refine Exs_cons <| Ex_Try x (X := fun vars' σ₁ => vars' = putv vs "missing" (.bool false) ∧ σ₁ = σ') rfl rfl (ExsX_cons <| ExX_Expr <| TvX_Meth (j := 9) x.ok room hh <| Ev_Name (lk_ne w1 (by decide)) ⟨_, _, MethTo_obj x.ok x.kf.pT ha x.kf.mupdate x.kf.tmupdate, KeepOk.ref x.kf.kmupdate, Sp_cons <| Ev_tagOf x (j := 8) room (lk_ne w4 (by decide)) (Sp_nil ⟨5, by omega, (fnx_update x ha (by omega)).mono (fun r σ'' ⟨k', h1, _⟩ => by rw [hf] at h1; cases h1) fun σ'' ⟨_, h2⟩ => ⟨rfl, h2⟩⟩) rfl⟩) fun e vars σ₁ ⟨hv, hσ⟩ => ?_
      subst hv; subst hσ
      refine Exs_cons <| Ex_Assign (.inl rfl) <| Ev_bool <| Exs_nil ?_
      have g2 : lk (putv (putv vs "missing" (.bool false)) "missing" (.bool true)) "pairs" = some (.obj p) := lk_ne (lk_ne w2 (by decide)) (by decide)
      have g6 : lk (putv (putv vs "missing" (.bool false)) "missing" (.bool true)) "place" = some .none := lk_ne (lk_ne w6 (by decide)) (by decide)
      refine Exs_cons <| Ex_If <| Te_Cmp <| Ev_Name g6 <| Ev_none <| O2_isNotNone rfl ⟨_, rfl, ?_⟩
      rw [if_neg (show ¬ ((!isN .none) = true) from by decide)]
      exact Exs_nil <| Exs_cons <| Ex_Return <| Ev_done (Ev_Cmp (Ev_Name lk_self (Ev_Cmp (Ev_Name g6 (Ev_none (O2_isNone rfl (O2_eqD room0 (.dat _) (.dat _) (by decide) rfl ⟨rfl, rfl⟩))))))) <| Ev_Name g2 ⟨p, rfl, ha, hp, fun y _ _ _ => rfl⟩
  rw [if_neg (by simpa using hk0), if_neg hk0]
  refine Exs_nil ?_
  refine Exs_cons <| Ex_If <| Te_Cmp <| Ev_Name w3 <| Ev_int <| O2_eqI ⟨_, rfl, ?_⟩
  by_cases hk1 : kind = 1
  · rw [if_pos (by simpa using hk1), if_pos hk1]
    refine Exs_cons <| Ex_Expr <| Ev_Meth x.ok <| Ev_Name w1 ⟨_, _, MethTo_obj x.ok x.kf.pT ha x.kf.mset_first x.kf.tmset_first, KeepOk.ref x.kf.kmset_first, Sp_cons <| Ev_tagOf x (j := 8) room w4 (Sp_nil <| ((fn_set_first x ha (by omega)).mono fun r σ'' ⟨h1, h2⟩ => ?_).on (j := 9) room (by omega) hh) rfl⟩
    subst h2
    have hp2 : upd σ' a ⟨true, tagsOf (setFirst l q)⟩ p = some ⟨false, datsOf l⟩ := (upd_ne hap).trans hp
    refine Exs_cons <| Ex_If <| Te_Cmp <| Ev_Name w6 <| Ev_none ?_
    cases hf : firstAt l q.1 0 l.length with
    | some k =>
      have hk := firstAt_lt hf
      rw [hf] at w6
      refine O2_isNone rfl ⟨_, rfl, ?_⟩
      rw [if_neg (show ¬ (isN (.int k) = true) from Bool.false_ne_true)]
      refine Exs_cons <| Ex_SetItem x.ok x.kf.T <| Ev_Name w4 <| Ev_Name w2 <| Ev_Name w6 ⟨p, false, _, k, rfl, rfl, hp2, by omega, by rw [hdl]; omega, by omega, ?_⟩
      refine Exs_nil <| Exs_cons <| Ex_Return <| Ev_done (Ev_bool ⟨rfl, rfl⟩) <| Ev_Name w2 ⟨p, rfl, ?_, ?_, upd_keep2⟩
      · rw [upd_ne (Ne.symm hap), upd_self]
      · rw [upd_self, Int.toNat_natCast]; unfold setFirst; rw [hf]; simp [datsOf, List.map_set]
    | none =>
      refine O2_isNone rfl ⟨_, rfl, ?_⟩
      rw [if_pos (show isN .none = true from rfl)]
      refine Exs_cons <| Ex_Expr <| Ev_Meth x.ok <| Ev_Name w2 ⟨_, _, MethTo_append hp2, KeepOk.builtin _, Sp_cons <| Ev_Name w4 <| Sp_nil <| On_append x.ok x.kf.T hp2 (by omega) ?_⟩
      refine Exs_nil <| Exs_cons <| Ex_Return <| Ev_done (Ev_bool ⟨rfl, rfl⟩) <| Ev_Name w2 ⟨p, rfl, ?_, ?_, upd_keep2⟩
      · rw [upd_ne (Ne.symm hap), upd_self]
      · rw [upd_self]; unfold setFirst; rw [hf]; simp [datsOf]
  rw [if_neg (by simpa using hk1), if_neg hk1]
  refine Exs_nil ?_
  -- a list made of what passes, behind a change of the tags
  have fin : ∀ {D : Addr} {σ3 : Store} {l' : List Pr} {o : AObj}, o = ⟨true, tagsOf l'⟩ → Agr (upd σ' a o) σ3 → σ3 D = some ⟨false, datsOf l'⟩ → ∃ p', AV.obj D = .obj p' ∧ σ3 a = some ⟨true, tagsOf l'⟩ ∧ σ3 p' = some ⟨false, datsOf l'⟩ ∧ ∀ y, σ' y ≠ none → y ≠ a → y ≠ p → σ3 y = σ' y := fun {D σ3 l' o} ho hag hD => by
    subst ho
    refine ⟨D, rfl, hag.get (upd_self _ _ _), hD, fun y hy hya _ => ?_⟩
    have h := hag y (by rw [upd_ne hya]; exact hy)
    rw [h, upd_ne hya]
  refine Exs_cons <| Ex_If <| Te_Cmp <| Ev_Name w3 <| Ev_int <| O2_eqI ⟨_, rfl, ?_⟩
  by_cases hk2 : kind = 2
  · rw [if_pos (by simpa using hk2), if_pos hk2]
    refine Exs_cons <| Ex_Expr <| Ev_Meth x.ok <| Ev_Name w1 ⟨_, _, MethTo_obj x.ok x.kf.pT ha x.kf.mremove_tags x.kf.tmremove_tags, KeepOk.ref x.kf.kmremove_tags, Sp_cons <| Ev_Name w5 <| Sp_nil <| ((fn_remove x ha (by omega) Items_codes hn).mono fun r σ'' ⟨h1, h2⟩ => ?_).on (j := 9) room (by omega) hh⟩
    subst h2
    have hp2 : upd σ' a ⟨true, tagsOf (l.filter fun q => !ns.contains q.1)⟩ p = some ⟨false, datsOf l⟩ := (upd_ne hap).trans hp
    exact Exs_cons <| Ex_Return <| Ev_done (Ev_bool ⟨rfl, rfl⟩) <| Ev_Filt x.ok x.kf.T hh (cl := [("codes", L + 1)]) ⟨rfl, rfl, by decide, by simp; exact .inl rfl⟩ (y := "one") rfl (pr := fun q => !ns.contains q.1) (.obj hp2) (by omega) (Ev_Name w2 ⟨rfl, rfl⟩) (fun D q σ3 _ _ => Te_notIn0 x room0 lk_self (lk_ne (capVars_get rfl w5) (by decide)) ⟨rfl, rfl⟩) fun D σ3 hD hag hD' => fin rfl hag hD'
  rw [if_neg (by simpa using hk2), if_neg hk2]
  refine Exs_nil ?_
  refine Exs_cons <| Ex_If <| Te_Cmp <| Ev_Name w3 <| Ev_int <| O2_eqI ⟨_, rfl, ?_⟩
  by_cases hk3 : kind = 3
  · rw [if_pos (by simpa using hk3), if_pos hk3]
    refine Exs_cons <| Ex_Expr <| Ev_Meth x.ok <| Ev_Name w1 ⟨_, _, MethTo_obj x.ok x.kf.pT ha x.kf.mremove_tags_except x.kf.tmremove_tags_except, KeepOk.ref x.kf.kmremove_tags_except, Sp_cons <| Ev_Name w5 <| Sp_nil <| ((fn_except x ha (by omega) Items_codes hn).mono fun r σ'' ⟨h1, h2⟩ => ?_).on (j := 9) room (by omega) hh⟩
    subst h2
    have hp2 : upd σ' a ⟨true, tagsOf (l.filter fun q => ns.contains q.1)⟩ p = some ⟨false, datsOf l⟩ := (upd_ne hap).trans hp
    exact Exs_cons <| Ex_Return <| Ev_done (Ev_bool ⟨rfl, rfl⟩) <| Ev_Filt x.ok x.kf.T hh (cl := [("codes", L + 1)]) ⟨rfl, rfl, by decide, by simp; exact .inl rfl⟩ (y := "one") rfl (pr := fun q => ns.contains q.1) (.obj hp2) (by omega) (Ev_Name w2 ⟨rfl, rfl⟩) (fun D q σ3 _ _ => Te_in0 x room0 lk_self (lk_ne (capVars_get rfl w5) (by decide)) ⟨rfl, rfl⟩) fun D σ3 hD hag hD' => fin rfl hag hD'
  rw [if_neg (by simpa using hk3), if_neg hk3]
  refine Exs_nil ?_
  refine Exs_cons <| Ex_If <| Te_Cmp <| Ev_Name w3 <| Ev_int <| O2_eqI ⟨_, rfl, ?_⟩
  by_cases hk4 : kind = 4
  · rw [if_pos (by simpa using hk4), if_pos hk4]
    have hlf : (l.filter fun q => ns.contains q.1).length ≤ 900 := Nat.le_trans (List.length_filter_le _ _) hl
    refine Exs_cons <| Ex_Assign (.inl rfl) <| Ev_CallFn x.ok x.kf.vlaw_pairs x.kf.kvlaw_pairs (j := 9) room hh <| Sp_cons <| Ev_PopList x (j := 1) room hh ha (by omega) hn (Ev_Name w1 ⟨rfl, rfl⟩) (Ev_Name w5 ⟨rfl, rfl⟩) fun L2 hL2 => Sp_nil ⟨4, by omega, (fn_pairsI x (k := .list) (l := l.filter fun q => ns.contains q.1) (by nofun) (.obj ?_) (by omega)).mono fun r σ'' ⟨h1, h2⟩ => ?_⟩
    · rw [upd_ne (fun e => by rw [e, ha] at hL2; cases hL2), upd_self]
    subst h1; subst h2
    have hok2 : Ok (l.filter fun q => ns.contains q.1) := fun q hq => hok q (List.mem_filter.mp hq).1
    have hpL2 : p ≠ L2 := fun e => by rw [e, hL2] at hp; cases hp
    have hp2 : upd (upd σ' L2 ⟨false, tagsOf (l.filter fun q => ns.contains q.1)⟩) a ⟨true, tagsOf (l.filter fun q => !ns.contains q.1)⟩ p = some ⟨false, datsOf l⟩ := by rw [upd_ne hap, upd_ne hpL2]; exact hp
    refine Exs_cons <| Ex_AssignFilt x.ok x.kf.T hh (cl := [("codes", L + 1)]) ⟨rfl, rfl, by decide, by simp; exact .inl rfl⟩ (y := "one") rfl rfl rfl (pr := fun q => ns.contains q.1) (.obj hp2) (by omega) (Ev_Name (lk_ne w2 (by decide)) ⟨rfl, rfl⟩) (fun D q σ3 _ _ => Te_in0 x room0 lk_self (lk_ne (capVars_get rfl (lk_ne w5 (by decide))) (by decide)) ⟨rfl, rfl⟩) fun D σ3 hD hag hD' => ?_
    refine Exs_cons <| Ex_Return <| Ev_done (Ev_Cmp (Ev_Name (lk_ne lk_self (by decide)) (Ev_Name lk_self (O2_eqD room0 (.dat _) (IsDs_prs hD') (shaped_prs hok2) (shaped_prs hok2) ⟨by rw [eqv_prs hok2], rfl⟩)))) <| Ev_Filt x.ok x.kf.T hh (cl := [("codes", L + 1)]) ⟨rfl, rfl, by decide, by simp; exact .inl rfl⟩ (y := "one") rfl (pr := fun q => !ns.contains q.1) (.obj (hag.get hp2)) (by omega) (Ev_Name (lk_ne (lk_ne w2 (by decide)) (by decide)) ⟨rfl, rfl⟩) (fun D q σ3 _ _ => Te_notIn0 x room0 lk_self (lk_ne (capVars_get rfl (lk_ne (lk_ne w5 (by decide)) (by decide))) (by decide)) ⟨rfl, rfl⟩) fun D2 σ4 hD2 hag2 hD2' => ⟨D2, rfl, hag2.get (hag.get (upd_self _ _ _)), hD2', fun y hy hya _ => ?_⟩
    have hyL : y ≠ L2 := fun e => by rw [e, hL2] at hy; exact hy rfl
    have h1 := hag y (by rw [upd_ne hya, upd_ne hyL]; exact hy)
    rw [hag2 y (by rw [h1, upd_ne hya, upd_ne hyL]; exact hy), h1, upd_ne hya, upd_ne hyL]
  rw [if_neg (by simpa using hk4), if_neg hk4]
  refine Exs_nil ?_
  refine Exs_cons <| Ex_If <| Te_Cmp <| Ev_Name w3 <| Ev_int <| O2_eqI ⟨_, rfl, ?_⟩
  by_cases hk5 : kind = 5
  · rw [if_pos (by simpa using hk5), if_pos hk5]
    refine Exs_cons <| Ex_Expr <| Ev_Meth x.ok <| Ev_Name w1 ⟨_, _, MethTo_obj x.ok x.kf.pT ha x.kf.mreplace_handle x.kf.tmreplace_handle, KeepOk.ref x.kf.kmreplace_handle, Sp_cons <| Ev_Sub <| Ev_Name w4 <| Ev_int <| O2_item (x := .str q.2) x.ok x.kf.T (.datT _) (by decide) rfl (by decide) <| Sp_nil <| ((fn_replace x ha (by omega)).mono fun r σ'' ⟨h1, h2⟩ => ?_).on (j := 9) room (by omega) hh⟩
    subst h2
    have hp2 : upd σ' a ⟨true, tagsOf (replH q.2 l)⟩ p = some ⟨false, datsOf l⟩ := (upd_ne hap).trans hp
    refine Exs_mid (fun vars σ₁ => lk vars "pairs" = some (.obj p) ∧ σ₁ = upd (upd σ' a ⟨true, tagsOf (replH q.2 l)⟩) p ⟨false, datsOf (replH q.2 l)⟩) ?_ fun vars σ₁ ⟨g2, hσ⟩ => ?_
    · have hn0 : ((l.length : Int) - 0).toNat = l.length := by omega
      have src : ∀ σ0 : Store, Src σ0 (.rng 0 l.length) ((List.range l.length).map fun k : Nat => AV.int (0 + k)) := fun _ => .rng rfl (by rw [hn0]) (by omega) (by omega) (by omega) (by omega)
      refine Ex_For x.ok x.kf.T hh <| Ev_CallT x.ok x.kf.nrange rfl <| Sp_cons <| Ev_CallB x.ok x.kf.nlen rfl <| Sp_cons <| Ev_Name w2 <| Sp_nil <| On_len x.ok x.kf.T (k := .list) (by nofun) (.obj hp2) (by omega) <| Sp_nil <| On_range1 ?_
      rw [hdl]
      refine ⟨_, src _, LetOk_Name, fun k vars σ₁ => lk vars "pairs" = some (.obj p) ∧ lk vars "pair" = some (.dat (prD q)) ∧ σ₁ = upd σ' a ⟨true, tagsOf (replH q.2 l)⟩ ∧ ∀ z ∈ l.take k, isH z = false, ⟨w2, w4, rfl, by simp⟩, ?_, ?_⟩
      · rintro k v vars σ₁ hv ⟨g1, g2, rfl, g3⟩
        have hk : k < l.length := by
          rcases Nat.lt_or_ge k l.length with h | h
          · exact h
          · rw [List.getElem?_eq_none (by simpa using h)] at hv; cases hv
        have hv' : v = .int (k : Int) := by
          rw [List.getElem?_map, List.getElem?_range hk] at hv
          simp at hv; rw [← hv]
        subst hv'
        have hq' : l[k]? = some l[k] := List.getElem?_eq_getElem hk
        generalize l[k] = q' at hq'
        have hit : (datsOf l)[(k : Int).toNat]? = some (.dat (prD q')) := by rw [Int.toNat_natCast]; show (l.map _)[k]? = _; rw [List.getElem?_map, hq']; rfl
        refine ⟨src _, Asg_Name (.inl rfl) ⟨src _, Exs_cons <| Ex_If <| Te_in5 room0 (by rfl) <| Ev_Sub <| Ev_Sub <| Ev_Name (lk_ne g1 (by decide)) <| Ev_Name lk_self <| O2_item x.ok x.kf.T (.obj hp2) (by omega) hit (by omega) <| Ev_int <| O2_item (x := .int q'.1) x.ok x.kf.T (.datT _) (by decide) rfl (by decide) ⟨rfl, ?_⟩⟩⟩
        cases hc : isH q' with
        | true =>
          rw [show (q'.1 == 5 || q'.1 == 105) = true from hc, if_pos rfl]
          refine Exs_cons <| Ex_SetItem x.ok x.kf.T <| Ev_Tuple <| Sp_cons <| Ev_Sub <| Ev_Sub <| Ev_Name (lk_ne g1 (by decide)) <| Ev_Name lk_self <| O2_item x.ok x.kf.T (.obj hp2) (by omega) hit (by omega) <| Ev_int <| O2_item (x := .int q'.1) x.ok x.kf.T (.datT _) (by decide) rfl (by decide) <| Sp_cons <| Ev_Sub <| Ev_Name (lk_ne g2 (by decide)) <| Ev_int <| O2_item (x := .str q.2) x.ok x.kf.T (.datT _) (by decide) rfl (by decide) <| Sp_nil ⟨[.int q'.1, .str q.2], rfl, by simp, Ev_Name (lk_ne g1 (by decide)) <| Ev_Name lk_self ⟨p, false, _, k, rfl, rfl, hp2, by omega, by rw [hdl]; omega, by omega, ?_⟩⟩
          refine Exs_cons <| Ex_Break ⟨lk_ne g1 (by decide), ?_⟩
          rw [replH_at g3 hq' hc, Int.toNat_natCast]
          congr 2
          simp [datsOf, List.map_set, prD]
        | false =>
          rw [show (q'.1 == 5 || q'.1 == 105) = false from hc, if_neg Bool.false_ne_true]
          exact Exs_nil <| Exs_nil <| UpV.now ⟨src _, lk_ne g1 (by decide), lk_ne g2 (by decide), rfl, forall_take_succ g3 hq' hc⟩
      · rintro vars σ₁ ⟨g1, g2, rfl, g3⟩
        refine ⟨g1, ?_⟩
        have hr : replH q.2 l = l := replH_none fun y hy => g3 y (by rw [List.take_of_length_le (by simp)]; exact hy)
        rw [hr] at hp2 ⊢
        rw [upd_eq hp2]
    · subst hσ
      refine Exs_cons <| Ex_Return <| Ev_done (Ev_bool ⟨rfl, rfl⟩) <| Ev_Name g2 ⟨p, rfl, ?_, upd_self _ _ _, upd_keep2⟩
      rw [upd_ne (Ne.symm hap), upd_self]
  rw [if_neg (by simpa using hk5), if_neg hk5]
  refine Exs_nil ?_
  refine Exs_cons <| Ex_Expr <| Ev_Meth x.ok <| Ev_Name w1 ⟨_, _, MethTo_tagsAppend x.ok x.kf.pT x.kf.T ha x.kf.app, KeepOk.builtin _, Sp_cons <| Ev_tagOf x (j := 8) room w4 (Sp_nil <| On_append x.ok x.kf.T ha (by rw [tagsOf_len]; omega) ?_) rfl⟩
  have hp2 : upd σ' a ⟨true, tagsOf l ++ [.tag q.1 q.2]⟩ p = some ⟨false, datsOf l⟩ := (upd_ne hap).trans hp
  refine Exs_cons <| Ex_Expr <| Ev_Meth x.ok <| Ev_Name w2 ⟨_, _, MethTo_append hp2, KeepOk.builtin _, Sp_cons <| Ev_Name w4 <| Sp_nil <| On_append x.ok x.kf.T hp2 (by omega) ?_⟩
  refine Exs_cons <| Ex_Return <| Ev_done (Ev_bool ⟨rfl, rfl⟩) <| Ev_Name w2 ⟨p, rfl, ?_, ?_, upd_keep2⟩
  · rw [upd_ne (Ne.symm hap), upd_self]; simp [tagsOf]
  · rw [upd_self]; simp [datsOf]
end
end Mine
end

section
open PySem PySem.W PyProof.Rows PySem.Calls PySem.SeqAt
set_option Elab.async false
set_option maxRecDepth 100000
set_option linter.unusedVariables false
namespace Mine
section
variable {C : Cx} {P0 : Params} {A : Around} {F : Fm} {σ : Store} {P : AV → Store → Prop} {X : Store → Prop}
/-- an attribute of what a raising tree gives -/
theorem TvX_Attr {o : Expr} {attr : Str} {pos : Pos} (h : TvX C A F σ (eval o F.env) (fun a σ₁ => O1 C A F σ₁ a (fun v => getAttr v attr true) P) X) (hbase : attributeBase o attr F.env (eval o F.env) = eval o F.env := by rfl) : TvX C A F σ (eval (.Attribute o attr pos) F.env) P X := fun s st Q E hQ hE => by
  rw [arm_eval_Attribute, hbase]
  refine wpAny_bind (h s st _ _ (fun a v σ₁ s₁ h₁ st₁ r₁ e₁ => ?_) hE)
  refine wpAny_bind (wpAny_standAt (wpAny_bind (wpAny_holding (wpAny_noE (h₁ s₁ v st₁ r₁ _ fun c w σ₂ s₂ h₂ st₂ r₂ e₂ => ?_)))))
  exact wpAny_bind (wpAny_letTemporaryGo (wpAny_pure (hQ c w σ₂ s₂ h₂ st₂ r₂ (e₁.trans e₂))))

/-- a list of ints, at once frozen -/
theorem Ev_IntsD {es : List Expr} {pos : Pos} (is : List Int) (h : asInts es = some is) (hl : is.length ≤ 1000) (hP : P (.dat (.list (is.map .int))) σ) : Ev C A F σ (.List es pos) P :=
  Tv.up (Ev_ListInts is h hl fun a ha => Up.froze hP (Sub.upd ha) (by rw [upd_self]; simp) ha)

/-- two equal data, compared by != -/
theorem Te_neL {PB : Bool → Store → Prop} (room : Room A 0) {e1 e2 : Expr} {pos : Pos} (h : Ev C A F σ e1 fun a σ₁ => Ev C A F σ₁ e2 fun b σ₂ => ∃ d, IsD σ₂ a d ∧ IsD σ₂ b d ∧ shaped d = true ∧ ∃ σ0, Sub σ0 σ₂ ∧ PB false σ0) (hm : behindInMarks .NotEq e2 = false := by with_unfolding_all rfl) : Te C A F σ (.Compare e1 [.NotEq] [e2] pos) PB :=
  Tb.up (Te_Cmp (hm := hm) (h.mono fun a σ₁ h1 => h1.mono fun b σ₂ ⟨d, ha, hb, hs, σ0, sub, hP⟩ => O2_neD room ha hb hs hs ⟨_, rfl, σ0, sub, by rw [eqv_refl d (canLay_of_shaped hs)]; exact hP⟩))
end
theorem Agr.upd {σ : Store} {D : Addr} {o : AObj} (h : σ D = none) : Agr σ (Mine.upd σ D o) := fun b hb => upd_ne fun e => by subst e; exact hb h
theorem Agr.trans {σ σ' σ'' : Store} (x : Agr σ σ') (y : Agr σ' σ'') : Agr σ σ'' := fun b hb => (y b (by rw [x b hb]; exact hb)).trans (x b hb)

def dS : Option Str → PyData
  | some x => .str x
  | none => .none
def dI : Option Nat → PyData
  | some x => .int x
  | none => .none
theorem optS_d (o : Option Str) : optS o = .dat (dS o) := by cases o <;> rfl
theorem optAV_d (o : Option Nat) : optAV o = .dat (dI o) := by cases o <;> rfl
theorem firstQ_At {l : List Pr} {code : Int} : firstQ l code = (firstAt l code 0 l.length).map fun k => l.getD k ((0, "") : Pr) := by
  cases hf : firstAt l code 0 l.length with
  | some k =>
    have hk := firstAt_lt hf
    unfold firstAt at hf
    have h1 := List.find?_some hf
    obtain ⟨_, as, bs, e, h2⟩ := List.find?_eq_some_iff_append.mp hf
    have hlen : as.length = k := by
      have h3 : (List.range' 0 (l.length - 0))[as.length]? = some k := by rw [e]; simp
      rw [List.getElem?_eq_some_iff] at h3
      obtain ⟨h4, h5⟩ := h3
      rw [List.getElem_range'] at h5; omega
    refine (firstQ_some (i := k) (fun x hx => ?_) (getD_get hk) h1)
    obtain ⟨m, hm, rfl⟩ := List.mem_take_iff_getElem.mp hx
    have hmk : m < k := by omega
    have h6 : as[m]? = some m := by
      have h7 : (as ++ k :: bs)[m]? = some m := by rw [← e, List.getElem?_range' (by omega)]; simp
      rwa [List.getElem?_append_left (by omega)] at h7
    have h8 := h2 m (List.mem_of_getElem? h6)
    have h9 : l.getD m ((0, "") : Pr) = l[m] := by simp [List.getD_eq_getElem?_getD, show m < l.length by omega]
    rw [h9] at h8
    simpa using h8
  | none =>
    refine firstQ_none fun x hx => ?_
    unfold firstAt at hf
    rw [List.find?_eq_none] at hf
    obtain ⟨m, hm, rfl⟩ := List.mem_iff_getElem.mp hx
    have h9 : l.getD m ((0, "") : Pr) = l[m] := by simp [List.getD_eq_getElem?_getD, hm]
    have := hf m (List.mem_range'_1.mpr ⟨Nat.zero_le _, by omega⟩)
    rw [h9] at this
    simpa using this

/-- the names of _law_asked -/
structure KA (a p f : Addr) (code : Int) (ns : List Int) (i j : Nat) (vs : List (Str × AV)) : Prop where
  rows : lk vs "rows" = some (.obj a)
  pairs : lk vs "pairs" = some (.obj p)
  code : lk vs "code" = some (.int code)
  codes : lk vs "codes" = some (.dat (.list (ns.map .int)))
  start : lk vs "start" = some (.int i)
  stop : lk vs "stop" = some (.int j)
  found : lk vs "found" = some (.obj f)
theorem KA.put {a p f : Addr} {code : Int} {ns : List Int} {i j : Nat} {vs : List (Str × AV)} (h : KA a p f code ns i j vs) {y : Str} {v : AV} (hy : y ∉ (["rows", "pairs", "code", "codes", "start", "stop", "found"] : List Str)) : KA a p f code ns i j (putv vs y v) := by
  simp only [List.mem_cons, List.not_mem_nil, or_false, not_or] at hy
  obtain ⟨h1, h2, h3, h4, h5, h6, h7⟩ := hy
  exact ⟨lk_ne h.rows (Ne.symm h1), lk_ne h.pairs (Ne.symm h2), lk_ne h.code (Ne.symm h3), lk_ne h.codes (Ne.symm h4), lk_ne h.start (Ne.symm h5), lk_ne h.stop (Ne.symm h6), lk_ne h.found (Ne.symm h7)⟩
theorem canLay_dS {o : Option Str} (h : ∀ v, o = some v → shaped (.str v) = true) : (dS o).canLay0 = true := by
  cases o with
  | none => rfl
  | some v => exact canLay_of_shaped (h v rfl)
theorem canLay_dI (o : Option Nat) : (dI o).canLay0 = true := by cases o <;> rfl
theorem plain_dS (o : Option Str) : plainD (dS o) = true := by cases o <;> rfl
theorem plain_dI (o : Option Nat) : plainD (dI o) = true := by cases o <;> rfl
theorem depth_dS (o : Option Str) : (dS o).depth = 0 := by cases o <;> simp [dS, PyData.depth]
theorem depth_dI (o : Option Nat) : (dI o).depth = 0 := by cases o <;> simp [dI, PyData.depth]
theorem firstQ_mem {l : List Pr} {code : Int} {q : Pr} (h : firstQ l code = some q) : q ∈ l := List.mem_of_find?_eq_some h
theorem handle_mem {l : List Pr} {v : Str} (h : handleOf l = some v) : ∃ q ∈ l, q.2 = v := by
  unfold handleOf at h
  split at h
  · cases h
  rename_i h2
  split at h
  · refine ⟨l.getD 1 ((0, "") : Pr), ?_, Option.some.inj h⟩
    exact List.mem_of_getElem? (getD_get (show 1 < l.length by omega))
  · have := List.mem_of_head? h
    obtain ⟨q, hq, e⟩ := List.mem_map.mp this
    exact ⟨q, (List.mem_filter.mp hq).1, e⟩
/-- what is told -/
def toldD (l : List Pr) (code : Int) (i j : Nat) : List PyData := [dS ((firstQ l code).map (·.2)), dS ((firstQ l code).map (·.2)), dI (firstAt l code i j), dS (handleOf l)]
theorem shaped_told {l : List Pr} {code : Int} {i j : Nat} (hok : Ok l) : shaped (.list (toldD l code i j)) = true := by
  have h1 : (dS ((firstQ l code).map (·.2))).canLay0 = true := canLay_dS fun v hv => by
    obtain ⟨q, hq, e⟩ := Option.map_eq_some_iff.mp hv
    rw [← e]; exact hok q (firstQ_mem hq)
  have h2 : (dS (handleOf l)).canLay0 = true := canLay_dS fun v hv => by
    obtain ⟨q, hq, e⟩ := handle_mem hv
    rw [← e]; exact hok q hq
  unfold shaped toldD
  have h3 : (PyData.list [dS ((firstQ l code).map (·.2)), dS ((firstQ l code).map (·.2)), dI (firstAt l code i j), dS (handleOf l)]).canLay0 = true := by
    simp [PyData.canLay0, PyData.canLayAll0, h1, h2, canLay_dI]
  have h4 : (PyData.list [dS ((firstQ l code).map (·.2)), dS ((firstQ l code).map (·.2)), dI (firstAt l code i j), dS (handleOf l)]).depth ≤ 64 := by
    simp [PyData.depth, PyData.depthAll, depth_dS, depth_dI]
  rw [h3, Bool.true_and]; exact decide_eq_true h4
theorem any_firstQ (l : List Pr) (code : Int) : (l.any fun q => q.1 == code) = (firstQ l code).isSome := by
  unfold firstQ
  induction l with
  | nil => rfl
  | cons q r ih =>
    rw [List.any_cons, List.find?_cons]
    cases q.1 == code with
    | true => rfl
    | false => exact ih
end Mine
end

section
open PySem PySem.W PyProof.Rows PySem.Calls PySem.SeqAt
set_option Elab.async false
set_option maxRecDepth 100000
set_option linter.unusedVariables false
namespace Mine
theorem any_emb (l : List Pr) : ((l.map prD).any fun y => PyData.eqv y (.tuple [.int 101, .str "Embedded Object"])) = l.any embQ := by
  induction l with
  | nil => rfl
  | cons q r ih =>
    rw [List.map_cons, List.any_cons, List.any_cons, ih]
    congr 1
    show (q.1 == 101 && (q.2 == ("Embedded Object" : Str) && true)) = _
    rw [Bool.and_true]; rfl
theorem runOf_mem {l : List Pr} {ns : List Int} {i j : Nat} {q : Pr} (h : q ∈ runOf l ns i j) : q ∈ l := by
  unfold runOf at h
  exact List.mem_of_mem_drop (List.mem_of_mem_take (List.takeWhile_subset _ h))
theorem runOf_len {l : List Pr} {ns : List Int} {i j : Nat} : (runOf l ns i j).length ≤ l.length := by
  unfold runOf
  refine Nat.le_trans (List.Sublist.length_le (List.takeWhile_sublist _)) ?_
  rw [List.length_take, List.length_drop]; omega
theorem Ok.filter {l : List Pr} (h : Ok l) (p : Pr → Bool) : Ok (l.filter p) := fun q hq => h q (List.mem_filter.mp hq).1
def spansL : List (List Int) := [[330, 1005], [340, 480], [350], [360]]
/-- lists of lists of pairs -/
def prsD (Ls : List (List Pr)) : List PyData := Ls.map fun L => .list (L.map prD)
theorem shaped_prss {Ls : List (List Pr)} (h : ∀ L ∈ Ls, Ok L) : shaped (.list (prsD Ls)) = true := by
  have h1 : PyData.canLayAll0 (prsD Ls) = true := by
    induction Ls with
    | nil => rfl
    | cons L r ih =>
      show PyData.canLayAll0 (PyData.list (L.map prD) :: prsD r) = true
      rw [PyData.canLayAll0, ih fun M hM => h M (List.mem_cons_of_mem _ hM), Bool.and_true, PyData.canLay0]
      exact canLay_prs (h L List.mem_cons_self)
  have h2 : PyData.depthAll (prsD Ls) ≤ 2 := by
    clear h h1
    induction Ls with
    | nil => exact Nat.zero_le _
    | cons L r ih =>
      show PyData.depthAll (PyData.list (L.map prD) :: prsD r) ≤ 2
      have h3 := depth_prs L
      rw [PyData.depthAll, PyData.depth]; omega
  unfold shaped
  have h3 : (PyData.list (prsD Ls)).canLay0 = true := by rw [PyData.canLay0]; exact h1
  have h4 : (PyData.list (prsD Ls)).depth ≤ 64 := by rw [PyData.depth]; omega
  rw [h3, Bool.true_and]; exact decide_eq_true h4
theorem filt_soft {l : List Pr} (h : ∀ q ∈ l, q.1 ∈ codesL) : (l.filter fun q => softP q.1) = l.filter fun q => ([330, 1005] : List Int).contains q.1 :=
  List.filter_congr fun q hq => (show ∀ c ∈ codesL, softP c = ([330, 1005] : List Int).contains c by decide) _ (h q hq)
theorem filt_hard {l : List Pr} (h : ∀ q ∈ l, q.1 ∈ codesL) : (l.filter fun q => hardP q.1) = l.filter fun q => ([340, 480] : List Int).contains q.1 :=
  List.filter_congr fun q hq => (show ∀ c ∈ codesL, hardP c = ([340, 480] : List Int).contains c by decide) _ (h q hq)
theorem filt_softO {l : List Pr} (h : ∀ q ∈ l, q.1 ∈ codesL) : (l.filter fun q => softO q.1) = l.filter fun q => ([350] : List Int).contains q.1 :=
  List.filter_congr fun q hq => (show ∀ c ∈ codesL, softO c = ([350] : List Int).contains c by decide) _ (h q hq)
theorem filt_hardO {l : List Pr} (h : ∀ q ∈ l, q.1 ∈ codesL) : (l.filter fun q => hardO q.1) = l.filter fun q => ([360] : List Int).contains q.1 :=
  List.filter_congr fun q hq => (show ∀ c ∈ codesL, hardO c = ([360] : List Int).contains c by decide) _ (h q hq)

section
variable {C : Cx} {P0 : Params} {A : Around} {F : Fm} {σ : Store} {P : AV → Store → Prop}

/-- [_law_pairs(one) for one in kinds] -/
theorem Ev_PairsAll (x : Bx C P0) {j : Nat} (room : Room A (j + 4)) (hh : A.handled = none) {p1 p2 p3 pos cpos : Pos} {scope : Scope} (cs : CompS scope F.env []) (hy : scope.names.lookup ("one" : Str) = some NameKind.local) (hg : scope.names.lookup ("_law_pairs" : Str) = some NameKind.globalImplicit) {iterE : Expr} {kd : Addr} {Ss : List Addr} {Ls : List (List Pr)}
    (hk : σ kd = some ⟨false, Ss.map .obj⟩) (hlen : Ss.length ≤ 100) (hS : ∀ (i : Nat) (S : Addr), Ss[i]? = some S → ∃ L, Ls[i]? = some L ∧ σ S = some ⟨true, tagsOf L⟩ ∧ L.length ≤ 1000) (hLS : Ls.length = Ss.length)
    (he : Ev C A F σ iterE fun b σ₁ => b = .obj kd ∧ σ₁ = σ) (hP : ∀ D σ', σ D = none → Agr σ σ' → σ' D = some ⟨false, (prsD Ls).map .dat⟩ → P (.obj D) σ')
    (hs : ∀ x, foldedSetIterable iterE F.env x = pure x := by intro _; rfl) :
    Ev C A F σ (.ListComp (.Call (.Name "_law_pairs" p1) [.Name "one" p2] [] cpos) [⟨.Name "one" p3, iterE, [], 0⟩] scope pos) P := by
  refine Ev_ListComp x.ok x.kf.T hh cs hy (he.mono fun b σ₁ ⟨h1, h2⟩ => ?_) hs
  subst h1; subst h2
  refine ⟨Ss.map .obj, fun i outs σ' => outs = ((prsD Ls).take i).map .dat ∧ Agr σ₁ σ', ⟨.seq (k := .list) (by nofun) (.obj hk), LetOk_Name, by rw [List.length_map]; omega, ⟨rfl, .refl _⟩, fun i outs σ' σ'' h hag => ⟨h.1, h.2.loc hag⟩, fun i outs σ' h => .seq (k := .list) (by nofun) (.obj (h.2.get hk)), ?_⟩, ?_⟩
  · rintro D i v hv outs σ' ⟨rfl, hag⟩ hdm
    obtain ⟨S, hSi, rfl⟩ : ∃ S, Ss[i]? = some S ∧ AV.obj S = v := by simpa using hv
    obtain ⟨L, hL, hSL, hll⟩ := hS i S hSi
    refine ⟨_, true, CAsg_Name (by rw [cEnv_kindOf, hy]; rfl), Ti_nil ⟨rfl, rfl⟩, fun _ => ?_, nofun⟩
    refine Ev_CallFn x.ok x.kf.vlaw_pairs x.kf.kvlaw_pairs (j := j + 4) room hh (Sp_cons <| Ev_Name lk_self <| Sp_nil ⟨4, by omega, (fn_pairsI x (k := .tags) (by nofun) (.tags (hag.get hSL)) hll).mono fun r σ3 ⟨h1, h2⟩ => ?_⟩) (by rw [cEnv_kindOf, hg]; rfl)
    subst h1; subst h2
    refine ⟨fun _ _ _ => rfl, hdm, ?_, hag⟩
    rw [List.take_add_one]
    have : (prsD Ls)[i]? = some (.list (L.map prD)) := by unfold prsD; rw [List.getElem?_map, hL]; rfl
    rw [this]; simp
  · rintro D outs σ' hD ⟨rfl, hag⟩ hD'
    rw [List.take_of_length_le (by unfold prsD; rw [List.length_map, List.length_map]; omega)] at hD'
    exact hP D σ' hD hag hD'

set_option maxHeartbeats 4000000 in
theorem fn_asked (x : Bx C P0) {a p : Addr} {l : List Pr} {code : Int} {ns : List Int} {i j : Nat} (ha : σ a = some ⟨true, tagsOf l⟩) (hp : σ p = some ⟨false, datsOf l⟩) (hl : l.length ≤ 900) (hn : ns.length ≤ 900) (hok : Ok l) (hgood : ∀ q ∈ l, q.1 ∈ codesL) (hij : i ≤ j) (hj : j ≤ l.length) :
    Fn C 12 384 [.obj a, .obj p, .int code, .dat (.list (ns.map .int)), .int i, .int j] σ fun r σ' => r = .bool true ∧ σ' = σ := by
  refine Fn_at x.ok (FnOk.cast x.hK ⟨⟨_, rfl, rfl⟩, rfl, rfl, rfl, rfl, rfl, rfl, _, _, _, _, rfl, rfl, rfl, rfl⟩) rfl rfl ["rows", "pairs", "code", "codes", "start", "stop"] rfl (fun vs h => by obtain ⟨v1, v2, v3, v4, v5, v6, rfl⟩ := len6 h; rfl) rfl (by decide) rfl (by decide) ⟨"rows", by simp, rfl⟩ fun A L fs qq room hh => ?_
  have hap : p ≠ a := fun e => by rw [e, ha] at hp; cases hp
  have hdl : (datsOf l).length = l.length := by simp [datsOf]
  have room0 : Room A 0 := room.less (Nat.zero_le _)
  generalize hvars : (["rows", "pairs", "code", "codes", "start", "stop"] : List Str).zip [AV.obj a, AV.obj p, AV.int code, AV.dat (.list (ns.map .int)), AV.int i, AV.int j] = vars
  have v1 : lk vars "rows" = some (.obj a) := by rw [← hvars]; kernel_rfl
  have v2 : lk vars "pairs" = some (.obj p) := by rw [← hvars]; kernel_rfl
  have v3 : lk vars "code" = some (.int code) := by rw [← hvars]; kernel_rfl
  have v4 : lk vars "codes" = some (.dat (.list (ns.map .int))) := by rw [← hvars]; kernel_rfl
  have v5 : lk vars "start" = some (.int i) := by rw [← hvars]; kernel_rfl
  have v6 : lk vars "stop" = some (.int j) := by rw [← hvars]; kernel_rfl
  refine Exs_cons <| Ex_Assign (.inl rfl) <| Ev_List <| Sp_nil ⟨by simp, fun f hf => ?_⟩
  have K0 : KA a p f code ns i j (putv vars "found" (.obj f)) := ⟨lk_ne v1 (by decide), lk_ne v2 (by decide), lk_ne v3 (by decide), lk_ne v4 (by decide), lk_ne v5 (by decide), lk_ne v6 (by decide), lk_self⟩
  generalize putv vars "found" (.obj f) = vs0 at K0
  clear v1 v2 v3 v4 v5 v6 hvars
  have hfa : f ≠ a := fun e => by rw [e, ha] at hf; cases hf
  have hfp : f ≠ p := fun e => by rw [e, hp] at hf; cases hf
  have ha2 : ∀ o, upd σ f o a = some ⟨true, tagsOf l⟩ := fun o => (upd_ne (Ne.symm hfa)).trans ha
  have hp2 : ∀ o, upd σ f o p = some ⟨false, datsOf l⟩ := fun o => (upd_ne (Ne.symm hfp)).trans hp
  have hTl : (toldD l code i j).length = 4 := rfl
  refine Exs_mid (fun vars σ₁ => KA a p f code ns i j vars ∧ σ₁ = upd σ f ⟨false, (toldD l code i j).map .dat⟩) ?_ ?_
  · have src : ∀ σ0 : Store, Src σ0 (.rng 0 4) ((List.range 4).map fun k : Nat => AV.int (0 + k)) := fun _ => .rng rfl rfl (by omega) (by omega) (by omega) (by omega)
    refine Ex_For x.ok x.kf.T hh <| Ev_CallT x.ok x.kf.nrange rfl <| Sp_cons <| Ev_int <| Sp_nil <| On_range1 ⟨_, src _, LetOk_Name, fun k vars σ₁ => KA a p f code ns i j vars ∧ σ₁ = upd σ f ⟨false, ((toldD l code i j).take k).map .dat⟩, ⟨K0, rfl⟩, ?_, fun vars σ₁ ⟨h1, h2⟩ => ⟨h1, h2⟩⟩
    rintro k v vars σ₁ hv ⟨KV, rfl⟩
    have hk : k < 4 := by
      rcases Nat.lt_or_ge k 4 with h | h
      · exact h
      · rw [List.getElem?_eq_none (by simpa using h)] at hv; cases hv
    have hv' : v = .int (k : Int) := by
      rw [List.getElem?_map, List.getElem?_range hk] at hv
      simp at hv; rw [← hv]
    subst hv'
    refine ⟨src _, Asg_Name (.inl rfl) ⟨src _, ?_⟩⟩
    refine Exs_cons <| Ex_Assign (.inl rfl) <| Ev_none ?_
    have K1 : KA a p f code ns i j (putv (putv vars "kind" (.int k)) "told" .none) := (KV.put (by decide)).put (by decide)
    have g1 : lk (putv (putv vars "kind" (.int k)) "told" .none) "kind" = some (.int k) := lk_ne lk_self (by decide)
    have g2 : lk (putv (putv vars "kind" (.int k)) "told" .none) "told" = some .none := lk_self
    generalize putv (putv vars "kind" (.int k)) "told" .none = vs1 at K1 g1 g2
    dsimp only
    generalize hτ : upd σ f ⟨false, ((toldD l code i j).take k).map .dat⟩ = τ
    have hat : τ a = some ⟨true, tagsOf l⟩ := by rw [← hτ]; exact ha2 _
    obtain ⟨d, hd⟩ : ∃ d, (toldD l code i j)[k]? = some d := ⟨_, List.getElem?_eq_getElem (by rw [hTl]; exact hk)⟩
    refine Exs_mid (fun vars' σ₂ => KA a p f code ns i j vars' ∧ lk vars' "told" = some (.dat d) ∧ σ₂ = τ) ?_ ?_
    · refine Ex_Try x (X := fun vars' σ₂ => vars' = vs1 ∧ σ₂ = τ ∧ d = .none) rfl rfl ?_ fun e vars' σ₂ ⟨h1, h2, h3⟩ => ?_
      · have hd' : (toldD l code i j)[k]? = some d := hd
        rcases (show k = 0 ∨ k = 1 ∨ k = 2 ∨ k = 3 by omega) with rfl | rfl | rfl | rfl
        · obtain rfl : dS ((firstQ l code).map (·.2)) = d := Option.some.inj hd'
          refine ExsX_cons <| ExX_If <| Te_Cmp <| Ev_Name g1 <| Ev_int <| O2_eqI ⟨_, rfl, ?_⟩
          rw [if_pos (by decide)]
          refine ExsX_cons <| ExX_Assign rfl <| TvX_Meth (j := 11) x.ok room hh <| Ev_Name K1.rows ⟨_, _, MethTo_obj x.ok x.kf.pT hat x.kf.mget_first_value x.kf.tmget_first_value, KeepOk.ref x.kf.kmget_first_value, Sp_cons <| Ev_Name K1.code <| Sp_nil ⟨3, by omega, (fnx_first_value x hat).mono (fun r σ₂ ⟨q, h1, h2, h3⟩ => ?_) fun σ₂ ⟨h1, h2⟩ => ⟨rfl, h2, by rw [h1]; rfl⟩⟩⟩
          exact ExsX_nil <| ExsX_nil ⟨K1.put (by decide), by rw [h2, h1]; exact lk_self, h3⟩
        · obtain rfl : dS ((firstQ l code).map (·.2)) = d := Option.some.inj hd'
          refine ExsX_cons <| ExX_If <| Te_Cmp <| Ev_Name g1 <| Ev_int <| O2_eqI ⟨_, rfl, ?_⟩
          rw [if_neg (by decide)]
          refine ExsX_cons <| ExX_If <| Te_Cmp <| Ev_Name g1 <| Ev_int <| O2_eqI ⟨_, rfl, ?_⟩
          rw [if_pos (by decide)]
          refine ExsX_cons <| ExX_Assign rfl <| TvX_Attr <| TvX_Meth (j := 11) x.ok room hh <| Ev_Name K1.rows ⟨_, _, MethTo_obj x.ok x.kf.pT hat x.kf.mget_first_tag x.kf.tmget_first_tag, KeepOk.ref x.kf.kmget_first_tag, Sp_cons <| Ev_Name K1.code <| Sp_nil ⟨3, by omega, (fnx_first_tag x hat).mono (fun r σ₂ ⟨q, h1, h2, h3⟩ => ?_) fun σ₂ ⟨h1, h2⟩ => ⟨rfl, h2, by rw [h1]; rfl⟩⟩⟩
          subst h2
          exact O1_value P0 x.hK x.ok x.kf (j := 9) room hh <| ExsX_nil <| ExsX_nil <| ExsX_nil ⟨K1.put (by decide), by rw [h1]; exact lk_self, h3⟩
        · obtain rfl : dI (firstAt l code i j) = d := Option.some.inj hd'
          refine ExsX_cons <| ExX_If <| Te_Cmp <| Ev_Name g1 <| Ev_int <| O2_eqI ⟨_, rfl, ?_⟩
          rw [if_neg (by decide)]
          refine ExsX_cons <| ExX_If <| Te_Cmp <| Ev_Name g1 <| Ev_int <| O2_eqI ⟨_, rfl, ?_⟩
          rw [if_neg (by decide)]
          refine ExsX_cons <| ExX_If <| Te_Cmp <| Ev_Name g1 <| Ev_int <| O2_eqI ⟨_, rfl, ?_⟩
          rw [if_pos (by decide)]
          refine ExsX_cons <| ExX_Assign rfl <| TvX_Meth (j := 11) x.ok room hh <| Ev_Name K1.rows ⟨_, _, MethTo_obj x.ok x.kf.pT hat x.kf.mtag_index x.kf.tmtag_index, KeepOk.ref x.kf.kmtag_index, Sp_cons <| Ev_Name K1.code <| Sp_cons <| Ev_Name K1.start <| Sp_cons <| Ev_Name K1.stop <| Sp_nil ⟨4, by omega, (fnx_tag_index x hat (by omega) hij hj).mono (fun r σ₂ ⟨q, h1, h2, h3⟩ => ?_) fun σ₂ ⟨h1, h2⟩ => ⟨rfl, h2, by rw [h1]; rfl⟩⟩⟩
          exact ExsX_nil <| ExsX_nil <| ExsX_nil <| ExsX_nil ⟨K1.put (by decide), by rw [h2, h1]; exact lk_self, h3⟩
        · obtain rfl : dS (handleOf l) = d := Option.some.inj hd'
          refine ExsX_cons <| ExX_If <| Te_Cmp <| Ev_Name g1 <| Ev_int <| O2_eqI ⟨_, rfl, ?_⟩
          rw [if_neg (by decide)]
          refine ExsX_cons <| ExX_If <| Te_Cmp <| Ev_Name g1 <| Ev_int <| O2_eqI ⟨_, rfl, ?_⟩
          rw [if_neg (by decide)]
          refine ExsX_cons <| ExX_If <| Te_Cmp <| Ev_Name g1 <| Ev_int <| O2_eqI ⟨_, rfl, ?_⟩
          rw [if_neg (by decide)]
          refine ExsX_cons <| ExX_Assign rfl <| TvX_Meth (j := 11) x.ok room hh <| Ev_Name K1.rows ⟨_, _, MethTo_obj x.ok x.kf.pT hat x.kf.mget_handle x.kf.tmget_handle, KeepOk.ref x.kf.kmget_handle, Sp_nil ⟨5, by omega, (fnx_get_handle x hat (by omega)).mono (fun r σ₂ ⟨q, h1, h2, h3⟩ => ?_) fun σ₂ ⟨h1, h2⟩ => ⟨rfl, h2, by rw [h1]; rfl⟩⟩⟩
          exact ExsX_nil <| ExsX_nil <| ExsX_nil <| ExsX_nil ⟨K1.put (by decide), by rw [h2, h1]; exact lk_self, h3⟩
      · subst h1; subst h2; subst h3
        exact Exs_cons <| Ex_Assign (.inl rfl) <| Ev_none <| Exs_nil ⟨K1.put (by decide), lk_self, rfl⟩
    · rintro vars' σ₂ ⟨K2, g3, rfl⟩
      have hft : σ₂ f = some ⟨false, ((toldD l code i j).take k).map .dat⟩ := by rw [← hτ, upd_self]
      refine Exs_cons <| Ex_Expr <| Ev_Meth x.ok <| Ev_Name K2.found ⟨_, _, MethTo_append hft, KeepOk.builtin _, Sp_cons <| Ev_Name g3 <| Sp_nil <| On_append x.ok x.kf.T hft (by rw [List.length_map, List.length_take]; omega) ?_⟩
      refine Exs_nil <| UpV.now ⟨src _, K2, ?_⟩
      rw [← hτ, upd_upd]
      congr 2
      rw [List.take_add_one, hd]; simp
  · rintro vars σ₁ ⟨KV, rfl⟩
    generalize hτ : upd σ f ⟨false, (toldD l code i j).map .dat⟩ = τ
    have hστ : Agr σ τ := hτ ▸ Agr.upd hf
    have hat : τ a = some ⟨true, tagsOf l⟩ := hστ.get ha
    have hpt : τ p = some ⟨false, datsOf l⟩ := hστ.get hp
    have hft : τ f = some ⟨false, (toldD l code i j).map .dat⟩ := by rw [← hτ, upd_self]
    refine Exs_cons <| Ex_Assign (.inl rfl) <| Ev_CallFn x.ok x.kf.vlaw_first x.kf.kvlaw_first (j := 11) room hh <| Sp_cons <| Ev_Name KV.pairs <| Sp_cons <| Ev_Name KV.code <| Sp_cons <| Ev_int <| Sp_cons <| Ev_CallB x.ok x.kf.nlen rfl <| Sp_cons <| Ev_Name KV.pairs <| Sp_nil <| On_len x.ok x.kf.T (k := .list) (by nofun) (.obj hpt) (by omega) <| Sp_nil ⟨2, by omega, ?_⟩
    rw [hdl]
    refine (fn_first x (i := 0) (j := l.length) (.obj hpt) (Nat.le_refl _) (by omega) (by omega)).mono fun r τ' ⟨h1, h2⟩ => ?_
    subst h1; subst h2
    dsimp only
    have K1 : KA a p f code ns i j (putv vars "place" (optAV (firstAt l code 0 l.length))) := KV.put (by decide)
    have g1 : lk (putv vars "place" (optAV (firstAt l code 0 l.length))) "place" = some (optAV (firstAt l code 0 l.length)) := lk_self
    generalize putv vars "place" (optAV (firstAt l code 0 l.length)) = vs1 at K1 g1
    have hfq : firstQ l code = (firstAt l code 0 l.length).map fun k => l.getD k ((0, "") : Pr) := firstQ_At
    refine Exs_mid (fun vars' σ₂ => KA a p f code ns i j vars' ∧ lk vars' "place" = some (optAV (firstAt l code 0 l.length)) ∧ lk vars' "value" = some (.dat (dS ((firstQ l code).map (·.2)))) ∧ σ₂ = τ') ?_ ?_
    · refine Ex_Assign (.inl rfl) <| Ev_IfExp <| Te_Cmp <| Ev_Name g1 <| Ev_none ?_
      cases hfa : firstAt l code 0 l.length with
      | none =>
        rw [hfa] at hfq g1
        refine O2_isNone rfl ⟨_, rfl, ?_⟩
        rw [if_pos (show isN .none = true from rfl)]
        exact Ev_none ⟨K1.put (by decide), lk_ne g1 (by decide), by rw [hfq]; exact lk_self, rfl⟩
      | some k =>
        have hk := firstAt_lt hfa
        rw [hfa] at hfq g1
        refine O2_isNone rfl ⟨_, rfl, ?_⟩
        rw [if_neg (show ¬ (isN (.int k) = true) from Bool.false_ne_true)]
        have hit : (datsOf l)[(k : Int).toNat]? = some (.dat (prD (l.getD k ((0, "") : Pr)))) := by rw [Int.toNat_natCast]; show (l.map _)[k]? = _; rw [List.getElem?_map, getD_get (d := ((0, "") : Pr)) hk]; rfl
        exact Ev_Sub <| Ev_Sub <| Ev_Name K1.pairs <| Ev_Name g1 <| O2_item x.ok x.kf.T (.obj hpt) (by omega) hit (by omega) <| Ev_int <| O2_item (x := .str (l.getD k ((0, "") : Pr)).2) x.ok x.kf.T (.datT _) (by decide) rfl (by decide) ⟨K1.put (by decide), lk_ne g1 (by decide), by rw [hfq]; exact lk_self, rfl⟩
    rintro vs2 σ₂ ⟨K2, g2, g3, hσ2⟩
    rw [← hσ2] at hat hpt hft hστ
    clear hσ2 hτ
    rw [optAV_d] at g2
    -- found
    refine Exs_mid (fun v' σ' => v' = vs2 ∧ σ' = σ₂) ?_ ?_
    · refine Ex_If <| Te_neL room0 <| Ev_Name K2.found <| Ev_List <| Sp_cons <| Ev_Name g3 <| Sp_cons <| Ev_Name g3 <| Sp_cons <| Ev_CallFn x.ok x.kf.vlaw_first x.kf.kvlaw_first (j := 11) room hh <| Sp_cons <| Ev_Name K2.pairs <| Sp_cons <| Ev_Name K2.code <| Sp_cons <| Ev_Name K2.start <| Sp_cons <| Ev_Name K2.stop <| Sp_nil ⟨2, by omega, (fn_first x (.obj hpt) hj (by omega) (by omega)).mono fun r τ' ⟨h1, h2⟩ => ?_⟩
      subst h1; subst h2
      refine Sp_cons <| Ev_CallFn x.ok x.kf.vlaw_handle x.kf.kvlaw_handle (j := 11) room hh <| Sp_cons <| Ev_Name K2.pairs <| Sp_nil ⟨2, by omega, (fn_handle x (.obj hpt) (by omega)).mono fun r τ'' ⟨h1, h2⟩ => ?_⟩
      subst h1; subst h2
      refine Sp_nil ⟨by simp, fun D hD => ⟨.list (toldD l code i j), .list (upd_ne (fun e => by rw [← e, hft] at hD; cases hD) |>.trans hft) (IsDs.map _), .list (items := (toldD l code i j).map .dat) ?_ (IsDs.map _), shaped_told hok, _, Sub.upd hD, ?_⟩⟩
      · rw [upd_self, optAV_d, optS_d]; rfl
      rw [if_neg Bool.false_ne_true]
      exact Exs_nil ⟨rfl, rfl⟩
    rintro v' σ' ⟨hv, hs⟩; rw [hv, hs]; clear hv hs v' σ'
    -- has_tag, get_first_value
    refine Exs_mid (fun v' σ' => v' = vs2 ∧ σ' = σ₂) ?_ ?_
    · refine Ex_If <| Te_BoolOp <| Ta_or <| Te_neL room0 <| Ev_Meth x.ok <| Ev_Name K2.rows ⟨_, _, MethTo_obj x.ok x.kf.pT hat x.kf.mhas_tag x.kf.tmhas_tag, KeepOk.ref x.kf.kmhas_tag, Sp_cons <| Ev_Name K2.code <| Sp_nil <| ((fn_has_tag x hat (by omega)).mono fun r θ ⟨h1, h2⟩ => ?_).on (j := 11) room (by omega) hh⟩
      subst h1; subst h2
      have hb : (l.any fun q => q.1 == code) = !isN (dI (firstAt l code 0 l.length)) := by
        rw [any_firstQ, hfq]; cases firstAt l code 0 l.length <;> rfl
      refine Ev_Cmp (Ev_Name g2 (Ev_none (O2_isNotNone (plain_dI _) ⟨.bool (l.any fun q => q.1 == code), .dat _, by rw [← hb]; exact .dat _, rfl, _, .refl _, ?_⟩)))
      rw [if_neg Bool.false_ne_true]
      refine Ta_or <| Te_neL room0 <| Ev_Meth x.ok <| Ev_Name K2.rows ⟨_, _, MethTo_obj x.ok x.kf.pT hat x.kf.mget_first_value x.kf.tmget_first_value, KeepOk.ref x.kf.kmget_first_value, Sp_cons <| Ev_Name K2.code <| Sp_cons <| Ev_str <| Sp_nil <| ((fn_first_value x hat).mono fun r θ ⟨h1, h2⟩ => ?_).on (j := 11) room (by omega) hh⟩
      subst h1; subst h2
      refine Ev_IfExp <| Te_Cmp <| Ev_Name g2 <| Ev_none <| O2_isNone (plain_dI _) ⟨_, rfl, ?_⟩
      cases hfa : firstAt l code 0 l.length with
      | none =>
        rw [hfa] at hfq
        rw [if_pos (show isN (dI none) = true from rfl)]
        refine Ev_str ⟨.str "none", by rw [hfq]; exact .dat _, .dat _, by decide +kernel, _, .refl _, ?_⟩
        rw [if_neg Bool.false_ne_true]
        exact Ta_orNil (by rw [if_neg Bool.false_ne_true]; exact Exs_nil ⟨rfl, rfl⟩)
      | some k =>
        rw [hfa] at hfq
        have hqm := firstQ_mem hfq
        rw [if_neg (show ¬ (isN (dI (some k)) = true) from Bool.false_ne_true)]
        rw [hfq] at g3 ⊢
        refine Ev_Name g3 ⟨.str (l.getD k ((0, "") : Pr)).2, .dat _, .dat _, hok _ hqm, _, .refl _, ?_⟩
        rw [if_neg Bool.false_ne_true]
        exact Ta_orNil (by rw [if_neg Bool.false_ne_true]; exact Exs_nil ⟨rfl, rfl⟩)
    rintro v' σ' ⟨hv, hs⟩; rw [hv, hs]; clear hv hs v' σ'
    -- run
    refine Exs_cons <| Ex_Assign (.inl rfl) <| Ev_List <| Sp_nil ⟨by simp, fun rn hrn => ?_⟩
    have K3 : KA a p f code ns i j (putv vs2 "run" (.obj rn)) := K2.put (by decide)
    have g4 : lk (putv vs2 "run" (.obj rn)) "run" = some (.obj rn) := lk_self
    generalize putv vs2 "run" (.obj rn) = vs3 at K3 g4
    have hrp : rn ≠ p := fun e => by rw [e, hpt] at hrn; cases hrn
    have hpr : upd σ₂ rn ⟨false, []⟩ p = some ⟨false, datsOf l⟩ := (upd_ne (Ne.symm hrp)).trans hpt
    generalize hsl : (l.drop i).take (j - i) = sl
    have hsll : sl.length ≤ 900 := by rw [← hsl, List.length_take, List.length_drop]; omega
    refine Exs_mid (fun v' σ' => KA a p f code ns i j v' ∧ lk v' "run" = some (.obj rn) ∧ Agr σ₂ σ' ∧ σ' rn = some ⟨false, datsOf (runOf l ns i j)⟩) ?_ ?_
    · have hrun : runOf l ns i j = sl.takeWhile fun q => ns.contains q.1 := by unfold runOf; rw [hsl]
      refine Ex_For x.ok x.kf.T hh <| Ev_Slice <| Ev_Name K3.pairs <| Ev_Name K3.start <| Ev_Name K3.stop ⟨datsOf l, i, j, .obj hpr, rfl, rfl, hij, by omega, by omega, fun D hD => ⟨datsOf sl, ?_⟩⟩
      have hsl' : ((datsOf l).drop i).take (j - i) = datsOf sl := by rw [← hsl]; simp [datsOf, List.map_take, List.map_drop]
      rw [hsl']
      have hDr : D ≠ rn := fun e => by rw [e, upd_self] at hD; cases hD
      have hD2 : σ₂ D = none := by rw [upd_ne hDr] at hD; exact hD
      have src : ∀ o, Src (upd (upd σ₂ rn o) D ⟨false, datsOf sl⟩) (.obj D) (datsOf sl) := fun o => .seq (k := .list) (by nofun) (.obj (upd_self _ _ _))
      refine ⟨src _, LetOk_Name, fun k v' σ' => KA a p f code ns i j v' ∧ lk v' "run" = some (.obj rn) ∧ σ' = upd (upd σ₂ rn ⟨false, datsOf (sl.take k)⟩) D ⟨false, datsOf sl⟩ ∧ ∀ z ∈ sl.take k, ns.contains z.1 = true, ⟨K3, g4, rfl, by simp⟩, ?_, ?_⟩
      · rintro k v v' σ' hv ⟨K4, g5, rfl, g6⟩
        obtain ⟨q, hq, rfl⟩ := datsOf_get hv
        have hrk : upd (upd σ₂ rn ⟨false, datsOf (sl.take k)⟩) D ⟨false, datsOf sl⟩ rn = some ⟨false, datsOf (sl.take k)⟩ := by rw [upd_ne (Ne.symm hDr), upd_self]
        refine ⟨src _, Asg_Name (.inl rfl) ⟨src _, Exs_cons <| Ex_If <| Te_notIn0 x room0 lk_self (K4.put (y := "pair") (by decide)).codes ?_⟩⟩
        cases hc : ns.contains q.1 with
        | false =>
          rw [if_pos (show (!false) = true from rfl)]
          refine Exs_cons <| Ex_Break ⟨K4.put (by decide), lk_ne g5 (by decide), ?_, ?_⟩
          · exact (Agr.upd hrn).trans (Agr.upd (by rw [upd_ne hDr]; exact hD2))
          · rw [hrk, hrun, takeWhile_cut g6 hq hc]
        | true =>
          rw [if_neg (show ¬ ((!true) = true) from by decide)]
          refine Exs_nil <| Exs_cons <| Ex_Expr <| Ev_Meth x.ok <| Ev_Name (lk_ne g5 (by decide)) ⟨_, _, MethTo_append hrk, KeepOk.builtin _, Sp_cons <| Ev_Name lk_self <| Sp_nil <| On_append x.ok x.kf.T hrk (by rw [datsOf_len, List.length_take]; omega) ?_⟩
          refine Exs_nil <| UpV.now ⟨.seq (k := .list) (by nofun) (.obj ?_), K4.put (by decide), lk_ne g5 (by decide), ?_, forall_take_succ g6 hq hc⟩
          · rw [upd_ne hDr, upd_self]
          · rw [upd_comm hDr, upd_upd]
            congr 3
            rw [List.take_add_one, hq]; simp [datsOf]
      · rintro v' σ' ⟨K4, g5, rfl, g6⟩
        rw [List.take_of_length_le (by rw [datsOf_len]; exact Nat.le_refl _)] at g6
        refine ⟨K4, g5, (Agr.upd hrn).trans (Agr.upd (by rw [upd_ne hDr]; exact hD2)), ?_⟩
        rw [upd_ne (Ne.symm hDr), upd_self, hrun, takeWhile_all g6, List.take_of_length_le (by rw [datsOf_len]; exact Nat.le_refl _)]
    rintro vs4 σ₃ ⟨K4, g5, hag3, hrn3⟩
    have ha3 := hag3.get hat
    have hp3 := hag3.get hpt
    have hσ3 : Agr σ σ₃ := hστ.trans hag3
    have hokR : Ok (runOf l ns i j) := fun q hq => hok q (runOf_mem hq)
    have hlR := runOf_len (l := l) (ns := ns) (i := i) (j := j)
    -- collect
    refine Exs_mid (fun v' σ' => v' = vs4 ∧ σ' = σ₃) ?_ ?_
    · refine Ex_If <| Te_neL room0 <| Ev_CallFn x.ok x.kf.vlaw_pairs x.kf.kvlaw_pairs (j := 11) room hh <| Sp_cons <| Ev_Meth x.ok <| Ev_Name K4.rows ⟨_, _, MethTo_obj x.ok x.kf.pT ha3 x.kf.mcollect_consecutive_tags x.kf.tmcollect_consecutive_tags, KeepOk.ref x.kf.kmcollect_consecutive_tags, Sp_cons <| Ev_Name K4.codes <| Sp_cons <| Ev_Name K4.start <| Sp_cons <| Ev_Name K4.stop <| Sp_nil <| ((fn_collect x ha3 (by omega) Items_codes hn hij hj).mono fun r θ ⟨S, hS, h1, h2⟩ => ?_).on (j := 11) room (by omega) hh⟩
      subst h1; subst h2
      refine Sp_nil ⟨4, by omega, (fn_pairsI x (k := .tags) (by nofun) (.tags (upd_self _ _ _)) (by omega)).mono fun r θ ⟨h1, h2⟩ => ?_⟩
      subst h1; subst h2
      refine Ev_Name g5 ⟨.list ((runOf l ns i j).map prD), .dat _, IsDs_prs ((upd_ne fun e => by rw [← e, hrn3] at hS; cases hS).trans hrn3), shaped_prs hokR, _, Sub.upd hS, ?_⟩
      rw [if_neg Bool.false_ne_true]
      exact Exs_nil ⟨rfl, rfl⟩
    rintro v' σ' ⟨hv, hs⟩; rw [hv, hs]; clear hv hs v' σ'
    -- find_all
    refine Exs_mid (fun v' σ' => v' = vs4 ∧ σ' = σ₃) ?_ ?_
    · refine Ex_If <| Te_neL room0 <| Ev_CallFn x.ok x.kf.vlaw_pairs x.kf.kvlaw_pairs (j := 11) room hh <| Sp_cons <| Ev_Meth x.ok <| Ev_Name K4.rows ⟨_, _, MethTo_obj x.ok x.kf.pT ha3 x.kf.mfind_all x.kf.tmfind_all, KeepOk.ref x.kf.kmfind_all, Sp_cons <| Ev_Name K4.code <| Sp_nil <| ((fn_find_all x ha3 (by omega)).mono fun r θ ⟨S, hS, h1, h2⟩ => ?_).on (j := 11) room (by omega) hh⟩
      subst h1; subst h2
      have hlf := List.length_filter_le (fun q : Pr => q.1 == code) l
      refine Sp_nil ⟨4, by omega, (fn_pairsI x (k := .tags) (by nofun) (.tags (upd_self _ _ _)) (by omega)).mono fun r θ ⟨h1, h2⟩ => ?_⟩
      subst h1; subst h2
      refine Ev_Filt x.ok x.kf.T hh (cl := [("code", L + 2)]) ⟨rfl, rfl, by decide, by simp; exact .inl rfl⟩ (y := "pair") rfl (pr := fun q => q.1 == code) (.obj ((Agr.upd hS).get hp3)) (by omega) (Ev_Name K4.pairs ⟨rfl, rfl⟩) (fun D q σ5 _ _ => Te_Cmp <| Ev_Sub <| Ev_Name lk_self <| Ev_int <| O2_item (x := .int q.1) x.ok x.kf.T (.datT _) (by decide) rfl (by decide) <| Ev_Name (lk_ne (capVars_get rfl K4.code) (by decide)) <| O2_eqI ⟨_, rfl, rfl, rfl⟩) fun D σ5 hD hag hD' => ?_
      refine ⟨.list ((l.filter fun q => q.1 == code).map prD), .dat _, IsDs_prs hD', shaped_prs (hok.filter _), _, ((Agr.upd hS).trans hag).sub, ?_⟩
      rw [if_neg Bool.false_ne_true]
      exact Exs_nil ⟨rfl, rfl⟩
    rintro v' σ' ⟨hv, hs⟩; rw [hv, hs]; clear hv hs v' σ'
    -- embedded
    refine Exs_mid (fun v' σ' => v' = vs4 ∧ σ' = σ₃) ?_ ?_
    · refine Ex_If <| Te_neL room0 <| Ev_Meth x.ok <| Ev_Name K4.rows ⟨_, _, MethTo_obj x.ok x.kf.pT ha3 x.kf.mhas_embedded_objects x.kf.tmhas_embedded_objects, KeepOk.ref x.kf.kmhas_embedded_objects, Sp_nil <| ((fn_emb x ha3 hok).mono fun r θ ⟨h1, h2⟩ => ?_).on (j := 11) room (by omega) hh⟩
      subst h1; subst h2
      refine Ev_Cmp <| Ev_Tuple <| Sp_cons <| Ev_int <| Sp_cons <| Ev_str <| Sp_nil ⟨[.int 101, .str "Embedded Object"], rfl, by simp, Ev_Name K4.pairs <| O2_inL room0 (.dat _) (IsDs_prs hp3) (by decide +kernel) (canLay_prs hok) ⟨.bool (l.any embQ), .dat _, by rw [any_emb]; exact .dat _, rfl, _, .refl _, ?_⟩⟩
      rw [if_neg Bool.false_ne_true]
      exact Exs_nil ⟨rfl, rfl⟩
    rintro v' σ' ⟨hv, hs⟩; rw [hv, hs]; clear hv hs v' σ'
    -- kinds
    refine Exs_cons <| Ex_Assign (.inl rfl) <| Ev_List <| Sp_cons <| Ev_Meth x.ok <| Ev_Name K4.rows ⟨_, _, MethTo_obj x.ok x.kf.pT ha3 x.kf.mget_soft_pointers x.kf.tmget_soft_pointers, KeepOk.ref x.kf.kmget_soft_pointers, Sp_nil <| ((fn_soft_pointers x ha3 (by omega)).mono fun r θ ⟨S1, hS1, h1, h2⟩ => ?_).on (j := 11) room (by omega) hh⟩
    subst h1; subst h2
    have a1 := Agr.upd (o := ⟨true, tagsOf (l.filter fun q => softP q.1)⟩) hS1
    have s1 : upd σ₃ S1 ⟨true, tagsOf (l.filter fun q => softP q.1)⟩ S1 = some ⟨true, tagsOf (l.filter fun q => softP q.1)⟩ := upd_self _ _ _
    generalize upd σ₃ S1 ⟨true, tagsOf (l.filter fun q => softP q.1)⟩ = τ1 at a1 s1
    refine Sp_cons <| Ev_Meth x.ok <| Ev_Name K4.rows ⟨_, _, MethTo_obj x.ok x.kf.pT (a1.get ha3) x.kf.mget_hard_pointers x.kf.tmget_hard_pointers, KeepOk.ref x.kf.kmget_hard_pointers, Sp_nil <| ((fn_hard_pointers x (a1.get ha3) (by omega)).mono fun r θ ⟨S2, hS2, h1, h2⟩ => ?_).on (j := 11) room (by omega) hh⟩
    subst h1; subst h2
    have a2 := a1.trans (Agr.upd (o := ⟨true, tagsOf (l.filter fun q => hardP q.1)⟩) hS2)
    have s2 : upd τ1 S2 ⟨true, tagsOf (l.filter fun q => hardP q.1)⟩ S2 = some ⟨true, tagsOf (l.filter fun q => hardP q.1)⟩ := upd_self _ _ _
    replace s1 := (Agr.upd (o := ⟨true, tagsOf (l.filter fun q => hardP q.1)⟩) hS2).get s1
    generalize upd τ1 S2 ⟨true, tagsOf (l.filter fun q => hardP q.1)⟩ = τ2 at a2 s2 s1
    refine Sp_cons <| Ev_Meth x.ok <| Ev_Name K4.rows ⟨_, _, MethTo_obj x.ok x.kf.pT (a2.get ha3) x.kf.mget_soft_owner_handles x.kf.tmget_soft_owner_handles, KeepOk.ref x.kf.kmget_soft_owner_handles, Sp_nil <| ((fn_soft_owners x (a2.get ha3) (by omega)).mono fun r θ ⟨S3, hS3, h1, h2⟩ => ?_).on (j := 11) room (by omega) hh⟩
    subst h1; subst h2
    have a3 := a2.trans (Agr.upd (o := ⟨true, tagsOf (l.filter fun q => softO q.1)⟩) hS3)
    have s3 : upd τ2 S3 ⟨true, tagsOf (l.filter fun q => softO q.1)⟩ S3 = some ⟨true, tagsOf (l.filter fun q => softO q.1)⟩ := upd_self _ _ _
    replace s1 := (Agr.upd (o := ⟨true, tagsOf (l.filter fun q => softO q.1)⟩) hS3).get s1
    replace s2 := (Agr.upd (o := ⟨true, tagsOf (l.filter fun q => softO q.1)⟩) hS3).get s2
    generalize upd τ2 S3 ⟨true, tagsOf (l.filter fun q => softO q.1)⟩ = τ3 at a3 s3 s2 s1
    refine Sp_cons <| Ev_Meth x.ok <| Ev_Name K4.rows ⟨_, _, MethTo_obj x.ok x.kf.pT (a3.get ha3) x.kf.mget_hard_owner_handles x.kf.tmget_hard_owner_handles, KeepOk.ref x.kf.kmget_hard_owner_handles, Sp_nil <| ((fn_hard_owners x (a3.get ha3) (by omega)).mono fun r θ ⟨S4, hS4, h1, h2⟩ => ?_).on (j := 11) room (by omega) hh⟩
    subst h1; subst h2
    have a4 := a3.trans (Agr.upd (o := ⟨true, tagsOf (l.filter fun q => hardO q.1)⟩) hS4)
    have s4 : upd τ3 S4 ⟨true, tagsOf (l.filter fun q => hardO q.1)⟩ S4 = some ⟨true, tagsOf (l.filter fun q => hardO q.1)⟩ := upd_self _ _ _
    replace s1 := (Agr.upd (o := ⟨true, tagsOf (l.filter fun q => hardO q.1)⟩) hS4).get s1
    replace s2 := (Agr.upd (o := ⟨true, tagsOf (l.filter fun q => hardO q.1)⟩) hS4).get s2
    replace s3 := (Agr.upd (o := ⟨true, tagsOf (l.filter fun q => hardO q.1)⟩) hS4).get s3
    generalize upd τ3 S4 ⟨true, tagsOf (l.filter fun q => hardO q.1)⟩ = τ4 at a4 s4 s3 s2 s1
    refine Sp_nil ⟨by simp, fun kd hkd => ?_⟩
    have a5 := a4.trans (Agr.upd (o := ⟨false, [.obj S1, .obj S2, .obj S3, .obj S4]⟩) hkd)
    have s5 : upd τ4 kd ⟨false, [.obj S1, .obj S2, .obj S3, .obj S4]⟩ kd = some ⟨false, ([S1, S2, S3, S4] : List Addr).map .obj⟩ := upd_self _ _ _
    replace s1 := (Agr.upd (o := ⟨false, [.obj S1, .obj S2, .obj S3, .obj S4]⟩) hkd).get s1
    replace s2 := (Agr.upd (o := ⟨false, [.obj S1, .obj S2, .obj S3, .obj S4]⟩) hkd).get s2
    replace s3 := (Agr.upd (o := ⟨false, [.obj S1, .obj S2, .obj S3, .obj S4]⟩) hkd).get s3
    replace s4 := (Agr.upd (o := ⟨false, [.obj S1, .obj S2, .obj S3, .obj S4]⟩) hkd).get s4
    dsimp only
    generalize upd τ4 kd ⟨false, [.obj S1, .obj S2, .obj S3, .obj S4]⟩ = τ at a5 s5 s4 s3 s2 s1
    have K5 : KA a p f code ns i j (putv vs4 "kinds" (.obj kd)) := K4.put (by decide)
    have g6 : lk (putv vs4 "kinds" (.obj kd)) "kinds" = some (.obj kd) := lk_self
    generalize putv vs4 "kinds" (.obj kd) = vs5 at K5 g6
    -- spans
    refine Exs_cons <| Ex_Assign (.inl rfl) <| Tv.up <| Ev_List <| Sp_cons <| Ev_IntsD [330, 1005] rfl (by decide) <| Sp_cons <| Ev_IntsD [340, 480] rfl (by decide) <| Sp_cons <| Ev_IntsD [350] rfl (by decide) <| Sp_cons <| Ev_IntsD [360] rfl (by decide) <| Sp_nil ⟨by simp, fun sd hsd => Up.froze (ds := spansL.map fun s => .list (s.map .int)) ?_ (Sub.upd hsd) (by rw [upd_self]; rfl) hsd⟩
    have K6 : KA a p f code ns i j (putv vs5 "spans" (.dat (.list (spansL.map fun s => .list (s.map .int))))) := K5.put (by decide)
    have g7 : lk (putv vs5 "spans" (.dat (.list (spansL.map fun s => .list (s.map .int))))) "spans" = some (.dat (.list (spansL.map fun s => .list (s.map .int)))) := lk_self
    replace g6 : lk (putv vs5 "spans" (.dat (.list (spansL.map fun s => .list (s.map .int))))) "kinds" = some (.obj kd) := lk_ne g6 (by decide)
    generalize putv vs5 "spans" (.dat (.list (spansL.map fun s => .list (s.map .int)))) = vs6 at K6 g6 g7
    have hp5 := a5.get hp3
    generalize hLs : (spansL.map fun s => l.filter fun q : Pr => s.contains q.1) = Ls
    have hLs' : Ls = [l.filter fun q => softP q.1, l.filter fun q => hardP q.1, l.filter fun q => softO q.1, l.filter fun q => hardO q.1] := by
      rw [← hLs, filt_soft hgood, filt_hard hgood, filt_softO hgood, filt_hardO hgood]; rfl
    have hokL : ∀ L ∈ Ls, Ok L := by
      rw [← hLs]; intro L hL
      obtain ⟨s, _, rfl⟩ := List.mem_map.mp hL
      exact hok.filter _
    have flt : ∀ pr : Pr → Bool, (l.filter pr).length ≤ 1000 := fun pr => Nat.le_trans (List.length_filter_le _ _) (by omega)
    refine Exs_cons <| Ex_Return <| Ev_Cmp <| Ev_PairsAll x (j := 7) room hh ⟨rfl, rfl, by decide, by simp⟩ rfl rfl (Ss := [S1, S2, S3, S4]) (Ls := Ls) s5 (by simp) ?_ (by rw [hLs']; rfl) (Ev_Name g6 ⟨rfl, rfl⟩) fun D1 σ8 hD1 hag8 hD1' => ?_
    · intro i S hS
      rw [hLs']
      rcases i with _ | _ | _ | _ | i
      · obtain rfl := Option.some.inj hS; exact ⟨_, rfl, s1, flt _⟩
      · obtain rfl := Option.some.inj hS; exact ⟨_, rfl, s2, flt _⟩
      · obtain rfl := Option.some.inj hS; exact ⟨_, rfl, s3, flt _⟩
      · obtain rfl := Option.some.inj hS; exact ⟨_, rfl, s4, flt _⟩
      · cases hS
    have hp8 := hag8.get hp5
    refine Ev_ListComp x.ok x.kf.T hh (cl := [("pairs", L + 1)]) ⟨rfl, rfl, by decide, by simp; exact .inl rfl⟩ (y := ".0") rfl <| Ev_Name g7 ⟨(spansL.map fun s => .list (s.map .int)).map .dat, fun k outs σ' => outs = ((prsD Ls).take k).map .dat ∧ Agr σ8 σ', ⟨.seq (k := .list) (by nofun) (.datL _), LetOk_Name, by decide, ⟨rfl, .refl _⟩, fun i outs σ' σ'' h hag => ⟨h.1, h.2.loc hag⟩, fun i outs σ' h => .seq (k := .list) (by nofun) (.datL _), ?_⟩, ?_⟩
    · rintro D k v hv outs σ' ⟨rfl, hag⟩ hdm
      obtain ⟨sp, hk, rfl⟩ : ∃ sp, spansL[k]? = some sp ∧ AV.dat (.list (sp.map .int)) = v := by simpa using hv
      have hLk : Ls[k]? = some (l.filter fun q : Pr => sp.contains q.1) := by rw [← hLs, List.getElem?_map, hk]; rfl
      refine ⟨_, true, CAsg_Cell (c := D + 1) rfl rfl (List.mem_cons_of_mem _ (show D + 1 ∈ ([("span", D + 1)] : List (Str × Addr)).map (·.2) from List.mem_cons_self)) (Nat.succ_ne_self D) (show D + 1 ∈ ([("span", D + 1), ("pairs", L + 1)] : List (Str × Addr)).map (·.2) from List.mem_cons_self), Ti_nil ⟨rfl, rfl⟩, fun _ => ?_, nofun⟩
      refine Tv.up <| Ev_Filt x.ok x.kf.T hh (cl := [("span", D + 1)]) ⟨rfl, rfl, by decide, by simp; exact .inl rfl⟩ (y := "pair") rfl (pr := fun q => sp.contains q.1) (.obj (hag.get hp8)) (by omega) (Ev_Name (lk_ne (capVars_get rfl K6.pairs) (by decide)) ⟨rfl, rfl⟩) (fun D' q σ5 _ _ => Te_in0 x room0 lk_self (lk_ne (capVars_get rfl lk_self) (by decide)) ⟨rfl, rfl⟩) fun D' σ5 hD' hag5 hD5 => ?_
      refine Up.froze (ds := (l.filter fun q : Pr => sp.contains q.1).map prD) (σ0 := σ') ⟨fun _ _ _ => rfl, hdm, ?_, hag⟩ hag5.sub (by rw [hD5]; simp [datsOf]) hD'
      have : (prsD Ls)[k]? = some (.list ((l.filter fun q : Pr => sp.contains q.1).map prD)) := by unfold prsD; rw [List.getElem?_map, hLk]; rfl
      rw [List.take_add_one, this]; simp
    · rintro D outs σ' hD ⟨rfl, hag⟩ hD'
      have hlen : (prsD Ls).length = 4 := by unfold prsD; rw [← hLs]; rfl
      rw [List.take_of_length_le (by rw [hlen]; decide)] at hD'
      refine O2_eqD room0 (.list ((hag.get hD1')) (IsDs.map _)) (.list hD' (IsDs.map _)) (shaped_prss hokL) (shaped_prss hokL) ?_
      rw [eqv_refl _ (canLay_of_shaped (shaped_prss hokL))]
      exact Up.to ⟨rfl, rfl⟩ ((((hσ3.trans a5).trans hag8).trans hag).sub)
end
end Mine
end

section
open PySem PySem.W PyProof.Rows PySem.Calls PySem.SeqAt
set_option Elab.async false
set_option maxRecDepth 100000
set_option linter.unusedVariables false
namespace Mine
section
variable {C : Cx} {P0 : Params} {A : Around} {F : Fm} {σ : Store} {s : Shared}
theorem RelAll.three {h : Heap} {a b c : AV} {vs : List Value} (r : RelAll σ h [a, b, c] vs) : ∃ u v w, vs = [u, v, w] ∧ Rel σ h a u ∧ Rel σ h b v ∧ Rel σ h c w := by
  cases r with
  | cons r1 r => cases r with
    | cons r2 r => cases r with
      | cons r3 r => cases r; exact ⟨_, _, _, rfl, r1, r2, r3⟩
/-- a, b, c = x, y, z, where no places are changed -/
theorem Ex_AssignTupleOf (hh : A.handled = none) {P : FP} {t₁ t₂ t₃ : Expr} {es : List Expr} {k k' : Nat} {p p' pos : Pos}
    (h : Sp C A F σ es fun as σ₁ => ∃ a b c, as = [a, b, c] ∧ Asg C A F σ₁ t₁ a fun v1 σ2 => Asg C A (F.with v1) σ2 t₂ b fun v2 σ3 => Asg C A (F.with v2) σ3 t₃ c fun v3 σ4 => P .next v3 σ4)
    (he : assignEach [t₁, t₂, t₃] F.env = [(false, assign t₁ F.env), (false, assign t₂ F.env), (false, assign t₃ F.env)] := by rfl)
    (hs : swapsWithSole [.Tuple [t₁, t₂, t₃] k p] (.Tuple es k' p') pos.line F.env = pure false := by rfl) (hw : swappedStores [.Tuple [t₁, t₂, t₃] k p] (.Tuple es k' p') F.env = pure none := by rfl) :
    Ex C A F σ (.Assign [.Tuple [t₁, t₂, t₃] k p] (.Tuple es k' p') pos) P := fun s st Q hQ =>
  Assign_Tuple (wpAny_Tuple (h s st p' _ fun as vs σ₁ s₁ h₁ st₁ r₁ e₁ => by
    obtain ⟨a, b, c, rfl, h₁⟩ := h₁
    have hvl := r₁.length
    refine ⟨by rw [hvl]; show 3 ≤ _; rw [sizeLine_eq]; omega, ?_⟩
    obtain ⟨st₂, e₂⟩ := st₁.push { cls := .type "tuple", data := .seq vs.toArray } s₁.toks
    have ht : (s₁.heap.push { cls := .type "tuple", data := .seq vs.toArray }).IsTuple s₁.heap.objs.size vs.toArray := ⟨_, Heap.get?_push_size _ rfl, rfl, _, rfl⟩
    have r2 := r₁.step e₂ (.nil _)
    rw [arm_assign_Tuple]
    refine wpAny_bind (wpAny_standAt ?_)
    unfold unpack
    rw [he]
    have hnl : 3 = vs.toArray.size := by rw [List.size_toArray, hvl]; rfl
    show wpAny _ _ (do let items ← holding _ (unpackItems _ 3 none); _) _ _ _
    rw [hnl]
    refine wpAny_bind (wpAny_holding ?_)
    refine unpackItems_tuple (s := { s₁ with heap := s₁.heap.push { cls := .type "tuple", data := .seq vs.toArray } }) hh ht fun h' he' => ?_
    have hz : (s₁.heap.push { cls := .type "tuple", data := .seq vs.toArray }).objs.size = s₁.heap.objs.size + 1 := Heap.size_push ..
    have ext : ∀ b o, (s₁.heap.push { cls := .type "tuple", data := .seq vs.toArray }).get? b = some o → h'.get? b = some o := fun b o e => he' b o (Nat.ne_of_lt (Heap.lt_size e)) e
    have hsz : (s₁.heap.push { cls := .type "tuple", data := .seq vs.toArray }).objs.size ≤ h'.objs.size := by
      rw [hz]
      obtain ⟨ot, hot, _⟩ := ht
      exact Heap.lt_size (ext _ _ hot)
    obtain ⟨st₃, e₃⟩ := st₂.grow (s' := { s₁ with heap := h' }) ext hsz (Nat.le_refl _) st₂.bare rfl
    obtain ⟨u, v, w, rfl, r1, r2, r3⟩ := (r2.step e₃ (.nil _)).three
    refine wpAny_assignInOrder_more (h₁ _ u st₃ r1 _ fun vars₁ σ₂ s₂ h₂ st₄ e₄ => ?_)
    refine wpAny_assignInOrder_more (h₂ s₂ v st₄ (r2.step e₄ st₃.sok) _ fun vars₂ σ₃ s₃ h₃ st₅ e₅ => ?_)
    refine wpAny_assignInOrder_more (h₃ s₃ w st₅ ((r3.step e₄ st₃.sok).step e₅ st₄.sok) _ fun vars₃ σ₄ s₄ h₄ st₆ e₆ => ?_)
    exact wpAny_assignInOrder_none (hQ _ _ _ _ _ h₄ st₆ .next ((((((e₁.trans e₂).trans e₃).mono (by simp)).trans e₄).trans e₅).trans e₆))
    )) hs hw
end
end Mine
end

section
open PySem PySem.W PyProof.Rows PySem.Calls PySem.SeqAt
set_option Elab.async false
set_option maxRecDepth 100000
set_option linter.unusedVariables false
namespace Mine
/-- pairs as the law draws them -/
def GoodP (q : Pr) : Prop := q.1 ∈ codesL ∧ q.2 ∈ valuesL
def Good (l : List Pr) : Prop := ∀ q ∈ l, GoodP q
theorem values_shaped : ∀ v ∈ valuesL, shaped (.str v) = true := by decide +kernel
theorem GoodP.ok {q : Pr} (h : GoodP q) : shaped (.str q.2) = true := values_shaped _ h.2
theorem Good.ok {l : List Pr} (h : Good l) : Ok l := fun q hq => (h q hq).ok
theorem Good.code {l : List Pr} (h : Good l) : ∀ q ∈ l, q.1 ∈ codesL := fun q hq => (h q hq).1
theorem Good.set {l : List Pr} {q : Pr} (h : Good l) (hq : GoodP q) (k : Nat) : Good (l.set k q) := fun z hz => by
  rcases List.mem_or_eq_of_mem_set hz with h' | h'
  · exact h z h'
  · exact h' ▸ hq
theorem Good.snoc {l : List Pr} {q : Pr} (h : Good l) (hq : GoodP q) : Good (l ++ [q]) := fun z hz => by
  rcases List.mem_append.mp hz with h' | h'
  · exact h z h'
  · exact List.mem_singleton.mp h' ▸ hq
theorem Good.filter {l : List Pr} (h : Good l) (p : Pr → Bool) : Good (l.filter p) := fun z hz => h z (List.mem_filter.mp hz).1
theorem Good.replH {v : Str} (hv : v ∈ valuesL) : ∀ {l : List Pr}, Good l → Good (replH v l)
  | [], h => h
  | q :: r, h => by
    unfold Mine.replH
    have hr : Good r := fun z hz => h z (List.mem_cons_of_mem _ hz)
    have hq := h q List.mem_cons_self
    split
    · intro z hz
      rcases List.mem_cons.mp hz with h' | h'
      · rw [h']; exact ⟨hq.1, hv⟩
      · exact hr z h'
    · intro z hz
      rcases List.mem_cons.mp hz with h' | h'
      · rw [h']; exact hq
      · exact Good.replH hv hr z h'
theorem replH_length {v : Str} : ∀ l : List Pr, (replH v l).length = l.length
  | [] => rfl
  | q :: r => by
    unfold replH
    split
    · rfl
    · rw [List.length_cons, List.length_cons, replH_length r]
theorem Good.setFirst {l : List Pr} {q : Pr} (h : Good l) (hq : GoodP q) : Good (setFirst l q) := by
  unfold Mine.setFirst
  split
  · exact h.set hq _
  · exact h.snoc hq
theorem setFirst_length {l : List Pr} {q : Pr} : (setFirst l q).length ≤ l.length + 1 := by
  unfold setFirst
  split
  · rw [List.length_set]; omega
  · rw [List.length_append]; exact Nat.le_refl _
theorem Good.done {l : List Pr} {q : Pr} (h : Good l) (hq : GoodP q) (kind : Int) (ns : List Int) : Good (doneL kind q ns l) := by
  unfold doneL
  split
  · split
    · exact h.set hq _
    · exact h
  split
  · exact h.setFirst hq
  split
  · exact h.filter _
  split
  · exact h.filter _
  split
  · exact h.filter _
  split
  · exact Good.replH hq.2 h
  · exact h.snoc hq
theorem done_length {l : List Pr} {q : Pr} {kind : Int} {ns : List Int} : (doneL kind q ns l).length ≤ l.length + 1 := by
  unfold doneL
  split
  · split
    · rw [List.length_set]; omega
    · omega
  split
  · exact setFirst_length
  split
  · exact Nat.le_succ_of_le (List.length_filter_le _ _)
  split
  · exact Nat.le_succ_of_le (List.length_filter_le _ _)
  split
  · exact Nat.le_succ_of_le (List.length_filter_le _ _)
  split
  · rw [replH_length]; omega
  · rw [List.length_append]; exact Nat.le_refl _
theorem getD_mem {α : Type} {l : List α} {i : Nat} {d : α} (h : i < l.length) : l.getD i d ∈ l := List.mem_of_getElem? (getD_get h)
theorem good_pairOf {xs : List Int} {st : CS} : GoodP (pairOf xs st).1 := by
  have r1 := take_range (xs := xs) (st := st) (many := 12) (by decide)
  have r2 := take_range (xs := xs) (st := (take xs st 12).2) (many := 5) (by decide)
  exact ⟨getD_mem (by show _ < 12; omega), getD_mem (by show _ < 5; omega)⟩
def pairsGo (xs : List Int) : Nat → CS → List Pr × CS
  | 0, st => ([], st)
  | n + 1, st => ((pairsGo xs n st).1 ++ [(pairOf xs (pairsGo xs n st).2).1], (pairOf xs (pairsGo xs n st).2).2)
theorem pairsGo_p {xs : List Int} {st : CS} : ∀ n, (pairsGo xs n st).2.p ≤ st.p + 2 * n
  | 0 => Nat.le_refl _
  | n + 1 => by
    have h1 := pairsGo_p (xs := xs) (st := st) n
    have h2 := pairOf_p (xs := xs) (st := (pairsGo xs n st).2)
    show (pairOf xs (pairsGo xs n st).2).2.p ≤ _
    omega
theorem pairsGo_len {xs : List Int} {st : CS} : ∀ n, (pairsGo xs n st).1.length = n
  | 0 => rfl
  | n + 1 => by
    show ((pairsGo xs n st).1 ++ [_]).length = _
    rw [List.length_append, pairsGo_len n]; rfl
theorem pairsGo_good {xs : List Int} {st : CS} : ∀ n, Good (pairsGo xs n st).1
  | 0 => fun q h => nomatch h
  | n + 1 => (pairsGo_good n).snoc good_pairOf
theorem codesOf_len {xs : List Int} {st : CS} : (codesOf xs st).1.length ≤ 3 := by
  have h0 := take_range (xs := xs) (st := st) (many := 3) (by decide)
  unfold codesOf
  rw [codesGo_len]; omega
end Mine
end

section
open PySem PySem.W PyProof.Rows PySem.Calls PySem.SeqAt
set_option Elab.async false
set_option maxRecDepth 100000
set_option linter.unusedVariables false
namespace Mine
/-- a contract for a call out of no frame -/
def FnTop (C : Cx) (k : Nat) (f : Addr) (as : List AV) (P : AV → Prop) : Prop :=
  ∀ (A : Around) (s : Shared) (vs : List Value) (R : Result → Shared → Prop), Room A k → A.handled = none → A.frames = some [] → s.heap = C.B → AllBare s.gens → s.os = C.os → RelAll E0 s.heap as vs →
    (∀ a v σ' s', P a → BK C.B s'.heap → Rel σ' s'.heap a v → AllBare s'.gens → s'.os = C.os → R (.ok (.ret v)) s') → codeAny C.M A (.call (.ref f) ⟨vs, []⟩) R s

section
variable {C : Cx} {A : Around} {F : Fm} {σ : Store} {s : Shared}
theorem BK.of_keep {B h : Heap} (k : ∀ b o, B.get? b = some o → h.get? b = some o) : BK B h := ⟨fun b o e _ => k b o e, fun b ps e => ⟨#[], by simpa using k _ _ e, .inl rfl, by simp⟩⟩

theorem call_top (ok : C.Ok) {f : Addr} {fd : FuncData} {body : List Stmt} (fo : FnOk C.K f fd body) {k : Nat} (room : Room A k) (hk : 1 ≤ k) (hB : s.heap = C.B) (hbare : AllBare s.gens) (hos : s.os = C.os) (hfr : A.frames = some [])
    {args : List Value} {kw : List (Str × Value)} {binds : List (Str × Value)} {vars : List (Str × AV)} (hb : BindsTo s fd ⟨args, kw⟩ binds) (hv : Binds E0 s.heap vars binds)
    (hgen : fd.scope.isGenerator = false) (hnd : (vars.map (·.1)).Nodup) (hkinds : kindsOk fd.scope (vars.map (·.1)) = true) (hsnd : (fd.scope.names.map (·.1)).Nodup)
    (hloc : (∃ x ∈ vars.map (·.1), fd.scope.names.lookup x = some .local) ∨ ∀ L : Addr, L + 1 ∈ (cellsFrom (L + 1) fd.scope.names []).map (·.2))
    {P : AV → Store → Prop}
    (h : ∀ L, ∀ env, env = callEnvC fd L f → Exs C (A.deeper env) ⟨env, vars, [env]⟩ E0 body fun fl _ σ₁ => match fl with | .ret a => P a σ₁ | _ => P .none σ₁)
    {R : Result → Shared → Prop} (hQ : ∀ a v σ' s' A' F', P a σ' → St C A' F' σ' s' → Rel σ' s'.heap a v → R (.ok (.ret v)) s') : codeAny C.M A (.call (.ref f) ⟨args, kw⟩) R s := by
  obtain ⟨o, hlo, hdo⟩ := fo.o
  have X : C.K.In s.heap := hB ▸ ok.K
  have ho := X _ _ hlo
  obtain ⟨c, oc, vs, tq, hc, hoc, hdc, hq⟩ := fo.code
  refine codeAny_call_function (room.deep hk) ho hdo fo.co hgen fo.body ⟨c, oc, vs, tq, hc, X _ _ hoc, hdc, hq⟩ ?_
  refine hb _ _ _ _ ?_
  have names := hv.names
  have bnd : (binds.map (·.1)).Nodup := by rw [names]; exact hnd
  have kinds : ∀ x ∈ binds, fd.scope.names.lookup x.1 = some .local ∨ (fd.scope.names.lookup x.1 = some .cell ∧ ((cellsFrom (s.heap.objs.size + 1) fd.scope.names []).lookup x.1).isSome = true) := fun x hx => by
    have hm : x.1 ∈ vars.map (·.1) := names ▸ List.mem_map.mpr ⟨x, hx, rfl⟩
    have := List.all_eq_true.mp hkinds _ hm
    split at this
    · rename_i q; exact .inl q
    · rename_i q; exact .inr ⟨q, (cellsFrom_isSome x.1 fd.scope.names _ 0 [] [] rfl).trans this⟩
    · cases this
  rw [fo.clo]
  refine wpAny_newFunctionEnv_cells fo.kind kinds fun env he s' i => ?_
  have henv : env = callEnvC fd s.heap.objs.size f := he
  clear he
  have hbody := h s.heap.objs.size env henv
  have hcells : env.cells = cellsFrom (s.heap.objs.size + 1) fd.scope.names [] := by rw [henv]; rfl
  have okc := cellsFrom_ok fd.scope.names (s.heap.push { cls := .type "frame", data := .dict #[] }) (s.heap.objs.size + 1) [] ⟨fun _ _ hm => (nomatch hm), List.Pairwise.nil⟩ (by rw [Heap.size_push]; exact Nat.le_refl _)
  rw [Heap.size_push] at okc
  rw [← hcells] at okc
  have hkf : env.scope.kind = .function := by rw [henv]; exact fo.kind
  have hscope : env.scope = fd.scope := by rw [henv]; rfl
  have hkindOf : ∀ y, env.kindOf y = fd.scope.names.lookup y := fun y => by unfold Env.kindOf; rw [hscope]
  have hlocals : env.locals = s.heap.objs.size := by rw [henv]; rfl
  have hcn : (env.cells.map (·.1)).Nodup := by rw [hcells]; exact cellsFrom_names _ _ _ hsnd List.nodup_nil (by simp)
  have hf : env.frame = some env.locals := by rw [henv]; rfl
  have get : ∀ y a, vars.lookup y = some a → ∃ v, (y, v) ∈ binds ∧ Rel E0 s.heap a v := fun y a e => hv.find e
  have hi := i.toInCall
  obtain ⟨hsame, hns, hkeep, hfresh⟩ := hi
  have hcell := i.cell
  clear i
  obtain ⟨h1, tk, rfl⟩ := hsame
  have fresh : ∀ a, s.heap.objs.size ≤ a → C.B.get? a = none := fun a ha => by
    rw [← hB]
    cases q : s.heap.get? a with
    | none => rfl
    | some z => exact absurd (Heap.lt_size q) (Nat.not_lt.mpr ha)
  have sp : Step C.B [] [] E0 E0 s { s with heap := h1, toks := tk } := .grow hkeep (Nat.le_of_lt (Nat.lt_of_le_of_lt hfresh (let ⟨_, _, _, ho, _⟩ := hns; Heap.lt_size ho))) (Nat.le_refl _) fun _ _ h => h
  have st : St C (A.deeper env) ⟨env, vars, [env]⟩ E0 { s with heap := h1, toks := tk } := {
    bk := .of_keep (hB ▸ hkeep)
    so := fun a o e => by cases e
    bare := hbare
    os := hos
    stack := Around.frames_deeper hfr
    ff := Heap.FunFrames.cons (by rw [hkf]; decide) hf hns (fresh _ hfresh) trivial
    fd := fun b hb => by
      unfold Fm.frs at hb
      rw [List.filterMap_cons, hf] at hb
      rcases List.mem_cons.mp hb with rfl | hb
      · obtain ⟨o, es, ep, ho, hd, _⟩ := hns
        exact ⟨o, es, ep, ho, hd⟩
      · cases hb
    kind := hkf
    gl := by rw [henv]; exact fo.gl
    bi := by rw [henv]; exact fo.bi
    lB := fresh _ hfresh
    cB := fun p hp => ⟨fresh _ (Nat.le_of_succ_le (okc.empty p.1 p.2 hp).2), _, hcell p.1 p.2 (lookup_mem hcn hp)⟩
    nd := List.pairwise_map.mpr okc.apart
    ns := ⟨_, hns, by
      rcases hloc with ⟨x, hx, hl⟩ | hloc
      · obtain ⟨⟨y, a⟩, hp, rfl⟩ := List.mem_map.mp hx
        obtain ⟨v, hm, _⟩ := get y a (lookup_mem hnd hp)
        exact .inl ⟨y, v, bindL_get (by rw [hkindOf]; exact hl) bnd hm⟩
      · exact .inr (by rw [hcells, hlocals]; exact hloc _), fun y a e => by
      obtain ⟨v, hm, r⟩ := get y a e
      have r' := r.step sp (.nil _)
      unfold VarOk
      rcases kinds _ hm with hl | ⟨hl, hs⟩
      · simp only [hkindOf, hl]
        exact ⟨v, bindL_get (by rw [hkindOf]; exact hl) bnd hm, r'⟩
      · simp only [hkindOf, hl]
        obtain ⟨c, hc⟩ := Option.isSome_iff_exists.mp hs
        rw [← hcells] at hc
        exact ⟨c, v, hc, bindC_get (kindOf := env.kindOf) (m := fun _ => none) (by rw [hkindOf, hl]; decide) bnd hm ▸ hcell y c hc, r'⟩⟩ }
  refine ⟨st.lim ok, codeAny_func ?_⟩
  refine wpAny_noE (hbody _ st _ fun fl fw vars' σ₂ s₂ p₂ st₂ r₂ e₂ => ?_)
  cases r₂ with
  | next => exact hQ _ _ _ _ _ _ p₂ st₂ .none
  | brk => exact hQ _ _ _ _ _ _ p₂ st₂ .none
  | cont => exact hQ _ _ _ _ _ _ p₂ st₂ .none
  | ret r => exact hQ _ _ _ _ _ _ p₂ st₂ r

theorem FnTop_at (ok : C.Ok) {f : Addr} {fd : FuncData} {body : List Stmt} {sc : Scope} {cd : Value} (fo : FnOk C.K f fd body) (hsc : fd.scope = sc) (hcd : fd.code = cd) {k : Nat} {as : List AV} {P : AV → Prop} (names : List Str) (hlen : names.length = as.length)
    (hb : ∀ vs : List Value, vs.length = as.length → bindArgs fd ⟨vs, []⟩ = pure (names.zip vs))
    (hgen : sc.isGenerator = false) (hnd : names.Nodup) (hkinds : kindsOk sc names = true) (hsnd : (sc.names.map (·.1)).Nodup) (hloc : ∃ x ∈ names, sc.names.lookup x = some .local)
    (h : ∀ (A : Around) (L : Addr) (fs : List Env) (q : Str), Room A k → A.handled = none → Exs C A ⟨fEnv sc L f q cd, names.zip as, fEnv sc L f q cd :: fs⟩ E0 body fun fl _ σ₁ => match fl with | .ret a => Up (fun a _ => P a) a σ₁ | _ => Up (fun a _ => P a) .none σ₁) :
    FnTop C (k + 1) f as P := fun A s vs R room hh hfr hB hbare hos r hR => by
  subst hsc; subst hcd
  have hz : (names.zip as).map (·.1) = names := List.map_fst_zip (Nat.le_of_eq hlen)
  refine call_top ok fo room (Nat.le_add_left 1 k) hB hbare hos hfr (.of_eq (hb vs r.length)) (Binds.of r hlen) hgen (by rw [hz]; exact hnd) (by rw [hz]; exact hkinds) hsnd (by rw [hz]; exact .inl hloc) (P := Up fun a _ => P a)
    (fun L env he => ?_) fun a v σ₁ s₁ A' F' h₁ st₁ r₁ => ?_
  · have e : env = fEnv fd.scope L f (fd.qualname ++ ".<locals>.") fd.code := by
      rw [he]; show newEnv _ _ fd.globals _ _ _ _ _ fd.builtins = _; rw [fo.gl, fo.bi]
    subst e
    exact (h (A.deeper _) L [] _ (room.deeper) hh).mono fun fl vars σ' hp => by cases fl <;> exact hp
  · obtain ⟨a0, σ0, sub, cv, hp⟩ := h₁
    exact hR a0 v σ0 s₁ hp (st₁.forget sub).bk (cv.rel st₁ sub r₁) st₁.bare st₁.os
end
end Mine
end

section
open PySem PySem.W PyProof.Rows PySem.Calls PySem.SeqAt
set_option Elab.async false
set_option maxRecDepth 100000
set_option linter.unusedVariables false
namespace Mine
section
variable {C : Cx} {P0 : Params} {A : Around} {F : Fm} {P : AV → Store → Prop}
theorem c_ne_p {σ : Store} {c p : Addr} {xs : List Int} {st : CS} {l : List Pr} (hc : σ c = some (cObj xs st)) (hp : σ p = some ⟨false, datsOf l⟩) : c ≠ p := fun e => by
  rw [e, hp] at hc
  have h := congrArg AObj.items (Option.some.inj hc)
  cases l with
  | nil => cases h
  | cons q r =>
    have h2 : AV.dat (prD q) = AV.dat (.list (xs.map .int)) := (List.cons.inj h).1
    unfold prD at h2
    injection h2 with h2
    cases h2
theorem c_ne_a {σ : Store} {c a : Addr} {xs : List Int} {st : CS} {l : List AV} (hc : σ c = some (cObj xs st)) (ha : σ a = some ⟨true, l⟩) : c ≠ a := fun e => by
  rw [e, ha] at hc
  have h := congrArg AObj.tags (Option.some.inj hc)
  cases h
/-- between two turns -/
structure LI (xs : List Int) (a c : Addr) (k : Nat) (vars : Vs) (σ : Store) : Prop where
  ex : ∃ p l st, lk vars "c" = some (.obj c) ∧ lk vars "rows" = some (.obj a) ∧ lk vars "pairs" = some (.obj p) ∧ σ c = some (cObj xs st) ∧ st.p ≤ 100 + 20 * k ∧ σ a = some ⟨true, tagsOf l⟩ ∧ σ p = some ⟨false, datsOf l⟩ ∧ l.length ≤ 10 + k ∧ Good l

/-- the names of a turn -/
structure KL (c a p : Addr) (q : Pr) (ns : List Int) (vars : Vs) : Prop where
  c : lk vars "c" = some (.obj c)
  rows : lk vars "rows" = some (.obj a)
  pairs : lk vars "pairs" = some (.obj p)
  pair : lk vars "pair" = some (.dat (prD q))
  codes : lk vars "codes" = some (.dat (.list (ns.map .int)))
theorem KL.put {c a p : Addr} {q : Pr} {ns : List Int} {vars : Vs} {y : Str} {v : AV} (h : KL c a p q ns vars) (hy : ("c" : Str) ≠ y ∧ ("rows" : Str) ≠ y ∧ ("pairs" : Str) ≠ y ∧ ("pair" : Str) ≠ y ∧ ("codes" : Str) ≠ y) : KL c a p q ns (putv vars y v) :=
  ⟨lk_ne h.c hy.1, lk_ne h.rows hy.2.1, lk_ne h.pairs hy.2.2.1, lk_ne h.pair hy.2.2.2.1, lk_ne h.codes hy.2.2.2.2⟩

set_option maxHeartbeats 4000000 in
theorem fn_law (x : Bx C P0) {xs : List Int} (hx : xs.length ≤ 100000) :
    FnTop C 14 394 [.dat (.list (xs.map .int))] fun r => r = .bool true := by
  refine FnTop_at x.ok (FnOk.cast x.hK ⟨⟨_, rfl, rfl⟩, rfl, rfl, rfl, rfl, rfl, rfl, _, _, _, _, rfl, rfl, rfl, rfl⟩) rfl rfl ["script"] rfl (fun vs h => by obtain ⟨v1, rfl⟩ := len1 h; rfl) rfl (by decide) rfl (by decide) ⟨"script", by simp, rfl⟩ fun A L fs qq room hh => ?_
  have room0 : Room A 0 := room.less (Nat.zero_le _)
  generalize hvars : (["script"] : List Str).zip [AV.dat (.list (xs.map .int))] = vars
  have v1 : lk vars "script" = some (.dat (.list (xs.map .int))) := by rw [← hvars]; kernel_rfl
  clear hvars
  refine Exs_cons <| Ex_Assign (.inr ⟨rfl, _, rfl⟩) <| Ev_List <| Sp_cons <| Ev_Name v1 <| Sp_cons <| Ev_int <| Sp_cons <| Ev_int <| Sp_nil ⟨by simp, fun c hc0 => ?_⟩
  have hc : upd E0 c ⟨false, [.dat (.list (xs.map .int)), .int 0, .int 0]⟩ c = some (cObj xs ⟨0, 0⟩) := upd_self _ _ _
  generalize upd E0 c ⟨false, [.dat (.list (xs.map .int)), .int 0, .int 0]⟩ = σ1 at hc
  have g1 : lk (putv vars "c" (.obj c)) "c" = some (.obj c) := lk_self
  generalize hst0 : (⟨0, 0⟩ : CS) = st0 at hc
  have hst0p : st0.p = 0 := by rw [← hst0]
  dsimp only
  generalize putv vars "c" (.obj c) = vs1 at g1
  -- pairs
  refine Exs_mid (fun v' σ' => ∃ p l st, lk v' "c" = some (.obj c) ∧ lk v' "pairs" = some (.obj p) ∧ σ' c = some (cObj xs st) ∧ st.p ≤ 30 ∧ σ' p = some ⟨false, datsOf l⟩ ∧ l.length ≤ 9 ∧ Good l) ?_ ?_
  · have r1 := take_range (xs := xs) (st := st0) (many := 10) (by decide)
    have p1 := take_p (xs := xs) (st := st0) (many := 10)
    generalize hn : (take xs st0 10).1.toNat = n
    generalize ht : (take xs st0 10).2 = t at p1
    have hn' : (take xs st0 10).1 = (n : Int) := by omega
    have hnn : ((n : Int) - 0).toNat = n := by omega
    have hn3 : n ≤ 9 := by omega
    have src : ∀ σ, Src σ (.rng 0 n) ((List.range n).map fun k : Nat => AV.int (0 + k)) := fun σ => .rng rfl (by rw [hnn]) (by decide) (by omega) (by decide) (by omega)
    have dom : ∀ (Z : AObj) a, (upd σ1 c Z) a ≠ none → (upd σ1 c (cObj xs t)) a ≠ none := fun Z a h => by
      by_cases e : a = c
      · rw [e, upd_self]; nofun
      · rw [upd_ne e]; rw [upd_ne e] at h; exact h
    refine Ex_AssignComp x.ok x.kf.T hh (cl := [("c", L + 1)]) ⟨rfl, rfl, by decide, by simp; exact .inl rfl⟩ (y := "turn") rfl rfl rfl <| Ev_CallT x.ok x.kf.nrange rfl <| Sp_cons <| Ev_CallFn x.ok x.kf.vlaw_take x.kf.kvlaw_take (j := 13) room hh <| Sp_cons <| Ev_Name g1 <| Sp_cons <| Ev_int <| Sp_nil <| ⟨1, by omega, (fn_take P0 x.hK x.ok x.kf hc hx (by omega) (by decide) (by decide)).mono fun r σ' ⟨h1, h2⟩ => ?_⟩
    subst h1; subst h2
    rw [hn', ht]
    refine Sp_nil <| On_range1 ⟨_, fun i outs σ' => outs = datsOf (pairsGo xs i t).1 ∧ Agr (upd σ1 c (cObj xs (pairsGo xs i t).2)) σ', ⟨src _, LetOk_Name, by simp; omega, ⟨rfl, .refl _⟩, fun i outs σ' σ'' h hag => ⟨h.1, h.2.loc fun a ha => hag a (dom _ a ha)⟩, fun i outs σ' h => src _, ?_⟩, ?_⟩
    · rintro D i v hv outs σ' ⟨rfl, h2⟩ hdm
      have hi : i < n := by
        rcases Nat.lt_or_ge i n with h | h
        · exact h
        · rw [List.getElem?_eq_none (by simpa using h)] at hv; cases hv
      have hc' : σ' c = some (cObj xs (pairsGo xs i t).2) := h2.get (upd_self _ _ _)
      have pg := pairsGo_p (xs := xs) (st := t) i
      refine ⟨_, true, CAsg_Name rfl, Ti_nil ⟨rfl, rfl⟩, fun _ => ?_, nofun⟩
      refine Ev_CallFn x.ok x.kf.vlaw_pair x.kf.kvlaw_pair (j := 13) room hh <| Sp_cons <| Ev_Name (lk_ne (capVars_get rfl g1) (by decide)) <| Sp_nil ⟨2, by omega, (fn_pair x hc' hx (by omega)).mono fun r σ3 ⟨h3, h4⟩ => ?_⟩
      subst h3; subst h4
      refine ⟨fun b h1 h3 => ?_, fun b h1 => ?_, ?_, fun b hb => ?_⟩
      · have e1 : b ≠ c := fun e => by
          rw [e] at h1
          have h1' : upd σ1 c (cObj xs t) c = none := h1
          rw [upd_self] at h1'; cases h1'
        rw [upd_ne e1]
      · by_cases e1 : b = c
        · rw [e1, upd_self]; nofun
        · rw [upd_ne e1]; exact hdm b h1
      · show _ = datsOf ((pairsGo xs i t).1 ++ [(pairOf xs (pairsGo xs i t).2).1])
        simp [datsOf]
      · by_cases e1 : b = c
        · rw [e1, upd_self, upd_self]; rfl
        · rw [upd_ne e1, upd_ne e1]
          rw [upd_ne e1] at hb
          have := h2 b (by rw [upd_ne e1]; exact hb)
          rw [upd_ne e1] at this
          exact this
    · rintro D outs σ' hD ⟨rfl, h2⟩ hD'
      have hlen : ((List.range n).map fun k : Nat => AV.int (0 + k)).length = n := by simp
      rw [hlen] at h2 hD'
      have pg := pairsGo_p (xs := xs) (st := t) n
      exact ⟨D, (pairsGo xs n t).1, (pairsGo xs n t).2, lk_ne g1 (by decide), lk_self, h2.get (upd_self _ _ _), by omega, hD', by rw [pairsGo_len]; exact hn3, pairsGo_good n⟩
  rintro vs2 σ2 ⟨p, l, st, g1, g2, hc2, hst, hp2, hl, hgood⟩
  have hdl : (datsOf l).length = l.length := by simp [datsOf]
  -- rows
  refine Exs_cons <| Ex_Assign (.inl rfl) <| Ev_ClsMeth x.ok (j := 13) room hh (cm_from x) (Ev_Global x.ok rfl (x.ok.val x.kf.vTags) (fun h => .val _) ⟨rfl, rfl⟩) <| Sp_cons <| Ev_Name g2 <| Sp_nil ⟨7, by omega, (fn_from_tuples x (.obj hp2) (by omega)).mono fun r θ ⟨a, ha0, h1, h2⟩ => ?_⟩
  subst h1; subst h2
  have g3 : lk (putv vs2 "rows" (.obj a)) "rows" = some (.obj a) := lk_self
  replace g1 : lk (putv vs2 "rows" (.obj a)) "c" = some (.obj c) := lk_ne g1 (by decide)
  replace g2 : lk (putv vs2 "rows" (.obj a)) "pairs" = some (.obj p) := lk_ne g2 (by decide)
  have ha3 : upd σ2 a ⟨true, tagsOf l⟩ a = some ⟨true, tagsOf l⟩ := upd_self _ _ _
  replace hc2 := (Agr.upd (o := ⟨true, tagsOf l⟩) ha0).get hc2
  replace hp2 := (Agr.upd (o := ⟨true, tagsOf l⟩) ha0).get hp2
  dsimp only
  generalize putv vs2 "rows" (.obj a) = vs3 at g1 g2 g3
  generalize upd σ2 a ⟨true, tagsOf l⟩ = σ3 at ha3 hc2 hp2
  -- turns
  have r12 := take_range (xs := xs) (st := st) (many := 12) (by decide)
  have p12 := take_p (xs := xs) (st := st) (many := 12)
  refine Exs_mid (fun v' σ' => ∃ k, k ≤ 12 ∧ LI xs a c k v' σ') ?_ ?_
  · generalize hn : 1 + (take xs st 12).1.toNat = n
    have hn' : (1 + (take xs st 12).1 : Int) = n := by omega
    have hnn : ((n : Int) - 0).toNat = n := by omega
    have src : ∀ σ, Src σ (.rng 0 n) ((List.range n).map fun k : Nat => AV.int (0 + k)) := fun σ => .rng rfl (by rw [hnn]) (by decide) (by omega) (by decide) (by omega)
    refine Ex_For x.ok x.kf.T hh <| Ev_CallT x.ok x.kf.nrange rfl <| Sp_cons <| Ev_Bin <| Ev_int <| Ev_CallFn x.ok x.kf.vlaw_take x.kf.kvlaw_take (j := 13) room hh <| Sp_cons <| Ev_Name g1 <| Sp_cons <| Ev_int <| Sp_nil <| ⟨1, by omega, (fn_take P0 x.hK x.ok x.kf hc2 hx (by omega) (by decide) (by decide)).mono fun r θ ⟨h1, h2⟩ => ?_⟩
    subst h1; subst h2
    refine O2_add ?_
    rw [hn']
    refine Sp_nil <| On_range1 ⟨_, src _, LetOk_Name, LI xs a c, ?_, ?_, ?_⟩
    · exact ⟨p, l, _, g1, g3, g2, upd_self _ _ _, by omega, (upd_ne (Ne.symm (c_ne_a hc2 ha3))).trans ha3, (upd_ne (Ne.symm (c_ne_p hc2 hp2))).trans hp2, by omega, hgood⟩
    · rintro k v vars σ' hv hI
      have hk : k < n := by
        rcases Nat.lt_or_ge k n with h | h
        · exact h
        · rw [List.getElem?_eq_none (by simpa using h)] at hv; cases hv
      refine ⟨src _, Asg_Name (.inl rfl) ⟨src _, ?_⟩⟩
      obtain ⟨p, l, st, w1, w2, w3, hc3, hst3, ha, hp, hl3, hg⟩ := hI
      have u1 : lk (putv vars "turn" v) "c" = some (.obj c) := lk_ne w1 (by decide)
      have u2 : lk (putv vars "turn" v) "rows" = some (.obj a) := lk_ne w2 (by decide)
      have u3 : lk (putv vars "turn" v) "pairs" = some (.obj p) := lk_ne w3 (by decide)
      clear w1 w2 w3
      generalize putv vars "turn" v = vs0 at u1 u2 u3
      have hdl0 : (datsOf l).length = l.length := by simp [datsOf]
      have hca := c_ne_a hc3 ha
      have hcp := c_ne_p hc3 hp
      -- kind, pair, codes
      have r7 := take_range (xs := xs) (st := st) (many := 7) (by decide)
      have p7 := take_p (xs := xs) (st := st) (many := 7)
      refine Exs_cons <| Ex_AssignTupleOf hh <| Sp_cons <| Ev_CallFn x.ok x.kf.vlaw_take x.kf.kvlaw_take (j := 13) room hh <| Sp_cons <| Ev_Name u1 <| Sp_cons <| Ev_int <| Sp_nil <| ⟨1, by omega, (fn_take P0 x.hK x.ok x.kf hc3 hx (by omega) (by decide) (by decide)).mono fun r θ ⟨h1, h2⟩ => ?_⟩
      subst h1; subst h2
      generalize (take xs st 7).1 = kind
      generalize (take xs st 7).2 = st7 at p7
      have p2 := pairOf_p (xs := xs) (st := st7)
      have gp := good_pairOf (xs := xs) (st := st7)
      refine Sp_cons <| Ev_CallFn x.ok x.kf.vlaw_pair x.kf.kvlaw_pair (j := 13) room hh <| Sp_cons <| Ev_Name u1 <| Sp_nil ⟨2, by omega, (fn_pair x (upd_self _ _ _) hx (by omega)).mono fun r θ ⟨h1, h2⟩ => ?_⟩
      subst h1; subst h2
      generalize (pairOf xs st7).1 = q at gp
      generalize (pairOf xs st7).2 = st8 at p2
      have p3 := codesOf_p (xs := xs) (st := st8)
      have hcl := codesOf_len (xs := xs) (st := st8)
      refine Sp_cons <| Ev_CallFn x.ok x.kf.vlaw_codes x.kf.kvlaw_codes (j := 13) room hh <| Sp_cons <| Ev_Name u1 <| Sp_nil ⟨2, by omega, (fn_codes x (upd_self _ _ _) hx (by omega)).mono fun r θ ⟨h1, h2⟩ => ?_⟩
      subst h1; subst h2
      generalize (codesOf xs st8).1 = ns at hcl
      generalize (codesOf xs st8).2 = st9 at p3
      refine Sp_nil ⟨_, _, _, rfl, Asg_Name (.inl rfl) <| Asg_Name (.inl rfl) <| Asg_Name (.inr ⟨rfl, _, rfl⟩) ?_⟩
      rw [upd_upd, upd_upd]
      have hc : upd σ' c (cObj xs st9) c = some (cObj xs st9) := upd_self _ _ _
      replace ha : upd σ' c (cObj xs st9) a = some ⟨true, tagsOf l⟩ := (upd_ne (Ne.symm hca)).trans ha
      replace hp : upd σ' c (cObj xs st9) p = some ⟨false, datsOf l⟩ := (upd_ne (Ne.symm hcp)).trans hp
      generalize upd σ' c (cObj xs st9) = τ at hc ha hp
      have u4 : lk (putv (putv (putv vs0 "kind" (.int kind)) "pair" (.dat (prD q))) "codes" (.dat (.list (ns.map .int)))) "kind" = some (.int kind) := lk_ne (lk_ne lk_self (by decide)) (by decide)
      have u5 : lk (putv (putv (putv vs0 "kind" (.int kind)) "pair" (.dat (prD q))) "codes" (.dat (.list (ns.map .int)))) "pair" = some (.dat (prD q)) := lk_ne lk_self (by decide)
      have u6 : lk (putv (putv (putv vs0 "kind" (.int kind)) "pair" (.dat (prD q))) "codes" (.dat (.list (ns.map .int)))) "codes" = some (.dat (.list (ns.map .int))) := lk_self
      replace u1 : lk (putv (putv (putv vs0 "kind" (.int kind)) "pair" (.dat (prD q))) "codes" (.dat (.list (ns.map .int)))) "c" = some (.obj c) := lk_ne (lk_ne (lk_ne u1 (by decide)) (by decide)) (by decide)
      replace u2 : lk (putv (putv (putv vs0 "kind" (.int kind)) "pair" (.dat (prD q))) "codes" (.dat (.list (ns.map .int)))) "rows" = some (.obj a) := lk_ne (lk_ne (lk_ne u2 (by decide)) (by decide)) (by decide)
      replace u3 : lk (putv (putv (putv vs0 "kind" (.int kind)) "pair" (.dat (prD q))) "codes" (.dat (.list (ns.map .int)))) "pairs" = some (.obj p) := lk_ne (lk_ne (lk_ne u3 (by decide)) (by decide)) (by decide)
      dsimp only
      show Exs C A (Fm.with _ (putv (putv (putv vs0 "kind" (.int kind)) "pair" (.dat (prD q))) "codes" (.dat (.list (ns.map .int))))) _ _ _
      generalize putv (putv (putv vs0 "kind" (.int kind)) "pair" (.dat (prD q))) "codes" (.dat (.list (ns.map .int))) = vs1 at u1 u2 u3 u4 u5 u6
      have K1 : KL c a p q ns vs1 := ⟨u1, u2, u3, u5, u6⟩
      clear u1 u2 u3 u5 u6
      -- twin, before
      refine Exs_cons <| Ex_AssignSwap hh (names := ["twin", "before"]) rfl (by intro n hn; simp at hn; rcases hn with rfl | rfl <;> rfl) (by decide) <| Sp_cons <| Ev_Meth x.ok <| Ev_Name K1.rows ⟨_, _, MethTo_obj x.ok x.kf.pT ha x.kf.mclone x.kf.tmclone, KeepOk.ref x.kf.kmclone, Sp_nil <| ((fn_clone x ha (by omega)).mono fun r θ ⟨tw, htw, h1, h2⟩ => ?_).on (j := 13) room (by omega) hh⟩
      subst h1; subst h2
      have hta : tw ≠ a := fun e => by rw [e, ha] at htw; cases htw
      have htp : tw ≠ p := fun e => by rw [e, hp] at htw; cases htw
      have htc : tw ≠ c := fun e => by rw [e, hc] at htw; cases htw
      have ag1 := Agr.upd (o := ⟨true, tagsOf l⟩) htw
      replace hc := ag1.get hc
      replace ha := ag1.get ha
      replace hp := ag1.get hp
      have ht : upd τ tw ⟨true, tagsOf l⟩ tw = some ⟨true, tagsOf l⟩ := upd_self _ _ _
      generalize upd τ tw ⟨true, tagsOf l⟩ = τ1 at hc ha hp ht
      refine Sp_cons <| Ev_CallT x.ok x.kf.nlist rfl <| Sp_cons <| Ev_Name K1.pairs <| Sp_nil <| On_list (.obj hp) (by omega) fun b hb => Sp_nil ⟨rfl, ?_⟩
      have hba : b ≠ a := fun e => by rw [e, ha] at hb; cases hb
      have hbp : b ≠ p := fun e => by rw [e, hp] at hb; cases hb
      have hbc : b ≠ c := fun e => by rw [e, hc] at hb; cases hb
      have ag2 := Agr.upd (o := ⟨false, datsOf l⟩) hb
      replace hc := ag2.get hc
      replace ha := ag2.get ha
      replace hp := ag2.get hp
      replace ht := ag2.get ht
      have hbf : upd τ1 b ⟨false, datsOf l⟩ b = some ⟨false, datsOf l⟩ := upd_self _ _ _
      generalize upd τ1 b ⟨false, datsOf l⟩ = τ2 at hc ha hp ht hbf
      show Exs C A (Fm.with _ (putv (putv vs1 "before" (.obj b)) "twin" (.obj tw))) _ _ _
      have K2 : KL c a p q ns (putv (putv vs1 "before" (.obj b)) "twin" (.obj tw)) := (K1.put (by decide)).put (by decide)
      have u1 : lk (putv (putv vs1 "before" (.obj b)) "twin" (.obj tw)) "twin" = some (.obj tw) := lk_self
      have u2 : lk (putv (putv vs1 "before" (.obj b)) "twin" (.obj tw)) "before" = some (.obj b) := lk_ne lk_self (by decide)
      replace u4 : lk (putv (putv vs1 "before" (.obj b)) "twin" (.obj tw)) "kind" = some (.int kind) := lk_ne (lk_ne u4 (by decide)) (by decide)
      generalize putv (putv vs1 "before" (.obj b)) "twin" (.obj tw) = vs2 at K2 u1 u2 u4
      -- right, pairs
      have hgd := hg.done gp kind ns
      have hld := done_length (l := l) (q := q) (kind := kind) (ns := ns)
      refine Exs_cons <| Ex_AssignTuple2 <| Ev_CallFn x.ok x.kf.vlaw_done x.kf.kvlaw_done (j := 13) room hh <| Sp_cons <| Ev_Name K2.rows <| Sp_cons <| Ev_Name K2.pairs <| Sp_cons <| Ev_Name u4 <| Sp_cons <| Ev_Name K2.pair <| Sp_cons <| Ev_Name K2.codes <| Sp_nil ⟨10, by omega, (fn_done x ha hp (by omega) (by omega) hg.ok gp.ok).mono fun r τ3 ⟨R, p', h1, hR, ha3, hp3, hkeep⟩ => ?_⟩
      subst h1
      have hc3 := (hkeep c (by rw [hc]; nofun) hca hcp).trans hc
      have ht3 := (hkeep tw (by rw [ht]; nofun) hta htp).trans ht
      have hb3 := (hkeep b (by rw [hbf]; nofun) hba hbp).trans hbf
      generalize doneL kind q ns l = l' at hgd hld ha3 hp3
      refine Asg_Tuple2A (UnpA_list2 hh hR) <| Asg_Name (.inl rfl) <| Asg_Name (.inl rfl) ?_
      have hdl' : (datsOf l').length = l'.length := by simp [datsOf]
      have htl' : (tagsOf l').length = l'.length := by simp [tagsOf]
      show Exs C A (Fm.with _ (putv (putv vs2 "right" (.bool true)) "pairs" (.obj p'))) _ _ _
      have K3 : KL c a p' q ns (putv (putv vs2 "right" (.bool true)) "pairs" (.obj p')) := ⟨lk_ne (lk_ne K2.c (by decide)) (by decide), lk_ne (lk_ne K2.rows (by decide)) (by decide), lk_self, lk_ne (lk_ne K2.pair (by decide)) (by decide), lk_ne (lk_ne K2.codes (by decide)) (by decide)⟩
      replace u1 : lk (putv (putv vs2 "right" (.bool true)) "pairs" (.obj p')) "twin" = some (.obj tw) := lk_ne (lk_ne u1 (by decide)) (by decide)
      replace u2 : lk (putv (putv vs2 "right" (.bool true)) "pairs" (.obj p')) "before" = some (.obj b) := lk_ne (lk_ne u2 (by decide)) (by decide)
      have u3 : lk (putv (putv vs2 "right" (.bool true)) "pairs" (.obj p')) "right" = some (.bool true) := lk_ne lk_self (by decide)
      generalize putv (putv vs2 "right" (.bool true)) "pairs" (.obj p') = vs3 at K3 u1 u2 u3
      have hokl := hg.ok
      have hokd := hgd.ok
      -- right, rows, twin
      refine Exs_mid (fun v' σ'' => v' = vs3 ∧ σ'' = τ3) ?_ ?_
      · refine Ex_If <| Te_BoolOp <| Ta_or <| Te_Not <| Te_val <| Ev_Name u3 <| B1_bool ?_
        rw [if_neg (show ¬ ((!true) = true) from by decide)]
        refine Ta_or <| Te_neL room0 <| Ev_CallFn x.ok x.kf.vlaw_pairs x.kf.kvlaw_pairs (j := 13) room hh <| Sp_cons <| Ev_Name K3.rows <| Sp_nil ⟨4, by omega, (fn_pairsI x (k := .tags) (by nofun) (.tags ha3) (by omega)).mono fun r θ ⟨h1, h2⟩ => ?_⟩
        subst h1; subst h2
        refine Ev_Name K3.pairs ⟨.list (l'.map prD), .dat _, IsDs_prs hp3, shaped_prs hokd, _, .refl _, ?_⟩
        rw [if_neg Bool.false_ne_true]
        refine Ta_or <| Te_neL room0 <| Ev_CallFn x.ok x.kf.vlaw_pairs x.kf.kvlaw_pairs (j := 13) room hh <| Sp_cons <| Ev_Name u1 <| Sp_nil ⟨4, by omega, (fn_pairsI x (k := .tags) (by nofun) (.tags ht3) (by omega)).mono fun r θ ⟨h1, h2⟩ => ?_⟩
        subst h1; subst h2
        refine Ev_Name u2 ⟨.list (l.map prD), .dat _, IsDs_prs hb3, shaped_prs hokl, _, .refl _, ?_⟩
        rw [if_neg Bool.false_ne_true]
        exact Ta_orNil (by rw [if_neg Bool.false_ne_true]; exact Exs_nil ⟨rfl, rfl⟩)
      rintro v' σ'' ⟨hv, hs⟩; rw [hv, hs]; clear hv hs v' σ''
      -- strip
      refine Exs_mid (fun v' σ'' => v' = vs3 ∧ σ'' = τ3) ?_ ?_
      · refine Ex_If <| Te_BoolOp <| Ta_or <| Te_neL room0 <| Ev_CallFn x.ok x.kf.vlaw_pairs x.kf.kvlaw_pairs (j := 13) room hh <| Sp_cons <| Ev_ClsMeth x.ok (j := 13) room hh (cm_strip x) (Ev_Global x.ok rfl (x.ok.val x.kf.vTags) (fun h => .val _) ⟨rfl, rfl⟩) <| Sp_cons <| Ev_Name u1 <| Sp_cons <| Ev_Name K3.codes <| Sp_nil ⟨7, by omega, (fn_strip x ht3 (by omega) (by omega)).mono fun r θ ⟨S, hS, h1, h2⟩ => ?_⟩
        subst h1; subst h2
        have hlf := List.length_filter_le (fun q : Pr => !ns.contains q.1) l
        refine Sp_nil ⟨4, by omega, (fn_pairsI x (k := .tags) (by nofun) (.tags (upd_self _ _ _)) (by omega)).mono fun r θ ⟨h1, h2⟩ => ?_⟩
        subst h1; subst h2
        refine Ev_Filt x.ok x.kf.T hh (cl := [("codes", L + 2)]) ⟨rfl, rfl, by decide, by simp; exact .inl rfl⟩ (y := "one") rfl (pr := fun q => !ns.contains q.1) (.obj ((Agr.upd hS).get hb3)) (by omega) (Ev_Name u2 ⟨rfl, rfl⟩) (fun D q σ5 _ _ => Te_notIn0 x room0 lk_self (lk_ne (capVars_get rfl K3.codes) (by decide)) ⟨rfl, rfl⟩) fun D σ5 hD hag hD' => ?_
        refine ⟨.list ((l.filter fun q => !ns.contains q.1).map prD), .dat _, IsDs_prs hD', shaped_prs (hokl.filter _), τ3, ((Agr.upd hS).trans hag).sub, ?_⟩
        rw [if_neg Bool.false_ne_true]
        refine Ta_or <| Te_neL room0 <| Ev_CallFn x.ok x.kf.vlaw_pairs x.kf.kvlaw_pairs (j := 13) room hh <| Sp_cons <| Ev_Name u1 <| Sp_nil ⟨4, by omega, (fn_pairsI x (k := .tags) (by nofun) (.tags ht3) (by omega)).mono fun r θ ⟨h1, h2⟩ => ?_⟩
        subst h1; subst h2
        refine Ev_Name u2 ⟨.list (l.map prD), .dat _, IsDs_prs hb3, shaped_prs hokl, _, .refl _, ?_⟩
        rw [if_neg Bool.false_ne_true]
        exact Ta_orNil (by rw [if_neg Bool.false_ne_true]; exact Exs_nil ⟨rfl, rfl⟩)
      rintro v' σ'' ⟨hv, hs⟩; rw [hv, hs]; clear hv hs v' σ''
      -- start
      have hca3 := c_ne_a hc3 ha3
      have hcp3 := c_ne_p hc3 hp3
      have rs := take_range (xs := xs) (st := st9) (many := (l'.length : Int) + 1) (by omega)
      have ps := take_p (xs := xs) (st := st9) (many := (l'.length : Int) + 1)
      refine Exs_cons <| Ex_Assign (.inl rfl) <| Ev_CallFn x.ok x.kf.vlaw_take x.kf.kvlaw_take (j := 13) room hh <| Sp_cons <| Ev_Name K3.c <| Sp_cons <| Ev_Bin <| Ev_CallB x.ok x.kf.nlen rfl <| Sp_cons <| Ev_Name K3.pairs <| Sp_nil <| On_len x.ok x.kf.T (k := .list) (by nofun) (.obj hp3) (by omega) <| Ev_int <| O2_add <| ?_
      rw [hdl']
      refine Sp_nil ⟨1, by omega, (fn_take P0 x.hK x.ok x.kf hc3 hx (by omega) (by omega) (by omega)).mono fun r θ ⟨h1, h2⟩ => ?_⟩
      subst h1; subst h2
      obtain ⟨i, hi⟩ : ∃ i : Nat, (take xs st9 ((l'.length : Int) + 1)).1 = i := ⟨_, (Int.toNat_of_nonneg rs.1).symm⟩
      rw [hi] at rs ⊢
      generalize (take xs st9 ((l'.length : Int) + 1)).2 = st10 at ps
      have K4 : KL c a p' q ns (putv vs3 "start" (.int i)) := K3.put (by decide)
      have u4 : lk (putv vs3 "start" (.int i)) "start" = some (.int i) := lk_self
      dsimp only
      generalize putv vs3 "start" (.int i) = vs4 at K4 u4
      have hc4 : upd τ3 c (cObj xs st10) c = some (cObj xs st10) := upd_self _ _ _
      have ha4 : upd τ3 c (cObj xs st10) a = some ⟨true, tagsOf l'⟩ := (upd_ne (Ne.symm hca3)).trans ha3
      have hp4 : upd τ3 c (cObj xs st10) p' = some ⟨false, datsOf l'⟩ := (upd_ne (Ne.symm hcp3)).trans hp3
      generalize upd τ3 c (cObj xs st10) = τ4 at hc4 ha4 hp4
      -- stop
      have rt := take_range (xs := xs) (st := st10) (many := (l'.length : Int) - i + 1) (by omega)
      have pt := take_p (xs := xs) (st := st10) (many := (l'.length : Int) - i + 1)
      refine Exs_cons <| Ex_Assign (.inl rfl) <| Ev_Bin <| Ev_Name u4 <| Ev_CallFn x.ok x.kf.vlaw_take x.kf.kvlaw_take (j := 13) room hh <| Sp_cons <| Ev_Name K4.c <| Sp_cons <| Ev_Bin <| Ev_Bin <| Ev_CallB x.ok x.kf.nlen rfl <| Sp_cons <| Ev_Name K4.pairs <| Sp_nil <| On_len x.ok x.kf.T (k := .list) (by nofun) (.obj hp4) (by omega) <| Ev_Name u4 <| O2_sub <| Ev_int <| O2_add <| ?_
      rw [hdl']
      refine Sp_nil ⟨1, by omega, (fn_take P0 x.hK x.ok x.kf hc4 hx (by omega) (by omega) (by omega)).mono fun r θ ⟨h1, h2⟩ => ?_⟩
      subst h1; subst h2
      obtain ⟨t, ht⟩ : ∃ t : Nat, (take xs st10 ((l'.length : Int) - i + 1)).1 = t := ⟨_, (Int.toNat_of_nonneg rt.1).symm⟩
      rw [ht] at rt ⊢
      refine O2_add ?_
      rw [show ((i : Int) + (t : Int)) = ((i + t : Nat) : Int) from (Int.natCast_add i t).symm]
      generalize (take xs st10 ((l'.length : Int) - i + 1)).2 = st11 at pt
      have hjl : i + t ≤ l'.length := by omega
      have hij : i ≤ i + t := Nat.le_add_right _ _
      generalize i + t = j at hjl hij
      have K5 : KL c a p' q ns (putv vs4 "stop" (.int j)) := K4.put (by decide)
      replace u4 : lk (putv vs4 "stop" (.int j)) "start" = some (.int i) := lk_ne u4 (by decide)
      have u5 : lk (putv vs4 "stop" (.int j)) "stop" = some (.int j) := lk_self
      dsimp only
      generalize putv vs4 "stop" (.int j) = vs5 at K5 u4 u5
      have hc5 : upd τ4 c (cObj xs st11) c = some (cObj xs st11) := upd_self _ _ _
      have ha5 : upd τ4 c (cObj xs st11) a = some ⟨true, tagsOf l'⟩ := (upd_ne (Ne.symm hca3)).trans ha4
      have hp5 : upd τ4 c (cObj xs st11) p' = some ⟨false, datsOf l'⟩ := (upd_ne (Ne.symm hcp3)).trans hp4
      generalize upd τ4 c (cObj xs st11) = τ5 at hc5 ha5 hp5
      -- asked
      refine Exs_mid (fun v' σ'' => v' = vs5 ∧ σ'' = τ5) ?_ ?_
      · refine Ex_If <| Te_Not <| Te_val <| Ev_CallFn x.ok x.kf.vlaw_asked x.kf.kvlaw_asked (j := 13) room hh <| Sp_cons <| Ev_Name K5.rows <| Sp_cons <| Ev_Name K5.pairs <| Sp_cons <| Ev_Sub <| Ev_Name K5.pair <| Ev_int <| O2_item (x := .int q.1) x.ok x.kf.T (.datT _) (by decide) rfl (by decide) <| Sp_cons <| Ev_Name K5.codes <| Sp_cons <| Ev_Name u4 <| Sp_cons <| Ev_Name u5 <| Sp_nil ⟨12, by omega, (fn_asked x ha5 hp5 (by omega) (by omega) hokd hgd.code hij hjl).mono fun r θ ⟨h1, h2⟩ => ?_⟩
        subst h1; subst h2
        refine B1_bool ?_
        rw [if_neg (show ¬ ((!true) = true) from by decide)]
        exact Exs_nil ⟨rfl, rfl⟩
      rintro v' σ'' ⟨hv, hs⟩; rw [hv, hs]; clear hv hs v' σ''
      -- dxftype
      refine Exs_mid (fun v' σ'' => v' = vs5 ∧ σ'' = τ5) ?_ ?_
      · refine Ex_If <| Te_BoolOp <| Ta_and <| Te_val <| Ev_Name K5.pairs <| B1_list hp5 (by omega) ?_
        cases hq0 : l' with
        | nil =>
          rw [if_neg (show ¬ ((!(datsOf []).isEmpty) = true) from by decide), if_neg Bool.false_ne_true]
          exact Exs_nil ⟨rfl, rfl⟩
        | cons q0 rest =>
          rw [if_pos (show (!(datsOf (q0 :: rest)).isEmpty) = true from rfl)]
          have h0 : l'[0]? = some q0 := by rw [hq0]; rfl
          have h0d : (datsOf l')[(0 : Int).toNat]? = some (.dat (prD q0)) := by rw [hq0]; rfl
          refine Ta_and <| Te_neL room0 <| Ev_Meth x.ok <| Ev_Name K5.rows ⟨_, _, MethTo_obj x.ok x.kf.pT ha5 x.kf.mdxftype x.kf.tmdxftype, KeepOk.ref x.kf.kmdxftype, Sp_nil <| ((fn_dxftype x ha5 h0).mono fun r θ ⟨h1, h2⟩ => ?_).on (j := 13) room (by omega) hh⟩
          subst h1; subst h2
          refine Ev_Sub <| Ev_Sub <| Ev_Name K5.pairs <| Ev_int <| O2_item x.ok x.kf.T (.obj hp5) (by decide) h0d (by omega) <| Ev_int <| O2_item (x := .str q0.2) x.ok x.kf.T (.datT _) (by decide) rfl (by decide) ⟨.str q0.2, .dat _, .dat _, hokd _ (by rw [hq0]; exact List.mem_cons_self), _, .refl _, ?_⟩
          rw [if_neg Bool.false_ne_true, if_neg Bool.false_ne_true]
          exact Exs_nil ⟨rfl, rfl⟩
      rintro v' σ'' ⟨hv, hs⟩; rw [hv, hs]; clear hv hs v' σ''
      exact Exs_nil <| UpV.now ⟨src _, ⟨p', l', st11, K5.c, K5.rows, K5.pairs, hc5, by omega, ha5, hp5, by omega, hgd⟩⟩
    · rintro vars σ' hI
      have hlen : ((List.range n).map fun k : Nat => AV.int (0 + k)).length = n := by simp
      rw [hlen] at hI
      exact ⟨n, by omega, hI⟩
  rintro vs4 σ4 ⟨k, hk, p4, l4, st4, w1, w2, w3, hc4, hst4, ha4, hp4, hl4, hg4⟩
  have hdl4 : (datsOf l4).length = l4.length := by simp [datsOf]
  have htl4 : (tagsOf l4).length = l4.length := by simp [tagsOf]
  refine Exs_cons <| Ex_Return <| Ev_Cmp <| Ev_CallB x.ok x.kf.nlen rfl <| Sp_cons <| Ev_Name w2 <| Sp_nil <| On_len x.ok x.kf.T (k := .tags) (by nofun) (.tags ha4) (by omega) <| Ev_CallB x.ok x.kf.nlen rfl <| Sp_cons <| Ev_Name w3 <| Sp_nil <| On_len x.ok x.kf.T (k := .list) (by nofun) (.obj hp4) (by omega) <| O2_eqI <| Up.now ?_
  rw [hdl4, htl4, beq_self_eq_true]
end
end Mine
end

section
open PySem PySem.W PyProof.Rows PySem.Calls PySem.SeqAt
set_option Elab.async false
set_option maxRecDepth 100000
set_option linter.unusedVariables false
namespace Mine
/-- the tables of code that may grow -/
def myTabs : Frag := [(178, Mine.tObj #[]), (188, Mine.tObj #[]), (216, Mine.tObj #[]), (239, Mine.tObj #[]), (300, Mine.tObj #[]), (310, Mine.tObj #[]), (317, Mine.tObj #[]), (324, Mine.tObj #[]), (331, Mine.tObj #[])]
noncomputable def myK (P : Params) : Frag := myTabs ++ hd.heap_39 P
def myAs : List Addr := [178, 188, 216, 239, 300, 310, 317, 324, 331, 2, 3, 15, 17, 18, 20, 21, 22, 29, 30, 31, 32, 35, 42, 43, 44, 54, 55, 57, 58, 60, 61, 62, 64, 65, 67, 68, 69, 71, 72, 74, 75, 76, 78, 79, 81, 82, 83, 84, 86, 87, 89, 90, 91, 92, 94, 95, 97, 98, 99, 101, 102, 104, 105, 106, 108, 109, 111, 112, 113, 115, 116, 118, 119, 120, 122, 123, 125, 126, 127, 129, 130, 132, 133, 134, 136, 137, 138, 139, 142, 144, 145, 147, 148, 149, 151, 152, 154, 155, 156, 158, 159, 161, 162, 163, 165, 166, 168, 169, 170, 177, 179, 180, 182, 183, 184, 185, 186, 187, 189, 190, 192, 193, 194, 196, 197, 199, 200, 201, 203, 204, 206, 207, 208, 210, 211, 213, 214, 215, 217, 218, 220, 221, 222, 223, 225, 226, 228, 229, 230, 231, 233, 234, 236, 237, 238, 240, 241, 243, 244, 245, 246, 248, 249, 251, 252, 253, 255, 256, 258, 259, 260, 262, 263, 265, 266, 267, 270, 271, 272, 274, 275, 277, 278, 279, 282, 283, 284, 285, 287, 288, 290, 291, 292, 294, 295, 297, 298, 299, 301, 302, 304, 305, 306, 307, 308, 309, 311, 312, 314, 315, 316, 318, 319, 321, 322, 323, 325, 326, 328, 329, 330, 332, 333, 335, 336, 337, 338, 339, 340, 341, 344, 346, 347, 349, 350, 351, 354, 355, 356, 358, 359, 361, 362, 363, 366, 367, 368, 370, 371, 373, 374, 375, 378, 379, 380, 383, 384, 385, 388, 389, 390, 393, 394]
theorem mem_of_lkF : ∀ {K : Frag} {a : Addr} {o : Obj}, K.lookup a = some o → (a, o) ∈ K
  | [], _, _, e => by cases e
  | (b, x) :: r, a, o, e => by
    rw [List.lookup_cons] at e
    cases hb : a == b with
    | true => rw [hb] at e; cases e; rw [beq_iff_eq.mp hb]; exact List.mem_cons_self
    | false => rw [hb] at e; exact List.mem_cons_of_mem _ (mem_of_lkF e)
def notTblB (o : Obj) : Bool := match o.cls, o.data with
  | .none, .fields _ => false
  | _, _ => true
theorem all_of_lookup {K : Frag} {f : Obj → Bool} (h : K.all (fun p => f p.2) = true) {a : Addr} {o : Obj} (e : K.lookup a = some o) : f o = true :=
  List.all_eq_true.mp h (a, o) (mem_of_lkF e)
theorem in_tabs {P : Params} {h : Heap} (x : (myK P).In h) : ∀ a ∈ [178, 188, 216, 239, 300, 310, 317, 324, 331], h.get? a = some (tObj #[]) := by
  intro a ha
  refine x a _ ?_
  have : myTabs.lookup a = some (tObj #[]) := by
    simp only [List.mem_cons, List.not_mem_nil, or_false] at ha
    rcases ha with rfl | rfl | rfl | rfl | rfl | rfl | rfl | rfl | rfl <;> rfl
  unfold myK
  rw [List.lookup_append, this]; rfl
theorem in_heap {P : Params} {h : Heap} (x : (myK P).In h) : (hd.heap_39 P).In h := fun a o e => by
  refine x a o ?_
  unfold myK
  rw [List.lookup_append]
  cases ht : myTabs.lookup a with
  | none => rw [e]; rfl
  | some z =>
    have hm := mem_of_lkF ht
    have hall : myTabs.all (fun p => ((hd.heap_39 P).lookup p.1).isNone) = true := by kernel_rfl
    have := List.all_eq_true.mp hall _ hm
    rw [e] at this; cases this
theorem dt_ints {h : Heap} {ws : List Value} {xs : List Int} (i : IntsAre ws xs) : DtAll E0 h ws (xs.map .int) := by
  induction i with
  | nil => exact .nil
  | cons n t _ ih => exact .cons (.int n t) ih

theorem law_top {prog : Program} {w : World} {s₁ : Shared} {mg mb : Str → Option Value} {fa : Addr} {p : Program} {loose : List Str} {mean : ExcName → Option Value} (T : Top p loose mean mg mb s₁.heap) (KX : (myK w.params).In s₁.heap) (hmg : mg "law" = some (.ref fa)) (hg : s₁.gens = #[])
    {xs : List Int} (hx : xs.length ≤ 100000) {a : Addr} {ws : List Value} (hL : s₁.heap.IsList a ws.toArray) (hI : IntsAre ws xs) {R : Result → Shared → Prop}
    (hR : ∀ s', OldK s₁.heap s'.heap → AllBare s'.gens → s'.os = s₁.os → R (.ok (.ret (.bool true))) s') : codeAny (model prog w) callerA (.call (.ref fa) ⟨[.ref a], []⟩) R s₁ := by
  let C : Cx := ⟨prog, w, hd.heap_39 w.params, mg, mb, s₁.heap, s₁.os⟩
  have hn : (hd.heap_39 w.params).all (fun p => notTblB p.2) = true := by kernel_rfl
  have ok : C.Ok := ⟨in_heap KX, T.g, T.b, T.nolimit, T.builtins, T.bmain, fun a o e ps h => by
    have := all_of_lookup hn e
    rw [h] at this; cases this⟩
  have x : Bx C w.params := ⟨rfl, ok, KF.of _, in_tabs KX⟩
  have h394 : mg "law" = some (.ref 394) := ok.val (show nsIn (hd.heap_39 w.params) mainGlobals "law" = some (some (.ref 394)) by kernel_rfl)
  rw [hmg] at h394
  cases h394
  obtain ⟨o, ho, hc, n, hd⟩ := hL
  have hr : Rel E0 s₁.heap (.dat (.list (xs.map .int))) (.ref a) := .dat (.list rfl ho hc hd (by rw [List.toList_toArray]; exact dt_ints hI))
  refine fn_law x hx callerA s₁ [.ref a] R ⟨by decide, by decide⟩ rfl rfl rfl (by rw [hg]; exact AllBare.empty) rfl (.cons hr .nil) fun b v σ' s' hb h1 h2 h3 h4 => ?_
  subst hb
  rw [h2.bool_inv]
  exact hR s' h1.oldK h3 h4
end Mine
end

open PySem PySem.W PyProof.Rows
set_option Elab.async false
set_option maxRecDepth 100000
set_option maxHeartbeats 8000000
theorem PySem.Challenge.cw_fy0010_01_holds : PySem.Challenge.rw_fy0010_01.Holds := by
  w_on
  o_law
  o_head (kHook Mine.myK Mine.myAs (fun _ => by kernel_rfl))
  case hw => w_witness2
  intro w s₀ s₁ mg mb G Y fa o pm cd doc dV kV ho hd hcd hD hmg hg args vals as hpre hlay hrd hwl hlo
  have KX := kIn_of Y
  refine Ground.open G ?_
  intro T B D TE TW
  clear B D TE TW
  wrow_args hpre hlay hrd hwl hlo
  all_goals (first | refine callC_kw (enter_call ?_) | refine enter_call ?_ | refine callC_kw (enter_callW ?_) | refine enter_callW ?_ | w_how)
  all_goals w_top on
  refine Mine.law_top T KX hmg hg ?_ (by assumption) (by assumption) fun s' h1 h2 h3 => ?_
  · omega
  · refine ⟨.inl ⟨_, _, [], rfl, fun _ => rfl, ReadsW.bool true, ?_, fun _ => ⟨List.nodup_nil, fun _ hm => (nomatch hm)⟩⟩, h1, h3, h2⟩
    wrow_post
