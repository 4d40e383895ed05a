import PyProof.Rows.All
import Wide.All
import OpenK.AllK
import Wide.FinOn
import PySem.Challenge.RW_wk0030_01
set_option Elab.async false

section PartB0
open PySem PySem.Calls PySem.W PyProof.Rows
set_option maxRecDepth 100000
namespace Mine

/-- values without tokens; tuples by what they hold -/
inductive MV where
  | none
  | bool (b : Bool)
  | int (i : Int)
  | str (s : Str)
  | bytes (b : Array UInt8)
  | ref (a : Addr)
  | raw (v : Value)
  | tup (vs : List MV)

mutual
def VA (h : Heap) : MV → Value → Prop
  | .none, v => v = .none
  | .bool b, v => v = .bool b
  | .int i, v => ∃ t, v = .int i t
  | .str s, v => ∃ t, v = .str s t
  | .bytes b, v => ∃ t, v = .bytes b t
  | .ref a, v => v = .ref a
  | .raw u, v => v = u
  | .tup vs, v => ∃ a arr, v = .ref a ∧ h.IsTuple a arr ∧ VAs h vs arr.toList
def VAs (h : Heap) : List MV → List Value → Prop
  | [], vs => vs = []
  | m :: ms, vs => ∃ v r, vs = v :: r ∧ VA h m v ∧ VAs h ms r
end

def TK (h h' : Heap) : Prop := ∀ a arr, h.IsTuple a arr → h'.IsTuple a arr
theorem TK.refl (h : Heap) : TK h h := fun _ _ x => x
theorem TK.trans {h h' h'' : Heap} (x : TK h h') (y : TK h' h'') : TK h h'' := fun a arr e => y a arr (x a arr e)
theorem TK.of_keep {h h' : Heap} (k : ∀ b o, h.get? b = some o → h'.get? b = some o) : TK h h' := fun _ _ ⟨o, e, r⟩ => ⟨o, k _ _ e, r⟩

mutual
theorem VA.mono {h h' : Heap} (k : TK h h') : ∀ {m : MV} {v : Value}, VA h m v → VA h' m v
  | .none, _, x => x
  | .bool _, _, x => x
  | .int _, _, x => x
  | .str _, _, x => x
  | .bytes _, _, x => x
  | .ref _, _, x => x
  | .raw _, _, x => x
  | .tup _, _, ⟨a, arr, e, t, r⟩ => ⟨a, arr, e, k _ _ t, VAs.mono k r⟩
theorem VAs.mono {h h' : Heap} (k : TK h h') : ∀ {ms : List MV} {vs : List Value}, VAs h ms vs → VAs h' ms vs
  | [], _, x => x
  | _ :: _, _, ⟨v, r, e, x, y⟩ => ⟨v, r, e, VA.mono k x, VAs.mono k y⟩
end
theorem VAs.length {h : Heap} : ∀ {ms : List MV} {vs : List Value}, VAs h ms vs → vs.length = ms.length
  | [], _, x => by subst x; rfl
  | _ :: _, _, ⟨_, _, e, _, y⟩ => by subst e; simp [VAs.length y]
theorem VAs.get {h : Heap} : ∀ {ms : List MV} {vs : List Value} {i : Nat} {m : MV}, VAs h ms vs → ms[i]? = some m → ∃ v, vs[i]? = some v ∧ VA h m v
  | [], _, _, _, _, e => by simp at e
  | _ :: _, _, 0, _, ⟨v, _, e, x, _⟩, q => by subst e; simp at q; subst q; exact ⟨v, rfl, x⟩
  | _ :: _, _, _ + 1, _, ⟨_, _, e, _, y⟩, q => by subst e; simpa using VAs.get y (by simpa using q)
theorem VAs.of_get {h : Heap} : ∀ {ms : List MV} {vs : List Value} {i : Nat} {v : Value}, VAs h ms vs → vs[i]? = some v → ∃ m, ms[i]? = some m ∧ VA h m v
  | [], _, _, _, x, e => by subst x; simp at e
  | m :: _, _, 0, _, ⟨v, _, e, x, _⟩, q => by subst e; simp at q; subst q; exact ⟨m, rfl, x⟩
  | _ :: _, _, _ + 1, _, ⟨_, _, e, _, y⟩, q => by subst e; simpa using VAs.of_get y (by simpa using q)
theorem VAs.append {h : Heap} : ∀ {ms ms' : List MV} {vs vs' : List Value}, VAs h ms vs → VAs h ms' vs' → VAs h (ms ++ ms') (vs ++ vs')
  | [], _, _, _, x, y => by subst x; simpa using y
  | _ :: _, _, _, _, ⟨v, r, e, x, z⟩, y => by subst e; exact ⟨v, r ++ _, rfl, x, VAs.append z y⟩
theorem VAs.snoc {h : Heap} {ms : List MV} {vs : List Value} {m : MV} {v : Value} (x : VAs h ms vs) (y : VA h m v) : VAs h (ms ++ [m]) (vs ++ [v]) :=
  VAs.append x ⟨v, [], rfl, y, rfl⟩
theorem VAs.set {h : Heap} : ∀ {ms : List MV} {vs : List Value} {m : MV} {v : Value} (i : Nat), VAs h ms vs → VA h m v → VAs h (ms.set i m) (vs.set i v)
  | [], _, _, _, _, x, _ => by subst x; rfl
  | _ :: _, _, _, _, 0, ⟨_, r, e, _, z⟩, y => by subst e; exact ⟨_, r, rfl, y, z⟩
  | _ :: _, _, _, _, i + 1, ⟨w, r, e, x, z⟩, y => by subst e; exact ⟨w, r.set i _, rfl, x, VAs.set i z y⟩

/-- objects -/
inductive MO where
  | list (vs : List MV)
  | inst (C d : Addr)
  | dict0
  | attrs (l : Addr)

def OA (h : Heap) (a : Addr) : MO → Prop
  | .list vs => ∃ arr, h.PlainList a arr ∧ VAs h vs arr.toList
  | .inst C d => h.get? a = some (instObj C d)
  | .dict0 => h.get? a = some (dictOf [] 0)
  | .attrs l => ∃ hs t, h.get? a = some (dictOf [⟨hs, .str "_headers" t, .ref l⟩] 1)

/-- an object that is no tuple, no cell, no iterator -/
theorem OA.get {h : Heap} {a : Addr} {m : MO} (x : OA h a m) : ∃ o, h.get? a = some o ∧ (∀ arr n, o.cls = .type "tuple" → o.data = .seq arr n → False) ∧ (∀ v, o.data ≠ .cell v) ∧ (∀ v, o.data ≠ .fields v) := by
  cases m with
  | list vs =>
    obtain ⟨arr, ⟨n, e⟩, _⟩ := x
    exact ⟨_, e, fun _ _ c _ => by simp at c, fun v c => (nomatch c), fun v c => (nomatch c)⟩
  | inst d => exact ⟨_, x, fun _ _ c _ => by simp [instObj] at c, fun v c => (nomatch c), fun v c => (nomatch c)⟩
  | dict0 => exact ⟨_, x, fun _ _ c _ => by simp [dictOf] at c, fun v c => (nomatch c), fun v c => (nomatch c)⟩
  | attrs l => obtain ⟨hs, t, e⟩ := x; exact ⟨_, e, fun _ _ c _ => by simp [dictOf] at c, fun v c => (nomatch c), fun v c => (nomatch c)⟩
theorem OA.mono {h h' : Heap} {a : Addr} {m : MO} (x : OA h a m) (k : TK h h') (e : ∀ o, h.get? a = some o → h'.get? a = some o) : OA h' a m := by
  cases m with
  | list vs => obtain ⟨arr, ⟨n, q⟩, y⟩ := x; exact ⟨arr, ⟨n, e _ q⟩, y.mono k⟩
  | inst d => exact e _ x
  | dict0 => exact e _ x
  | attrs l => obtain ⟨hs, t, q⟩ := x; exact ⟨hs, t, e _ q⟩

structure Ent where
  a : Addr
  own : Bool
  o : MO

structure St where
  loc : List (Str × MV)
  hp : List Ent
  cown : Bool := true

abbrev Fz := Addr → Option Obj

structure Rel (h₁ : Heap) (env : Env) (fz : Fz) (z : Shared) (σ : St) (s : Shared) : Prop where
  base : ∀ b o, h₁.get? b = some o → fz b = some o
  keep : ∀ b o, fz b = some o → s.heap.get? b = some o
  fzL : fz env.locals = none
  ns : ∃ m, s.heap.Ns env.locals m ∧ ∀ x v, σ.loc.lookup x = some v → env.kindOf x = some .local → ∃ v', m x = some v' ∧ VA s.heap v v'
  cells : ∀ x v, σ.loc.lookup x = some v → (env.kindOf x = some .cell ∨ env.kindOf x = some .free) → ∃ c v', env.cells.lookup x = some c ∧ s.heap.IsCell c (some v') ∧ VA s.heap v v'
  cown : σ.cown = true → ∀ x c, env.cells.lookup x = some c → fz c = none ∧ ∃ ov, s.heap.IsCell c ov
  hp : ∀ e ∈ σ.hp, OA s.heap e.a e.o ∧ (e.own = true → fz e.a = none ∧ e.a ≠ env.locals) ∧ (e.own = false → (fz e.a).isSome = true)
  pw : σ.hp.Pairwise fun e e' => e.a ≠ e'.a
  rest : s = { z with heap := s.heap, toks := s.toks }

theorem Rel.old {h₁ : Heap} {env : Env} {fz : Fz} {z : Shared} {σ : St} {s : Shared} (R : Rel h₁ env fz z σ s) : ∀ b o, h₁.get? b = some o → s.heap.get? b = some o :=
  fun b o e => R.keep b o (R.base b o e)

section
variable {h₁ : Heap} {env : Env} {fz : Fz} {z : Shared} {σ σ' : St} {s s' : Shared}

/-- everything stays: the same knowledge -/
theorem Rel.keepAll (R : Rel h₁ env fz z σ s) (k : ∀ b o, s.heap.get? b = some o → s'.heap.get? b = some o) (e : s' = { z with heap := s'.heap, toks := s'.toks }) : Rel h₁ env fz z σ s' := by
  have t := TK.of_keep k
  refine ⟨R.base, fun b o q => k _ _ (R.keep b o q), R.fzL, ?_, ?_, ?_, ?_, R.pw, e⟩
  · obtain ⟨m, hn, h⟩ := R.ns
    exact ⟨m, hn.keeps k, fun x v q q' => let ⟨v', a, b⟩ := h x v q q'; ⟨v', a, b.mono t⟩⟩
  · intro x v q q'
    obtain ⟨c, v', a, ⟨o, b, b'⟩, d⟩ := R.cells x v q q'
    exact ⟨c, v', a, ⟨o, k _ _ b, b'⟩, d.mono t⟩
  · intro q x c hx
    obtain ⟨a, ov, o, b, b'⟩ := R.cown q x c hx
    exact ⟨a, ov, o, k _ _ b, b'⟩
  · intro en hm
    obtain ⟨a, b⟩ := R.hp en hm
    exact ⟨a.mono t fun o => k _ o, b⟩
theorem Rel.keepAll' (R : Rel h₁ env fz z σ s) {h' : Heap} {tk : Nat} (k : ∀ b o, s.heap.get? b = some o → h'.get? b = some o) : Rel h₁ env fz z σ { s with heap := h', toks := tk } :=
  R.keepAll k (by have := R.rest; rw [this])
theorem Rel.toks (R : Rel h₁ env fz z σ s) {tk : Nat} : Rel h₁ env fz z σ { s with toks := tk } := R.keepAll' (h' := s.heap) fun _ _ e => e

def LocLe (l' l : List (Str × MV)) : Prop := ∀ x v, l'.lookup x = some v → l.lookup x = some v
theorem LocLe.refl (l : List (Str × MV)) : LocLe l l := fun _ _ e => e
theorem LocLe.nil (l : List (Str × MV)) : LocLe [] l := fun _ _ e => by simp at e
theorem LocLe.cons {x : Str} {v : MV} {l' l : List (Str × MV)} (h : l.lookup x = some v) (r : LocLe l' l) : LocLe ((x, v) :: l') l := fun y u e => by
  rw [List.lookup_cons] at e
  split at e
  · rename_i q; cases e; rw [eq_of_beq q]; exact h
  · exact r y u e
theorem LocLe.trans {a b c : List (Str × MV)} (x : LocLe a b) (y : LocLe b c) : LocLe a c := fun n v e => y n v (x n v e)

/-- less knowledge -/
structure Le (σ' σ : St) : Prop where
  loc : LocLe σ'.loc σ.loc
  hp : σ'.hp.Sublist σ.hp
  cown : σ'.cown = true → σ.cown = true
theorem Le.refl (σ : St) : Le σ σ := ⟨LocLe.refl _, List.Sublist.refl _, id⟩
theorem Le.trans {a b c : St} (x : Le a b) (y : Le b c) : Le a c := ⟨x.loc.trans y.loc, x.hp.trans y.hp, fun h => y.cown (x.cown h)⟩
theorem Rel.le (R : Rel h₁ env fz z σ s) (l : Le σ' σ) : Rel h₁ env fz z σ' s := by
  refine ⟨R.base, R.keep, R.fzL, ?_, ?_, ?_, ?_, R.pw.sublist l.hp, R.rest⟩
  · obtain ⟨m, hn, h⟩ := R.ns
    exact ⟨m, hn, fun x v q q' => h x v (l.loc _ _ q) q'⟩
  · exact fun x v q q' => R.cells x v (l.loc _ _ q) q'
  · exact fun q => R.cown (l.cown q)
  · exact fun en hm => R.hp en (l.hp.mem hm)

theorem Rel.lt_of (R : Rel h₁ env fz z σ s) {b : Addr} (hb : s.heap.get? b = none) : fz b = none ∧ b ≠ env.locals ∧ ∀ e ∈ σ.hp, e.a ≠ b := by
  refine ⟨?_, ?_, ?_⟩
  · cases e : fz b with
    | none => rfl
    | some o => have := R.keep b o e; rw [hb] at this; cases this
  · rintro rfl
    obtain ⟨m, ⟨o, es, ep, ho, _⟩, _⟩ := R.ns
    rw [hb] at ho; cases ho
  · rintro en hm rfl
    obtain ⟨o, ho, _⟩ := (R.hp en hm).1.get
    rw [hb] at ho; cases ho

/-- a new object -/
theorem Rel.alloc (R : Rel h₁ env fz z σ s) {h' : Heap} {tk : Nat} {b : Addr} {m : MO} (k : ∀ c o, s.heap.get? c = some o → h'.get? c = some o) (hb : s.heap.get? b = none) (x : OA h' b m) :
    Rel h₁ env fz z { σ with hp := ⟨b, true, m⟩ :: σ.hp } { s with heap := h', toks := tk } := by
  have R' : Rel h₁ env fz z σ { s with heap := h', toks := tk } := R.keepAll' k
  obtain ⟨f1, f2, f3⟩ := R.lt_of hb
  refine ⟨R'.base, R'.keep, R'.fzL, R'.ns, R'.cells, R'.cown, ?_, ?_, R'.rest⟩
  · intro en hm
    rcases List.mem_cons.mp hm with rfl | hm
    · exact ⟨x, fun _ => ⟨f1, f2⟩, fun q => (nomatch q)⟩
    · exact R'.hp en hm
  · exact List.pairwise_cons.mpr ⟨fun en hm => (f3 en hm).symm, R'.pw⟩

/-- a change at one own address -/
theorem Rel.change (R : Rel h₁ env fz z σ s) {h' : Heap} {tk : Nat} {i : Nat} {b : Addr} {m m' : MO} (hi : σ.hp[i]? = some ⟨b, true, m⟩) (k : ∀ c o, c ≠ b → s.heap.get? c = some o → h'.get? c = some o) (x : TK s.heap h' → OA h' b m') :
    Rel h₁ env fz z { σ with hp := σ.hp.set i ⟨b, true, m'⟩ } { s with heap := h', toks := tk } ∧ TK s.heap h' := by
  have hm := List.mem_of_getElem? hi
  obtain ⟨hO, ho, _⟩ := R.hp _ hm
  obtain ⟨hf, hL⟩ := ho rfl
  obtain ⟨ob, hob, n1, n2, n3⟩ := hO.get
  dsimp only at hf hL hO hob
  have t : TK s.heap h' := fun a arr ⟨o, e, c, n, d⟩ => ⟨o, k _ _ (by rintro rfl; rw [hob] at e; cases e; exact n1 _ _ c d) e, c, n, d⟩
  refine ⟨⟨R.base, fun c o q => k _ _ (by rintro rfl; rw [hf] at q; cases q) (R.keep c o q), R.fzL, ?_, ?_, ?_, ?_, ?_, ?_⟩, t⟩
  · obtain ⟨m, hn, h⟩ := R.ns
    exact ⟨m, hn.at' fun o => k _ o (Ne.symm hL), fun x v q q' => let ⟨v', a, b⟩ := h x v q q'; ⟨v', a, b.mono t⟩⟩
  · intro x v q q'
    obtain ⟨c, v', a, ⟨o, e, e'⟩, d⟩ := R.cells x v q q'
    exact ⟨c, v', a, ⟨o, k _ _ (by rintro rfl; rw [hob] at e; cases e; exact n2 _ e') e, e'⟩, d.mono t⟩
  · intro q x c hx
    obtain ⟨a, ov, o, e, e'⟩ := R.cown q x c hx
    exact ⟨a, ov, o, k _ _ (by rintro rfl; rw [hob] at e; cases e; exact n2 _ e') e, e'⟩
  · intro en hen
    obtain ⟨j, hj, he⟩ := List.mem_iff_getElem.mp hen
    rw [List.getElem_set] at he
    split at he
    · subst he; exact ⟨x t, fun _ => ⟨hf, hL⟩, fun q => (nomatch q)⟩
    · rename_i hne
      have hj' : j < σ.hp.length := by simpa using hj
      have hmem : en ∈ σ.hp := he ▸ List.getElem_mem hj'
      obtain ⟨a1, a2⟩ := R.hp en hmem
      have hab : en.a ≠ b := by
        have hil : i < σ.hp.length := (List.getElem?_eq_some_iff.mp hi).1
        have hie : σ.hp[i] = ⟨b, true, m⟩ := (List.getElem?_eq_some_iff.mp hi).2
        rcases Nat.lt_or_gt_of_ne hne with h | h
        · have := (List.pairwise_iff_getElem.mp R.pw) i j hil hj' h
          rw [hie, he] at this; exact this.symm
        · have := (List.pairwise_iff_getElem.mp R.pw) j i hj' hil h
          rw [hie, he] at this; exact this
      exact ⟨a1.mono t fun o => k _ o hab, a2⟩
  · have key : (σ.hp.set i ⟨b, true, m'⟩).map (·.a) = σ.hp.map (·.a) := by
      rw [List.map_set]
      apply List.ext_getElem (by simp)
      intro j h1 h2
      rw [List.getElem_set]
      split
      · rename_i q
        subst q
        have hie : σ.hp[i]'(by simpa using h2) = ⟨b, true, m⟩ := (List.getElem?_eq_some_iff.mp hi).2
        simp [hie]
      · rfl
    have : ((σ.hp.set i ⟨b, true, m'⟩).map (·.a)).Pairwise (· ≠ ·) := by
      rw [key, List.pairwise_map]; exact R.pw
    rw [List.pairwise_map] at this
    exact this
  · have := R.rest; rw [this]
end
end Mine
end PartB0

section PartB1
open PySem PySem.Calls PySem.W PyProof.Rows
set_option maxRecDepth 100000
set_option linter.unusedVariables false
namespace Mine

theorem VAs.cons {h : Heap} {m : MV} {ms : List MV} {v : Value} {vs : List Value} (x : VA h m v) (y : VAs h ms vs) : VAs h (m :: ms) (v :: vs) := ⟨v, vs, rfl, x, y⟩
theorem VAs.nil {h : Heap} : VAs h [] [] := rfl

structure Gl where
  prog : Program
  w : World
  h₁ : Heap
  K : Frag
  mg : Str → Option Value
  mb : Str → Option Value
structure Gl.Ok (G : Gl) : Prop where
  X : G.K.In G.h₁
  g : G.h₁.Ns mainGlobals G.mg
  b : G.h₁.Ns builtinsNs G.mb
  nolimit : G.h₁.NoLimit
  builtins : ∀ x : Str, x ≠ "__name__" → G.mb x = bootBuiltins x

/-- from a state that σ tells, the tree ends in a state and a value that Φ tells -/
structure XT (G : Gl) (env : Env) (A : Around) {α β : Type} (R : Heap → β → α → Prop) (σ : St) (t : Sem α) (Φ : β → St → Prop) : Prop where
  run : ∀ (fz : Fz) (z s : Shared) (Q : α → Shared → Prop) (E : Value → Shared → Prop), Rel G.h₁ env fz z σ s →
    (∀ a b σ' s', R s'.heap b a → Φ b σ' → Rel G.h₁ env fz z σ' s' → TK s.heap s'.heap → Q a s') → wpAny (model G.prog G.w) A t Q E s

def RU (_ : Heap) (_ _ : Unit) : Prop := True
def RB (_ : Heap) (b a : Bool) : Prop := a = b
inductive MF where
  | next | brk | cont
  | ret (v : MV)
def FA (h : Heap) : MF → Flow → Prop
  | .next, f => f = .next
  | .brk, f => f = .brk
  | .cont, f => f = .cont
  | .ret m, f => ∃ v, f = .ret v ∧ VA h m v

abbrev XE (G : Gl) (env : Env) (A : Around) (σ : St) (e : Expr) (Φ : MV → St → Prop) : Prop := XT G env A VA σ (eval e env) Φ
abbrev XB (G : Gl) (env : Env) (A : Around) (σ : St) (e : Expr) (Φ : Bool → St → Prop) : Prop := XT G env A RB σ (isTrue e env (eval e env)) Φ
abbrev XS (G : Gl) (env : Env) (A : Around) (σ : St) (st : Stmt) (Φ : MF → St → Prop) : Prop := XT G env A FA σ (exec st env) Φ
abbrev XSs (G : Gl) (env : Env) (A : Around) (σ : St) (st : List Stmt) (Φ : MF → St → Prop) : Prop := XT G env A FA σ (execs st env) Φ

/-- an operation on values that are told -/
structure XV1 (G : Gl) (env : Env) (A : Around) {α β : Type} (R : Heap → β → α → Prop) (σ : St) (a : MV) (f : Value → Sem α) (Φ : β → St → Prop) : Prop where
  run : ∀ (fz : Fz) (z s : Shared) (Q : α → Shared → Prop) (E : Value → Shared → Prop) (v : Value), VA s.heap a v → Rel G.h₁ env fz z σ s →
    (∀ x b σ' s', R s'.heap b x → Φ b σ' → Rel G.h₁ env fz z σ' s' → TK s.heap s'.heap → Q x s') → wpAny (model G.prog G.w) A (f v) Q E s
structure XV2 (G : Gl) (env : Env) (A : Around) {α β : Type} (R : Heap → β → α → Prop) (σ : St) (a b : MV) (f : Value → Value → Sem α) (Φ : β → St → Prop) : Prop where
  run : ∀ (fz : Fz) (z s : Shared) (Q : α → Shared → Prop) (E : Value → Shared → Prop) (v u : Value), VA s.heap a v → VA s.heap b u → Rel G.h₁ env fz z σ s →
    (∀ x b σ' s', R s'.heap b x → Φ b σ' → Rel G.h₁ env fz z σ' s' → TK s.heap s'.heap → Q x s') → wpAny (model G.prog G.w) A (f v u) Q E s
structure XV3 (G : Gl) (env : Env) (A : Around) {α β : Type} (R : Heap → β → α → Prop) (σ : St) (a b c : MV) (f : Value → Value → Value → Sem α) (Φ : β → St → Prop) : Prop where
  run : ∀ (fz : Fz) (z s : Shared) (Q : α → Shared → Prop) (E : Value → Shared → Prop) (v u y : Value), VA s.heap a v → VA s.heap b u → VA s.heap c y → Rel G.h₁ env fz z σ s →
    (∀ x b σ' s', R s'.heap b x → Φ b σ' → Rel G.h₁ env fz z σ' s' → TK s.heap s'.heap → Q x s') → wpAny (model G.prog G.w) A (f v u y) Q E s
structure XVs (G : Gl) (env : Env) (A : Around) {α β : Type} (R : Heap → β → α → Prop) (σ : St) (ms : List MV) (f : List Value → Sem α) (Φ : β → St → Prop) : Prop where
  run : ∀ (fz : Fz) (z s : Shared) (Q : α → Shared → Prop) (E : Value → Shared → Prop) (vs : List Value), VAs s.heap ms vs → Rel G.h₁ env fz z σ s →
    (∀ x b σ' s', R s'.heap b x → Φ b σ' → Rel G.h₁ env fz z σ' s' → TK s.heap s'.heap → Q x s') → wpAny (model G.prog G.w) A (f vs) Q E s

/-- what the rules ask of a frame -/
structure EnvOk (env : Env) : Prop where
  kind : env.scope.kind = .function
  glob : env.globals = mainGlobals
  blt : env.builtins = builtinsNs
structure Room (A : Around) (n : Nat) : Prop where
  hh : A.handled = none
  depth : A.depth + n < recursionLimit
  units : A.units + 4 * n + 8 < cLine
theorem Room.le {A : Around} {n m : Nat} (h : Room A n) (l : m ≤ n) : Room A m := ⟨h.hh, by have := h.depth; omega, by have := h.units; omega⟩
theorem Room.lim {A : Around} {n : Nat} (h : Room A n) : A.depth < recursionLimit := by have := h.depth; omega
theorem Room.room {A : Around} {n : Nat} (h : Room A n) : A.units < cLine := by have := h.units; omega
theorem Room.deeper {A : Around} {n : Nat} {env : Env} (h : Room A (n + 1)) : Room (A.deeper env) n := ⟨h.hh, by have := h.depth; show A.depth + 1 + n < _; omega, by have := h.units; show A.units + 3 + 4 * n + 8 < _; omega⟩
theorem Room.in1 {A : Around} {n : Nat} (h : Room A (n + 1)) : Room A.in1 n := ⟨h.hh, by have := h.depth; show A.depth + n < _; omega, by have := h.units; show A.units + 1 + 4 * n + 8 < _; omega⟩

section
variable {G : Gl} {env : Env} {A : Around} {σ σ' : St}

theorem XT.mono {α β : Type} {R : Heap → β → α → Prop} {t : Sem α} {Φ Ψ : β → St → Prop} (h : XT G env A R σ t Φ) (k : ∀ b σ', Φ b σ' → Ψ b σ') : XT G env A R σ t Ψ := .mk
  fun fz z s Q E r q => h.run fz z s Q E r fun a b σ' s' x y r' t => q a b σ' s' x (k b σ' y) r' t
theorem XT.le {α β : Type} {R : Heap → β → α → Prop} {t : Sem α} {Φ : β → St → Prop} (h : XT G env A R σ' t Φ) (l : Le σ' σ) : XT G env A R σ t Φ := .mk
  fun fz z s Q E r q => h.run fz z s Q E (r.le l) q
theorem XV1.mono {α β : Type} {R : Heap → β → α → Prop} {a : MV} {t : Value → Sem α} {Φ Ψ : β → St → Prop} (h : XV1 G env A R σ a t Φ) (k : ∀ b σ', Φ b σ' → Ψ b σ') : XV1 G env A R σ a t Ψ := .mk
  fun fz z s Q E v x r q => h.run fz z s Q E v x r fun a b σ' s' x y r' t => q a b σ' s' x (k b σ' y) r' t
theorem XVs.mono {α β : Type} {R : Heap → β → α → Prop} {a : List MV} {t : List Value → Sem α} {Φ Ψ : β → St → Prop} (h : XVs G env A R σ a t Φ) (k : ∀ b σ', Φ b σ' → Ψ b σ') : XVs G env A R σ a t Ψ := .mk
  fun fz z s Q E v x r q => h.run fz z s Q E v x r fun a b σ' s' x y r' t => q a b σ' s' x (k b σ' y) r' t
theorem XV1.at {α β : Type} {R : Heap → β → α → Prop} {a : MV} {f : Value → Sem α} {Φ : β → St → Prop} (h : XV1 G env A R σ a f Φ) {fz : Fz} {z s : Shared} {Q : α → Shared → Prop} {E : Value → Shared → Prop} {v : Value} {s₀ : Shared}
    (x : VA s.heap a v) (r : Rel G.h₁ env fz z σ s) (t : TK s₀.heap s.heap) (q : ∀ x b σ' s', R s'.heap b x → Φ b σ' → Rel G.h₁ env fz z σ' s' → TK s₀.heap s'.heap → Q x s') : wpAny (model G.prog G.w) A (f v) Q E s :=
  h.run fz z s Q E v x r fun a b σ' s' x y r' t' => q a b σ' s' x y r' (t.trans t')
theorem XV2.at {α β : Type} {R : Heap → β → α → Prop} {a b : MV} {f : Value → Value → Sem α} {Φ : β → St → Prop} (h : XV2 G env A R σ a b f Φ) {fz : Fz} {z s : Shared} {Q : α → Shared → Prop} {E : Value → Shared → Prop} {v u : Value} {s₀ : Shared}
    (x : VA s.heap a v) (y : VA s.heap b u) (r : Rel G.h₁ env fz z σ s) (t : TK s₀.heap s.heap) (q : ∀ x b σ' s', R s'.heap b x → Φ b σ' → Rel G.h₁ env fz z σ' s' → TK s₀.heap s'.heap → Q x s') : wpAny (model G.prog G.w) A (f v u) Q E s :=
  h.run fz z s Q E v u x y r fun a b σ' s' x y r' t' => q a b σ' s' x y r' (t.trans t')
theorem XV3.at {α β : Type} {R : Heap → β → α → Prop} {a b c : MV} {f : Value → Value → Value → Sem α} {Φ : β → St → Prop} (h : XV3 G env A R σ a b c f Φ) {fz : Fz} {z s : Shared} {Q : α → Shared → Prop} {E : Value → Shared → Prop} {v u w : Value} {s₀ : Shared}
    (x : VA s.heap a v) (y : VA s.heap b u) (y' : VA s.heap c w) (r : Rel G.h₁ env fz z σ s) (t : TK s₀.heap s.heap) (q : ∀ x b σ' s', R s'.heap b x → Φ b σ' → Rel G.h₁ env fz z σ' s' → TK s₀.heap s'.heap → Q x s') : wpAny (model G.prog G.w) A (f v u w) Q E s :=
  h.run fz z s Q E v u w x y y' r fun a b σ' s' x y r' t' => q a b σ' s' x y r' (t.trans t')
theorem XVs.at {α β : Type} {R : Heap → β → α → Prop} {ms : List MV} {f : List Value → Sem α} {Φ : β → St → Prop} (h : XVs G env A R σ ms f Φ) {fz : Fz} {z s : Shared} {Q : α → Shared → Prop} {E : Value → Shared → Prop} {vs : List Value} {s₀ : Shared}
    (x : VAs s.heap ms vs) (r : Rel G.h₁ env fz z σ s) (t : TK s₀.heap s.heap) (q : ∀ x b σ' s', R s'.heap b x → Φ b σ' → Rel G.h₁ env fz z σ' s' → TK s₀.heap s'.heap → Q x s') : wpAny (model G.prog G.w) A (f vs) Q E s :=
  h.run fz z s Q E vs x r fun a b σ' s' x y r' t' => q a b σ' s' x y r' (t.trans t')
theorem XT.at {α β : Type} {R : Heap → β → α → Prop} {f : Sem α} {Φ : β → St → Prop} (h : XT G env A R σ f Φ) {fz : Fz} {z s : Shared} {Q : α → Shared → Prop} {E : Value → Shared → Prop} {s₀ : Shared}
    (r : Rel G.h₁ env fz z σ s) (t : TK s₀.heap s.heap) (q : ∀ x b σ' s', R s'.heap b x → Φ b σ' → Rel G.h₁ env fz z σ' s' → TK s₀.heap s'.heap → Q x s') : wpAny (model G.prog G.w) A f Q E s :=
  h.run fz z s Q E r fun a b σ' s' x y r' t' => q a b σ' s' x y r' (t.trans t')

/-! constants -/
theorem XE_int {i k pos} {Φ : MV → St → Prop} (h : Φ (.int i) σ) : XE G env A σ (.Constant (.int i) k pos) Φ := .mk
  fun _ _ s _ _ r q => wpAny_Constant_int (q _ (.int i) σ _ ⟨_, rfl⟩ h r.toks (TK.refl _))
theorem XE_str {x : Str} {k pos} {Φ : MV → St → Prop} (h : Φ (.str x) σ) : XE G env A σ (.Constant (.str x) k pos) Φ := .mk
  fun _ _ s _ _ r q => wpAny_Constant_str (q _ (.str x) σ _ ⟨_, rfl⟩ h r.toks (TK.refl _))
theorem XE_bytes {x : List UInt8} {k pos} {Φ : MV → St → Prop} (h : Φ (.bytes x.toArray) σ) : XE G env A σ (.Constant (.bytes x) k pos) Φ := .mk
  fun _ _ s _ _ r q => by
    show wpAny _ _ (mkTextBytes x.toArray) _ _ _
    exact wpAny_bind (wpAny_fresh (wpAny_pure (q _ (.bytes x.toArray) σ _ ⟨_, rfl⟩ h r.toks (TK.refl _))))
theorem XE_none {k pos} {Φ : MV → St → Prop} (h : Φ .none σ) : XE G env A σ (.Constant .none k pos) Φ := .mk
  fun _ _ s _ _ r q => wpAny_Constant_none (q _ .none σ _ rfl h r (TK.refl _))
theorem XE_bool {b k pos} {Φ : MV → St → Prop} (h : Φ (.bool b) σ) : XE G env A σ (.Constant (.bool b) k pos) Φ := .mk
  fun _ _ s _ _ r q => wpAny_Constant_bool (q _ (.bool b) σ _ rfl h r (TK.refl _))

/-! names -/
theorem XE_local (e : EnvOk env) {x : Str} {pos : Pos} {v : MV} {Φ : MV → St → Prop} (hv : σ.loc.lookup x = some v) (h : Φ v σ) (hx : env.kindOf x = some .local)
    (hd : (x == ("__debug__" : Str)) = false := by decide +kernel) : XE G env A σ (.Name x pos) Φ := .mk fun _ _ s _ _ r q => by
  obtain ⟨m, hn, hm⟩ := r.ns
  obtain ⟨v', h1, h2⟩ := hm x v hv hx
  exact wpAny_Name (wpAny_loadName_local e.kind hx hn h1 (q _ _ _ _ h2 h r (TK.refl _))) hd
theorem XE_cell (e : EnvOk env) {x : Str} {pos : Pos} {v : MV} {Φ : MV → St → Prop} (hv : σ.loc.lookup x = some v) (h : Φ v σ) (hx : env.kindOf x = some .cell)
    (hd : (x == ("__debug__" : Str)) = false := by decide +kernel) : XE G env A σ (.Name x pos) Φ := .mk fun _ _ s _ _ r q => by
  obtain ⟨c, v', h1, h2, h3⟩ := r.cells x v hv (.inl hx)
  exact wpAny_Name (wpAny_loadName_cell e.kind hx h1 h2 (q _ _ _ _ h3 h r (TK.refl _))) hd
theorem XE_free (e : EnvOk env) {x : Str} {pos : Pos} {v : MV} {Φ : MV → St → Prop} (hv : σ.loc.lookup x = some v) (h : Φ v σ) (hx : env.kindOf x = some .free)
    (hd : (x == ("__debug__" : Str)) = false := by decide +kernel) (hc : (x == ("__classdict__" : Str)) = false := by decide +kernel) : XE G env A σ (.Name x pos) Φ := .mk fun _ _ s _ _ r q => by
  obtain ⟨c, v', h1, h2, h3⟩ := r.cells x v hv (.inr hx)
  exact wpAny_Name (wpAny_loadName_free e.kind hx h1 h2 (q _ _ _ _ h3 h r (TK.refl _)) hc) hd
theorem XE_global (g : G.Ok) (e : EnvOk env) {x : Str} {pos : Pos} {a : Addr} {Φ : MV → St → Prop} (hv : nsIn G.K mainGlobals x = some (some (.ref a))) (h : Φ (.ref a) σ) (hx : env.kindOf x = some .globalImplicit)
    (hd : (x == ("__debug__" : Str)) = false := by decide +kernel) : XE G env A σ (.Name x pos) Φ := .mk fun _ _ s _ _ r q =>
  Name_function_global e.kind hx (loadGlobal_global (by rw [e.glob]; exact g.g.keeps r.old) (mg_of g.X g.g hv) (q _ (.ref a) σ _ rfl h r (TK.refl _))) hd
theorem XE_globalS (g : G.Ok) (e : EnvOk env) {x : Str} {pos : Pos} {y : Str} {t : Tok} {Φ : MV → St → Prop} (hv : nsIn G.K mainGlobals x = some (some (.str y t))) (h : Φ (.str y) σ) (hx : env.kindOf x = some .globalImplicit)
    (hd : (x == ("__debug__" : Str)) = false := by decide +kernel) : XE G env A σ (.Name x pos) Φ := .mk fun _ _ s _ _ r q =>
  Name_function_global e.kind hx (loadGlobal_global (by rw [e.glob]; exact g.g.keeps r.old) (mg_of g.X g.g hv) (q _ (.str y) σ _ ⟨t, rfl⟩ h r (TK.refl _))) hd
theorem XE_builtin (g : G.Ok) (e : EnvOk env) {x : Str} {pos : Pos} {v : Value} {Φ : MV → St → Prop} (hv : nsIn G.K mainGlobals x = some none) (hb : bootBuiltins x = some v) (h : Φ (.raw v) σ) (hx : env.kindOf x = some .globalImplicit)
    (hn : x ≠ "__name__" := by decide +kernel) (hd : (x == ("__debug__" : Str)) = false := by decide +kernel) : XE G env A σ (.Name x pos) Φ := .mk fun _ _ s _ _ r q =>
  Name_function_global e.kind hx (loadGlobal_builtin (by rw [e.glob]; exact g.g.keeps r.old) (mg_none_of g.X g.g hv) (by rw [e.blt]; exact g.b.keeps r.old) ((g.builtins x hn).trans hb) (q _ (.raw v) σ _ rfl h r (TK.refl _))) hd

/-! operators -/
theorem XE_BinOp {l op r' pos} {Φ : MV → St → Prop} (h : XE G env A σ l fun a σ₁ => XE G env A σ₁ r' fun b σ₂ => XV2 G env A VA σ₂ a b (binaryOp op) Φ) : XE G env A σ (.BinOp l op r' pos) Φ := .mk fun fz z s Q E r q =>
  wpAny_BinOp (h.run fz z s _ _ r fun _ _ _ _ va h₁ r₁ t₁ => h₁.run _ _ _ _ _ r₁ fun _ _ _ _ vb h₂ r₂ t₂ => XV2.at h₂ (va.mono t₂) vb r₂ (t₁.trans t₂) q)
theorem XE_UnaryOp {op x pos} {Φ : MV → St → Prop} (h : XE G env A σ x fun a σ₁ => XV1 G env A VA σ₁ a (unaryOp op) Φ) : XE G env A σ (.UnaryOp op x pos) Φ := .mk fun fz z s Q E r q =>
  wpAny_UnaryOp (h.run fz z s _ _ r fun _ _ _ _ va h₁ r₁ t₁ => XV1.at h₁ va r₁ t₁ q)
theorem XE_IfExp {c x y pos} {Φ : MV → St → Prop} (h : XB G env A σ c fun b σ₁ => (b = true → XE G env A σ₁ x Φ) ∧ (b = false → XE G env A σ₁ y Φ)) : XE G env A σ (.IfExp c x y pos) Φ := .mk fun fz z s Q E r q =>
  wpAny_IfExp (h.run fz z s _ _ r fun a b _ _ e h₁ r₁ t₁ => by
    cases (e : a = b)
    cases a
    · exact XT.at (h₁.2 rfl) r₁ t₁ q
    · exact XT.at (h₁.1 rfl) r₁ t₁ q)
theorem XE_Compare {l op r' pos} {Φ : MV → St → Prop} (h : XE G env A σ l fun a σ₁ => XE G env A σ₁ r' fun b σ₂ => XV2 G env A VA σ₂ a b (compareOp op) Φ) (hm : behindInMarks op r' = false) : XE G env A σ (.Compare l [op] [r'] pos) Φ := .mk fun fz z s Q E r q =>
  wpAny_Compare1 (h.run fz z s _ _ r fun _ _ _ _ va h₁ r₁ t₁ => h₁.run _ _ _ _ _ r₁ fun _ _ _ _ vb h₂ r₂ t₂ => XV2.at h₂ (va.mono t₂) vb r₂ (t₁.trans t₂) q) hm
theorem XB_Compare {l op r' pos} {Φ : Bool → St → Prop} (h : XE G env A σ l fun a σ₁ => XE G env A σ₁ r' fun b σ₂ => XV2 G env A VA σ₂ a b (compareOp op) fun c σ₃ => XV1 G env A RB σ₃ c truthy Φ) (hm : behindInMarks op r' = false) :
    XB G env A σ (.Compare l [op] [r'] pos) Φ := .mk fun fz z s Q E r q =>
  wpAny_isTrue_Compare1 (h.run fz z s _ _ r fun _ _ _ _ va h₁ r₁ t₁ => h₁.run _ _ _ _ _ r₁ fun _ _ _ _ vb h₂ r₂ t₂ => XV2.at h₂ (va.mono t₂) vb r₂ (t₁.trans t₂) fun _ _ _ _ vc h₃ r₃ t₃ => XV1.at h₃ vc r₃ t₃ q) hm
theorem XB_plain {e : Expr} {Φ : Bool → St → Prop} (h : XE G env A σ e fun a σ₁ => XV1 G env A RB σ₁ a truthy Φ) (he : ∀ whole, isTrue e env whole = (do let v ← whole; standAt e.pos; holding [v] (truthy v))) : XB G env A σ e Φ := .mk fun fz z s Q E r q => by
  refine isTrue_plain (h.run fz z s _ _ r fun _ _ _ _ va h₁ r₁ t₁ => XV1.at h₁ va r₁ t₁ q) (he _)
theorem XB_Or_nil {pos} {Φ : Bool → St → Prop} (h : Φ false σ) : XB G env A σ (.BoolOp .Or [] pos) Φ := .mk fun _ _ _ _ _ r q => isTrue_or_nil (q _ _ _ _ rfl h r (TK.refl _))
theorem XB_Or {x rest pos} {Φ : Bool → St → Prop} (h : XB G env A σ x fun b σ₁ => (b = true → Φ true σ₁) ∧ (b = false → XB G env A σ₁ (.BoolOp .Or rest pos) Φ)) : XB G env A σ (.BoolOp .Or (x :: rest) pos) Φ := .mk fun fz z s Q E r q =>
  isTrue_or (h.run fz z s _ _ r fun a b _ _ e h₁ r₁ t₁ => by
    cases (e : a = b)
    cases a
    · exact XT.at (h₁.2 rfl) r₁ t₁ q
    · exact q _ _ _ _ rfl (h₁.1 rfl) r₁ t₁)
theorem XB_And_nil {pos} {Φ : Bool → St → Prop} (h : Φ true σ) : XB G env A σ (.BoolOp .And [] pos) Φ := .mk fun _ _ _ _ _ r q => wpAny_pure (a := true) (q _ _ _ _ rfl h r (TK.refl _))
theorem XB_And {x rest pos} {Φ : Bool → St → Prop} (h : XB G env A σ x fun b σ₁ => (b = true → XB G env A σ₁ (.BoolOp .And rest pos) Φ) ∧ (b = false → Φ false σ₁)) : XB G env A σ (.BoolOp .And (x :: rest) pos) Φ := .mk fun fz z s Q E r q =>
  isTrue_and (h.run fz z s _ _ r fun a b _ _ e h₁ r₁ t₁ => by
    cases (e : a = b)
    cases a
    · exact q _ _ _ _ rfl (h₁.2 rfl) r₁ t₁
    · exact XT.at (h₁.1 rfl) r₁ t₁ q)

/-! lists of expressions -/
abbrev XA (G : Gl) (env : Env) (A : Around) (pos : Pos) (σ : St) (es : List Expr) (Φ : List MV → St → Prop) : Prop := XT G env A VAs σ (spliced (backTo pos (starEach es env))) Φ
theorem XA_nil {pos : Pos} {Φ : List MV → St → Prop} (h : Φ [] σ) : XA G env A pos σ [] Φ := .mk fun _ _ _ _ _ r q => spliced_nil (q _ [] _ _ rfl h r (TK.refl _))
theorem XA_cons {pos : Pos} {e : Expr} {es : List Expr} {Φ : List MV → St → Prop} (h : XE G env A σ e fun a σ₁ => XA G env A pos σ₁ es fun ms σ₂ => Φ (a :: ms) σ₂)
    (he : starEach (e :: es) env = (false, eval e env) :: starEach es env) : XA G env A pos σ (e :: es) Φ := .mk fun fz z s Q E r q => by
  rw [he]
  exact spliced_cons (h.run fz z s _ _ r fun _ _ _ _ va h₁ r₁ t₁ => h₁.run _ _ _ _ _ r₁ fun _ _ _ _ vb h₂ r₂ t₂ => q _ _ _ _ (VAs.cons (va.mono t₂) vb) h₂ r₂ (t₁.trans t₂))

/-! statements -/
theorem XSs_nil {Φ : MF → St → Prop} (h : Φ .next σ) : XSs G env A σ [] Φ := .mk fun _ _ _ _ _ r q => wpAny_execs_nil (q _ .next _ _ rfl h r (TK.refl _))
theorem XSs_cons {st : Stmt} {rest : List Stmt} {Φ : MF → St → Prop} (h : XS G env A σ st fun f σ₁ => match f with | .next => XSs G env A σ₁ rest Φ | f => Φ f σ₁) : XSs G env A σ (st :: rest) Φ := .mk fun fz z s Q E r q =>
  wpAny_execs_cons (h.run fz z s _ _ r fun a b _ _ e h₁ r₁ t₁ => by
    cases b with
    | next => cases (e : a = _); exact XT.at h₁ r₁ t₁ q
    | brk => cases (e : a = _); exact q _ .brk _ _ rfl h₁ r₁ t₁
    | cont => cases (e : a = _); exact q _ .cont _ _ rfl h₁ r₁ t₁
    | ret v => obtain ⟨v', rfl, e⟩ := e; exact q _ (.ret v) _ _ ⟨_, rfl, e⟩ h₁ r₁ t₁)
theorem XS_Return {e pos} {Φ : MF → St → Prop} (h : XE G env A σ e fun v σ₁ => Φ (.ret v) σ₁) : XS G env A σ (.Return (some e) pos) Φ := .mk fun fz z s Q E r q =>
  wpAny_Return_some (h.run fz z s _ _ r fun _ v _ _ va h₁ r₁ t₁ => q _ (.ret v) _ _ ⟨_, rfl, va⟩ h₁ r₁ t₁)
theorem XS_If {c b e pos} {Φ : MF → St → Prop} (h : XB G env A σ c fun t σ₁ => (t = true → XSs G env A σ₁ b Φ) ∧ (t = false → XSs G env A σ₁ e Φ)) : XS G env A σ (.If c b e pos) Φ := .mk fun fz z s Q E r q =>
  wpAny_If (h.run fz z s _ _ r fun a b _ _ e h₁ r₁ t₁ => by
    cases (e : a = b)
    cases a
    · exact XT.at (h₁.2 rfl) r₁ t₁ q
    · exact XT.at (h₁.1 rfl) r₁ t₁ q)
theorem XS_Expr {e pos} {Φ : MF → St → Prop} (h : XE G env A σ e fun _ σ₁ => Φ .next σ₁) (hi : interactive env = false) (hs : swapsWith e none pos.line env = pure false) : XS G env A σ (.Expr e pos) Φ := .mk fun fz z s Q E r q =>
  wpAny_Expr_any (h.run fz z s _ _ r fun _ _ _ _ _ h₁ r₁ t₁ => q _ .next _ _ rfl h₁ r₁ t₁) hi hs

/-- storing a name -/
def St.put (σ : St) (x : Str) (v : MV) : St := { σ with loc := (x, v) :: σ.loc }
theorem XU_store_local {x : Str} {v : MV} {Φ : Unit → St → Prop} (h : Φ () (σ.put x v)) (hx : env.kindOf x = some .local) (e : EnvOk env) : XV1 G env A RU σ v (storeName env x) Φ := .mk fun fz z s Q E u va r q => by
  obtain ⟨m, hn, hm⟩ := r.ns
  refine wpAny_storeName_local hx hn (fun h' hn' hs => ?_) (by rw [e.kind]; rfl)
  obtain ⟨oL, _, _, hL, hdL, _⟩ := id hn
  have t : TK s.heap h' := fun a arr ⟨o, e1, c, n, d⟩ => ⟨o, hs.extBut _ _ (by rintro rfl; rw [hL] at e1; cases e1; rw [hdL] at d; cases d) e1, c, n, d⟩
  have k : ∀ c o, c ≠ env.locals → s.heap.get? c = some o → h'.get? c = some o := fun c o hc e1 => hs.extBut _ _ hc e1
  refine q _ () (σ.put x v) _ trivial h ⟨r.base, fun c o q => k _ _ (by rintro rfl; rw [r.fzL] at q; cases q) (r.keep c o q), r.fzL, ⟨_, hn', ?_⟩, ?_, ?_, ?_, r.pw, by have := r.rest; rw [this]⟩ t
  · intro y w hy hk
    unfold St.put at hy
    rw [List.lookup_cons] at hy
    split at hy
    · rename_i qq; cases hy; cases eq_of_beq qq; exact ⟨u, by simp, va.mono t⟩
    · rename_i qq
      obtain ⟨v', a, b⟩ := hm y w hy hk
      refine ⟨v', ?_, b.mono t⟩
      rw [if_neg (by rintro rfl; simp at qq)]; exact a
  · intro y w hy hk
    unfold St.put at hy
    rw [List.lookup_cons] at hy
    split at hy
    · rename_i qq; cases eq_of_beq qq; rw [hx] at hk; rcases hk with hk | hk <;> cases hk
    · obtain ⟨c, v', a, ⟨o, e1, e2⟩, d⟩ := r.cells y w hy hk
      exact ⟨c, v', a, ⟨o, k _ _ (by rintro rfl; rw [hL] at e1; cases e1; rw [hdL] at e2; cases e2) e1, e2⟩, d.mono t⟩
  · intro qo y c hy
    obtain ⟨a, ov, o, e1, e2⟩ := r.cown qo y c hy
    exact ⟨a, ov, o, k _ _ (by rintro rfl; rw [hL] at e1; cases e1; rw [hdL] at e2; cases e2) e1, e2⟩
  · intro en hen
    obtain ⟨a, b1, b2⟩ := r.hp en hen
    have hne : en.a ≠ env.locals := by
      cases ho : en.own with
      | true => exact (b1 ho).2
      | false => rintro q2; have := b2 ho; rw [q2, r.fzL] at this; cases this
    exact ⟨a.mono t fun o => k _ o hne, b1, b2⟩
theorem XU_store_cell {x : Str} {v : MV} {Φ : Unit → St → Prop} (h : Φ () (σ.put x v)) (hx : env.kindOf x = some .cell) (hc : (env.cells.lookup x).isSome = true) (hw : σ.cown = true) (e : EnvOk env)
    (hinj : ∀ y c, env.cells.lookup x = some c → env.cells.lookup y = some c → y = x) : XV1 G env A RU σ v (storeName env x) Φ := .mk fun fz z s Q E u va r q => by
  obtain ⟨c, hc⟩ := Option.isSome_iff_exists.mp hc
  obtain ⟨hfc, ov, oc, hoc, hdc⟩ := r.cown hw x c hc
  refine wpAny_storeName_cell e.kind hx hc ⟨oc, hoc, hdc⟩ fun h' hv hs => ?_
  have t : TK s.heap h' := fun a arr ⟨o, e1, cc, n, d⟩ => ⟨o, hs.extBut _ _ (by rintro rfl; rw [hoc] at e1; cases e1; rw [hdc] at d; cases d) e1, cc, n, d⟩
  have k : ∀ b o, b ≠ c → s.heap.get? b = some o → h'.get? b = some o := fun b o hb e1 => hs.extBut _ _ hb e1
  obtain ⟨m, hn, hm⟩ := r.ns
  obtain ⟨oL, _, _, hL, hdL, _⟩ := id hn
  have hLc : env.locals ≠ c := by rintro rfl; rw [hL] at hoc; cases hoc; rw [hdL] at hdc; cases hdc
  refine q _ () (σ.put x v) _ trivial h ⟨r.base, fun b o q => k _ _ (by rintro rfl; rw [hfc] at q; cases q) (r.keep b o q), r.fzL, ⟨m, hn.at' fun o => k _ o hLc, ?_⟩, ?_, ?_, ?_, r.pw, by have := r.rest; rw [this]⟩ t
  · intro y w hy hk
    unfold St.put at hy
    rw [List.lookup_cons] at hy
    split at hy
    · rename_i qq; cases eq_of_beq qq; rw [hx] at hk; cases hk
    · obtain ⟨v', a, b⟩ := hm y w hy hk
      exact ⟨v', a, b.mono t⟩
  · intro y w hy hk
    unfold St.put at hy
    rw [List.lookup_cons] at hy
    split at hy
    · rename_i qq; cases hy; cases eq_of_beq qq; exact ⟨c, u, hc, hv, va.mono t⟩
    · rename_i qq
      obtain ⟨c', v', a, ⟨o, e1, e2⟩, d⟩ := r.cells y w hy hk
      exact ⟨c', v', a, ⟨o, k _ _ (by rintro rfl; cases hinj y c' hc a; simp at qq) e1, e2⟩, d.mono t⟩
  · intro qo y c' hy
    by_cases hcc : c' = c
    · subst hcc; exact ⟨hfc, _, hv⟩
    · obtain ⟨a, ov, o, e1, e2⟩ := r.cown qo y c' hy
      exact ⟨a, ov, o, k _ _ hcc e1, e2⟩
  · intro en hen
    obtain ⟨a, b⟩ := r.hp en hen
    obtain ⟨o, ho, _, n2, _⟩ := a.get
    exact ⟨a.mono t fun o => k _ o (by rintro qq; rw [qq, hoc] at ho; cases ho; exact n2 _ hdc), b⟩

/-- a store, as an assignment to a name -/
abbrev XStore (G : Gl) (env : Env) (A : Around) (σ : St) (x : Str) (v : MV) (Φ : St → Prop) : Prop := XV1 G env A RU σ v (storeName env x) fun _ σ' => Φ σ'
theorem XS_Assign {x p' value pos} {Φ : MF → St → Prop} (h : XE G env A σ value fun v σ₁ => XStore G env A σ₁ x v fun σ₂ => Φ .next σ₂) (hs : swapsWith value (some (.Name x p')) pos.line env = pure false) :
    XS G env A σ (.Assign [.Name x p'] value pos) Φ := .mk fun fz z s Q E r q =>
  wpAny_Assign_Name (h.run fz z s _ _ r fun _ _ _ _ va h₁ r₁ t₁ => XV1.at h₁ va r₁ t₁ fun _ _ _ _ _ h₂ r₂ t₂ => q _ .next _ _ rfl h₂ r₂ t₂) hs
abbrev XN (G : Gl) (env : Env) (A : Around) (σ : St) (x : Str) (Φ : MV → St → Prop) : Prop := XT G env A VA σ (loadName env x) Φ
theorem XN_local (e : EnvOk env) {x : Str} {v : MV} {Φ : MV → St → Prop} (hv : σ.loc.lookup x = some v) (h : Φ v σ) (hx : env.kindOf x = some .local) : XN G env A σ x Φ := .mk fun _ _ s _ _ r q => by
  obtain ⟨m, hn, hm⟩ := r.ns
  obtain ⟨v', h1, h2⟩ := hm x v hv hx
  exact wpAny_loadName_local e.kind hx hn h1 (q _ _ _ _ h2 h r (TK.refl _))
theorem XN_cell (e : EnvOk env) {x : Str} {v : MV} {Φ : MV → St → Prop} (hv : σ.loc.lookup x = some v) (h : Φ v σ) (hx : env.kindOf x = some .cell) : XN G env A σ x Φ := .mk fun _ _ s _ _ r q => by
  obtain ⟨c, v', h1, h2, h3⟩ := r.cells x v hv (.inl hx)
  exact wpAny_loadName_cell e.kind hx h1 h2 (q _ _ _ _ h3 h r (TK.refl _))
theorem XS_AugName {x p' op value pos} {Φ : MF → St → Prop} (h : XN G env A σ x fun o σ₁ => XE G env A σ₁ value fun v σ₂ => XV2 G env A VA σ₂ o v (inplaceOp op) fun n σ₃ => XStore G env A σ₃ x n fun σ₄ => Φ .next σ₄) :
    XS G env A σ (.AugAssign (.Name x p') op value pos) Φ := .mk fun fz z s Q E r q =>
  wpAny_AugAssign_Name (h.run fz z s _ _ r fun _ _ _ _ va h₁ r₁ t₁ => h₁.run _ _ _ _ _ r₁ fun _ _ _ _ vb h₂ r₂ t₂ => XV2.at h₂ (va.mono t₂) vb r₂ (t₁.trans t₂)
    fun _ _ _ _ vc h₃ r₃ t₃ => XV1.at h₃ vc r₃ t₃ fun _ _ _ _ _ h₄ r₄ t₄ => q _ .next _ _ rfl h₄ r₄ t₄)
end
end Mine
end PartB1

section PartB2
open PySem PySem.Calls PySem.W PyProof.Rows
set_option maxRecDepth 100000
set_option linter.unusedVariables false
namespace Mine

section
variable {M : Model} {A : Around} {E : Value → Shared → Prop} {s : Shared}
theorem evalArgs_pos {f : Value} {args : List (Bool × Sem Value)} {Q : Args → Shared → Prop} (hp : args.any (·.1) = false)
    (h : wpAny M A (spliced args) (fun vs s' => Q ⟨vs, []⟩ s') E s) : wpAny M A (evalArgs f true args []) Q E s := by
  cases args with
  | nil =>
    unfold evalArgs
    show wpAny M A (spliced [] >>= _) Q E s
    refine wpAny_bind (wpAny_mono h (fun vs s' h' => ?_) fun _ _ x => x)
    refine wpAny_holding ?_
    exact wpAny_bind (wpAny_pure (wpAny_bind (wpAny_pure (wpAny_pure h'))))
  | cons a rest =>
    obtain ⟨b, x⟩ := a
    cases b with
    | true => simp at hp
    | false => exact evalArgs_plain h
theorem evalArgs_posKw {f : Value} {args : List (Bool × Sem Value)} {keywords : List (Option Str × Sem Value)} {Q : Args → Shared → Prop} (hp : args.any (·.1) = false) (hall : keywords.all (·.1.isSome) = true)
    (h : wpAny M A (spliced args) (fun vs s₁ => wpAny M A (evalAll (keywords.map (·.2))) (fun ks s₂ => Q ⟨vs, (keywords.filterMap (·.1)).zip ks⟩ s₂) E s₁) E s) : wpAny M A (evalArgs f true args keywords) Q E s := by
  cases args with
  | nil =>
    unfold evalArgs
    show wpAny M A (spliced [] >>= _) Q E s
    refine wpAny_bind (wpAny_mono h (fun vs s' h' => ?_) fun _ _ x => x)
    refine wpAny_holding ?_
    simp only [hall, if_true]
    refine wpAny_bind (wpAny_mono h' (fun ks s₂ h₂ => ?_) fun _ _ x => x)
    exact wpAny_bind (wpAny_pure (wpAny_pure h₂))
  | cons a rest =>
    obtain ⟨b, x⟩ := a
    cases b with
    | true => simp at hp
    | false => exact evalArgs_kw hall h
theorem callWith_raw {pos : Pos} {f : Value} {first : List Value} {args : List (Bool × Sem Value)} {Q : Value → Shared → Prop} (hf : ∀ a, f ≠ .ref a) (hp : args.any (·.1) = false)
    (h : wpAny M A (spliced args) (fun vs s₁ => wpAny M A (call f (first ++ vs) []) Q E s₁) E s) : wpAny M A (callWith pos f first args []) Q E s := by
  unfold callWith
  refine wpAny_bind (wpAny_holding (evalArgs_pos hp (wpAny_mono h (fun a s₁ h₁ => wpAny_bind (wpAny_standAt ?_)) fun _ _ x => x)))
  have hk : keeperOf f = pure .machine := by cases f <;> first | rfl | exact absurd rfl (hf _)
  rw [hk]
  simp only [hp, List.any_nil, Bool.or_false]
  refine wpAny_bind (wpAny_pure ?_)
  exact wpAny_bind (wpAny_mono h₁ (fun r s₂ hr => wpAny_bind (wpAny_holding (wpAny_point (wpAny_pure hr)))) fun _ _ x => x)
end

section
variable {G : Gl} {env : Env} {A : Around} {σ σ' : St}

/-- a call -/
abbrev XC (G : Gl) (env : Env) (A : Around) (σ : St) (f : Value) (ms : List MV) (Φ : MV → St → Prop) : Prop := XVs G env A VA σ ms (fun vs => call f vs []) Φ
/-- a call with one keyword -/
structure XCk (G : Gl) (env : Env) (A : Around) (σ : St) (f : Value) (ms : List MV) (n : Str) (k : MV) (Φ : MV → St → Prop) : Prop where
  run : ∀ (fz : Fz) (z s : Shared) (Q : Value → Shared → Prop) (E : Value → Shared → Prop) (vs : List Value) (kv : Value), VAs s.heap ms vs → VA s.heap k kv → Rel G.h₁ env fz z σ s →
    (∀ x b σ' s', VA s'.heap b x → Φ b σ' → Rel G.h₁ env fz z σ' s' → TK s.heap s'.heap → Q x s') → wpAny (model G.prog G.w) A (call f vs [(n, kv)]) Q E s

theorem XE_CallRaw {id p args pos} {Φ : MV → St → Prop} (h : XE G env A σ (.Name id p) fun m σ₁ => ∃ v, m = .raw v ∧ (∀ a, v ≠ .ref a) ∧ XA G env A pos σ₁ args fun ms σ₂ => XC G env A σ₂ v ms Φ)
    (hp : (backTo pos (starEach args env)).any (·.1) = false) : XE G env A σ (.Call (.Name id p) args [] pos) Φ := .mk fun fz z s Q E r q =>
  wpAny_Call_NameR (h.run fz z s _ _ r fun _ _ _ _ va h₁ r₁ t₁ => by
    obtain ⟨v, rfl, hv, h₁⟩ := h₁
    cases (va : _ = v)
    exact callWith_raw hv hp (h₁.run _ _ _ _ _ r₁ fun _ _ _ _ vb h₂ r₂ t₂ => XVs.at h₂ vb r₂ (t₁.trans t₂) q))
theorem XE_CallFn {id p args pos} {Φ : MV → St → Prop} (g : G.Ok) (h : XE G env A σ (.Name id p) fun m σ₁ => ∃ f oc od fd osl, m = .ref f ∧ G.K.lookup f = some ⟨oc, od, .func fd, osl⟩ ∧ XA G env A pos σ₁ args fun ms σ₂ => XC G env A σ₂ (.ref f) ms Φ)
    (hp : (backTo pos (starEach args env)).any (·.1) = false) : XE G env A σ (.Call (.Name id p) args [] pos) Φ := .mk fun fz z s Q E r q =>
  wpAny_Call_NameR (h.run fz z s _ _ r fun _ _ _ _ va h₁ r₁ t₁ => by
    obtain ⟨f, oc, od, fd, osl, rfl, hK, h₁⟩ := h₁
    cases (va : _ = Value.ref f)
    exact callWith_function (evalArgs_pos hp (h₁.run _ _ _ _ _ r₁ fun _ _ _ _ vb h₂ r₂ t₂ => ⟨⟨r₂.old _ _ (g.X _ _ hK), rfl⟩, XVs.at h₂ vb r₂ (t₁.trans t₂) q⟩)))

/-- the type of a value -/
def MTy (G : Gl) (env : Env) (σ : St) (m : MV) (T : String) : Prop := ∀ fz z s v, VA s.heap m v → Rel G.h₁ env fz z σ s → s.TypeIs v T ∧ ∀ a, v = .ref a → ∃ ob, s.heap.get? a = some ob ∧ ob.dict = none
theorem MTy.str {x : Str} : MTy G env σ (.str x) "str" := fun _ _ _ v va _ => by obtain ⟨t, rfl⟩ := va; exact ⟨rfl, fun _ e => nomatch e⟩
theorem MTy.bytes {x : Array UInt8} : MTy G env σ (.bytes x) "bytes" := fun _ _ _ v va _ => by obtain ⟨t, rfl⟩ := va; exact ⟨rfl, fun _ e => nomatch e⟩
theorem MTy.list {a : Addr} {b : Bool} {vs : List MV} (h : ⟨a, b, .list vs⟩ ∈ σ.hp) : MTy G env σ (.ref a) "list" := fun _ _ _ v va r => by
  cases (va : v = _)
  obtain ⟨arr, ⟨n, e⟩, _⟩ := (r.hp _ h).1
  exact ⟨⟨_, e, rfl⟩, fun _ q => by cases q; exact ⟨_, e, rfl⟩⟩
theorem MTy.dict0 {a : Addr} {b : Bool} (h : ⟨a, b, .dict0⟩ ∈ σ.hp) : MTy G env σ (.ref a) "dict" := fun _ _ _ v va r => by
  cases (va : v = _)
  have e := (r.hp _ h).1
  exact ⟨⟨_, e, rfl⟩, fun _ q => by cases q; exact ⟨_, e, rfl⟩⟩
theorem XE_Meth {o : Expr} {name : Str} {apos pos : Pos} {args : List Expr} {Φ : MV → St → Prop}
    (h : XE G env A σ o fun m σ₁ => ∃ T id, MTy G env σ₁ m T ∧ PlainAttrs T ∧ PySem.Slot T name id ∧ typeOf (.builtin id) = pure (.type "method_descriptor") ∧ XA G env A pos σ₁ args fun ms σ₂ => XC G env A σ₂ (.builtin id) (m :: ms) Φ)
    (hbase : attributeBase o name env (eval o env) = eval o env)
    (hp : (backTo pos (starEach args env)).any (·.1) = false)
    (hfew : ((backTo pos (starEach args env)).all (fun x => !x.1) && (backToKw pos (keywordEach [] env)).all (fun x => x.1.isSome)
      && decide (args.length + ([] : List Keyword).length + (if ([] : List Keyword).isEmpty then 0 else 1) < 30)) = true)
    (hline : (apos.endLine == pos.line) = true) : XE G env A σ (.Call (.Attribute o name apos) args [] pos) Φ := .mk fun fz z s Q E r q =>
  wpAny_Call_method_late hbase hfew hline rfl (h.run fz z s _ _ r fun _ _ _ _ va h₁ r₁ t₁ => by
    obtain ⟨T, id, ht, pa, sl, hty, h₁⟩ := h₁
    obtain ⟨hT, hd⟩ := ht _ _ _ _ va r₁
    exact ⟨T, id, pa, sl, hty, hT, hd, callWith_raw (fun _ e => nomatch e) hp (h₁.run _ _ _ _ _ r₁ fun _ _ _ _ vb h₂ r₂ t₂ => XVs.at h₂ (VAs.cons (va.mono t₂) vb) r₂ (t₁.trans t₂) q)⟩)

/-- an instance with its one attribute -/
structure IsH (σ : St) (C x l : Addr) : Prop where
  d : ∃ b b' d, ⟨x, b, .inst C d⟩ ∈ σ.hp ∧ ⟨d, b', .attrs l⟩ ∈ σ.hp
theorem IsH.inst (h : IsH σ C x l) {fz : Fz} {z s : Shared} (r : Rel G.h₁ env fz z σ s) : ∃ d hs t, PySem.W.InstAt s.heap x (instObj C d) C (some (dictOf [⟨hs, .str "_headers" t, .ref l⟩] 1)) := by
  obtain ⟨b, b', d, m1, m2⟩ := h.d
  have o1 := (r.hp _ m1).1
  obtain ⟨hs, t, o2⟩ := (r.hp _ m2).1
  exact ⟨d, hs, t, o1, rfl, rfl, o2⟩
theorem InstAt.empty {s : Shared} {x C d : Addr} (o1 : s.heap.get? x = some (instObj C d)) (o2 : s.heap.get? d = some (dictOf [] 0)) : PySem.W.InstAt s.heap x (instObj C d) C (some (dictOf [] 0)) :=
  ⟨o1, rfl, rfl, o2⟩

/-- what the written part says of a class and a name -/
structure ClsK (K : Frag) (C : Addr) : Prop where
  pg : plainGet K C "" = true
  hd : hasDictIn K C = true

theorem plainGet_any {K : Frag} {C : Addr} (h : plainGet K C "" = true) (n : Str) : plainGet K C n = true := h

theorem XE_Attr {x : Str} {xp pos : Pos} {Φ : MV → St → Prop} {C : Addr} (g : G.Ok) (k : ClsK G.K C) (hn : findIn G.K (.ref C) "_headers" = some none)
    (h : XE G env A σ (.Name x xp) fun m σ₁ => ∃ a l, m = .ref a ∧ IsH σ₁ C a l ∧ Φ (.ref l) σ₁) : XE G env A σ (.Attribute (.Name x xp) "_headers" pos) Φ := .mk fun fz z s Q E r q =>
  Attribute_name (h.run fz z s _ _ r fun v m σ₁ s₁ va h₁ r₁ t₁ => by
    obtain ⟨a, l, rfl, ih, hΦ⟩ := h₁
    cases (va : v = _)
    obtain ⟨d, hs, t, I⟩ := ih.inst r₁
    refine get_value (g.X.keeps r₁.old) I (plainGet_of k.pg).1 (findObj_own k.hd hn rfl (v := .ref l) ?_) rfl (q _ (.ref l) σ₁ _ rfl hΦ r₁.toks t₁)
    kernel_rfl)

/-- a method of an instance -/
theorem XE_MethH {o : Expr} {name : Str} {apos pos : Pos} {args : List Expr} {Φ : MV → St → Prop} {C f : Addr} {oc : Value} {od : Option Addr} {fd : FuncData} {osl : Array (Option Value)} (g : G.Ok) (k : ClsK G.K C)
    (hf : findIn G.K (.ref C) name = some (some (.ref f))) (hK : G.K.lookup f = some ⟨oc, od, .func fd, osl⟩) (hoc : oc = .type "function") (hne : (("_headers" : Str) == name) = false)
    (h : XE G env A σ o fun m σ₁ => ∃ a l, m = .ref a ∧ IsH σ₁ C a l ∧ XA G env A pos σ₁ args fun ms σ₂ => XC G env A σ₂ (.ref f) (m :: ms) Φ)
    (hbase : attributeBase o name env (eval o env) = eval o env)
    (hp : (backTo pos (starEach args env)).any (·.1) = false)
    (hfew : methodCallForm (args.length + 0) (backTo pos (starEach args env)) (backToKw pos (keywordEach [] env)) = true)
    (hline : (apos.endLine == pos.line) = true) : XE G env A σ (.Call (.Attribute o name apos) args [] pos) Φ := .mk fun fz z s Q E r q => by
  show wpAny _ _ (eval _ _) _ _ _
  rw [arm_eval_Call, hbase]
  refine wpAny_bind (h.run fz z s _ _ r fun v m σ₁ s₁ va h₁ r₁ t₁ => ?_)
  obtain ⟨a, l, rfl, ih, h₁⟩ := h₁
  cases (va : v = _)
  obtain ⟨d, hs, t, I⟩ := ih.inst r₁
  refine wpAny_bind (wpAny_standAt ?_)
  have hpos : methodCallPos true o env apos pos = pure pos := by unfold methodCallPos; simp [hline]
  unfold methodCall
  rw [show args.length + ([] : List Keyword).length = args.length + 0 from rfl, hfew]
  refine wpAny_bind (wpAny_holding ?_)
  refine method_fn (g.X.keeps r₁.old) I (plainGet_of k.pg).1 (plainGet_of k.pg).2 hf (by show (G.K.lookup f).map (·.cls) = _; rw [hK, hoc]; rfl) ?_ ?_
  · show (lookIn name (dictOf _ 1)).map _ = _
    unfold lookIn
    simp [Value.isStr, hne, DictEntry.refKey]
  · refine wpAny_bind (wpAny_of_eq hpos ?_)
    exact callWith_function (evalArgs_pos hp (h₁.run _ _ _ _ _ r₁ fun _ _ _ _ vb h₂ r₂ t₂ => ⟨⟨r₂.old _ _ (g.X _ _ hK), rfl⟩, XVs.at h₂ (VAs.cons rfl vb) r₂ (t₁.trans t₂) q⟩))

theorem XE_MethHkw {o e kv : Expr} {name n : Str} {apos pos kp : Pos} {Φ : MV → St → Prop} {C f : Addr} {oc : Value} {od : Option Addr} {fd : FuncData} {osl : Array (Option Value)} (g : G.Ok) (k : ClsK G.K C)
    (hf : findIn G.K (.ref C) name = some (some (.ref f))) (hK : G.K.lookup f = some ⟨oc, od, .func fd, osl⟩) (hoc : oc = .type "function") (hne : (("_headers" : Str) == name) = false)
    (h : XE G env A σ o fun m σ₁ => ∃ a l, m = .ref a ∧ IsH σ₁ C a l ∧ XE G env A σ₁ e fun v σ₂ => XE G env A σ₂ kv fun u σ₃ => XCk G env A σ₃ (.ref f) [m, v] n u Φ)
    (hbase : attributeBase o name env (eval o env) = eval o env)
    (he : backTo pos (starEach [e] env) = [(false, eval e env)])
    (hline : (apos.endLine == pos.line) = true) : XE G env A σ (.Call (.Attribute o name apos) [e] [⟨some n, kv, kp⟩] pos) Φ := .mk fun fz z s Q E r q => by
  show wpAny _ _ (eval _ _) _ _ _
  rw [arm_eval_Call, hbase]
  refine wpAny_bind (h.run fz z s _ _ r fun v m σ₁ s₁ va h₁ r₁ t₁ => ?_)
  obtain ⟨a, l, rfl, ih, h₁⟩ := h₁
  cases (va : v = _)
  obtain ⟨d, hs, t, I⟩ := ih.inst r₁
  refine wpAny_bind (wpAny_standAt ?_)
  have hpos : methodCallPos true o env apos pos = pure pos := by unfold methodCallPos; simp [hline]
  unfold methodCall
  rw [he, show methodCallForm ([e].length + ([⟨some n, kv, kp⟩] : List Keyword).length) [(false, eval e env)] (backToKw pos (keywordEach [⟨some n, kv, kp⟩] env)) = true from rfl]
  refine wpAny_bind (wpAny_holding ?_)
  refine method_fn (g.X.keeps r₁.old) I (plainGet_of k.pg).1 (plainGet_of k.pg).2 hf (by show (G.K.lookup f).map (·.cls) = _; rw [hK, hoc]; rfl) ?_ ?_
  · show (lookIn name (dictOf _ 1)).map _ = _
    unfold lookIn
    simp [Value.isStr, hne, DictEntry.refKey]
  · refine wpAny_bind (wpAny_of_eq hpos ?_)
    refine callWith_function_kw (o := ⟨oc, od, .func fd, osl⟩) (fd := fd) (evalArgs_posKw rfl rfl (spliced_cons (h₁.run _ _ _ _ _ r₁ fun v₂ m₂ σ₂ s₂ vb h₂ r₂ t₂ => spliced_nil ?_)))
    show wpAny _ _ (evalAll [(do let v ← eval kv env; standAt pos; pure v)]) _ _ _
    refine wpAny_evalAll_cons (wpAny_bind (h₂.run _ _ _ _ _ r₂ fun v₃ m₃ σ₃ s₃ vc h₃ r₃ t₃ => wpAny_bind (wpAny_standAt (wpAny_pure (wpAny_evalAll_nil ?_)))))
    exact ⟨⟨r₃.old _ _ (g.X _ _ hK), rfl⟩, h₃.run fz z s₃ Q E [.ref a, v₂] v₃ (VAs.cons rfl (VAs.cons (vb.mono t₃) VAs.nil)) vc r₃ fun x b σ' s' x1 x2 x3 x4 => q x b σ' s' x1 x2 x3 (t₁.trans (t₂.trans (t₃.trans x4)))⟩

/-! subscripts -/
/-- reading an item -/
theorem XE_Subscript {value slice : Expr} {pos : Pos} {Φ : MV → St → Prop} (h : XE G env A σ value fun o σ₁ => XE G env A σ₁ slice fun i σ₂ => XV2 G env A VA σ₂ o i (subscriptTail value slice) Φ) :
    XE G env A σ (.Subscript value slice pos) Φ := .mk fun fz z s Q E r q =>
  Subscript_ (h.run fz z s _ _ r fun _ _ _ _ va h₁ r₁ t₁ => h₁.run _ _ _ _ _ r₁ fun _ _ _ _ vb h₂ r₂ t₂ => XV2.at h₂ (va.mono t₂) vb r₂ (t₁.trans t₂) q)
theorem XV_item_list {value slice : Expr} {a : Addr} {b : Bool} {vs : List MV} {k : Int} {m : MV} {Φ : MV → St → Prop} (hm : ⟨a, b, .list vs⟩ ∈ σ.hp) (h0 : 0 ≤ k) (hfit : k < 2 ^ 63) (hx : vs[k.toNat]? = some m) (h : Φ m σ)
    (hs : ∀ u, subscripted slice false (.ref a) (.int k u) = operate [.ref a, .int k u] (getItem (.ref a) (.int k u))) : XV2 G env A VA σ (.ref a) (.int k) (subscriptTail value slice) Φ := .mk fun fz z s Q E v u va vb r q => by
  cases (va : v = _)
  obtain ⟨tk, rfl⟩ := vb
  obtain ⟨arr, ⟨n, e⟩, y⟩ := (r.hp _ hm).1
  obtain ⟨w, e1, e2⟩ := y.get hx
  have hl : s.heap.IsList a arr := ⟨_, e, rfl, n, rfl⟩
  exact tail_any hl.typeIs slot_list_getitem.lookup (wpAny_getItem_list hl h0 hfit (by rw [← Array.getElem?_toList]; exact e1) (q _ _ _ _ e2 h r (TK.refl _))) (hs tk)
theorem XV_item_tup {value slice : Expr} {vs : List MV} {k : Int} {m : MV} {Φ : MV → St → Prop} (h0 : 0 ≤ k) (hfit : k < 2 ^ 63) (hx : vs[k.toNat]? = some m) (h : Φ m σ)
    (hs : ∀ a u, subscripted slice false (.ref a) (.int k u) = operate [.ref a, .int k u] (getItem (.ref a) (.int k u))) : XV2 G env A VA σ (.tup vs) (.int k) (subscriptTail value slice) Φ := .mk fun fz z s Q E v u va vb r q => by
  obtain ⟨a, arr, rfl, ht, y⟩ := va
  obtain ⟨tk, rfl⟩ := vb
  obtain ⟨w, e1, e2⟩ := y.get hx
  have hk : k.toNat < arr.size := by
    have h1 : k.toNat < arr.toList.length := (List.getElem?_eq_some_iff.mp e1).1
    simpa using h1
  exact tail_any (T := "tuple") (let ⟨o, e, c, _⟩ := ht; ⟨o, e, c⟩) slot_tuple_getitem.lookup
    (PyProof.Rows.getItem_tuple ht (by omega) hfit (j := k.toNat) (by unfold seqIndex?; simp; omega) (by rw [← Array.getElem?_toList]; exact e1) (q _ _ _ _ e2 h r (TK.refl _))) (hs a tk)

/-! displays -/
theorem XE_Tuple {elts : List Expr} {k : Nat} {pos : Pos} {Φ : MV → St → Prop} (h : XA G env A pos σ elts fun ms σ₁ => ms.length ≤ sizeLine ∧ Φ (.tup ms) σ₁) : XE G env A σ (.Tuple elts k pos) Φ := .mk fun fz z s Q E r q =>
  wpAny_Tuple (h.run fz z s _ _ r fun vs ms σ₁ s₁ va h₁ r₁ t₁ => by
    have kp : ∀ b o, s₁.heap.get? b = some o → (s₁.heap.push { cls := .type "tuple", data := .seq vs.toArray }).get? b = some o := fun b o e => Heap.get?_push_of_some _ e
    refine ⟨by rw [va.length]; exact h₁.1, q _ (.tup ms) σ₁ _ ⟨s₁.heap.objs.size, vs.toArray, rfl, ⟨_, Heap.get?_push_size _ rfl, rfl, _, rfl⟩, ?_⟩ h₁.2 (r₁.keepAll' kp) (t₁.trans (TK.of_keep kp))⟩
    simpa using va.mono (TK.of_keep kp))
theorem XE_List {elts : List Expr} {pos : Pos} {Φ : MV → St → Prop} (h : XA G env A pos σ elts fun ms σ₁ => ms.length ≤ sizeLine ∧ ∀ a, Φ (.ref a) { σ₁ with hp := ⟨a, true, .list ms⟩ :: σ₁.hp }) : XE G env A σ (.List elts pos) Φ := .mk fun fz z s Q E r q =>
  wpAny_List (h.run fz z s _ _ r fun vs ms σ₁ s₁ va h₁ r₁ t₁ => by
    have kp : ∀ b o, s₁.heap.get? b = some o → (s₁.heap.push { cls := .type "list", data := .seq vs.toArray }).get? b = some o := fun b o e => Heap.get?_push_of_some _ e
    refine ⟨by rw [va.length]; exact h₁.1, q _ (.ref s₁.heap.objs.size) _ _ rfl (h₁.2 _) (r₁.alloc kp ?_ ?_) (t₁.trans (TK.of_keep kp))⟩
    · cases e : s₁.heap.get? s₁.heap.objs.size with
      | none => rfl
      | some o => exact absurd (Heap.lt_size e) (Nat.lt_irrefl _)
    · refine ⟨vs.toArray, ⟨0, Heap.get?_push_size _ rfl⟩, ?_⟩
      simpa using va.mono (TK.of_keep kp))
end
end Mine
end PartB2

section PartB3
open PySem PySem.Calls PySem.W PyProof.Rows
set_option maxRecDepth 100000
set_option linter.unusedVariables false
namespace Mine

/-- an iterator over what ms tells; Inv is what it asks of the rest of the heap at each step -/
structure Iter (G : Gl) (A : Around) (I : Addr) (wr : List Addr) (ms : List MV) (Inv : Heap → Prop) (St : Nat → Heap → Prop) : Prop where
  frame : ∀ i h h', St i h → (∀ b ∈ wr, ∀ o, h.get? b = some o → h'.get? b = some o) → St i h'
  fld : ∀ i h b, St i h → b ∈ wr → ∃ o vs, h.get? b = some o ∧ o.data = .fields vs
  item : ∀ i m (s : Shared) (Q : Option Value → Shared → Prop) (E : Value → Shared → Prop), ms[i]? = some m → St i s.heap → Inv s.heap →
    (∀ v h' tk, VA h' m v → (∀ t (s₁ : Shared) (Q₁ : Unit → Shared → Prop) (E₁ : Value → Shared → Prop), (∀ b ∈ wr, ∀ o, h'.get? b = some o → s₁.heap.get? b = some o) →
        (∀ h₂, St (i + 1) h₂ → (∀ b o, b ∉ wr → s₁.heap.get? b = some o → h₂.get? b = some o) → Q₁ () { s₁ with heap := h₂ }) → wpAny (model G.prog G.w) A (letOwnedTupleGo t (.ref I) v) Q₁ E₁ s₁) →
      (∀ b ∈ wr, ∃ o vs, h'.get? b = some o ∧ o.data = .fields vs) →
      (∀ b o, b ∉ wr → s.heap.get? b = some o → h'.get? b = some o) → Q (some v) { s with heap := h', toks := tk }) → wpAny (model G.prog G.w) A (pyNext (.ref I)) Q E s
  done : ∀ (s : Shared) (Q : Option Value → Shared → Prop) (E : Value → Shared → Prop), St ms.length s.heap → Inv s.heap →
    (∀ h' tk, (∀ b o, b ∉ wr → s.heap.get? b = some o → h'.get? b = some o) → Q none { s with heap := h', toks := tk }) → wpAny (model G.prog G.w) A (pyNext (.ref I)) Q E s
  self : ∀ i (s : Shared) (Q : Value → Shared → Prop) (E : Value → Shared → Prop), St i s.heap → Q (.ref I) s → wpAny (model G.prog G.w) A (pyIter (.ref I)) Q E s

/-- what is frozen, and the iterators too -/
def fzw (fz : Fz) (wr : List Addr) (h : Heap) : Fz := fun b => if b ∈ wr then h.get? b else fz b
def Flds (wr : List Addr) (h : Heap) : Prop := ∀ b ∈ wr, ∃ o vs, h.get? b = some o ∧ o.data = .fields vs

section
variable {h₁ : Heap} {env : Env} {fz : Fz} {z : Shared} {σ σ' : St} {s s' : Shared}
theorem Rel.offL (r : Rel h₁ env fz z σ s) {wr : List Addr} (f : Flds wr s.heap) : env.locals ∉ wr := fun hm => by
  obtain ⟨o, vs, e, d⟩ := f _ hm
  obtain ⟨m, ⟨o', es, ep, e', d', _⟩, _⟩ := r.ns
  rw [e] at e'; cases e'; rw [d] at d'; cases d'
theorem Rel.offE (r : Rel h₁ env fz z σ s) {wr : List Addr} (f : Flds wr s.heap) {e : Ent} (he : e ∈ σ.hp) : e.a ∉ wr := fun hm => by
  obtain ⟨o, vs, e1, d⟩ := f _ hm
  obtain ⟨o', e2, _, _, n⟩ := (r.hp e he).1.get
  rw [e1] at e2; cases e2; exact n _ d
/-- freezing the iterators -/
theorem Rel.fzIn (r : Rel h₁ env fz z σ s) {wr : List Addr} (f : Flds wr s.heap) (hf : ∀ b ∈ wr, fz b = none) : Rel h₁ env (fzw fz wr s.heap) z σ s := by
  refine ⟨fun b o e => ?_, fun b o e => ?_, ?_, r.ns, r.cells, fun q x c hx => ?_, fun e he => ?_, r.pw, r.rest⟩
  · unfold fzw
    rw [if_neg (fun hm => by have := hf b hm; rw [r.base b o e] at this; cases this)]
    exact r.base b o e
  · unfold fzw at e
    split at e
    · exact e
    · exact r.keep b o e
  · unfold fzw; rw [if_neg (r.offL f)]; exact r.fzL
  · obtain ⟨a, ov, o, e1, e2⟩ := r.cown q x c hx
    refine ⟨?_, ov, o, e1, e2⟩
    unfold fzw
    rw [if_neg (fun hm => by obtain ⟨o', vs, e3, d⟩ := f _ hm; rw [e1] at e3; cases e3; rw [e2] at d; cases d)]
    exact a
  · obtain ⟨a, b, c⟩ := r.hp e he
    unfold fzw
    rw [if_neg (r.offE f he)]
    exact ⟨a, b, c⟩
/-- thawing them -/
theorem Rel.fzOut (r : Rel h₁ env (fzw fz wr h) z σ s) (hb : ∀ b o, h₁.get? b = some o → fz b = some o) (hf : ∀ b ∈ wr, fz b = none) (f : Flds wr s.heap) (fh : Flds wr h) : Rel h₁ env fz z σ s := by
  have key : ∀ b, b ∉ wr → fzw fz wr h b = fz b := fun b hm => by unfold fzw; rw [if_neg hm]
  refine ⟨hb, fun b o e => ?_, ?_, r.ns, r.cells, fun q x c hx => ?_, fun e he => ?_, r.pw, r.rest⟩
  · refine r.keep b o ?_
    rw [key b fun hm => by rw [hf b hm] at e; cases e]; exact e
  · rw [← key _ (r.offL f)]; exact r.fzL
  · obtain ⟨a, ov, o, e1, e2⟩ := r.cown q x c hx
    refine ⟨?_, ov, o, e1, e2⟩
    rw [← key c fun hm => by obtain ⟨o', vs, e3, d⟩ := f _ hm; rw [e1] at e3; cases e3; rw [e2] at d; cases d]
    exact a
  · have := r.hp e he
    rw [key _ (r.offE f he)] at this
    exact this
/-- the iterators moved -/
theorem Rel.moved (r : Rel h₁ env fz z σ s) (hf : ∀ b ∈ wr, fz b = none) {h' : Heap} {tk : Nat} (f : Flds wr s.heap) (k : ∀ b o, b ∉ wr → s.heap.get? b = some o → h'.get? b = some o) :
    Rel h₁ env fz z σ { s with heap := h', toks := tk } ∧ TK s.heap h' := by
  have t : TK s.heap h' := fun a arr ⟨o, e, c, n, d⟩ => ⟨o, k _ _ (fun hm => by obtain ⟨o', vs, e3, d'⟩ := f _ hm; rw [e] at e3; cases e3; rw [d] at d'; cases d') e, c, n, d⟩
  refine ⟨⟨r.base, fun b o e => k _ _ (fun hm => by rw [hf b hm] at e; cases e) (r.keep b o e), r.fzL, ?_, ?_, fun q x c hx => ?_, fun e he => ?_, r.pw, by have := r.rest; rw [this]⟩, t⟩
  · obtain ⟨m, hn, hm⟩ := r.ns
    exact ⟨m, hn.at' fun o => k _ o (r.offL f), fun x v q q' => let ⟨v', a, b⟩ := hm x v q q'; ⟨v', a, b.mono t⟩⟩
  · intro x v q q'
    obtain ⟨c, v', a, ⟨o, e, e'⟩, d⟩ := r.cells x v q q'
    exact ⟨c, v', a, ⟨o, k _ _ (fun hm => by obtain ⟨o', vs, e3, d'⟩ := f _ hm; rw [e] at e3; cases e3; rw [e'] at d'; cases d') e, e'⟩, d.mono t⟩
  · obtain ⟨a, ov, o, e1, e2⟩ := r.cown q x c hx
    exact ⟨a, ov, o, k _ _ (fun hm => by obtain ⟨o', vs, e3, d'⟩ := f _ hm; rw [e1] at e3; cases e3; rw [e2] at d'; cases d') e1, e2⟩
  · obtain ⟨a, b⟩ := r.hp e he
    exact ⟨a.mono t fun o => k _ o (r.offE f he), b⟩
theorem fzw_flds (r : Rel h₁ env (fzw fz wr h) z σ s) (fh : Flds wr h) : Flds wr s.heap ∧ ∀ b ∈ wr, ∀ o, h.get? b = some o → s.heap.get? b = some o := by
  have k : ∀ b ∈ wr, ∀ o, h.get? b = some o → s.heap.get? b = some o := fun b hm o e => r.keep b o (by unfold fzw; rw [if_pos hm]; exact e)
  exact ⟨fun b hm => let ⟨o, vs, e, d⟩ := fh b hm; ⟨o, vs, k b hm o e, d⟩, k⟩
end

section
variable {G : Gl} {env : Env} {A : Around} {σ σ' : St}

/-- an iterable: evaluated, then its iterator made -/
structure XSrc (G : Gl) (env : Env) (A : Around) (σ : St) (iter : Expr) (Ψ : List MV → (Heap → Prop) → St → Prop) : Prop where
  run : ∀ (fz : Fz) (z s : Shared) (Q : Value → Shared → Prop) (E : Value → Shared → Prop), Rel G.h₁ env fz z σ s →
    (∀ ms Inv I wr St σ' s', Ψ ms Inv σ' → Iter G A I wr ms (fun h => Inv h ∧ TK s'.heap h) St → St 0 s'.heap → Rel G.h₁ env fz z σ' s' → (∀ b ∈ wr, fz b = none) → TK s.heap s'.heap → Q (.ref I) s') →
    wpAny (model G.prog G.w) A (eval iter env) (fun x s₁ => wpAny (model G.prog G.w) A (pyIter x) Q E s₁) E s
/-- an iterator made of a value -/
structure XIter (G : Gl) (env : Env) (A : Around) (σ : St) (m : MV) (ms : List MV) (Inv : Heap → Prop) : Prop where
  run : ∀ (fz : Fz) (z s : Shared) (Q : Value → Shared → Prop) (E : Value → Shared → Prop) (v : Value), VA s.heap m v → Rel G.h₁ env fz z σ s →
    (∀ I wr St h' tk, Iter G A I wr ms (fun h => Inv h ∧ TK h' h) St → St 0 h' → (∀ b ∈ wr, s.heap.get? b = none) → (∀ b o, s.heap.get? b = some o → h'.get? b = some o) → Q (.ref I) { s with heap := h', toks := tk }) →
    wpAny (model G.prog G.w) A (pyIter v) Q E s
theorem XSrc_of {iter : Expr} {Ψ : List MV → (Heap → Prop) → St → Prop} (h : XE G env A σ iter fun m σ₁ => ∃ ms Inv, XIter G env A σ₁ m ms Inv ∧ Ψ ms Inv σ₁) : XSrc G env A σ iter Ψ := .mk fun fz z s Q E r q =>
  h.run fz z s _ E r fun v m σ₁ s₁ va h₁ r₁ t₁ => by
    obtain ⟨ms, Inv, hi, hΨ⟩ := h₁
    refine hi.run fz z s₁ Q E v va r₁ fun I wr St h' tk it st fr k => q ms Inv I wr St σ₁ _ hΨ it st (r₁.keepAll' k) (fun b hb => (r₁.lt_of (fr b hb)).1) (t₁.trans (TK.of_keep k))

def InvOf (G : Gl) (env : Env) (σ : St) (Inv : Heap → Prop) : Prop := ∀ fz z s, Rel G.h₁ env fz z σ s → Inv s.heap
abbrev XAss (G : Gl) (env : Env) (A : Around) (σ : St) (target : Expr) (m : MV) (Φ : St → Prop) : Prop := XV1 G env A RU σ m (assign target env) fun _ σ' => Φ σ'

theorem XS_For {target iter : Expr} {body : List Stmt} {pos : Pos} {Φ : MF → St → Prop}
    (h : XSrc G env A σ iter fun ms Inv σ₁ => ∃ J : Nat → St → Prop, J 0 σ₁ ∧ (∀ i σ', J i σ' → InvOf G env σ' Inv) ∧
      (∀ i m σ', ms[i]? = some m → J i σ' → XAss G env A σ' target m fun σ'' => XSs G env A σ'' body fun fl σ₃ => match fl with | .next => J (i + 1) σ₃ | .cont => J (i + 1) σ₃ | .brk => Φ .next σ₃ | .ret v => Φ (.ret v) σ₃) ∧
      (∀ σ', J ms.length σ' → Φ .next σ')) (hs : ∀ x, foldedSetIterable iter env x = pure x) : XS G env A σ (.For target iter body [] pos) Φ := .mk fun fz z s Q E r q => by
  refine wpAny_For (h.run fz z s _ E r fun ms Inv I wr St σ₁ s₁ h₁ it st r₁ hf t₁ => ?_) hs
  obtain ⟨J, j0, jInv, turn, done⟩ := h₁
  refine codeAny_forLoop_any (fun k s' => ∃ i σ', k = ms.length + 1 - i ∧ i ≤ ms.length ∧ J i σ' ∧ Rel G.h₁ env fz z σ' s' ∧ St i s'.heap ∧ TK s₁.heap s'.heap) ?_ (ms.length + 1) ⟨0, σ₁, rfl, Nat.zero_le _, j0, r₁, st, TK.refl _⟩
  rintro k s' ⟨i, σ', rfl, hi, j, r', st', t'⟩
  have f' : Flds wr s'.heap := fun b hb => it.fld i _ b st' hb
  by_cases hlt : i < ms.length
  · refine it.item i ms[i] s' _ _ (List.getElem?_eq_getElem hlt) st' ⟨jInv i σ' j fz z s' r', t'⟩ fun v h₂ tk₂ va go f₂ k₂ => ?_
    obtain ⟨r₂, t₂⟩ := r'.moved hf (tk := tk₂) f' k₂
    refine go target { s' with heap := h₂, toks := tk₂ } _ _ (fun _ _ _ e => e) fun h₃ st₃ k₃ => ?_
    obtain ⟨r₃, t₃⟩ := r₂.moved (h' := h₃) (tk := tk₂) hf f₂ k₃
    have f₃ : Flds wr h₃ := fun b hb => it.fld (i + 1) _ b st₃ hb
    have r₄ := r₃.fzIn (wr := wr) f₃ hf
    refine (turn i ms[i] σ' (List.getElem?_eq_getElem hlt) j).run _ z _ _ _ v (va.mono t₃) r₄ fun _ _ σ₅ s₅ _ h₅ r₅ t₅ => ?_
    refine h₅.run _ z _ _ _ r₅ fun fl mfl σ₆ s₆ fa h₆ r₆ t₆ => ?_
    obtain ⟨f₆, k₆⟩ := fzw_flds r₆ f₃
    have r₇ := r₆.fzOut r.base hf f₆ f₃
    have st₆ : St (i + 1) s₆.heap := it.frame _ _ _ st₃ k₆
    have tt : TK s₁.heap s₆.heap := t'.trans (t₂.trans (t₃.trans (t₅.trans t₆)))
    cases mfl with
    | next => cases (fa : fl = _); exact ⟨ms.length + 1 - (i + 1), by omega, i + 1, σ₆, rfl, hlt, h₆, r₇, st₆, tt⟩
    | cont => cases (fa : fl = _); exact ⟨ms.length + 1 - (i + 1), by omega, i + 1, σ₆, rfl, hlt, h₆, r₇, st₆, tt⟩
    | brk => cases (fa : fl = _); exact q _ .next _ _ rfl h₆ r₇ (t₁.trans tt)
    | ret v => obtain ⟨v', rfl, va'⟩ := fa; exact q _ (.ret v) _ _ ⟨_, rfl, va'⟩ h₆ r₇ (t₁.trans tt)
  · have hin : i = ms.length := by omega
    subst hin
    refine it.done s' _ _ st' ⟨jInv _ σ' j fz z s' r', t'⟩ fun h₂ tk₂ k₂ => ?_
    obtain ⟨r₂, t₂⟩ := r'.moved (tk := tk₂) hf f' k₂
    exact wpAny_execs_nil (q _ .next _ _ rfl (done σ' j) r₂ (t₁.trans (t'.trans t₂)))

theorem XS_While {test : Expr} {body : List Stmt} {pos : Pos} {Φ : MF → St → Prop} (J : Nat → St → Prop) (n : Nat) (h0 : J n σ)
    (turn : ∀ n σ', J n σ' → XB G env A σ' test fun b σ₁ => (b = true → XSs G env A σ₁ body fun fl σ₂ => match fl with | .next => ∃ m, m < n ∧ J m σ₂ | .cont => ∃ m, m < n ∧ J m σ₂ | .brk => Φ .next σ₂ | .ret v => Φ (.ret v) σ₂) ∧ (b = false → Φ .next σ₁)) :
    XS G env A σ (.While test body [] pos) Φ := .mk fun fz z s Q E r q => by
  refine wpAny_While ?_
  refine codeAny_whileLoop (fun k s' => ∃ σ', J k σ' ∧ Rel G.h₁ env fz z σ' s' ∧ TK s.heap s'.heap) ?_ n ⟨σ, h0, r, TK.refl _⟩
  rintro k s' ⟨σ', j, r', t'⟩
  refine (turn k σ' j).run fz z s' _ _ r' fun b b' σ₁ s₁ e h₁ r₁ t₁ => ?_
  cases (e : b = b')
  cases b with
  | false =>
    simp only [Bool.false_eq_true, if_false]
    exact wpAny_execs_nil (q _ .next _ _ rfl (h₁.2 rfl) r₁ (t'.trans t₁))
  | true =>
    simp only [if_true]
    refine (h₁.1 rfl).run _ z _ _ _ r₁ fun fl mfl σ₂ s₂ fa h₂ r₂ t₂ => ?_
    have tt := t'.trans (t₁.trans t₂)
    cases mfl with
    | next => cases (fa : fl = _); obtain ⟨m, hm, hj⟩ := h₂; exact ⟨m, hm, σ₂, hj, r₂, tt⟩
    | cont => cases (fa : fl = _); obtain ⟨m, hm, hj⟩ := h₂; exact ⟨m, hm, σ₂, hj, r₂, tt⟩
    | brk => cases (fa : fl = _); exact q _ .next _ _ rfl h₂ r₂ tt
    | ret v => obtain ⟨v', rfl, va'⟩ := fa; exact q _ (.ret v) _ _ ⟨_, rfl, va'⟩ h₂ r₂ tt

/-! targets -/
theorem XAss_Name {x : Str} {p : Pos} {m : MV} {Φ : St → Prop} (h : XStore G env A σ x m Φ) : XAss G env A σ (.Name x p) m Φ := .mk fun fz z s Q E v va r q =>
  wpAny_assign_Name (h.run fz z s Q E v va r q)
end
end Mine
end PartB3

section PartB4
open PySem PySem.Calls PySem.W PyProof.Rows
set_option maxRecDepth 100000
set_option linter.unusedVariables false
namespace Mine

theorem fresh_size (h : Heap) : h.get? h.objs.size = none := by
  cases e : h.get? h.objs.size with
  | none => rfl
  | some o => exact absurd (Heap.lt_size e) (Nat.lt_irrefl _)

section
variable {G : Gl} {env : Env} {A : Around} {σ σ' : St}

/-- an iterator that lets no owned tuple go -/
theorem go_plain {prog : Program} {w : World} {t : Expr} {I : Addr} {v : Value} {s : Shared} {Q : Unit → Shared → Prop} {E : Value → Shared → Prop} {o : Obj} {T : String} {vs : Array Value} (e : s.heap.get? I = some o) (c : o.cls = .type T)
    (d : o.data = .fields vs) (hT : (["enumerate", "zip", "dict_itemiterator", "dict_reverseitemiterator", "odict_iterator", "itertools.zip_longest", "itertools.pairwise"].contains T) = false) (h : Q () s) :
    wpAny (model prog w) A (letOwnedTupleGo t (.ref I) v) Q E s := by
  obtain ⟨oc, od, oda, osl⟩ := o
  dsimp only at c d
  subst c d
  have go : ∀ (a : Addr), wpAny (model prog w) A (do
      let o ← load I
      match o.cls, o.data with
      | .type n, .fields vs =>
        if ["enumerate", "zip", "dict_itemiterator", "dict_reverseitemiterator", "odict_iterator", "itertools.zip_longest", "itertools.pairwise"].contains n && vs[0]? == some (rawInt a) then
          rule "for.unpacks-the-owned-tuple"
          updateField I 0 .none
      | _, _ => pure ()) Q E s := by
    intro a
    refine wpAny_bind (wpAny_load e ?_)
    show wpAny _ A (if (["enumerate", "zip", "dict_itemiterator", "dict_reverseitemiterator", "odict_iterator", "itertools.zip_longest", "itertools.pairwise"].contains T && vs[0]? == some (rawInt a)) = true then _ else _) Q E s
    rw [hT, Bool.false_and, if_neg Bool.false_ne_true]
    exact wpAny_pure h
  unfold letOwnedTupleGo
  split
  · cases v <;> first | exact go _ | exact wpAny_pure h
  · cases v <;> first | exact go _ | exact wpAny_pure h
  · exact wpAny_pure h

/-- an iterator whose state one object holds -/
theorem Iter.one {I : Addr} {ms : List MV} {Inv : Heap → Prop} {P : Nat → Obj → Prop} {T : String}
    (hP : ∀ i o, P i o → o.cls = .type T ∧ ∃ vs, o.data = .fields vs) (hT : (["enumerate", "zip", "dict_itemiterator", "dict_reverseitemiterator", "odict_iterator", "itertools.zip_longest", "itertools.pairwise"].contains T) = false)
    (item : ∀ i m o (s : Shared) (Q : Option Value → Shared → Prop) (E : Value → Shared → Prop), ms[i]? = some m → s.heap.get? I = some o → P i o → Inv s.heap →
      (∀ v h' tk o', VA s.heap m v → h'.get? I = some o' → P (i + 1) o' → Heap.SameBut I s.heap h' → Q (some v) { s with heap := h', toks := tk }) → wpAny (model G.prog G.w) A (pyNext (.ref I)) Q E s)
    (done : ∀ o (s : Shared) (Q : Option Value → Shared → Prop) (E : Value → Shared → Prop), s.heap.get? I = some o → P ms.length o → Inv s.heap →
      (∀ h' tk, Heap.ExtBut I s.heap h' → Q none { s with heap := h', toks := tk }) → wpAny (model G.prog G.w) A (pyNext (.ref I)) Q E s)
    (self : ∀ i o (s : Shared) (Q : Value → Shared → Prop) (E : Value → Shared → Prop), s.heap.get? I = some o → P i o → Q (.ref I) s → wpAny (model G.prog G.w) A (pyIter (.ref I)) Q E s) :
    Iter G A I [I] ms Inv (fun i h => ∃ o, h.get? I = some o ∧ P i o) where
  frame := fun i h h' st k => let ⟨o, e, p⟩ := st; ⟨o, k I (by simp) o e, p⟩
  fld := fun i h b st hb => by
    obtain ⟨o, e, p⟩ := st
    obtain ⟨_, vs, d⟩ := hP i o p
    rw [List.mem_singleton.mp hb]; exact ⟨o, vs, e, d⟩
  item := fun i m s Q E hm st iv q => by
    obtain ⟨o, e, p⟩ := st
    refine item i m o s Q E hm e p iv fun v h' tk o' va e' p' sb => ?_
    obtain ⟨c, vs, d⟩ := hP _ _ p'
    have hk : ∀ b o, b ∉ [I] → s.heap.get? b = some o → h'.get? b = some o := fun b o hb x => sb.extBut _ _ (fun h => hb (by simp [h])) x
    refine q v h' tk (va.mono ?_) (fun t s₁ Q₁ E₁ hI q₁ => ?_) (fun b hb => by rw [List.mem_singleton.mp hb]; exact ⟨o', vs, e', d⟩) hk
    · obtain ⟨_, vs', d'⟩ := hP _ _ p
      exact fun a arr ⟨x, e1, c1, n, d1⟩ => ⟨x, sb.extBut _ _ (by rintro rfl; rw [e] at e1; cases e1; rw [d'] at d1; cases d1) e1, c1, n, d1⟩
    · have e₁ := hI I (by simp) o' e'
      exact go_plain e₁ c d hT (q₁ s₁.heap ⟨o', e₁, p'⟩ fun _ _ _ x => x)
  done := fun s Q E st iv q => by
    obtain ⟨o, e, p⟩ := st
    refine done o s Q E e p iv fun h' tk eb => q h' tk fun b o hb x => eb _ _ (fun h => hb (by simp [h])) x
  self := fun i s Q E st q => by
    obtain ⟨o, e, p⟩ := st
    exact self i o s Q E e p q

theorem Iter.weak {I : Addr} {wr : List Addr} {ms : List MV} {Inv Inv' : Heap → Prop} {St : Nat → Heap → Prop} (x : Iter G A I wr ms Inv St) (k : ∀ h, Inv' h → Inv h) : Iter G A I wr ms Inv' St :=
  { frame := x.frame, fld := x.fld, item := fun i m s Q E hm st iv q => x.item i m s Q E hm st (k _ iv) q, done := fun s Q E st iv q => x.done s Q E st (k _ iv) q, self := x.self }

def ListInv (a : Addr) (ms : List MV) (h : Heap) : Prop := ∃ arr, h.PlainList a arr ∧ VAs h ms arr.toList
theorem InvOf.list {a : Addr} {b : Bool} {ms : List MV} (h : ⟨a, b, .list ms⟩ ∈ σ.hp) : InvOf G env σ (ListInv a ms) := fun fz z s r => (r.hp _ h).1

theorem XIter_list (hh : A.handled = none) {a : Addr} {b : Bool} {ms : List MV} (h : ⟨a, b, .list ms⟩ ∈ σ.hp) : XIter G env A σ (.ref a) ms (ListInv a ms) := .mk fun fz z s Q E v va r q => by
  cases (va : v = _)
  obtain ⟨arr, pl, y⟩ := (r.hp _ h).1
  refine wpAny_pyIter_list (Heap.PlainList.isList pl) ?_
  have hal : a ≠ s.heap.objs.size := by obtain ⟨n, e⟩ := pl; exact Nat.ne_of_lt (Heap.lt_size e)
  refine q s.heap.objs.size [s.heap.objs.size] _ _ s.toks (Iter.weak (Inv := _) (Iter.one (P := fun i o => o.cls = .type "list_iterator" ∧ o.data = .fields #[.ref a, .int i 0]) (T := "list_iterator") (fun i o p => ⟨p.1, _, p.2⟩) (by decide) ?_ ?_ ?_) fun _ x => x.1)
    ⟨_, Heap.get?_push_size _ rfl, rfl, rfl⟩ (fun b hb => by rw [List.mem_singleton.mp hb]; exact fresh_size _) (fun b o e => Heap.get?_push_of_some _ e)
  · intro i m o s₁ Q₁ E₁ hm e p iv q₁
    obtain ⟨arr₁, pl₁, y₁⟩ := iv
    obtain ⟨x, e1, e2⟩ := y₁.get hm
    refine wpAny_pyNext_list_item ⟨o, e, p.1, p.2⟩ (Heap.PlainList.isList pl₁) (x := x) (by rw [← Array.getElem?_toList]; exact e1) fun h' hit sb => ?_
    obtain ⟨o', e', c', d'⟩ := hit
    exact q₁ x h' s₁.toks o' e2 e' ⟨c', d'⟩ sb
  · intro o s₁ Q₁ E₁ e p iv q₁
    obtain ⟨arr₁, pl₁, y₁⟩ := iv
    refine wpAny_pyNext_list_end hh ⟨o, e, p.1, p.2⟩ (Heap.PlainList.isList pl₁) (by rw [← Array.getElem?_toList, List.getElem?_eq_none_iff, y₁.length]; exact Nat.le_refl _) fun h' eb => q₁ h' s₁.toks eb
  · intro i o s₁ Q₁ E₁ e p q₁
    exact wpAny_pyIter_listiter (i := i) ⟨o, e, p.1, p.2⟩ q₁

theorem XIter_tup (hh : A.handled = none) {ms : List MV} : XIter G env A σ (.tup ms) ms (fun _ => True) := .mk fun fz z s Q E v va r q => by
  obtain ⟨a, arr, rfl, ht, y⟩ := va
  refine wpAny_pyIter_tuple ht ?_
  have kp : ∀ b o, s.heap.get? b = some o → (s.heap.push { cls := .type "tuple_iterator", data := .fields #[.ref a, .int 0 0] }).get? b = some o := fun b o e => Heap.get?_push_of_some _ e
  refine q s.heap.objs.size [s.heap.objs.size] _ _ s.toks (Iter.one (P := fun i o => o.cls = .type "tuple_iterator" ∧ o.data = .fields #[.ref a, .int i 0]) (T := "tuple_iterator") (fun i o p => ⟨p.1, _, p.2⟩) (by decide) ?_ ?_ ?_)
    ⟨_, Heap.get?_push_size _ rfl, rfl, rfl⟩ (fun b hb => by rw [List.mem_singleton.mp hb]; exact fresh_size _) kp
  · intro i m o s₁ Q₁ E₁ hm e p iv q₁
    have t₁ := (TK.of_keep kp).trans iv.2
    obtain ⟨x, e1, e2⟩ := y.get hm
    refine wpAny_pyNext_tuple_item ⟨o, e, p.1, p.2⟩ (t₁ _ _ ht) (x := x) (by rw [← Array.getElem?_toList]; exact e1) fun h' hit sb => ?_
    obtain ⟨o', e', c', d'⟩ := hit
    exact q₁ x h' s₁.toks o' (e2.mono t₁) e' ⟨c', d'⟩ sb
  · intro o s₁ Q₁ E₁ e p iv q₁
    have t₁ := (TK.of_keep kp).trans iv.2
    refine wpAny_pyNext_tuple_end hh ⟨o, e, p.1, p.2⟩ (t₁ _ _ ht) (by rw [← Array.getElem?_toList, List.getElem?_eq_none_iff, y.length]; exact Nat.le_refl _) fun h' eb => q₁ h' s₁.toks eb
  · intro i o s₁ Q₁ E₁ e p q₁
    exact wpAny_pyIter_tupleiter (i := i) (t := a) ⟨o, e, p.1, p.2⟩ q₁
def chrs (x : Str) : List MV := x.cps.toList.map fun c => .str ⟨#[c]⟩
theorem walks_iter {I : Addr} {ms : List MV} {P : Nat → Value → Prop} {St : Nat → Heap → Prop} {T : String} (W : Walks G.prog G.w A I [I] [I] ms.length P St) (hP : ∀ i v h, P i v → ∃ m, ms[i]? = some m ∧ VA h m v)
    (hO : ∀ i h, St i h → ∃ o vs, h.get? I = some o ∧ o.cls = .type T ∧ o.data = .fields vs) (hT : (["enumerate", "zip", "dict_itemiterator", "dict_reverseitemiterator", "odict_iterator", "itertools.zip_longest", "itertools.pairwise"].contains T) = false) :
    Iter G A I [I] ms (fun _ => True) St where
  frame := W.frame
  fld := fun i h b st hb => by
    obtain ⟨o, vs, e, c, d⟩ := hO i h st
    rw [List.mem_singleton.mp hb]; exact ⟨o, vs, e, d⟩
  item := fun i m s Q E hm st _ q => by
    have hi : i < ms.length := (List.getElem?_eq_some_iff.mp hm).1
    refine W.item i s Q E hi st fun v h' tk p st' k => ?_
    obtain ⟨o', vs', e', c', d'⟩ := hO _ _ st'
    obtain ⟨m', hm', va⟩ := hP i v h' p
    rw [hm] at hm'; cases hm'
    refine q v h' tk va (fun t s₁ Q₁ E₁ hI q₁ => ?_) (fun b hb => by rw [List.mem_singleton.mp hb]; exact ⟨o', vs', e', d'⟩) k
    have e₁ := hI I (by simp) o' e'
    exact go_plain e₁ c' d' hT (q₁ s₁.heap (W.frame _ _ _ st' fun b hb o x => hI b hb o x) fun _ _ _ x => x)
  done := fun s Q E st _ q => W.done s Q E st q
  self := W.self
theorem XIter_str (hh : A.handled = none) {x : Str} : XIter G env A σ (.str x) (chrs x) (fun _ => True) := .mk fun fz z s Q E v va r q => by
  obtain ⟨t, rfl⟩ := va
  have hl : (chrs x).length = x.cps.size := by unfold chrs; simp
  have hP : ∀ i v (h : Heap), SignAt x i v → ∃ m, (chrs x)[i]? = some m ∧ VA h m v := fun i v h ⟨c, u, e, hv⟩ => by
    subst hv
    refine ⟨.str ⟨#[c]⟩, ?_, u, rfl⟩
    unfold chrs
    rw [List.getElem?_map, Array.getElem?_toList, e]; rfl
  cases ha : x.cps.all (· < 128)
  · refine wpAny_pyIter_wide ha ?_
    have W := Walks.strWide (prog := G.prog) (w := G.w) hh s.heap.objs.size x t
    rw [← hl] at W
    exact q _ [s.heap.objs.size] _ _ s.toks ((walks_iter (T := "str_iterator") W hP (fun i h st => let ⟨o, e, c, d⟩ := st; ⟨o, _, e, c, d⟩) (by decide)).weak fun _ x => x.1) ⟨_, Heap.get?_push_size _ rfl, rfl, rfl⟩
      (fun b hb => by rw [List.mem_singleton.mp hb]; exact fresh_size _) (fun b o e => Heap.get?_push_of_some _ e)
  · refine wpAny_pyIter_ascii ha ?_
    have W := Walks.strAscii (prog := G.prog) (w := G.w) hh s.heap.objs.size x t
    rw [← hl] at W
    exact q _ [s.heap.objs.size] _ _ s.toks ((walks_iter (T := "str_ascii_iterator") W hP (fun i h st => let ⟨o, e, c, d⟩ := st; ⟨o, _, e, c, d⟩) (by decide)).weak fun _ x => x.1) ⟨_, Heap.get?_push_size _ rfl, rfl, rfl⟩
      (fun b hb => by rw [List.mem_singleton.mp hb]; exact fresh_size _) (fun b o e => Heap.get?_push_of_some _ e)
def octs (b : Array UInt8) : List MV := b.toList.map fun c => .int c.toNat
theorem XIter_bytes (hh : A.handled = none) {x : Array UInt8} : XIter G env A σ (.bytes x) (octs x) (fun _ => True) := .mk fun fz z s Q E v va r q => by
  obtain ⟨t, rfl⟩ := va
  refine KBw.pyIter_bytes ?_
  refine q _ [s.heap.objs.size] _ _ s.toks (Iter.weak (Inv := _) (Iter.one (P := fun i o => o.cls = .type "bytes_iterator" ∧ o.data = .fields #[.bytes x t, .int i 0]) (T := "bytes_iterator") (fun i o p => ⟨p.1, _, p.2⟩) (by decide) ?_ ?_ ?_) fun _ x => x.1)
    ⟨_, Heap.get?_push_size _ rfl, rfl, rfl⟩ (fun b hb => by rw [List.mem_singleton.mp hb]; exact fresh_size _) (fun b o e => Heap.get?_push_of_some _ e)
  · intro i m o s₁ Q₁ E₁ hm e p iv q₁
    have hb : ∃ c, x[i]? = some c ∧ m = .int c.toNat := by
      unfold octs at hm
      rw [List.getElem?_map, Array.getElem?_toList] at hm
      cases hx : x[i]? with
      | none => rw [hx] at hm; cases hm
      | some c => rw [hx] at hm; cases hm; exact ⟨c, rfl, rfl⟩
    obtain ⟨c, hc, rfl⟩ := hb
    refine KBw.next_item ⟨o, e, p.1, p.2⟩ hc fun h' hit sb => ?_
    obtain ⟨o', e', c', d'⟩ := hit
    exact q₁ _ h' _ o' ⟨_, rfl⟩ e' ⟨c', d'⟩ sb
  · intro o s₁ Q₁ E₁ e p iv q₁
    exact KBw.next_end hh ⟨o, e, p.1, p.2⟩ (by simp [octs]) fun h' eb => q₁ h' s₁.toks eb
  · intro i o s₁ Q₁ E₁ e p q₁
    exact KBw.pyIter_self (i := i) ⟨o, e, p.1, p.2⟩ q₁

/-- a range -/
def rng (a n : Nat) : List MV := (List.range n).map fun i => .int ((a + i : Nat) : Int)
theorem XSrc_range_core (hh : A.handled = none) {s : Shared} {r0 : Addr} {a b : Int} {t u v : Tok} {Q : Value → Shared → Prop} {E : Value → Shared → Prop} (hr : IsRange s.heap r0 a b 1 t u v) (ha : 0 ≤ a) (hab : a ≤ b) (hb : b < 2 ^ 62)
    (q : ∀ I wr St h' tk, Iter G A I wr (rng a.toNat (b - a).toNat) (fun h => True ∧ TK h' h) St → St 0 h' → (∀ b ∈ wr, s.heap.get? b = none) → (∀ b o, s.heap.get? b = some o → h'.get? b = some o) → Q (.ref I) { s with heap := h', toks := tk }) :
    wpAny (model G.prog G.w) A (pyIter (.ref r0)) Q E s := by
  refine wpAny_pyIter_range hr (small_one (by omega) (by omega) (by omega) (by omega)) ?_
  have hsz : Builtin.Range.rangeSize a b 1 = ((b - a).toNat : Int) := by rw [rangeSize_one]; split <;> omega
  have W := Walks.range (prog := G.prog) (w := G.w) (A := A) hh s.heap.objs.size a 1 (b - a).toNat
  have hl : (rng a.toNat (b - a).toNat).length = (b - a).toNat := by simp [rng]
  have W' : Walks G.prog G.w A s.heap.objs.size [s.heap.objs.size] [s.heap.objs.size] (rng a.toNat (b - a).toNat).length (fun i v => i < (b - a).toNat ∧ ∃ t, v = .int (a + i * 1) t)
      (fun i h => IsRangeIter h s.heap.objs.size (a + (i : Nat) * 1) (((b - a).toNat : Int) - (i : Nat)) 1) := by
    rw [hl]
    exact { sub := W.sub, frame := W.frame, item := fun i s Q E hi st hQ => W.item i s Q E hi st fun v h' tk hp => hQ v h' tk ⟨hi, hp⟩, done := W.done, self := W.self }
  refine q s.heap.objs.size [s.heap.objs.size] _ _ s.toks ((walks_iter (T := "range_iterator") W' (fun i v h ⟨hi, t, hv⟩ => ?_) (fun i h st => ⟨_, _, st, rfl, rfl⟩) (by decide)).weak fun _ x => x.1) ?_
      (fun b hb => by rw [List.mem_singleton.mp hb]; exact fresh_size _) (fun b o e => Heap.get?_push_of_some _ e)
  · subst hv
    refine ⟨.int ((a.toNat + i : Nat) : Int), ?_, t, ?_⟩
    · simp [rng, hi]
    · congr 1; omega
  · show IsRangeIter _ _ _ _ _
    rw [hsz]
    simpa using Heap.get?_push_size _ rfl
end
end Mine
end PartB4

section PartB5
open PySem PySem.Calls PySem.W PyProof.Rows
set_option maxRecDepth 100000
set_option linter.unusedVariables false
namespace Mine

section
variable {h₁ : Heap} {env : Env} {fz : Fz} {z : Shared} {σ σ' : St} {s s' : Shared}
/-- a change at addresses of which nothing is told -/
theorem Rel.but (r : Rel h₁ env fz z σ s) (X : Addr → Prop) {h' : Heap} {tk : Nat} (hX : ∀ b, X b → fz b = none ∧ b ≠ env.locals ∧ ∀ e ∈ σ.hp, e.a ≠ b)
    (hN : ∀ b o, X b → s.heap.get? b = some o → (∀ v, o.data ≠ .cell v) ∧ ∀ arr n, o.cls = .type "tuple" → o.data = .seq arr n → False)
    (k : ∀ b o, ¬ X b → s.heap.get? b = some o → h'.get? b = some o) : Rel h₁ env fz z σ { s with heap := h', toks := tk } ∧ TK s.heap h' := by
  have t : TK s.heap h' := fun a arr ⟨o, e, c, n, d⟩ => ⟨o, k _ _ (fun hm => (hN _ _ hm e).2 _ _ c d) e, c, n, d⟩
  refine ⟨⟨r.base, fun b o e => k _ _ (fun hm => by rw [(hX b hm).1] at e; cases e) (r.keep b o e), r.fzL, ?_, ?_, fun q x c hx => ?_, fun e he => ?_, r.pw, by have := r.rest; rw [this]⟩, t⟩
  · obtain ⟨m, hn, hm⟩ := r.ns
    exact ⟨m, hn.at' fun o => k _ o (fun hm => (hX _ hm).2.1 rfl), fun x v q q' => let ⟨v', a, b⟩ := hm x v q q'; ⟨v', a, b.mono t⟩⟩
  · intro x v q q'
    obtain ⟨c, v', a, ⟨o, e, e'⟩, d⟩ := r.cells x v q q'
    exact ⟨c, v', a, ⟨o, k _ _ (fun hm => (hN _ _ hm e).1 _ e') e, e'⟩, d.mono t⟩
  · obtain ⟨a, ov, o, e1, e2⟩ := r.cown q x c hx
    exact ⟨a, ov, o, k _ _ (fun hm => (hN _ _ hm e1).1 _ e2) e1, e2⟩
  · obtain ⟨a, b⟩ := r.hp e he
    exact ⟨a.mono t fun o => k _ o (fun hm => (hX _ hm).2.2 e he rfl), b⟩
end

def Ent.frz (e : Ent) : Ent := { e with own := false }
def frzAll (l : List Ent) : List Ent := l.map Ent.frz

section
variable {G : Gl} {env : Env} {A : Around} {σ σ' : St}

abbrev testsT (ifs : List Expr) (env : Env) : Sem Bool := forIn ifs true fun c r => if r = true then do let ok ← isTrue c env (eval c env); pure (ForInStep.yield ok) else pure (ForInStep.yield r)
abbrev XIfs (G : Gl) (env : Env) (A : Around) (σ : St) (ifs : List Expr) (Φ : Bool → St → Prop) : Prop := XT G env A RB σ (testsT ifs env) Φ
theorem XIfs_nil {Φ : Bool → St → Prop} (h : Φ true σ) : XIfs G env A σ [] Φ := .mk fun _ _ _ _ _ r q => wpAny_tests_nil (q _ _ _ _ rfl h r (TK.refl _))
theorem XIfs_one {c : Expr} {Φ : Bool → St → Prop} (h : XB G env A σ c Φ) : XIfs G env A σ [c] Φ := .mk fun fz z s Q E r q => wpAny_tests_one (h.run fz z s Q E r q)

theorem codeAny_compLoop1 {prog : Program} {w : World} {A : Around} {R : Result → Shared → Prop} {s : Shared} {elt target iter : Expr} {ifs : List Expr} {scope : Scope} {pos : Pos} {it acc : Value} {env : Env} (I : Nat → Shared → Prop)
    (turn : ∀ n s E, I n s → wpAny (model prog w) A (pyNext it) (fun r s₁ => match r with
      | none => R (.ok .next) s₁
      | some v => wpAny (model prog w) A (letOwnedTupleGo target it v) (fun _ s₁' => wpAny (model prog w) A (assign target env v) (fun _ s₂ =>
          wpAny (model prog w) A (testsT ifs env) (fun ok s₃ =>
            if ok = true then wpAny (model prog w) A (eval elt env) (fun x s₄ =>
              wpAny (model prog w) A (call (.builtin "list.append") [acc, x]) (fun _ s₅ => ∃ m, m < n ∧ I m s₅) E s₄) E s₃
            else ∃ m, m < n ∧ I m s₃) E s₂) E s₁') E s₁) E s)
    (n : Nat) (h : I n s) : codeAny (model prog w) A (.compLoop (.ListComp elt [⟨target, iter, ifs, 0⟩] scope pos) 0 it acc env) R s := by
  refine codeAny_loop rfl I (fun n s hI => ?_) n h
  show wpAny _ A ((compTurn (.ListComp elt [⟨target, iter, ifs, 0⟩] scope pos) 0 it acc env).onRaise (fun x => do noteFrame x env; theTreesLotGoes x)) _ _ s
  refine wpAny_noted ?_
  rw [compTurn_list]
  refine wpAny_bind (wpAny_standAt (wpAny_bind (wpAny_mono (turn n s _ hI) (fun r s₁ h₁ => ?_) fun _ _ h' => h')))
  cases r with
  | none => exact wpAny_pure h₁
  | some v =>
    refine wpAny_bind (wpAny_mono h₁ (fun _ s₁' h₁' => ?_) fun _ _ h' => h')
    refine wpAny_bind (wpAny_mono h₁' (fun _ s₂ h₂ => wpAny_bind (wpAny_mono h₂ (fun ok s₃ h₃ => ?_) fun _ _ h' => h')) fun _ _ h' => h')
    cases ok with
    | false => exact wpAny_pure ⟨rfl, h₃⟩
    | true =>
      exact wpAny_bind (wpAny_bind (wpAny_mono h₃ (fun x s₄ h₄ => wpAny_bind (wpAny_mono h₄ (fun _ s₅ h₅ => wpAny_pure (wpAny_pure ⟨rfl, h₅⟩)) fun _ _ h' => h')) fun _ _ h' => h'))

/-- the names of a block that its surroundings hold -/
structure FlOk (env : Env) (scope : Scope) (cl : List (Str × Addr)) (loc fl : List (Str × MV)) : Prop where
  le : LocLe fl loc
  kinds : ∀ x v, fl.lookup x = some v → (env.kindOf x = some .cell ∨ env.kindOf x = some .free) ∧ ((relabel scope env).names.lookup x = some .cell ∨ (relabel scope env).names.lookup x = some .free) ∧ cl.lookup x = env.cells.lookup x
theorem FlOk.nil {env : Env} {scope : Scope} {cl : List (Str × Addr)} {loc : List (Str × MV)} : FlOk env scope cl loc [] := ⟨LocLe.nil _, fun _ _ e => by simp at e⟩
theorem FlOk.cons {env : Env} {scope : Scope} {cl : List (Str × Addr)} {loc fl : List (Str × MV)} {x : Str} {v : MV} (h : loc.lookup x = some v) (k : env.kindOf x = some .cell ∨ env.kindOf x = some .free)
    (k' : (relabel scope env).names.lookup x = some .cell ∨ (relabel scope env).names.lookup x = some .free) (c : cl.lookup x = env.cells.lookup x) (r : FlOk env scope cl loc fl) : FlOk env scope cl loc ((x, v) :: fl) :=
  ⟨LocLe.cons h r.le, fun y u e => by
    rw [List.lookup_cons] at e
    split at e
    · rename_i q; cases eq_of_beq q; exact ⟨k, k', c⟩
    · exact r.kinds y u e⟩

/-- in the block -/
theorem Rel.inComp {h₁ : Heap} {fz : Fz} {z s : Shared} {scope : Scope} {cl : List (Str × Addr)} {fl : List (Str × MV)} {C : Addr} {m : Str → Option Value} (r : Rel h₁ env fz z σ s) (f : FlOk env scope cl σ.loc fl) (hC : fz C = none)
    (hCe : ∀ e ∈ σ.hp, e.a ≠ C) (hn : s.heap.Ns C m) : Rel h₁ (compEnvC scope cl C env) (fun b => if b = C then none else s.heap.get? b) z ⟨fl, frzAll σ.hp, false⟩ s := by
  refine ⟨fun b o e => ?_, fun b o e => ?_, ?_, ⟨m, hn, fun x v q q' => ?_⟩, fun x v q _ => ?_, fun q => (nomatch q), fun e he => ?_, ?_, r.rest⟩
  · have e1 := r.base b o e
    show (if b = C then none else s.heap.get? b) = _
    rw [if_neg (by rintro rfl; rw [hC] at e1; cases e1)]
    exact r.keep b o e1
  · split at e
    · cases e
    · exact e
  · show (if (C = C) then none else _) = none
    rw [if_pos rfl]
  · obtain ⟨_, k, _⟩ := f.kinds x v q
    have q2 : (relabel scope env).names.lookup x = some .local := q'
    rw [q2] at k
    rcases k with k | k <;> cases k
  · obtain ⟨k, _, c⟩ := f.kinds x v q
    obtain ⟨cc, v', a, b, d⟩ := r.cells x v (f.le x v q) k
    exact ⟨cc, v', (show cl.lookup x = some cc by rw [c]; exact a), b, d⟩
  · obtain ⟨e', he', rfl⟩ := List.mem_map.mp he
    obtain ⟨a, _⟩ := r.hp e' he'
    refine ⟨a, fun q => (nomatch q), fun _ => ?_⟩
    obtain ⟨o, ho, _⟩ := a.get
    show (if e'.a = C then none else s.heap.get? e'.a).isSome = true
    rw [if_neg (hCe e' he'), ho]; rfl
  · show (frzAll σ.hp).Pairwise _
    unfold frzAll
    rw [List.pairwise_map]
    exact r.pw

theorem compEnvOk {scope : Scope} {cl : List (Str × Addr)} {C : Addr} (e : EnvOk env) (hk : scope.kind = .function) : EnvOk (compEnvC scope cl C env) := ⟨hk, e.glob, e.blt⟩

/-- a turn of the block: F tells what an item gives -/
def XTurn (G : Gl) (env : Env) (A : Around) (σ : St) (scope : Scope) (cl : List (Str × Addr)) (fl : List (Str × MV)) (target elt : Expr) (ifs : List Expr) (F : MV → List MV) (m : MV) : Prop :=
  ∀ C, XAss G (compEnvC scope cl C env) A ⟨fl, frzAll σ.hp, false⟩ target m fun σ₁ => XIfs G (compEnvC scope cl C env) A σ₁ ifs fun ok σ₂ =>
    (ok = true → XE G (compEnvC scope cl C env) A σ₂ elt fun y _ => F m = [y]) ∧ (ok = false → F m = [])

theorem comp1_core (hh : A.handled = none) {elt target iter : Expr} {ifs : List Expr} {scope : Scope} {cl : List (Str × Addr)} {fl : List (Str × MV)} {pos : Pos} {fz : Fz} {z s₂ : Shared} {I : Addr} {wr : List Addr} {ms : List MV} {Inv : Heap → Prop} {St : Nat → Heap → Prop}
    {F : MV → List MV} {RR : Value → Addr → Result → Shared → Prop} {E : Value → Shared → Prop}
    (r₂ : Rel G.h₁ env fz z σ s₂) (it : Iter G A I wr ms (fun h => Inv h ∧ TK s₂.heap h) St) (st : St 0 s₂.heap) (hf : ∀ b ∈ wr, fz b = none) (iv : InvOf G env σ Inv)
    (hcell : ∀ y ∈ scope.names, y.2 ≠ .cell) (hkind : scope.kind = .function) (f : FlOk env scope cl σ.loc fl) (hsz : ms.length ≤ sizeLine)
    (turn : ∀ (i : Nat) m, ms[i]? = some m → XTurn G env A σ scope cl fl target elt ifs F m)
    (hRR : ∀ D C h' tk m', h'.Ns C m' → fz C = none → C ≠ env.locals → (∀ e ∈ σ.hp, e.a ≠ C) → C ≠ D → Rel G.h₁ env fz z { σ with hp := ⟨D, true, .list (ms.flatMap F)⟩ :: σ.hp } { s₂ with heap := h', toks := tk } → TK s₂.heap h' →
      RR (.ref D) C (.ok .next) { s₂ with heap := h', toks := tk }) :
    wpAny (model G.prog G.w) A (newList []) (fun acc s₃ => wpAny (model G.prog G.w) A (newFunctionEnv scope env.globals cl [] env.qual none .none (some env)) (fun cenv s₄ =>
      codeAny (model G.prog G.w) A (.compStart (.ListComp elt [⟨target, iter, ifs, 0⟩] scope pos) 0 (.ref I) acc { cenv with scope := relabel scope env }) (RR acc cenv.locals) s₄) E s₃) E s₂ := by
  refine wpAny_newObj_type (wpAny_newFunctionEnv hcell (by intro y hy; simp at hy) (fun hh₁ hns₁ hsb₁ => ?_) hkind)
  dsimp only at hns₁ hsb₁ ⊢
  generalize hH2 : s₂.heap.push { cls := .type "list", dict := none, data := .seq ([] : List Value).toArray } = H2 at hns₁ hsb₁ ⊢
  have hC : H2.objs.size = s₂.heap.objs.size + 1 := by rw [← hH2, Heap.size_push]
  generalize hD : s₂.heap.objs.size = D at hC hns₁ hsb₁ ⊢
  generalize hCC : H2.objs.size = C at hC hns₁ hsb₁ ⊢
  have fD : s₂.heap.get? D = none := hD ▸ fresh_size _
  have fC : s₂.heap.get? C = none := Heap.get?_none_of_le (by rw [hD, hC]; exact Nat.le_succ _)
  have hDC : D ≠ C := by rw [hC]; exact Nat.ne_of_lt (Nat.lt_succ_self _)
  obtain ⟨zD, lD, eD⟩ := r₂.lt_of fD
  obtain ⟨zC, lC, eC⟩ := r₂.lt_of fC
  have old : ∀ b o, s₂.heap.get? b = some o → hh₁.get? b = some o := fun b o e => hsb₁.extBut b o (by rintro rfl; rw [fC] at e; cases e) (Heap.get?_push_of_some _ (hH2 ▸ Heap.get?_push_of_some _ e))
  have hacc : hh₁.PlainList D #[] := ⟨0, hsb₁.extBut _ _ hDC (Heap.get?_push_of_some _ (by rw [← hH2, ← hD]; exact Heap.get?_push_size _ rfl))⟩
  have st₁ : St 0 hh₁ := it.frame _ _ _ st fun b hb o e => old b o e
  have flds₂ : ∀ i h, St i h → Flds wr h := fun i h st b hb => it.fld i h b st hb
  have loop : ∀ s₃ : Shared, s₃ = { s₂ with heap := hh₁, toks := s₂.toks + ([] : List (Str × Value)).length } →
      codeAny (model G.prog G.w) A (.compLoop (.ListComp elt [⟨target, iter, ifs, 0⟩] scope pos) 0 (.ref I) (.ref D) (compEnvC scope cl C env)) (RR (.ref D) C) s₃ := by
    rintro s₃ rfl
    refine codeAny_compLoop1 (fun k s' => ∃ h' tk i ys m' arr, s' = { s₂ with heap := h', toks := tk } ∧ i ≤ ms.length ∧ k = ms.length + 1 - i ∧ ys = (ms.take i).flatMap F ∧ ys.length ≤ i ∧ St i h' ∧ Rel G.h₁ env fz z σ s' ∧ h'.Ns C m' ∧ h'.PlainList D arr ∧ VAs h' ys arr.toList ∧ TK s₂.heap h')
      ?_ (ms.length + 1) ⟨hh₁, _, 0, [], _, #[], rfl, Nat.zero_le _, rfl, by simp, Nat.le_refl _, st₁, r₂.keepAll' old, hns₁, hacc, VAs.nil, TK.of_keep old⟩
    rintro k s' E' ⟨h', tk, i, ys, m', arr, rfl, hi, rfl, hys, hyl, st', r', hn', hd', hv', t'⟩
    have fl' := flds₂ i h' st'
    obtain ⟨nd, hdg⟩ := id hd'
    have hDw : D ∉ wr := fun hm => by obtain ⟨o, vs, e, d⟩ := fl' _ hm; rw [hdg] at e; cases e; cases d
    have hCw : C ∉ wr := fun hm => by obtain ⟨o, vs, e, d⟩ := fl' _ hm; obtain ⟨o', es, ep, e', d', _⟩ := hn'; rw [e] at e'; cases e'; rw [d] at d'; cases d'
    by_cases hlt : i < ms.length
    · have hmi : ms[i]? = some ms[i] := List.getElem?_eq_getElem hlt
      refine it.item i ms[i] { s₂ with heap := h', toks := tk } _ _ hmi st' ⟨iv fz z _ r', t'⟩ fun v h₂ tk₂ va go f₂ k₂ => ?_
      obtain ⟨rr₂, t₂⟩ := r'.moved hf (tk := tk₂) fl' k₂
      refine go target { s₂ with heap := h₂, toks := tk₂ } _ _ (fun _ _ _ e => e) fun h₃ st₃ k₃ => ?_
      obtain ⟨r₃, t₃⟩ := rr₂.moved (h' := h₃) (tk := tk₂) hf f₂ k₃
      have kp₃ : ∀ b o, b ∉ wr → h'.get? b = some o → h₃.get? b = some o := fun b o hb e => k₃ b o hb (k₂ b o hb e)
      have hn₃ : h₃.Ns C m' := hn'.at' fun o => kp₃ C o hCw
      have rc := Rel.inComp (scope := scope) (cl := cl) r₃ f zC eC hn₃
      refine (turn i ms[i] hmi C).run _ z _ _ E' v (va.mono t₃) rc fun _ _ σ₄ s₄ _ h₄ r₄ t₄ => ?_
      refine h₄.run _ z _ _ E' r₄ fun ok ok' σ₅ s₅ e₅ h₅ r₅ t₅ => ?_
      cases (e₅ : ok = ok')
      have fin : ∀ (σ₆ : Mine.St) (s₆ : Shared), Rel G.h₁ (compEnvC scope cl C env) (fun b => if b = C then none else h₃.get? b) z σ₆ s₆ →
          ∃ h₆ tk₆ m₆, s₆ = { s₂ with heap := h₆, toks := tk₆ } ∧ Rel G.h₁ env fz z σ s₆ ∧ TK h₃ h₆ ∧ h₆.Ns C m₆ ∧ h₆.PlainList D arr ∧ St (i + 1) h₆ := fun σ₆ s₆ r₆ => by
        have hk : ∀ b o, ¬ b = C → h₃.get? b = some o → s₆.heap.get? b = some o := fun b o hb e => r₆.keep b o (by show (if b = C then none else h₃.get? b) = _; rw [if_neg hb]; exact e)
        obtain ⟨m₆, hn₆, _⟩ := r₆.ns
        have heq : s₆ = { s₂ with heap := s₆.heap, toks := s₆.toks } := by
          have h1 := r₆.rest; have h2 := r₂.rest
          rw [h1, h2]
        obtain ⟨rb, tb⟩ := r₃.but (fun b => b = C) (h' := s₆.heap) (tk := s₆.toks) (fun b hb => by subst hb; exact ⟨zC, lC, eC⟩) (fun b o hb e => by
          subst hb
          obtain ⟨o', es, ep, e', d', _⟩ := hn₃
          have e1 : h₃.get? b = some o := e
          rw [e'] at e1; cases e1
          exact ⟨fun v d => (by rw [d'] at d; cases d), fun arr n _ d => (by rw [d'] at d; cases d)⟩) hk
        have pl₃ : h₃.PlainList D arr := let ⟨n, e⟩ := hd'; ⟨n, kp₃ _ _ hDw e⟩
        refine ⟨s₆.heap, s₆.toks, m₆, heq, ?_, tb, hn₆, let ⟨n, e⟩ := pl₃; ⟨n, hk _ _ hDC e⟩, it.frame _ _ _ st₃ fun b hb o e => hk b o (fun q => hCw (q ▸ hb)) e⟩
        rw [heq]; exact rb
      have htake : (ms.take (i + 1)).flatMap F = ys ++ F ms[i] := by
        rw [List.take_add_one, hmi, List.flatMap_append, hys]; simp
      have tt₃ : TK s₂.heap h₃ := t'.trans (t₂.trans t₃)
      cases ok with
      | false =>
        simp only [Bool.false_eq_true, if_false]
        obtain ⟨h₆, tk₆, m₆, e₆, rel₆, t₆, n₆, p₆, st₆⟩ := fin _ _ r₅
        have hF := h₅.2 rfl
        refine ⟨ms.length + 1 - (i + 1), by omega, h₆, tk₆, i + 1, ys, m₆, arr, e₆, hlt, rfl, by rw [htake, hF, List.append_nil], by omega, st₆, rel₆, n₆, p₆, hv'.mono ((t₂.trans t₃).trans t₆), tt₃.trans t₆⟩
      | true =>
        simp only [if_true]
        refine (h₅.1 rfl).run _ z _ _ E' r₅ fun y my σ₆ s₆ vy h₆ r₆ t₆ => ?_
        obtain ⟨h₆', tk₆, m₆, e₆, rel₆, tt₆, n₆, p₆, st₆⟩ := fin _ _ r₆
        subst e₆
        have hal : arr.size ≤ sizeLine := by
          have h1 := hv'.length
          have h2 : arr.toList.length = arr.size := by simp
          omega
        refine wpAny_list_append_plain p₆ (fun h₇ p₇ sb₇ => ?_) hal
        obtain ⟨nd₆, dg₆⟩ := id p₆
        obtain ⟨r₇, t₇⟩ := rel₆.but (fun b => b = D) (h' := h₇) (tk := tk₆) (fun b hb => by subst hb; exact ⟨zD, lD, eD⟩) (fun b o hb e => by
          subst hb
          have e1 : h₆'.get? b = some o := e
          rw [dg₆] at e1; cases e1
          exact ⟨fun v d => (nomatch d), fun arr n c _ => (by simp at c)⟩) (fun b o hb e => sb₇.extBut _ _ hb e)
        refine ⟨ms.length + 1 - (i + 1), by omega, h₇, tk₆, i + 1, ys ++ [my], m₆, arr.push y, rfl, hlt, rfl, by rw [htake, h₆], by rw [List.length_append, List.length_singleton]; omega, it.frame _ _ _ st₆ fun b hb o e => sb₇.extBut _ _ (fun q => hDw (q ▸ hb)) e, r₇,
          n₆.sameBut sb₇ (Ne.symm hDC), p₇, ?_, tt₃.trans (tt₆.trans t₇)⟩
        have hva := (hv'.mono ((t₂.trans t₃).trans (tt₆.trans t₇))).snoc (vy.mono t₇)
        simpa using hva
    · have hin : i = ms.length := by omega
      subst hin
      refine it.done { s₂ with heap := h', toks := tk } _ _ st' ⟨iv fz z _ r', t'⟩ fun h₂ tk₂ k₂ => ?_
      obtain ⟨rr₂, t₂⟩ := r'.moved (tk := tk₂) hf fl' k₂
      rw [List.take_length] at hys
      have pl₂ : h₂.PlainList D arr := let ⟨n, e⟩ := hd'; ⟨n, k₂ _ _ hDw e⟩
      refine hRR D C h₂ tk₂ m' (hn'.at' fun o => k₂ C o hCw) zC lC eC (Ne.symm hDC) ⟨rr₂.base, rr₂.keep, rr₂.fzL, rr₂.ns, rr₂.cells, rr₂.cown, fun e he => ?_, List.pairwise_cons.mpr ⟨fun e he => (eD e he).symm, rr₂.pw⟩, rr₂.rest⟩ (t'.trans t₂)
      rcases List.mem_cons.mp he with rfl | he
      · exact ⟨⟨arr, pl₂, hys ▸ hv'.mono t₂⟩, fun _ => ⟨zD, lD⟩, fun q => (nomatch q)⟩
      · exact rr₂.hp e he
  exact codeAny_compStart_list (loop _ rfl) (it.self 0 _ _ _ st₁ (loop _ rfl))
end
end Mine
end PartB5

section PartB6
open PySem PySem.Calls PySem.W PyProof.Rows
set_option maxRecDepth 100000
set_option linter.unusedVariables false
namespace Mine
section
variable {G : Gl} {env : Env} {A : Around} {σ σ' : St}

/-- what a comprehension asks, its source known -/
structure CompOk (env : Env) (scope : Scope) (iter : Expr) (cl : List (Str × Addr)) : Prop where
  clos : closureFor scope env = pure cl
  cell : ∀ y ∈ scope.names, y.2 ≠ .cell
  kind : scope.kind = .function
  names : ∀ y ∈ scope.names, y.2 = .local → scope.names.lookup y.1 = some .local
  fold : ∀ x, foldedSetIterable iter env x = pure x

theorem XE_Comp (hh : A.handled = none) {elt target iter : Expr} {ifs : List Expr} {scope : Scope} {cl : List (Str × Addr)} {fl : List (Str × MV)} {pos : Pos} {Φ : MV → St → Prop} (F : MV → List MV) (c : CompOk env scope iter cl)
    (h : XSrc G env A σ iter fun ms Inv σ₁ => ms.length ≤ sizeLine ∧ InvOf G env σ₁ Inv ∧ FlOk env scope cl σ₁.loc fl ∧ (∀ (i : Nat) m, ms[i]? = some m → XTurn G env A σ₁ scope cl fl target elt ifs F m) ∧
      ∀ D, Φ (.ref D) { σ₁ with hp := ⟨D, true, .list (ms.flatMap F)⟩ :: σ₁.hp }) :
    XE G env A σ (.ListComp elt [⟨target, iter, ifs, 0⟩] scope pos) Φ := .mk fun fz z s Q E r q => by
  show wpAny _ _ (eval _ _) _ _ _
  rw [eval_ListComp]
  refine wpAny_comprehension_free (use := none) rfl c.fold c.clos c.kind c.names ?_
  refine wpAny_mono (h.run fz z s (fun it s₂ => _) E r fun ms Inv I wr St σ₁ s₂ h₁ it st r₂ hf t₂ => ?_) (fun _ _ x => x) fun _ _ x => x
  obtain ⟨hsz, iv, f, turn, fin⟩ := h₁
  refine comp1_core hh r₂ it st hf iv c.cell c.kind f hsz turn (RR := fun acc C => compPost (model G.prog G.w) A E none Q acc C) ?_
  intro D C h' tk m' hn zC lC eC hCD rD tD
  refine ⟨m', hn, fun h'' sb => ?_⟩
  obtain ⟨r₃, t₃⟩ := rD.but (fun b => b = C) (h' := h'') (tk := tk) (fun b hb => by
    subst hb
    refine ⟨zC, lC, fun e he => ?_⟩
    rcases List.mem_cons.mp he with rfl | he
    · exact Ne.symm hCD
    · exact eC e he) (fun b o hb e => by
      subst hb
      obtain ⟨o', es, ep, e', d', _⟩ := hn
      have e1 : h'.get? b = some o := e
      rw [e'] at e1; cases e1
      exact ⟨fun v d => (by rw [d'] at d; cases d), fun arr n _ d => (by rw [d'] at d; cases d)⟩) (fun b o hb e => sb.extBut _ _ hb e)
  exact q _ (.ref D) _ _ rfl (fin D) r₃ (t₂.trans (tD.trans t₃))

theorem XS_AssignComp (hh : A.handled = none) (e : EnvOk env) {elt target iter : Expr} {ifs : List Expr} {scope : Scope} {cl : List (Str × Addr)} {fl : List (Str × MV)} {pos spos py : Pos} {y : Str} {Φ : MF → St → Prop} (F : MV → List MV) (c : CompOk env scope iter cl)
    (hsw : swapsWith (.ListComp elt [⟨target, iter, ifs, 0⟩] scope pos) (some (.Name y py)) spos.line env = pure true) (hy : env.kindOf y = some .local)
    (h : XSrc G env A σ iter fun ms Inv σ₁ => ms.length ≤ sizeLine ∧ InvOf G env σ₁ Inv ∧ FlOk env scope cl σ₁.loc fl ∧ (∀ (i : Nat) m, ms[i]? = some m → XTurn G env A σ₁ scope cl fl target elt ifs F m) ∧
      ∀ D, Φ .next ({ σ₁ with hp := ⟨D, true, .list (ms.flatMap F)⟩ :: σ₁.hp }.put y (.ref D))) :
    XS G env A σ (.Assign [.Name y py] (.ListComp elt [⟨target, iter, ifs, 0⟩] scope pos) spos) Φ := .mk fun fz z s Q E r q => by
  show wpAny _ _ (exec _ _) _ _ _
  rw [exec_Assign_Name_used _ _ _ _ hsw]
  refine wpAny_bind (wpAny_standAt (wpAny_bind ?_))
  show wpAny _ A (do let _ ← comprehension (.ListComp elt [⟨target, iter, ifs, 0⟩] scope pos) scope env _ (newList []) false (eval iter env) (some (assign (.Name y py) env))) _ _ s
  refine wpAny_bind (wpAny_mono (wpAny_comprehension_free (use := some (assign (.Name y py) env)) (Q := fun _ s' => Q .next s') rfl c.fold c.clos c.kind c.names ?_) (fun _ s' hq => wpAny_pure (wpAny_pure hq)) fun _ _ e => e)
  refine wpAny_mono (h.run fz z s (fun it s₂ => _) E r fun ms Inv I wr St σ₁ s₂ h₁ it st r₂ hf t₂ => ?_) (fun _ _ x => x) fun _ _ x => x
  obtain ⟨hsz, iv, f, turn, fin⟩ := h₁
  refine comp1_core hh r₂ it st hf iv c.cell c.kind f hsz turn (RR := fun acc C => compPost (model G.prog G.w) A E (some (assign (.Name y py) env)) (fun _ s' => Q .next s') acc C) ?_
  intro D C h' tk m' hn zC lC eC hCD rD tD
  show wpAny _ A (assign (.Name y py) env (.ref D)) _ _ _
  -- the block's own dict is frozen while the name is stored
  have rz : Rel G.h₁ env (fun b => if b = C then h'.get? C else fz b) z { σ₁ with hp := ⟨D, true, .list (ms.flatMap F)⟩ :: σ₁.hp } { s₂ with heap := h', toks := tk } := by
    have ne : ∀ b, b ≠ C → (if b = C then h'.get? C else fz b) = fz b := fun b hb => if_neg hb
    refine ⟨fun b o e => ?_, fun b o e => ?_, ?_, rD.ns, rD.cells, fun q x cc hx => ?_, fun en he => ?_, rD.pw, rD.rest⟩
    · have e1 := rD.base b o e
      exact (ne b (by rintro rfl; rw [zC] at e1; cases e1)).trans e1
    · have e' : (if b = C then h'.get? C else fz b) = some o := e
      split at e'
      · rename_i hb; subst hb; exact e'
      · exact rD.keep b o e'
    · exact (ne _ (Ne.symm lC)).trans rD.fzL
    · obtain ⟨a, ov, o, e1, e2⟩ := rD.cown q x cc hx
      refine ⟨(ne cc ?_).trans a, ov, o, e1, e2⟩
      rintro rfl
      obtain ⟨o', es, ep, e', d', _⟩ := hn
      have e1' : h'.get? cc = some o := e1
      rw [e'] at e1'; cases e1'; rw [d'] at e2; cases e2
    · obtain ⟨a, b1, b2⟩ := rD.hp en he
      have hne : en.a ≠ C := by
        rcases List.mem_cons.mp he with rfl | he
        · exact Ne.symm hCD
        · exact eC en he
      show _ ∧ (_ → (if en.a = C then _ else fz en.a) = none ∧ _) ∧ (_ → (if en.a = C then _ else fz en.a).isSome = true)
      rw [if_neg hne]
      exact ⟨a, b1, b2⟩
  have st := XAss_Name (p := py) (XU_store_local (G := G) (A := A) (Φ := fun _ σ' => σ' = ({ σ₁ with hp := ⟨D, true, .list (ms.flatMap F)⟩ :: σ₁.hp } : Mine.St).put y (.ref D)) (v := .ref D) rfl hy e)
  refine st.run _ z _ _ _ _ rfl rz fun _ _ σ₃ s₃ _ hσ r₃ t₃ => ?_
  subst hσ
  obtain ⟨oC, es, ep, eC', dC', rest⟩ := hn
  have eC₃ : s₃.heap.get? C = some oC := r₃.keep C oC (by show (if C = C then h'.get? C else fz C) = _; rw [if_pos rfl]; exact eC')
  have hn₃ : s₃.heap.Ns C m' := ⟨oC, es, ep, eC₃, dC', rest⟩
  have heq : s₃ = { s₂ with heap := s₃.heap, toks := s₃.toks } := by
    have h1 := r₃.rest; have h2 := r₂.rest
    rw [h1, h2]
  refine ⟨m', hn₃, fun h'' sb => ?_⟩
  have r₄ : Rel G.h₁ env fz z (({ σ₁ with hp := ⟨D, true, .list (ms.flatMap F)⟩ :: σ₁.hp } : Mine.St).put y (.ref D)) s₃ := by
    have ne : ∀ b, b ≠ C → (if b = C then h'.get? C else fz b) = fz b := fun b hb => if_neg hb
    refine ⟨rD.base, fun b o e => r₃.keep b o ((ne b (by rintro rfl; rw [zC] at e; cases e)).trans e), rD.fzL, r₃.ns, r₃.cells, fun q x cc hx => ?_, fun en he => ?_, r₃.pw, r₃.rest⟩
    · obtain ⟨a, ov, o, e1, e2⟩ := r₃.cown q x cc hx
      refine ⟨(ne cc ?_).symm.trans a, ov, o, e1, e2⟩
      rintro rfl
      rw [eC₃] at e1; cases e1; rw [dC'] at e2; cases e2
    · obtain ⟨a, b⟩ := r₃.hp en he
      have hne : en.a ≠ C := by
        rcases List.mem_cons.mp he with rfl | he
        · exact Ne.symm hCD
        · exact eC en he
      have b' : (en.own = true → (if en.a = C then h'.get? C else fz en.a) = none ∧ en.a ≠ env.locals) ∧ (en.own = false → (if en.a = C then h'.get? C else fz en.a).isSome = true) := b
      rw [if_neg hne] at b'
      exact ⟨a, b'⟩
  obtain ⟨r₅, t₅⟩ := r₄.but (fun b => b = C) (h' := h'') (tk := s₃.toks) (fun b hb => by
    subst hb
    refine ⟨zC, lC, fun e he => ?_⟩
    rcases List.mem_cons.mp he with rfl | he
    · exact Ne.symm hCD
    · exact eC e he) (fun b o hb e => by
      subst hb
      have e1 : s₃.heap.get? b = some o := e
      rw [eC₃] at e1; cases e1
      exact ⟨fun v d => (by rw [dC'] at d; cases d), fun arr n _ d => (by rw [dC'] at d; cases d)⟩) (fun b o hb e => sb.extBut _ _ hb e)
  exact q _ .next _ _ rfl (fin D) r₅ (t₂.trans (tD.trans (t₃.trans t₅)))

/-! ranges -/
theorem XSrc_range1 (hh : A.handled = none) {e : Expr} {p pos : Pos} {Ψ : List MV → (Heap → Prop) → St → Prop}
    (h : XE G env A σ (.Name "range" p) fun m σ₁ => m = .raw (.type "range") ∧ XE G env A σ₁ e fun v σ₂ => ∃ n : Nat, v = .int n ∧ n < 2 ^ 62 ∧ Ψ (rng 0 n) (fun _ => True) σ₂)
    (he : backTo pos (starEach [e] env) = [(false, eval e env)]) : XSrc G env A σ (.Call (.Name "range" p) [e] [] pos) Ψ := .mk fun fz z s Q E r q =>
  wpAny_Call_NameR (h.run fz z s _ E r fun f m σ₁ s₁ va h₁ r₁ t₁ => by
    obtain ⟨rfl, h₁⟩ := h₁
    cases (va : f = _)
    rw [he]
    refine callWith_raw (fun _ e => nomatch e) rfl (spliced_cons (h₁.run fz z s₁ _ E r₁ fun v mv σ₂ s₂ vb h₂ r₂ t₂ => spliced_nil ?_))
    obtain ⟨n, rfl, hn, hΨ⟩ := h₂
    obtain ⟨tk, rfl⟩ := vb
    refine call_range_1 ?_
    have kp : ∀ b o, s₂.heap.get? b = some o → (s₂.heap.push { cls := .type "range", data := .fields #[.int 0 s₂.toks, .int n tk, .int 1 (s₂.toks + 1)] }).get? b = some o := fun b o e => Heap.get?_push_of_some _ e
    have r₃ := r₂.keepAll' (tk := s₂.toks + 1 + 1) kp
    refine XSrc_range_core (A := A) hh (s := { s₂ with heap := _, toks := _ }) (IsRange.new _ _ _ _ _ _ _) (Int.le_refl _) (by omega) (by omega) fun I wr St h' tk' it st fr k => ?_
    have e1 : (0 : Int).toNat = 0 := rfl
    have e2 : ((n : Int) - 0).toNat = n := by omega
    rw [e1, e2] at it
    exact q _ _ I wr St σ₂ _ hΨ it st (r₃.keepAll' k) (fun b hb => (r₃.lt_of (fr b hb)).1) (t₁.trans (t₂.trans ((TK.of_keep kp).trans (TK.of_keep k)))))
theorem XSrc_range2 (hh : A.handled = none) {e e' : Expr} {p pos : Pos} {Ψ : List MV → (Heap → Prop) → St → Prop}
    (h : XE G env A σ (.Name "range" p) fun m σ₁ => m = .raw (.type "range") ∧ XE G env A σ₁ e fun v σ₂ => ∃ a : Nat, v = .int a ∧ XE G env A σ₂ e' fun v σ₂ => ∃ n : Nat, v = .int ((a + n : Nat) : Int) ∧ a + n < 2 ^ 62 ∧ Ψ (rng a n) (fun _ => True) σ₂)
    (he : backTo pos (starEach [e, e'] env) = [(false, eval e env), (false, eval e' env)]) : XSrc G env A σ (.Call (.Name "range" p) [e, e'] [] pos) Ψ := .mk fun fz z s Q E r q =>
  wpAny_Call_NameR (h.run fz z s _ E r fun f m σ₁ s₁ va h₁ r₁ t₁ => by
    obtain ⟨rfl, h₁⟩ := h₁
    cases (va : f = _)
    rw [he]
    refine callWith_raw (fun _ e => nomatch e) rfl (spliced_cons (h₁.run fz z s₁ _ E r₁ fun v mv σ₂ s₂ vb h₂ r₂ t₂ => ?_))
    obtain ⟨a, rfl, h₂⟩ := h₂
    obtain ⟨tk, rfl⟩ := vb
    refine spliced_cons (h₂.run fz z s₂ _ E r₂ fun v mv σ₃ s₃ vb h₃ r₃ t₃ => spliced_nil ?_)
    obtain ⟨n, rfl, hn, hΨ⟩ := h₃
    obtain ⟨tk₂, rfl⟩ := vb
    refine call_range_2 ?_
    have kp : ∀ b o, s₃.heap.get? b = some o → (s₃.heap.push { cls := .type "range", data := .fields #[.int a tk, .int ((a + n : Nat) : Int) tk₂, .int 1 s₃.toks] }).get? b = some o := fun b o e => Heap.get?_push_of_some _ e
    have r₄ := r₃.keepAll' (tk := s₃.toks + 1) kp
    refine XSrc_range_core (A := A) hh (s := { s₃ with heap := _, toks := _ }) (IsRange.new _ _ _ _ _ _ _) (by omega) (by omega) (by omega) fun I wr St h' tk' it st fr k => ?_
    have e1 : ((a : Int)).toNat = a := rfl
    have e2 : (((a + n : Nat) : Int) - (a : Int)).toNat = n := by omega
    rw [e1, e2] at it
    exact q _ _ I wr St σ₃ _ hΨ it st (r₄.keepAll' k) (fun b hb => (r₄.lt_of (fr b hb)).1) (t₁.trans (t₂.trans (t₃.trans ((TK.of_keep kp).trans (TK.of_keep k))))))
end
end Mine
end PartB6

section PartB7
open PySem PySem.Calls PySem.W PyProof.Rows
set_option maxRecDepth 100000
set_option linter.unusedVariables false
namespace Mine

def BA (h : Heap) : List (Str × MV) → List (Str × Value) → Prop
  | [], bs => bs = []
  | p :: ps, bs => ∃ v r, bs = (p.1, v) :: r ∧ VA h p.2 v ∧ BA h ps r
theorem BA.nil {h : Heap} : BA h [] [] := rfl
theorem BA.cons {h : Heap} {n : Str} {m : MV} {v : Value} {ps : List (Str × MV)} {bs : List (Str × Value)} (x : VA h m v) (y : BA h ps bs) : BA h ((n, m) :: ps) ((n, v) :: bs) := ⟨v, bs, rfl, x, y⟩
theorem BA.mono {h h' : Heap} (k : TK h h') : ∀ {ps : List (Str × MV)} {bs : List (Str × Value)}, BA h ps bs → BA h' ps bs
  | [], _, x => x
  | _ :: _, _, ⟨v, r, e, x, y⟩ => ⟨v, r, e, x.mono k, BA.mono k y⟩
theorem BA.append {h : Heap} : ∀ {ps qs : List (Str × MV)} {bs cs : List (Str × Value)}, BA h ps bs → BA h qs cs → BA h (ps ++ qs) (bs ++ cs)
  | [], _, _, _, x, y => by subst x; exact y
  | _ :: _, _, _, _, ⟨v, r, e, x, z⟩, y => by subst e; exact ⟨v, _, rfl, x, BA.append z y⟩
theorem BA.reverse {h : Heap} : ∀ {ps : List (Str × MV)} {bs : List (Str × Value)}, BA h ps bs → BA h ps.reverse bs.reverse
  | [], _, x => by subst x; exact BA.nil
  | p :: _, _, ⟨v, r, e, x, z⟩ => by subst e; rw [List.reverse_cons, List.reverse_cons]; exact BA.append (BA.reverse z) ⟨v, [], rfl, x, rfl⟩
theorem BA.lookup {h : Heap} {x : Str} {m : MV} : ∀ {ps : List (Str × MV)} {bs : List (Str × Value)}, BA h ps bs → ps.lookup x = some m → ∃ v, bs.lookup x = some v ∧ VA h m v
  | [], _, _, e => by simp at e
  | p :: ps, _, ⟨v, r, e, y, z⟩, q => by
    obtain ⟨n, m'⟩ := p
    subst e
    rw [List.lookup_cons] at q ⊢
    cases hx : x == n with
    | true => rw [hx] at q; cases q; exact ⟨v, rfl, y⟩
    | false => rw [hx] at q; exact BA.lookup z q
theorem BA.names {h : Heap} : ∀ {ps : List (Str × MV)} {bs : List (Str × Value)}, BA h ps bs → bs.map (·.1) = ps.map (·.1)
  | [], _, x => by subst x; rfl
  | _ :: _, _, ⟨v, r, e, x, z⟩ => by subst e; simp [BA.names z]
theorem BA.length {h : Heap} {ps : List (Str × MV)} {bs : List (Str × Value)} (x : BA h ps bs) : bs.length = ps.length := by
  have := congrArg List.length x.names
  simpa using this

def retOf : MF → MV
  | .ret v => v
  | _ => .none

section
variable {G : Gl} {env : Env} {A : Around} {σ σ' : St}

/-- a call of any arguments -/
structure XCa (G : Gl) (env : Env) (A : Around) (σ : St) (f : Value) (ms : List MV) (ks : List (Str × MV)) (Φ : MV → St → Prop) : Prop where
  run : ∀ (fz : Fz) (z s : Shared) (Q : Value → Shared → Prop) (E : Value → Shared → Prop) (vs : List Value) (kv : List (Str × Value)), VAs s.heap ms vs → BA s.heap ks kv → Rel G.h₁ env fz z σ s →
    (∀ x b σ' s', VA s'.heap b x → Φ b σ' → Rel G.h₁ env fz z σ' s' → TK s.heap s'.heap → Q x s') → wpAny (model G.prog G.w) A (call f vs kv) Q E s
theorem XC_of {f : Value} {ms : List MV} {Φ : MV → St → Prop} (h : XCa G env A σ f ms [] Φ) : XC G env A σ f ms Φ := .mk fun fz z s Q E vs va r q => h.run fz z s Q E vs [] va rfl r q
theorem XCk_of {f : Value} {ms : List MV} {n : Str} {k : MV} {Φ : MV → St → Prop} (h : XCa G env A σ f ms [(n, k)] Φ) : XCk G env A σ f ms n k Φ := .mk fun fz z s Q E vs kv va vk r q => h.run fz z s Q E vs [(n, kv)] va (BA.cons vk BA.nil) r q

/-- binding the arguments -/
structure XBd (G : Gl) (env : Env) (A : Around) (σ : St) (fd : FuncData) (ms : List MV) (ks : List (Str × MV)) (Ψ : List (Str × MV) → St → Prop) : Prop where
  run : ∀ (fz : Fz) (z s : Shared) (Q : List (Str × Value) → Shared → Prop) (E : Value → Shared → Prop) (vs : List Value) (kv : List (Str × Value)), VAs s.heap ms vs → BA s.heap ks kv → Rel G.h₁ env fz z σ s →
    (∀ binds bnd σ' s', BA s'.heap bnd binds → Ψ bnd σ' → Rel G.h₁ env fz z σ' s' → (∀ b o, s.heap.get? b = some o → s'.heap.get? b = some o) → Q binds s') → wpAny (model G.prog G.w) A (bindArgs fd ⟨vs, kv⟩) Q E s
theorem XBd_pure {fd : FuncData} {ms : List MV} {ks : List (Str × MV)} {Ψ : List (Str × MV) → St → Prop} (bnd : List (Str × MV))
    (hb : ∀ (h : Heap) vs kv, VAs h ms vs → BA h ks kv → ∃ binds, bindArgs fd ⟨vs, kv⟩ = pure binds ∧ BA h bnd binds) (h : Ψ bnd σ) : XBd G env A σ fd ms ks Ψ := .mk fun fz z s Q E vs kv va vk r q => by
  obtain ⟨binds, e, ba⟩ := hb s.heap vs kv va vk
  rw [e]
  exact wpAny_pure (q binds bnd σ s ba h r fun _ _ e => e)

/-- what a def must be -/
structure DefK (K : Frag) (f : Addr) (fd : FuncData) (body : List Stmt) : Prop where
  look : ∃ oc od osl, K.lookup f = some ⟨oc, od, .func fd, osl⟩
  code : codeIn K fd.code fd.qualname = true
  body : fd.body = .stmts body
  glob : fd.globals = mainGlobals
  blt : fd.builtins = builtinsNs
  clo : fd.closure = []
  co : fd.scope.isCoroutine = false
  gen : fd.scope.isGenerator = false
  kind : fd.scope.kind = .function

theorem callEnvOk {K : Frag} {f : Addr} {fd : FuncData} {body : List Stmt} (k : DefK K f fd body) (L : Addr) : EnvOk (callEnv fd L f) := ⟨k.kind, k.glob, k.blt⟩

/-- back in the caller's frame: all stays, and what is new is the caller's own -/
theorem Rel.back {h₁ : Heap} {fz : Fz} {z s s' : Shared} {env₂ : Env} {σ₂ : St} {new : List Ent} (r : Rel h₁ env fz z σ s) (r₂ : Rel h₁ env₂ (fun b => s.heap.get? b) z σ₂ s') (hs : new.Sublist σ₂.hp) (ho : ∀ e ∈ new, e.own = true) :
    Rel h₁ env fz z { σ with hp := new ++ σ.hp } s' := by
  have k : ∀ b o, s.heap.get? b = some o → s'.heap.get? b = some o := r₂.keep
  have r' := r.keepAll k r₂.rest
  have fr : ∀ e ∈ new, s.heap.get? e.a = none := fun e he => ((r₂.hp e (hs.mem he)).2.1 (ho e he)).1
  refine ⟨r'.base, r'.keep, r'.fzL, r'.ns, r'.cells, r'.cown, fun e he => ?_, ?_, r'.rest⟩
  · rcases List.mem_append.mp he with he | he
    · obtain ⟨f1, f2, f3⟩ := r.lt_of (fr e he)
      exact ⟨(r₂.hp e (hs.mem he)).1, fun _ => ⟨f1, f2⟩, fun q => by rw [ho e he] at q; cases q⟩
    · exact r'.hp e he
  · refine List.pairwise_append.mpr ⟨r₂.pw.sublist hs, r'.pw, fun e he e' he' => ?_⟩
    obtain ⟨_, _, f3⟩ := r.lt_of (fr e he)
    exact (f3 e' he').symm

/-- a call of a def without cells, that changes nothing that stood -/
theorem XC_def (g : G.Ok) {n : Nat} (room : Room A (n + 1)) {f : Addr} {fd : FuncData} {body : List Stmt} {ms : List MV} {ks : List (Str × MV)} {Φ : MV → St → Prop} (k : DefK G.K f fd body) (hcell : ∀ x ∈ fd.scope.names, x.2 ≠ .cell)
    (h : XBd G env A.in1 σ fd ms ks fun bnd σ₁ => (∀ y ∈ bnd, fd.scope.names.lookup y.1 = some .local) ∧
      ∀ L, Room (A.deeper (callEnv fd L f)) n → XSs G (callEnv fd L f) (A.deeper (callEnv fd L f)) ⟨bnd.reverse, frzAll σ₁.hp, true⟩ body fun fl σ' => ∃ new, new.Sublist σ'.hp ∧ (∀ e ∈ new, e.own = true) ∧ Φ (retOf fl) { σ₁ with hp := new ++ σ₁.hp }) :
    XCa G env A σ (.ref f) ms ks Φ := .mk fun fz z s Q E vs kv va vk r q => by
  obtain ⟨oc, od, osl, hK⟩ := k.look
  have X := g.X.keeps r.old
  refine wpAny_call (codeAny_call_function room.lim (X _ _ hK) rfl k.co k.gen k.body (codeRec_of X k.code) (h.run fz z s _ _ vs kv va vk r fun binds bnd σ₁ s₁ ba hΨ r₁ k₁ => ?_))
  obtain ⟨hloc, hb⟩ := hΨ
  have hloc' : ∀ x ∈ binds, fd.scope.names.lookup x.1 = some .local := fun x hx => by
    have hm : x.1 ∈ bnd.map (·.1) := ba.names ▸ List.mem_map_of_mem hx
    obtain ⟨y, hy, e⟩ := List.mem_map.mp hm
    rw [← e]; exact hloc y hy
  refine wpAny_newFunctionEnv hcell hloc' (fun h₀ hns₀ hsb₀ => ⟨(g.nolimit.keeps r₁.old).fresh _ hsb₀, codeAny_func ?_⟩) k.kind
  have kp : ∀ b o, s₁.heap.get? b = some o → h₀.get? b = some o := fun b o e => hsb₀.extBut b o (Nat.ne_of_lt (Heap.lt_size e)) (Heap.get?_push_of_some _ e)
  have t₀ : TK s₁.heap h₀ := TK.of_keep kp
  have hL : s₁.heap.get? s₁.heap.objs.size = none := fresh_size _
  show wpAny _ (A.deeper (callEnv fd s₁.heap.objs.size f)) (execs body (callEnv fd s₁.heap.objs.size f)) _ _ _
  refine (hb s₁.heap.objs.size room.deeper).run (fun b => s₁.heap.get? b) z { s₁ with heap := h₀, toks := s₁.toks + binds.length } _ _ ?_ fun fl mfl σ₂ s₂ fa hΦ r₂ t₂ => ?_
  · refine ⟨fun b o e => r₁.old b o e, kp, hL, ⟨_, hns₀, fun x v e _ => ?_⟩, fun x v _ e => ?_, fun _ x c e => ?_, fun e he => ?_, ?_, by have := r₁.rest; rw [this]⟩
    · obtain ⟨v', e1, e2⟩ := ba.reverse.lookup e
      exact ⟨v', e1, e2.mono t₀⟩
    · exfalso
      obtain ⟨v', e1, _⟩ := ba.reverse.lookup ‹_›
      have hm : (x, v') ∈ binds := List.mem_reverse.mp (mem_of_lookup e1)
      have hl : fd.scope.names.lookup x = some .local := hloc' _ hm
      have e' : fd.scope.names.lookup x = some .cell ∨ fd.scope.names.lookup x = some .free := e
      rw [hl] at e'
      rcases e' with e' | e' <;> cases e'
    · have e' : fd.closure.lookup x = some c := e
      rw [k.clo] at e'; simp at e'
    · obtain ⟨e', he', rfl⟩ := List.mem_map.mp he
      obtain ⟨a, _⟩ := r₁.hp e' he'
      obtain ⟨o, ho, _⟩ := a.get
      exact ⟨a.mono t₀ fun o => kp _ o, fun q => (nomatch q), fun _ => by show (s₁.heap.get? e'.a).isSome = true; rw [ho]; rfl⟩
    · show (frzAll σ₁.hp).Pairwise _
      unfold frzAll
      rw [List.pairwise_map]
      exact r₁.pw
  · obtain ⟨new, hs, ho, hΦ⟩ := hΦ
    have rb := r₁.back r₂ hs ho
    have tt : TK s.heap s₂.heap := (TK.of_keep k₁).trans (t₀.trans t₂)
    cases mfl with
    | next => cases (fa : fl = _); exact q .none .none _ _ rfl hΦ rb tt
    | brk => cases (fa : fl = _); exact q .none .none _ _ rfl hΦ rb tt
    | cont => cases (fa : fl = _); exact q .none .none _ _ rfl hΦ rb tt
    | ret v => obtain ⟨v', rfl, va'⟩ := fa; exact q v' v _ _ va' hΦ rb tt

/-- a call of a def without cells, that changes one own object of the caller's -/
theorem XC_defM (g : G.Ok) {n : Nat} (room : Room A (n + 1)) {f : Addr} {fd : FuncData} {body : List Stmt} {ms : List MV} {ks : List (Str × MV)} {Φ : MV → St → Prop} (k : DefK G.K f fd body) (hcell : ∀ x ∈ fd.scope.names, x.2 ≠ .cell)
    (h : XBd G env A.in1 σ fd ms ks fun bnd σ₁ => (∀ y ∈ bnd, fd.scope.names.lookup y.1 = some .local) ∧ ∃ (i : Nat) (b : Addr) (m : MO), σ₁.hp[i]? = some ⟨b, true, m⟩ ∧
      ∀ L, Room (A.deeper (callEnv fd L f)) n → XSs G (callEnv fd L f) (A.deeper (callEnv fd L f)) ⟨bnd.reverse, (frzAll σ₁.hp).set i ⟨b, true, m⟩, true⟩ body fun fl σ' => ∃ m', ⟨b, true, m'⟩ ∈ σ'.hp ∧
        ∃ σ'', Le σ'' { σ₁ with hp := σ₁.hp.set i ⟨b, true, m'⟩ } ∧ Φ (retOf fl) σ'') :
    XCa G env A σ (.ref f) ms ks Φ := .mk fun fz z s Q E vs kv va vk r q => by
  obtain ⟨oc, od, osl, hK⟩ := k.look
  have X := g.X.keeps r.old
  refine wpAny_call (codeAny_call_function room.lim (X _ _ hK) rfl k.co k.gen k.body (codeRec_of X k.code) (h.run fz z s _ _ vs kv va vk r fun binds bnd σ₁ s₁ ba hΨ r₁ k₁ => ?_))
  obtain ⟨hloc, i, b, m, hi, hb⟩ := hΨ
  have hloc' : ∀ x ∈ binds, fd.scope.names.lookup x.1 = some .local := fun x hx => by
    have hm : x.1 ∈ bnd.map (·.1) := ba.names ▸ List.mem_map_of_mem hx
    obtain ⟨y, hy, e⟩ := List.mem_map.mp hm
    rw [← e]; exact hloc y hy
  refine wpAny_newFunctionEnv hcell hloc' (fun h₀ hns₀ hsb₀ => ⟨(g.nolimit.keeps r₁.old).fresh _ hsb₀, codeAny_func ?_⟩) k.kind
  have kp : ∀ b o, s₁.heap.get? b = some o → h₀.get? b = some o := fun b o e => hsb₀.extBut b o (Nat.ne_of_lt (Heap.lt_size e)) (Heap.get?_push_of_some _ e)
  have t₀ : TK s₁.heap h₀ := TK.of_keep kp
  have hL : s₁.heap.get? s₁.heap.objs.size = none := fresh_size _
  have hmem := List.mem_of_getElem? hi
  have hil : i < σ₁.hp.length := (List.getElem?_eq_some_iff.mp hi).1
  have hie : σ₁.hp[i] = ⟨b, true, m⟩ := (List.getElem?_eq_some_iff.mp hi).2
  obtain ⟨hO, hown, _⟩ := r₁.hp _ hmem
  obtain ⟨hfb, hbL⟩ := hown rfl
  obtain ⟨ob, hob, _⟩ := hO.get
  have hbsz : b ≠ s₁.heap.objs.size := Nat.ne_of_lt (Heap.lt_size hob)
  show wpAny _ (A.deeper (callEnv fd s₁.heap.objs.size f)) (execs body (callEnv fd s₁.heap.objs.size f)) _ _ _
  refine (hb s₁.heap.objs.size room.deeper).run (fun c => if c = b then none else s₁.heap.get? c) z { s₁ with heap := h₀, toks := s₁.toks + binds.length } _ _ ?_ fun fl mfl σ₂ s₂ fa hΦ r₂ t₂ => ?_
  · refine ⟨fun c o e => ?_, fun c o e => ?_, ?_, ⟨_, hns₀, fun x v e _ => ?_⟩, fun x v _ e => ?_, fun _ x c e => ?_, fun e he => ?_, ?_, by have := r₁.rest; rw [this]⟩
    · show (if c = b then none else s₁.heap.get? c) = _
      rw [if_neg (by rintro rfl; rw [r₁.base _ _ e] at hfb; cases hfb)]
      exact r₁.old c o e
    · have e' : (if c = b then none else s₁.heap.get? c) = some o := e
      split at e'
      · cases e'
      · exact kp _ _ e'
    · show (if s₁.heap.objs.size = b then none else s₁.heap.get? s₁.heap.objs.size) = none
      rw [hL]; split <;> rfl
    · obtain ⟨v', e1, e2⟩ := ba.reverse.lookup e
      exact ⟨v', e1, e2.mono t₀⟩
    · exfalso
      obtain ⟨v', e1, _⟩ := ba.reverse.lookup ‹_›
      have hm : (x, v') ∈ binds := List.mem_reverse.mp (mem_of_lookup e1)
      have hl : fd.scope.names.lookup x = some .local := hloc' _ hm
      have e' : fd.scope.names.lookup x = some .cell ∨ fd.scope.names.lookup x = some .free := e
      rw [hl] at e'
      rcases e' with e' | e' <;> cases e'
    · have e' : fd.closure.lookup x = some c := e
      rw [k.clo] at e'; simp at e'
    · obtain ⟨j, hj, hje⟩ := List.mem_iff_getElem.mp he
      rw [List.getElem_set] at hje
      split at hje
      · subst hje
        exact ⟨hO.mono t₀ fun o => kp _ o, fun _ => ⟨if_pos rfl, hbsz⟩, fun q => (nomatch q)⟩
      · rename_i hne
        have hj' : j < σ₁.hp.length := by simpa [frzAll] using hj
        have hej : e = σ₁.hp[j].frz := by rw [← hje]; simp [frzAll]
        subst hej
        obtain ⟨a, _⟩ := r₁.hp σ₁.hp[j] (List.getElem_mem hj')
        obtain ⟨o, ho, _⟩ := a.get
        have hab : σ₁.hp[j].a ≠ b := by
          rcases Nat.lt_or_gt_of_ne hne with hh | hh
          · have := (List.pairwise_iff_getElem.mp r₁.pw) i j hil hj' hh
            rw [hie] at this; exact this.symm
          · have := (List.pairwise_iff_getElem.mp r₁.pw) j i hj' hil hh
            rw [hie] at this; exact this
        refine ⟨a.mono t₀ fun o => kp _ o, fun q => (nomatch q), fun _ => ?_⟩
        show (if σ₁.hp[j].a = b then none else s₁.heap.get? σ₁.hp[j].a).isSome = true
        rw [if_neg hab, ho]; rfl
    · have key : ((frzAll σ₁.hp).set i ⟨b, true, m⟩).map (·.a) = σ₁.hp.map (·.a) := by
        apply List.ext_getElem (by simp [frzAll])
        intro j h1 h2
        rw [List.getElem_map, List.getElem_map, List.getElem_set]
        split
        · rename_i q; subst q; rw [hie]
        · simp [frzAll, Ent.frz]
      have h2 : (((frzAll σ₁.hp).set i ⟨b, true, m⟩).map (·.a)).Pairwise (· ≠ ·) := by
        rw [key, List.pairwise_map]; exact r₁.pw
      rw [List.pairwise_map] at h2
      exact h2
  · obtain ⟨m', hm', σ'', hle, hΦ⟩ := hΦ
    have hk : ∀ c o, c ≠ b → s₁.heap.get? c = some o → s₂.heap.get? c = some o := fun c o hc e => r₂.keep c o (by show (if c = b then none else s₁.heap.get? c) = _; rw [if_neg hc]; exact e)
    have heq : s₂ = { s₁ with heap := s₂.heap, toks := s₂.toks } := by
      have h1 := r₂.rest; have h2 := r₁.rest
      rw [h1, h2]
    obtain ⟨rb, tb⟩ := r₁.change (h' := s₂.heap) (tk := s₂.toks) (m' := m') hi hk fun _ => (r₂.hp _ hm').1
    rw [← heq] at rb
    have rb' := rb.le hle
    have tt : TK s.heap s₂.heap := (TK.of_keep k₁).trans (t₀.trans t₂)
    cases mfl with
    | next => cases (fa : fl = _); exact q .none .none _ _ rfl hΦ rb' tt
    | brk => cases (fa : fl = _); exact q .none .none _ _ rfl hΦ rb' tt
    | cont => cases (fa : fl = _); exact q .none .none _ _ rfl hΦ rb' tt
    | ret v => obtain ⟨v', rfl, va'⟩ := fa; exact q v' v _ _ va' hΦ rb' tt

/-! defs with cells -/
theorem cellsFrom_ge : ∀ (names : List (Str × NameKind)) (n : Nat) (acc : List (Str × Addr)), (∀ p ∈ acc, p.2 < n) → acc.Pairwise (fun x y => x.2 ≠ y.2) → (cellsFrom n names acc).Pairwise fun x y => x.2 ≠ y.2
  | [], _, _, _, h => h
  | (name, kind) :: r, n, acc, hl, h => by
    unfold cellsFrom
    split
    · refine cellsFrom_ge r (n + 1) ((name, n) :: acc) (fun p hp => ?_) (List.pairwise_cons.mpr ⟨fun p hp => Nat.ne_of_gt (hl p hp), h⟩)
      rcases List.mem_cons.mp hp with rfl | hp
      · exact Nat.lt_succ_self _
      · exact Nat.lt_succ_of_lt (hl p hp)
    · exact cellsFrom_ge r n acc hl h
theorem pairwise_lookup : ∀ {l : List (Str × Addr)} {x y : Str} {c : Addr}, l.Pairwise (fun x y => x.2 ≠ y.2) → l.lookup x = some c → l.lookup y = some c → y = x
  | [], _, _, _, _, e, _ => by simp at e
  | (n, c') :: r, x, y, c, h, e1, e2 => by
    rw [List.pairwise_cons] at h
    rw [List.lookup_cons] at e1 e2
    cases hx : x == n with
    | true =>
      cases hy : y == n with
      | true => rw [eq_of_beq hx, eq_of_beq hy]
      | false =>
        rw [hx] at e1; rw [hy] at e2
        cases e1
        exact absurd rfl (h.1 (y, c') (PySem.mem_of_lookup (n := y) e2))
    | false =>
      cases hy : y == n with
      | true =>
        rw [hx] at e1; rw [hy] at e2
        cases e2
        exact absurd rfl (h.1 (x, c') (PySem.mem_of_lookup (n := x) e1))
      | false =>
        rw [hx] at e1; rw [hy] at e2
        exact pairwise_lookup h.2 e1 e2
theorem bindL_lookup {kindOf : Str → Option NameKind} {x : Str} (hx : kindOf x = some .local) : ∀ (bs : List (Str × Value)) (m : Str → Option Value), bindL kindOf bs m x = (bs.reverse.lookup x).or (m x)
  | [], m => rfl
  | (n, v) :: r, m => by
    unfold bindL
    rw [bindL_lookup hx r, List.reverse_cons, List.lookup_append]
    cases r.reverse.lookup x with
    | some u => rfl
    | none =>
      simp only [Option.none_or, List.lookup_cons, List.lookup_nil]
      cases hn : x == n with
      | true => cases eq_of_beq hn; rw [if_pos hx]; simp
      | false =>
        have : x ≠ n := fun q => by rw [q] at hn; simp at hn
        split <;> simp [this]
theorem bindC_lookup {kindOf : Str → Option NameKind} {x : Str} (hx : kindOf x ≠ some .local) : ∀ (bs : List (Str × Value)) (m : Str → Option Value), bindC kindOf bs m x = (bs.reverse.lookup x).or (m x)
  | [], m => rfl
  | (n, v) :: r, m => by
    unfold bindC
    rw [bindC_lookup hx r, List.reverse_cons, List.lookup_append]
    cases r.reverse.lookup x with
    | some u => rfl
    | none =>
      simp only [Option.none_or, List.lookup_cons, List.lookup_nil]
      cases hn : x == n with
      | true => cases eq_of_beq hn; rw [if_neg hx]; simp
      | false =>
        have : x ≠ n := fun q => by rw [q] at hn; simp at hn
        split <;> simp [this]

/-- the frame of a def with cells -/
def cEnv (fd : FuncData) (L a : Addr) : Env := newEnv fd.scope L fd.globals (cellsFrom (L + 1) fd.scope.names []) (fd.qualname ++ ".<locals>.") (some a) fd.code none fd.builtins
theorem cEnvOk {K : Frag} {f : Addr} {fd : FuncData} {body : List Stmt} (k : DefK K f fd body) (L : Addr) : EnvOk (cEnv fd L f) := ⟨k.kind, k.glob, k.blt⟩
theorem cEnv_inj {fd : FuncData} {L a : Addr} {x : Str} : ∀ y c, (cEnv fd L a).cells.lookup x = some c → (cEnv fd L a).cells.lookup y = some c → y = x := fun y c e1 e2 =>
  pairwise_lookup (cellsFrom_ge _ _ _ (fun _ h => absurd h List.not_mem_nil) List.Pairwise.nil) e1 e2

theorem XC_defC (g : G.Ok) {n : Nat} (room : Room A (n + 1)) {f : Addr} {fd : FuncData} {body : List Stmt} {ms : List MV} {ks : List (Str × MV)} {Φ : MV → St → Prop} (k : DefK G.K f fd body)
    (h : XBd G env A.in1 σ fd ms ks fun bnd σ₁ => (∀ y ∈ bnd, fd.scope.names.lookup y.1 = some .local ∨ (fd.scope.names.lookup y.1 = some .cell ∧ ∀ n, ((cellsFrom n fd.scope.names []).lookup y.1).isSome = true)) ∧
      ∀ L, Room (A.deeper (cEnv fd L f)) n → XSs G (cEnv fd L f) (A.deeper (cEnv fd L f)) ⟨bnd.reverse, frzAll σ₁.hp, true⟩ body fun fl σ' => ∃ new, new.Sublist σ'.hp ∧ (∀ e ∈ new, e.own = true) ∧ Φ (retOf fl) { σ₁ with hp := new ++ σ₁.hp }) :
    XCa G env A σ (.ref f) ms ks Φ := .mk fun fz z s Q E vs kv va vk r q => by
  obtain ⟨oc, od, osl, hK⟩ := k.look
  have X := g.X.keeps r.old
  refine wpAny_call (codeAny_call_function room.lim (X _ _ hK) rfl k.co k.gen k.body (codeRec_of X k.code) (h.run fz z s _ _ vs kv va vk r fun binds bnd σ₁ s₁ ba hΨ r₁ k₁ => ?_))
  obtain ⟨hloc, hb⟩ := hΨ
  have hloc' : ∀ x ∈ binds, fd.scope.names.lookup x.1 = some .local ∨ (fd.scope.names.lookup x.1 = some .cell ∧ ((cellsFrom (s₁.heap.objs.size + 1) fd.scope.names []).lookup x.1).isSome = true) := fun x hx => by
    have hm : x.1 ∈ bnd.map (·.1) := ba.names ▸ List.mem_map_of_mem hx
    obtain ⟨y, hy, e⟩ := List.mem_map.mp hm
    rw [← e]; exact (hloc y hy).imp id fun q => ⟨q.1, q.2 _⟩
  rw [k.clo]
  refine wpAny_newFunctionEnv_cells k.kind hloc' fun env' he s' x => ?_
  subst he
  obtain ⟨h₀, tk₀, rfl⟩ := x.toInCall.same
  have kp := x.toInCall.keep
  refine ⟨(g.nolimit.keeps r₁.old).keeps kp, codeAny_func ?_⟩
  have t₀ : TK s₁.heap h₀ := TK.of_keep kp
  have hL : s₁.heap.get? s₁.heap.objs.size = none := fresh_size _
  show wpAny _ (A.deeper (cEnv fd s₁.heap.objs.size f)) (execs body (cEnv fd s₁.heap.objs.size f)) _ _ _
  refine (hb s₁.heap.objs.size room.deeper).run (fun b => s₁.heap.get? b) z { s₁ with heap := h₀, toks := tk₀ } _ _ ?_ fun fl mfl σ₂ s₂ fa hΦ r₂ t₂ => ?_
  · refine ⟨fun b o e => r₁.old b o e, kp, hL, ⟨_, x.toInCall.ns, fun y v e hk => ?_⟩, fun y v e hk => ?_, fun _ y c e => ?_, fun e he => ?_, ?_, by have := r₁.rest; rw [this]⟩
    · obtain ⟨v', e1, e2⟩ := ba.reverse.lookup e
      exact ⟨v', (bindL_lookup hk binds _).trans (by rw [e1]; rfl), e2.mono t₀⟩
    · obtain ⟨v', e1, e2⟩ := ba.reverse.lookup e
      have hm : (y, v') ∈ binds := List.mem_reverse.mp (mem_of_lookup e1)
      have hk' : fd.scope.names.lookup y = some .cell ∨ fd.scope.names.lookup y = some .free := hk
      rcases hloc' _ hm with hl | ⟨hl, hs⟩
      · rw [hl] at hk'; rcases hk' with q | q <;> cases q
      · obtain ⟨c, hc⟩ := Option.isSome_iff_exists.mp hs
        refine ⟨c, v', hc, ?_, e2.mono t₀⟩
        have := x.cell y c hc
        have e3 := bindC_lookup (kindOf := (cEnv fd s₁.heap.objs.size f).kindOf) (x := y) (by show fd.scope.names.lookup y ≠ _; rw [hl]; simp) binds (fun _ => none)
        rw [e1] at e3
        exact (show _ = some v' from e3) ▸ this
    · have hc : (cellsFrom (s₁.heap.objs.size + 1) fd.scope.names []).lookup y = some c := e
      exact ⟨Heap.get?_none_of_le (Nat.le_of_lt (x.above y c (mem_of_lookup hc))), _, x.cell y c hc⟩
    · obtain ⟨e', he', rfl⟩ := List.mem_map.mp he
      obtain ⟨a, _⟩ := r₁.hp e' he'
      obtain ⟨o, ho, _⟩ := a.get
      exact ⟨a.mono t₀ fun o => kp _ o, fun q => (nomatch q), fun _ => by show (s₁.heap.get? e'.a).isSome = true; rw [ho]; rfl⟩
    · show (frzAll σ₁.hp).Pairwise _
      unfold frzAll
      rw [List.pairwise_map]
      exact r₁.pw
  · obtain ⟨new, hs, ho, hΦ⟩ := hΦ
    have rb := r₁.back r₂ hs ho
    have tt : TK s.heap s₂.heap := (TK.of_keep k₁).trans (t₀.trans t₂)
    cases mfl with
    | next => cases (fa : fl = _); exact q .none .none _ _ rfl hΦ rb tt
    | brk => cases (fa : fl = _); exact q .none .none _ _ rfl hΦ rb tt
    | cont => cases (fa : fl = _); exact q .none .none _ _ rfl hΦ rb tt
    | ret v => obtain ⟨v', rfl, va'⟩ := fa; exact q v' v _ _ va' hΦ rb tt
end
end Mine
end PartB7

section PartB8
open PySem PySem.Calls PySem.W PyProof.Rows
set_option maxRecDepth 100000
set_option linter.unusedVariables false
namespace Mine
section
variable {G : Gl} {env : Env} {A : Around} {σ σ' : St}

/-- an operation that gives a new int, the heap as it was -/
theorem XV2_int {f : Value → Value → Sem Value} {a b : MV} {c : Int} {Φ : MV → St → Prop} (hΦ : Φ (.int c) σ)
    (h : ∀ (E : Value → Shared → Prop) (s : Shared) (v u : Value) (Q : Value → Shared → Prop), VA s.heap a v → VA s.heap b u → (∀ t k, Q (.int c t) { s with toks := k }) → wpAny (model G.prog G.w) A (f v u) Q E s) : XV2 G env A VA σ a b f Φ := .mk fun fz z s Q E v u va vb r q =>
  h E s v u Q va vb fun t k => q _ (.int c) σ _ ⟨_, rfl⟩ hΦ r.toks (TK.refl _)
theorem XV2_bool {f : Value → Value → Sem Value} {a b : MV} {c : Bool} {Φ : MV → St → Prop} (hΦ : Φ (.bool c) σ)
    (h : ∀ (E : Value → Shared → Prop) (s : Shared) (v u : Value) (Q : Value → Shared → Prop), VA s.heap a v → VA s.heap b u → (∀ k, Q (.bool c) { s with toks := k }) → wpAny (model G.prog G.w) A (f v u) Q E s) : XV2 G env A VA σ a b f Φ := .mk fun fz z s Q E v u va vb r q =>
  h E s v u Q va vb fun k => q _ (.bool c) σ _ rfl hΦ r.toks (TK.refl _)
theorem XV2_str {f : Value → Value → Sem Value} {a b : MV} {c : Str} {Φ : MV → St → Prop} (hΦ : Φ (.str c) σ)
    (h : ∀ (E : Value → Shared → Prop) (s : Shared) (v u : Value) (Q : Value → Shared → Prop), VA s.heap a v → VA s.heap b u → (∀ t k, Q (.str c t) { s with toks := k }) → wpAny (model G.prog G.w) A (f v u) Q E s) : XV2 G env A VA σ a b f Φ := .mk fun fz z s Q E v u va vb r q =>
  h E s v u Q va vb fun t k => q _ (.str c) σ _ ⟨_, rfl⟩ hΦ r.toks (TK.refl _)

variable {a b : Int} {Φ : MV → St → Prop}
theorem XV_add (h : Φ (.int (a + b)) σ) : XV2 G env A VA σ (.int a) (.int b) (binaryOp .Add) Φ := XV2_int h fun _ _ _ _ _ ⟨_, e⟩ ⟨_, e'⟩ q => e ▸ e' ▸ PyProof.Rows.add_int (q _ _)
theorem XV_sub (h : Φ (.int (a - b)) σ) : XV2 G env A VA σ (.int a) (.int b) (binaryOp .Sub) Φ := XV2_int h fun _ _ _ _ _ ⟨_, e⟩ ⟨_, e'⟩ q => e ▸ e' ▸ PyProof.Rows.sub_int (q _ _)
theorem XV_mul (hm : IntMulOk a b) (h : Φ (.int (a * b)) σ) : XV2 G env A VA σ (.int a) (.int b) (binaryOp .Mult) Φ := XV2_int h fun _ _ _ _ _ ⟨_, e⟩ ⟨_, e'⟩ q => e ▸ e' ▸ PyProof.Rows.mul_int (q _ _) hm
theorem XV_mod (hb : b ≠ 0) (h : Φ (.int (a.fmod b)) σ) : XV2 G env A VA σ (.int a) (.int b) (binaryOp .Mod) Φ := XV2_int h fun _ _ _ _ _ ⟨_, e⟩ ⟨_, e'⟩ q => e ▸ e' ▸ PyProof.Rows.mod_int hb (q _ _)
theorem XV_fdiv (hb : b ≠ 0) (hp : Builtin.divisionGoesByPylong a b = false) (h : Φ (.int (a.fdiv b)) σ) : XV2 G env A VA σ (.int a) (.int b) (binaryOp .FloorDiv) Φ := XV2_int h fun _ _ _ _ _ ⟨_, e⟩ ⟨_, e'⟩ q => e ▸ e' ▸ PyProof.Rows.floordiv_int hb (q _ _) (.inl hp)
theorem XV_shl (hn : 0 ≤ b) (hn2 : b ≤ 1000000) (ha : a.natAbs < 2 ^ 64) (h : Φ (.int (a * 2 ^ b.toNat)) σ) : XV2 G env A VA σ (.int a) (.int b) (binaryOp .LShift) Φ := XV2_int h fun _ _ _ _ _ ⟨_, e⟩ ⟨_, e'⟩ q => e ▸ e' ▸ PyProof.Rows.lshift_int_small hn hn2 ha (q _ _)
theorem XV_shr (hn : 0 ≤ b) (h : Φ (.int (a.fdiv (2 ^ b.toNat))) σ) : XV2 G env A VA σ (.int a) (.int b) (binaryOp .RShift) Φ := XV2_int h fun _ _ _ _ _ ⟨_, e⟩ ⟨_, e'⟩ q => e ▸ e' ▸ PyProof.Rows.rshift_int hn (q _ _)
theorem XV_and (h : Φ (.int (Builtin.bitAnd a b)) σ) : XV2 G env A VA σ (.int a) (.int b) (binaryOp .BitAnd) Φ := XV2_int h fun _ _ _ _ _ ⟨_, e⟩ ⟨_, e'⟩ q => e ▸ e' ▸ PyProof.Rows.and_int (q _ _)
theorem XV_or (h : Φ (.int (Builtin.bitOr a b)) σ) : XV2 G env A VA σ (.int a) (.int b) (binaryOp .BitOr) Φ := XV2_int h fun _ _ _ _ _ ⟨_, e⟩ ⟨_, e'⟩ q => e ▸ e' ▸ PyProof.Rows.or_int (q _ _)
theorem XV_iadd (h : Φ (.int (a + b)) σ) : XV2 G env A VA σ (.int a) (.int b) (inplaceOp .Add) Φ := XV2_int h fun _ _ _ _ _ ⟨_, e⟩ ⟨_, e'⟩ q => e ▸ e' ▸ PyProof.Rows.iadd_int (q _ _)
theorem XV_isub (h : Φ (.int (a - b)) σ) : XV2 G env A VA σ (.int a) (.int b) (inplaceOp .Sub) Φ := XV2_int h fun _ _ _ _ _ ⟨_, e⟩ ⟨_, e'⟩ q => e ▸ e' ▸ PyProof.Rows.isub_int (q _ _)
theorem XV_iand (h : Φ (.int (Builtin.bitAnd a b)) σ) : XV2 G env A VA σ (.int a) (.int b) (inplaceOp .BitAnd) Φ := XV2_int h fun _ _ _ _ _ ⟨_, e⟩ ⟨_, e'⟩ q => e ▸ e' ▸ PyProof.Rows.iand_int (q _ _)
theorem XV_ior (h : Φ (.int (Builtin.bitOr a b)) σ) : XV2 G env A VA σ (.int a) (.int b) (inplaceOp .BitOr) Φ := XV2_int h fun _ _ _ _ _ ⟨_, e⟩ ⟨_, e'⟩ q => e ▸ e' ▸ PyProof.Rows.ior_int (q _ _)
theorem XV_eq (h : Φ (.bool (a == b)) σ) : XV2 G env A VA σ (.int a) (.int b) (compareOp .Eq) Φ := XV2_bool h fun _ _ _ _ _ ⟨_, e⟩ ⟨_, e'⟩ q => e ▸ e' ▸ PyProof.Rows.eq_int (q _)
theorem XV_ne (h : Φ (.bool (a != b)) σ) : XV2 G env A VA σ (.int a) (.int b) (compareOp .NotEq) Φ := XV2_bool h fun _ _ _ _ _ ⟨_, e⟩ ⟨_, e'⟩ q => e ▸ e' ▸ PyProof.Rows.ne_int (q _)
theorem XV_gt (h : Φ (.bool (decide (b < a))) σ) : XV2 G env A VA σ (.int a) (.int b) (compareOp .Gt) Φ := XV2_bool h fun _ _ _ _ _ ⟨_, e⟩ ⟨_, e'⟩ q => e ▸ e' ▸ PyProof.Rows.gt_int (q _)
theorem XV_neg (h : Φ (.int (-a)) σ) : XV1 G env A VA σ (.int a) (unaryOp .USub) Φ := .mk fun fz z s Q E v va r q => by
  obtain ⟨t, rfl⟩ := va
  exact PyProof.Rows.neg_int (q _ (.int (-a)) σ _ ⟨_, rfl⟩ h r.toks (TK.refl _))
theorem XV_inv (h : Φ (.int (Builtin.bitNot a)) σ) : XV1 G env A VA σ (.int a) (unaryOp .Invert) Φ := .mk fun fz z s Q E v va r q => by
  obtain ⟨t, rfl⟩ := va
  exact PyProof.Rows.invert_int (q _ (.int (Builtin.bitNot a)) σ _ ⟨_, rfl⟩ h r.toks (TK.refl _))

variable {x y : Str}
theorem XV_addS (hsz : x.length + y.length ≤ sizeLine) (h : Φ (.str (x ++ y)) σ) : XV2 G env A VA σ (.str x) (.str y) (binaryOp .Add) Φ := XV2_str h fun _ _ _ _ _ ⟨_, e⟩ ⟨_, e'⟩ q => e ▸ e' ▸ PyProof.Rows.add_str q hsz
theorem XV_iaddS (hsz : x.length + y.length ≤ sizeLine) (h : Φ (.str (x ++ y)) σ) : XV2 G env A VA σ (.str x) (.str y) (inplaceOp .Add) Φ := XV2_str h fun _ _ _ _ _ ⟨_, e⟩ ⟨_, e'⟩ q => e ▸ e' ▸ PyProof.Rows.iadd_str q hsz
theorem XV_mulS (hok : MulOk x a) (h : Φ (.str (Txt.mul x a)) σ) : XV2 G env A VA σ (.str x) (.int a) (binaryOp .Mult) Φ := XV2_str h fun _ _ _ _ _ ⟨_, e⟩ ⟨_, e'⟩ q => e ▸ e' ▸ SB.mul hok q
theorem XV_eqS (h : Φ (.bool (x == y)) σ) : XV2 G env A VA σ (.str x) (.str y) (compareOp .Eq) Φ := XV2_bool h fun _ _ _ _ _ ⟨_, e⟩ ⟨_, e'⟩ q => e ▸ e' ▸ PyProof.Rows.eq_str (q _)
theorem XV_inS (h : Φ (.bool !(Builtin.Str.occurrences x y 0 x.length 1).isEmpty) σ) : XV2 G env A VA σ (.str y) (.str x) (compareOp .In) Φ := XV2_bool h fun _ _ _ _ _ ⟨_, e⟩ ⟨_, e'⟩ q => e ▸ e' ▸ PyProof.Rows.in_str (q _)
theorem XV_addB {x y : Array UInt8} (hsz : x.size + y.size ≤ 16777216) (h : Φ (.bytes (x ++ y)) σ) : XV2 G env A VA σ (.bytes x) (.bytes y) (binaryOp .Add) Φ := .mk fun fz z s Q E v u va vb r q => by
  obtain ⟨t, rfl⟩ := va
  obtain ⟨t', rfl⟩ := vb
  exact KBy.add_bytes hsz fun t k => q _ (.bytes (x ++ y)) σ _ ⟨_, rfl⟩ h r.toks (TK.refl _)

/-! is -/
def isNoneV : MV → Bool
  | .none => true
  | _ => false
theorem XV_isnotNone {m : MV} (h : Φ (.bool (!isNoneV m)) σ) (hm : ∀ v, m = .raw v → v ≠ .none) : XV2 G env A VA σ m .none (compareOp .IsNot) Φ := XV2_bool h fun _ s v u _ va vb q => by
  cases (vb : u = .none)
  refine isnot_none_gen ?_
  have : (v == Value.none) = isNoneV m := by
    cases m with
    | none => cases (va : v = _); rfl
    | bool b => cases (va : v = _); rfl
    | int i => obtain ⟨_, rfl⟩ := va; rfl
    | str i => obtain ⟨_, rfl⟩ := va; rfl
    | bytes i => obtain ⟨_, rfl⟩ := va; rfl
    | ref i => cases (va : v = _); rfl
    | raw w => cases (va : v = _); exact beq_false_of_ne (hm v rfl)
    | tup vs => obtain ⟨_, _, rfl, _⟩ := va; rfl
  rw [this]; exact q _
theorem XV_isRaw {v u : Value} (hp : plainIs v u = true) (h : Φ (.bool (v == u)) σ) : XV2 G env A VA σ (.raw v) (.raw u) (compareOp .Is) Φ := XV2_bool h fun _ s v' u' _ va vb q => by
  cases (va : v' = _); cases (vb : u' = _)
  exact wpAny_is_plain hp (q _)
theorem XV_isnotRaw {v u : Value} (hp : plainIs v u = true) (h : Φ (.bool (!(v == u))) σ) : XV2 G env A VA σ (.raw v) (.raw u) (compareOp .IsNot) Φ := XV2_bool h fun _ s v' u' _ va vb q => by
  cases (va : v' = _); cases (vb : u' = _)
  exact wpAny_isNot_plain hp (q _)

/-! truth -/
variable {Ψ : Bool → St → Prop}
theorem XV_truthB {c : Bool} (h : Ψ c σ) : XV1 G env A RB σ (.bool c) truthy Ψ := .mk fun fz z s Q E v va r q => by
  cases (va : v = _); exact wpAny_truthy_bool (q _ _ _ _ rfl h r (TK.refl _))
theorem XV_truthI (h : Ψ (a != 0) σ) : XV1 G env A RB σ (.int a) truthy Ψ := .mk fun fz z s Q E v va r q => by
  obtain ⟨t, rfl⟩ := va; exact PyProof.Rows.truthy_int (q _ _ _ _ rfl h r (TK.refl _))
theorem XV_truthN (h : Ψ false σ) : XV1 G env A RB σ .none truthy Ψ := .mk fun fz z s Q E v va r q => by
  cases (va : v = _); exact PyProof.Rows.truthy_none (q _ _ _ _ rfl h r (TK.refl _))
end
end Mine
end PartB8

section PartB9
open PySem PySem.Calls PySem.W PyProof.Rows PySem.Spec
set_option maxRecDepth 100000
set_option linter.unusedVariables false
namespace Mine

def allN (L : Addr) (h : Heap) : List (Addr × Obj) := (List.range h.objs.size).filterMap fun b => if b = L then none else (h.get? b).map fun o => (b, o)
theorem mem_allN {L b : Addr} {h : Heap} {o : Obj} (hb : b ≠ L) (e : h.get? b = some o) : (b, o) ∈ allN L h :=
  List.mem_filterMap.mpr ⟨b, List.mem_range.mpr (Heap.lt_size e), by rw [if_neg hb, e]; rfl⟩
theorem of_mem_allN {L b : Addr} {h : Heap} {o : Obj} (m : (b, o) ∈ allN L h) : b ≠ L ∧ h.get? b = some o := by
  obtain ⟨c, _, e⟩ := List.mem_filterMap.mp m
  split at e
  · cases e
  · rename_i hc
    cases hg : h.get? c with
    | none => rw [hg] at e; cases e
    | some o' => rw [hg] at e; cases e; exact ⟨hc, hg⟩
theorem empty_get (b : Addr) : ({} : Heap).get? b = none := Heap.get?_none_of_le (Nat.zero_le _)

section
variable {h₁ : Heap} {env : Env} {fz : Fz} {z : Shared} {σ σ' : St} {s s' : Shared}
/-- all that stands, as a ledger of the library -/
theorem Rel.newsIn (r : Rel h₁ env fz z σ s) : ∃ m, Fr {} env.locals s.heap m ∧ News {} env.locals s.heap (allN env.locals s.heap) ∧
    ∀ h' tk more, Fr {} env.locals h' m → News {} env.locals h' (more ++ allN env.locals s.heap) → Rel h₁ env fz z σ { s with heap := h', toks := tk } ∧ TK s.heap h' := by
  obtain ⟨m, hn, hm⟩ := r.ns
  refine ⟨m, ⟨hn, fun b o e => (by rw [empty_get] at e; cases e), Nat.zero_le _⟩, fun p hp => ?_, fun h' tk more F N => ?_⟩
  · obtain ⟨a, b⟩ := of_mem_allN hp
    exact ⟨b, a, empty_get _⟩
  · have k : ∀ b o, b ≠ env.locals → s.heap.get? b = some o → h'.get? b = some o := fun b o hb e => (N _ (List.mem_append_right _ (mem_allN hb e))).1
    obtain ⟨oL, es, ep, hL, hdL, _⟩ := id hn
    have t : TK s.heap h' := fun a arr ⟨o, e, c, n, d⟩ => ⟨o, k _ _ (by rintro rfl; rw [hL] at e; cases e; rw [hdL] at d; cases d) e, c, n, d⟩
    refine ⟨⟨r.base, fun b o e => k _ _ (by rintro rfl; rw [r.fzL] at e; cases e) (r.keep b o e), r.fzL, ⟨m, F.ns, fun x v q q' => let ⟨v', a, b⟩ := hm x v q q'; ⟨v', a, b.mono t⟩⟩, ?_, fun q x c hx => ?_, fun e he => ?_, r.pw, by have := r.rest; rw [this]⟩, t⟩
    · intro x v q q'
      obtain ⟨c, v', a, ⟨o, e, e'⟩, d⟩ := r.cells x v q q'
      exact ⟨c, v', a, ⟨o, k _ _ (by rintro rfl; rw [hL] at e; cases e; rw [hdL] at e'; cases e') e, e'⟩, d.mono t⟩
    · obtain ⟨a, ov, o, e1, e2⟩ := r.cown q x c hx
      exact ⟨a, ov, o, k _ _ (by rintro rfl; rw [hL] at e1; cases e1; rw [hdL] at e2; cases e2) e1, e2⟩
    · obtain ⟨a, b1, b2⟩ := r.hp e he
      have hne : e.a ≠ env.locals := by
        cases ho : e.own with
        | true => exact (b1 ho).2
        | false => intro q; have := b2 ho; rw [q, r.fzL] at this; cases this
      exact ⟨a.mono t fun o => k _ o hne, b1, b2⟩
end

theorem ints_of {h : Heap} : ∀ {ns : List Int} {vs : List Value}, VAs h (ns.map .int) vs → IntsAre vs ns
  | [], _, x => by cases (x : _ = _); exact .nil
  | n :: ns, _, ⟨v, r, e, ⟨t, ev⟩, z⟩ => by subst e ev; exact .cons n t (ints_of z)
theorem strs_of {h : Heap} : ∀ {ns : List Str} {vs : List Value}, VAs h (ns.map .str) vs → StrsAre vs ns
  | [], _, x => by cases (x : _ = _); exact .nil
  | n :: ns, _, ⟨v, r, e, ⟨t, ev⟩, z⟩ => by subst e ev; exact .cons n t (strs_of z)
theorem of_strs {h : Heap} : ∀ {ns : List Str} {vs : List Value}, StrsAre vs ns → VAs h (ns.map .str) vs
  | _, _, .nil => rfl
  | _, _, .cons n t r => ⟨_, _, rfl, ⟨t, rfl⟩, of_strs r⟩
section
variable {G : Gl} {env : Env} {A : Around} {σ σ' : St} {Φ : MV → St → Prop}

theorem XC_val {f : Value} {ms : List MV} {mv : MV} (h : Φ mv σ)
    (k : ∀ (E : Value → Shared → Prop) (s : Shared) (vs : List Value) (Q : Value → Shared → Prop), VAs s.heap ms vs → (∀ v k, VA s.heap mv v → Q v { s with toks := k }) → wpAny (model G.prog G.w) A (call f vs []) Q E s) : XC G env A σ f ms Φ :=
  .mk fun fz z s Q E vs va r q => k E s vs Q va fun v k hv => q v mv σ _ hv h r.toks (TK.refl _)

theorem XC_len_list {a : Addr} {b : Bool} {xs : List MV} (hm : ⟨a, b, .list xs⟩ ∈ σ.hp) (hfit : xs.length < 2 ^ 62) (h : Φ (.int xs.length) σ) : XC G env A σ (.builtin "len") [.ref a] Φ :=
  .mk fun fz z s Q E vs va r q => by
    obtain ⟨v, _, rfl, hv, hr⟩ := va
    cases (hv : v = _); cases (hr : _ = _)
    obtain ⟨arr, pl, y⟩ := (r.hp _ hm).1
    have e : arr.size = xs.length := by have := y.length; simpa using this
    exact Calls.call_len_list (Heap.PlainList.isList pl) (by omega) (by rw [e]; exact q _ (.int xs.length) σ _ ⟨_, rfl⟩ h r.toks (TK.refl _))
theorem XC_len_str {x : Str} (hfit : x.length < 2 ^ 62) (h : Φ (.int x.length) σ) : XC G env A σ (.builtin "len") [.str x] Φ := XC_val h fun E s vs Q va q => by
  obtain ⟨v, _, rfl, ⟨t, rfl⟩, hr⟩ := va
  cases (hr : _ = _)
  exact PySem.P.len_str (by omega) (q _ _ ⟨_, rfl⟩)
theorem XC_min (hh : A.handled = none) {a b : Int} (h : Φ (.int (min a b)) σ) : XC G env A σ (.builtin "min") [.int a, .int b] Φ := .mk fun fz z s Q E vs va r q => by
  obtain ⟨v, _, rfl, ⟨t, rfl⟩, u, _, rfl, ⟨t', rfl⟩, hr⟩ := va
  cases (hr : _ = _)
  obtain ⟨m, F, N, back⟩ := r.newsIn
  refine min_two_N hh F N fun h' tk F' N' => ?_
  obtain ⟨r', t'⟩ := back h' tk [] F' N'
  have e : (if b < a then b else a) = min a b := by split <;> omega
  exact q _ (.int (min a b)) σ _ ⟨_, by rw [e]⟩ h r' t'
theorem XC_abs {a : Int} (h : Φ (.int a.natAbs) σ) : XC G env A σ (.builtin "abs") [.int a] Φ := XC_val h fun E s vs Q va q => by
  obtain ⟨v, _, rfl, ⟨t, rfl⟩, hr⟩ := va
  cases (hr : _ = _)
  refine call_abs_int fun u tk => q _ _ ⟨u, ?_⟩
  congr 1
  split <;> omega
theorem XC_intint {a : Int} (h : Φ (.int a) σ) : XC G env A σ (.type "int") [.int a] Φ := XC_val h fun E s vs Q va q => by
  obtain ⟨v, _, rfl, ⟨t, rfl⟩, hr⟩ := va
  cases (hr : _ = _)
  exact call_int_int (q _ s.toks ⟨t, rfl⟩)
theorem XC_chr {i : Int} (h0 : 0 ≤ i) (h1 : i ≤ 1114111) (h : Φ (.str ⟨#[i.toNat]⟩) σ) : XC G env A σ (.builtin "chr") [.int i] Φ := XC_val h fun E s vs Q va q => by
  obtain ⟨v, _, rfl, ⟨t, rfl⟩, hr⟩ := va
  cases (hr : _ = _)
  exact chr_of_range h0 h1 (q _ _ ⟨_, rfl⟩)
theorem XC_bin {i : Int} (hsz : (baseText "0b" 2 i).length ≤ sizeLine) (h : Φ (.str (baseText "0b" 2 i)) σ) : XC G env A σ (.builtin "bin") [.int i] Φ := XC_val h fun E s vs Q va q => by
  obtain ⟨v, _, rfl, ⟨t, rfl⟩, hr⟩ := va
  cases (hr : _ = _)
  exact PySem.P.bin_of_int (q _ _ ⟨_, rfl⟩) hsz
theorem XC_divmod {a b : Int} (hb : b ≠ 0) (hp : Builtin.divisionGoesByPylong a b = false) (h : Φ (.tup [.int (a.fdiv b), .int (a.fmod b)]) σ) : XC G env A σ (.builtin "divmod") [.int a, .int b] Φ := .mk fun fz z s Q E vs va r q => by
  obtain ⟨v, _, rfl, ⟨t, rfl⟩, u, _, rfl, ⟨t', rfl⟩, hr⟩ := va
  cases (hr : _ = _)
  obtain ⟨m, F, N, back⟩ := r.newsIn
  refine divmod_N F N hb (fun h' F' N' => ?_) (.inl hp)
  obtain ⟨r', t'⟩ := back h' (s.toks + 1 + 1) [_] F' N'
  refine q _ (.tup [.int (a.fdiv b), .int (a.fmod b)]) σ _ ⟨_, _, rfl, ⟨_, N'.get (.head _), rfl, _, rfl⟩, ⟨_, _, rfl, ⟨_, rfl⟩, _, _, rfl, ⟨_, rfl⟩, rfl⟩⟩ h r' t'
theorem XC_sum (hh : A.handled = none) {a : Addr} {b : Bool} {ns : List Int} (hm : ⟨a, b, .list (ns.map .int)⟩ ∈ σ.hp) (h : Φ (.int ns.sum) σ) : XC G env A σ (.builtin "sum") [.ref a] Φ := .mk fun fz z s Q E vs va r q => by
  obtain ⟨v, _, rfl, hv, hr⟩ := va
  cases (hv : v = _); cases (hr : _ = _)
  obtain ⟨m, F, N, back⟩ := r.newsIn
  obtain ⟨arr, pl, y⟩ := (r.hp _ hm).1
  refine LSm.sum_ints F N hh (vs := arr.toList) (by simpa using Heap.PlainList.isList pl) (ints_of y) fun h' tk t' F' N' => ?_
  obtain ⟨r', t'⟩ := back h' tk [] F' N'
  exact q _ (.int ns.sum) σ _ ⟨_, rfl⟩ h r' t'
theorem XC_count {x y : Str} (h : Φ (.int (Txt.count x y)) σ) : XC G env A σ (.builtin "str.count") [.str x, .str y] Φ := XC_val h fun E s vs Q va q => by
  obtain ⟨v, _, rfl, ⟨t, rfl⟩, u, _, rfl, ⟨t', rfl⟩, hr⟩ := va
  cases (hr : _ = _)
  exact KXw.count rfl fun _ _ => q _ _ ⟨_, rfl⟩
theorem XC_index (hh : A.handled = none) {x y : Str} (h0 : 0 ≤ Txt.find x y) (h : Φ (.int (Txt.find x y)) σ) : XC G env A σ (.builtin "str.index") [.str x, .str y] Φ := XC_val h fun E s vs Q va q => by
  obtain ⟨v, _, rfl, ⟨t, rfl⟩, u, _, rfl, ⟨t', rfl⟩, hr⟩ := va
  cases (hr : _ = _)
  exact index_or hh (fun e => by omega) fun _ _ => q _ _ ⟨_, rfl⟩
theorem XC_lower {x : Str} (hf : Builtin.Str.tooLong (Txt.lower x).length = false) (h : Φ (.str (Txt.lower x)) σ) : XC G env A σ (.builtin "str.lower") [.str x] Φ := XC_val h fun E s vs Q va q => by
  obtain ⟨v, _, rfl, ⟨t, rfl⟩, hr⟩ := va
  cases (hr : _ = _)
  exact KXw.lower rfl hf fun _ _ => q _ _ ⟨_, rfl⟩
theorem XC_join {x : Str} {a : Addr} {b : Bool} {xs : List Str} (hm : ⟨a, b, .list (xs.map .str)⟩ ∈ σ.hp) (hok : JoinOk x xs = true) (h : Φ (.str (Txt.join x xs)) σ) : XC G env A σ (.builtin "str.join") [.str x, .ref a] Φ := .mk fun fz z s Q E vs va r q => by
  obtain ⟨v, _, rfl, ⟨t, rfl⟩, u, _, rfl, hu, hr⟩ := va
  cases (hu : u = _); cases (hr : _ = _)
  obtain ⟨arr, pl, y⟩ := (r.hp _ hm).1
  obtain ⟨l, e1, e2⟩ := strsAre_values (strs_of y)
  refine SC.join (D := a) (l := l) (by rw [← e1]; simpa using Heap.PlainList.isList pl) e2 hok fun t' k => q _ (.str _) σ _ ⟨_, rfl⟩ h r.toks (TK.refl _)
theorem XC_split {x y : Str} (hy : (y.length == 0) = false) (hsz : x.length + 2 ≤ sizeLine) (h : ∀ D, Φ (.ref D) { σ with hp := ⟨D, true, .list ((Txt.split x y).map .str)⟩ :: σ.hp }) : XC G env A σ (.builtin "str.split") [.str x, .str y] Φ := .mk fun fz z s Q E vs va r q => by
  obtain ⟨v, _, rfl, ⟨t, rfl⟩, u, _, rfl, ⟨t', rfl⟩, hr⟩ := va
  cases (hr : _ = _)
  obtain ⟨m, F, N, back⟩ := r.newsIn
  refine KSpl.split1 F N hy (fun D l h' k e sa F' N' lt => ?_) hsz
  obtain ⟨r', t'⟩ := back h' k [_] F' N'
  have hD : s.heap.get? D = none := by
    cases e : s.heap.get? D with
    | none => rfl
    | some o =>
      by_cases hDL : D = env.locals
      · have := (N' _ (.head _)).2.1; exact absurd hDL this
      · exact absurd (lt _ (mem_allN hDL e)) (Nat.lt_irrefl _)
  obtain ⟨f1, f2, f3⟩ := r.lt_of hD
  refine q _ (.ref D) _ _ rfl (h D) ⟨r'.base, r'.keep, r'.fzL, r'.ns, r'.cells, r'.cown, fun en hm => ?_, List.pairwise_cons.mpr ⟨fun en hm => (f3 en hm).symm, r'.pw⟩, r'.rest⟩ t'
  rcases List.mem_cons.mp hm with rfl | hm
  · refine ⟨⟨_, ⟨0, N'.get (.head _)⟩, ?_⟩, fun _ => ⟨f1, f2⟩, fun q => (nomatch q)⟩
    rw [← e]
    simpa using of_strs sa
  · exact r'.hp en hm
theorem XC_append {a : Addr} {i : Nat} {xs : List MV} {m : MV} (hi : σ.hp[i]? = some ⟨a, true, .list xs⟩) (hsz : xs.length ≤ sizeLine) (h : Φ .none { σ with hp := σ.hp.set i ⟨a, true, .list (xs ++ [m])⟩ }) :
    XC G env A σ (.builtin "list.append") [.ref a, m] Φ := .mk fun fz z s Q E vs va r q => by
  obtain ⟨v, _, rfl, hv, u, _, rfl, hu, hr⟩ := va
  cases (hv : v = _); cases (hr : _ = _)
  obtain ⟨arr, pl, y⟩ := (r.hp _ (List.mem_of_getElem? hi)).1
  refine wpAny_list_append_plain pl (fun h' pl' sb => ?_) (by have := y.length; simp at this; omega)
  obtain ⟨r', t'⟩ := r.change (h' := h') (tk := s.toks) (m' := .list (xs ++ [m])) hi (fun c o hc e => sb.extBut _ _ hc e) fun t => ⟨_, pl', by simpa using (y.mono t).snoc (hu.mono t)⟩
  exact q _ .none _ _ rfl h r' t'
theorem XC_listcount {a : Addr} {b : Bool} {xs : List Str} {y : Str} (hm : ⟨a, b, .list (xs.map .str)⟩ ∈ σ.hp) (h : Φ (.int (countIn (.str y) (xs.map PyData.str))) σ) : XC G env A σ (.builtin "list.count") [.ref a, .str y] Φ := .mk fun fz z s Q E vs va r q => by
  obtain ⟨v, _, rfl, hv, u, _, rfl, ⟨t, rfl⟩, hr⟩ := va
  cases (hv : v = _); cases (hr : _ = _)
  obtain ⟨arr, pl, y'⟩ := (r.hp _ hm).1
  exact count_list_strs (vs := arr.toList) (by simpa using Heap.PlainList.isList pl) (strs_of y') (q _ (.int _) σ _ ⟨_, rfl⟩ h r.toks (TK.refl _))

theorem isStr_at (k : Str) : ∀ {vs : List Value} {ns : List Str}, StrsAre vs ns → ∀ (j : Nat) (h1 : j < vs.length) (h2 : j < ns.length), isStrOf k vs[j] = (ns[j] == k)
  | _, _, .cons n t _, 0, _, _ => rfl
  | _, _, .cons n t r, j + 1, h1, h2 => isStr_at k r j (Nat.lt_of_succ_lt_succ h1) (Nat.lt_of_succ_lt_succ h2)
theorem XC_listindex {a : Addr} {b : Bool} {xs : List Str} {y : Str} {j : Nat} (hm : ⟨a, b, .list (xs.map .str)⟩ ∈ σ.hp) (hj : xs[j]? = some y) (hlt : ∀ i x, i < j → xs[i]? = some x → (x == y) = false) (hsz : xs.length < 2 ^ 60)
    (h : Φ (.int j) σ) : XC G env A σ (.builtin "list.index") [.ref a, .str y] Φ := .mk fun fz z s Q E vs va r q => by
  obtain ⟨v, _, rfl, hv, u, _, rfl, ⟨t, rfl⟩, hr⟩ := va
  cases (hv : v = _); cases (hr : _ = _)
  obtain ⟨arr, pl, y'⟩ := (r.hp _ hm).1
  have hi := strs_of y'
  have hl : s.heap.IsList a arr := Heap.PlainList.isList pl
  obtain ⟨⟨cls, dd, data, sl⟩, ho, hc, n, hd⟩ := id hl
  simp only at hc hd
  subst hc hd
  have hlen := StrsAre.length hi
  have hjl : j < xs.length := (List.getElem?_eq_some_iff.mp hj).1
  have hje : xs[j] = y := (List.getElem?_eq_some_iff.mp hj).2
  have hjs : j < arr.size := by simpa using (hlen.symm ▸ hjl : j < arr.toList.length)
  refine call_meets PySem.F.slot_list_index ⟨_, ho, rfl⟩ PySem.F.entry_list_index (PySem.F.args_list_index_2 _ _)
    (SeqAt.list_indexAt a arr n dd sl (.str y t) (isStrOf y) j hjs (by omega) ?_ ?_) ⟨ho, fun y1 hy => (eq_isStrOf y t hi y1 (by simpa using hy)).at _ _, q _ (.int j) σ _ ⟨_, rfl⟩ h r.toks (TK.refl _)⟩
  · have := isStr_at y hi j (by omega) hjl
    rw [hje] at this
    simpa using this
  · intro i his hlt'
    have := isStr_at y hi i (by simpa using his) (by omega)
    rw [hlt i _ hlt' (List.getElem?_eq_getElem (by omega))] at this
    simpa using this

theorem XV_neList {a b : Addr} {o o' : Bool} {xs ys : List Str} (ha : ⟨a, o, .list (xs.map .str)⟩ ∈ σ.hp) (hb : ⟨b, o', .list (ys.map .str)⟩ ∈ σ.hp) (hu : A.units + 64 < cLine) (hxs : ∀ x ∈ xs, PyData.strOk x = true) (hys : ∀ x ∈ ys, PyData.strOk x = true) (h : Φ (.bool (!decide (xs = ys))) σ) :
    XV2 G env A VA σ (.ref a) (.ref b) (compareOp .NotEq) Φ := .mk fun fz z s Q E v u va vb r q => by
  cases (va : v = _); cases (vb : u = _)
  obtain ⟨arr, pl, y1⟩ := (r.hp _ ha).1
  obtain ⟨arr', pl', y2⟩ := (r.hp _ hb).1
  have i1 := strs_of y1
  have i2 := strs_of y2
  have canAll : ∀ ns : List Str, (∀ x ∈ ns, PyData.strOk x = true) → PyData.canLayAll0 (ns.map PyData.str) = true := fun ns => by
    induction ns with
    | nil => intro _; rfl
    | cons _ r ih => intro hh; simp [PyData.canLayAll0, PyData.canLay0, ih fun x hx => hh x (List.mem_cons_of_mem _ hx), hh _ List.mem_cons_self]
  have depAll : ∀ ns : List Str, PyData.depthAll (ns.map PyData.str) = 0 := fun ns => by
    induction ns with
    | nil => rfl
    | cons _ r ih => simp [PyData.depthAll, PyData.depth, ih]
  have shaped : ∀ ns : List Str, (∀ x ∈ ns, PyData.strOk x = true) → SeqAt.shaped (.list (ns.map PyData.str)) = true := fun ns hh => by simp [SeqAt.shaped, PyData.canLay0, PyData.depth, canAll ns hh, depAll]
  have sameAll : ∀ ns ms : List Str, PySem.Spec.sameAll (ns.map PyData.str) (ms.map PyData.str) = decide (ns = ms) := fun ns => by
    induction ns with
    | nil => intro ms; cases ms <;> simp [PySem.Spec.sameAll]
    | cons a r ih =>
      intro ms
      cases ms with
      | nil => simp [PySem.Spec.sameAll]
      | cons b t =>
        simp only [List.map_cons, PySem.Spec.sameAll, PySem.Spec.same, ih t]
        by_cases h : a = b <;> by_cases h' : r = t <;> simp [h, h']
  refine ne_dataH_same (reads_newData (by simpa using Heap.PlainList.isList pl) (StrsAre.carried i1)) (reads_newData (by simpa using Heap.PlainList.isList pl') (StrsAre.carried i2)) (shaped _ hxs) (shaped _ hys) hu
    (SeqAt.noMix_of_shape (.list .str) rfl _ _ (list_map_has fun _ => rfl) (list_map_has fun _ => rfl)) ?_
  simp only [PySem.Spec.same, sameAll]
  exact q _ (.bool _) σ _ rfl h r (TK.refl _)
end
end Mine
end PartB9

section PartB10
open PySem PySem.Calls PySem.W PyProof.Rows PySem.Spec
set_option maxRecDepth 100000
set_option linter.unusedVariables false
namespace Mine

section
variable {G : Gl} {env : Env} {A : Around} {σ σ' : St} {Φ : MV → St → Prop}

theorem push_keep (h : Heap) (ob : Obj) : ∀ b o, h.get? b = some o → (h.push ob).get? b = some o := fun b o e => Heap.get?_push_of_some _ e

/-! items and slices of text -/
theorem XV_item_str {value slice : Expr} {x : Str} {k : Int} {c : Nat} (h0 : 0 ≤ k) (hfit : k < 2 ^ 62) (hx : x.cps[k.toNat]? = some c) (h : Φ (.str ⟨#[c]⟩) σ)
    (hs : ∀ t u, subscripted slice false (.str x t) (.int k u) = operate [.str x t, .int k u] (getItem (.str x t) (.int k u))) : XV2 G env A VA σ (.str x) (.int k) (subscriptTail value slice) Φ := .mk fun fz z s Q E v u va vb r q => by
  obtain ⟨t, rfl⟩ := va
  obtain ⟨u', rfl⟩ := vb
  have hk : k.toNat < x.cps.size := by
    rcases Nat.lt_or_ge k.toNat x.cps.size with h | h
    · exact h
    · rw [Array.getElem?_eq_none h] at hx; cases hx
  have hk' : k < (x.length : Int) := by have : x.length = x.cps.size := rfl; omega
  refine tail_any (T := "str") (typeIs_str _ _ _) F.slot_str_getitem.lookup (PySem.P.getItem_str (c := c) (by rw [Bool.or_eq_false_iff]; exact ⟨decide_eq_false (by omega), decide_eq_false (by omega)⟩) ?_ (q _ (.str _) σ _ ⟨_, rfl⟩ h r.toks (TK.refl _))) (hs t u')
  have e : seqIndex? k x.length = some k.toNat := by
    have h3 : ¬ k < 0 := by omega
    unfold seqIndex?
    simp [h3, h0, hk']
  rw [e]; exact hx

theorem XE_SliceStr {value lo hi : Expr} {p pos : Pos} (h : XE G env A σ value fun o σ₁ => XE G env A σ₁ lo fun l σ₂ => XE G env A σ₂ hi fun u σ₃ => ∃ x i j, o = .str x ∧ l = .int i ∧ u = .int j ∧ x.length ≤ sizeLine ∧ Φ (.str (Txt.slice x (some i) (some j))) σ₃)
    (ht : ∀ o r, letTemporaryGo value o r = pure ()) : XE G env A σ (.Subscript value (.Slice (some lo) (some hi) none p) pos) Φ := .mk fun fz z s Q E r q =>
  wpAny_Subscript_str_slice (h.run fz z s _ _ r fun _ _ _ _ va h₁ r₁ t₁ => h₁.run _ _ _ _ _ r₁ fun _ _ _ _ vb h₂ r₂ t₂ => h₂.run _ _ _ _ _ r₂ fun _ _ _ _ vc h₃ r₃ t₃ => by
    obtain ⟨x, i, j, rfl, rfl, rfl, hsz, hΦ⟩ := h₃
    obtain ⟨t, rfl⟩ := va
    obtain ⟨ti, rfl⟩ := vb
    obtain ⟨tj, rfl⟩ := vc
    refine ⟨x, t, some (i, ti), some (j, tj), rfl, rfl, rfl, post_val_or_str ⟨Nat.le_trans (Txt.slice_le x _ _) hsz, fun t' k => ?_⟩⟩
    exact q _ (.str _) _ _ ⟨t', rfl⟩ hΦ (r₃.keepAll' (push_keep _ _)) ((t₁.trans (t₂.trans t₃)).trans (TK.of_keep (push_keep _ _)))) ht
theorem XE_SliceBytes {value lo hi : Expr} {p pos : Pos} (h : XE G env A σ value fun o σ₁ => XE G env A σ₁ lo fun l σ₂ => XE G env A σ₂ hi fun u σ₃ => ∃ x i j, o = .bytes x ∧ l = .int i ∧ u = .int j ∧ (KBy.picked x (some i) (some j)).size ≤ sizeLine ∧ Φ (.bytes (KBy.picked x (some i) (some j))) σ₃)
    (ht : ∀ o r, letTemporaryGo value o r = pure ()) : XE G env A σ (.Subscript value (.Slice (some lo) (some hi) none p) pos) Φ := .mk fun fz z s Q E r q => by
  refine wpAny_Subscript_Slice (T := "bytes") FB.slot_bytes_getitem.lookup (h.run fz z s _ _ r fun _ _ _ _ va h₁ r₁ t₁ => wpAny_Slice (h₁.run _ _ _ _ _ r₁ fun _ _ _ _ vb h₂ r₂ t₂ => h₂.run _ _ _ _ _ r₂ fun _ _ _ _ vc h₃ r₃ t₃ => ?_)) ht
  obtain ⟨x, i, j, rfl, rfl, rfl, hsz, hΦ⟩ := h₃
  obtain ⟨t, rfl⟩ := va
  obtain ⟨ti, rfl⟩ := vb
  obtain ⟨tj, rfl⟩ := vc
  rw [evalPart_none]
  exact wpAny_pure ⟨typeIs_bytes _ x t, getItem_meets (typeIs_bytes _ _ _) (by decide) FB.slot_bytes_getitem FB.entry_bytes_getitem (FB.args_bytes_getitem_2 _ _) (KBc.meets_slice2 x t _ (IsPart.int i ti) (IsPart.int j tj))
    ⟨Heap.IsSliceOf.new _ _ _ _, hsz, fun t' k => q _ (.bytes _) _ _ ⟨t', rfl⟩ hΦ (r₃.keepAll' (push_keep _ _)) ((t₁.trans (t₂.trans t₃)).trans (TK.of_keep (push_keep _ _)))⟩⟩

/-! an item of a list, changed in place -/
theorem XS_AugItem {o i value : Expr} {tpos pos : Pos} {op : Operator} {Ψ : MF → St → Prop}
    (h : XE G env A σ o fun mo σ₁ => XE G env A σ₁ i fun mi σ₂ => ∃ (a : Addr) (b : Bool) (xs : List MV) (k : Nat) (x : MV), mo = .ref a ∧ mi = .int k ∧ ⟨a, b, .list xs⟩ ∈ σ₂.hp ∧ k < 2 ^ 62 ∧ xs[k]? = some x ∧ XE G env A σ₂ value fun v σ₃ =>
      XV2 G env A VA σ₃ x v (inplaceOp op) fun n σ₄ => ∃ (j : Nat) (ys : List MV), σ₄.hp[j]? = some ⟨a, true, .list ys⟩ ∧ k < ys.length ∧ Ψ .next { σ₄ with hp := σ₄.hp.set j ⟨a, true, .list (ys.set k n)⟩ })
    (hi : ∀ ov iv new, augStore i ov iv new = (do holding [new, ov, iv] (setItem ov iv new); release [new, ov, iv] []; pure .next)) : XS G env A σ (.AugAssign (.Subscript o i tpos) op value pos) Ψ := .mk fun fz z s Q E r q => by
  refine wpAny_AugAssign_SubscriptAny (hi := hi) (h.run fz z s _ _ r fun ov _ σ₁ s₁ va h₁ r₁ t₁ => h₁.run _ _ _ _ _ r₁ fun iv _ σ₂ s₂ vb h₂ r₂ t₂ => ?_)
  obtain ⟨a, b, xs, k, x, rfl, rfl, hm, hk, hx, h₃⟩ := h₂
  obtain ⟨tk, rfl⟩ := vb
  cases (va : ov = _)
  obtain ⟨arr, pl, y⟩ := (r₂.hp _ hm).1
  obtain ⟨w, e1, e2⟩ := y.get hx
  refine wpAny_getItem_list (x := w) (Heap.PlainList.isList pl) (by omega) (by omega) (by rw [← Array.getElem?_toList]; simpa using e1) ?_
  refine h₃.run fz z s₂ _ _ r₂ fun v _ σ₃ s₃ vc h₄ r₃ t₃ => h₄.run _ _ _ _ _ _ _ (e2.mono t₃) vc r₃ fun nv n σ₄ s₄ vd h₅ r₄ t₄ => ?_
  obtain ⟨j, ys, hj, hky, hΨ⟩ := h₅
  obtain ⟨arr', pl', y'⟩ := (r₄.hp _ (List.mem_of_getElem? hj)).1
  obtain ⟨nn, ho⟩ := id pl'
  have hlen : arr'.size = ys.length := by have := y'.length; simpa using this
  refine ki_setAt (n := nn) ho (by omega) (by omega) (by omega) ?_
  have hg : (s₄.heap.update a (Obj.mapSeq (·.setIfInBounds (k : Int).toNat nv))).get? a = some { cls := .type "list", data := .seq (arr'.setIfInBounds k nv) nn } := by
    rw [Heap.get?_update_self _ ho (by simp [Obj.mapSeq]; rfl)]
    simp [Obj.mapSeq]
  obtain ⟨r₅, t₅⟩ := r₄.change (h' := s₄.heap.update a (Obj.mapSeq (·.setIfInBounds (k : Int).toNat nv))) (tk := s₄.toks) (m' := .list (ys.set k n)) hj (fun c o hc e => (Heap.SameBut.update ..).extBut _ _ hc e) fun t => ⟨_, ⟨_, hg⟩, by simpa using (y'.mono t).set k (vd.mono t)⟩
  exact q _ .next _ _ rfl hΨ r₅ ((t₁.trans (t₂.trans (t₃.trans t₄))).trans t₅)

/-! targets in a row -/
structure XAs (G : Gl) (env : Env) (A : Around) (σ : St) (ts : List Expr) (ms : List MV) (Φ : St → Prop) : Prop where
  run : ∀ (fz : Fz) (z s : Shared) (Q : Unit → Shared → Prop) (E : Value → Shared → Prop) (vs : List Value), VAs s.heap ms vs → Rel G.h₁ env fz z σ s →
    (∀ σ' s', Φ σ' → Rel G.h₁ env fz z σ' s' → TK s.heap s'.heap → Q () s') → wpAny (model G.prog G.w) A (assignInOrder ((assignEach ts env).map (·.2)) vs) Q E s
theorem XAs_nil {Ψ : St → Prop} (h : Ψ σ) : XAs G env A σ [] [] Ψ := .mk fun fz z s Q E vs va r q => wpAny_pure (q _ _ h r (TK.refl _))
theorem XAs_cons {t : Expr} {ts : List Expr} {m : MV} {ms : List MV} {Ψ : St → Prop} (h : XAss G env A σ t m fun σ₁ => XAs G env A σ₁ ts ms Ψ) (he : assignEach (t :: ts) env = (false, assign t env) :: assignEach ts env) : XAs G env A σ (t :: ts) (m :: ms) Ψ := .mk fun fz z s Q E vs va r q => by
  obtain ⟨v, vs, rfl, hv, hr⟩ := va
  rw [he]
  show wpAny _ A (do holding vs (assign t env v); assignInOrder ((assignEach ts env).map (·.2)) vs) Q E s
  refine wpAny_bind (wpAny_holding (h.run fz z s _ E v hv r fun _ _ σ₁ s₁ _ h₁ r₁ t₁ => ?_))
  exact h₁.run fz z s₁ Q E vs (hr.mono t₁) r₁ fun σ₂ s₂ h₂ r₂ t₂ => q _ _ h₂ r₂ (t₁.trans t₂)

theorem XAss_Tuple (hh : A.handled = none) {elts : List Expr} {k : Nat} {pos : Pos} {ms : List MV} {Ψ : St → Prop} (h : XAs G env A σ elts ms Ψ) (hn : (assignEach elts env).length = ms.length) (hstar : (assignEach elts env).findIdx? (·.1) = none) :
    XAss G env A σ (.Tuple elts k pos) (.tup ms) Ψ := .mk fun fz z s Q E v va r q => by
  obtain ⟨a, arr, rfl, ht, y⟩ := va
  have hl : arr.size = ms.length := by have := y.length; simpa using this
  refine wpAny_assign_Tuple hh ht (hn.trans hl.symm) hstar fun h' he => ?_
  have kp : ∀ b o, s.heap.get? b = some o → h'.get? b = some o := fun b o e => he b o (Nat.ne_of_lt (Heap.lt_size e)) e
  exact h.run fz z _ Q E _ (y.mono (TK.of_keep kp)) (r.keepAll' (tk := s.toks) kp) fun σ₁ s₁ h₁ r₁ t₁ => q _ () _ _ trivial h₁ r₁ ((TK.of_keep kp).trans t₁)

theorem XAss_TupleL (hh : A.handled = none) {elts : List Expr} {k : Nat} {pos : Pos} {a : Addr} {b : Bool} {ms : List MV} {Ψ : St → Prop} (hm : ⟨a, b, .list ms⟩ ∈ σ.hp) (h : XAs G env A σ elts ms Ψ) (hn : (assignEach elts env).length = ms.length) (hstar : (assignEach elts env).findIdx? (·.1) = none) :
    XAss G env A σ (.Tuple elts k pos) (.ref a) Ψ := .mk fun fz z s Q E v va r q => by
  cases (va : v = _)
  obtain ⟨arr, pl, y⟩ := (r.hp _ hm).1
  have hl : arr.size = ms.length := by have := y.length; simpa using this
  have il : s.heap.IsList a arr := Heap.PlainList.isList pl
  have hlt : a ≠ s.heap.objs.size := by obtain ⟨o, ho, _⟩ := il; exact Nat.ne_of_lt (Heap.lt_size ho)
  have push : ∀ {h : Heap} (x : h.IsList a arr) (ob : Obj), (h.push ob).IsList a arr := fun x ob => let ⟨o, e, c, d⟩ := x; ⟨o, Heap.get?_push_of_some _ e, c, d⟩
  show wpAny _ A (assign (.Tuple elts k pos) env (.ref a)) Q E s
  rw [arm_assign_Tuple]
  refine wpAny_bind (wpAny_standAt ?_)
  unfold unpack
  rw [hn, ← hl, hstar]
  refine wpAny_bind (wpAny_holding ?_)
  unfold unpackItems
  refine wpAny_bind ?_
  unfold notIterableAtAll
  refine wpAny_bind (wpAny_specialOf il.typeIs slot_list_iter.lookup ?_)
  refine wpAny_pure ?_
  simp only [Bool.false_eq_true, if_false]
  refine wpAny_bind (wpAny_holding (wpAny_pyIter_list il ?_))
  refine wpAny_bind (wpAny_holding (kun_draw hlt arr.size 0 _ _ ⟨_, Heap.get?_push_size _ rfl, rfl, rfl⟩ (push il _) (by omega) fun h₁ hit₁ hs₁ => ?_))
  have hall : List.take arr.size (List.drop 0 arr.toList) = arr.toList := by
    rw [List.drop_zero]; exact List.take_of_length_le (by simp)
  rw [hall]
  rw [if_neg (by simp)]
  have ht₁ : h₁.IsList a arr := let ⟨o, e, c, d⟩ := push il _; ⟨o, hs₁.extBut _ _ hlt e, c, d⟩
  refine wpAny_bind (wpAny_holding (wpAny_pyNext_list_end hh hit₁ ht₁ (by simp) fun h₂ he₂ => ?_))
  simp only [Option.isSome_none, Bool.false_eq_true, if_false]
  refine wpAny_pure ?_
  have kp : ∀ b o, s.heap.get? b = some o → h₂.get? b = some o := fun b o e => he₂ b o (Nat.ne_of_lt (Heap.lt_size e)) (hs₁.extBut b o (Nat.ne_of_lt (Heap.lt_size e)) (Heap.get?_push_of_some _ e))
  exact h.run fz z _ Q E _ (y.mono (TK.of_keep kp)) (r.keepAll' (tk := s.toks) kp) fun σ₁ s₁ h₁ r₁ t₁ => q _ () _ _ trivial h₁ r₁ ((TK.of_keep kp).trans t₁)
theorem XS_AssignT {elts : List Expr} {k : Nat} {tpos : Pos} {value : Expr} {pos : Pos} {Ψ : MF → St → Prop} (h : XE G env A σ value fun v σ₁ => XAss G env A σ₁ (.Tuple elts k tpos) v fun σ₂ => Ψ .next σ₂)
    (hs : swapsWithSole [.Tuple elts k tpos] value pos.line env = pure false) (hw : swappedStores [.Tuple elts k tpos] value env = pure none) : XS G env A σ (.Assign [.Tuple elts k tpos] value pos) Ψ := .mk fun fz z s Q E r q =>
  Assign_Tuple (h.run fz z s _ _ r fun _ _ _ _ va h₁ r₁ t₁ => XV1.at h₁ va r₁ t₁ fun _ _ _ _ _ h₂ r₂ t₂ => q _ .next _ _ rfl h₂ r₂ t₂) hs hw

/-! type, __debug__ -/
theorem XC_type {m : MV} {T : String} (ht : MTy G env σ m T) (hnb : (Value.type T == Value.type "builtin_function_or_method") = false) (h : Φ (.raw (.type T)) σ) : XC G env A σ (.type "type") [m] Φ := .mk fun fz z s Q E vs va r q => by
  obtain ⟨v, _, rfl, hv, hr⟩ := va
  cases (hr : _ = _)
  exact call_type_of (ht _ _ _ _ hv r).1 hnb (q _ (.raw (.type T)) σ _ rfl h r (TK.refl _))
theorem XE_debug {pos : Pos} (h : Φ (.bool true) σ) : XE G env A σ (.Name "__debug__" pos) Φ := .mk fun fz z s Q E r q => by
  show wpAny _ A (do standAt pos; if (("__debug__" : Str) == ("__debug__" : Str)) = true then debugConstant else loadName env "__debug__") Q E s
  rw [if_pos (by decide +kernel)]
  exact wpAny_bind (wpAny_standAt (wpAny_bind (wpAny_rule (wpAny_pure (q _ (.bool true) σ _ rfl h r (TK.refl _))))))
end
end Mine
end PartB10

section PartB11
open PySem PySem.Calls PySem.W PyProof.Rows PySem.Spec
set_option maxRecDepth 100000
set_option linter.unusedVariables false
namespace Mine

section
variable {h₁ : Heap} {env : Env} {fz : Fz} {z : Shared} {σ σ' : St} {s s' : Shared}
/-- a change at one own address, the frame's dict laid anew -/
theorem Rel.swap (r : Rel h₁ env fz z σ s) {h' : Heap} {tk : Nat} {m : Str → Option Value} (hn : s.heap.Ns env.locals m) (hm : ∀ x v, σ.loc.lookup x = some v → env.kindOf x = some .local → ∃ v', m x = some v' ∧ VA s.heap v v') (hn' : h'.Ns env.locals m)
    {i : Nat} {b : Addr} {mo m' : MO} (hi : σ.hp[i]? = some ⟨b, true, mo⟩) (k : ∀ c o, c ≠ b → c ≠ env.locals → s.heap.get? c = some o → h'.get? c = some o) (x : OA h' b m') :
    Rel h₁ env fz z { σ with hp := σ.hp.set i ⟨b, true, m'⟩ } { s with heap := h', toks := tk } ∧ TK s.heap h' := by
  obtain ⟨hO, ho, _⟩ := r.hp _ (List.mem_of_getElem? hi)
  obtain ⟨hf, hL⟩ := ho rfl
  obtain ⟨ob, hob, n1, n2, n3⟩ := hO.get
  dsimp only at hf hL hO hob
  obtain ⟨oL, _, _, hoL, hdL, _⟩ := id hn
  have t : TK s.heap h' := fun a arr ⟨o, e, c, n, d⟩ => ⟨o, k _ _ (by rintro rfl; rw [hob] at e; cases e; exact n1 _ _ c d) (by rintro rfl; rw [hoL] at e; cases e; rw [hdL] at d; cases d) e, c, n, d⟩
  have kL : ∀ c ov, s.heap.IsCell c ov → h'.IsCell c ov := fun c ov ⟨o, e, e'⟩ => ⟨o, k _ _ (by rintro rfl; rw [hob] at e; cases e; exact n2 _ e') (by rintro rfl; rw [hoL] at e; cases e; rw [hdL] at e'; cases e') e, e'⟩
  refine ⟨⟨r.base, fun c o q => k _ _ (by rintro rfl; rw [hf] at q; cases q) (by rintro rfl; rw [r.fzL] at q; cases q) (r.keep c o q), r.fzL, ⟨m, hn', fun x v q q' => let ⟨v', a, b⟩ := hm x v q q'; ⟨v', a, b.mono t⟩⟩, ?_, ?_, ?_, ?_, by have := r.rest; rw [this]⟩, t⟩
  · intro x v q q'
    obtain ⟨c, v', a, e, d⟩ := r.cells x v q q'
    exact ⟨c, v', a, kL _ _ e, d.mono t⟩
  · intro q x c hx
    obtain ⟨a, ov, e⟩ := r.cown q x c hx
    exact ⟨a, ov, kL _ _ e⟩
  · intro en hen
    obtain ⟨j, hj, he⟩ := List.mem_iff_getElem.mp hen
    rw [List.getElem_set] at he
    split at he
    · subst he; exact ⟨x, fun _ => ⟨hf, hL⟩, fun q => (nomatch q)⟩
    · rename_i hne
      have hj' : j < σ.hp.length := by simpa using hj
      have hmem : en ∈ σ.hp := he ▸ List.getElem_mem hj'
      obtain ⟨a1, a2, a3⟩ := r.hp en hmem
      have hab : en.a ≠ b := by
        have hil : i < σ.hp.length := (List.getElem?_eq_some_iff.mp hi).1
        have hie : σ.hp[i] = ⟨b, true, mo⟩ := (List.getElem?_eq_some_iff.mp hi).2
        rcases Nat.lt_or_gt_of_ne hne with h | h
        · have := (List.pairwise_iff_getElem.mp r.pw) i j hil hj' h
          rw [hie, he] at this; exact this.symm
        · have := (List.pairwise_iff_getElem.mp r.pw) j i hj' hil h
          rw [hie, he] at this; exact this
      have hne : en.a ≠ env.locals := by
        cases ho : en.own with
        | true => exact (a2 ho).2
        | false => intro q; have := a3 ho; rw [q, r.fzL] at this; cases this
      exact ⟨a1.mono t fun o => k _ o hab hne, a2, a3⟩
  · have key : (σ.hp.set i ⟨b, true, m'⟩).map (·.a) = σ.hp.map (·.a) := by
      rw [List.map_set]
      apply List.ext_getElem (by simp)
      intro j h1 h2
      rw [List.getElem_set]
      split
      · rename_i q
        subst q
        have hie : σ.hp[i]'(by simpa using h2) = ⟨b, true, mo⟩ := (List.getElem?_eq_some_iff.mp hi).2
        simp [hie]
      · rfl
    have : ((σ.hp.set i ⟨b, true, m'⟩).map (·.a)).Pairwise (· ≠ ·) := by
      rw [key, List.pairwise_map]; exact r.pw
    rw [List.pairwise_map] at this
    exact this
end

section
variable {G : Gl} {env : Env} {A : Around} {σ σ' : St} {Φ : MV → St → Prop}

/-! the items of an empty dict -/
def DictInv (d : Addr) (h : Heap) : Prop := h.get? d = some (dictOf [] 0)
theorem InvOf.dict0 {a : Addr} {b : Bool} (h : ⟨a, b, .dict0⟩ ∈ σ.hp) : InvOf G env σ (DictInv a) := fun fz z s r => (r.hp _ h).1
theorem dictAt0 {prog : Program} {w : World} {h : Heap} {d : Addr} (e : h.get? d = some (dictOf [] 0)) : h.DictAt (strKind prog w) d [] 0 :=
  ⟨_, #[], e, ⟨rfl, rfl, rfl⟩, rfl, fun e h => absurd h (by simp), .nil, List.nodup_nil⟩
theorem XSrc_items0 (hh : A.handled = none) {x : Str} {p apos pos : Pos} {Ψ : List MV → (Heap → Prop) → St → Prop}
    (h : XE G env A σ (.Name x p) fun m σ₁ => σ₁ = σ ∧ ∃ d b, m = .ref d ∧ ⟨d, b, .dict0⟩ ∈ σ₁.hp ∧ (d == sysModules) = false ∧ Ψ [] (DictInv d) σ₁)
    (hbase : attributeBase (.Name x p) "items" env (eval (.Name x p) env) = eval (.Name x p) env) (hline : (apos.endLine == pos.line) = true) :
    XSrc G env A σ (.Call (.Attribute (.Name x p) "items" apos) [] [] pos) Ψ := .mk fun fz z s Q E r q => by
  refine wpAny_Call_method (T := "dict") (id := "dict.items") hbase rfl hline PySem.F.plainAttrs_dict PySem.F.slot_dict_items PySem.F.type_dict_items ?_
  refine h.run fz z s _ E r fun v m σ₁ s₁ va h₁ r₁ t₁ => ?_
  obtain ⟨rfl, d, b, rfl, hm, hdS, hΨ⟩ := h₁
  cases (va : v = _)
  have hd : s₁.heap.get? d = some (dictOf [] 0) := (r₁.hp _ hm).1
  have hA := dictAt0 (prog := G.prog) (w := G.w) hd
  refine ⟨⟨_, hd, rfl⟩, fun a q => by cases q; exact ⟨_, hd, rfl⟩, ?_⟩
  show wpAny _ _ (callWith pos (.builtin "dict.items") [.ref d] [] []) _ E s₁
  refine method_meetsIn PySem.F.slot_dict_items PySem.F.entry_dict_items rfl (PySem.evalArgs_none ⟨rfl, hA.dictOf.typeIs, PySem.F.args_dict_items_1 _, _, meets_dict_items (strKind G.prog G.w) d hdS, ⟨[], hA.dictOf⟩, ?_⟩)
  refine wpAny_pyIter_items (knd := strKind G.prog G.w) (d := d) (kvs := []) (ep := 0) ⟨_, Heap.get?_push_size _ rfl, rfl, rfl⟩ (hA.push _) ?_
  generalize hH : s₁.heap.push { cls := .type "dict_items", data := .fields #[.ref d] } = H
  have k1 : ∀ b o, s₁.heap.get? b = some o → H.get? b = some o := hH ▸ push_keep _ _
  have k2 := push_keep H { cls := .type "dict_itemiterator", data := .fields #[.none, .bool false, .ref d, .int 0 0, .int (0 : Nat) 0, .int (0 : Nat) 0, .none, .none] }
  have fr : s₁.heap.get? H.objs.size = none := by
    cases e : s₁.heap.get? H.objs.size with
    | none => rfl
    | some o => exact absurd (Heap.lt_size (k1 _ _ e)) (Nat.lt_irrefl _)
  refine q [] (DictInv d) H.objs.size [H.objs.size] (fun i h => i = 0 ∧ IsItemIter h H.objs.size d 0 0 0 .none .none) σ₁ _ hΨ ?_ ⟨rfl, Heap.get?_push_size _ rfl⟩ (r₁.keepAll' fun b o e => k2 b o (k1 b o e)) (fun b hb => by rw [List.mem_singleton.mp hb]; exact (r₁.lt_of fr).1) (t₁.trans (TK.of_keep fun b o e => k2 b o (k1 b o e)))
  refine { frame := fun i h h' st k => ⟨st.1, k _ (by simp) _ st.2⟩, fld := fun i h b st hb => by rw [List.mem_singleton.mp hb]; exact ⟨_, _, st.2, rfl⟩, item := fun i m s Q E hm => by simp at hm, done := ?_, self := ?_ }
  · intro s Q E st iv q
    exact wpAny_pyNext_items_end (knd := strKind G.prog G.w) (kvs := []) hh st.2 (dictAt0 iv.1) rfl fun h' eb => q h' s.toks fun b o hb e => eb b o (fun hq => hb (by simp [hq])) e
  · intro i s Q E st q
    have hT : s.TypeIs (.ref H.objs.size) "dict_itemiterator" := ⟨_, st.2, rfl⟩
    refine wpAny_pyIter_slot hT PySem.F.slot_dict_itemiterator_iter (wpAny_call_entry PySem.F.slot_dict_itemiterator_iter hT kcp_entry ?_ (PySem.F.args_dict_itemiterator_iter_1 _))
    show wpAny _ _ (ret (.ref H.objs.size)) _ _ s
    exact wpAny_pure ⟨_, rfl, "dict_itemiterator", _, hT, PySem.F.slot_dict_itemiterator_next.lookup, q⟩

/-! storing the one attribute -/
structure ClsS (K : Frag) (C : Addr) : Prop where
  over : plainOver K C = true
  take : takerIn K C "_headers" = some none
  hd : (clsIn K C).any (·.hasDict) = true
  set : findIn K (.ref C) "__setattr__" = some (some (.builtin "object.__setattr__"))
theorem XS_AssignAttr (g : G.Ok) {C : Addr} (k : ClsS G.K C) {o value : Expr} {pos' pos : Pos} {Ψ : MF → St → Prop}
    (h : XE G env A σ value fun v σ₁ => XE G env A σ₁ o fun m σ₂ => ∃ l a b d i, v = .ref l ∧ m = .ref a ∧ ⟨a, b, .inst C d⟩ ∈ σ₂.hp ∧ σ₂.hp[i]? = some ⟨d, true, .dict0⟩ ∧ Ψ .next { σ₂ with hp := σ₂.hp.set i ⟨d, true, .attrs l⟩ })
    (hs : swapsWith value (some (.Attribute o "_headers" pos')) pos.line env = pure false) : XS G env A σ (.Assign [.Attribute o "_headers" pos'] value pos) Ψ := .mk fun fz z s Q E r q => by
  refine plainObj_wpAny_Assign_Attribute (h.run fz z s _ _ r fun v _ σ₁ s₁ va h₁ r₁ t₁ => h₁.run _ _ _ _ _ r₁ fun w _ σ₂ s₂ vb h₂ r₂ t₂ => ?_) hs
  obtain ⟨l, a, b, d, i, rfl, rfl, hm, hi, hΨ⟩ := h₂
  cases (va : v = _); cases (vb : w = _)
  have o1 := (r₂.hp _ hm).1
  obtain ⟨o2, own, _⟩ := r₂.hp _ (List.mem_of_getElem? hi)
  obtain ⟨hfd, hdL⟩ := own rfl
  dsimp only at hfd hdL
  have X := g.X.keeps r₂.old
  have I : PySem.W.InstAt s₂.heap a (instObj C d) C (some (dictOf [] 0)) := InstAt.empty o1 o2
  refine set_plain X I k.set ?_
  obtain ⟨m, hn, hmm⟩ := r₂.ns
  have F : Fr {} env.locals s₂.heap m := ⟨hn, fun b o e => (by rw [empty_get] at e; cases e), Nat.zero_le _⟩
  have N' : News {} env.locals s₂.heap ([] ++ (d, dictOf [] 0) :: (allN env.locals s₂.heap).filter (·.1 ≠ d)) := fun p hp => by
    rcases List.mem_cons.mp hp with rfl | hp
    · exact ⟨o2, hdL, empty_get _⟩
    · obtain ⟨a, b⟩ := of_mem_allN (List.mem_filter.mp hp).1
      exact ⟨b, a, empty_get _⟩
  refine osa_dict (s := { s₂ with toks := s₂.toks + 1 }) (od' := dictOf [⟨PyData.keyHash G.w.params "_headers", .str "_headers" (s₂.toks + 1), .ref l⟩] 1) (es := [⟨PyData.keyHash G.w.params "_headers", .str "_headers" (s₂.toks + 1), .ref l⟩]) (n := 1)
    F N' X I rfl k.over k.take k.hd rfl (fun p hp => absurd hp List.not_mem_nil) (fun p hp => by have := (List.mem_filter.mp hp).2; simpa using this) rfl rfl (by simp) fun h' F' N' => ?_
  have kk : ∀ c o, c ≠ d → s₂.heap.get? c = some o → c ≠ env.locals → h'.get? c = some o := fun c o hc e hL => (N' (c, o) (List.mem_cons_of_mem _ (List.mem_filter.mpr ⟨mem_allN hL e, by simpa using hc⟩))).1
  -- first the frame's dict, then the attribute's
  have hd' : h'.get? d = some (dictOf [⟨PyData.keyHash G.w.params "_headers", .str "_headers" (s₂.toks + 1), .ref l⟩] 1) := (N' _ (.head _)).1
  obtain ⟨r₃, t₃⟩ := r₂.swap (tk := s₂.toks + 1 + 1) hn hmm F'.ns hi (m' := .attrs l) (fun c o hc hL e => kk c o hc e hL) ⟨_, _, hd'⟩
  exact q _ .next _ _ rfl hΨ r₃ ((t₁.trans t₂).trans t₃)
end
end Mine
end PartB11

section PartB12
open PySem PySem.Calls PySem.W PyProof.Rows PySem.Spec
set_option maxRecDepth 100000
set_option linter.unusedVariables false
namespace Mine

section
variable {G : Gl} {env : Env} {A : Around} {σ σ' : St} {Φ : MV → St → Prop}

theorem fresh_sys (g : G.Ok) {fz : Fz} {z s : Shared} (r : Rel G.h₁ env fz z σ s) {d : Addr} (h : s.heap.objs.size ≤ d) : (d == sysModules) = false := by
  have hn : s.heap.Ns mainGlobals G.mg := g.g.keeps r.old
  obtain ⟨o, _, _, e, _⟩ := hn
  have h3 : (3 : Nat) < s.heap.objs.size := Heap.lt_size e
  have h2 : (1 : Nat) < d := Nat.lt_of_lt_of_le (Nat.lt_of_le_of_lt (by decide) h3) h
  exact beq_false_of_ne (Nat.ne_of_gt h2)

/-- a call of a class without arguments -/
theorem XE_CallCls0 {id p pos} {C : Addr} (g : G.Ok) (hk : keepIn G.K (.ref C) = true) (h : XE G env A σ (.Name id p) fun m σ₁ => m = .ref C ∧ XC G env A σ₁ (.ref C) [] Φ) : XE G env A σ (.Call (.Name id p) [] [] pos) Φ := .mk fun fz z s Q E r q =>
  wpAny_Call_NameR (h.run fz z s _ _ r fun _ _ _ s₁ va h₁ r₁ t₁ => by
    obtain ⟨rfl, h₁⟩ := h₁
    cases (va : _ = Value.ref C)
    exact callWith_K0 (g.X.keeps r₁.old) hk (XVs.at h₁ VAs.nil r₁ t₁ q))

/-- making an instance: __init__ runs in its own frame; what it leaves is the caller's -/
theorem XC_make (g : G.Ok) {n : Nat} (room : Room A (n + 3)) {C f : Addr} {fd : FuncData} {body : List Stmt} {bnd : Addr → List (Str × MV)} (hmk : makesIn G.K C = true) (hi : findIn G.K (.ref C) "__init__" = some (some (.ref f))) (hty : typeIn G.K (.ref f) = some (.type "function"))
    (k : DefK G.K f fd body) (hcell : ∀ x ∈ fd.scope.names, x.2 ≠ .cell) (hloc : ∀ x, ∀ y ∈ bnd x, fd.scope.names.lookup y.1 = some .local)
    (hb : ∀ (A : Around) (h : Heap) (s : Shared) (Q : List (Str × Value) → Shared → Prop) (E : Value → Shared → Prop) x, (∀ b o, G.h₁.get? b = some o → s.heap.get? b = some o) → (∀ binds, BA s.heap (bnd x) binds → Q binds s) → wpAny (model G.prog G.w) A (bindArgs fd ⟨[.ref x], []⟩) Q E s)
    (h : ∀ x d L, (d == sysModules) = false → ∀ A' : Around, Room (A'.deeper (callEnv fd L f)) n → XSs G (callEnv fd L f) (A'.deeper (callEnv fd L f)) ⟨(bnd x).reverse, ⟨x, true, .inst C d⟩ :: ⟨d, true, .dict0⟩ :: frzAll σ.hp, true⟩ body fun fl σ' =>
      retOf fl = .none ∧ ∃ new, new.Sublist σ'.hp ∧ (∀ e ∈ new, e.own = true) ∧ Φ (.ref x) { σ with hp := new ++ σ.hp }) :
    XC G env A σ (.ref C) [] Φ := .mk fun fz z s Q E vs va r q => by
  cases (va : vs = _)
  have X := g.X.keeps r.old
  obtain ⟨hh, gg, dd, tt, os⟩ := s
  refine wpAny_call (make_core (makes_of X hmk) (looks_findIn X hi) (fun self => bind_fn X self hty) (.inl rfl) ?_)
  obtain ⟨oc, od, osl, hK⟩ := k.look
  generalize hA : A.under (.builtin "type.__call__" ⟨.ref C :: [], []⟩) = A'
  have rA : Room A' (n + 2) := by
    subst hA
    refine ⟨room.hh, ?_, ?_⟩
    · show A.depth + 1 + (n + 2) < _; have := room.depth; omega
    · show A.units + 1 + 4 * (n + 2) + 8 < _; have := room.units; omega
  have k1 := push_keep hh emptyDict
  have k2 := push_keep (hh.push emptyDict) (instObj C hh.objs.size)
  have kk : ∀ b o, hh.get? b = some o → ((hh.push emptyDict).push (instObj C hh.objs.size)).get? b = some o := fun b o e => k2 b o (k1 b o e)
  have hd0 : ((hh.push emptyDict).push (instObj C hh.objs.size)).get? hh.objs.size = some emptyDict := Heap.get?_push_of_some _ (Heap.get?_push_size _ rfl)
  have hx0 : ((hh.push emptyDict).push (instObj C hh.objs.size)).get? (hh.objs.size + 1) = some (instObj C hh.objs.size) := by
    have := Heap.get?_push_size (hh.push emptyDict) (o := instObj C hh.objs.size) rfl
    rwa [Heap.size_push] at this
  generalize hH : (hh.push emptyDict).push (instObj C hh.objs.size) = H at kk hd0 hx0 ⊢
  have X' := X.keeps kk
  have old' : ∀ b o, G.h₁.get? b = some o → H.get? b = some o := fun b o e => kk b o (r.old b o e)
  refine codeAny_call_function rA.lim (X' _ _ hK) rfl k.co k.gen k.body (codeRec_of X' k.code) (hb _ hh _ _ _ _ old' fun binds ba => ?_)
  have hloc' : ∀ y ∈ binds, fd.scope.names.lookup y.1 = some .local := fun y hy => by
    have hm : y.1 ∈ (bnd (hh.objs.size + 1)).map (·.1) := ba.names ▸ List.mem_map_of_mem hy
    obtain ⟨y', hy', e⟩ := List.mem_map.mp hm
    rw [← e]; exact hloc _ y' hy'
  refine wpAny_newFunctionEnv hcell hloc' (fun h₀ hns₀ hsb₀ => ⟨((g.nolimit.keeps r.old).keeps kk).fresh _ hsb₀, codeAny_func ?_⟩) k.kind
  dsimp only at hns₀ hsb₀ ba ⊢
  have kp : ∀ b o, H.get? b = some o → h₀.get? b = some o := fun b o e => hsb₀.extBut b o (Nat.ne_of_lt (Heap.lt_size e)) (Heap.get?_push_of_some _ e)
  have t₀ : TK H h₀ := TK.of_keep kp
  have fr : ∀ b, hh.objs.size ≤ b → hh.get? b = none := fun b hb => Heap.get?_none_of_le hb
  have hsz : hh.objs.size + 2 ≤ H.objs.size := by
    exact Nat.succ_le_of_lt (Heap.lt_size hx0)
  show wpAny _ (A'.deeper (callEnv fd H.objs.size f)) (execs body (callEnv fd H.objs.size f)) _ _ _
  have rc := fresh_sys g r (Nat.le_refl _)
  have hp₀ : ∀ e ∈ σ.hp, e.a ≠ hh.objs.size ∧ e.a ≠ hh.objs.size + 1 := fun e he => by
    obtain ⟨o, ho, _⟩ := (r.hp e he).1.get
    have h1 : e.a < hh.objs.size := Heap.lt_size ho
    exact ⟨Nat.ne_of_lt h1, Nat.ne_of_lt (Nat.lt_succ_of_lt h1)⟩
  refine (h (hh.objs.size + 1) hh.objs.size H.objs.size rc A' (rA.le (Nat.le_succ _)).deeper).run (fun b => hh.get? b) z ⟨h₀, gg, dd, tt + binds.length, os⟩ _ _ ?_ fun fl mfl σ₂ s₂ fa hΦ r₂ t₂ => ?_
  · refine ⟨fun b o e => r.old b o e, fun b o e => kp _ _ (kk _ _ e), fr _ (Nat.le_trans (Nat.le_add_right _ 2) hsz), ⟨_, hns₀, fun x v e _ => ?_⟩, fun x v _ e => ?_, fun _ x c e => ?_, fun e he => ?_, ?_, by have := r.rest; injection this; subst_vars; rfl⟩
    · obtain ⟨v', e1, e2⟩ := ba.reverse.lookup e
      exact ⟨v', e1, e2.mono t₀⟩
    · exfalso
      obtain ⟨v', e1, _⟩ := ba.reverse.lookup ‹_›
      have hm : (x, v') ∈ binds := List.mem_reverse.mp (mem_of_lookup e1)
      have hl : fd.scope.names.lookup x = some .local := hloc' _ hm
      have e' : fd.scope.names.lookup x = some .cell ∨ fd.scope.names.lookup x = some .free := e
      rw [hl] at e'
      rcases e' with e' | e' <;> cases e'
    · have e' : fd.closure.lookup x = some c := e
      rw [k.clo] at e'; simp at e'
    · rcases List.mem_cons.mp he with rfl | he
      · exact ⟨kp _ _ hx0, fun _ => ⟨fr _ (Nat.le_succ _), Nat.ne_of_lt (Nat.lt_of_lt_of_le (Nat.lt_succ_self _) hsz)⟩, fun q => (nomatch q)⟩
      rcases List.mem_cons.mp he with rfl | he
      · exact ⟨kp _ _ hd0, fun _ => ⟨fr _ (Nat.le_refl _), Nat.ne_of_lt (Nat.lt_of_lt_of_le (Nat.lt_succ_of_lt (Nat.lt_succ_self _)) hsz)⟩, fun q => (nomatch q)⟩
      obtain ⟨e', he', rfl⟩ := List.mem_map.mp he
      obtain ⟨a, _⟩ := r.hp e' he'
      obtain ⟨o, ho, _⟩ := a.get
      exact ⟨(a.mono (TK.of_keep kk) fun o => kk _ o).mono t₀ fun o => kp _ o, fun q => (nomatch q), fun _ => by show (hh.get? e'.a).isSome = true; rw [ho]; rfl⟩
    · refine List.pairwise_cons.mpr ⟨fun e he => ?_, List.pairwise_cons.mpr ⟨fun e he => ?_, ?_⟩⟩
      · rcases List.mem_cons.mp he with rfl | he
        · exact Nat.succ_ne_self _
        · obtain ⟨e', he', rfl⟩ := List.mem_map.mp he
          exact (hp₀ e' he').2.symm
      · obtain ⟨e', he', rfl⟩ := List.mem_map.mp he
        exact (hp₀ e' he').1.symm
      · show (frzAll σ.hp).Pairwise _
        unfold frzAll
        rw [List.pairwise_map]
        exact r.pw
  · obtain ⟨hret, new, hs, ho, hΦ⟩ := hΦ
    have rb := r.back r₂ hs ho
    have tt : TK hh s₂.heap := (TK.of_keep kk).trans (t₀.trans t₂)
    have fin : Q (.ref (hh.objs.size + 1)) s₂ := q (.ref (hh.objs.size + 1)) (.ref (hh.objs.size + 1)) _ _ rfl hΦ rb tt
    cases mfl with
    | next => cases (fa : fl = _); exact ⟨rfl, fin⟩
    | brk => cases (fa : fl = _); exact ⟨rfl, fin⟩
    | cont => cases (fa : fl = _); exact ⟨rfl, fin⟩
    | ret v =>
      obtain ⟨v', rfl, va'⟩ := fa
      cases (hret : v = .none)
      cases (va' : v' = _)
      exact ⟨rfl, fin⟩

/-- arguments, and an empty dict for the keywords that are not there -/
theorem XBd_kwargs (g : G.Ok) {fd : FuncData} {ms : List MV} {Ψ : List (Str × MV) → St → Prop} (bnd : List (Str × MV)) (kn : Str)
    (hb : ∀ (h : Heap) vs, VAs h ms vs → ∃ binds, bindArgs fd ⟨vs, []⟩ = (do let d ← alloc { cls := .type "dict", data := .dict #[] }; pure (binds ++ [(kn, .ref d)])) ∧ BA h bnd binds)
    (h : ∀ d, (d == sysModules) = false → Ψ (bnd ++ [(kn, .ref d)]) { σ with hp := ⟨d, true, .dict0⟩ :: σ.hp }) : XBd G env A σ fd ms [] Ψ := .mk fun fz z s Q E vs kv va vk r q => by
  cases (vk : kv = _)
  obtain ⟨binds, e, ba⟩ := hb s.heap vs va
  rw [e]
  have kp := push_keep s.heap emptyDict
  refine wpAny_bind (wpAny_alloc (wpAny_pure (q _ (bnd ++ [(kn, .ref s.heap.objs.size)]) _ _ (BA.append (ba.mono (TK.of_keep kp)) (BA.cons (m := .ref _) rfl BA.nil)) (h _ (fresh_sys g r (Nat.le_refl _))) (r.alloc (m := .dict0) kp (fresh_size _) (Heap.get?_push_size s.heap (o := emptyDict) rfl)) kp)))
end
end Mine
end PartB12

section PartB13
open PySem PySem.Calls PySem.W PyProof.Rows PySem.Spec
set_option maxRecDepth 100000
set_option linter.unusedVariables false
namespace Mine

def noT : MV → Bool
  | .tup _ => false
  | _ => true
def moT : MO → Bool
  | .list vs => vs.all noT
  | _ => true
structure St.NoT (σ : St) : Prop where
  loc : ∀ x v, σ.loc.lookup x = some v → noT v = true
  hp : ∀ e ∈ σ.hp, moT e.o = true
theorem VA.noT {h h' : Heap} {m : MV} {v : Value} (x : VA h m v) (n : noT m = true) : VA h' m v := by
  cases m with
  | tup vs => cases n
  | _ => exact x
theorem VAs.noT {h h' : Heap} : ∀ {ms : List MV} {vs : List Value}, VAs h ms vs → ms.all noT = true → VAs h' ms vs
  | [], _, x, _ => x
  | _ :: _, _, ⟨v, r, e, x, y⟩, n => by
    rw [List.all_cons, Bool.and_eq_true] at n
    exact ⟨v, r, e, x.noT n.1, VAs.noT y n.2⟩
theorem OA.noT {h h' : Heap} {a : Addr} {m : MO} (x : OA h a m) (n : moT m = true) (e : ∀ o, h.get? a = some o → h'.get? a = some o) : OA h' a m := by
  cases m with
  | list vs => obtain ⟨arr, ⟨k, q⟩, y⟩ := x; exact ⟨arr, ⟨k, e _ q⟩, y.noT n⟩
  | inst d => exact e _ x
  | dict0 => exact e _ x
  | attrs l => obtain ⟨hs, t, q⟩ := x; exact ⟨hs, t, e _ q⟩

/-- iterators and tuples of theirs -/
def Itr (wr : List Addr) (h : Heap) : Prop := ∀ b ∈ wr, ∃ o, h.get? b = some o ∧ ((∃ vs, o.data = .fields vs) ∨ (o.cls = .type "tuple" ∧ ∃ arr n, o.data = .seq arr n))

section
variable {h₁ : Heap} {env : Env} {fz : Fz} {z : Shared} {σ σ' : St} {s s' : Shared} {wr : List Addr} {h : Heap}
theorem Rel.tL (r : Rel h₁ env fz z σ s) (f : Itr wr s.heap) : env.locals ∉ wr := fun hm => by
  obtain ⟨o, e, d⟩ := f _ hm
  obtain ⟨m, ⟨o', es, ep, e', d', _⟩, _⟩ := r.ns
  rw [e] at e'; cases e'
  rcases d with ⟨_, d⟩ | ⟨_, _, _, d⟩ <;> (rw [d'] at d; cases d)
theorem Rel.tE (r : Rel h₁ env fz z σ s) (f : Itr wr s.heap) {e : Ent} (he : e ∈ σ.hp) : e.a ∉ wr := fun hm => by
  obtain ⟨o, e1, d⟩ := f _ hm
  obtain ⟨o', e2, t, _, n⟩ := (r.hp e he).1.get
  rw [e1] at e2; cases e2
  rcases d with ⟨_, d⟩ | ⟨c, _, _, d⟩
  · exact n _ d
  · exact t _ _ c d
theorem Itr.cell (f : Itr wr s.heap) {c : Addr} {ov : Option Value} (x : s.heap.IsCell c ov) : c ∉ wr := fun hm => by
  obtain ⟨o, e, d⟩ := f _ hm
  obtain ⟨o', e', d'⟩ := x
  rw [e] at e'; cases e'
  rcases d with ⟨_, d⟩ | ⟨_, _, _, d⟩ <;> (rw [d'] at d; cases d)
theorem Rel.tIn (r : Rel h₁ env fz z σ s) (f : Itr wr s.heap) (hf : ∀ b ∈ wr, fz b = none) : Rel h₁ env (fzw fz wr s.heap) z σ s := by
  refine ⟨fun b o e => ?_, fun b o e => ?_, ?_, r.ns, r.cells, fun q x c hx => ?_, fun e he => ?_, r.pw, r.rest⟩
  · unfold fzw
    rw [if_neg (fun hm => by have := hf b hm; rw [r.base b o e] at this; cases this)]
    exact r.base b o e
  · unfold fzw at e
    split at e
    · exact e
    · exact r.keep b o e
  · unfold fzw; rw [if_neg (r.tL f)]; exact r.fzL
  · obtain ⟨a, ov, e1⟩ := r.cown q x c hx
    refine ⟨?_, ov, e1⟩
    unfold fzw
    rw [if_neg (f.cell e1)]
    exact a
  · obtain ⟨a, b, c⟩ := r.hp e he
    unfold fzw
    rw [if_neg (r.tE f he)]
    exact ⟨a, b, c⟩
theorem Rel.tOut (r : Rel h₁ env (fzw fz wr h) z σ s) (hb : ∀ b o, h₁.get? b = some o → fz b = some o) (hf : ∀ b ∈ wr, fz b = none) (f : Itr wr s.heap) : Rel h₁ env fz z σ s := by
  have key : ∀ b, b ∉ wr → fzw fz wr h b = fz b := fun b hm => by unfold fzw; rw [if_neg hm]
  refine ⟨hb, fun b o e => ?_, ?_, r.ns, r.cells, fun q x c hx => ?_, fun e he => ?_, r.pw, r.rest⟩
  · refine r.keep b o ?_
    rw [key b fun hm => by rw [hf b hm] at e; cases e]; exact e
  · rw [← key _ (r.tL f)]; exact r.fzL
  · obtain ⟨a, ov, e1⟩ := r.cown q x c hx
    refine ⟨?_, ov, e1⟩
    rw [← key c (f.cell e1)]
    exact a
  · have := r.hp e he
    rw [key _ (r.tE f he)] at this
    exact this
theorem Rel.tMoved (r : Rel h₁ env fz z σ s) (n : σ.NoT) (hf : ∀ b ∈ wr, fz b = none) {h' : Heap} {tk : Nat} (f : Itr wr s.heap) (k : ∀ b o, b ∉ wr → s.heap.get? b = some o → h'.get? b = some o) :
    Rel h₁ env fz z σ { s with heap := h', toks := tk } := by
  refine ⟨r.base, fun b o e => k _ _ (fun hm => by rw [hf b hm] at e; cases e) (r.keep b o e), r.fzL, ?_, ?_, fun q x c hx => ?_, fun e he => ?_, r.pw, by have := r.rest; rw [this]⟩
  · obtain ⟨m, hn, hm⟩ := r.ns
    exact ⟨m, hn.at' fun o => k _ o (r.tL f), fun x v q q' => let ⟨v', a, b⟩ := hm x v q q'; ⟨v', a, b.noT (n.loc x v q)⟩⟩
  · intro x v q q'
    obtain ⟨c, v', a, e, d⟩ := r.cells x v q q'
    exact ⟨c, v', a, (let ⟨o, e1, e2⟩ := e; ⟨o, k _ _ (f.cell e) e1, e2⟩), d.noT (n.loc x v q)⟩
  · obtain ⟨a, ov, e⟩ := r.cown q x c hx
    exact ⟨a, ov, (let ⟨o, e1, e2⟩ := e; ⟨o, k _ _ (f.cell e) e1, e2⟩)⟩
  · obtain ⟨a, b⟩ := r.hp e he
    exact ⟨a.noT (n.hp e he) fun o => k _ o (r.tE f he), b⟩
end

section
variable {G : Gl} {env : Env} {A : Around} {σ σ' : St} {Φ : MV → St → Prop}

theorem XS_ForZip (hh : A.handled = none) {elts : List Expr} {kk : Nat} {tp : Pos} {e1 e2 : Expr} {p cpos pos : Pos} {body : List Stmt} {Ψ : MF → St → Prop}
    (h : XE G env A σ (.Name "zip" p) fun m σ₁ => m = .raw (.type "zip") ∧ XE G env A σ₁ e1 fun m1 σ₂ => XE G env A σ₂ e2 fun m2 σ₃ => ∃ a xs b ys, m1 = .ref a ∧ m2 = .ref b ∧ ⟨a, false, .list xs⟩ ∈ σ₃.hp ∧ ⟨b, false, .list ys⟩ ∈ σ₃.hp ∧ xs.length = ys.length ∧ ∃ J : Nat → St → Prop, (∃ σc, Le σc σ₃ ∧ J 0 σc) ∧
      (∀ i σ', J i σ' → σ'.NoT ∧ ⟨a, false, .list xs⟩ ∈ σ'.hp ∧ ⟨b, false, .list ys⟩ ∈ σ'.hp) ∧
      (∀ i x y σ', xs[i]? = some x → ys[i]? = some y → J i σ' → XAss G env A σ' (.Tuple elts kk tp) (.tup [x, y]) fun σ'' => XSs G env A σ'' body fun fl σ₃ => match fl with | .next => ∃ σc, Le σc σ₃ ∧ J (i + 1) σc | .cont => ∃ σc, Le σc σ₃ ∧ J (i + 1) σc | .brk => Ψ .next σ₃ | .ret v => Ψ (.ret v) σ₃) ∧
      (∀ σ', J xs.length σ' → Ψ .next σ'))
    (he : backTo cpos (starEach [e1, e2] env) = [(false, eval e1 env), (false, eval e2 env)])
    (hs : ∀ x, foldedSetIterable (.Call (.Name "zip" p) [e1, e2] [] cpos) env x = pure x) : XS G env A σ (.For (.Tuple elts kk tp) (.Call (.Name "zip" p) [e1, e2] [] cpos) body [] pos) Ψ := .mk fun fz z s Q E r q => by
  refine wpAny_For (wpAny_Call_NameR (h.run fz z s _ E r fun f m σ₁ s₁ va h₁ r₁ t₁ => ?_)) hs
  obtain ⟨rfl, h₁⟩ := h₁
  cases (va : f = _)
  rw [he]
  refine callWith_raw (fun _ e => nomatch e) rfl (spliced_cons (h₁.run fz z s₁ _ E r₁ fun v1 m1 σ₂ s₂ vb h₂ r₂ t₂ => spliced_cons (h₂.run fz z s₂ _ E r₂ fun v2 m2 σ₃ s₃ vc h₃ r₃ t₃ => spliced_nil ?_)))
  obtain ⟨a, xs, b, ys, rfl, rfl, ha, hb, hlen, J, ⟨σc0, l0, j0⟩, jW, turn, done⟩ := h₃
  cases (vb : v1 = _); cases (vc : v2 = _)
  obtain ⟨⟨arr1, pl1, y1⟩, -, fa⟩ := r₃.hp _ ha
  obtain ⟨⟨arr2, pl2, y2⟩, -, fb⟩ := r₃.hp _ hb
  dsimp only at pl1 pl2 fa fb
  have il1 : s₃.heap.IsList a arr1 := Heap.PlainList.isList pl1
  have il2 : s₃.heap.IsList b arr2 := Heap.PlainList.isList pl2
  have sz1 : arr1.size = xs.length := by have := y1.length; simpa using this
  have sz2 : arr2.size = ys.length := by have := y2.length; simpa using this
  have la : a < s₃.heap.objs.size := by obtain ⟨n, e⟩ := pl1; exact Heap.lt_size e
  have lb : b < s₃.heap.objs.size := by obtain ⟨n, e⟩ := pl2; exact Heap.lt_size e
  show wpAny _ A (call (.type "zip") [.ref a, .ref b] []) _ _ _
  refine call_zip_2 il1 il2 fun h' hz hTI hTO hi1 hi2 hsz kp => ?_
  generalize hn : s₃.heap.objs.size = n at hz hTI hTO hi1 hi2 hsz la lb ⊢
  have la' : a < n := la
  have lb' : b < n := lb
  have ne : ∀ (x : Nat), x < n → ∀ k, x ≠ n + k := fun x hx k => Nat.ne_of_lt (Nat.lt_of_lt_of_le hx (Nat.le_add_right n k))
  have D : ZipApart (n + 4) (n + 2) (n + 3) n (n + 1) a b := by constructor <;> first | exact ne a la 4 | exact ne a la 3 | exact ne a la 0 | exact ne a la 1 | exact ne b lb 4 | exact ne b lb 3 | exact ne b lb 0 | exact ne b lb 1 | exact Nat.ne_of_lt (by omega) | exact Nat.ne_of_gt (by omega)
  have W := WalksT.zip2 (prog := G.prog) (w := G.w) (A := A) hh (n + 4) (n + 2) (n + 3) n (n + 1) a b D arr1 arr2
  have hmin : min arr1.size arr2.size = xs.length := by rw [sz1, sz2, hlen]; exact Nat.min_self _
  rw [hmin] at W
  have fr : ∀ c, n ≤ c → s₃.heap.get? c = none := fun c hc => Heap.get?_none_of_le (hn ▸ hc)
  have fz0 : ∀ c ∈ [n + 4, n + 2, n + 3, n, n + 1], fz c = none := fun c hc => (r₃.lt_of (fr c (by simp at hc; omega))).1
  have st0 : IsZip h' (n + 4) (n + 2) (n + 3) .none ∧ IsPair h' (n + 2) (.ref n) (.ref (n + 1)) ∧ (∃ a b, IsPair h' (n + 3) a b) ∧ h'.IsListIter n a 0 ∧ h'.IsListIter (n + 1) b 0 ∧ h'.IsList a arr1 ∧ h'.IsList b arr2 :=
    ⟨hz, hTI, ⟨_, _, hTO⟩, hi1, hi2, il1.at fun o e => kp _ o e, il2.at fun o e => kp _ o e⟩
  refine W.self 0 _ _ _ st0 ?_
  have r₄ := r₃.keepAll' (tk := s₃.toks) kp
  refine codeAny_forLoop_any (fun k s' => ∃ i σ', k = xs.length + 1 - i ∧ i ≤ xs.length ∧ J i σ' ∧ Rel G.h₁ env fz z σ' s' ∧
    (IsZip s'.heap (n + 4) (n + 2) (n + 3) .none ∧ IsPair s'.heap (n + 2) (.ref n) (.ref (n + 1)) ∧ (∃ a b, IsPair s'.heap (n + 3) a b) ∧ s'.heap.IsListIter n a i ∧ s'.heap.IsListIter (n + 1) b i ∧ s'.heap.IsList a arr1 ∧ s'.heap.IsList b arr2) ∧ TK s₃.heap s'.heap)
    ?_ (xs.length + 1) ⟨0, σc0, rfl, Nat.zero_le _, j0, r₄.le l0, st0, TK.of_keep kp⟩
  rintro k s' ⟨i, σ', rfl, hi, j, r', st', t'⟩
  have itr : ∀ (h : Heap) i f0, IsZip h (n + 4) (n + 2) (n + 3) f0 ∧ IsPair h (n + 2) (.ref n) (.ref (n + 1)) ∧ (∃ a b, IsPair h (n + 3) a b) ∧ h.IsListIter n a i ∧ h.IsListIter (n + 1) b i → Itr [n + 4, n + 2, n + 3, n, n + 1] h := fun h i f0 ⟨a1, a2, ⟨_, _, a3⟩, ⟨o4, a4, c4, d4⟩, ⟨o5, a5, c5, d5⟩⟩ c hc => by
    simp only [List.mem_cons, List.not_mem_nil, or_false] at hc
    rcases hc with rfl | rfl | rfl | rfl | rfl
    · exact ⟨_, a1, .inl ⟨_, rfl⟩⟩
    · exact ⟨_, a2, .inr ⟨rfl, _, _, rfl⟩⟩
    · exact ⟨_, a3, .inr ⟨rfl, _, _, rfl⟩⟩
    · exact ⟨_, a4, .inl ⟨_, d4⟩⟩
    · exact ⟨_, a5, .inl ⟨_, d5⟩⟩
  have kwr : ∀ {h h' : Heap}, (∀ c o, c ∉ [n + 4, n + 3, n, n + 1] → h.get? c = some o → h'.get? c = some o) → ∀ c o, c ∉ [n + 4, n + 2, n + 3, n, n + 1] → h.get? c = some o → h'.get? c = some o := fun k c o hc e => k c o (fun hm => hc (by simp at hm ⊢; rcases hm with h | h | h | h <;> simp [h])) e
  have tkw : ∀ {h h' : Heap}, (∀ c o, c ∉ [n + 4, n + 3, n, n + 1] → h.get? c = some o → h'.get? c = some o) → TK s₃.heap h → TK s₃.heap h' := fun k t c arr x => by
    obtain ⟨o, e, hc, m, d⟩ := t c arr x
    refine ⟨o, k c o (fun hm => ?_) e, hc, m, d⟩
    obtain ⟨o', e', _⟩ := x
    rw [fr c (by simp at hm; omega)] at e'; cases e'
  have i1 := itr _ i _ ⟨st'.1, st'.2.1, st'.2.2.1, st'.2.2.2.1, st'.2.2.2.2.1⟩
  obtain ⟨nT, ha', hb'⟩ := jW i σ' j
  by_cases hlt : i < xs.length
  · refine W.item i s' _ _ hlt st' fun T vals h₂ tk₂ hP hT isT hMid k₂ => ?_
    have r₂' := r'.tMoved nT fz0 (tk := tk₂) i1 (kwr k₂)
    have i2 := itr _ _ _ ⟨hMid.1, hMid.2.1, hMid.2.2.1, hMid.2.2.2.1, hMid.2.2.2.2.1⟩
    refine W.go elts kk tp i T { s' with heap := h₂, toks := tk₂ } _ _ hMid fun h₃ st₃ k₃ => ?_
    have r₃' := r₂'.tMoved (h' := h₃) (tk := tk₂) nT fz0 i2 (kwr k₃)
    have isT₃ : h₃.IsTuple T vals := let ⟨o, e, c, d⟩ := isT; ⟨o, k₃ _ _ (W.apart i T _ hMid) e, c, d⟩
    have i3 := itr _ _ _ ⟨st₃.1, st₃.2.1, st₃.2.2.1, st₃.2.2.2.1, st₃.2.2.2.2.1⟩
    have r₄' := r₃'.tIn (wr := [n + 4, n + 2, n + 3, n, n + 1]) i3 fz0
    obtain ⟨xv, yv, hxv, hyv, rfl⟩ := hP
    obtain ⟨x, hx, vx⟩ := y1.of_get (by rw [Array.getElem?_toList]; exact hxv)
    obtain ⟨y, hy, vy⟩ := y2.of_get (by rw [Array.getElem?_toList]; exact hyv)
    have nx : noT x = true := by
      have := nT.hp _ ha'
      exact List.all_eq_true.mp this x (List.mem_of_getElem? hx)
    have ny : noT y = true := by
      have := nT.hp _ hb'
      exact List.all_eq_true.mp this y (List.mem_of_getElem? hy)
    refine (turn i x y σ' hx hy j).run _ z _ _ _ (.ref T) ⟨T, _, rfl, isT₃, VAs.cons (vx.noT nx) (VAs.cons (vy.noT ny) VAs.nil)⟩ r₄' fun _ _ σ₅ s₅ _ h₅ r₅ t₅ => ?_
    refine h₅.run _ z _ _ _ r₅ fun fl mfl σ₆ s₆ fa h₆ r₆ t₆ => ?_
    have k₆ : ∀ c ∈ [n + 4, n + 2, n + 3, n, n + 1], ∀ o, h₃.get? c = some o → s₆.heap.get? c = some o := fun c hc o e => r₆.keep c o (by unfold fzw; rw [if_pos hc]; exact e)
    have kl : ∀ c, fz c ≠ none → c ∉ [n + 4, n + 2, n + 3, n, n + 1] := fun c hc hm => hc (fz0 c hm)
    have i6 : Itr [n + 4, n + 2, n + 3, n, n + 1] s₆.heap := fun c hc => let ⟨o, e, d⟩ := i3 c hc; ⟨o, k₆ c hc o e, d⟩
    have r₇ := r₆.tOut r.base fz0 i6
    have keepF : ∀ c o, fz c = some o → s₆.heap.get? c = some o := r₇.keep
    have fza : fz a ≠ none := fun e => by have := fa; have := (r₃.hp _ ha).2.2 rfl; dsimp only at this; rw [e] at this; cases this
    have fzb : fz b ≠ none := fun e => by have := (r₃.hp _ hb).2.2 rfl; dsimp only at this; rw [e] at this; cases this
    have kF : ∀ c, fz c ≠ none → ∀ o, h₃.get? c = some o → s₆.heap.get? c = some o := fun c hc o e => by
      cases hf : fz c with
      | none => exact absurd hf hc
      | some o' =>
        have e' := r₃'.keep c o' hf
        have e2 : h₃.get? c = some o' := e'
        rw [e] at e2; cases e2
        exact keepF c o hf
    have st₆ := W.frame _ _ s₆.heap st₃ fun c hc o e => by
      simp only [List.mem_cons, List.not_mem_nil, or_false] at hc
      rcases hc with rfl | rfl | rfl | rfl | rfl | rfl | rfl
      · exact k₆ _ (by simp) o e
      · exact k₆ _ (by simp) o e
      · exact k₆ _ (by simp) o e
      · exact k₆ _ (by simp) o e
      · exact k₆ _ (by simp) o e
      · exact kF _ fza o e
      · exact kF _ fzb o e
    have tt : TK s₃.heap s₆.heap := ((tkw k₃ (tkw k₂ t')).trans t₅).trans t₆
    have tf : TK s.heap s₆.heap := (t₁.trans (t₂.trans t₃)).trans tt
    cases mfl with
    | next => cases (fa : fl = _); obtain ⟨σc, lc, hc⟩ := h₆; exact ⟨xs.length + 1 - (i + 1), by omega, i + 1, σc, rfl, hlt, hc, r₇.le lc, st₆, tt⟩
    | cont => cases (fa : fl = _); obtain ⟨σc, lc, hc⟩ := h₆; exact ⟨xs.length + 1 - (i + 1), by omega, i + 1, σc, rfl, hlt, hc, r₇.le lc, st₆, tt⟩
    | brk => cases (fa : fl = _); exact q _ .next _ _ rfl h₆ r₇ tf
    | ret v => obtain ⟨v', rfl, va'⟩ := fa; exact q _ (.ret v) _ _ ⟨_, rfl, va'⟩ h₆ r₇ tf
  · have hin : i = xs.length := by omega
    subst hin
    refine W.done s' _ _ st' fun h₂ tk₂ k₂ => ?_
    have r₂' := r'.tMoved nT fz0 (tk := tk₂) i1 (kwr k₂)
    exact wpAny_execs_nil (q _ .next _ _ rfl (done σ' j) r₂' ((t₁.trans (t₂.trans t₃)).trans (tkw k₂ t')))
end
end Mine
end PartB13

section PartB14
open PySem PySem.Calls PySem.W PyProof.Rows PySem.Spec
set_option maxRecDepth 100000
set_option linter.unusedVariables false
namespace Mine

section
variable {prog : Program} {w : World} {A : Around} {R : Result → Shared → Prop} {s : Shared} {elt t1 i1 t2 i2 : Expr} {scope : Scope} {pos : Pos} {it acc : Value} {env : Env}

/-- the inner loop of a comprehension of two -/
theorem comp2_inner (I : Nat → Shared → Prop)
    (turn : ∀ n s E, I n s → wpAny (model prog w) A (pyNext it) (fun r s₁ => match r with
      | none => R (.ok .next) s₁
      | some v => wpAny (model prog w) A (letOwnedTupleGo t2 it v) (fun _ s₁' => wpAny (model prog w) A (assign t2 env v) (fun _ s₂ =>
          wpAny (model prog w) A (eval elt env) (fun x s₄ =>
              wpAny (model prog w) A (call (.builtin "list.append") [acc, x]) (fun _ s₅ => ∃ m, m < n ∧ I m s₅) E s₄) E s₂) E s₁') E s₁) E s)
    (n : Nat) (h : I n s) : codeAny (model prog w) A (.compLoop (.ListComp elt [⟨t1, i1, [], 0⟩, ⟨t2, i2, [], 0⟩] scope pos) 1 it acc env) R s := by
  refine codeAny_loop rfl I (fun n s hI => ?_) n h
  show wpAny _ A ((compTurn (.ListComp elt [⟨t1, i1, [], 0⟩, ⟨t2, i2, [], 0⟩] scope pos) 1 it acc env).onRaise (fun x => do noteFrame x env; theTreesLotGoes x)) _ _ s
  refine wpAny_noted ?_
  have e : compTurn (.ListComp elt [⟨t1, i1, [], 0⟩, ⟨t2, i2, [], 0⟩] scope pos) 1 it acc env = (standAt i2.pos >>= fun _ => pyNext it >>= fun r => match r with
      | none => pure (.done .next)
      | some v => letOwnedTupleGo t2 it v >>= fun _ => assign t2 env v >>= fun _ =>
        (eval elt env >>= fun x => call (.builtin "list.append") [acc, x] >>= fun _ => pure ()) >>= fun _ =>
          again (.compLoop (.ListComp elt [⟨t1, i1, [], 0⟩, ⟨t2, i2, [], 0⟩] scope pos) 1 it acc env)) := by rfl
  rw [e]
  refine wpAny_bind (wpAny_standAt (wpAny_bind (wpAny_mono (turn n s _ hI) (fun r s₁ h₁ => ?_) fun _ _ h' => h')))
  cases r with
  | none => exact wpAny_pure h₁
  | some v =>
    refine wpAny_bind (wpAny_mono h₁ (fun _ s₁' h₁' => ?_) fun _ _ h' => h')
    refine wpAny_bind (wpAny_mono h₁' (fun _ s₂ h₂ => ?_) fun _ _ h' => h')
    exact wpAny_bind (wpAny_bind (wpAny_mono h₂ (fun x s₄ h₄ => wpAny_bind (wpAny_mono h₄ (fun _ s₅ h₅ => wpAny_pure (wpAny_pure ⟨rfl, h₅⟩)) fun _ _ h' => h')) fun _ _ h' => h'))

theorem comp2_start
    (h0 : codeAny (model prog w) A (.compLoop (.ListComp elt [⟨t1, i1, [], 0⟩, ⟨t2, i2, [], 0⟩] scope pos) 1 it acc env) R s)
    (h : wpAny (model prog w) A (pyIter it) (fun it' s' => codeAny (model prog w) A (.compLoop (.ListComp elt [⟨t1, i1, [], 0⟩, ⟨t2, i2, [], 0⟩] scope pos) 1 it' acc env) R s') (notedBy (model prog w) A env fun x s' => R (.error x) s') s) :
    codeAny (model prog w) A (.compStart (.ListComp elt [⟨t1, i1, [], 0⟩, ⟨t2, i2, [], 0⟩] scope pos) 1 it acc env) R s := by
  refine codeAny_of_tree ?_
  show wpAny _ _ ((compStart (.ListComp elt [⟨t1, i1, [], 0⟩, ⟨t2, i2, [], 0⟩] scope pos) 1 it acc env).onRaise (fun x => do noteFrame x env; standAt theWindowsPlace)) _ _ s
  refine wpAny_notedAt ?_
  unfold compStart
  show wpAny _ _ (ask >>= _) _ _ s
  refine wpAny_bind (wpAny_askSetting (wpAny_ite ?_))
  split
  · first
      | exact wpAny_bind (wpAny_pure (wpAny_pure (And.intro rfl h0)))
      | exact wpAny_pure (And.intro rfl h0)
  · refine wpAny_bind (wpAny_rule ?_)
    show wpAny _ _ (standAt i2.pos >>= _) _ _ s
    exact wpAny_bind (wpAny_standAt (wpAny_bind (wpAny_mono h (fun it' s' h' => wpAny_pure (And.intro rfl h')) fun _ _ x => x)))

/-- the outer loop -/
theorem comp2_outer (hf : ∀ x, foldedSetIterable i2 env x = pure x) (I : Nat → Shared → Prop)
    (turn : ∀ n s E, I n s → wpAny (model prog w) A (pyNext it) (fun r s₁ => match r with
      | none => R (.ok .next) s₁
      | some v => wpAny (model prog w) A (letOwnedTupleGo t1 it v) (fun _ s₁' => wpAny (model prog w) A (assign t1 env v) (fun _ s₂ =>
          wpAny (model prog w) A (eval i2 env) (fun x s₃ => wpAny (model prog w) A (pyIter x) (fun it' s₄ =>
            wpAny (model prog w) A (runOwn (.compStart (.ListComp elt [⟨t1, i1, [], 0⟩, ⟨t2, i2, [], 0⟩] scope pos) 1 it' acc env) env) (fun _ s₅ => ∃ m, m < n ∧ I m s₅) E s₄) E s₃) E s₂) E s₁') E s₁) E s)
    (n : Nat) (h : I n s) : codeAny (model prog w) A (.compLoop (.ListComp elt [⟨t1, i1, [], 0⟩, ⟨t2, i2, [], 0⟩] scope pos) 0 it acc env) R s := by
  refine codeAny_loop rfl I (fun n s hI => ?_) n h
  show wpAny _ A ((compTurn (.ListComp elt [⟨t1, i1, [], 0⟩, ⟨t2, i2, [], 0⟩] scope pos) 0 it acc env).onRaise (fun x => do noteFrame x env; theTreesLotGoes x)) _ _ s
  refine wpAny_noted ?_
  have e : compTurn (.ListComp elt [⟨t1, i1, [], 0⟩, ⟨t2, i2, [], 0⟩] scope pos) 0 it acc env = (standAt i1.pos >>= fun _ => pyNext it >>= fun r => match r with
      | none => pure (.done .next)
      | some v => letOwnedTupleGo t1 it v >>= fun _ => assign t1 env v >>= fun _ =>
        eval i2 env >>= fun x => standAt i2.pos >>= fun _ => foldedSetIterable i2 env x >>= fun x => holding [x] (pyIter x) >>= fun it' =>
          runOwn (.compStart (.ListComp elt [⟨t1, i1, [], 0⟩, ⟨t2, i2, [], 0⟩] scope pos) 1 it' acc env) env >>= fun _ =>
          again (.compLoop (.ListComp elt [⟨t1, i1, [], 0⟩, ⟨t2, i2, [], 0⟩] scope pos) 0 it acc env)) := by rfl
  rw [e]
  refine wpAny_bind (wpAny_standAt (wpAny_bind (wpAny_mono (turn n s _ hI) (fun r s₁ h₁ => ?_) fun _ _ h' => h')))
  cases r with
  | none => exact wpAny_pure h₁
  | some v =>
    refine wpAny_bind (wpAny_mono h₁ (fun _ s₁' h₁' => ?_) fun _ _ h' => h')
    refine wpAny_bind (wpAny_mono h₁' (fun _ s₂ h₂ => ?_) fun _ _ h' => h')
    refine wpAny_bind (wpAny_mono h₂ (fun x s₃ h₃ => wpAny_bind (wpAny_standAt ?_)) fun _ _ h' => h')
    rw [hf x]
    refine wpAny_bind (wpAny_pure (wpAny_bind (wpAny_holding (wpAny_mono h₃ (fun it' s₄ h₄ => ?_) fun _ _ h' => h'))))
    exact wpAny_bind (wpAny_mono h₄ (fun _ s₅ h₅ => wpAny_pure ⟨rfl, h₅⟩) fun _ _ h' => h')
end
end Mine
end PartB14

section PartB15
open PySem PySem.Calls PySem.W PyProof.Rows PySem.Spec
set_option maxRecDepth 100000
set_option linter.unusedVariables false
namespace Mine

def F2 : MV → List MV
  | .str w => List.replicate w.cps.size (.str w)
  | _ => []

section
variable {G : Gl} {env : Env} {A : Around} {σ σ' : St}

/-- in the block, with the list that it fills -/
theorem Rel.inCompD {h₁ : Heap} {fz : Fz} {z s : Shared} {scope : Scope} {cl : List (Str × Addr)} {C D : Addr} {ys : List MV} {m : Str → Option Value} (r : Rel h₁ env fz z σ s) (hC : fz C = none) (hD : fz D = none) (hDC : D ≠ C)
    (hCe : ∀ e ∈ σ.hp, e.a ≠ C) (hDe : ∀ e ∈ σ.hp, e.a ≠ D) (hn : s.heap.Ns C m) (o : OA s.heap D (.list ys)) : Rel h₁ (compEnvC scope cl C env) (fun b => if b = C ∨ b = D then none else s.heap.get? b) z ⟨[], ⟨D, true, .list ys⟩ :: frzAll σ.hp, false⟩ s := by
  refine ⟨fun b o e => ?_, fun b o e => ?_, ?_, ⟨m, hn, fun x v q q' => by simp at q⟩, fun x v q _ => by simp at q, fun q => (nomatch q), fun e he => ?_, ?_, r.rest⟩
  · have e1 := r.base b o e
    show (if b = C ∨ b = D then none else s.heap.get? b) = _
    rw [if_neg (by rintro (rfl | rfl); · rw [hC] at e1; cases e1
                   · rw [hD] at e1; cases e1)]
    exact r.keep b o e1
  · split at e
    · cases e
    · exact e
  · show (if (C = C ∨ C = D) then none else _) = none
    rw [if_pos (.inl rfl)]
  · rcases List.mem_cons.mp he with rfl | he
    · exact ⟨o, fun _ => ⟨if_pos (.inr rfl), hDC⟩, fun q => (nomatch q)⟩
    obtain ⟨e', he', rfl⟩ := List.mem_map.mp he
    obtain ⟨a, _⟩ := r.hp e' he'
    refine ⟨a, fun q => (nomatch q), fun _ => ?_⟩
    obtain ⟨o, ho, _⟩ := a.get
    show (if e'.a = C ∨ e'.a = D then none else s.heap.get? e'.a).isSome = true
    rw [if_neg (by rintro (q | q); · exact hCe e' he' q
                   · exact hDe e' he' q), ho]; rfl
  · refine List.pairwise_cons.mpr ⟨fun e he => ?_, ?_⟩
    · obtain ⟨e', he', rfl⟩ := List.mem_map.mp he
      exact (hDe e' he').symm
    · show (frzAll σ.hp).Pairwise _
      unfold frzAll
      rw [List.pairwise_map]
      exact r.pw

/-- the inner loop fills the list -/
theorem comp2_fill (hh : A.handled = none) {scope : Scope} {cl : List (Str × Addr)} {C D : Addr} {i1 : Expr} {pos p1 p2 p3 p4 : Pos} {x y : Str} {w : Str} {ys : List MV} {hp : List Ent} {fz : Fz} {z s : Shared} {E : Value → Shared → Prop} {Q : Flow → Shared → Prop}
    (e : EnvOk (compEnvC scope cl C env)) (hx : (compEnvC scope cl C env).kindOf x = some .local) (hy : (compEnvC scope cl C env).kindOf y = some .local) (hxy : (x == y) = false)
    (hd : (x == ("__debug__" : Str)) = false) (hsz : ys.length + w.cps.size ≤ sizeLine)
    (r : Rel G.h₁ (compEnvC scope cl C env) fz z ⟨[(x, .str w)], ⟨D, true, .list ys⟩ :: hp, false⟩ s)
    (q : ∀ s', Rel G.h₁ (compEnvC scope cl C env) fz z ⟨[(x, .str w)], ⟨D, true, .list (ys ++ List.replicate w.cps.size (.str w))⟩ :: hp, false⟩ s' → TK s.heap s'.heap → Q .next s') :
    wpAny (model G.prog G.w) A (eval (.Name x p3) (compEnvC scope cl C env)) (fun v s₁ => wpAny (model G.prog G.w) A (pyIter v) (fun it' s₂ =>
      wpAny (model G.prog G.w) A (runOwn (.compStart (.ListComp (.Name x p4) [⟨.Name x p1, i1, [], 0⟩, ⟨.Name y p2, .Name x p3, [], 0⟩] scope pos) 1 it' (.ref D) (compEnvC scope cl C env)) (compEnvC scope cl C env)) Q E s₂) E s₁) E s := by
  have hev : ∀ (σ : Mine.St) p, σ.loc.lookup x = some (.str w) → XE G (compEnvC scope cl C env) A σ (.Name x p) fun m σ' => m = .str w ∧ σ' = σ := fun σ p h => XE_local e h ⟨rfl, rfl⟩ hx hd
  refine (hev _ p3 (by simp)).run fz z s _ _ r fun v m σ₁ s₁ va h₁ r₁ t₁ => ?_
  obtain ⟨rfl, rfl⟩ := h₁
  refine (XIter_str (G := G) (env := compEnvC scope cl C env) hh (x := w) (σ := ⟨[(x, .str w)], ⟨D, true, .list ys⟩ :: hp, false⟩)).run fz z s₁ _ _ v va r₁ fun I wr St h₂ tk₂ it st fr k => ?_
  have r₂ := r₁.keepAll' (tk := tk₂) k
  have t₂ : TK s₁.heap h₂ := TK.of_keep k
  have hf : ∀ b ∈ wr, fz b = none := fun b hb => (r₁.lt_of (fr b hb)).1
  have hlen : (chrs w).length = w.cps.size := by simp [chrs]
  refine wpAny_runOwn (h := none) ?_ (fun q => nomatch q)
  show codeAny _ A _ _ _
  have loop : ∀ s₃ : Shared, s₃ = { s₁ with heap := h₂, toks := tk₂ } → codeAny (model G.prog G.w) A (.compLoop (.ListComp (.Name x p4) [⟨.Name x p1, i1, [], 0⟩, ⟨.Name y p2, .Name x p3, [], 0⟩] scope pos) 1 (.ref I) (.ref D) (compEnvC scope cl C env))
      (fun r s' => match r with | .ok f => Q f s' | .error e => cameBackBy (model G.prog G.w) A (compEnvC scope cl C env) E e s') s₃ := by
    rintro s₃ rfl
    refine comp2_inner (fun k s' => ∃ j, k = w.cps.size + 1 - j ∧ j ≤ w.cps.size ∧ St j s'.heap ∧ TK h₂ s'.heap ∧ Rel G.h₁ (compEnvC scope cl C env) fz z ⟨[(x, .str w)], ⟨D, true, .list (ys ++ List.replicate j (.str w))⟩ :: hp, false⟩ s')
      ?_ (w.cps.size + 1) ⟨0, rfl, Nat.zero_le _, st, TK.refl _, by simpa using r₂⟩
    rintro n s' E' ⟨j, rfl, hj, st', t', r'⟩
    have f' : Flds wr s'.heap := fun b hb => it.fld j _ b st' hb
    by_cases hlt : j < w.cps.size
    · obtain ⟨c, hc⟩ : ∃ c, (chrs w)[j]? = some c := ⟨_, List.getElem?_eq_getElem (hlen.symm ▸ hlt)⟩
      refine it.item j c s' _ _ hc st' ⟨trivial, t'⟩ fun v h₃ tk₃ va go f₃ k₃ => ?_
      obtain ⟨rr₃, t₃⟩ := r'.moved hf (tk := tk₃) f' k₃
      refine go _ { s' with heap := h₃, toks := tk₃ } _ _ (fun _ _ _ e => e) fun h₄ st₄ k₄ => ?_
      obtain ⟨rr₄, t₄⟩ := rr₃.moved (h' := h₄) (tk := tk₃) hf f₃ k₄
      have f₄ : Flds wr h₄ := fun b hb => it.fld (j + 1) _ b st₄ hb
      have r₅ := rr₄.fzIn (wr := wr) f₄ hf
      refine (XAss_Name (p := p2) (XU_store_local (G := G) (A := A) (Φ := fun _ σ' => σ' = _) (v := c) rfl hy e)).run _ z _ _ _ v (va.mono t₄) r₅ fun _ _ σ₆ s₆ _ h₆ r₆ t₆ => ?_
      subst h₆
      refine (hev _ p4 (by unfold Mine.St.put; simp [List.lookup_cons, hxy])).run _ z s₆ _ _ r₆ fun u m σ₇ s₇ vu h₇ r₇ t₇ => ?_
      obtain ⟨rfl, rfl⟩ := h₇
      refine (XC_append (G := G) (env := compEnvC scope cl C env) (A := A) (Φ := fun _ σ' => σ' = _) (i := 0) (m := .str w) rfl (by rw [List.length_append, List.length_replicate]; omega) rfl).run _ z s₇ _ _ [.ref D, u] (VAs.cons rfl (VAs.cons vu VAs.nil)) r₇ fun _ _ σ₈ s₈ _ h₈ r₈ t₈ => ?_
      subst h₈
      obtain ⟨f₈, k₈⟩ := fzw_flds r₈ f₄
      have r₉ := r₈.fzOut r'.base hf f₈ f₄
      refine ⟨w.cps.size + 1 - (j + 1), by omega, j + 1, rfl, hlt, it.frame _ _ _ st₄ k₈, t'.trans (t₃.trans (t₄.trans (t₆.trans (t₇.trans t₈)))), r₉.le ⟨fun a b q => ?_, ?_, id⟩⟩
      · unfold Mine.St.put
        rw [List.lookup_cons] at q
        split at q
        · rename_i hax; cases q; rw [eq_of_beq hax]; simp [List.lookup_cons, hxy]
        · simp at q
      · show List.Sublist (⟨D, true, .list (ys ++ List.replicate (j + 1) (.str w))⟩ :: hp) ((⟨D, true, .list (ys ++ List.replicate j (.str w) ++ [.str w])⟩ : Ent) :: hp)
        rw [List.replicate_succ', ← List.append_assoc]
        exact List.Sublist.refl _
    · have hin : j = w.cps.size := by omega
      subst hin
      refine it.done s' _ _ (hlen.symm ▸ st') ⟨trivial, t'⟩ fun h₃ tk₃ k₃ => ?_
      obtain ⟨rr₃, t₃⟩ := r'.moved hf (tk := tk₃) f' k₃
      exact q _ rr₃ (t₁.trans (t₂.trans (t'.trans t₃)))
  exact comp2_start (loop _ rfl) (it.self 0 _ _ _ st (loop _ rfl))

theorem XE_Comp2 (hh : A.handled = none) {x y : Str} {i1 : Expr} {scope : Scope} {cl : List (Str × Addr)} {pos p1 p2 p3 p4 : Pos} {Φ : MV → St → Prop} (c : CompOk env scope i1 cl) (e : EnvOk env)
    (hx : (relabel scope env).names.lookup x = some .local) (hy : (relabel scope env).names.lookup y = some .local) (hxy : (x == y) = false) (hd : (x == ("__debug__" : Str)) = false)
    (hf2 : ∀ C u, foldedSetIterable (.Name x p3) (compEnvC scope cl C env) u = pure u)
    (h : XSrc G env A σ i1 fun ms Inv σ₁ => (∃ ws : List Str, ms = ws.map .str) ∧ (ms.flatMap F2).length ≤ sizeLine ∧ InvOf G env σ₁ Inv ∧ ∀ D, Φ (.ref D) { σ₁ with hp := ⟨D, true, .list (ms.flatMap F2)⟩ :: σ₁.hp }) :
    XE G env A σ (.ListComp (.Name x p4) [⟨.Name x p1, i1, [], 0⟩, ⟨.Name y p2, .Name x p3, [], 0⟩] scope pos) Φ := .mk fun fz z s Q E r q => by
  show wpAny _ _ (eval _ _) _ _ _
  rw [eval_ListComp]
  refine wpAny_comprehension_free (use := none) rfl c.fold c.clos c.kind c.names ?_
  refine wpAny_mono (h.run fz z s (fun it s₂ => _) E r fun ms Inv I wr St σ₁ s₂ h₁ it st r₂ hf t₂ => ?_) (fun _ _ x => x) fun _ _ x => x
  obtain ⟨⟨ws, hws⟩, hsz, iv, fin⟩ := h₁
  refine wpAny_newObj_type (wpAny_newFunctionEnv c.cell (by intro y hy; simp at hy) (fun hh₁ hns₁ hsb₁ => ?_) c.kind)
  dsimp only at hns₁ hsb₁ ⊢
  generalize hH2 : s₂.heap.push { cls := .type "list", dict := none, data := .seq ([] : List Value).toArray } = H2 at hns₁ hsb₁ ⊢
  have hC : H2.objs.size = s₂.heap.objs.size + 1 := by rw [← hH2, Heap.size_push]
  generalize hD : s₂.heap.objs.size = D at hC hns₁ hsb₁ ⊢
  generalize hCC : H2.objs.size = C at hC hns₁ hsb₁ ⊢
  have fD : s₂.heap.get? D = none := hD ▸ fresh_size _
  have fC : s₂.heap.get? C = none := Heap.get?_none_of_le (by rw [hD, hC]; exact Nat.le_succ _)
  have hDC : D ≠ C := by rw [hC]; exact Nat.ne_of_lt (Nat.lt_succ_self _)
  obtain ⟨zD, lD, eD⟩ := r₂.lt_of fD
  obtain ⟨zC, lC, eC⟩ := r₂.lt_of fC
  have old : ∀ b o, s₂.heap.get? b = some o → hh₁.get? b = some o := fun b o e => hsb₁.extBut b o (by rintro rfl; rw [fC] at e; cases e) (Heap.get?_push_of_some _ (hH2 ▸ Heap.get?_push_of_some _ e))
  have hacc : OA hh₁ D (.list []) := ⟨#[], ⟨0, hsb₁.extBut _ _ hDC (Heap.get?_push_of_some _ (by rw [← hH2, ← hD]; exact Heap.get?_push_size _ rfl))⟩, VAs.nil⟩
  have st₁ : St 0 hh₁ := it.frame _ _ _ st fun b hb o e => old b o e
  have ce : EnvOk (compEnvC scope cl C env) := compEnvOk e c.kind
  have loop : ∀ s₃ : Shared, s₃ = { s₂ with heap := hh₁, toks := s₂.toks + ([] : List (Str × Value)).length } →
      codeAny (model G.prog G.w) A (.compLoop (.ListComp (.Name x p4) [⟨.Name x p1, i1, [], 0⟩, ⟨.Name y p2, .Name x p3, [], 0⟩] scope pos) 0 (.ref I) (.ref D) (compEnvC scope cl C env)) (compPost (model G.prog G.w) A E none Q (.ref D) C) s₃ := by
    rintro s₃ rfl
    refine comp2_outer (hf2 C) (fun k s' => ∃ h' tk i ys m', s' = { s₂ with heap := h', toks := tk } ∧ i ≤ ms.length ∧ k = ms.length + 1 - i ∧ ys = (ms.take i).flatMap F2 ∧ St i h' ∧ Rel G.h₁ env fz z σ₁ s' ∧ h'.Ns C m' ∧ OA h' D (.list ys) ∧ TK s₂.heap h')
      ?_ (ms.length + 1) ⟨hh₁, _, 0, [], _, rfl, Nat.zero_le _, rfl, by simp, st₁, r₂.keepAll' old, hns₁, hacc, TK.of_keep old⟩
    rintro k s' E' ⟨h', tk, i, ys, m', rfl, hi, rfl, hys, st', r', hn', hd', t'⟩
    have fl' : Flds wr h' := fun b hb => it.fld i _ b st' hb
    obtain ⟨oD, hdg, tD, _, nD⟩ := hd'.get
    have hDw : D ∉ wr := fun hm => by obtain ⟨o, vs, e, d⟩ := fl' _ hm; rw [hdg] at e; cases e; exact nD _ d
    have hCw : C ∉ wr := fun hm => by obtain ⟨o, vs, e, d⟩ := fl' _ hm; obtain ⟨o', es, ep, e', d', _⟩ := hn'; rw [e] at e'; cases e'; rw [d] at d'; cases d'
    by_cases hlt : i < ms.length
    · have hmi : ms[i]? = some ms[i] := List.getElem?_eq_getElem hlt
      obtain ⟨w, hw⟩ : ∃ w, ms[i] = .str w := by subst hws; exact ⟨_, List.getElem_map ..⟩
      refine it.item i ms[i] { s₂ with heap := h', toks := tk } _ _ hmi st' ⟨iv fz z _ r', t'⟩ fun v h₂ tk₂ va go f₂ k₂ => ?_
      obtain ⟨rr₂, t₂'⟩ := r'.moved hf (tk := tk₂) fl' k₂
      refine go _ { s₂ with heap := h₂, toks := tk₂ } _ _ (fun _ _ _ e => e) fun h₃ st₃ k₃ => ?_
      obtain ⟨r₃, t₃⟩ := rr₂.moved (h' := h₃) (tk := tk₂) hf f₂ k₃
      have kp₃ : ∀ b o, b ∉ wr → h'.get? b = some o → h₃.get? b = some o := fun b o hb e => k₃ b o hb (k₂ b o hb e)
      have hn₃ : h₃.Ns C m' := hn'.at' fun o => kp₃ C o hCw
      have hd₃ : OA h₃ D (.list ys) := hd'.mono (t₂'.trans t₃) fun o => kp₃ D o hDw
      have rc := Rel.inCompD (scope := scope) (cl := cl) r₃ zC zD hDC eC eD hn₃ hd₃
      have va' : VA h₃ (.str w) v := hw ▸ va.mono t₃
      refine (XAss_Name (p := p1) (XU_store_local (G := G) (env := compEnvC scope cl C env) (A := A) (Φ := fun _ σ' => σ' = _) (v := .str w) rfl hx ce)).run _ z _ _ _ v va' rc fun _ _ σ₄ s₄ _ h₄ r₄ t₄ => ?_
      subst h₄
      have htake : (ms.take (i + 1)).flatMap F2 = ys ++ F2 ms[i] := by
        rw [List.take_add_one, hmi, List.flatMap_append, hys]; simp
      have hall : (ms.flatMap F2).length = ((ms.take (i + 1)).flatMap F2).length + ((ms.drop (i + 1)).flatMap F2).length := by
        rw [← List.length_append, ← List.flatMap_append, List.take_append_drop]
      have hlen : ys.length + w.cps.size ≤ sizeLine := by
        rw [htake, hw, List.length_append] at hall
        have : (F2 (.str w)).length = w.cps.size := by simp [F2]
        omega
      refine comp2_fill hh ce hx hy hxy hd hlen r₄ fun s₆ r₆ t₆ => ?_
      have hk : ∀ b o, ¬ (b = C ∨ b = D) → h₃.get? b = some o → s₆.heap.get? b = some o := fun b o hb e => r₆.keep b o (by show (if b = C ∨ b = D then none else h₃.get? b) = _; rw [if_neg hb]; exact e)
      obtain ⟨m₆, hn₆, _⟩ := r₆.ns
      have heq : s₆ = { s₂ with heap := s₆.heap, toks := s₆.toks } := by
        have h1 := r₆.rest; have h2 := r₂.rest
        rw [h1, h2]
      obtain ⟨oD₃, hdg₃, tD₃, cD₃, _⟩ := hd₃.get
      obtain ⟨rb, tb⟩ := r₃.but (fun b => b = C ∨ b = D) (h' := s₆.heap) (tk := s₆.toks) (fun b hb => Or.elim hb (fun q => q ▸ ⟨zC, lC, eC⟩) fun q => q ▸ ⟨zD, lD, eD⟩) (fun b o hb e => by
        rcases hb with rfl | rfl
        · obtain ⟨o', es, ep, e', d', _⟩ := hn₃
          have e1 : h₃.get? b = some o := e
          rw [e'] at e1; cases e1
          exact ⟨fun v d => (by rw [d'] at d; cases d), fun arr n _ d => (by rw [d'] at d; cases d)⟩
        · have e1 : h₃.get? b = some o := e
          rw [hdg₃] at e1; cases e1
          exact ⟨cD₃, fun arr n c d => tD₃ arr n c d⟩) hk
      refine ⟨ms.length + 1 - (i + 1), by omega, s₆.heap, s₆.toks, i + 1, _, m₆, heq, hlt, rfl, rfl, it.frame _ _ _ st₃ fun b hb o e => hk b o (fun q => Or.elim q (fun q => hCw (q ▸ hb)) fun q => hDw (q ▸ hb)) e, by rw [heq]; exact rb, hn₆, ?_, t'.trans (t₂'.trans (t₃.trans (t₄.trans t₆)))⟩
      rw [htake, hw]
      exact (r₆.hp _ (.head _)).1
    · have hin : i = ms.length := by omega
      subst hin
      refine it.done { s₂ with heap := h', toks := tk } _ _ st' ⟨iv fz z _ r', t'⟩ fun h₂ tk₂ k₂ => ?_
      obtain ⟨rr₂, t₂'⟩ := r'.moved (tk := tk₂) hf fl' k₂
      rw [List.take_length] at hys
      refine ⟨m', hn'.at' fun o => k₂ C o hCw, fun h'' sb => ?_⟩
      have hd₂ : OA h₂ D (.list ys) := hd'.mono t₂' fun o => k₂ D o hDw
      have rD : Rel G.h₁ env fz z { σ₁ with hp := ⟨D, true, .list ys⟩ :: σ₁.hp } { s₂ with heap := h₂, toks := tk₂ } := ⟨rr₂.base, rr₂.keep, rr₂.fzL, rr₂.ns, rr₂.cells, rr₂.cown, fun e he => by
        rcases List.mem_cons.mp he with rfl | he
        · exact ⟨hd₂, fun _ => ⟨zD, lD⟩, fun q => (nomatch q)⟩
        · exact rr₂.hp e he, List.pairwise_cons.mpr ⟨fun e he => (eD e he).symm, rr₂.pw⟩, rr₂.rest⟩
      obtain ⟨r₃, t₃⟩ := rD.but (fun b => b = C) (h' := h'') (tk := tk₂) (fun b hb => by
        subst hb
        refine ⟨zC, lC, fun e he => ?_⟩
        rcases List.mem_cons.mp he with rfl | he
        · exact hDC
        · exact eC e he) (fun b o hb e => by
          subst hb
          obtain ⟨o', es, ep, e', d', _⟩ := hn'.at' (h' := h₂) fun o => k₂ b o hCw
          have e1 : h₂.get? b = some o := e
          rw [e'] at e1; cases e1
          exact ⟨fun v d => (by rw [d'] at d; cases d), fun arr n _ d => (by rw [d'] at d; cases d)⟩) (fun b o hb e => sb.extBut _ _ hb e)
      rw [← hys] at fin
      exact q _ (.ref D) _ _ rfl (fin D) r₃ (t₂.trans (t'.trans (t₂'.trans t₃)))
  exact codeAny_compStart_list (loop _ rfl) (it.self 0 _ _ _ st₁ (loop _ rfl))
end
end Mine
end PartB15

section PartB16
open PySem PySem.Calls PySem.W PyProof.Rows PySem.Spec
set_option maxRecDepth 100000
set_option linter.unusedVariables false
namespace Mine

theorem pattern_plain : PlainAttrs "re.Pattern" :=
  ⟨⟨"object.__getattribute__", by rw [typeLookup_type, builtinLookup_eq_fast]; kernel_rfl, by decide +kernel⟩, by rw [typeLookup_type, builtinLookup_eq_fast]; kernel_rfl⟩
theorem slot_search : PySem.Slot "re.Pattern" "search" "re.Pattern.search" :=
  .of (owner := "re.Pattern") (n := "search") (by rw [typeLookup_type, builtinLookup_eq_fast]; kernel_rfl) (by decide +kernel) (by decide +kernel) (by decide +kernel)
    (by first | exact .inl (by decide +kernel) | exact .inr (by decide +kernel)) (by rw [isSubtype_type]; kernel_rfl)
theorem slot_sub : PySem.Slot "re.Pattern" "sub" "re.Pattern.sub" :=
  .of (owner := "re.Pattern") (n := "sub") (by rw [typeLookup_type, builtinLookup_eq_fast]; kernel_rfl) (by decide +kernel) (by decide +kernel) (by decide +kernel)
    (by first | exact .inl (by decide +kernel) | exact .inr (by decide +kernel)) (by rw [isSubtype_type]; kernel_rfl)
theorem type_search : typeOf (.builtin "re.Pattern.search") = pure (.type "method_descriptor") := by show builtinType _ = _; rw [builtinType_eq_fast]; kernel_rfl
theorem type_sub : typeOf (.builtin "re.Pattern.sub") = pure (.type "method_descriptor") := by show builtinType _ = _; rw [builtinType_eq_fast]; kernel_rfl
theorem entry_search : entryFor table "re.Pattern.search" = some Builtin.«re.Pattern.search» := entryFor_of_tree (by kernel_rfl)
theorem entry_sub : entryFor table "re.Pattern.sub" = some Builtin.«re.Pattern.sub» := entryFor_of_tree (by kernel_rfl)
theorem entry_loop : entryFor table "re.Pattern.sub.loop" = some Builtin.«re.Pattern.sub.loop» := entryFor_of_tree (by kernel_rfl)
theorem owner_pattern : Manifest.owners.lookup (String.ofList ['n', 'r', 'e', 't', 't', 'a', 'P', '.', 'e', 'r'].reverse) = some Manifest.sig_re_Pattern := by kernel_rfl
theorem args_search (a b : Value) : argsOk "re.Pattern.search" ⟨[a, b], []⟩ := by
  unfold argsOk; rw [signature?_of (id := "re.Pattern.search") (n := ['h', 'c', 'r', 'a', 'e', 's']) (o := ['n', 'r', 'e', 't', 't', 'a', 'P', '.', 'e', 'r']) (by kernel_rfl) owner_pattern]; kernel_rfl
theorem args_sub (a b c : Value) : argsOk "re.Pattern.sub" ⟨[a, b, c], []⟩ := by
  unfold argsOk; rw [signature?_of (id := "re.Pattern.sub") (n := ['b', 'u', 's']) (o := ['n', 'r', 'e', 't', 't', 'a', 'P', '.', 'e', 'r']) (by kernel_rfl) owner_pattern]; kernel_rfl
end Mine
end PartB16

section PartB17
open PySem PySem.Calls PySem.W PyProof.Rows PySem.Spec
set_option maxRecDepth 100000
set_option linter.unusedVariables false
namespace Mine
open PySem.Sre (M Outcome Seen Op ops Wait)

theorem runFor_done {m : M} (h : m.outcome.isSome = true) : ∀ n, M.runFor n m = m
  | 0 => rfl
  | n + 1 => by unfold M.runFor; rw [if_pos h]
theorem runFor_succ {m : M} (h : m.outcome = none) (n : Nat) : M.runFor (n + 1) m = M.runFor n m.step := by
  show (if m.outcome.isSome then m else M.runFor n m.step) = _
  rw [if_neg (by rw [h]; simp)]
theorem runFor_add : ∀ (a b : Nat) (m : M), M.runFor (a + b) m = M.runFor b (M.runFor a m)
  | 0, b, m => by rw [Nat.zero_add]; rfl
  | a + 1, b, m => by
    cases ho : m.outcome with
    | some o =>
      have hs : m.outcome.isSome = true := by rw [ho]; rfl
      rw [runFor_done hs, runFor_done hs, runFor_done hs]
    | none =>
      rw [show a + 1 + b = a + b + 1 by omega, runFor_succ ho, runFor_succ ho]
      exact runFor_add a b m.step

/-- the machine comes within a bound to what P tells -/
def Ends (n : Nat) (m : M) (P : M → Prop) : Prop := ∃ k, k ≤ n ∧ P (M.runFor k m)
theorem Ends.here {m : M} {P : M → Prop} (h : P m) : Ends 0 m P := ⟨0, Nat.le_refl _, h⟩
theorem Ends.step {n : Nat} {m : M} {P : M → Prop} (h : m.outcome = none) (e : Ends n m.step P) : Ends (n + 1) m P := by
  obtain ⟨k, hk, e⟩ := e
  exact ⟨k + 1, Nat.succ_le_succ hk, by rw [runFor_succ h]; exact e⟩
theorem Ends.mono {a b : Nat} {m : M} {P : M → Prop} (x : Ends a m P) (h : a ≤ b) : Ends b m P := let ⟨k, hk, e⟩ := x; ⟨k, Nat.le_trans hk h, e⟩

section
variable {prog : Program} {w : World} {A : Around} {E : Value → Shared → Prop} {s : Shared}
theorem wp_rules {Q : PUnit → Shared → Prop} {f : Nat → Bool} {g : Nat → String} : ∀ (l : List Nat), Q PUnit.unit s →
    wpAny (model prog w) A (forIn l PUnit.unit fun i _ => do if f i = true then do rule (g i); pure (ForInStep.yield PUnit.unit) else pure (ForInStep.yield PUnit.unit)) Q E s
  | [], h => wpAny_pure h
  | i :: l, h => by
    rw [List.forIn_cons]
    refine wpAny_bind ?_
    cases hf : f i with
    | false => simp only [Bool.false_eq_true, if_false]; exact wpAny_pure (wp_rules l h)
    | true => simp only [if_true]; exact wpAny_bind (wpAny_rule (wpAny_pure (wp_rules l h)))
theorem wp_drive {Q : M → Shared → Prop} {m' : M} (ho : m'.outcome.isSome = true) (h : Q m' s) : ∀ (k t : Nat) (m : M), k + 1 ≤ t → M.runFor (4 * (k + 1)) m = m' → wpAny (model prog w) A (Builtin.Re.reDrive t m) Q E s
  | k, 0, _, hk, _ => by omega
  | 0, t + 1, m, _, e => by
    show wpAny _ A (if (M.runFor 4 m).outcome.isSome then pure (M.runFor 4 m) else do rule "sre.turn"; Builtin.Re.reDrive t (M.runFor 4 m)) Q E s
    rw [show M.runFor 4 m = m' from e, if_pos ho]
    exact wpAny_pure h
  | k + 1, t + 1, m, hk, e => by
    show wpAny _ A (if (M.runFor 4 m).outcome.isSome then pure (M.runFor 4 m) else do rule "sre.turn"; Builtin.Re.reDrive t (M.runFor 4 m)) Q E s
    have e' : M.runFor (4 * (k + 1)) (M.runFor 4 m) = m' := by
      rw [← runFor_add]; rw [show 4 + 4 * (k + 1) = 4 * (k + 1 + 1) by omega]; exact e
    split
    · rename_i hs
      rw [runFor_done hs] at e'
      rw [e']; exact wpAny_pure h
    · exact wpAny_bind (wpAny_rule (wp_drive ho h k t _ (by omega) e'))
theorem wp_runToEnd {Q : Option M → Shared → Prop} {m : M} {n : Nat} {P : M → Prop} (e : Ends n m P) (hn : n ≤ 2 ^ 40) (h : ∀ m', P m' → (m'.outcome = some .matched ∧ Q (some m') s) ∨ (m'.outcome = some .failed ∧ Q none s)) : wpAny (model prog w) A (Builtin.Re.reRunToEnd m) Q E s := by
  obtain ⟨k, hk, e⟩ := e
  have h := h _ e
  generalize em : M.runFor k m = m' at h
  have e := em
  have ho : m'.outcome.isSome = true := by rcases h with ⟨h, _⟩ | ⟨h, _⟩ <;> rw [h] <;> rfl
  unfold Builtin.Re.reRunToEnd
  refine wpAny_bind (wp_drive ho ?_ k (2 ^ 64) m (by omega) ?_)
  · refine wpAny_bind (wp_rules _ ?_)
    rcases h with ⟨h, q⟩ | ⟨h, q⟩ <;> rw [h] <;> exact wpAny_pure q
  · rw [show 4 * (k + 1) = k + (3 * k + 4) by omega, runFor_add, e, runFor_done ho]
end

/-! single steps -/
theorem step_say {m : M} {b : Bool} (ho : m.outcome = none) (hf : m.frames = []) (ha : m.answer = some b) : m.step = { m with outcome := some (if b then .matched else .failed) } := by
  unfold M.step
  rw [if_neg (by rw [ho]; simp), ha, hf]
theorem step_pop {m : M} {b : Bool} {f : Sre.Frame} {r : List Sre.Frame} (ho : m.outcome = none) (hf : m.frames = f :: r) (ha : m.answer = some b) :
    m.step = M.resume { m with answer := none, frames := r, weight := m.weight - (1 + f.kept.marks.size), pc := f.pc, pos := f.pos, outermost := f.outermost } f b := by
  unfold M.step
  rw [if_neg (by rw [ho]; simp), ha, hf]
theorem step_exec {m : M} (ho : m.outcome = none) (ha : m.answer = none) (hp : m.pc < m.code.size) : m.step = m.exec := by
  unfold M.step
  rw [if_neg (by rw [ho]; simp), ha]
  cases m.frames <;> simp [hp]
theorem exec_lit {m : M} (ho : ops[m.word 0]? = some .LITERAL) : m.exec = (if m.pos ≥ m.lim then { m with seen := m.seen.add (m.word 0) }.say false else if m.text.getD m.pos 0 == m.code.getD (m.pc + 1) 0 then { m with seen := m.seen.add (m.word 0), pc := m.pc + 2, pos := m.pos + 1 } else { m with seen := m.seen.add (m.word 0) }.say false) := by
  unfold M.exec
  rw [ho]
  dsimp only
  have ho' : ops[m.code.getD m.pc 0]? = some .LITERAL := ho
  split
  · rfl
  · have e : PySem.Sre.accepts m.code m.pc (m.text.getD m.pos 0) (m.seen.add (m.word 0)) = .ok (m.text.getD m.pos 0 == m.code.getD (m.pc + 1) 0, m.seen.add (m.word 0)) := by
      unfold PySem.Sre.accepts; rw [ho']
    show (match PySem.Sre.accepts m.code m.pc (m.text.getD m.pos 0) (m.seen.add (m.word 0)) with | .error why => _ | .ok (false, seen) => _ | .ok (true, seen) => _) = _
    rw [e]
    have ew : PySem.Sre.itemWidth m.code m.pc = 2 := by unfold PySem.Sre.itemWidth; rw [ho']
    cases m.text.getD m.pos 0 == m.code.getD (m.pc + 1) 0
    · rfl
    · simp only [if_true, ew]
theorem exec_jump {m : M} (ho : ops[m.word 0]? = some .JUMP) : m.exec = { m with seen := m.seen.add (m.word 0), pc := m.pc + 1 + m.word 1 } := by
  unfold M.exec
  rw [ho]
  rfl
theorem exec_success {m : M} (ho : ops[m.word 0]? = some .SUCCESS) (h : ¬ (m.outermost && ((m.wholeText && m.pos != m.lim) || (m.mustAdvance && m.pos == m.start))) = true) : m.exec = { m with seen := m.seen.add (m.word 0), handed := m.pos }.say true := by
  unfold M.exec
  rw [ho]
  dsimp only
  rw [if_neg h]
theorem exec_branch {m : M} (ho : ops[m.word 0]? = some .BRANCH) : m.exec = { m with seen := m.seen.add (m.word 0) }.alternative (m.pc + 1) (M.keep { m with seen := m.seen.add (m.word 0) } m.inner.isSome) := by
  unfold M.exec
  rw [ho]
theorem exec_at {m : M} (ho : ops[m.word 0]? = some .AT) {b : Bool} (h : m.isAt (m.word 1) = .ok b) : m.exec = (if b then { m with seen := (m.seen.add (m.word 0)).add (43 + m.word 1), pc := m.pc + 2 } else { m with seen := (m.seen.add (m.word 0)).add (43 + m.word 1) }.say false) := by
  unfold M.exec
  rw [ho]
  dsimp only
  have h' : M.isAt { m with seen := m.seen.add (m.word 0) } (m.word 1) = .ok b := h
  show (match M.isAt { m with seen := m.seen.add (m.word 0) } (m.word 1) with | .error why => _ | .ok yes => _) = _
  rw [h']
  rfl
theorem exec_assertNot {m : M} (ho : ops[m.word 0]? = some .ASSERT_NOT) (h : ¬ m.pos < m.word 2) : m.exec = M.attempt { m with seen := m.seen.add (m.word 0) } { M.frame { m with seen := m.seen.add (m.word 0) } .lookNot with kept := M.keep { m with seen := m.seen.add (m.word 0) } (true && m.inner.isSome) } (m.pc + 3) (m.pos - m.word 2) false := by
  unfold M.exec
  rw [ho]
  dsimp only
  exact if_neg h
end Mine
end PartB17

section PartB18
open PySem PySem.Calls PySem.W PyProof.Rows PySem.Spec
set_option maxRecDepth 100000
set_option linter.unusedVariables false
namespace Mine
open PySem.Sre (M Outcome Op ops Wait inSet)

def InFirst (code : Array Nat) (c : Nat) (b : Bool) : Prop := ∀ seen, ∃ seen', inSet code c code.size 5 true seen = .ok (b, seen')
theorem admitted_none {m : M} : ∀ (fuel s : Nat) (seen : Sre.Seen), (∀ p, s ≤ p → p < m.lim → InFirst m.code (m.text.getD p 0) false) → ∃ seen', M.admitted m fuel s seen = .ok (none, seen')
  | 0, s, seen, _ => ⟨seen, rfl⟩
  | fuel + 1, s, seen, h => by
    show ∃ seen', (if s ≥ m.lim then _ else _) = _
    by_cases hs : s ≥ m.lim
    · exact ⟨seen, if_pos hs⟩
    · obtain ⟨seen₁, e⟩ := h s (Nat.le_refl _) (by omega) seen
      obtain ⟨seen₂, e₂⟩ := admitted_none fuel (s + 1) seen₁ fun p hp => h p (by omega)
      refine ⟨seen₂, ?_⟩
      rw [if_neg hs, e]
      exact e₂
theorem admitted_some {m : M} {p₀ : Nat} (hp : p₀ < m.lim) (h1 : InFirst m.code (m.text.getD p₀ 0) true) : ∀ (fuel s : Nat) (seen : Sre.Seen), s ≤ p₀ → p₀ - s < fuel → (∀ p, s ≤ p → p < p₀ → InFirst m.code (m.text.getD p 0) false) → ∃ seen', M.admitted m fuel s seen = .ok (some p₀, seen')
  | 0, s, seen, _, h, _ => by omega
  | fuel + 1, s, seen, hs, hf, h => by
    show ∃ seen', (if s ≥ m.lim then _ else _) = _
    rw [if_neg (by omega)]
    by_cases hsp : s = p₀
    · subst hsp
      obtain ⟨seen₁, e⟩ := h1 seen
      exact ⟨seen₁, by rw [e]⟩
    · obtain ⟨seen₁, e⟩ := h s (Nat.le_refl _) (by omega) seen
      obtain ⟨seen₂, e₂⟩ := admitted_some hp h1 fuel (s + 1) seen₁ (by omega) (by omega) fun p hp => h p (by omega)
      refine ⟨seen₂, ?_⟩
      rw [e]
      exact e₂

/-- a machine that begins -/
def M0 (code text : Array Nat) (pc pos lim : Nat) (seen : Sre.Seen) : M := { code, text, lim, start := pos, pc := pc, pos, handed := pos, marks := #[], mustAdvance := false, seen }

def FirstSet (code : Array Nat) (pc : Nat) : Prop := ∀ text pos lim, PySem.Sre.forSearch code text 0 pos lim false = (if pos > lim || lim - pos < 1 then (M0 code text pc pos lim (({} : Sre.Seen).add 14)).say false else
  (match M.admitted { M0 code text pc pos lim (({} : Sre.Seen).add 14) with lastStart := lim } (lim + 1 - pos) pos (({} : Sre.Seen).add 14) with
  | .ok (some s, seen) => M.attemptAt { M0 code text pc pos lim (({} : Sre.Seen).add 14) with lastStart := lim, mustAdvance := false, seen } s true
  | .ok (none, seen) => M.say { M0 code text pc pos lim (({} : Sre.Seen).add 14) with lastStart := lim, seen } false
  | .error why => M.stick { M0 code text pc pos lim (({} : Sre.Seen).add 14) with lastStart := lim } why))

theorem search_none {code text : Array Nat} {pc pos lim : Nat} (hc : FirstSet code pc) (h : ∀ p, pos ≤ p → p < lim → InFirst code (text.getD p 0) false) : Ends 1 (PySem.Sre.forSearch code text 0 pos lim false) fun m' => m'.outcome = some .failed := by
  rw [hc]
  split
  · exact .step rfl (by rw [step_say (b := false) rfl rfl rfl]; exact .here rfl)
  · obtain ⟨seen', e⟩ := admitted_none (m := { M0 code text pc pos lim (({} : Sre.Seen).add 14) with lastStart := lim }) (lim + 1 - pos) pos (({} : Sre.Seen).add 14) h
    rw [e]
    exact .step rfl (by rw [step_say (b := false) rfl rfl rfl]; exact .here rfl)

def cName : Array Nat := #[14, 10, 4, 1, 1, 22, 0, 31, 16, 127, 0, 13, 7, 22, 0, 31, 16, 127, 0, 1]
def cVal : Array Nat := #[14, 14, 4, 1, 1, 9, 4294966783, 0, 0, 2147483648, 0, 0, 0, 0, 0, 13, 11, 9, 4294966783, 0, 0, 2147483648, 0, 0, 0, 0, 0, 1]
def cDot : Array Nat := #[14, 4, 0, 1, 1, 6, 1, 16, 46, 1]
def cEol : Array Nat := #[14, 9, 4, 1, 2, 16, 10, 16, 13, 0, 7, 7, 16, 13, 16, 10, 15, 18, 5, 16, 10, 15, 13, 11, 16, 13, 5, 5, 0, 16, 10, 1, 15, 2, 0, 1]
theorem cName_first : FirstSet cName 11 := fun _ _ _ => rfl
theorem cVal_first : FirstSet cVal 15 := fun _ _ _ => rfl
theorem cEol_first : FirstSet cEol 10 := fun _ _ _ => rfl
theorem cEol_in {c : Nat} (h : c = 10 ∨ c = 13) : InFirst cEol c true := fun seen => by rcases h with rfl | rfl <;> exact ⟨_, rfl⟩
theorem cEol_out {c : Nat} (h1 : c ≠ 10) (h2 : c ≠ 13) : InFirst cEol c false := fun seen => by
  have e : inSet cEol c cEol.size 5 true seen = (if c == 10 then .ok (true, seen.add 16) else if c == 13 then .ok (true, (seen.add 16).add 16) else .ok (false, ((seen.add 16).add 16).add 0)) := rfl
  rw [e, if_neg (by simpa using h1), if_neg (by simpa using h2)]
  exact ⟨_, rfl⟩
def isLet (c : Nat) : Bool := (66 ≤ c && c ≤ 70) || (98 ≤ c && c ≤ 102)
theorem isLet_cases {c : Nat} (h : isLet c = true) : c = 66 ∨ c = 67 ∨ c = 68 ∨ c = 69 ∨ c = 70 ∨ c = 98 ∨ c = 99 ∨ c = 100 ∨ c = 101 ∨ c = 102 := by
  unfold isLet at h
  simp at h
  omega
theorem cName_out {c : Nat} (h : isLet c = true) : InFirst cName c false := fun seen => by
  rcases isLet_cases h with rfl | rfl | rfl | rfl | rfl | rfl | rfl | rfl | rfl | rfl <;> exact ⟨_, rfl⟩
theorem cVal_out {c : Nat} (h : isLet c = true) : InFirst cVal c false := fun seen => by
  rcases isLet_cases h with rfl | rfl | rfl | rfl | rfl | rfl | rfl | rfl | rfl | rfl <;> exact ⟨_, rfl⟩

/-! ends of lines -/
def fStart (pc p : Nat) (first : Bool) : Sre.Frame := { wait := .nextStart, pc := pc, pos := p, outermost := first }
def S2 (text : Array Nat) (lim p pc pos handed : Nat) (outer : Bool) (frames : List Sre.Frame) (weight : Nat) (answer : Option Bool) (seen : Sre.Seen) : M :=
  { code := cEol, text, lim, start := p, lastStart := lim, pc, pos, handed, outermost := outer, marks := #[], frames, weight, answer, seen }
def kNo : Sre.Kept := { lastmark := -1, lastindex := -1, whole := false, marks := #[] }
def fAlt (alt p : Nat) : Sre.Frame := { wait := .nextBranch, pc := alt, pos := p, outermost := true, kept := kNo }
def fNot (pc p : Nat) : Sre.Frame := { wait := .lookNot, pc := pc, pos := p, outermost := true, kept := kNo }
section
variable {text : Array Nat} {lim p pos handed : Nat} {frames : List Sre.Frame} {outer : Bool} {seen : Sre.Seen} {n : Nat} {m' : M → Prop}
theorem e_branch (h : ∀ seen, Ends n (S2 text lim p 12 p p true (fAlt 11 p :: frames) 2 none seen) m') : Ends (n + 1) (S2 text lim p 10 p handed true frames 1 none seen) m' :=
  .step rfl (by rw [step_exec rfl rfl (show 10 < cEol.size by decide), exec_branch rfl]; exact h _)
theorem e_lit {pc c weight : Nat} (hw : ops[cEol.getD pc 0]? = some .LITERAL) (hp : pc < cEol.size) (hc : cEol.getD (pc + 1) 0 = c) (hl : pos < lim) (ht : text.getD pos 0 = c) (h : ∀ seen, Ends n (S2 text lim p (pc + 2) (pos + 1) handed outer frames weight none seen) m') :
    Ends (n + 1) (S2 text lim p pc pos handed outer frames weight none seen) m' :=
  .step rfl (by
    rw [step_exec rfl rfl hp, exec_lit (m := S2 text lim p pc pos handed outer frames weight none seen) hw]
    show Ends n (if pos ≥ lim then _ else if text.getD pos 0 == cEol.getD (pc + 1) 0 then _ else _) m'
    rw [if_neg (by omega), if_pos (by rw [ht, hc]; simp)]
    exact h _)
theorem e_litNo {pc c weight : Nat} (hw : ops[cEol.getD pc 0]? = some .LITERAL) (hp : pc < cEol.size) (hc : cEol.getD (pc + 1) 0 = c) (ht : pos ≥ lim ∨ text.getD pos 0 ≠ c) (h : ∀ seen, Ends n (S2 text lim p pc pos handed outer frames weight (some false) seen) m') :
    Ends (n + 1) (S2 text lim p pc pos handed outer frames weight none seen) m' :=
  .step rfl (by
    rw [step_exec rfl rfl hp, exec_lit (m := S2 text lim p pc pos handed outer frames weight none seen) hw]
    show Ends n (if pos ≥ lim then _ else if text.getD pos 0 == cEol.getD (pc + 1) 0 then _ else _) m'
    by_cases hl : pos ≥ lim
    · rw [if_pos hl]; exact h _
    · rw [if_neg hl, if_neg (by rcases ht with ht | ht; · exact absurd ht hl
                                · rw [hc]; simpa using ht)]
      exact h _)
theorem e_jump {pc weight k : Nat} (hw : ops[cEol.getD pc 0]? = some .JUMP) (hp : pc < cEol.size) (hk : pc + 1 + cEol.getD (pc + 1) 0 = k) (h : ∀ seen, Ends n (S2 text lim p k pos handed outer frames weight none seen) m') :
    Ends (n + 1) (S2 text lim p pc pos handed outer frames weight none seen) m' :=
  .step rfl (by
    rw [step_exec rfl rfl hp, exec_jump (m := S2 text lim p pc pos handed outer frames weight none seen) hw]
    subst hk
    exact h _)
/-- the machine's end: a match -/
theorem e_success {alt weight : Nat} (h : ∀ seen, m' { S2 text lim p 10 p pos true [] (weight - (1 + 0) - (1 + 0)) (some true) seen with outcome := some .matched }) : Ends 4 (S2 text lim p 35 pos handed true [fAlt alt p, fStart 10 p true] weight none seen) m' :=
  .step rfl (by
    rw [step_exec rfl rfl (show 35 < cEol.size by decide), exec_success rfl (by simp [S2])]
    refine .step rfl ?_
    rw [step_pop (f := fAlt alt p) (r := [fStart 10 p true]) (b := true) rfl rfl rfl]
    refine .step rfl ?_
    rw [step_pop (f := fStart 10 p true) (r := []) (b := true) rfl rfl rfl]
    refine .step rfl ?_
    rw [step_say (b := true) rfl rfl rfl]
    exact .here (h _))
theorem e_no {alt next weight : Nat} (hn : alt + cEol.getD alt 0 = next) (h0 : cEol.getD next 0 ≠ 0) {B : Nat} (hB : B ≤ 100) (hw : weight ≤ B) {pc : Nat} (h : ∀ seen weight, weight ≤ B + 1 → Ends n (S2 text lim p (next + 1) p p true (fAlt next p :: frames) weight none seen) m') :
    Ends (n + 1) (S2 text lim p pc pos handed outer (fAlt alt p :: frames) weight (some false) seen) m' :=
  .step rfl (by
    rw [step_pop (f := fAlt alt p) (r := frames) (b := false) rfl rfl rfl]
    subst hn
    show Ends n (if cEol.getD (alt + cEol.getD alt 0) 0 == 0 then _ else if weight - 1 + 1 + 0 > 16777216 then _ else _) m'
    rw [if_neg (by simpa using h0), if_neg (by omega)]
    exact h _ (weight - 1 + 1 + 0) (by omega))
theorem e_not {weight B : Nat} (hB : B ≤ 100) (hw : weight ≤ B) (h : ∀ seen weight, weight ≤ B + 1 → Ends n (S2 text lim p 29 pos pos false (fNot 26 pos :: frames) weight none seen) m') : Ends (n + 1) (S2 text lim p 26 pos handed true frames weight none seen) m' :=
  .step rfl (by
    rw [step_exec rfl rfl (show 26 < cEol.size by decide), exec_assertNot rfl (by show ¬ pos < 0; omega)]
    show Ends n (if weight + 1 + 0 > 16777216 then _ else _) m'
    rw [if_neg (by omega)]
    exact h _ (weight + 1 + 0) (by omega))
theorem e_notNo {weight q pc B : Nat} (hw : weight ≤ B) (h : ∀ seen weight, weight ≤ B + 1 → Ends n (S2 text lim p 32 q handed true frames weight none seen) m') : Ends (n + 1) (S2 text lim p pc pos handed outer (fNot 26 q :: frames) weight (some false) seen) m' :=
  .step rfl (by
    rw [step_pop (f := fNot 26 q) (r := frames) (b := false) rfl rfl rfl]
    exact h _ (weight - 1) (by omega))

/-- the end of a line at p, of the length k -/
def EolAt (text : Array Nat) (lim p k : Nat) : Prop :=
  (k = 2 ∧ text.getD p 0 = 13 ∧ p + 1 < lim ∧ text.getD (p + 1) 0 = 10) ∨ (k = 1 ∧ text.getD p 0 = 10) ∨ (k = 1 ∧ text.getD p 0 = 13 ∧ (p + 1 ≥ lim ∨ text.getD (p + 1) 0 ≠ 10))
theorem e_all {k : Nat} (hp : p < lim) (h : EolAt text lim p k) : Ends 30 (S2 text lim p 10 p p true [fStart 10 p true] 1 none seen) fun m' => m'.outcome = some .matched ∧ m'.start = p ∧ m'.handed = p + k := by
  refine Ends.mono (a := 20 + 1) (e_branch fun seen => ?_) (by omega)
  rcases h with ⟨rfl, h1, h2, h3⟩ | ⟨rfl, h1⟩ | ⟨rfl, h1, h2⟩
  · refine Ends.mono (a := 4 + 1 + 1 + 1) ?_ (by omega)
    exact e_lit (c := 13) rfl (by decide) rfl hp h1 fun _ => e_lit (c := 10) rfl (by decide) rfl h2 h3 fun _ => e_jump (k := 35) rfl (by decide) rfl fun _ => e_success fun _ => ⟨rfl, rfl, rfl⟩
  · refine Ends.mono (a := 4 + 1 + 1 + 1 + 1) ?_ (by omega)
    exact e_litNo (c := 13) rfl (by decide) rfl (.inr (by rw [h1]; decide)) fun _ => e_no (next := 18) (B := 50) rfl (by decide) (by omega) (by omega) fun _ _ hw => e_lit (c := 10) rfl (by decide) rfl hp h1 fun _ => e_jump (k := 35) rfl (by decide) rfl fun _ => e_success fun _ => ⟨rfl, rfl, rfl⟩
  · refine Ends.mono (a := 4 + 1 + 1 + 1 + 1 + 1 + 1 + 1 + 1 + 1 + 1) ?_ (by omega)
    refine e_lit (c := 13) rfl (by decide) rfl hp h1 fun _ => e_litNo (c := 10) rfl (by decide) rfl h2 fun _ => e_no (next := 18) (B := 50) rfl (by decide) (by omega) (by omega) fun _ _ hw => ?_
    refine e_litNo (c := 10) rfl (by decide) rfl (.inr (by rw [h1]; decide)) fun _ => e_no (next := 23) (B := 51) rfl (by decide) (by omega) hw fun _ _ hw => ?_
    refine e_lit (c := 13) rfl (by decide) rfl hp h1 fun _ => e_not (B := 52) (by omega) hw fun _ _ hw => ?_
    refine e_litNo (c := 10) rfl (by decide) rfl h2 fun _ => e_notNo (B := 53) hw fun _ _ hw => ?_
    exact e_jump (k := 35) rfl (by decide) rfl fun _ => e_success fun _ => ⟨rfl, rfl, rfl⟩
end

/-- the search for the end of a line finds it -/
theorem search_eol {text : Array Nat} {lim pos p k : Nat} (hpp : pos ≤ p) (hp : p < lim) (h : EolAt text lim p k) (hno : ∀ q, pos ≤ q → q < p → text.getD q 0 ≠ 10 ∧ text.getD q 0 ≠ 13) :
    Ends 30 (PySem.Sre.forSearch cEol text 0 pos lim false) fun m' => m'.outcome = some .matched ∧ m'.start = p ∧ m'.handed = p + k := by
  rw [cEol_first]
  rw [if_neg (by simp; omega)]
  have h1 : InFirst cEol (text.getD p 0) true := cEol_in (by rcases h with ⟨_, h, _⟩ | ⟨_, h⟩ | ⟨_, h, _⟩ <;> simp [h])
  obtain ⟨seen', e⟩ := admitted_some (m := { M0 cEol text 10 pos lim (({} : Sre.Seen).add 14) with lastStart := lim }) hp h1 (lim + 1 - pos) pos (({} : Sre.Seen).add 14) hpp (by omega) fun q hq hq' => cEol_out (hno q hq hq').1 (hno q hq hq').2
  rw [e]
  exact e_all (seen := seen') hp h
end Mine
end PartB18

section PartB19
open PySem PySem.Calls PySem.W PyProof.Rows PySem.Spec
set_option maxRecDepth 100000
set_option linter.unusedVariables false
namespace Mine
open PySem.Sre (M Outcome Op ops Wait inSet)

def S1 (text : Array Nat) (lim p pc pos handed : Nat) (outer : Bool) (frames : List Sre.Frame) (weight : Nat) (answer : Option Bool) (seen : Sre.Seen) : M :=
  { code := cDot, text, lim, start := p, lastStart := lim, pc, pos, handed, outermost := outer, marks := #[], frames, weight, answer, seen }
def Hit (text : Array Nat) (lim p : Nat) : Prop := p < lim ∧ (p = 0 ∨ text.getD (p - 1) 0 = 10) ∧ text.getD p 0 = 46

section
variable {text : Array Nat} {lim p pos handed : Nat} {frames : List Sre.Frame} {outer : Bool} {seen : Sre.Seen} {n : Nat} {P : M → Prop}
theorem d_at {b : Bool} {hd : Nat} (hb : (p == 0 || text.getD (p - 1) 0 == 10) = b) (h : ∀ seen, Ends n (if b then S1 text lim p 7 p hd outer frames 1 none seen else S1 text lim p 5 p hd outer frames 1 (some false) seen) P) :
    Ends (n + 1) (S1 text lim p 5 p hd outer frames 1 none seen) P :=
  .step rfl (by
    rw [step_exec rfl rfl (show 5 < cDot.size by decide), exec_at (b := b) rfl (by subst hb; rfl)]
    cases b
    · exact h _
    · exact h _)
theorem d_lit {hd : Nat} {b : Bool} (hb : decide (p < lim ∧ text.getD p 0 = 46) = b) (h : ∀ seen, Ends n (if b then S1 text lim p 9 (p + 1) hd outer frames 1 none seen else S1 text lim p 7 p hd outer frames 1 (some false) seen) P) :
    Ends (n + 1) (S1 text lim p 7 p hd outer frames 1 none seen) P :=
  .step rfl (by
    rw [step_exec rfl rfl (show 7 < cDot.size by decide), exec_lit rfl]
    show Ends n (if p ≥ lim then _ else if text.getD p 0 == 46 then _ else _) P
    cases b
    · have hb := of_decide_eq_false hb
      by_cases hl : p ≥ lim
      · rw [if_pos hl]; exact h _
      · rw [if_neg hl, if_neg (fun q => hb ⟨by omega, by simpa using q⟩)]; exact h _
    · have hb := of_decide_eq_true hb
      rw [if_neg (by omega), if_pos (by rw [hb.2]; simp)]
      exact h _)
theorem d_end {hd : Nat} (h : ∀ seen, P { S1 text lim p 5 p pos outer [] (1 - (1 + 0)) (some true) seen with outcome := some .matched }) (ho : ¬ (outer && (false || false)) = true) : Ends 3 (S1 text lim p 9 pos hd outer [fStart 5 p outer] 1 none seen) P :=
  .step rfl (by
    rw [step_exec rfl rfl (show 9 < cDot.size by decide), exec_success rfl (by simp [S1])]
    refine .step rfl ?_
    rw [step_pop (f := fStart 5 p outer) (r := []) (b := true) rfl rfl rfl]
    refine .step rfl ?_
    rw [step_say (b := true) rfl rfl rfl]
    exact .here (h _))
theorem d_next {hd pc q : Nat} (hq : p < lim) (h : ∀ seen, Ends n (S1 text lim (p + 1) 5 (p + 1) (p + 1) false [fStart 5 (p + 1) false] 1 none seen) P) : Ends (n + 1) (S1 text lim p pc q hd outer [fStart 5 p outer] 1 (some false) seen) P :=
  .step rfl (by
    rw [step_pop (f := fStart 5 p outer) (r := []) (b := false) rfl rfl rfl]
    show Ends n (if p < lim then _ else _) P
    rw [if_pos hq]
    exact h _)
theorem d_stop {hd pc q : Nat} (hq : ¬ p < lim) (h : ∀ m', m'.outcome = some .failed → P m') : Ends 2 (S1 text lim p pc q hd outer [fStart 5 p outer] 1 (some false) seen) P :=
  .step rfl (by
    rw [step_pop (f := fStart 5 p outer) (r := []) (b := false) rfl rfl rfl]
    show Ends 1 (if p < lim then _ else _) P
    rw [if_neg hq]
    refine .step rfl ?_
    rw [step_say (b := false) rfl rfl rfl]
    exact .here (h _ rfl))
/-- a place that is no hit -/
theorem d_miss (hm : ¬ Hit text lim p) (h : ∀ seen pc, Ends n (S1 text lim p pc p p outer frames 1 (some false) seen) P) : Ends (n + 2) (S1 text lim p 5 p p outer frames 1 none seen) P := by
  refine d_at rfl fun seen => ?_
  cases hb : (p == 0 || text.getD (p - 1) 0 == 10)
  · exact Ends.mono (h _ _) (Nat.le_succ _)
  · refine d_lit rfl fun seen => ?_
    have : decide (p < lim ∧ text.getD p 0 = 46) = false := decide_eq_false fun q => hm ⟨q.1, by simpa using hb, q.2⟩
    rw [this]
    exact h _ _
theorem d_find : ∀ (d p : Nat) (outer : Bool) (seen : Sre.Seen), Hit text lim (p + d) → (∀ q, p ≤ q → q < p + d → ¬ Hit text lim q) → (∀ m' : M, m'.outcome = some .matched → m'.start = p + d → m'.handed = p + d + 1 → P m') →
    Ends (3 * d + 5) (S1 text lim p 5 p p outer [fStart 5 p outer] 1 none seen) P
  | 0, p, outer, seen, hh, _, h => by
    obtain ⟨h1, h2, h3⟩ := hh
    rw [Nat.add_zero] at h1 h2 h3
    refine d_at (b := true) (by simpa using h2) fun seen => d_lit (b := true) (decide_eq_true ⟨h1, h3⟩) fun seen => d_end (fun seen => h _ rfl rfl rfl) (by simp)
  | d + 1, p, outer, seen, hh, hno, h => by
    refine Ends.mono (a := 3 * d + 5 + 1 + 2) (d_miss (hno p (Nat.le_refl _) (by omega)) fun seen pc => d_next (by have := hh.1; omega) fun seen => ?_) (by omega)
    refine d_find d (p + 1) false seen (by rw [show p + 1 + d = p + (d + 1) by omega]; exact hh) (fun q hq hq' => hno q (by omega) (by omega)) fun m' a b c => h m' a (by rw [b]; omega) (by rw [c]; omega)
theorem d_none : ∀ (d p : Nat) (outer : Bool) (seen : Sre.Seen), p + d = lim → (∀ q, p ≤ q → q < lim → ¬ Hit text lim q) → (∀ m' : M, m'.outcome = some .failed → P m') →
    Ends (3 * d + 4) (S1 text lim p 5 p p outer [fStart 5 p outer] 1 none seen) P
  | 0, p, outer, seen, hd, hno, h => by
    exact d_miss (fun q => by have := q.1; omega) fun seen pc => d_stop (by omega) h
  | d + 1, p, outer, seen, hd, hno, h => by
    refine Ends.mono (a := 3 * d + 4 + 1 + 2) (d_miss (hno p (Nat.le_refl _) (by omega)) fun seen pc => d_next (by omega) fun seen => ?_) (by omega)
    exact d_none d (p + 1) false seen (by omega) (fun q hq hq' => hno q (by omega) hq') h
end
theorem dot_search (text : Array Nat) (pos lim : Nat) : PySem.Sre.forSearch cDot text 0 pos lim false = (if pos > lim || lim - pos < 1 then (M0 cDot text 5 pos lim (({} : Sre.Seen).add 14)).say false else S1 text lim pos 5 pos pos true [fStart 5 pos true] 1 none (({} : Sre.Seen).add 14)) := rfl
theorem search_dot {text : Array Nat} {lim pos p : Nat} (hpp : pos ≤ p) (h : Hit text lim p) (hno : ∀ q, pos ≤ q → q < p → ¬ Hit text lim q) (hl : lim ≤ 2 ^ 30) :
    Ends (2 ^ 36) (PySem.Sre.forSearch cDot text 0 pos lim false) fun m' => m'.outcome = some .matched ∧ m'.start = p ∧ m'.handed = p + 1 := by
  rw [dot_search, if_neg (by have := h.1; simp; omega)]
  obtain ⟨d, rfl⟩ := Nat.exists_eq_add_of_le hpp
  exact Ends.mono (d_find d pos true _ h hno fun m' a b c => ⟨a, b, c⟩) (by have := h.1; omega)
theorem search_dot_none {text : Array Nat} {lim pos : Nat} (hno : ∀ q, pos ≤ q → q < lim → ¬ Hit text lim q) (hl : lim ≤ 2 ^ 30) : Ends (2 ^ 36) (PySem.Sre.forSearch cDot text 0 pos lim false) fun m' => m'.outcome = some .failed := by
  rw [dot_search]
  split
  · exact Ends.mono (.step rfl (by rw [step_say (b := false) rfl rfl rfl]; exact .here rfl)) (by omega)
  · rename_i h
    simp at h
    exact Ends.mono (d_none (lim - pos) pos true _ (by omega) hno fun m' a => a) (by omega)
end Mine
end PartB19

section PartB20
open PySem PySem.Calls PySem.W PyProof.Rows PySem.Spec
set_option maxRecDepth 100000
set_option linter.unusedVariables false
namespace Mine
open PySem.Sre (M)
open PySem.Builtin.Re

/-- what a compiled pattern is -/
structure PatK (K : Frag) (a : Addr) (code : Array Nat) : Prop where
  at_ : ∃ fs T ws n, K.lookup a = some { cls := .type "re.Pattern", data := .fields fs } ∧ fs.getD 5 .none = .ref T ∧ reRawNat (fs.getD 2 .none) = 0 ∧ reRawNat (fs.getD 6 .none) = 0 ∧
    K.lookup T = some { cls := .type "tuple", data := .seq ws n } ∧ (ws.map reRawOf).map (·.toNat) = code

section
variable {G : Gl} {env : Env} {A : Around} {σ σ' : St} {Φ : MV → St → Prop} {E : Value → Shared → Prop} {s : Shared} {a : Addr} {code : Array Nat} {x : Str} {t : Tok}

theorem MTy.pat (g : G.Ok) (pk : PatK G.K a code) : MTy G env σ (.ref a) "re.Pattern" := fun _ _ s v va r => by
  cases (va : v = _)
  obtain ⟨fs, T, ws, n, h, _⟩ := pk.at_
  have := r.old _ _ (g.X _ _ h)
  exact ⟨⟨_, this, rfl⟩, fun _ q => by cases q; exact ⟨_, this, rfl⟩⟩

theorem wp_whole {prog : Program} {w : World} {K : Frag} (X : K.In s.heap) (pk : PatK K a code) {Q : ReTarget → Shared → Prop}
    (h : Q { pattern := .ref a, string := .str x t, code := code, text := x.cps, kind := 0, groups := 0, pos := 0, lim := x.cps.size } s) : wpAny (model prog w) A (reWholeTarget (.ref a) (.str x t)) Q E s := by
  obtain ⟨fs, T, ws, n, h1, h2, h3, h4, h5, h6⟩ := pk.at_
  unfold reWholeTarget
  refine wpAny_bind (wpAny_fieldsOf (X _ _ h1) rfl ?_)
  show wpAny _ A (pure (x.cps, 0) >>= _) Q E s
  refine wpAny_bind (wpAny_pure ?_)
  dsimp only
  rw [h4]
  show wpAny _ A (reNoCollectionInside (.str x t) 0 >>= fun _ => reRawItems (fs.getD 5 .none) >>= fun r => pure (ReTarget.mk (.ref a) (.str x t) (r.map (·.toNat)) x.cps 0 (reRawNat (fs.getD 2 .none)) 0 x.cps.size)) Q E s
  refine wpAny_bind (wpAny_pure (wpAny_bind ?_))
  rw [h2, h3]
  unfold reRawItems
  refine wpAny_bind (wpAny_seqItems (X _ _ h5) rfl (wpAny_pure (wpAny_pure ?_)))
  show Q (ReTarget.mk (.ref a) (.str x t) ((ws.map reRawOf).map (·.toNat)) x.cps 0 0 0 x.cps.size) s
  rw [h6]; exact h
theorem wp_target {prog : Program} {w : World} {K : Frag} (X : K.In s.heap) (pk : PatK K a code) (hx : x.cps.size < 2 ^ 62) {Q : ReTarget → Shared → Prop} {id f : String}
    (h : Q { pattern := .ref a, string := .str x t, code := code, text := x.cps, kind := 0, groups := 0, pos := 0, lim := x.cps.size } s) : wpAny (model prog w) A (reTarget id f ⟨[.ref a, .str x t], []⟩) Q E s := by
  obtain ⟨fs, T, ws, n, h1, h2, h3, h4, h5, h6⟩ := pk.at_
  unfold reTarget
  dsimp only
  have e : reNamed id f ["string", "pos", "endpos"] 1 [.str x t] [] = pure [some (.str x t), none, none] := rfl
  rw [e]
  refine wpAny_bind (wpAny_pure (wpAny_bind (wpAny_pure (wpAny_bind (wpAny_pure ?_)))))
  refine wpAny_bind (wpAny_fieldsOf (X _ _ h1) rfl ?_)
  show wpAny _ A (pure (x.cps, 0) >>= _) Q E s
  refine wpAny_bind (wpAny_pure ?_)
  dsimp only
  rw [h4]
  show wpAny _ A (reNoCollectionInside (.str x t) 0 >>= fun _ => reRawItems (fs.getD 5 .none) >>= fun r => pure (ReTarget.mk (.ref a) (.str x t) (r.map (·.toNat)) x.cps 0 (reRawNat (fs.getD 2 .none)) (min (0 : Int).toNat x.cps.size) (min ((2 : Int) ^ 63 - 1).toNat x.cps.size))) Q E s
  refine wpAny_bind (wpAny_pure (wpAny_bind ?_))
  rw [h2, h3]
  unfold reRawItems
  refine wpAny_bind (wpAny_seqItems (X _ _ h5) rfl (wpAny_pure (wpAny_pure ?_)))
  show Q (ReTarget.mk (.ref a) (.str x t) ((ws.map reRawOf).map (·.toNat)) x.cps 0 0 (min (0 : Int).toNat x.cps.size) (min ((2 : Int) ^ 63 - 1).toNat x.cps.size)) s
  have e1 : min (0 : Int).toNat x.cps.size = 0 := Nat.zero_min _
  have e2 : min ((2 : Int) ^ 63 - 1).toNat x.cps.size = x.cps.size := Nat.min_eq_right (Nat.le_trans (Nat.le_of_lt hx) (by decide))
  rw [h6, e1, e2]
  exact h

theorem XC_search (g : G.Ok) (pk : PatK G.K a code) (hx : x.cps.size < 2 ^ 62) (hs : Ends 1 (PySem.Sre.forSearch code x.cps 0 0 x.cps.size false) fun m' => m'.outcome = some .failed) (h : Φ .none σ) : XC G env A σ (.builtin "re.Pattern.search") [.ref a, .str x] Φ := .mk fun fz z s Q E vs va r q => by
  have X := g.X.keeps r.old
  have ty := (MTy.pat (env := env) (σ := σ) g pk) fz z s (.ref a) rfl r
  obtain ⟨v, _, rfl, hv, u, _, rfl, ⟨t, rfl⟩, hr⟩ := va
  cases (hv : v = _); cases (hr : _ = _)
  refine wpAny_call_entry slot_search ty.1 entry_search ?_ (args_search _ _)
  unfold Builtin.«re.Pattern.search»
  refine wpAny_bind (wp_target X pk hx ?_)
  dsimp only
  unfold reAnswer
  refine wpAny_bind (wp_runToEnd hs (by decide) fun m' hm => .inr ⟨hm, ?_⟩)
  exact wpAny_pure ⟨_, rfl, q _ .none σ _ rfl h r (TK.refl _)⟩

/-- what the loop of a substitution lays down -/
inductive SubT (code : Array Nat) (x rp : Str) : Nat → List Str → Prop
  | stop {d : Nat} : Ends (2 ^ 36) (PySem.Sre.forSearch code x.cps 0 d x.cps.size false) (fun m' => m'.outcome = some .failed) → SubT code x rp d (if d < x.cps.size then [⟨x.cps.extract d x.cps.size⟩] else [])
  | go {d p e : Nat} {ps : List Str} : p < e → Ends (2 ^ 36) (PySem.Sre.forSearch code x.cps 0 d x.cps.size false) (fun m' => m'.outcome = some .matched ∧ m'.start = p ∧ m'.handed = e) → SubT code x rp e ps →
      SubT code x rp d ((if d < p then [⟨x.cps.extract d p⟩] else []) ++ rp :: ps)

theorem extract_size (c : Array Nat) (a b : Nat) : (c.extract a b).size ≤ c.size := by rw [Array.size_extract]; omega

/-- a piece more on the list -/
theorem wp_piece {prog : Program} {w : World} {h₁ : Heap} {fz : Fz} {z : Shared} {σ : St} {D : Addr} {ps : List Str} {y : Str} {u : Tok} {E : Value → Shared → Prop} {Q : Unit → Shared → Prop} {s : Shared} {A : Around}
    (r : Rel h₁ env fz z { σ with hp := ⟨D, true, .list (ps.map .str)⟩ :: σ.hp } s) (hsz : ps.length ≤ sizeLine)
    (q : ∀ s', Rel h₁ env fz z { σ with hp := ⟨D, true, .list ((ps ++ [y]).map .str)⟩ :: σ.hp } s' → TK s.heap s'.heap → Q () s') : wpAny (model prog w) A (updateSeq D (·.push (.str y u))) Q E s := by
  obtain ⟨arr, ⟨n, ho⟩, yv⟩ := (r.hp _ (.head _)).1
  have hl : arr.size = ps.length := by have := yv.length; simpa using this
  refine wpAny_updateSeq ho rfl ?_ (by omega) (by rw [Array.size_push]; omega)
  have hg : (s.heap.update D (Obj.mapSeq (·.push (.str y u)))).get? D = some { cls := .type "list", data := .seq (arr.push (.str y u)) (n + 1) } := by
    rw [Heap.get?_update_self _ ho (by rw [Obj.mapSeq_push_plain]; rfl), Obj.mapSeq_push_plain]
  obtain ⟨r', t'⟩ := r.change (i := 0) (m := .list (ps.map .str)) (m' := .list ((ps ++ [y]).map .str)) (h' := s.heap.update D (Obj.mapSeq (·.push (.str y u)))) (tk := s.toks) rfl (fun c o hc e => (Heap.SameBut.update ..).extBut _ _ hc e) fun t => ⟨_, ⟨_, hg⟩, by
    rw [List.map_append]
    simpa using (yv.mono t).snoc (m := .str y) (v := .str y u) ⟨u, rfl⟩⟩
  exact q _ r' t'

theorem sub_loop (g : G.Ok) (pk : PatK G.K a code) {rp : Str} {tr : Tok} {fz : Fz} {z : Shared} {D : Addr} {R : Result → Shared → Prop} (hx : x.length ≤ sizeLine) : ∀ {d : Nat} {out : List Str}, SubT code x rp d out → ∀ (n : Nat) (ps : List Str) (s : Shared),
    (ps ++ out).length ≤ sizeLine → JoinOk ⟨x.cps.extract 0 0⟩ (ps ++ out) = true → Rel G.h₁ env fz z { σ with hp := ⟨D, true, .list (ps.map .str)⟩ :: σ.hp } s →
    (∀ s' t', Rel G.h₁ env fz z { σ with hp := ⟨D, true, .list ((ps ++ out).map .str)⟩ :: σ.hp } s' → TK s.heap s'.heap → R (.ok (.ret (.str (if (ps ++ out).isEmpty then ⟨x.cps.extract 0 0⟩ else Txt.join ⟨x.cps.extract 0 0⟩ (ps ++ out)) t'))) s') →
    codeAny (model G.prog G.w) A (.builtin "re.Pattern.sub.loop" ⟨[.ref a, .str x t, .str rp tr, .int 0 0, .int 0 0, .int n 0, .int d 0, .int d 0, .bool false, .ref D, .bool false], []⟩) R s := by
  intro d out hS
  induction hS with
  | @stop d hE =>
    intro n ps s hsz hj r q
    refine codeAny_builtin entry_loop ?_
    rw [Around.under_plainId (by decide +kernel)]
    unfold Builtin.«re.Pattern.sub.loop»
    dsimp only
    refine wpAny_bind (wp_whole (g.X.keeps r.old) pk ?_)
    show wpAny _ A.in1 ((pure PUnit.unit : Sem PUnit) >>= fun _ => reNextFound _ d false >>= _) _ _ s
    refine wpAny_bind (wpAny_pure (wpAny_bind ?_))
    unfold reNextFound
    refine wp_runToEnd hE (by decide) fun m' hm => .inr ⟨hm, ?_⟩
    dsimp only
    have fin : ∀ (ps' : List Str) (s₁ : Shared), (ps' = ps ++ if d < x.cps.size then [⟨x.cps.extract d x.cps.size⟩] else []) → Rel G.h₁ env fz z { σ with hp := ⟨D, true, .list (ps'.map .str)⟩ :: σ.hp } s₁ → TK s.heap s₁.heap →
        wpAny (model G.prog G.w) A.in1 (reSlice x.cps 0 0 0 >>= fun joiner => seqItems? (.ref D) >>= fun it => (if (it.getD #[]).isEmpty = true then (pure joiner >>= fun text => ret text) else (call (.builtin "str.join") [joiner, .ref D] >>= fun text => ret text)))
          (fun fin s' => match fin with | .done f => R (.ok f) s' | .again c' => c'.quiet = true ∧ codeAny (model G.prog G.w) A c' R s') (fun e s' => R (.error e) s') s₁ := by
      intro ps' s₁ he r₁ t₁
      obtain ⟨arr, ⟨nn, ho⟩, yv⟩ := (r₁.hp _ (.head _)).1
      have hl : arr.size = ps'.length := by have := yv.length; simpa using this
      have e0 : reSlice x.cps 0 0 0 = mkStr ⟨x.cps.extract 0 0⟩ := rfl
      rw [e0]
      refine wpAny_bind (wpAny_mkStr ?_ (by show (x.cps.extract 0 0).size ≤ _; rw [Array.size_extract]; omega))
      refine wpAny_bind (wpAny_seqItems ho rfl ?_)
      have hem : arr.isEmpty = ps'.isEmpty := by
        rw [Array.isEmpty, hl]
        cases ps' <;> simp
      show wpAny _ A.in1 (if arr.isEmpty = true then _ else _) _ _ _
      rw [hem]
      rw [he] at r₁ ⊢
      cases hb : (ps ++ if d < x.cps.size then [⟨x.cps.extract d x.cps.size⟩] else [] : List Str).isEmpty with
      | true =>
        simp only [if_true]
        have := q { s₁ with toks := s₁.toks + 1 } s₁.toks r₁.toks t₁
        rw [hb] at this
        exact wpAny_bind (wpAny_pure (wpAny_pure this))
      | false =>
        simp only [Bool.false_eq_true, if_false]
        refine wpAny_bind ((XC_join (G := G) (env := env) (A := A.in1) (Φ := fun m σ' => m = .str _ ∧ σ' = _) (List.mem_cons_self) hj ⟨rfl, rfl⟩).run fz z { s₁ with toks := s₁.toks + 1 } _ _ [_, .ref D] (VAs.cons ⟨s₁.toks, rfl⟩ (VAs.cons rfl VAs.nil)) r₁.toks fun v m σ' s' va hΦ r' t' => ?_)
        obtain ⟨rfl, rfl⟩ := hΦ
        obtain ⟨tt, rfl⟩ := va
        have := q s' tt r' (t₁.trans t')
        rw [hb] at this
        exact wpAny_pure this
    have hdn : (d : Int).toNat = d := rfl
    by_cases hd : d < x.cps.size
    · show wpAny _ A.in1 (if d < x.cps.size then _ else _) _ _ s
      rw [if_pos hd]
      rw [if_pos hd] at hsz
      have e1 : reSlice x.cps 0 d x.cps.size = mkStr ⟨x.cps.extract d x.cps.size⟩ := rfl
      show wpAny _ A.in1 (reSlice x.cps 0 d x.cps.size >>= fun v => updateSeq D (·.push v) >>= _) _ _ s
      rw [e1]
      refine wpAny_bind (wpAny_mkStr ?_ (Nat.le_trans (extract_size ..) hx))
      refine wpAny_bind (wp_piece r.toks (by rw [List.length_append] at hsz; omega) fun s' r' t' => ?_)
      exact fin _ s' (by rw [if_pos hd]) r' t'
    · show wpAny _ A.in1 (if d < x.cps.size then _ else _) _ _ s
      rw [if_neg hd]
      exact fin _ s (by rw [if_neg hd, List.append_nil]) r (TK.refl _)
  | @go d p e out hpe hE hS ih =>
    intro n ps s hsz hj r q
    refine codeAny_builtin entry_loop ?_
    rw [Around.under_plainId (by decide +kernel)]
    unfold Builtin.«re.Pattern.sub.loop»
    dsimp only
    refine wpAny_bind (wp_whole (g.X.keeps r.old) pk ?_)
    show wpAny _ A.in1 ((pure PUnit.unit : Sem PUnit) >>= fun _ => reNextFound _ d false >>= _) _ _ s
    refine wpAny_bind (wpAny_pure (wpAny_bind ?_))
    unfold reNextFound
    refine wp_runToEnd hE (by decide) fun m' hm => .inl ⟨hm.1, ?_⟩
    obtain ⟨_, hp, he⟩ := hm
    dsimp only
    rw [hp, he]
    have fin : ∀ (ps' : List Str) (s₁ : Shared), (ps' ++ rp :: out = ps ++ ((if d < p then [⟨x.cps.extract d p⟩] else []) ++ rp :: out)) → Rel G.h₁ env fz z { σ with hp := ⟨D, true, .list (ps'.map .str)⟩ :: σ.hp } s₁ → TK s.heap s₁.heap →
        wpAny (model G.prog G.w) A.in1 (updateSeq D (·.push (.str rp tr)) >>= fun _ => again (.builtin "re.Pattern.sub.loop" ⟨[.ref a, .str x t, .str rp tr, .int 0 0, .int 0 0, .int ((n + 1 : Nat) : Int) 0, .int e 0, .int e 0, .bool (e == p), .ref D, .bool false], []⟩))
          (fun fin s' => match fin with | .done f => R (.ok f) s' | .again c' => c'.quiet = true ∧ codeAny (model G.prog G.w) A c' R s') (fun e s' => R (.error e) s') s₁ := by
      intro ps' s₁ hps r₁ t₁
      have hlen : (ps' ++ rp :: out).length ≤ sizeLine := by rw [hps]; exact hsz
      refine wpAny_bind (wp_piece r₁ (by rw [List.length_append] at hlen; omega) fun s' r' t' => ?_)
      have hpe' : (e == p) = false := by simp; omega
      rw [hpe']
      refine wpAny_pure (a := Fin.again _) ⟨plainId_quiet (by decide +kernel) _, ?_⟩
      have hall : ps' ++ [rp] ++ out = ps ++ ((if d < p then [⟨x.cps.extract d p⟩] else []) ++ rp :: out) := by rw [← hps]; simp
      refine ih (n + 1) (ps' ++ [rp]) s' (by rw [hall]; exact hsz) (by rw [hall]; exact hj) r' fun s'' t'' r'' tt => ?_
      rw [hall] at r'' ⊢
      exact q s'' t'' r'' (t₁.trans (t'.trans tt))
    by_cases hd : d < p
    · show wpAny _ A.in1 (if d < p then _ else _) _ _ s
      rw [if_pos hd]
      rw [if_pos hd] at hsz
      have e1 : reSlice x.cps 0 d p = mkStr ⟨x.cps.extract d p⟩ := rfl
      show wpAny _ A.in1 (reSlice x.cps 0 d p >>= fun v => updateSeq D (·.push v) >>= _) _ _ s
      rw [e1]
      refine wpAny_bind (wpAny_mkStr ?_ (Nat.le_trans (extract_size ..) hx))
      refine wpAny_bind (wp_piece r.toks (by rw [List.length_append] at hsz; omega) fun s' r' t' => ?_)
      exact fin _ s' (by rw [if_pos hd]; simp) r' t'
    · show wpAny _ A.in1 (if d < p then _ else _) _ _ s
      rw [if_neg hd]
      exact fin _ s (by rw [if_neg hd]; simp) r (TK.refl _)
end
end Mine
end PartB20

section PartB21
open PySem PySem.Calls PySem.W PyProof.Rows PySem.Spec
set_option maxRecDepth 100000
set_option linter.unusedVariables false
namespace Mine
open PySem.Sre (M)
open PySem.Builtin.Re

section
variable {G : Gl} {env : Env} {A : Around} {σ σ' : St} {Φ : MV → St → Prop} {a : Addr} {code : Array Nat} {x rp : Str}
theorem str_nocall : typeLookup (.type "str") "__call__" = pure none := by rw [typeLookup_type, builtinLookup_eq_fast]; kernel_rfl

theorem XC_sub (g : G.Ok) (pk : PatK G.K a code) (hx : x.length ≤ sizeLine) (hrp : rp.cps.contains 92 = false) {out : List Str} (hS : SubT code x rp 0 out) (hsz : out.length ≤ sizeLine) (hj : JoinOk ⟨x.cps.extract 0 0⟩ out = true)
    (h : Φ (.str (if out.isEmpty then ⟨x.cps.extract 0 0⟩ else Txt.join ⟨x.cps.extract 0 0⟩ out)) σ) : XC G env A σ (.builtin "re.Pattern.sub") [.ref a, .str rp, .str x] Φ := .mk fun fz z s Q E vs va r q => by
  have X := g.X.keeps r.old
  have ty := (MTy.pat (env := env) (σ := σ) g pk) fz z s (.ref a) rfl r
  obtain ⟨v, _, rfl, hv, u, _, rfl, ⟨tr, rfl⟩, w, _, rfl, ⟨t, rfl⟩, hr⟩ := va
  cases (hv : v = _); cases (hr : _ = _)
  refine wpAny_call (codeAny_call_builtin slot_sub.plain entry_sub (slot_sub.check _ _ _ _ _ _ _ _ ty.1 (args_sub _ _ _) ?_))
  show wpAny _ A.in1 (reSubstitute "re.Pattern.sub" "sub" false ⟨[.ref a, .str rp tr, .str x t], []⟩) _ _ s
  unfold reSubstitute
  dsimp only
  have e : reNamed "re.Pattern.sub" "sub" ["repl", "string", "count"] 2 [.str rp tr, .str x t] [] = pure [some (.str rp tr), some (.str x t), none] := rfl
  rw [e]
  refine wpAny_bind (wpAny_pure (wpAny_bind (wpAny_pure ?_)))
  refine wpAny_bind (wpAny_specialOf (T := "str") (typeIs_str _ _ _) str_nocall ?_)
  simp only [Option.isSome_none, Bool.false_eq_true, if_false]
  refine wpAny_bind (m := asStr? (.str rp tr)) (wpAny_pure (a := some rp) ?_)
  dsimp only
  rw [hrp]
  refine wpAny_bind (wpAny_pure ?_)
  simp only [Bool.not_false, if_true]
  refine wpAny_bind (wpAny_pure (wpAny_bind (wpAny_holding (wp_whole X pk ?_))))
  show wpAny _ A.in1 (newList [] >>= fun l => again (.builtin "re.Pattern.sub.loop" ⟨[.ref a, .str x t, .str rp tr, .int 0 0, .int 0 0, .int 0 0, .int 0 0, .int 0 0, .bool false, l, .bool false], []⟩)) _ _ s
  have kp := push_keep s.heap { cls := .type "list", data := .seq ([] : List Value).toArray }
  refine wpAny_bind (wpAny_newObj_type (wpAny_pure (a := Fin.again _) ⟨plainId_quiet (by decide +kernel) _, ?_⟩))
  have r₁ := r.alloc (tk := s.toks) (m := .list []) kp (fresh_size _) ⟨#[], ⟨0, Heap.get?_push_size _ rfl⟩, VAs.nil⟩
  refine sub_loop (env := env) (fz := fz) (z := z) g pk hx hS 0 [] _ hsz hj r₁ fun s' t' r' tt => ?_
  exact q _ (.str _) σ _ ⟨t', rfl⟩ h (r'.le ⟨LocLe.refl _, List.sublist_cons_self _ _, id⟩) ((TK.of_keep kp).trans tt)
end
end Mine
end PartB21

section PartC0
open PySem PySem.Calls PySem.W PyProof.Rows PySem.Spec
set_option maxRecDepth 100000
set_option linter.unusedVariables false
namespace Mine

def stm (i : Nat) : Stmt := (PySem.Challenge.pw_wk0030_01.main.body[i]?).getD (.Pass default)
def bodyOf : Stmt → List Stmt
  | .FunctionDef _ _ b _ _ _ _ _ _ _ => b
  | .ClassDef _ _ _ b _ _ _ _ _ _ _ => b
  | _ => []
def scopeOf : Stmt → Scope
  | .FunctionDef _ _ _ _ _ _ s _ _ _ => s
  | _ => default
def argsOf : Stmt → Arguments
  | .FunctionDef _ a _ _ _ _ _ _ _ _ => a
  | _ => default

structure FnK (K : Frag) (f : Addr) (fd : FuncData) (st : Stmt) : Prop where
  def_ : DefK K f fd (bodyOf st)
  scope : fd.scope = scopeOf st
  params : fd.params = argsOf st
  nodef : fd.defaults = .none
  nokw : fd.kwdefaults = .none
  fn : (K.lookup f).map (·.cls) = some (.type "function")

abbrev St.Has (σ : St) (x : Str) (v : MV) : Prop := σ.loc.lookup x = some v
theorem put_same {σ : St} {x : Str} {v : MV} : (σ.put x v).Has x v := by unfold St.Has St.put; simp
theorem put_other {σ : St} {x y : Str} {v u : MV} (h : σ.Has y u) (hn : (y == x) = false) : (σ.put x v).Has y u := by
  show (σ.put x v).loc.lookup y = some u
  unfold St.put; rw [List.lookup_cons, hn]; exact h
theorem put_keep {σ : St} {x y : Str} {v u : MV} (h : σ.Has y u) (hn : (y == x) = false := by decide +kernel) : (σ.put x v).Has y u := put_other h hn
theorem put_hp {σ : St} {x : Str} {v : MV} : (σ.put x v).hp = σ.hp := rfl
theorem put_cown {σ : St} {x : Str} {v : MV} : (σ.put x v).cown = σ.cown := rfl

/-- the builtins that the law takes -/
def bnames : List (Str × Value) := [("int", .type "int"), ("abs", .builtin "abs"), ("divmod", .builtin "divmod"), ("len", .builtin "len"), ("min", .builtin "min"), ("range", .type "range"), ("chr", .builtin "chr"), ("sum", .builtin "sum"),
  ("bin", .builtin "bin"), ("type", .type "type"), ("zip", .type "zip"), ("list", .type "list"), ("str", .type "str")]
theorem boots : ∀ p ∈ bnames, bootBuiltins p.1 = some p.2 ∧ p.1 ≠ "__name__" ∧ (p.1 == ("__debug__" : Str)) = false := by
  unfold bnames
  simp only [List.forall_mem_cons]
  refine ⟨?_, ?_, ?_, ?_, ?_, ?_, ?_, ?_, ?_, ?_, ?_, ?_, ?_, fun _ h => absurd h List.not_mem_nil⟩ <;> exact ⟨by decide +kernel, by decide +kernel, by decide +kernel⟩
structure KOk (K : Frag) : Prop where
  nob : ∀ p ∈ bnames, nsIn K mainGlobals p.1 = some none
theorem XE_b {G : Gl} {env : Env} {A : Around} {σ : St} (g : G.Ok) (k : KOk G.K) (e : EnvOk env) {x : Str} {pos : Pos} {v : Value} {Φ : MV → St → Prop} (hm : (x, v) ∈ bnames) (h : Φ (.raw v) σ) (hx : env.kindOf x = some .globalImplicit) : XE G env A σ (.Name x pos) Φ :=
  XE_builtin g e (k.nob _ hm) (boots _ hm).1 h hx (boots _ hm).2.1 (boots _ hm).2.2
theorem mem_int : (("int" : Str), Value.type "int") ∈ bnames := by simp [bnames]
theorem mem_abs : (("abs" : Str), Value.builtin "abs") ∈ bnames := by simp [bnames]
theorem mem_divmod : (("divmod" : Str), Value.builtin "divmod") ∈ bnames := by simp [bnames]
theorem mem_len : (("len" : Str), Value.builtin "len") ∈ bnames := by simp [bnames]
theorem mem_min : (("min" : Str), Value.builtin "min") ∈ bnames := by simp [bnames]
theorem mem_range : (("range" : Str), Value.type "range") ∈ bnames := by simp [bnames]
theorem mem_chr : (("chr" : Str), Value.builtin "chr") ∈ bnames := by simp [bnames]
theorem mem_sum : (("sum" : Str), Value.builtin "sum") ∈ bnames := by simp [bnames]
theorem mem_bin : (("bin" : Str), Value.builtin "bin") ∈ bnames := by simp [bnames]
theorem mem_type : (("type" : Str), Value.type "type") ∈ bnames := by simp [bnames]
theorem mem_zip : (("zip" : Str), Value.type "zip") ∈ bnames := by simp [bnames]
theorem mem_list : (("list" : Str), Value.type "list") ∈ bnames := by simp [bnames]
theorem mem_str : (("str" : Str), Value.type "str") ∈ bnames := by simp [bnames]

/-- a builtin's call -/
theorem XE_B {G : Gl} {env : Env} {A : Around} {σ : St} (g : G.Ok) (k : KOk G.K) (e : EnvOk env) {x : Str} {p pos : Pos} {args : List Expr} {v : Value} {Φ : MV → St → Prop} (hm : (x, v) ∈ bnames) (hr : ∀ a, v ≠ .ref a) (h : XA G env A pos σ args fun ms σ₂ => XC G env A σ₂ v ms Φ)
    (hx : env.kindOf x = some .globalImplicit) (hp : (backTo pos (starEach args env)).any (·.1) = false) : XE G env A σ (.Call (.Name x p) args [] pos) Φ :=
  XE_CallRaw (XE_b g k e hm ⟨v, rfl, hr, h⟩ hx) hp
theorem fm0 {α : Type} {P : α → Prop} : ∀ y ∈ ([] : List α), P y := fun _ h => absurd h List.not_mem_nil
theorem fmc {α : Type} {P : α → Prop} {a : α} {l : List α} (h : P a) (r : ∀ y ∈ l, P y) : ∀ y ∈ a :: l, P y := List.forall_mem_cons.mpr ⟨h, r⟩
theorem noCell {s : Scope} (h : s.names.all (fun x => match x.2 with | .cell => false | _ => true) = true) : ∀ x ∈ s.names, x.2 ≠ .cell := fun x hx e => by
  have := List.all_eq_true.mp h x hx
  rw [e] at this; cases this
def lk (i : Nat) (x : Str) : Option NameKind := (scopeOf (stm i)).names.lookup x
end Mine
end PartC0

section PartC1
open PySem PySem.Calls PySem.W PyProof.Rows PySem.Spec
set_option maxRecDepth 100000
set_option linter.unusedVariables false
namespace Mine

/-- the letters of a number -/
def apL : Nat → Nat → List UInt8
  | 0, _ => []
  | k + 1, n => if n = 0 then [] else apL k (n / 16) ++ [(65 + n % 16).toUInt8]
theorem apL_enough : ∀ {k l n : Nat}, n < 16 ^ k → k ≤ l → apL l n = apL k n
  | 0, l, n, h, _ => by
    have : n = 0 := by simpa using h
    subst this
    cases l <;> simp [apL]
  | k + 1, 0, n, h, hl => by omega
  | k + 1, l + 1, n, h, hl => by
    unfold apL
    split
    · rfl
    · rw [apL_enough (k := k) (l := l) (n := n / 16) (by rw [Nat.pow_succ] at h; omega) (by omega)]
theorem picked_ap {m : Nat} (h : m < 16) : KBy.picked (⟨[65, 66, 67, 68, 69, 70, 71, 72, 73, 74, 75, 76, 77, 78, 79, 80]⟩ : Array UInt8) (some (m : Int)) (some ((m : Int) + 1)) = #[(65 + m).toUInt8] := by
  have : ∀ m : Fin 16, KBy.picked (⟨[65, 66, 67, 68, 69, 70, 71, 72, 73, 74, 75, 76, 77, 78, 79, 80]⟩ : Array UInt8) (some ((m.val : Nat) : Int)) (some (((m.val : Nat) : Int) + 1)) = #[(65 + m.val).toUInt8] := by decide +kernel
  exact this ⟨m, h⟩

section
variable {G : Gl} {env : Env} {A : Around} {σ : St} {Φ : MV → St → Prop} {f : Addr} {fd : FuncData} {n : Nat}
theorem int2ap (g : G.Ok) (k : KOk G.K) (room : Room A (n + 1)) (fk : FnK G.K f fd (stm 9)) {num : Int} (hn : num.natAbs < 16 ^ 6) (h : Φ (.bytes (apL 6 num.natAbs).toArray) σ) : XCa G env A σ (.ref f) [.int num] [] Φ := by
  obtain ⟨name, qualname, params, body, scope, globals, closure, defaults, kwdefaults, doc, pm, ann, code, ct, blt⟩ := fd
  obtain ⟨fd_, hs, hp, hd, hk, -⟩ := fk
  dsimp only at hs hp hd hk
  subst hs hp hd hk
  refine XC_def g room fd_ (noCell (s := scopeOf (stm 9)) (by decide +kernel)) (XBd_pure [("num", .int num)] (fun h vs kv va vk => ?_) ⟨fmc (show lk 9 "num" = some .local by decide +kernel) fm0, fun L hroom => ?_⟩)
  · obtain ⟨v, _, rfl, hv, hr⟩ := va
    cases (hr : _ = _); cases (vk : _ = _)
    exact ⟨_, rfl, BA.cons hv BA.nil⟩
  have eo := callEnvOk fd_ L (f := f)
  generalize hG : A.deeper _ = A' at hroom ⊢
  generalize hE : callEnv _ L f = env' at eo ⊢
  have kd : ∀ x, env'.kindOf x = lk 9 x := fun x => by subst hE; rfl
  clear hG
  conv in (bodyOf _) => whnf
  refine XSs_cons (XS_Assign (XE_bytes (XU_store_local ?_ (by rw [kd]; decide +kernel) eo)) rfl)
  refine XSs_cons (XS_Assign (XE_bytes (XU_store_local ?_ (by rw [kd]; decide +kernel) eo)) rfl)
  refine XSs_cons (XS_Assign (XE_B g k eo mem_int (fun _ e => nomatch e) (XA_cons (XE_B g k eo mem_abs (fun _ e => nomatch e) (XA_cons (XE_local eo (put_other (put_other rfl (by decide +kernel)) (by decide +kernel)) (XA_nil (XC_abs ?_)) (by rw [kd]; decide +kernel)) rfl) (by rw [kd]; decide +kernel) rfl) rfl) (by rw [kd]; decide +kernel) rfl) rfl)
  refine XA_nil (XC_intint (XU_store_local ?_ (by rw [kd]; decide +kernel) eo))
  have hnum : env'.kindOf "num" = some .local := by rw [kd]; decide +kernel
  have hval : env'.kindOf "val" = some .local := by rw [kd]; decide +kernel
  have hAP : env'.kindOf "AP" = some .local := by rw [kd]; decide +kernel
  have hmod : env'.kindOf "mod" = some .local := by rw [kd]; decide +kernel
  refine XSs_cons (XS_While (fun m σ' => ∃ v : List UInt8, σ'.Has "num" (.int (m : Nat)) ∧ σ'.Has "val" (.bytes v.toArray) ∧ σ'.Has "AP" (.bytes [65, 66, 67, 68, 69, 70, 71, 72, 73, 74, 75, 76, 77, 78, 79, 80].toArray) ∧ m < 16 ^ 6 ∧ v.length + m ≤ num.natAbs ∧ apL 6 m ++ v = apL 6 num.natAbs)
    num.natAbs ⟨[], put_same, put_keep (put_keep put_same), put_keep put_same, hn, by simp, by simp⟩ ?_)
  rintro m σ' ⟨v, h1, h2, h3, h4, h5, h6⟩
  refine XB_plain (XE_local eo h1 (XV_truthI ⟨fun hb => ?_, fun hb => ?_⟩) hnum) (fun _ => rfl)
  · have hm0 : m ≠ 0 := by rintro rfl; simp at hb
    refine XSs_cons (XS_AssignT (XE_B g k eo mem_divmod (fun _ e => nomatch e) (XA_cons (XE_local eo h1 (XA_cons (XE_int (XA_nil (XC_divmod (by decide) (PyProof.noPylong_small (by omega)) ?_))) rfl) hnum) rfl) (by rw [kd]; decide +kernel) rfl) rfl rfl)
    refine XAss_Tuple hroom.hh (XAs_cons (XAss_Name (XU_store_local (XAs_cons (XAss_Name (XU_store_local (XAs_nil ?_) hmod eo)) rfl) hnum eo)) rfl) rfl rfl
    have e1 : (m : Int).fdiv 16 = ((m / 16 : Nat) : Int) := by rw [Int.fdiv_eq_ediv_of_nonneg _ (by decide)]; rfl
    have e2 : (m : Int).fmod 16 = ((m % 16 : Nat) : Int) := by rw [Int.fmod_eq_emod_of_nonneg _ (by decide)]; rfl
    rw [e1, e2]
    have hpk := picked_ap (m := m % 16) (Nat.mod_lt _ (by decide))
    refine XSs_cons (XS_Assign (XE_BinOp (XE_SliceBytes (XE_local eo (put_keep (put_keep h3)) (XE_local eo put_same (XE_BinOp (XE_local eo put_same (XE_int (XV_add ⟨_, _, _, rfl, rfl, rfl, ?_, ?_⟩)) hmod)) hmod) hAP) (fun _ _ => rfl))) rfl)
    · show (KBy.picked (⟨[65, 66, 67, 68, 69, 70, 71, 72, 73, 74, 75, 76, 77, 78, 79, 80]⟩ : Array UInt8) (some ((m % 16 : Nat) : Int)) (some (((m % 16 : Nat) : Int) + 1))).size ≤ _
      rw [hpk]; exact (by decide : 1 ≤ sizeLine)
    show XE _ _ _ _ _ (fun b σ₂ => XV2 _ _ _ _ σ₂ (.bytes (KBy.picked (⟨[65, 66, 67, 68, 69, 70, 71, 72, 73, 74, 75, 76, 77, 78, 79, 80]⟩ : Array UInt8) (some ((m % 16 : Nat) : Int)) (some (((m % 16 : Nat) : Int) + 1)))) b _ _)
    rw [hpk]
    refine XE_local eo (put_keep (put_keep h2)) (XV_addB (by simp; omega) (XU_store_local (XSs_nil ⟨m / 16, Nat.div_lt_self (by omega) (by decide), (65 + m % 16).toUInt8 :: v, put_keep (put_keep put_same), ?_, put_keep (put_keep (put_keep h3)), ?_, ?_, ?_⟩) hval eo)) hval
    · have : (#[(65 + m % 16).toUInt8] ++ v.toArray : Array UInt8) = ((65 + m % 16).toUInt8 :: v).toArray := by simp
      rw [this]; exact put_same
    · exact Nat.lt_of_le_of_lt (Nat.div_le_self _ _) h4
    · simp; omega
    · rw [← h6]
      have e3 : apL 6 m = apL 5 (m / 16) ++ [(65 + m % 16).toUInt8] := by
        show (if m = 0 then [] else _) = _
        rw [if_neg hm0]
      rw [e3, apL_enough (k := 5) (l := 6) (by omega) (by decide)]
      simp
  · have hm0 : m = 0 := by simpa using hb
    subst hm0
    refine XSs_cons (XS_Return (XE_local eo h2 ⟨[], List.nil_sublist _, fm0, ?_⟩ hval))
    rw [← h6] at h
    exact h
end
end Mine
end PartC1

section PartC2
open PySem PySem.Calls PySem.W PyProof.Rows PySem.Spec
set_option maxRecDepth 100000
set_option linter.unusedVariables false
namespace Mine

def mkS (l : List Nat) : Str := ⟨l.toArray⟩
theorem mkS_get {l : List Nat} {i : Nat} : (mkS l).cps[i]? = l[i]? := by simp [mkS]
theorem mkS_len {l : List Nat} : (mkS l).length = l.length := by simp [mkS, Str.length]
theorem mkS_inj {l l' : List Nat} : mkS l = mkS l' ↔ l = l' := by simp [mkS]
theorem mkS_append {l l' : List Nat} : mkS l ++ mkS l' = mkS (l ++ l') := by
  show Str.mk (l.toArray ++ l'.toArray) = _
  simp [mkS]
theorem mkS_slice {l : List Nat} {a b : Nat} (hab : a ≤ b) (hb : b ≤ l.length) : Txt.slice (mkS l) (some (a : Int)) (some (b : Int)) = mkS ((l.drop a).take (b - a)) := by
  have e := StrLaws.sliced_plain (mkS l) (a := a) (b := b) hab (by rw [mkS_len]; exact hb)
  have hl : (Builtin.Str.strSliceIndices (some (a : Int)) (some (b : Int)) 1 (mkS l).length).length = b - a := by
    rw [StrLaws.strSliceIndices_plain (len := (mkS l).length) hab (by rw [mkS_len]; exact hb)]; simp
  unfold Txt.slice
  split
  · rename_i h
    rw [hl, mkS_len] at h
    simp at h
    have ha : a = 0 := by omega
    subst ha
    have : b = l.length := by omega
    subst this
    simp
  · rw [e]; simp [mkS]
def bl (n : Nat) : List Nat := List.replicate n 32
theorem sp_eq {c : Nat} : ((⟨#[c]⟩ : Str) == (" " : Str)) = (c == 32) := by
  have e : (" " : Str) = ⟨#[32]⟩ := by decide +kernel
  rw [e]
  cases h : c == 32
  · exact beq_false_of_ne (by simpa using h)
  · have : c = 32 := by simpa using h
    subst this; simp

section
variable {G : Gl} {env : Env} {A : Around} {σ : St} {Φ : MV → St → Prop} {f : Addr} {fd : FuncData} {n : Nat}
theorem strip_pad (g : G.Ok) (k : KOk G.K) (room : Room A (n + 1)) (fk : FnK G.K f fd (stm 11)) {p q a : Nat} {w : List Nat} (hw : w ≠ []) (hf : w[0]? ≠ some 32) (hl : w[w.length - 1]? ≠ some 32) (hsz : p + w.length + q ≤ 1000) (ha : a ≤ 1000)
    (h : Φ (.str (mkS (bl (p - min a p) ++ w ++ bl (q - min (a - min a p) q)))) σ) : XCa G env A σ (.ref f) [.str (mkS (bl p ++ w ++ bl q)), .int a] [] Φ := by
  obtain ⟨name, qualname, params, body, scope, globals, closure, defaults, kwdefaults, doc, pm, ann, code, ct, blt⟩ := fd
  obtain ⟨fd_, hs, hp, hd, hk, -⟩ := fk
  dsimp only at hs hp hd hk
  subst hs hp hd hk
  have hw0 : 0 < w.length := List.length_pos_iff.mpr hw
  refine XC_def g room fd_ (noCell (s := scopeOf (stm 11)) (by decide +kernel)) (XBd_pure [("s", .str (mkS (bl p ++ w ++ bl q))), ("amount", .int a)] (fun h vs kv va vk => ?_) ⟨fmc (show lk 11 "s" = some .local by decide +kernel) (fmc (show lk 11 "amount" = some .local by decide +kernel) fm0), fun L hroom => ?_⟩)
  · obtain ⟨v, _, rfl, hv, u, _, rfl, hu, hr⟩ := va
    cases (hr : _ = _); cases (vk : _ = _)
    exact ⟨_, rfl, BA.cons hv (BA.cons hu BA.nil)⟩
  have eo := callEnvOk fd_ L (f := f)
  generalize hG : A.deeper _ = A' at hroom ⊢
  generalize hE : callEnv _ L f = env' at eo ⊢
  have kd : ∀ x, env'.kindOf x = lk 11 x := fun x => by subst hE; rfl
  clear hG
  have ks : env'.kindOf "s" = some .local := by rw [kd]; decide +kernel
  have ka : env'.kindOf "amount" = some .local := by rw [kd]; decide +kernel
  have kl : env'.kindOf "lpos" = some .local := by rw [kd]; decide +kernel
  have kr : env'.kindOf "rpos" = some .local := by rw [kd]; decide +kernel
  generalize hx : bl p ++ w ++ bl q = x at h
  have hxl : x.length = p + w.length + q := by rw [← hx]; simp [bl]; omega
  have g1 : ∀ i, i < p → x[i]? = some 32 := fun i hi => by
    rw [← hx, List.append_assoc, List.getElem?_append_left (by simpa [bl] using hi)]
    simp [bl, hi]
  have g2 : x[p]? ≠ some 32 := by
    rw [← hx, List.append_assoc, List.getElem?_append_right (by simp [bl])]
    rw [List.getElem?_append_left (by simpa [bl] using hw0)]
    simpa [bl] using hf
  have g3 : ∀ j, j < q → x[p + w.length + j]? = some 32 := fun j hj => by
    rw [← hx, List.getElem?_append_right (by simp [bl])]
    simp [bl, hj]
  have g4 : x[p + w.length - 1]? ≠ some 32 := by
    rw [← hx, List.getElem?_append_left (by simp [bl]; omega), List.getElem?_append_right (by simp [bl]; omega)]
    have : p + w.length - 1 - (bl p).length = w.length - 1 := by simp [bl]; omega
    rw [this]; exact hl
  conv in (bodyOf _) => whnf
  refine XSs_cons (XS_Assign (XE_int (XU_store_local ?_ kl eo)) rfl)
  refine XSs_cons (XT.mono (XS_While (Φ := fun fl σ' => fl = .next ∧ ∃ i m : Nat, i + m = a ∧ i = min a p ∧ σ'.Has "s" (.str (mkS x)) ∧ σ'.Has "amount" (.int (m : Nat)) ∧ σ'.Has "lpos" (.int (i : Nat)))
    (fun m σ' => ∃ i : Nat, i + m = a ∧ i ≤ p ∧ σ'.Has "s" (.str (mkS x)) ∧ σ'.Has "amount" (.int (m : Nat)) ∧ σ'.Has "lpos" (.int (i : Nat))) a ⟨0, by omega, by omega, put_keep rfl, put_keep rfl, put_same⟩ ?_) ?_)
  · rintro m σ' ⟨i, h1, h2, h3, h4, h5⟩
    refine XB_And (XB_plain (XE_local eo h4 (XV_truthI ⟨fun hb => ?_, fun hb => ?_⟩) ka) (fun _ => rfl))
    · have hm0 : m ≠ 0 := by rintro rfl; simp at hb
      obtain ⟨c, hc⟩ : ∃ c, x[i]? = some c := ⟨_, List.getElem?_eq_getElem (by omega)⟩
      refine XB_And (XB_Compare (XE_Subscript (XE_local eo h3 (XE_local eo h5 (XV_item_str (c := c) (by omega) (by omega) (by rw [mkS_get]; exact hc) (XE_str (XV_eqS (XV_truthB ⟨fun hb => ?_, fun hb => ?_⟩))) (fun _ _ => rfl)) kl) ks)) rfl)
      · rw [sp_eq] at hb
        have hc32 : c = 32 := by simpa using hb
        subst hc32
        have hip : i < p := by
          rcases Nat.lt_or_ge i p with hh | hh
          · exact hh
          · have : i = p := by omega
            subst this; exact absurd hc g2
        refine XB_And_nil ⟨fun _ => ?_, fun hb => nomatch hb⟩
        refine XSs_cons (XS_AugName (XN_local eo h5 (XE_int (XV_iadd (XU_store_local ?_ kl eo))) kl))
        refine XSs_cons (XS_AugName (XN_local eo (put_keep h4) (XE_int (XV_isub (XU_store_local (XSs_nil ⟨m - 1, by omega, i + 1, by omega, hip, put_keep (put_keep h3), ?_, put_keep ?_⟩) ka eo))) ka))
        · have : ((m - 1 : Nat) : Int) = (m : Int) - 1 := by omega
          rw [this]; exact put_same
        · have : ((i + 1 : Nat) : Int) = (i : Int) + 1 := by omega
          rw [this]; exact put_same
      · rw [sp_eq] at hb
        refine ⟨fun q => (nomatch q), fun _ => ⟨rfl, i, m, h1, ?_, h3, h4, h5⟩⟩
        have hip : i = p := by
          rcases Nat.lt_or_ge i p with hh | hh
          · rw [g1 i hh] at hc; cases hc; simp at hb
          · omega
        omega
    · have hm0 : m = 0 := by simpa using hb
      exact ⟨fun q => (nomatch q), fun _ => ⟨rfl, i, m, h1, by omega, h3, h4, h5⟩⟩
  rintro _ σ' ⟨rfl, i, m, h1, h2, h3, h4, h5⟩
  refine XSs_cons (XS_Assign (XE_BinOp (XE_B g k eo mem_len (fun _ e => nomatch e) (XA_cons (XE_local eo h3 (XA_nil (XC_len_str (by rw [mkS_len]; omega) (XE_int (XV_sub (XU_store_local ?_ kr eo))))) ks) rfl) (by rw [kd]; decide +kernel) rfl)) rfl)
  rw [mkS_len]
  refine XSs_cons (XT.mono (XS_While (Φ := fun fl σ' => fl = .next ∧ ∃ j : Nat, j = min (a - i) q ∧ σ'.Has "s" (.str (mkS x)) ∧ σ'.Has "lpos" (.int (i : Nat)) ∧ σ'.Has "rpos" (.int ((x.length : Int) - 1 - (j : Nat))))
    (fun m σ' => ∃ j : Nat, i + j + m = a ∧ j ≤ q ∧ σ'.Has "s" (.str (mkS x)) ∧ σ'.Has "amount" (.int (m : Nat)) ∧ σ'.Has "lpos" (.int (i : Nat)) ∧ σ'.Has "rpos" (.int ((x.length : Int) - 1 - (j : Nat)))) m ⟨0, by omega, by omega, put_keep h3, put_keep h4, put_keep h5, by simpa using put_same⟩ ?_) ?_)
  · rintro m σ' ⟨j, h1, hj, h3, h4, h5, h6⟩
    refine XB_And (XB_plain (XE_local eo h4 (XV_truthI ⟨fun hb => ?_, fun hb => ?_⟩) ka) (fun _ => rfl))
    · have hm0 : m ≠ 0 := by rintro rfl; simp at hb
      obtain ⟨c, hc⟩ : ∃ c, x[x.length - 1 - j]? = some c := ⟨_, List.getElem?_eq_getElem (by omega)⟩
      refine XB_And (XB_Compare (XE_Subscript (XE_local eo h3 (XE_local eo h6 (XV_item_str (c := c) (by omega) (by omega) (by rw [mkS_get]; rw [show ((x.length : Int) - 1 - (j : Nat)).toNat = x.length - 1 - j by omega]; exact hc) (XE_str (XV_eqS (XV_truthB ⟨fun hb => ?_, fun hb => ?_⟩))) (fun _ _ => rfl)) kr) ks)) rfl)
      · rw [sp_eq] at hb
        have hc32 : c = 32 := by simpa using hb
        subst hc32
        have hip : j < q := by
          rcases Nat.lt_or_ge j q with hh | hh
          · exact hh
          · have : x.length - 1 - j = p + w.length - 1 := by omega
            rw [this] at hc; exact absurd hc g4
        refine XB_And_nil ⟨fun _ => ?_, fun hb => nomatch hb⟩
        refine XSs_cons (XS_AugName (XN_local eo h6 (XE_int (XV_isub (XU_store_local ?_ kr eo))) kr))
        refine XSs_cons (XS_AugName (XN_local eo (put_keep h4) (XE_int (XV_isub (XU_store_local (XSs_nil ⟨m - 1, by omega, j + 1, by omega, hip, put_keep (put_keep h3), ?_, put_keep (put_keep h5), put_keep ?_⟩) ka eo))) ka))
        · have : ((m - 1 : Nat) : Int) = (m : Int) - 1 := by omega
          rw [this]; exact put_same
        · have : ((x.length : Int) - 1 - ((j + 1 : Nat) : Int)) = (x.length : Int) - 1 - (j : Nat) - 1 := by omega
          rw [this]; exact put_same
      · rw [sp_eq] at hb
        refine ⟨fun q => (nomatch q), fun _ => ⟨rfl, j, ?_, h3, h5, h6⟩⟩
        have hip : j = q := by
          rcases Nat.lt_or_ge j q with hh | hh
          · have := g3 (q - 1 - j) (by omega)
            rw [show p + w.length + (q - 1 - j) = x.length - 1 - j by omega, hc] at this
            cases this; simp at hb
          · omega
        omega
    · have hm0 : m = 0 := by simpa using hb
      exact ⟨fun q => (nomatch q), fun _ => ⟨rfl, j, by omega, h3, h5, h6⟩⟩
  rintro _ σ' ⟨rfl, j, hj, h3, h5, h6⟩
  refine XSs_cons (XS_Return (XE_SliceStr (XE_local eo h3 (XE_local eo h5 (XE_BinOp (XE_local eo h6 (XE_int (XV_add ⟨_, _, _, rfl, rfl, rfl, ?_, [], List.nil_sublist _, fm0, ?_⟩)) kr)) kl) ks) (fun _ _ => rfl)))
  · rw [mkS_len]; exact Nat.le_trans (by omega) (by decide : 1000 ≤ sizeLine)
  · have e1 : ((x.length : Int) - 1 - (j : Nat) + 1) = ((x.length - j : Nat) : Int) := by omega
    rw [e1, mkS_slice (by omega) (by omega)]
    have e2 : (x.drop i).take (x.length - j - i) = bl (p - min a p) ++ w ++ bl (q - min (a - min a p) q) := by
      have hi : i ≤ p := by omega
      have hjq : j ≤ q := by omega
      have sp : ∀ a b : Nat, a ≤ b → bl b = bl a ++ bl (b - a) := fun a b h => by
        unfold bl; rw [List.replicate_append_replicate]; congr 1; omega
      have hxe : x = bl i ++ ((bl (p - i) ++ w ++ bl (q - j)) ++ bl j) := by
        rw [← hx, sp i p hi, sp (q - j) q (by omega), show q - (q - j) = j by omega]
        simp [List.append_assoc]
      have hM : (bl (p - i) ++ w ++ bl (q - j)).length = x.length - j - i := by simp [bl]; omega
      rw [← hM, hxe, List.drop_left' (by simp [bl]), List.take_left' rfl, ← h2, ← hj]
    rw [e2]
    exact h
end
end Mine
end PartC2

section PartC3
open PySem PySem.Calls PySem.W PyProof.Rows PySem.Spec
set_option maxRecDepth 100000
set_option linter.unusedVariables false
namespace Mine

def mth (i : Nat) : Stmt := ((bodyOf (stm 7))[i]?).getD (.Pass default)
def lkS (st : Stmt) (x : Str) : Option NameKind := (scopeOf st).names.lookup x
def crlf : Str := mkS [13, 10]

structure FnAtK (K : Frag) (f : Addr) (st : Stmt) : Prop where
  ex : ∃ fd, FnK K f fd st

/-- a def with a default for its last parameter -/
structure FnD (K : Frag) (f : Addr) (fd : FuncData) (st : Stmt) : Prop where
  def_ : DefK K f fd (bodyOf st)
  scope : fd.scope = scopeOf st
  params : fd.params = argsOf st
  nodef : ∃ a o arr n, fd.defaults = .ref a ∧ K.lookup a = some o ∧ o.data = .seq arr n ∧ arr = #[.none]
  nokw : fd.kwdefaults = .none

/-- what the head's heap says of the law's module -/
structure AllK (K : Frag) : Prop where
  kb : KOk K
  reN : nsIn K mainGlobals "_name_disallowed_re" = some (some (.ref 48))
  patN : PatK K 48 cName
  reV : nsIn K mainGlobals "_value_disallowed_re" = some (some (.ref 53))
  patV : PatK K 53 cVal
  re1 : nsIn K mainGlobals "_twin_re_1" = some (some (.ref 205))
  pat1 : PatK K 205 cDot
  re2 : nsIn K mainGlobals "_twin_re_2" = some (some (.ref 210))
  pat2 : PatK K 210 cEol
  crlf : ∃ t, nsIn K mainGlobals "CRLF" = some (some (.str crlf t))
  cls : nsIn K mainGlobals "Headers" = some (some (.ref 182))
  clsK : ClsK K 182
  clsS : ClsS K 182
  keep : keepIn K (.ref 182) = true
  makes : makesIn K 182 = true
  noHd : findIn K (.ref 182) "_headers" = some none
  int2ap : nsIn K mainGlobals "Int2AP" = some (some (.ref 193))
  int2apF : ∃ fd, FnK K 193 fd (stm 9)
  strip : nsIn K mainGlobals "_strip_padding" = some (some (.ref 200))
  stripF : ∃ fd, FnK K 200 fd (stm 11)
  quote : nsIn K mainGlobals "quotedata" = some (some (.ref 217))
  quoteF : ∃ fd, FnK K 217 fd (stm 16)
  cells : nsIn K mainGlobals "_law_cells" = some (some (.ref 224))
  cellsF : ∃ fd, FnK K 224 fd (stm 18)
  words : nsIn K mainGlobals "_law_words" = some (some (.ref 229))
  wordsF : ∃ fd, FnK K 229 fd (stm 19)
  held : nsIn K mainGlobals "_law_held" = some (some (.ref 234))
  heldF : ∃ fd, FnK K 234 fd (stm 20)
  gifts : nsIn K mainGlobals "_law_gifts" = some (some (.ref 239))
  giftsF : ∃ fd, FnK K 239 fd (stm 21)
  initF : ∃ f fd, findIn K (.ref 182) "__init__" = some (some (.ref f)) ∧ typeIn K (.ref f) = some (.type "function") ∧ FnD K f fd (mth 0)
  conv : ∃ f fd, findIn K (.ref 182) "_convert_string_type" = some (some (.ref f)) ∧ FnK K f fd (mth 1)
  getAll : ∃ f fd, findIn K (.ref 182) "get_all" = some (some (.ref f)) ∧ FnK K f fd (mth 7)
  values : ∃ f fd, findIn K (.ref 182) "values" = some (some (.ref f)) ∧ FnK K f fd (mth 10)
  addHeader : ∃ f fd, findIn K (.ref 182) "add_header" = some (some (.ref f)) ∧ FnK K f fd (mth 16)

/-- what a substitution makes -/
def SubR (code : Array Nat) (x rp y : Str) : Prop := ∃ out, SubT code x rp 0 out ∧ out.length ≤ sizeLine ∧ JoinOk ⟨x.cps.extract 0 0⟩ out = true ∧ y = (if out.isEmpty then ⟨x.cps.extract 0 0⟩ else Txt.join ⟨x.cps.extract 0 0⟩ out)

section
variable {G : Gl} {env : Env} {A : Around} {σ : St} {Φ : MV → St → Prop} {f : Addr} {fd : FuncData} {n : Nat}

theorem quotedata_ok (g : G.Ok) (k : AllK G.K) (room : Room A (n + 1)) (fk : FnK G.K f fd (stm 16)) {x y z : Str} (h1 : SubR cEol x crlf y) (h2 : SubR cDot y (mkS [46, 46]) z) (hx : x.length ≤ sizeLine) (hy : y.length ≤ sizeLine) (h : Φ (.str z) σ) : XCa G env A σ (.ref f) [.str x] [] Φ := by
  obtain ⟨name, qualname, params, body, scope, globals, closure, defaults, kwdefaults, doc, pm, ann, code, ct, blt⟩ := fd
  obtain ⟨fd_, hs, hp, hd, hk, -⟩ := fk
  dsimp only at hs hp hd hk
  subst hs hp hd hk
  refine XC_def g room fd_ (noCell (s := scopeOf (stm 16)) (by decide +kernel)) (XBd_pure [("data", .str x)] (fun h vs kv va vk => ?_) ⟨fmc (show lk 16 "data" = some .local by decide +kernel) fm0, fun L hroom => ?_⟩)
  · obtain ⟨v, _, rfl, hv, hr⟩ := va
    cases (hr : _ = _); cases (vk : _ = _)
    exact ⟨_, rfl, BA.cons hv BA.nil⟩
  have eo := callEnvOk fd_ L (f := f)
  generalize hG : A.deeper _ = A' at hroom ⊢
  generalize hE : callEnv _ L f = env' at eo ⊢
  have kd : ∀ x, env'.kindOf x = lk 16 x := fun x => by subst hE; rfl
  clear hG
  obtain ⟨o1, s1, z1, j1, rfl⟩ := h1
  obtain ⟨o2, s2, z2, j2, rfl⟩ := h2
  obtain ⟨tc, hc⟩ := k.crlf
  have dots : (".." : Str) = mkS [46, 46] := by decide +kernel
  conv in (bodyOf _) => whnf
  refine XSs_cons (XS_Return (XE_Meth (XE_global g eo k.re1 ⟨"re.Pattern", "re.Pattern.sub", MTy.pat g k.pat1, pattern_plain, slot_sub, type_sub, XA_cons (XE_str (XA_cons (XE_Meth (XE_global g eo k.re2 ⟨"re.Pattern", "re.Pattern.sub", MTy.pat g k.pat2, pattern_plain, slot_sub, type_sub,
    XA_cons (XE_globalS g eo hc (XA_cons (XE_local eo (show St.Has _ _ _ from rfl) (XA_nil (XC_sub g k.pat2 hx (by decide +kernel) s1 z1 j1 (XA_nil ?_))) (by rw [kd]; decide +kernel)) rfl) (by rw [kd]; decide +kernel)) rfl⟩ (by rw [kd]; decide +kernel)) rfl rfl rfl rfl) rfl)) rfl⟩ (by rw [kd]; decide +kernel)) rfl rfl rfl rfl))
  rw [dots]
  exact XC_sub g k.pat1 hy (by decide +kernel) s2 z2 j2 ⟨[], List.nil_sublist _, fm0, h⟩

theorem conv_str (g : G.Ok) (k : AllK G.K) (room : Room A (n + 1)) (fk : FnK G.K f fd (mth 1)) {self : MV} {l : List Nat} {b : Bool} (hl : ∀ c ∈ l, isLet c = true) (hsz : l.length ≤ 1000) (h : Φ (.str (mkS l)) σ) : XCa G env A σ (.ref f) [self, .str (mkS l)] [("name", .bool b)] Φ := by
  obtain ⟨name, qualname, params, body, scope, globals, closure, defaults, kwdefaults, doc, pm, ann, code, ct, blt⟩ := fd
  obtain ⟨fd_, hs, hp, hd, hk, -⟩ := fk
  dsimp only at hs hp hd hk
  subst hs hp hd hk
  refine XC_def g room fd_ (noCell (s := scopeOf (mth 1)) (by decide +kernel)) (XBd_pure [("self", self), ("value", .str (mkS l)), ("name", .bool b)] (fun h vs kv va vk => ?_)
    ⟨fmc (show lkS (mth 1) "self" = some .local by decide +kernel) (fmc (show lkS (mth 1) "value" = some .local by decide +kernel) (fmc (show lkS (mth 1) "name" = some .local by decide +kernel) fm0)), fun L hroom => ?_⟩)
  · obtain ⟨v, _, rfl, hv, u, _, rfl, hu, hr⟩ := va
    obtain ⟨w, _, rfl, hw, hk⟩ := vk
    cases (hr : _ = _); cases (hk : _ = _)
    exact ⟨_, rfl, BA.cons hv (BA.cons hu (BA.cons hw BA.nil))⟩
  have eo := callEnvOk fd_ L (f := f)
  generalize hG : A.deeper _ = A' at hroom ⊢
  generalize hE : callEnv _ L f = env' at eo ⊢
  have kd : ∀ x, env'.kindOf x = lkS (mth 1) x := fun x => by subst hE; rfl
  clear hG
  have kv : env'.kindOf "value" = some .local := by rw [kd]; decide +kernel
  have kn : env'.kindOf "name" = some .local := by rw [kd]; decide +kernel
  have kr : env'.kindOf "regex" = some .local := by rw [kd]; decide +kernel
  have hsz' : (mkS l).cps.size < 2 ^ 62 := by have : (mkS l).cps.size = l.length := by simp [mkS]
                                              omega
  have hget : ∀ p, p < (mkS l).cps.size → isLet ((mkS l).cps.getD p 0) = true := fun p hp => by
    have hp' : p < l.length := by simpa [mkS] using hp
    have : (mkS l).cps.getD p 0 = l[p] := by simp [mkS, hp']
    rw [this]; exact hl _ (List.getElem_mem hp')
  conv in (bodyOf _) => whnf
  refine XSs_cons (XS_If (XB_Compare (XE_B g k.kb eo mem_type (fun _ e => nomatch e) (XA_cons (XE_local eo (v := .str (mkS l)) rfl (XA_nil (XC_type MTy.str rfl (XE_b g k.kb eo mem_str (XV_isRaw rfl (XV_truthB ⟨fun _ => ?_, fun hb => by simp at hb⟩)) (by rw [kd]; decide +kernel)))) kv) rfl) (by rw [kd]; decide +kernel) rfl) rfl))
  have fin : ∀ {a : Addr} {code : Array Nat}, PatK G.K a code → Ends 1 (PySem.Sre.forSearch code (mkS l).cps 0 0 (mkS l).cps.size false) (fun m' => m'.outcome = some .failed) → ∀ {st : List Stmt} {Ψ : MF → St → Prop} {σ₁ : St}, σ₁.Has "regex" (.ref a) → σ₁.Has "value" (.str (mkS l)) → σ₁.hp = frzAll σ.hp →
      Ψ .next σ₁ → ∀ {p1 p2 p3 p4 p5 : Pos}, (p2.endLine == p4.line) = true → XS G env' A' σ₁ (.If (.Call (.Attribute (.Name "regex" p1) "search" p2) [.Name "value" p3] [] p4) st [] p5) Ψ := fun pk he _ _ _ h1 h2 _ hΨ _ _ _ _ _ hline =>
    XS_If (XB_plain (XE_Meth (XE_local eo h1 ⟨"re.Pattern", "re.Pattern.search", MTy.pat g pk, pattern_plain, slot_search, type_search, XA_cons (XE_local eo h2 (XA_nil (XC_search g pk hsz' he (XV_truthN ⟨fun q => (nomatch q), fun _ => XSs_nil hΨ⟩))) kv) rfl⟩ kr) rfl rfl rfl hline) (fun _ => rfl))
  cases b
  · refine XSs_cons (XS_Assign (XE_IfExp (XB_plain (XE_local eo (v := .bool false) rfl (XV_truthB ⟨fun q => (nomatch q), fun _ => XE_global g eo k.reV (XU_store_local ?_ kr eo) (by rw [kd]; decide +kernel)⟩) kn) (fun _ => rfl))) rfl)
    refine XSs_cons (fin k.patV (search_none cVal_first fun p _ hp => cVal_out (hget p hp)) put_same (put_keep rfl) rfl ?_ rfl)
    exact XSs_cons (XS_Return (XE_local eo (put_keep rfl) ⟨[], List.nil_sublist _, fm0, h⟩ kv))
  · refine XSs_cons (XS_Assign (XE_IfExp (XB_plain (XE_local eo (v := .bool true) rfl (XV_truthB ⟨fun _ => XE_global g eo k.reN (XU_store_local ?_ kr eo) (by rw [kd]; decide +kernel), fun q => (nomatch q)⟩) kn) (fun _ => rfl))) rfl)
    refine XSs_cons (fin k.patN (search_none cName_first fun p _ hp => cName_out (hget p hp)) put_same (put_keep rfl) rfl ?_ rfl)
    exact XSs_cons (XS_Return (XE_local eo (put_keep rfl) ⟨[], List.nil_sublist _, fm0, h⟩ kv))
end
end Mine
end PartC3

section PartC4
open PySem PySem.Calls PySem.W PyProof.Rows PySem.Spec
set_option maxRecDepth 100000
set_option linter.unusedVariables false
namespace Mine

theorem mem_frz {a : Addr} {b : Bool} {o : MO} {l : List Ent} (h : ⟨a, b, o⟩ ∈ l) : ⟨a, false, o⟩ ∈ frzAll l := List.mem_map.mpr ⟨_, h, rfl⟩
theorem IsH.frz {σ : St} {C x l : Addr} (h : IsH σ C x l) {loc : List (Str × MV)} {b : Bool} : IsH ⟨loc, frzAll σ.hp, b⟩ C x l := by
  obtain ⟨b1, b2, d, m1, m2⟩ := h.d
  exact ⟨_, _, d, mem_frz m1, mem_frz m2⟩
/-- a row of the table -/
def rowV (r : List Nat × List Nat) : MV := .tup [.str (mkS r.1), .str (mkS r.2)]
def fVal : MV → List MV
  | .tup [_, v] => [v]
  | _ => []
def fGet (nm : Str) : MV → List MV
  | .tup [.str a, .str b] => if Txt.lower a == nm then [.str b] else []
  | _ => []

section
variable {G : Gl} {env : Env} {A : Around} {σ : St} {Φ : MV → St → Prop} {f : Addr} {fd : FuncData} {n : Nat}

theorem values_ok (g : G.Ok) (k : AllK G.K) (room : Room A (n + 1)) (fk : FnK G.K f fd (mth 10)) {x l : Addr} {b : Bool} {rows : List (List Nat × List Nat)} (hh : A.handled = none) (ih : IsH σ 182 x l) (hm : ⟨l, b, .list (rows.map rowV)⟩ ∈ σ.hp) (hsz : rows.length ≤ sizeLine)
    (h : ∀ D, Φ (.ref D) { σ with hp := ⟨D, true, .list (rows.map fun r => .str (mkS r.2))⟩ :: σ.hp }) : XCa G env A σ (.ref f) [.ref x] [] Φ := by
  obtain ⟨name, qualname, params, body, scope, globals, closure, defaults, kwdefaults, doc, pm, ann, code, ct, blt⟩ := fd
  obtain ⟨fd_, hs, hp, hd, hk, -⟩ := fk
  dsimp only at hs hp hd hk
  subst hs hp hd hk
  refine XC_def g room fd_ (noCell (s := scopeOf (mth 10)) (by decide +kernel)) (XBd_pure [("self", .ref x)] (fun h vs kv va vk => ?_) ⟨fmc (show lkS (mth 10) "self" = some .local by decide +kernel) fm0, fun L hroom => ?_⟩)
  · obtain ⟨v, _, rfl, hv, hr⟩ := va
    cases (hr : _ = _); cases (vk : _ = _)
    exact ⟨_, rfl, BA.cons hv BA.nil⟩
  have eo := callEnvOk fd_ L (f := f)
  generalize hG : A.deeper _ = A' at hroom ⊢
  clear hG
  have hmf : ⟨l, false, .list (rows.map rowV)⟩ ∈ frzAll σ.hp := mem_frz hm
  have hF : (rows.map rowV).flatMap fVal = rows.map fun r => .str (mkS r.2) := by
    clear hm hmf hsz h
    induction rows with
    | nil => rfl
    | cons r rs ih => rw [List.map_cons, List.flatMap_cons, ih]; rfl
  conv in (bodyOf _) => whnf
  refine XSs_cons (XS_Return (XE_Comp hroom.hh fVal (cl := []) (fl := []) ⟨rfl, noCell (by decide +kernel), rfl, by decide +kernel, fun _ => rfl⟩ (XSrc_of (XE_Attr g k.clsK k.noHd (XE_local eo (v := .ref x) rfl ⟨x, l, rfl, ih.frz, _, _, XIter_list hroom.hh hmf, ?_, InvOf.list hmf, FlOk.nil, ?_, ?_⟩ (show lkS (mth 10) "self" = some .local by decide +kernel))))))
  · simpa using hsz
  · intro i m hi C
    rw [List.getElem?_map] at hi
    obtain ⟨r, _, rfl⟩ := Option.map_eq_some_iff.mp hi
    refine XAss_Tuple hroom.hh (XAs_cons (XAss_Name (XU_store_local (XAs_cons (XAss_Name (XU_store_local (XAs_nil (XIfs_nil ⟨fun _ => XE_local (compEnvOk eo rfl) put_same rfl (by kernel_rfl), fun q => (nomatch q)⟩)) (by kernel_rfl) (compEnvOk eo rfl))) rfl) (by kernel_rfl) (compEnvOk eo rfl))) rfl) rfl rfl
  · intro D
    rw [hF]
    exact ⟨[_], List.singleton_sublist.mpr List.mem_cons_self, fmc rfl fm0, h D⟩

theorem low_low {c : Nat} (h1 : 98 ≤ c) (h2 : c ≤ 102) : Txt.lower (mkS [c]) = mkS [c] := by
  have : ∀ c : Fin 5, Txt.lower (mkS [98 + c.val]) = mkS [98 + c.val] := by decide +kernel
  have := this ⟨c - 98, by omega⟩
  rwa [show 98 + (⟨c - 98, by omega⟩ : Fin 5).val = c by show 98 + (c - 98) = c; omega] at this
theorem low_up {c : Nat} (h1 : 66 ≤ c) (h2 : c ≤ 70) : Txt.lower (mkS [c]) = mkS [c + 32] := by
  have : ∀ c : Fin 5, Txt.lower (mkS [66 + c.val]) = mkS [66 + c.val + 32] := by decide +kernel
  have := this ⟨c - 66, by omega⟩
  rwa [show 66 + (⟨c - 66, by omega⟩ : Fin 5).val = c by show 66 + (c - 66) = c; omega] at this

theorem get_all_ok (g : G.Ok) (k : AllK G.K) (room : Room A (n + 2)) (fk : FnK G.K f fd (mth 7)) {x l : Addr} {b : Bool} {rows : List (List Nat × List Nat)} {c : Nat} (h1 : 98 ≤ c) (h2 : c ≤ 102) (ih : IsH σ 182 x l) (hm : ⟨l, b, .list (rows.map rowV)⟩ ∈ σ.hp) (hsz : rows.length ≤ sizeLine)
    (hr : ∀ r ∈ rows, ∃ d, r.1 = [d] ∧ 66 ≤ d ∧ d ≤ 70)
    (h : ∀ D, Φ (.ref D) { σ with hp := ⟨D, true, .list (((rows.filter fun r => r.1 == [c - 32]).map fun r => MV.str (mkS r.2)))⟩ :: σ.hp }) : XCa G env A σ (.ref f) [.ref x, .str (mkS [c])] [] Φ := by
  obtain ⟨name, qualname, params, body, scope, globals, closure, defaults, kwdefaults, doc, pm, ann, code, ct, blt⟩ := fd
  obtain ⟨fd_, hs, hp, hd, hk, -⟩ := fk
  dsimp only at hs hp hd hk
  subst hs hp hd hk
  obtain ⟨fc, fdc, hfc, fkc⟩ := k.conv
  obtain ⟨oc, od, osl, hKc⟩ := fkc.def_.look
  have hoc : oc = .type "function" := by have := fkc.fn; rw [hKc] at this; simpa using this
  refine XC_defC g room fd_ (XBd_pure [("self", .ref x), ("name", .str (mkS [c]))] (fun h vs kv va vk => ?_) ⟨fmc (.inl (show lkS (mth 7) "self" = some .local by decide +kernel)) (fmc (.inr ⟨show lkS (mth 7) "name" = some .cell by decide +kernel, fun _ => by kernel_rfl⟩) fm0), fun L hroom => ?_⟩)
  · obtain ⟨v, _, rfl, hv, u, _, rfl, hu, hr⟩ := va
    cases (hr : _ = _); cases (vk : _ = _)
    exact ⟨_, rfl, BA.cons hv (BA.cons hu BA.nil)⟩
  have eo := cEnvOk fd_ L
  generalize hG : A.deeper _ = A' at hroom ⊢
  clear hG
  have hmf : ⟨l, false, .list (rows.map rowV)⟩ ∈ frzAll σ.hp := mem_frz hm
  have kself : lkS (mth 7) "self" = some .local := by decide +kernel
  have kname : lkS (mth 7) "name" = some .cell := by decide +kernel
  have hF : (rows.map rowV).flatMap (fGet (mkS [c])) = (rows.filter fun r => r.1 == [c - 32]).map fun r => MV.str (mkS r.2) := by
    clear hm hmf hsz h
    induction rows with
    | nil => rfl
    | cons r rs ih' =>
      obtain ⟨d, hd, d1, d2⟩ := hr r List.mem_cons_self
      rw [List.map_cons, List.flatMap_cons, ih' fun r hr' => hr r (List.mem_cons_of_mem _ hr'), List.filter_cons]
      have e : fGet (mkS [c]) (rowV r) = if r.1 == [c - 32] then [.str (mkS r.2)] else [] := by
        show (if Txt.lower (mkS r.1) == mkS [c] then _ else _) = _
        rw [hd, low_up d1 d2]
        have : (mkS [d + 32] == mkS [c]) = ([d] == [c - 32]) := by
          by_cases hdc : d + 32 = c
          · subst hdc; simp
          · rw [beq_false_of_ne (by rw [Ne, mkS_inj]; simpa using hdc), beq_false_of_ne (by simp; omega)]
        rw [this]
      rw [e]
      split <;> simp
  conv in (bodyOf _) => whnf
  refine XSs_cons (XS_Assign (XE_MethHkw g k.clsK hfc hKc hoc (by decide +kernel) (XE_local eo (v := .ref x) rfl ⟨x, l, rfl, ih.frz, XE_Meth (XE_cell eo (v := .str (mkS [c])) rfl ⟨"str", "str.lower", MTy.str, PySem.F.plainAttrs_str, PySem.F.slot_str_lower, PySem.F.type_str_lower, XA_nil (XC_lower ?_ (XE_bool ?_))⟩ kname) rfl rfl rfl rfl⟩ kself) rfl rfl rfl) rfl)
  · rw [low_low h1 h2]; rfl
  rw [low_low h1 h2]
  refine XCk_of (conv_str g k hroom fkc (fun d hd => ?_) (by simp) (XU_store_cell ?_ kname (by kernel_rfl) rfl eo cEnv_inj))
  · have : d = c := by simpa using hd
    subst this
    unfold isLet; simp; omega
  refine XSs_cons (XS_Return (XE_Comp hroom.hh (fGet (mkS [c])) (cl := [("name", L + 1)]) (fl := [("name", .str (mkS [c]))]) ⟨by kernel_rfl, noCell (by decide +kernel), rfl, by decide +kernel, fun _ => rfl⟩
    (XSrc_of (XE_Attr g k.clsK k.noHd (XE_local eo (v := .ref x) (put_keep rfl) ⟨x, l, rfl, ih.frz, _, _, XIter_list hroom.hh hmf, ?_, InvOf.list hmf, FlOk.cons put_same (.inl kname) (.inl (by kernel_rfl)) (by kernel_rfl) FlOk.nil, ?_, ?_⟩ kself)))))
  · simpa using hsz
  · intro i m hi C
    rw [List.getElem?_map] at hi
    obtain ⟨r, hri, rfl⟩ := Option.map_eq_some_iff.mp hi
    refine XAss_Name (XU_store_local (XIfs_one (XB_Compare (XE_Meth (XE_Subscript (XE_local (compEnvOk eo rfl) put_same (XE_int (XV_item_tup (m := .str (mkS r.1)) (by decide) (by decide) rfl ⟨"str", "str.lower", MTy.str, PySem.F.plainAttrs_str, PySem.F.slot_str_lower, PySem.F.type_str_lower, XA_nil (XC_lower ?_ (XE_cell (compEnvOk eo rfl) (put_keep rfl) (XV_eqS (XV_truthB ⟨fun hb => ?_, fun hb => ?_⟩)) (by kernel_rfl)))⟩ (fun _ _ => rfl))) (by kernel_rfl))) rfl rfl rfl rfl) rfl)) (by kernel_rfl) (compEnvOk eo rfl))
    · obtain ⟨d, hd, d1, d2⟩ := hr r (List.mem_of_getElem? hri)
      rw [hd, low_up d1 d2]; rfl
    · refine XE_Subscript (XE_local (compEnvOk eo rfl) put_same (XE_int (XV_item_tup (m := .str (mkS r.2)) (by decide) (by decide) rfl ?_ (fun _ _ => rfl))) (by kernel_rfl))
      show (if Txt.lower (mkS r.1) == mkS [c] then [MV.str (mkS r.2)] else []) = _
      rw [if_pos hb]
    · show (if Txt.lower (mkS r.1) == mkS [c] then [MV.str (mkS r.2)] else []) = _
      rw [if_neg (by rw [hb]; simp)]
  · intro D
    rw [hF]
    exact ⟨[_], List.singleton_sublist.mpr List.mem_cons_self, fmc rfl fm0, h D⟩
end
end Mine
end PartC4

section PartC5
open PySem PySem.Calls PySem.W PyProof.Rows PySem.Spec
set_option maxRecDepth 100000
set_option linter.unusedVariables false
namespace Mine

theorem mem_set_other {l : List Ent} {i : Nat} {e e' x : Ent} (hi : l[i]? = some e) (hx : x ∈ l) (hne : x ≠ e) : x ∈ l.set i e' := by
  obtain ⟨k, hk, he⟩ := List.mem_iff_getElem.mp hx
  have hki : k ≠ i := by
    rintro rfl
    rw [List.getElem?_eq_getElem hk, he] at hi
    exact hne (Option.some.inj hi)
  refine List.mem_iff_getElem.mpr ⟨k, by simpa using hk, ?_⟩
  rw [List.getElem_set_ne (Ne.symm hki)]; exact he
theorem mem_set_at {l : List Ent} {i : Nat} {e e' : Ent} (hi : l[i]? = some e) : e' ∈ l.set i e' := by
  have h := (List.getElem?_eq_some_iff.mp hi).1
  exact List.mem_iff_getElem.mpr ⟨i, by simpa using h, by simp⟩
theorem set_get {l : List Ent} {i : Nat} {e e' : Ent} (hi : l[i]? = some e) : (l.set i e')[i]? = some e' := by
  have h := (List.getElem?_eq_some_iff.mp hi).1
  simp [h]
theorem frz_get {l : List Ent} {i : Nat} {e : Ent} (hi : l[i]? = some e) : (frzAll l)[i]? = some e.frz := by
  unfold frzAll; rw [List.getElem?_map, hi]; rfl
theorem join_one {x y : Str} : Txt.join x [y] = y := by
  obtain ⟨c⟩ := y
  rfl

section
variable {G : Gl} {env : Env} {A : Around} {σ : St} {Φ : MV → St → Prop} {f : Addr} {fd : FuncData} {n : Nat}

theorem add_header_ok (g : G.Ok) (k : AllK G.K) (room : Room A (n + 2)) (fk : FnK G.K f fd (mth 16)) {x l : Addr} {j : Nat} {rows : List (List Nat × List Nat)} {c : Nat} {w : List Nat} (hc : isLet c = true) (hw : ∀ d ∈ w, isLet d = true) (hwl : w.length ≤ 1000)
    (ih : IsH σ 182 x l) (hj : σ.hp[j]? = some ⟨l, true, .list (rows.map rowV)⟩) (hsz : rows.length ≤ sizeLine)
    (h : Φ .none { σ with hp := σ.hp.set j ⟨l, true, .list ((rows ++ [([c], w)]).map rowV)⟩ }) : XCa G env A σ (.ref f) [.ref x, .str (mkS [c]), .str (mkS w)] [] Φ := by
  obtain ⟨name, qualname, params, body, scope, globals, closure, defaults, kwdefaults, doc, pm, ann, code, ct, blt⟩ := fd
  obtain ⟨fd_, hs, hp, hd, hk, -⟩ := fk
  dsimp only at hs hp hd hk
  subst hs hp hd hk
  obtain ⟨fc, fdc, hfc, fkc⟩ := k.conv
  obtain ⟨oc, od, osl, hKc⟩ := fkc.def_.look
  have hoc : oc = .type "function" := by have := fkc.fn; rw [hKc] at this; simpa using this
  refine XC_defM g room fd_ (noCell (s := scopeOf (mth 16)) (by decide +kernel)) (XBd_kwargs g [("self", .ref x), ("_name", .str (mkS [c])), ("_value", .str (mkS w))] "_params" (fun h vs va => ?_) fun d hds =>
    ⟨fmc (show lkS (mth 16) "self" = some .local by decide +kernel) (fmc (show lkS (mth 16) "_name" = some .local by decide +kernel) (fmc (show lkS (mth 16) "_value" = some .local by decide +kernel) (fmc (show lkS (mth 16) "_params" = some .local by decide +kernel) fm0))), j + 1, l, _, by simpa using hj, fun L hroom => ?_⟩)
  · obtain ⟨v, _, rfl, hv, u, _, rfl, hu, w, _, rfl, hw, hr⟩ := va
    cases (hr : _ = _)
    exact ⟨_, rfl, BA.cons hv (BA.cons hu (BA.cons hw BA.nil))⟩
  have eo := callEnvOk fd_ L (f := f)
  generalize hG : A.deeper _ = A' at hroom ⊢
  clear hG
  generalize hE : callEnv _ L f = env' at eo ⊢
  have kd : ∀ x, env'.kindOf x = lkS (mth 16) x := fun x => by subst hE; rfl
  have hfj : (frzAll (⟨d, true, .dict0⟩ :: σ.hp))[j + 1]? = some ⟨l, false, .list (rows.map rowV)⟩ := by
    have := frz_get (l := ⟨d, true, .dict0⟩ :: σ.hp) (i := j + 1) (e := ⟨l, true, .list (rows.map rowV)⟩) (by simpa using hj)
    simpa [Ent.frz] using this
  generalize hH : (frzAll (⟨d, true, .dict0⟩ :: σ.hp)).set (j + 1) ⟨l, true, .list (rows.map rowV)⟩ = H
  have ihH : ∀ loc b pre, IsH ⟨loc, pre ++ H, b⟩ 182 x l := fun loc b pre => by
    obtain ⟨b1, b2, dd, m1, m2⟩ := ih.d
    refine ⟨false, false, dd, List.mem_append_right _ ?_, List.mem_append_right _ ?_⟩
    · rw [← hH]; exact mem_set_other hfj (mem_frz (List.mem_cons_of_mem _ m1)) (by simp)
    · rw [← hH]; exact mem_set_other hfj (mem_frz (List.mem_cons_of_mem _ m2)) (by simp)
  have hdH : ⟨d, false, .dict0⟩ ∈ H := by rw [← hH]; exact mem_set_other hfj (mem_frz (.head _)) (by simp)
  have hlH : H[j + 1]? = some ⟨l, true, .list (rows.map rowV)⟩ := by rw [← hH]; exact set_get hfj
  have ks : env'.kindOf "self" = some .local := by rw [kd]; decide +kernel
  have kn : env'.kindOf "_name" = some .local := by rw [kd]; decide +kernel
  have kv : env'.kindOf "_value" = some .local := by rw [kd]; decide +kernel
  have kp : env'.kindOf "_params" = some .local := by rw [kd]; decide +kernel
  have kt : env'.kindOf "parts" = some .local := by rw [kd]; decide +kernel
  have hc1 : ∀ d ∈ [c], isLet d = true := fmc hc fm0
  conv in (bodyOf _) => whnf
  refine XSs_cons (XS_Assign (XE_List (XA_nil ⟨Nat.zero_le _, fun P => XU_store_local ?_ kt eo⟩)) rfl)
  refine XSs_cons (XS_If (XB_Compare (XE_local eo (v := .str (mkS w)) (put_keep rfl) (XE_none (XV_isnotNone (XV_truthB ⟨fun _ => ?_, fun q => (nomatch q)⟩) (fun _ q => nomatch q))) kv) rfl))
  refine XSs_cons (XS_Assign (XE_MethHkw g k.clsK hfc hKc hoc (by decide +kernel) (XE_local eo (v := .ref x) (put_keep rfl) ⟨x, l, rfl, ihH _ _ [_], XE_local eo (v := .str (mkS w)) (put_keep rfl) (XE_bool (XCk_of (conv_str g k hroom fkc hw hwl (XU_store_local ?_ kv eo)))) kv⟩ ks) rfl rfl rfl) rfl)
  refine XSs_cons (XS_Expr (XE_Meth (XE_local eo (v := .ref P) (put_keep put_same) ⟨"list", "list.append", MTy.list (.head _), PySem.F.plainAttrs_list, PySem.F.slot_list_append, PySem.F.type_list_append, XA_cons (XE_local eo put_same (XA_nil (XC_append (i := 0) rfl (Nat.zero_le _) (XSs_nil ?_))) kv) rfl⟩ kt) rfl rfl rfl rfl) (by subst hE; rfl) rfl)
  refine XSs_cons (XS_For (XSrc_items0 hroom.hh (XE_local eo (v := .ref d) (put_keep (put_keep rfl)) ⟨rfl, d, false, rfl, .tail _ hdH, hds, fun i σ' => i = 0 ∧ σ' = _, ⟨rfl, rfl⟩, fun i σ' h => ?_, fun i m σ' hm => by simp at hm, fun σ' h => ?_⟩ kp) rfl rfl) (fun _ => rfl))
  · obtain ⟨_, rfl⟩ := h
    exact InvOf.dict0 (.tail _ hdH)
  obtain ⟨_, rfl⟩ := h
  refine XSs_cons (XS_Expr (XE_Meth (XE_Attr g k.clsK k.noHd (XE_local eo (v := .ref x) (put_keep (put_keep rfl)) ⟨x, l, rfl, ihH _ _ [_], "list", "list.append", MTy.list (.tail _ (List.mem_of_getElem? hlH)), PySem.F.plainAttrs_list, PySem.F.slot_list_append, PySem.F.type_list_append,
    XA_cons (XE_Tuple (XA_cons (XE_MethHkw g k.clsK hfc hKc hoc (by decide +kernel) (XE_local eo (v := .ref x) (put_keep (put_keep rfl)) ⟨x, l, rfl, ihH _ _ [_], XE_local eo (v := .str (mkS [c])) (put_keep (put_keep rfl)) (XE_bool (XCk_of (conv_str g k hroom fkc hc1 (by simp) ?_))) kn⟩ ks) rfl rfl rfl) rfl)) rfl⟩ ks)) rfl rfl rfl rfl) (by subst hE; rfl) rfl)
  refine XA_cons (XE_Meth (XE_str ⟨"str", "str.join", MTy.str, PySem.F.plainAttrs_str, PySem.F.slot_str_join, PySem.F.type_str_join, XA_cons (XE_local eo (v := .ref P) (put_keep put_same) (XA_nil (XC_join (xs := [mkS w]) (.head _) ?_ (XA_nil ⟨(by decide : 2 ≤ sizeLine), XA_nil (XC_append (i := j + 2) hlH (by simpa using hsz) (XSs_nil ?_))⟩))) kt) rfl⟩) rfl rfl rfl rfl) rfl
  · have : (mkS w).length = w.length := mkS_len
    show (!Builtin.Str.tooLong (0 + (mkS w).length + _)) = true
    rw [this]
    have e : ("; " : Str).length = 2 := by decide +kernel
    rw [e]
    unfold Builtin.Str.tooLong
    simp
    exact Nat.le_trans (show w.length + 2 ≤ 1002 by omega) (by decide : 1002 ≤ sizeLine)
  · refine ⟨_, .tail _ (mem_set_at (e' := ⟨l, true, _⟩) hlH), { σ with hp := σ.hp.set j ⟨l, true, .list ((rows ++ [([c], w)]).map rowV)⟩ }, ⟨LocLe.refl _, ?_, id⟩, h⟩
    rw [join_one]
    show List.Sublist _ (⟨d, true, .dict0⟩ :: σ.hp.set j _)
    rw [List.map_append]
    exact List.sublist_cons_self _ _
end
end Mine
end PartC5

section PartC6
open PySem PySem.Calls PySem.W PyProof.Rows PySem.Spec
set_option maxRecDepth 100000
set_option linter.unusedVariables false
namespace Mine

section
variable {G : Gl} {env : Env} {A : Around} {σ : St} {Φ : MV → St → Prop} {f : Addr} {fd : FuncData} {n : Nat}

theorem headers_new (g : G.Ok) (k : AllK G.K) (room : Room A (n + 3)) (hΦ : ∀ x d l, Φ (.ref x) { σ with hp := [⟨l, true, .list []⟩, ⟨x, true, .inst 182 d⟩, ⟨d, true, .attrs l⟩] ++ σ.hp }) : XC G env A σ (.ref 182) [] Φ := by
  obtain ⟨f, fd, hi, hty, fk⟩ := k.initF
  obtain ⟨name, qualname, params, body, scope, globals, closure, defaults, kwdefaults, doc, pm, ann, code, ct, blt⟩ := fd
  obtain ⟨fd_, hs, hp, hd, hk⟩ := fk
  dsimp only at hs hp hd hk
  obtain ⟨da, od, arr, nn, hda, hod, hdat, harr⟩ := hd
  subst hs hp hda hk harr
  refine XC_make g room (bnd := fun x => [("self", .ref x), ("headers", .none)]) k.makes hi hty fd_ (noCell (s := scopeOf (mth 0)) (by decide +kernel)) (fun x => fmc (show lkS (mth 0) "self" = some .local by decide +kernel) (fmc (show lkS (mth 0) "headers" = some .local by decide +kernel) fm0)) ?_ fun x d L hds A₀ hroom => ?_
  · intro A h s Q E x old q
    show wpAny _ A (seqItems? (.ref da) >>= _) Q E s
    refine wpAny_bind (wpAny_seqItems (old _ _ (g.X _ _ hod)) hdat ?_)
    exact wpAny_pure (q _ (BA.cons (m := .ref x) rfl (BA.cons (m := .none) rfl BA.nil)))
  have eo := callEnvOk fd_ L (f := f)
  generalize hG : A₀.deeper _ = A' at hroom ⊢
  clear hG
  generalize hE : callEnv _ L f = env' at eo ⊢
  have kd : ∀ x, env'.kindOf x = lkS (mth 0) x := fun x => by subst hE; rfl
  have ks : env'.kindOf "self" = some .local := by rw [kd]; decide +kernel
  have kh : env'.kindOf "headers" = some .local := by rw [kd]; decide +kernel
  conv in (bodyOf _) => whnf
  refine XSs_cons (XS_Assign (XE_IfExp (XB_Compare (XE_local eo (v := .none) rfl (XE_none (XV_isnotNone (XV_truthB ⟨fun q => (nomatch q), fun _ => XE_List (XA_nil ⟨Nat.zero_le _, fun l => XU_store_local ?_ kh eo⟩)⟩) (fun _ q => nomatch q))) kh) rfl)) rfl)
  refine XSs_cons (XS_If (XB_Compare (XE_B g k.kb eo mem_type (fun _ e => nomatch e) (XA_cons (XE_local eo (v := .ref l) put_same (XA_nil (XC_type (MTy.list (.head _)) rfl (XE_b g k.kb eo mem_list (XV_isnotRaw rfl (XV_truthB ⟨fun hb => by simp at hb, fun _ => XSs_nil ?_⟩)) (by rw [kd]; decide +kernel)))) kh) rfl) (by rw [kd]; decide +kernel) rfl) rfl))
  refine XSs_cons (XS_AssignAttr g k.clsS (XE_local eo (v := .ref l) put_same (XE_local eo (v := .ref x) (put_keep rfl) ⟨l, x, true, d, 2, rfl, rfl, .tail _ (.head _), rfl, ?_⟩ ks) kh) rfl)
  refine XSs_cons (XS_If (XB_plain (XE_bool (XV_truthB ⟨fun _ => ?_, fun q => (nomatch q)⟩)) (fun _ => rfl)))
  refine XSs_cons (XS_For (XSrc_of (XE_local eo (v := .ref l) put_same ⟨[], _, XIter_list hroom.hh (.head _), fun i σ' => i = 0 ∧ σ' = _, ⟨rfl, rfl⟩, fun i σ' h => ?_, fun i m σ' hm => by simp at hm, fun σ' h => ?_⟩ kh)) (fun _ => rfl))
  · obtain ⟨_, rfl⟩ := h
    exact InvOf.list (.head _)
  obtain ⟨_, rfl⟩ := h
  refine XSs_nil (XSs_nil ⟨rfl, [⟨l, true, .list []⟩, ⟨x, true, .inst 182 d⟩, ⟨d, true, .attrs l⟩], ?_, fmc rfl (fmc rfl (fmc rfl fm0)), ?_⟩)
  · exact List.sublist_append_left _ _
  · exact hΦ x d l
end
end Mine
end PartC6

section PartC7
open PySem PySem.Calls PySem.W PyProof.Rows PySem.Spec
set_option maxRecDepth 100000
set_option linter.unusedVariables false
namespace Mine

theorem XV1.le {G : Gl} {env : Env} {A : Around} {σ σ' : St} {α β : Type} {R : Heap → β → α → Prop} {a : MV} {t : Value → Sem α} {Φ : β → St → Prop} (h : XV1 G env A R σ' a t Φ) (l : Le σ' σ) : XV1 G env A R σ a t Φ :=
  .mk fun fz z s Q E v x r q => h.run fz z s Q E v x (r.le l) q
theorem InvOf.le {G : Gl} {env : Env} {σ σ' : St} {Inv : Heap → Prop} (h : InvOf G env σ' Inv) (l : Le σ' σ) : InvOf G env σ Inv := fun fz z s r => h fz z s (r.le l)

/-- a call of a def of the module -/
theorem XE_F {G : Gl} {env : Env} {A : Around} {σ : St} {id : Str} {p pos : Pos} {args : List Expr} {Φ : MV → St → Prop} {f : Addr} {st : Stmt} (g : G.Ok) (e : EnvOk env) (hv : nsIn G.K mainGlobals id = some (some (.ref f))) (hf : ∃ fd, FnK G.K f fd st)
    (hx : env.kindOf id = some .globalImplicit) (hd : (id == ("__debug__" : Str)) = false) (h : XA G env A pos σ args fun ms σ₂ => XC G env A σ₂ (.ref f) ms Φ) (hp : (backTo pos (starEach args env)).any (·.1) = false) : XE G env A σ (.Call (.Name id p) args [] pos) Φ := by
  obtain ⟨fd, fk⟩ := hf
  obtain ⟨oc, od, osl, hK⟩ := fk.def_.look
  exact XE_CallFn g (XE_global g e hv ⟨f, oc, od, fd, osl, rfl, hK, h⟩ hx hd) hp

theorem fmod_nat (a b : Nat) : (a : Int).fmod (b : Int) = ((a % b : Nat) : Int) := by rw [Int.fmod_eq_emod_of_nonneg _ (by omega)]; rfl
theorem fdiv_nat (a b : Nat) : (a : Int).fdiv (b : Int) = ((a / b : Nat) : Int) := by rw [Int.fdiv_eq_ediv_of_nonneg _ (by omega)]; rfl
theorem rng_get {n i : Nat} {m : MV} (h : (rng 0 n)[i]? = some m) : i < n ∧ m = .int (i : Nat) := by
  unfold rng at h
  rw [List.getElem?_map] at h
  obtain ⟨j, hj, rfl⟩ := Option.map_eq_some_iff.mp h
  obtain ⟨hl, e⟩ := List.getElem?_eq_some_iff.mp hj
  rw [List.getElem_range] at e
  subst e
  exact ⟨by simpa using hl, by rw [Nat.zero_add]⟩

def intM (n : Nat) : MV := .int (n : Int)

section
variable {G : Gl} {env : Env} {A : Around} {σ : St} {Φ : MV → St → Prop} {f : Addr} {fd : FuncData} {n : Nat}

theorem cells_ok (g : G.Ok) (k : AllK G.K) (room : Room A (n + 1)) (fk : FnK G.K f fd (stm 18)) {s : Addr} {b : Bool} {ns : List Int} (hm : ⟨s, b, .list (ns.map .int)⟩ ∈ σ.hp) (hsz : ns.length ≤ 63)
    (h : ∀ D (c : List Nat), c.length = 4 → (∀ x ∈ c, x ≤ 13 + 999 * 8) → Φ (.ref D) { σ with hp := ⟨D, true, .list (c.map intM)⟩ :: σ.hp }) : XCa G env A σ (.ref f) [.ref s] [] Φ := by
  obtain ⟨name, qualname, params, body, scope, globals, closure, defaults, kwdefaults, doc, pm, ann, code, ct, blt⟩ := fd
  obtain ⟨fd_, hs, hp, hd, hk, -⟩ := fk
  dsimp only at hs hp hd hk
  subst hs hp hd hk
  refine XC_def g room fd_ (noCell (s := scopeOf (stm 18)) (by decide +kernel)) (XBd_pure [("script", .ref s)] (fun h vs kv va vk => ?_) ⟨fmc (show lk 18 "script" = some .local by decide +kernel) fm0, fun L hroom => ?_⟩)
  · obtain ⟨v, _, rfl, hv, hr⟩ := va
    cases (hr : _ = _); cases (vk : _ = _)
    exact ⟨_, rfl, BA.cons hv BA.nil⟩
  have eo := callEnvOk fd_ L (f := f)
  generalize hG : A.deeper _ = A' at hroom ⊢
  clear hG
  generalize hE : callEnv _ L f = env' at eo ⊢
  have kd : ∀ x, env'.kindOf x = lk 18 x := fun x => by subst hE; rfl
  have ks : env'.kindOf "script" = some .local := by rw [kd]; decide +kernel
  have kc : env'.kindOf "cells" = some .local := by rw [kd]; decide +kernel
  have kp : env'.kindOf "place" = some .local := by rw [kd]; decide +kernel
  have hmf : ⟨s, false, .list (ns.map .int)⟩ ∈ frzAll σ.hp := mem_frz hm
  conv in (bodyOf _) => whnf
  refine XSs_cons (XS_Assign (XE_List (XA_cons (XE_int (XA_cons (XE_int (XA_cons (XE_int (XA_cons (XE_int (XA_nil ⟨(by decide : 4 ≤ sizeLine), fun D => XU_store_local ?_ kc eo⟩)) rfl)) rfl)) rfl)) rfl)) rfl)
  refine XSs_cons (XS_For (XSrc_range1 hroom.hh (XE_b g k.kb eo mem_range ⟨rfl, XE_B g k.kb eo mem_min (fun _ e => nomatch e) (XA_cons (XE_B g k.kb eo mem_len (fun _ e => nomatch e) (XA_cons (XE_local eo (v := .ref s) (put_keep rfl) (XA_nil (XC_len_list (.tail _ hmf) (by simp; omega) (XA_cons (XE_int (XA_nil (XC_min hroom.hh ⟨min ns.length 8, ?_, by omega, ?_⟩))) rfl))) ks) rfl) (by rw [kd]; decide +kernel) rfl) rfl) (by rw [kd]; decide +kernel) rfl⟩ (by rw [kd]; decide +kernel)) rfl) (fun _ => rfl))
  · simp; omega
  refine ⟨fun i σ' => ∃ c : List Nat, c.length = 4 ∧ (∀ x ∈ c, x ≤ 13 + 999 * i) ∧ Le ⟨[("cells", .ref D), ("script", .ref s)], ⟨D, true, .list (c.map intM)⟩ :: frzAll σ.hp, true⟩ σ', ⟨[3, 6, 13, 8], rfl, by simp, ⟨LocLe.cons put_same (LocLe.cons (put_keep rfl) (LocLe.nil _)), List.Sublist.refl _, id⟩⟩,
    fun i σ' _ => fun _ _ _ _ => trivial, fun i m σ' hi hJ => ?_, fun σ' hJ => ?_⟩
  · obtain ⟨c, hc4, hcb, hle⟩ := hJ
    obtain ⟨hi8, rfl⟩ := rng_get hi
    refine XV1.le ?_ hle
    have hin : i < ns.length := by omega
    refine XAss_Name (XU_store_local ?_ kp eo)
    have hci : i % 4 < c.length := by omega
    refine XSs_cons (XS_AugItem (XE_local eo (v := .ref D) (put_keep rfl) (XE_BinOp (XE_local eo put_same (XE_int (XV_mod (by decide) ⟨D, true, _, i % 4, intM c[i % 4], rfl, ?_, .head _, by omega, ?_, XE_BinOp (XE_Subscript (XE_local eo (v := .ref s) (put_keep rfl) (XE_local eo put_same (XV_item_list (m := .int ns[i]) (.tail _ hmf) (by omega) (by omega) ?_ (XE_int (XV_mod (by decide) (XV_iadd ⟨0, _, rfl, ?_, XSs_nil ⟨c.set (i % 4) (c[i % 4] + (ns[i].fmod 1000).toNat), ?_, ?_, ?_⟩⟩))) (fun _ => rfl)) kp) ks))⟩)) kp)) kc) (fun _ _ _ => rfl))
    · congr 1; exact fmod_nat i 4
    · simp [hci]
    · simp [hin]
    · simp; omega
    · simp [hc4]
    · have hb : 0 ≤ ns[i].fmod 1000 ∧ ns[i].fmod 1000 < 1000 := ⟨Int.fmod_nonneg_of_pos _ (by decide), Int.fmod_lt_of_pos _ (by decide)⟩
      intro x hx
      rcases List.mem_or_eq_of_mem_set hx with hx | rfl
      · have := hcb x hx; omega
      · have := hcb c[i % 4] (List.getElem_mem hci); omega
    · refine ⟨LocLe.cons (put_keep rfl) (LocLe.cons (put_keep rfl) (LocLe.nil _)), ?_, id⟩
      have hb : 0 ≤ ns[i].fmod 1000 := Int.fmod_nonneg_of_pos _ (by decide)
      have e : (c.set (i % 4) (c[i % 4] + (ns[i].fmod 1000).toNat)).map intM = (c.map intM).set (i % 4) (.int ((c[i % 4] : Int) + ns[i].fmod 1000)) := by
        rw [List.map_set]
        congr 1
        show MV.int _ = _
        congr 1
        omega
      rw [e]
      exact List.Sublist.refl _
  · obtain ⟨c, hc4, hcb, hle⟩ := hJ
    refine XT.le ?_ hle
    refine XSs_cons (XS_Return (XE_local eo (v := .ref D) rfl ⟨[_], List.singleton_sublist.mpr List.mem_cons_self, fmc rfl fm0, h D c hc4 (fun x hx => ?_)⟩ kc))
    have := hcb x hx
    simp [rng] at this
    omega
end
end Mine
end PartC7

section PartC8
open PySem PySem.Calls PySem.W PyProof.Rows PySem.Spec
set_option maxRecDepth 100000
set_option linter.unusedVariables false
namespace Mine

/-- the letters of a set -/
def wordL (f : Nat) : List Nat := ((List.range 5).filter fun k => f.testBit k).map (66 + ·)
def numTo (f i : Nat) : Nat := (List.range i).foldl (fun n k => if f.testBit k then 16 * n + k + 1 else n) 0
theorem numTo_succ (f i : Nat) : numTo f (i + 1) = if f.testBit i then 16 * numTo f i + i + 1 else numTo f i := by
  unfold numTo; rw [List.range_succ, List.foldl_append]; rfl
theorem num_word {f : Nat} (h : f < 32) : numTo f 5 < 16 ^ 6 ∧ (apL 6 (numTo f 5)).map (·.toNat) = wordL f := by
  have : ∀ f : Fin 32, numTo f.val 5 < 16 ^ 6 ∧ (apL 6 (numTo f.val 5)).map (·.toNat) = wordL f.val := by decide +kernel
  exact this ⟨f, h⟩
theorem wordL_len (f : Nat) : (wordL f).length ≤ 5 := by unfold wordL; rw [List.length_map]; exact Nat.le_trans (List.length_filter_le _ _) (by simp)
theorem bit_test {f k : Nat} (hf : f < 32) (hk : k < 5) : (Builtin.bitAnd ((f : Int).fdiv (2 ^ (k : Int).toNat)) 1 != 0) = f.testBit k := by
  have : ∀ f : Fin 32, ∀ k : Fin 5, (Builtin.bitAnd (((f.val : Nat) : Int).fdiv (2 ^ ((k.val : Nat) : Int).toNat)) 1 != 0) = f.val.testBit k.val := by decide +kernel
  exact this ⟨f, hf⟩ ⟨k, hk⟩
theorem numTo_lt (f i : Nat) (hi : i ≤ 5) (hf : f < 32) : numTo f i < 16 ^ 6 := by
  have : ∀ f : Fin 32, ∀ i : Fin 6, numTo f.val i.val < 16 ^ 6 := by decide +kernel
  exact this ⟨f, hf⟩ ⟨i, by omega⟩
def fChr : MV → List MV
  | .int i => [.str ⟨#[i.toNat]⟩]
  | _ => []
def strM (l : List Nat) : MV := .str (mkS l)
theorem foldl_glue (l : List Str) : ∀ acc : Array Nat, l.foldl (fun acc p => acc ++ (Str.ofString "").cps ++ p.cps) acc = acc ++ (l.flatMap fun s => s.cps.toList).toArray := by
  have e : (Str.ofString "").cps = #[] := by decide +kernel
  induction l with
  | nil => simp
  | cons a r ih =>
    intro acc
    rw [List.foldl_cons, ih, e]
    apply Array.ext'
    simp
theorem join_empty (l : List Str) : Txt.join (Str.ofString "") l = mkS (l.flatMap fun s => s.cps.toList) := by
  cases l with
  | nil => rfl
  | cons a r =>
    show Str.mk (r.foldl _ a.cps) = _
    rw [foldl_glue]
    show Str.mk _ = Str.mk _
    congr 1
    apply Array.ext'
    simp
theorem joinOk_empty (l : List Str) (h : (l.map (·.length)).sum ≤ 1000000) : JoinOk (Str.ofString "") l = true := by
  have e : (Str.ofString "").length = 0 := by decide +kernel
  unfold JoinOk Builtin.Str.tooLong
  have key : ∀ (l : List Str) acc, l.foldl (fun x y => x + y.length + (Str.ofString "").length) acc = acc + (l.map (·.length)).sum := by
    intro l
    induction l with
    | nil => intro acc; simp
    | cons a r ih => intro acc; rw [List.foldl_cons, ih, e, List.map_cons, List.sum_cons]; omega
  rw [← Array.foldl_toList]
  rw [key]
  simp
  exact Nat.le_trans h (by decide)
theorem chr_join (bs : List UInt8) : ((octs bs.toArray).flatMap fChr) = (bs.map fun c => (⟨#[c.toNat]⟩ : Str)).map .str := by
  unfold octs
  induction bs with
  | nil => rfl
  | cons a r ih => simp [fChr] at ih ⊢; exact ih

section
variable {G : Gl} {env : Env} {A : Around} {σ : St} {Φ : MV → St → Prop} {f : Addr} {fd : FuncData} {n : Nat}

theorem words_ok (g : G.Ok) (k : AllK G.K) (room : Room A (n + 3)) (fk : FnK G.K f fd (stm 19)) {s : Addr} {b : Bool} {fs : List Nat} (hm : ⟨s, b, .list (fs.map intM)⟩ ∈ σ.hp) (hsz : fs.length ≤ 32) (hfs : ∀ x ∈ fs, x < 32)
    (h : ∀ D, Φ (.ref D) { σ with hp := ⟨D, true, .list (fs.map fun x => strM (wordL x))⟩ :: σ.hp }) : XCa G env A σ (.ref f) [.ref s] [] Φ := by
  obtain ⟨name, qualname, params, body, scope, globals, closure, defaults, kwdefaults, doc, pm, ann, code, ct, blt⟩ := fd
  obtain ⟨fd_, hs, hp, hd, hk, -⟩ := fk
  dsimp only at hs hp hd hk
  subst hs hp hd hk
  refine XC_def g room fd_ (noCell (s := scopeOf (stm 19)) (by decide +kernel)) (XBd_pure [("faces", .ref s)] (fun h vs kv va vk => ?_) ⟨fmc (show lk 19 "faces" = some .local by decide +kernel) fm0, fun L hroom => ?_⟩)
  · obtain ⟨v, _, rfl, hv, hr⟩ := va
    cases (hr : _ = _); cases (vk : _ = _)
    exact ⟨_, rfl, BA.cons hv BA.nil⟩
  have eo := callEnvOk fd_ L (f := f)
  generalize hG : A.deeper _ = A' at hroom ⊢
  clear hG
  have kf : lk 19 "faces" = some .local := by decide +kernel
  have kw : lk 19 "words" = some .local := by decide +kernel
  have ka : lk 19 "face" = some .local := by decide +kernel
  have kn : lk 19 "number" = some .local := by decide +kernel
  have kk : lk 19 "k" = some .local := by decide +kernel
  have hmf : ⟨s, false, .list (fs.map intM)⟩ ∈ frzAll σ.hp := mem_frz hm
  conv in (bodyOf _) => whnf
  refine XSs_cons (XS_Assign (XE_List (XA_nil ⟨Nat.zero_le _, fun W => XU_store_local ?_ kw eo⟩)) rfl)
  refine XSs_cons (XS_For (XSrc_of (XE_local eo (v := .ref s) (put_keep rfl) ⟨_, _, XIter_list hroom.hh (.tail _ hmf), fun i σ' => Le ⟨[("words", .ref W), ("faces", .ref s)], ⟨W, true, .list ((fs.take i).map fun x => strM (wordL x))⟩ :: frzAll σ.hp, true⟩ σ', ⟨LocLe.cons put_same (LocLe.cons (put_keep rfl) (LocLe.nil _)), List.Sublist.refl _, id⟩,
    fun i σ' hle => (InvOf.list (.tail _ hmf)).le hle, fun i m σ' hi hle => ?_, fun σ' hle => ?_⟩ kf)) (fun _ => rfl))
  · rw [List.getElem?_map] at hi
    obtain ⟨x, hx, rfl⟩ := Option.map_eq_some_iff.mp hi
    have hx32 := hfs x (List.mem_of_getElem? hx)
    have hil : i < fs.length := (List.getElem?_eq_some_iff.mp hx).1
    refine XV1.le ?_ hle
    refine XAss_Name (XU_store_local ?_ ka eo)
    refine XSs_cons (XS_Assign (XE_int (XU_store_local ?_ kn eo)) rfl)
    refine XSs_cons (XS_For (XSrc_range1 hroom.hh (XE_b g k.kb eo mem_range ⟨rfl, XE_int ⟨5, rfl, by decide, fun j σ' => Le ⟨[("number", .int (numTo x j : Nat)), ("face", .int x), ("words", .ref W), ("faces", .ref s)], ⟨W, true, .list ((fs.take i).map fun x => strM (wordL x))⟩ :: frzAll σ.hp, true⟩ σ',
      ⟨LocLe.cons put_same (LocLe.cons (put_keep put_same) (LocLe.cons (put_keep (put_keep rfl)) (LocLe.cons (put_keep (put_keep rfl)) (LocLe.nil _)))), List.Sublist.refl _, id⟩, fun j σ' _ => fun _ _ _ _ => trivial, fun j m σ' hj hle => ?_, fun σ' hle => ?_⟩⟩ (by kernel_rfl)) rfl) (fun _ => rfl))
    · obtain ⟨hj5, rfl⟩ := rng_get hj
      refine XV1.le ?_ hle
      refine XAss_Name (XU_store_local ?_ kk eo)
      refine XSs_cons (XS_If (XB_plain (XE_BinOp (XE_BinOp (XE_local eo (v := .int x) (put_keep rfl) (XE_local eo put_same (XV_shr (by omega) (XE_int (XV_and (XV_truthI ⟨fun hb => ?_, fun hb => ?_⟩)))) kk) ka))) (fun _ => rfl)))
      · rw [bit_test hx32 hj5] at hb
        refine XSs_cons (XS_Assign (XE_BinOp (XE_BinOp (XE_BinOp (XE_int (XE_local eo (v := .int (numTo x j : Nat)) (put_keep rfl) (XV_mul (IntMulOk.of_left (by decide +kernel)) (XE_local eo put_same (XV_add (XE_int (XV_add (XU_store_local (XSs_nil (XSs_nil ⟨LocLe.cons ?_ (LocLe.cons (put_keep (put_keep rfl)) (LocLe.cons (put_keep (put_keep rfl)) (LocLe.cons (put_keep (put_keep rfl)) (LocLe.nil _)))), List.Sublist.refl _, id⟩)) kn eo)))) kk)) kn))))) rfl)
        rw [numTo_succ, if_pos hb]
        exact put_same
      · rw [bit_test hx32 hj5] at hb
        refine XSs_nil (XSs_nil ⟨LocLe.cons ?_ (LocLe.cons (put_keep rfl) (LocLe.cons (put_keep rfl) (LocLe.cons (put_keep rfl) (LocLe.nil _)))), List.Sublist.refl _, id⟩)
        rw [numTo_succ, if_neg (by rw [hb]; simp)]
        exact put_keep rfl
    · refine XT.le ?_ hle
      obtain ⟨fdI, fkI⟩ := k.int2apF
      obtain ⟨hlt, hword⟩ := num_word hx32
      have h5 : (rng 0 5).length = 5 := rfl
      rw [h5]
      refine XSs_cons (XS_Expr (XE_Meth (XE_local eo (v := .ref W) rfl ⟨"list", "list.append", MTy.list (.head _), PySem.F.plainAttrs_list, PySem.F.slot_list_append, PySem.F.type_list_append, XA_cons (XE_Meth (XE_str ⟨"str", "str.join", MTy.str, PySem.F.plainAttrs_str, PySem.F.slot_str_join, PySem.F.type_str_join,
        XA_cons (XE_Comp hroom.hh fChr (cl := []) (fl := []) ⟨rfl, noCell (by decide +kernel), rfl, by decide +kernel, fun _ => rfl⟩ (XSrc_of (XE_F g eo k.int2ap k.int2apF (by kernel_rfl) (by decide +kernel) (XA_cons (XE_IfExp (XB_plain (XE_BinOp (XE_local eo (v := .int x) rfl (XE_int (XV_mod (by decide) (XV_truthI ⟨fun _ => XE_UnaryOp (XE_local eo (v := .int (numTo x 5 : Nat)) rfl (XV_neg ?_) kn), fun _ => XE_local eo (v := .int (numTo x 5 : Nat)) rfl ?_ kn⟩))) ka)) (fun _ => rfl))) rfl) rfl))) rfl⟩) rfl rfl rfl rfl) rfl⟩ kw) rfl rfl rfl rfl) rfl rfl)
      all_goals
        refine XA_nil (XC_of (int2ap g k.kb hroom fkI (by omega) ⟨_, _, XIter_bytes hroom.hh, ?_, fun _ _ _ _ => trivial, FlOk.nil, ?_, fun D => ?_⟩))
        · have e := congrArg List.length hword
          have hw5 := wordL_len x
          simp [octs] at e ⊢
          rw [e]
          exact Nat.le_trans hw5 (by decide)
        · intro q m hq C
          unfold octs at hq
          rw [List.getElem?_map] at hq
          obtain ⟨c, hc, rfl⟩ := Option.map_eq_some_iff.mp hq
          have hc256 : c.toNat < 256 := c.toNat_lt
          exact XAss_Name (XU_store_local (XIfs_nil ⟨fun _ => XE_B g k.kb (compEnvOk eo rfl) mem_chr (fun _ e => nomatch e) (XA_cons (XE_local (compEnvOk eo rfl) put_same (XA_nil (XC_chr (by omega) (by omega) rfl)) (by kernel_rfl)) rfl) (by kernel_rfl) rfl, fun q => (nomatch q)⟩) (by kernel_rfl) (compEnvOk eo rfl))
        · simp only [Int.natAbs_neg, Int.natAbs_natCast]
          have hw5 := wordL_len x
          have hl : (apL 6 (numTo x 5)).map (fun c => (⟨#[c.toNat]⟩ : Str)) = (wordL x).map fun c => (⟨#[c]⟩ : Str) := by rw [← hword, List.map_map]; rfl
          have hj : Txt.join (Str.ofString "") ((wordL x).map fun c => (⟨#[c]⟩ : Str)) = mkS (wordL x) := by
            rw [join_empty]
            congr 1
            rw [List.flatMap_map]
            simp
          rw [chr_join, hl]
          refine XA_nil (XC_join (.head _) (joinOk_empty _ ?_) (XA_nil (XC_append (i := 1) rfl ?_ (XSs_nil ?_))))
          · rw [List.map_map]
            have : ((wordL x).map ((fun s : Str => s.length) ∘ fun c => (⟨#[c]⟩ : Str))).sum = (wordL x).length := by
              generalize wordL x = l
              induction l with
              | nil => rfl
              | cons a r ih => rw [List.map_cons, List.sum_cons, ih, List.length_cons]; show 1 + r.length = _; omega
            rw [this]; omega
          · rw [List.length_map, List.length_take]
            exact Nat.le_trans (show _ ≤ 32 by omega) (by decide)
          · rw [hj]
            refine ⟨LocLe.cons rfl (LocLe.cons rfl (LocLe.nil _)), ?_, id⟩
            have ht : (fs.take (i + 1)).map (fun x => strM (wordL x)) = (fs.take i).map (fun x => strM (wordL x)) ++ [strM (wordL x)] := by
              rw [List.take_add_one, hx, List.map_append]; rfl
            rw [ht]
            exact List.sublist_cons_self _ _
  · refine XT.le ?_ hle
    rw [List.length_map, List.take_length]
    exact XSs_cons (XS_Return (XE_local eo (v := .ref W) rfl ⟨[_], List.singleton_sublist.mpr List.mem_cons_self, fmc rfl fm0, h W⟩ kw))
end
end Mine
end PartC8

section PartC9a
open PySem PySem.Calls PySem.W PyProof.Rows PySem.Spec
set_option maxRecDepth 100000
set_option linter.unusedVariables false
namespace Mine

def gAhead (f c : Nat) : Nat := f * c % 5
def gBehind (f c : Nat) : Nat := (f + c / 5) % 4
def gAmount (f c : Nat) : Nat := (f / 3 + c / 20) % 6
/-- what a set gives -/
def giftI (f c : Nat) : Int := (gAhead f c : Int) - (min (gAmount f c) (gAhead f c) : Nat) - (gBehind f c : Nat) + (min (gAmount f c - min (gAmount f c) (gAhead f c)) (gBehind f c) : Nat)

theorem mul_sp {n : Nat} (h : n < 10) : Txt.mul (Str.ofString " ") (n : Int) = mkS (bl n) := by
  have : ∀ n : Fin 10, Txt.mul (Str.ofString " ") ((n.val : Nat) : Int) = mkS (bl n.val) := by decide +kernel
  exact this ⟨n, h⟩
theorem mulOk_sp {n : Nat} (h : n < 10) : MulOk (Str.ofString " ") (n : Int) := by
  have e : (Str.ofString " ").length = 1 := by decide +kernel
  refine ⟨by simp; omega, fun h1 h2 => ?_, fun h1 h2 => ?_⟩
  · rw [e]
    have : (1 : Int) ≤ (2 ^ 63 - 1) / (n : Int) := by
      rw [Int.le_ediv_iff_mul_le (by omega)]; omega
    omega
  · rw [e]
    unfold Builtin.Str.tooLong
    simp
    exact Nat.le_trans (show n ≤ 10 by omega) (by decide)
theorem wordL_ne {f : Nat} (h0 : 0 < f) (h : f < 32) : wordL f ≠ [] ∧ (wordL f)[0]? ≠ some 32 ∧ (wordL f)[(wordL f).length - 1]? ≠ some 32 := by
  have : ∀ f : Fin 32, 0 < f.val → wordL f.val ≠ [] ∧ (wordL f.val)[0]? ≠ some 32 ∧ (wordL f.val)[(wordL f.val).length - 1]? ≠ some 32 := by decide +kernel
  exact this ⟨f, h⟩ h0
theorem find_word {f a b : Nat} (h0 : 0 < f) (h : f < 32) (ha : a < 5) (hb : b < 4) : Txt.find (mkS (bl a ++ wordL f ++ bl b)) (mkS (wordL f)) = a := by
  obtain ⟨hne, hf, -⟩ := wordL_ne h0 h
  have hpos : 0 < (wordL f).length := List.length_pos_iff.mpr hne
  have hlen : (bl a).length = a := by simp [bl]
  have at_ : ∀ i, StrLaws.At (mkS (bl a ++ wordL f ++ bl b)) (mkS (wordL f)) (mkS (bl a ++ wordL f ++ bl b)).length i ↔ (i + (wordL f).length ≤ a + (wordL f).length + b ∧ ((bl a ++ wordL f ++ bl b).drop i).take (wordL f).length = wordL f) := fun i => by
    unfold StrLaws.At
    rw [StrLaws.subAt_eq, mkS_len, mkS_len, beq_iff_eq]
    simp [mkS, bl]
    omega
  have hit : StrLaws.At (mkS (bl a ++ wordL f ++ bl b)) (mkS (wordL f)) (mkS (bl a ++ wordL f ++ bl b)).length a := by
    rw [at_]
    refine ⟨by omega, ?_⟩
    rw [List.append_assoc, List.drop_append_of_le_length (by omega), List.drop_of_length_le (by omega), List.nil_append, List.take_left]
  have miss : ∀ i, i < a → ¬ StrLaws.At (mkS (bl a ++ wordL f ++ bl b)) (mkS (wordL f)) (mkS (bl a ++ wordL f ++ bl b)).length i := fun i hi q => by
    rw [at_] at q
    have e := congrArg (fun l => l[0]?) q.2
    rw [List.getElem?_take_of_lt hpos, List.getElem?_drop, Nat.add_zero, List.append_assoc, List.getElem?_append_left (by omega)] at e
    have : (bl a)[i]? = some 32 := by unfold bl; rw [List.getElem?_replicate]; simp [hi]
    rw [this] at e
    exact hf e.symm
  rcases find_whole (mkS (bl a ++ wordL f ++ bl b)) (mkS (wordL f)) with ⟨_, q⟩ | ⟨i, e, q, r⟩
  · exact absurd hit (q a)
  · rw [e]
    rcases Nat.lt_trichotomy i a with l | l | l
    · exact absurd q (miss i l)
    · rw [l]
    · exact absurd hit (r a l)
def fLet (f : Nat) : MV → List MV
  | .int k => if f.testBit k.toNat then [.str ⟨#[66 + k.toNat]⟩] else []
  | _ => []
theorem fLet_all (f : Nat) : (rng 0 5).flatMap (fLet f) = ((wordL f).map fun c => (⟨#[c]⟩ : Str)).map .str := by
  unfold rng wordL
  rw [List.flatMap_map]
  have : ∀ l : List Nat, l.flatMap (fun i => fLet f (.int ((0 + i : Nat) : Int))) = (((l.filter fun k => f.testBit k).map (66 + ·)).map fun c => (⟨#[c]⟩ : Str)).map MV.str := by
    intro l
    induction l with
    | nil => rfl
    | cons a r ih =>
      rw [List.flatMap_cons, ih, List.filter_cons]
      have e : fLet f (.int ((0 + a : Nat) : Int)) = if f.testBit a then [.str ⟨#[66 + a]⟩] else [] := by
        unfold fLet; simp
      rw [e]
      split <;> simp
  exact this _
theorem join_word (f : Nat) : Txt.join (Str.ofString "") ((wordL f).map fun c => (⟨#[c]⟩ : Str)) = mkS (wordL f) := by
  rw [join_empty]
  congr 1
  rw [List.flatMap_map]
  simp
theorem joinOk_word (f : Nat) : JoinOk (Str.ofString "") ((wordL f).map fun c => (⟨#[c]⟩ : Str)) = true := by
  refine joinOk_empty _ ?_
  have hw := wordL_len f
  rw [List.map_map]
  have : ∀ l : List Nat, (l.map ((fun s : Str => s.length) ∘ fun c => (⟨#[c]⟩ : Str))).sum = l.length := by
    intro l
    induction l with
    | nil => rfl
    | cons a r ih => rw [List.map_cons, List.sum_cons, ih, List.length_cons]; show 1 + r.length = _; omega
  rw [this]; omega
def bcdef : Str := Str.ofString "BCDEF"
theorem bcdef_at {k : Nat} (h : k < 5) : bcdef.cps[k]? = some (66 + k) := by
  have : ∀ k : Fin 5, bcdef.cps[k.val]? = some (66 + k.val) := by decide +kernel
  exact this ⟨k, h⟩

def gCan (P D s wd : Addr) (fs : List Nat) (c i : Nat) : Mine.St :=
  ⟨[("due", .ref D), ("gifts", .ref P), ("cell", .int c), ("words", .ref wd), ("faces", .ref s)], [⟨D, true, .list ((fs.take i).map fun x => .int (giftI x c))⟩, ⟨P, true, .list ((fs.take i).map fun x => .int (giftI x c))⟩, ⟨wd, false, .list (fs.map fun x => strM (wordL x))⟩, ⟨s, false, .list (fs.map intM)⟩], true⟩
theorem gCan_noT {P D s wd : Addr} {fs : List Nat} {c i : Nat} : (gCan P D s wd fs c i).NoT := by
  refine ⟨fun x v h => ?_, ?_⟩
  · have := mem_of_lookup h
    simp only [gCan, List.mem_cons, List.not_mem_nil, or_false, Prod.mk.injEq] at this
    rcases this with ⟨_, rfl⟩ | ⟨_, rfl⟩ | ⟨_, rfl⟩ | ⟨_, rfl⟩ | ⟨_, rfl⟩ <;> rfl
  · refine fmc ?_ (fmc ?_ (fmc ?_ (fmc ?_ fm0)))
    all_goals
      show List.all _ noT = true
      rw [List.all_map, List.all_eq_true]
      intro _ _
      rfl

theorem fmod5 (a : Nat) : (a : Int).fmod 5 = ((a % 5 : Nat) : Int) := fmod_nat a 5
theorem fmod4 (a : Nat) : (a : Int).fmod 4 = ((a % 4 : Nat) : Int) := fmod_nat a 4
theorem fmod6 (a : Nat) : (a : Int).fmod 6 = ((a % 6 : Nat) : Int) := fmod_nat a 6
theorem fdiv5 (a : Nat) : (a : Int).fdiv 5 = ((a / 5 : Nat) : Int) := fdiv_nat a 5
theorem fdiv3 (a : Nat) : (a : Int).fdiv 3 = ((a / 3 : Nat) : Int) := fdiv_nat a 3
theorem fdiv20 (a : Nat) : (a : Int).fdiv 20 = ((a / 20 : Nat) : Int) := fdiv_nat a 20
end Mine
end PartC9a

section PartC9
open PySem PySem.Calls PySem.W PyProof.Rows PySem.Spec
set_option maxRecDepth 100000
set_option linter.unusedVariables false
namespace Mine

section
variable {G : Gl} {env : Env} {A : Around} {σ : St} {Φ : MV → St → Prop} {f : Addr} {fd : FuncData} {n : Nat}

theorem gifts_ok (g : G.Ok) (k : AllK G.K) (room : Room A (n + 3)) (fk : FnK G.K f fd (stm 21)) {s wd : Addr} {b b' : Bool} {fs : List Nat} {c : Nat} (hsub : [⟨wd, b', .list (fs.map fun x => strM (wordL x))⟩, ⟨s, b, .list (fs.map intM)⟩].Sublist σ.hp)
    (hsz : fs.length ≤ 32) (hfs : ∀ x ∈ fs, 0 < x ∧ x < 32) (hc : c ≤ 10000)
    (h : ∀ P D, Φ (.tup [.ref P, .ref D]) { σ with hp := [⟨D, true, .list (fs.map fun x => .int (giftI x c))⟩, ⟨P, true, .list (fs.map fun x => .int (giftI x c))⟩] ++ σ.hp }) : XCa G env A σ (.ref f) [.ref s, .ref wd, .int c] [] Φ := by
  obtain ⟨name, qualname, params, body, scope, globals, closure, defaults, kwdefaults, doc, pm, ann, code, ct, blt⟩ := fd
  obtain ⟨fd_, hs, hp, hd, hk, -⟩ := fk
  dsimp only at hs hp hd hk
  subst hs hp hd hk
  obtain ⟨fdS, fkS⟩ := k.stripF
  refine XC_defC g room fd_ (XBd_pure [("faces", .ref s), ("words", .ref wd), ("cell", .int c)] (fun h vs kv va vk => ?_) ⟨fmc (.inl (show lk 21 "faces" = some .local by decide +kernel)) (fmc (.inl (show lk 21 "words" = some .local by decide +kernel)) (fmc (.inl (show lk 21 "cell" = some .local by decide +kernel)) fm0)), fun L hroom => ?_⟩)
  · obtain ⟨v, _, rfl, hv, u, _, rfl, hu, w, _, rfl, hw, hr⟩ := va
    cases (hr : _ = _); cases (vk : _ = _)
    exact ⟨_, rfl, BA.cons hv (BA.cons hu (BA.cons hw BA.nil))⟩
  have eo := cEnvOk fd_ L
  generalize hG : A.deeper _ = A' at hroom ⊢
  clear hG
  have kf : lk 21 "faces" = some .local := by decide +kernel
  have kw : lk 21 "words" = some .local := by decide +kernel
  have kc : lk 21 "cell" = some .local := by decide +kernel
  have ka : lk 21 "face" = some .cell := by decide +kernel
  have kwd : lk 21 "word" = some .local := by decide +kernel
  have kah : lk 21 "ahead" = some .local := by decide +kernel
  have kbe : lk 21 "behind" = some .local := by decide +kernel
  have kam : lk 21 "amount" = some .local := by decide +kernel
  have kba : lk 21 "bare" = some .local := by decide +kernel
  have kle : lk 21 "letters" = some .local := by decide +kernel
  have kgi : lk 21 "gifts" = some .local := by decide +kernel
  have kdu : lk 21 "due" = some .local := by decide +kernel
  have kfr : lk 21 "front" = some .local := by decide +kernel
  have hsub' : [⟨wd, false, .list (fs.map fun x => strM (wordL x))⟩, ⟨s, false, .list (fs.map intM)⟩].Sublist (frzAll σ.hp) := hsub.map Ent.frz
  have hmf : ⟨s, false, .list (fs.map intM)⟩ ∈ frzAll σ.hp := hsub'.mem (.tail _ (.head _))
  have hmw' : ⟨wd, false, .list (fs.map fun x => strM (wordL x))⟩ ∈ frzAll σ.hp := hsub'.mem (.head _)
  conv in (bodyOf _) => whnf
  refine XSs_cons (XS_Assign (XE_List (XA_nil ⟨Nat.zero_le _, fun P => XU_store_local ?_ kgi eo⟩)) rfl)
  refine XSs_cons (XS_Assign (XE_List (XA_nil ⟨Nat.zero_le _, fun D => XU_store_local ?_ kdu eo⟩)) rfl)
  refine XSs_cons (XS_ForZip hroom.hh (XE_b g k.kb eo mem_zip ⟨rfl, XE_local eo (v := .ref s) (put_keep (put_keep rfl)) (XE_local eo (v := .ref wd) (put_keep (put_keep rfl)) ⟨s, _, wd, _, rfl, rfl, .tail _ (.tail _ hmf), .tail _ (.tail _ hmw'), by simp,
    fun i σ' => σ' = gCan P D s wd fs c i, ⟨gCan P D s wd fs c 0, ⟨LocLe.cons put_same (LocLe.cons (put_keep put_same) (LocLe.cons (put_keep (put_keep rfl)) (LocLe.cons (put_keep (put_keep rfl)) (LocLe.cons (put_keep (put_keep rfl)) (LocLe.nil _))))), (hsub'.cons_cons _).cons_cons _, id⟩, rfl⟩, ?_, ?_, ?_⟩ kw) kf⟩ (by kernel_rfl)) rfl (fun _ => rfl))
  · rintro i _ rfl
    exact ⟨gCan_noT, .tail _ (.tail _ (.tail _ (.head _))), .tail _ (.tail _ (.head _))⟩
  · rintro i x y _ hx hy rfl
    rw [List.getElem?_map] at hx hy
    obtain ⟨fc, hfc, rfl⟩ := Option.map_eq_some_iff.mp hx
    rw [hfc] at hy
    cases hy
    have hil : i < fs.length := (List.getElem?_eq_some_iff.mp hfc).1
    obtain ⟨f0, f32⟩ := hfs fc (List.mem_of_getElem? hfc)
    obtain ⟨w1, w2, w3⟩ := wordL_ne f0 f32
    have hwl := wordL_len fc
    have hah : gAhead fc c < 5 := Nat.mod_lt _ (by decide)
    have hbe : gBehind fc c < 4 := Nat.mod_lt _ (by decide)
    have ham : gAmount fc c < 6 := Nat.mod_lt _ (by decide)
    refine XAss_Tuple hroom.hh (XAs_cons (XAss_Name (XU_store_cell (XAs_cons (XAss_Name (XU_store_local (XAs_nil ?_) kwd eo)) rfl) ka (by kernel_rfl) rfl eo cEnv_inj)) rfl) rfl rfl
    have hbig : fc * c ≤ 32 * 10000 := Nat.mul_le_mul (by omega) hc
    -- ahead
    refine XSs_cons (XS_Assign (XE_BinOp (XE_BinOp (XE_cell eo (v := .int fc) (put_keep put_same) (XE_local eo (v := .int c) (put_keep (put_keep rfl)) (XV_mul (IntMulOk.of_left ?_) (XE_int (XV_mod (by decide) ?_))) kc) ka))) rfl)
    · have : ∀ f : Fin 32, Builtin.Int.intBits ((f.val : Nat) : Int) ≤ 64 := by decide +kernel
      exact this ⟨fc, f32⟩
    rw [← Int.natCast_mul, fmod5]
    refine XU_store_local ?_ kah eo
    -- behind
    refine XSs_cons (XS_Assign (XE_BinOp (XE_BinOp (XE_cell eo (v := .int fc) (put_keep (put_keep put_same)) (XE_BinOp (XE_local eo (v := .int c) (put_keep (put_keep (put_keep rfl))) (XE_int (XV_fdiv (by decide) (PyProof.noPylong_small (by omega)) ?_)) kc)) ka))) rfl)
    rw [fdiv5]
    refine XV_add (XE_int (XV_mod (by decide) ?_))
    rw [← Int.natCast_add, fmod4]
    refine XU_store_local ?_ kbe eo
    -- amount
    refine XSs_cons (XS_Assign (XE_BinOp (XE_BinOp (XE_BinOp (XE_cell eo (v := .int fc) (put_keep (put_keep (put_keep put_same))) (XE_int (XV_fdiv (by decide) (PyProof.noPylong_small (by omega)) ?_)) ka)))) rfl)
    rw [fdiv3]
    refine XE_BinOp (XE_local eo (v := .int c) (put_keep (put_keep (put_keep (put_keep rfl)))) (XE_int (XV_fdiv (by decide) (PyProof.noPylong_small (by omega)) ?_)) kc)
    rw [fdiv20]
    refine XV_add (XE_int (XV_mod (by decide) ?_))
    rw [← Int.natCast_add, fmod6]
    refine XU_store_local ?_ kam eo
    show XSs _ _ _ ((((((gCan P D s wd fs c i).put "face" (intM fc)).put "word" (strM (wordL fc))).put "ahead" (.int (gAhead fc c : Nat))).put "behind" (.int (gBehind fc c : Nat))).put "amount" (.int (gAmount fc c : Nat))) _ _
    -- bare
    refine XSs_cons (XS_Assign (XE_F g eo k.strip k.stripF (by kernel_rfl) (by decide +kernel) (XA_cons (XE_BinOp (XE_BinOp (XE_BinOp (XE_str (XE_local eo (v := .int (gAhead fc c : Nat)) (put_keep (put_keep put_same)) (XV_mulS (mulOk_sp (by omega)) ?_) kah))))) rfl) rfl) rfl)
    rw [mul_sp (by omega)]
    refine XE_local eo (v := strM (wordL fc)) (put_keep (put_keep (put_keep put_same))) (XV_addS ?_ ?_) kwd
    · rw [mkS_len, mkS_len]; exact Nat.le_trans (show _ ≤ 100 by simp [bl]; omega) (by decide)
    rw [mkS_append]
    refine XE_BinOp (XE_str (XE_local eo (v := .int (gBehind fc c : Nat)) (put_keep put_same) (XV_mulS (mulOk_sp (by omega)) ?_) kbe))
    rw [mul_sp (by omega)]
    refine XV_addS ?_ ?_
    · rw [mkS_len, mkS_len]; exact Nat.le_trans (show _ ≤ 100 by simp [bl]; omega) (by decide)
    rw [mkS_append]
    refine XA_cons (XE_local eo (v := .int (gAmount fc c : Nat)) put_same (XA_nil (XC_of (strip_pad g k.kb hroom fkS w1 w2 w3 (by omega) (by omega) (XU_store_local ?_ kba eo)))) kam) rfl
    -- letters
    refine XSs_cons (XS_Assign (XE_Meth (XE_str ⟨"str", "str.join", MTy.str, PySem.F.plainAttrs_str, PySem.F.slot_str_join, PySem.F.type_str_join, XA_cons (XE_Comp hroom.hh (fLet fc) (cl := [("face", L + 1)]) (fl := [("face", intM fc)]) ⟨by kernel_rfl, noCell (by decide +kernel), rfl, by decide +kernel, fun _ => rfl⟩
      (XSrc_range1 hroom.hh (XE_b g k.kb eo mem_range ⟨rfl, XE_int ⟨5, rfl, by decide, (by decide : 5 ≤ sizeLine), fun _ _ _ _ => trivial, FlOk.cons (put_keep (put_keep (put_keep (put_keep (put_keep put_same))))) (.inl ka) (.inl (by kernel_rfl)) (by kernel_rfl) FlOk.nil, ?_, fun Z => ?_⟩⟩ (by kernel_rfl)) rfl)) rfl⟩) rfl rfl rfl rfl) rfl)
    · intro j m hj C
      obtain ⟨hj5, rfl⟩ := rng_get hj
      refine XAss_Name (XU_store_local (XIfs_one (XB_plain (XE_BinOp (XE_BinOp (XE_cell (compEnvOk eo rfl) (v := .int fc) (put_keep rfl) (XE_local (compEnvOk eo rfl) put_same (XV_shr (by omega) (XE_int (XV_and (XV_truthI ⟨fun hb => ?_, fun hb => ?_⟩)))) (by kernel_rfl)) (by kernel_rfl)))) (fun _ => rfl))) (by kernel_rfl) (compEnvOk eo rfl))
      · rw [bit_test f32 hj5] at hb
        refine XE_Subscript (XE_str (XE_local (compEnvOk eo rfl) put_same (XV_item_str (c := 66 + j) (by omega) (by omega) (bcdef_at hj5) ?_ (fun _ _ => rfl)) (by kernel_rfl)))
        show (if fc.testBit j then [MV.str ⟨#[66 + j]⟩] else []) = _
        rw [if_pos hb]
      · rw [bit_test f32 hj5] at hb
        show (if fc.testBit j then [MV.str ⟨#[66 + j]⟩] else []) = _
        rw [if_neg (by rw [hb]; simp)]
    rw [fLet_all]
    refine XA_nil (XC_join (.head _) (joinOk_word fc) (XU_store_local ?_ kle eo))
    rw [join_word]
    generalize ha' : gAhead fc c - min (gAmount fc c) (gAhead fc c) = a'
    generalize hb' : gBehind fc c - min (gAmount fc c - min (gAmount fc c) (gAhead fc c)) (gBehind fc c) = b'
    have hfind := find_word (f := fc) (a := a') (b := b') f0 f32 (by omega) (by omega)
    -- gifts
    refine XSs_cons (XS_Expr (XE_Meth (XE_local eo (v := .ref P) (put_keep (put_keep (put_keep (put_keep (put_keep (put_keep (put_keep rfl))))))) ⟨"list", "list.append", MTy.list (.tail _ (.tail _ (.head _))), PySem.F.plainAttrs_list, PySem.F.slot_list_append, PySem.F.type_list_append,
      XA_cons (XE_BinOp (XE_BinOp (XE_BinOp (XE_int (XE_Meth (XE_local eo (put_keep put_same) ⟨"str", "str.index", MTy.str, PySem.F.plainAttrs_str, PySem.F.slot_str_index, PySem.F.type_str_index, XA_cons (XE_local eo put_same (XA_nil (XC_index hroom.hh (by rw [hfind]; omega) (XV_mul (IntMulOk.of_left (by decide +kernel)) ?_))) kle) rfl⟩ kba) rfl rfl rfl rfl))))) rfl⟩ kgi) rfl rfl rfl rfl) rfl rfl)
    rw [hfind]
    refine XE_B g k.kb eo mem_len (fun _ e => nomatch e) (XA_cons (XE_local eo put_same (XA_nil (XC_len_str (by rw [mkS_len]; omega) (XV_add (XE_B g k.kb eo mem_len (fun _ e => nomatch e) (XA_cons (XE_local eo (put_keep put_same) (XA_nil (XC_len_str (by rw [mkS_len]; simp [bl]; omega) (XV_sub (XA_nil (XC_append (i := 2) rfl ?_ ?_))))) kba) rfl) (by kernel_rfl) rfl)))) kle) rfl) (by kernel_rfl) rfl
    · rw [List.length_map, List.length_take]
      exact Nat.le_trans (show _ ≤ 32 by omega) (by decide)
    rw [mkS_len, mkS_len]
    have eG : (2 * (a' : Int) + (wordL fc).length - ((bl a' ++ wordL fc ++ bl b').length : Nat)) = giftI fc c := by
      unfold giftI
      simp only [List.length_append, bl, List.length_replicate]
      omega
    rw [eG]
    have eM : min ((gAmount fc c : Nat) : Int) (gAhead fc c : Nat) = ((min (gAmount fc c) (gAhead fc c) : Nat) : Int) := by omega
    -- front
    refine XSs_cons (XS_Assign (XE_B g k.kb eo mem_min (fun _ e => nomatch e) (XA_cons (XE_local eo (v := .int (gAmount fc c : Nat)) (put_keep (put_keep put_same)) (XA_cons (XE_local eo (v := .int (gAhead fc c : Nat)) (put_keep (put_keep (put_keep (put_keep put_same)))) (XA_nil (XC_min hroom.hh (XU_store_local ?_ kfr eo))) kah) rfl) kam) rfl) (by kernel_rfl) rfl) rfl)
    rw [eM]
    refine XSs_cons (XS_Expr (XE_Meth (XE_local eo (v := .ref D) (put_keep (put_keep (put_keep (put_keep (put_keep (put_keep (put_keep (put_keep rfl)))))))) ⟨"list", "list.append", MTy.list (.tail _ (.head _)), PySem.F.plainAttrs_list, PySem.F.slot_list_append, PySem.F.type_list_append,
      XA_cons (XE_BinOp (XE_BinOp (XE_BinOp (XE_local eo (v := .int (gAhead fc c : Nat)) (put_keep (put_keep (put_keep (put_keep (put_keep put_same))))) (XE_local eo put_same (XV_sub ?_) kfr) kah)))) rfl⟩ kdu) rfl rfl rfl rfl) rfl rfl)
    refine XE_local eo (v := .int (gBehind fc c : Nat)) (put_keep (put_keep (put_keep (put_keep put_same)))) (XV_sub ?_) kbe
    refine XE_B g k.kb eo mem_min (fun _ e => nomatch e) (XA_cons (XE_BinOp (XE_local eo (v := .int (gAmount fc c : Nat)) (put_keep (put_keep (put_keep put_same))) (XE_local eo put_same (XV_sub ?_) kfr) kam)) rfl) (by kernel_rfl) rfl
    refine XA_cons (XE_local eo (v := .int (gBehind fc c : Nat)) (put_keep (put_keep (put_keep (put_keep put_same)))) (XA_nil (XC_min hroom.hh (XV_add (XA_nil (XC_append (i := 1) rfl ?_ (XSs_nil ?_)))))) kbe) rfl
    · rw [List.length_map, List.length_take]
      exact Nat.le_trans (show _ ≤ 32 by omega) (by decide)
    have eD : ((gAhead fc c : Nat) : Int) - (min (gAmount fc c) (gAhead fc c) : Nat) - (gBehind fc c : Nat) + min (((gAmount fc c : Nat) : Int) - (min (gAmount fc c) (gAhead fc c) : Nat)) (gBehind fc c : Nat) = giftI fc c := by
      unfold giftI; omega
    rw [eD]
    refine ⟨gCan P D s wd fs c (i + 1), ⟨LocLe.cons (put_keep (put_keep (put_keep (put_keep (put_keep (put_keep (put_keep (put_keep rfl)))))))) (LocLe.cons (put_keep (put_keep (put_keep (put_keep (put_keep (put_keep (put_keep (put_keep rfl)))))))) (LocLe.cons (put_keep (put_keep (put_keep (put_keep (put_keep (put_keep (put_keep (put_keep rfl)))))))) (LocLe.cons (put_keep (put_keep (put_keep (put_keep (put_keep (put_keep (put_keep (put_keep rfl)))))))) (LocLe.cons (put_keep (put_keep (put_keep (put_keep (put_keep (put_keep (put_keep (put_keep rfl)))))))) (LocLe.nil _))))), ?_, id⟩, rfl⟩
    have ht : (fs.take (i + 1)).map (fun x => MV.int (giftI x c)) = (fs.take i).map (fun x => MV.int (giftI x c)) ++ [MV.int (giftI fc c)] := by
      rw [List.take_add_one, hfc, List.map_append]; rfl
    unfold gCan
    rw [ht]
    exact List.sublist_cons_self _ _
  · rintro _ rfl
    rw [List.length_map]
    refine XSs_cons (XS_Return (XE_Tuple (XA_cons (XE_local eo (v := .ref P) rfl (XA_cons (XE_local eo (v := .ref D) rfl (XA_nil ⟨(by decide : 2 ≤ sizeLine), [_, _], ?_, fmc rfl (fmc rfl fm0), h P D⟩) kdu) rfl) kgi) rfl)))
    unfold gCan
    rw [List.take_length]
    exact List.sublist_append_left _ _
end
end Mine
end PartC9

section PartD1
open PySem PySem.Calls PySem.W PyProof.Rows PySem.Spec
set_option maxRecDepth 100000
set_option linter.unusedVariables false
namespace Mine

/-! ends of lines made alike -/
/-- a line and its end -/
structure Blk where
  line : List Nat
  eol : List Nat
structure BlkOk (b : Blk) : Prop where
  noEnd : ∀ c ∈ b.line, c ≠ 10 ∧ c ≠ 13
  eol : b.eol = [10] ∨ b.eol = [13] ∨ b.eol = [13, 10]
def Blk.text (b : Blk) : List Nat := b.line ++ b.eol
def flat (ps : List Str) : List Nat := ps.flatMap fun s => s.cps.toList
def textOf (bs : List Blk) : List Nat := bs.flatMap Blk.text
def crlfText (bs : List Blk) : List Nat := bs.flatMap fun b => b.line ++ [13, 10]
/-- no line begins with 10 (its chars are no ends), so an end of 13 alone is one -/
theorem textOf_head {bs : List Blk} (h : ∀ b ∈ bs, BlkOk b) (hne : ∀ b ∈ bs, b.line ≠ []) : (textOf bs)[0]? ≠ some 10 := by
  cases bs with
  | nil => simp [textOf]
  | cons b r =>
    have h1 := (h b List.mem_cons_self).noEnd
    have h2 := hne b List.mem_cons_self
    cases hl : b.line with
    | nil => exact absurd hl h2
    | cons c cs =>
      have : (textOf (b :: r))[0]? = some c := by simp [textOf, Blk.text, hl]
      rw [this]
      have := (h1 c (by rw [hl]; exact List.mem_cons_self)).1
      simpa using this

theorem getD_of {l : List Nat} {i c : Nat} (h : l[i]? = some c) : (mkS l).cps.getD i 0 = c := by
  have : (mkS l).cps[i]? = some c := by rw [mkS_get]; exact h
  rw [Array.getD_eq_getD_getElem?, this]; rfl
theorem extract_of {pre mid post : List Nat} : (mkS (pre ++ (mid ++ post))).cps.extract pre.length (pre.length + mid.length) = mid.toArray := by
  apply Array.ext'
  simp [mkS]
theorem sub_eol : ∀ (bs : List Blk), (∀ b ∈ bs, BlkOk b) → (∀ b ∈ bs, b.line ≠ []) → ∀ pre : List Nat,
    ∃ out, SubT cEol (mkS (pre ++ textOf bs)) crlf pre.length out ∧ flat out = crlfText bs ∧ out.length ≤ 2 * bs.length
  | [], _, _, pre => by
    refine ⟨_, .stop ?_, ?_, ?_⟩
    · refine Ends.mono (search_none cEol_first fun p h1 h2 => ?_) (by decide)
      simp [mkS, textOf] at h2
      omega
    · have : ¬ pre.length < (mkS (pre ++ textOf [])).cps.size := by simp [mkS, textOf]
      rw [if_neg this]; rfl
    · have : ¬ pre.length < (mkS (pre ++ textOf [])).cps.size := by simp [mkS, textOf]
      rw [if_neg this]; exact Nat.le_refl _
  | b :: bs, hok, hne, pre => by
    obtain ⟨out, h1, h2, h3⟩ := sub_eol bs (fun x hx => hok x (List.mem_cons_of_mem _ hx)) (fun x hx => hne x (List.mem_cons_of_mem _ hx)) (pre ++ b.line ++ b.eol)
    have hb := hok b List.mem_cons_self
    have hl := hne b List.mem_cons_self
    have hnext := textOf_head (fun x hx => hok x (List.mem_cons_of_mem _ hx)) (fun x hx => hne x (List.mem_cons_of_mem _ hx))
    have ex : pre ++ textOf (b :: bs) = pre ++ b.line ++ b.eol ++ textOf bs := by simp [textOf, Blk.text]
    rw [ex]
    have hsz : (mkS (pre ++ b.line ++ b.eol ++ textOf bs)).cps.size = pre.length + b.line.length + b.eol.length + (textOf bs).length := by simp [mkS]; omega
    have hel : 0 < b.eol.length := by rcases hb.eol with h | h | h <;> rw [h] <;> decide
    have at_line : ∀ q, pre.length ≤ q → q < pre.length + b.line.length → (mkS (pre ++ b.line ++ b.eol ++ textOf bs)).cps.getD q 0 ≠ 10 ∧ (mkS (pre ++ b.line ++ b.eol ++ textOf bs)).cps.getD q 0 ≠ 13 := fun q h1 h2 => by
      have : (pre ++ b.line ++ b.eol ++ textOf bs)[q]? = some (b.line[q - pre.length]'(by omega)) := by
        rw [List.append_assoc, List.append_assoc, List.getElem?_append_right h1, List.getElem?_append_left (by omega)]
        exact List.getElem?_eq_getElem _
      rw [getD_of this]
      exact hb.noEnd _ (List.getElem_mem _)
    have at_eol : ∀ j c, (b.eol ++ textOf bs)[j]? = some c → (mkS (pre ++ b.line ++ b.eol ++ textOf bs)).cps.getD (pre.length + b.line.length + j) 0 = c := fun j c hc => by
      refine getD_of ?_
      rw [List.append_assoc, List.getElem?_append_right (by simp)]
      rw [← hc]; congr 1; simp
    have heol : EolAt (mkS (pre ++ b.line ++ b.eol ++ textOf bs)).cps (mkS (pre ++ b.line ++ b.eol ++ textOf bs)).cps.size (pre.length + b.line.length) b.eol.length := by
      rcases hb.eol with h | h | h
      · exact .inr (.inl ⟨by rw [h]; rfl, by have := at_eol 0 10 (by rw [h]; rfl); simpa using this⟩)
      · refine .inr (.inr ⟨by rw [h]; rfl, by have := at_eol 0 13 (by rw [h]; rfl); simpa using this, ?_⟩)
        rw [hsz, h]
        cases ht : (textOf bs)[0]? with
        | none =>
          left
          have : (textOf bs).length = 0 := by simpa using List.getElem?_eq_none_iff.mp ht
          simp; omega
        | some c =>
          right
          rw [← h, at_eol 1 c (by rw [h]; simpa using ht)]
          rintro rfl
          exact hnext ht
      · refine .inl ⟨by rw [h]; rfl, by have := at_eol 0 13 (by rw [h]; rfl); simpa using this, by rw [hsz, h]; simp; omega, at_eol 1 10 (by rw [h]; rfl)⟩
    have hs := search_eol (text := (mkS (pre ++ b.line ++ b.eol ++ textOf bs)).cps) (pos := pre.length) (p := pre.length + b.line.length) (by omega) (by rw [hsz]; omega) heol at_line
    have hgo := SubT.go (code := cEol) (x := mkS (pre ++ b.line ++ b.eol ++ textOf bs)) (rp := crlf) (d := pre.length) (p := pre.length + b.line.length) (e := pre.length + b.line.length + b.eol.length) (ps := out) (by omega) (hs.mono (by decide)) (by
      have : pre.length + b.line.length + b.eol.length = (pre ++ b.line ++ b.eol).length := by simp; omega
      rw [this]; exact h1)
    have hlt : pre.length < pre.length + b.line.length := by
      have := List.length_pos_iff.mpr hl; omega
    rw [if_pos hlt] at hgo
    refine ⟨_, hgo, ?_, ?_⟩
    · show flat (_ :: crlf :: out) = _
      have e1 : (mkS (pre ++ b.line ++ b.eol ++ textOf bs)).cps.extract pre.length (pre.length + b.line.length) = b.line.toArray := by
        rw [List.append_assoc, List.append_assoc]; exact extract_of
      unfold flat at h2 ⊢
      rw [List.flatMap_cons, List.flatMap_cons, h2, e1]
      simp [crlfText, crlf, mkS]
    · simp; omega
end Mine
end PartD1

section PartD2
open PySem PySem.Calls PySem.W PyProof.Rows PySem.Spec
set_option maxRecDepth 100000
set_option linter.unusedVariables false
namespace Mine

def dText (ls : List (List Nat)) : List Nat := ls.flatMap fun l => l ++ [13, 10]
def qLine (l : List Nat) : List Nat := if l[0]? = some 46 then 46 :: l else l
def qText (ls : List (List Nat)) : List Nat := ls.flatMap fun l => qLine l ++ [13, 10]
structure LineOk (l : List Nat) : Prop where
  ne : l ≠ []
  noEnd : ∀ c ∈ l, c ≠ 10 ∧ c ≠ 13

theorem getD_list {l : List Nat} {i : Nat} : (mkS l).cps.getD i 0 = l[i]?.getD 0 := by
  rw [Array.getD_eq_getD_getElem?, mkS_get]
theorem not_hit {x : List Nat} {lim q : Nat} (h : (q ≠ 0 ∧ x[q - 1]? ≠ some 10) ∨ x[q]? ≠ some 46) : ¬ Hit (mkS x).cps lim q := by
  rintro ⟨_, h1, h2⟩
  rw [getD_list] at h1 h2
  have h2' : x[q]? = some 46 := by
    cases hx : x[q]? with
    | none => rw [hx] at h2; simp at h2
    | some c => rw [hx] at h2; simp at h2; rw [h2]
  rcases h with ⟨h0, h3⟩ | h3
  · rcases h1 with h1 | h1
    · exact h0 h1
    · cases hx : x[q - 1]? with
      | none => rw [hx] at h1; simp at h1
      | some c => rw [hx] at h1; simp at h1; rw [h1] at hx; exact h3 hx
  · exact h3 h2'

theorem last10 (a : List Nat) : (a ++ [13, 10])[(a ++ [13, 10]).length - 1]? = some 10 := by
  rw [List.getElem?_append_right (by simp)]; simp

theorem sub_dot : ∀ (ls : List (List Nat)), (∀ l ∈ ls, LineOk l) → ∀ (pre mid : List Nat), (pre ++ mid = [] ∨ (pre ++ mid)[(pre ++ mid).length - 1]? = some 10) →
    (pre ++ mid ++ dText ls).length ≤ 2 ^ 30 → (∀ q, pre.length ≤ q → q < pre.length + mid.length → ¬ Hit (mkS (pre ++ mid ++ dText ls)).cps (mkS (pre ++ mid ++ dText ls)).cps.size q) →
    ∃ out, SubT cDot (mkS (pre ++ mid ++ dText ls)) (mkS [46, 46]) pre.length out ∧ flat out = mid ++ qText ls ∧ out.length ≤ 2 * ls.length + 1
  | [], _, pre, mid, hlast, hsz, hno => by
    have hs : (mkS (pre ++ mid ++ dText [])).cps.size = pre.length + mid.length := by simp [mkS, dText]
    refine ⟨_, .stop (search_dot_none (fun q h1 h2 => hno q h1 (by omega)) (by rw [hs]; simp [dText] at hsz; omega)), ?_, ?_⟩
    · rw [hs]
      by_cases hm : mid = []
      · subst hm
        rw [if_neg (by simp)]
        simp [flat, qText]
      · have := List.length_pos_iff.mpr hm
        rw [if_pos (by omega)]
        have e : (mkS (pre ++ mid ++ dText [])).cps.extract pre.length (pre.length + mid.length) = mid.toArray := by rw [List.append_assoc]; exact extract_of
        rw [e]
        simp [flat, qText]
    · split <;> simp
  | l :: ls, hok, pre, mid, hlast, hsz, hno => by
    obtain ⟨hne, hend⟩ := hok l List.mem_cons_self
    have hok' : ∀ l ∈ ls, LineOk l := fun x hx => hok x (List.mem_cons_of_mem _ hx)
    cases hl : l with
    | nil => exact absurd hl hne
    | cons c t =>
    have hc := hend c (by rw [hl]; exact List.mem_cons_self)
    have htc : ∀ d ∈ t, d ≠ 10 ∧ d ≠ 13 := fun d hd => hend d (by rw [hl]; exact List.mem_cons_of_mem _ hd)
    have prevs : ∀ j, j ≤ t.length → (c :: t ++ [13, 10])[j]? ≠ some 10 := fun j hj e => by
      rcases Nat.lt_or_ge j (c :: t).length with h | h
      · rw [List.getElem?_append_left h] at e
        have := List.mem_of_getElem? e
        rcases List.mem_cons.mp this with h' | h'
        · exact hc.1 h'.symm
        · exact (htc 10 h').1 rfl
      · simp at h; omega
    have prev13 : (c :: t ++ [13, 10])[t.length + 1]? = some 13 := by
      rw [List.getElem?_append_right (by simp)]; simp
    by_cases h46 : c = 46
    · subst h46
      have ex : pre ++ mid ++ dText ((46 :: t) :: ls) = (pre ++ mid ++ [46]) ++ (t ++ [13, 10]) ++ dText ls := by simp [dText]
      have ex2 : pre ++ mid ++ dText ((46 :: t) :: ls) = (pre ++ mid) ++ ((46 :: t ++ [13, 10]) ++ dText ls) := by simp [dText]
      have hsz2 : (mkS (pre ++ mid ++ dText ((46 :: t) :: ls))).cps.size = pre.length + mid.length + 1 + t.length + 2 + (dText ls).length := by simp [mkS, dText]; omega
      have at_ : ∀ j, j < t.length + 3 → (pre ++ mid ++ dText ((46 :: t) :: ls))[pre.length + mid.length + j]? = (46 :: t ++ [13, 10])[j]? := fun j hj => by
        rw [ex2, List.getElem?_append_right (by simp), List.getElem?_append_left (by simp; omega)]
        congr 1; simp
      have hhit : Hit (mkS (pre ++ mid ++ dText ((46 :: t) :: ls))).cps (mkS (pre ++ mid ++ dText ((46 :: t) :: ls))).cps.size (pre.length + mid.length) := by
        refine ⟨by rw [hsz2]; omega, ?_, ?_⟩
        · rcases hlast with h | h
          · left; have := congrArg List.length h; simpa using this
          · right
            refine getD_of ?_
            rw [ex2, List.getElem?_append_left ?_]
            · rw [← h]; congr 1; simp
            · have := (List.getElem?_eq_some_iff.mp h).1
              simpa using this
        · have := at_ 0 (by omega)
          refine getD_of (by simpa using this)
      have hs := search_dot (text := (mkS (pre ++ mid ++ dText ((46 :: t) :: ls))).cps) (pos := pre.length) (p := pre.length + mid.length) (by omega) hhit (fun q h1 h2 => by rw [hl] at hno; exact hno q h1 h2) (by rw [hsz2]; rw [hl] at hsz; rw [ex2] at hsz; simp at hsz; omega)
      obtain ⟨out, h1, h2, h3⟩ := sub_dot ls hok' (pre ++ mid ++ [46]) (t ++ [13, 10]) (.inr (by rw [← List.append_assoc]; exact last10 _)) (by rw [← ex, ← hl]; exact hsz) (fun q h1 h2 => by
        rw [← ex]
        simp at h1 h2
        obtain ⟨j, rfl⟩ : ∃ j, q = pre.length + mid.length + (j + 1) := ⟨q - (pre.length + mid.length + 1), by omega⟩
        refine not_hit (.inl ⟨by omega, ?_⟩)
        rw [show pre.length + mid.length + (j + 1) - 1 = pre.length + mid.length + j by omega, at_ j (by omega)]
        rcases Nat.lt_or_ge t.length j with h | h
        · have : j = t.length + 1 := by omega
          subst this
          rw [prev13]; simp
        · exact prevs j h)
      rw [← ex] at h1
      have hlen : (pre ++ mid ++ [46]).length = pre.length + mid.length + 1 := by simp; omega
      rw [hlen] at h1
      have hgo := SubT.go (d := pre.length) (p := pre.length + mid.length) (e := pre.length + mid.length + 1) (by omega) hs h1
      refine ⟨_, hgo, ?_, ?_⟩
      · have e1 : (mkS (pre ++ mid ++ dText ((46 :: t) :: ls))).cps.extract pre.length (pre.length + mid.length) = mid.toArray := by rw [List.append_assoc]; exact extract_of
        rw [e1]
        unfold flat at h2 ⊢
        rw [List.flatMap_append, List.flatMap_cons, h2]
        have e2 : (if pre.length < pre.length + mid.length then [(⟨mid.toArray⟩ : Str)] else []).flatMap (fun s => s.cps.toList) = mid := by
          by_cases hm : mid = []
          · subst hm; simp
          · have := List.length_pos_iff.mpr hm
            rw [if_pos (by omega)]; simp
        rw [e2]
        simp [qText, qLine, mkS]
      · simp only [List.length_append, List.length_cons]
        split <;> simp <;> omega
    · have ex : pre ++ mid ++ dText ((c :: t) :: ls) = pre ++ (mid ++ ((c :: t) ++ [13, 10])) ++ dText ls := by simp [dText]
      have ex2 : pre ++ mid ++ dText ((c :: t) :: ls) = (pre ++ mid) ++ ((c :: t ++ [13, 10]) ++ dText ls) := by simp [dText]
      have at_ : ∀ j, j < t.length + 3 → (pre ++ mid ++ dText ((c :: t) :: ls))[pre.length + mid.length + j]? = (c :: t ++ [13, 10])[j]? := fun j hj => by
        rw [ex2, List.getElem?_append_right (by simp), List.getElem?_append_left (by simp; omega)]
        congr 1; simp
      obtain ⟨out, h1, h2, h3⟩ := sub_dot ls hok' pre (mid ++ ((c :: t) ++ [13, 10])) (.inr (by rw [← List.append_assoc, ← List.append_assoc]; exact last10 _)) (by rw [← ex, ← hl]; exact hsz) (fun q h1 h2 => by
        rw [← ex]
        rcases Nat.lt_or_ge q (pre.length + mid.length) with h | h
        · rw [hl] at hno; exact hno q h1 h
        · obtain ⟨j, rfl⟩ := Nat.exists_eq_add_of_le h
          simp at h2
          cases j with
          | zero =>
            refine not_hit (.inr ?_)
            rw [at_ 0 (by omega)]
            simpa using h46
          | succ j =>
            refine not_hit (.inl ⟨by omega, ?_⟩)
            rw [show pre.length + mid.length + (j + 1) - 1 = pre.length + mid.length + j by omega, at_ j (by omega)]
            rcases Nat.lt_or_ge t.length j with h | h
            · have : j = t.length + 1 := by omega
              subst this
              rw [prev13]; simp
            · exact prevs j h)
      rw [← ex] at h1
      refine ⟨out, h1, ?_, by simp; omega⟩
      rw [h2]
      have : qLine (c :: t) = c :: t := by unfold qLine; rw [if_neg (by simpa using h46)]
      simp [qText, this]
end Mine
end PartD2

section PartD3
open PySem PySem.Calls PySem.W PyProof.Rows PySem.Spec
open PySem.StrLaws (occBody occ_eq partsFrom partsBetween_eq)
open PySem.Builtin.Str (subAt strSub occurrences)
set_option maxRecDepth 100000
set_option linter.unusedVariables false
namespace Mine

theorem flat_len (out : List Str) : (out.map (·.length)).sum = (flat out).length := by
  unfold flat
  induction out with
  | nil => rfl
  | cons a r ih => rw [List.map_cons, List.sum_cons, List.flatMap_cons, List.length_append, ih]; simp [Str.length]
theorem ext00 (x : Str) : (⟨x.cps.extract 0 0⟩ : Str) = Str.ofString "" := by
  have e : Str.ofString "" = ⟨#[]⟩ := by decide +kernel
  rw [e]; congr 1; apply Array.ext'; simp
theorem subR_of {code : Array Nat} {x rp : Str} {out : List Str} {y : List Nat} (h : SubT code x rp 0 out) (hf : flat out = y) (hn : out.length ≤ 1000) (hy : y.length ≤ 1000000) : SubR code x rp (mkS y) := by
  refine ⟨out, h, Nat.le_trans hn (by decide), ?_, ?_⟩
  · rw [ext00]; exact joinOk_empty _ (by rw [flat_len, hf]; exact hy)
  · rw [ext00, join_empty]
    show mkS y = (if out.isEmpty = true then Str.ofString "" else mkS (flat out))
    rw [hf]
    cases out with
    | nil => simp [flat] at hf; subst hf; show mkS [] = Str.ofString ""; decide +kernel
    | cons a r => rfl
theorem subR_eol {bs : List Blk} (h : ∀ b ∈ bs, BlkOk b) (hne : ∀ b ∈ bs, b.line ≠ []) (hn : bs.length ≤ 32) (hs : (crlfText bs).length ≤ 1000000) : SubR cEol (mkS (textOf bs)) crlf (mkS (crlfText bs)) := by
  obtain ⟨out, h1, h2, h3⟩ := sub_eol bs h hne []
  exact subR_of (by simpa using h1) h2 (by omega) hs
theorem subR_dot {ls : List (List Nat)} (h : ∀ l ∈ ls, LineOk l) (hn : ls.length ≤ 32) (h1 : (dText ls).length ≤ 2 ^ 30) (hs : (qText ls).length ≤ 1000000) : SubR cDot (mkS (dText ls)) (mkS [46, 46]) (mkS (qText ls)) := by
  obtain ⟨out, h1, h2, h3⟩ := sub_dot ls h [] [] (.inl rfl) (by simpa using h1) (fun q h1 h2 => by simp at h2)
  exact subR_of (by simpa using h1) (by simpa using h2) (by omega) hs

/-! splitting at the ends of lines -/
def occG (s sub : Str) (hi limit : Nat) (st : Array Nat × Nat) (i : Nat) : Array Nat × Nat :=
  if ((st.fst.size < limit ∧ st.snd ≤ i) ∧ i + sub.length ≤ hi) ∧ subAt s sub i = true then (st.fst.push i, i + sub.length) else st
theorem occ_fold (s sub : Str) (hi limit : Nat) : ∀ (l : List Nat) (st : Array Nat × Nat), (forIn l st (occBody s sub hi limit)).run = l.foldl (occG s sub hi limit) st
  | [], st => rfl
  | a :: l, st => by
    rw [List.forIn_cons, List.foldl_cons]
    unfold occBody occG
    split
    · exact occ_fold s sub hi limit l _
    · exact occ_fold s sub hi limit l _
def cuts : Nat → List (List Nat) → List Nat
  | _, [] => []
  | a, l :: ls => (a + l.length) :: cuts (a + l.length + 2) ls
theorem fold_same {s sub : Str} {hi limit : Nat} {st : Array Nat × Nat} : ∀ (l : List Nat), (∀ i ∈ l, subAt s sub i = false) → l.foldl (occG s sub hi limit) st = st
  | [], _ => rfl
  | a :: l, h => by
    rw [List.foldl_cons]
    have : occG s sub hi limit st a = st := by
      unfold occG
      rw [if_neg (fun q => by rw [h a List.mem_cons_self] at q; exact absurd q.2 (by simp))]
    rw [this]
    exact fold_same l fun i hi => h i (List.mem_cons_of_mem _ hi)
theorem crlf_len : crlf.length = 2 := by simp [crlf, mkS_len]
theorem subAt_line {x : List Nat} {i c : Nat} (h : x[i]? = some c) (hc : c ≠ 13) : subAt (mkS x) crlf i = false := by
  unfold subAt
  apply beq_false_of_ne
  intro e
  have e1 : ((mkS x).cps.extract i (i + crlf.length))[0]? = some 13 := by rw [e]; rfl
  have hi : i < x.length := (List.getElem?_eq_some_iff.mp h).1
  rw [crlf_len, Array.getElem?_extract] at e1
  simp [mkS] at e1
  have e2 : x[i]? = some 13 := e1.2
  rw [h] at e2
  exact hc (Option.some.inj e2)
theorem subAt_end {pre post : List Nat} : subAt (mkS (pre ++ ([13, 10] ++ post))) crlf pre.length = true := by
  unfold subAt
  rw [crlf_len]
  have := extract_of (pre := pre) (mid := [13, 10]) (post := post)
  have e : (mkS (pre ++ ([13, 10] ++ post))).cps.extract pre.length (pre.length + 2) = #[13, 10] := this
  rw [e]; rfl

theorem occ_lines : ∀ (ls : List (List Nat)), (∀ l ∈ ls, LineOk l) → ∀ (pre : List Nat) (found : Array Nat) (limit : Nat), found.size + ls.length < limit →
    (List.range' pre.length ((dText ls).length + 1)).foldl (occG (mkS (pre ++ dText ls)) crlf (pre ++ dText ls).length limit) (found, pre.length) = (found ++ (cuts pre.length ls).toArray, pre.length + (dText ls).length)
  | [], _, pre, found, limit, hl => by
    simp only [dText, List.flatMap_nil, List.length_nil, cuts, List.append_nil]
    show occG _ _ _ _ (found, pre.length) pre.length = _
    unfold occG
    rw [if_neg (fun q => by have := q.1.2; rw [crlf_len] at this; omega)]
    simp
  | l :: ls, hok, pre, found, limit, hl => by
    obtain ⟨hne, hend⟩ := hok l List.mem_cons_self
    have ex : pre ++ dText (l :: ls) = (pre ++ l ++ [13, 10]) ++ dText ls := by simp [dText]
    have ex2 : pre ++ dText (l :: ls) = (pre ++ l) ++ ([13, 10] ++ dText ls) := by simp [dText]
    have hlen : (dText (l :: ls)).length = l.length + 2 + (dText ls).length := by simp [dText]; omega
    have hr : List.range' pre.length ((dText (l :: ls)).length + 1) = List.range' pre.length l.length ++ (List.range' (pre.length + l.length) 2 ++ List.range' (pre ++ l ++ [13, 10]).length ((dText ls).length + 1)) := by
      have e1 : (pre ++ l ++ [13, 10]).length = pre.length + l.length + 2 := by simp; omega
      rw [e1, hlen]
      have := List.range'_append (s := pre.length + l.length) (m := 2) (n := (dText ls).length + 1) (step := 1)
      rw [Nat.one_mul] at this
      rw [this]
      have := List.range'_append (s := pre.length) (m := l.length) (n := 2 + ((dText ls).length + 1)) (step := 1)
      rw [Nat.one_mul] at this
      rw [this]
      congr 1; omega
    rw [hr, List.foldl_append, List.foldl_append]
    rw [fold_same (List.range' pre.length l.length) fun i hi => ?_]
    · have hn1 : found.size < limit := by simp at hl; omega
      have st1 : occG (mkS (pre ++ dText (l :: ls))) crlf (pre ++ dText (l :: ls)).length limit (found, pre.length) (pre.length + l.length) = (found.push (pre.length + l.length), pre.length + l.length + 2) := by
        unfold occG
        have hs := subAt_end (pre := pre ++ l) (post := dText ls)
        rw [← ex2] at hs
        have e1 : (pre ++ l).length = pre.length + l.length := by simp
        rw [e1] at hs
        rw [if_pos ⟨⟨⟨hn1, by simp⟩, by rw [crlf_len]; simp [hlen]; omega⟩, hs⟩, crlf_len]
      have st2 : ∀ found', occG (mkS (pre ++ dText (l :: ls))) crlf (pre ++ dText (l :: ls)).length limit (found', pre.length + l.length + 2) (pre.length + l.length + 1) = (found', pre.length + l.length + 2) := fun found' => by
        unfold occG
        rw [if_neg (fun q => by have := q.1.1.2; simp at this)]
      show (List.range' _ _).foldl _ (occG _ _ _ _ (occG _ _ _ _ (found, pre.length) (pre.length + l.length)) (pre.length + l.length + 1)) = _
      rw [st1, st2]
      have e1 : (pre ++ l ++ [13, 10]).length = pre.length + l.length + 2 := by simp; omega
      have ih := occ_lines ls (fun x hx => hok x (List.mem_cons_of_mem _ hx)) (pre ++ l ++ [13, 10]) (found.push (pre.length + l.length)) limit (by simp at hl ⊢; omega)
      rw [← ex] at ih
      rw [e1] at ih ⊢
      rw [ih]
      have e2 : found.push (pre.length + l.length) ++ (cuts (pre.length + l.length + 2) ls).toArray = found ++ (cuts pre.length (l :: ls)).toArray := by
        show _ = found ++ ((pre.length + l.length) :: cuts (pre.length + l.length + 2) ls).toArray
        apply Array.ext'; simp
      rw [e2, hlen, show pre.length + l.length + 2 + (dText ls).length = pre.length + (l.length + 2 + (dText ls).length) by omega]
    · rw [List.mem_range'_1] at hi
      have hx : (pre ++ dText (l :: ls))[i]? = some (l[i - pre.length]'(by omega)) := by
        rw [ex2, List.append_assoc, List.getElem?_append_right hi.1, List.getElem?_append_left (by omega)]
        exact List.getElem?_eq_getElem _
      exact subAt_line hx (hend _ (List.getElem_mem _)).2
theorem parts_lines : ∀ (ls : List (List Nat)) (pre : List Nat), partsFrom (mkS (pre ++ dText ls)) 2 pre.length (cuts pre.length ls) = ls.map mkS ++ [mkS []]
  | [], pre => by
    show [strSub (mkS (pre ++ dText [])) pre.length (mkS (pre ++ dText [])).length] = _
    have : (mkS (pre ++ dText [])).length = pre.length := by rw [mkS_len]; simp [dText]
    rw [this]
    unfold strSub
    have e : (mkS (pre ++ dText [])).cps.extract pre.length pre.length = #[] := by apply Array.ext'; simp
    rw [e]; rfl
  | l :: ls, pre => by
    have ex : pre ++ dText (l :: ls) = (pre ++ l ++ [13, 10]) ++ dText ls := by simp [dText]
    have e1 : (pre ++ l ++ [13, 10]).length = pre.length + l.length + 2 := by simp; omega
    show strSub (mkS (pre ++ dText (l :: ls))) pre.length (pre.length + l.length) :: partsFrom _ 2 (pre.length + l.length + 2) (cuts (pre.length + l.length + 2) ls) = _
    have ih := parts_lines ls (pre ++ l ++ [13, 10])
    rw [← ex, e1] at ih
    rw [ih]
    have e2 : strSub (mkS (pre ++ dText (l :: ls))) pre.length (pre.length + l.length) = mkS l := by
      unfold strSub
      have : pre ++ dText (l :: ls) = pre ++ (l ++ ([13, 10] ++ dText ls)) := by simp [dText]
      rw [this, extract_of]; rfl
    rw [e2]; rfl
theorem split_lines {ls : List (List Nat)} (h : ∀ l ∈ ls, LineOk l) : Txt.split (mkS (dText ls)) crlf = ls.map mkS ++ [mkS []] := by
  have hocc : occurrences (mkS (dText ls)) crlf 0 (mkS (dText ls)).length ((mkS (dText ls)).length + 1) = cuts 0 ls := by
    rw [occ_eq, occ_fold, mkS_len]
    have hl : ls.length ≤ (dText ls).length := by
      clear h
      induction ls with
      | nil => simp
      | cons a r ih => simp [dText] at ih ⊢; omega
    have := occ_lines ls h [] #[] ((dText ls).length + 1) (by simp; omega)
    simp only [List.length_nil, List.nil_append, Nat.zero_add] at this
    rw [Nat.sub_zero, this]
    simp
  unfold Txt.split
  cases ls with
  | nil => rfl
  | cons l r =>
    have hk : Builtin.Str.strKind crlf = 1 := by decide +kernel
    have hk2 : 1 ≤ Builtin.Str.strKind (mkS (dText (l :: r))) := by
      unfold Builtin.Str.strKind
      split
      · exact Nat.le_refl _
      · split <;> decide
    have c1 : (decide ((mkS (dText (l :: r))).length < crlf.length) || decide (Builtin.Str.strKind (mkS (dText (l :: r))) < Builtin.Str.strKind crlf)) = false := by
      rw [mkS_len, crlf_len, hk, Bool.or_eq_false_iff]
      exact ⟨decide_eq_false (by simp [dText]; omega), decide_eq_false (by omega)⟩
    rw [if_neg (by rw [c1]; simp), hocc, if_neg (by simp [cuts]), partsBetween_eq, crlf_len]
    have := parts_lines (l :: r) []
    simpa using this
end Mine
end PartD3

section PartC10a
open PySem PySem.Calls PySem.W PyProof.Rows PySem.Spec
set_option maxRecDepth 100000
set_option linter.unusedVariables false
namespace Mine

def lineD (f k : Nat) : List Nat := (if f.testBit k then [46] else []) ++ wordL f ++ [46]
def eolOf (i : Nat) : List Nat := if i % 3 = 0 then [10] else if i % 3 = 1 then [13] else [13, 10]
def blks (fs : List Nat) (k i : Nat) : List Blk := (List.range i).map fun j => ⟨lineD (fs.getD j 0) k, eolOf j⟩
def mailL (fs : List Nat) (k i : Nat) : List Nat := textOf (blks fs k i)
theorem mail_succ (fs : List Nat) (k i : Nat) : mailL fs k (i + 1) = mailL fs k i ++ (lineD (fs.getD i 0) k ++ eolOf i) := by
  unfold mailL blks textOf
  rw [List.range_succ, List.map_append, List.flatMap_append]
  simp [Blk.text]
theorem lineD_ok {f k : Nat} (hf : f < 32) (hk : k < 5) : LineOk (lineD f k) ∧ (lineD f k).length ≤ 7 := by
  have : ∀ f : Fin 32, ∀ k : Fin 5, lineD f.val k.val ≠ [] ∧ (lineD f.val k.val).all (fun c => c != 10 && c != 13) = true ∧ (lineD f.val k.val).length ≤ 7 := by decide +kernel
  obtain ⟨h1, h2, h3⟩ := this ⟨f, hf⟩ ⟨k, hk⟩
  refine ⟨⟨h1, fun c hc => ?_⟩, h3⟩
  have := List.all_eq_true.mp h2 c hc
  simpa using this
theorem has_letter {f k : Nat} (hf : f < 32) (hk : k < 5) : decide ((66 + k) ∈ wordL f) = f.testBit k := by
  have : ∀ f : Fin 32, ∀ k : Fin 5, decide ((66 + k.val) ∈ wordL f.val) = f.val.testBit k.val := by decide +kernel
  exact this ⟨f, hf⟩ ⟨k, hk⟩
theorem row_eq {f k : Nat} (h0 : 0 < f) (hf : f < 32) (hk : k < 5) : (qLine (lineD f k) == [46, 46] ++ wordL f ++ [46]) = f.testBit k := by
  have : ∀ f : Fin 32, 0 < f.val → ∀ k : Fin 5, (qLine (lineD f.val k.val) == [46, 46] ++ wordL f.val ++ [46]) = f.val.testBit k.val := by decide +kernel
  exact this ⟨f, hf⟩ h0 ⟨k, hk⟩
theorem qText_eq (ls : List (List Nat)) : qText ls = dText (ls.map qLine) := by
  unfold qText dText; rw [List.flatMap_map]
theorem crlfText_eq (fs : List Nat) (k : Nat) : crlfText (blks fs k fs.length) = dText (fs.map fun f => lineD f k) := by
  unfold crlfText blks dText
  rw [List.flatMap_map, List.flatMap_map]
  have : fs = (List.range fs.length).map fun j => fs.getD j 0 := by
    apply List.ext_getElem (by simp)
    intro i h1 h2
    simp at h2
    simp [h2]
  conv => rhs; rw [this]
  rw [List.flatMap_map]
theorem dText_len (ls : List (List Nat)) (m : Nat) (h : ∀ l ∈ ls, l.length ≤ m) : (dText ls).length ≤ (m + 2) * ls.length := by
  unfold dText
  induction ls with
  | nil => simp
  | cons a r ih =>
    have h1 := h a List.mem_cons_self
    have h2 := ih fun l hl => h l (List.mem_cons_of_mem _ hl)
    have e : (m + 2) * (a :: r).length = (m + 2) * r.length + (m + 2) := by rw [List.length_cons, Nat.mul_succ]
    rw [List.flatMap_cons, List.length_append, List.length_append, e]
    show a.length + 2 + (r.flatMap fun l => l ++ [13, 10]).length ≤ _
    omega
theorem qLine_len (l : List Nat) : (qLine l).length ≤ l.length + 1 := by unfold qLine; split <;> simp
theorem qLine_ok {l : List Nat} (h : LineOk l) : LineOk (qLine l) := by
  unfold qLine
  split
  · exact ⟨by simp, fun c hc => by rcases List.mem_cons.mp hc with rfl | hc; · exact ⟨by decide, by decide⟩
                                   · exact h.noEnd c hc⟩
  · exact h
theorem mail_len (fs : List Nat) (k i : Nat) (hfs : ∀ x ∈ fs, x < 32) (hk : k < 5) (hi : i ≤ fs.length) : (mailL fs k i).length ≤ 9 * i := by
  induction i with
  | zero => simp [mailL, blks, textOf]
  | succ i ih =>
    rw [mail_succ, List.length_append, List.length_append]
    have hin : i < fs.length := by omega
    have hf : fs.getD i 0 = fs[i] := by simp [hin]
    have h1 := (lineD_ok (k := k) (hfs _ (List.getElem_mem hin)) hk).2
    have h2 : (eolOf i).length ≤ 2 := by
      unfold eolOf
      split
      · decide
      · split <;> decide
    have := ih (by omega)
    rw [hf]
    omega
/-- all that the mails are asked for -/
theorem mail_all {fs : List Nat} {k : Nat} (hfs : ∀ x ∈ fs, 0 < x ∧ x < 32) (hk : k < 5) (hn : fs.length ≤ 32) :
    SubR cEol (mkS (mailL fs k fs.length)) crlf (mkS (dText (fs.map fun f => lineD f k))) ∧
    SubR cDot (mkS (dText (fs.map fun f => lineD f k))) (mkS [46, 46]) (mkS (dText ((fs.map fun f => lineD f k).map qLine))) ∧
    Txt.split (mkS (dText ((fs.map fun f => lineD f k).map qLine))) crlf = ((fs.map fun f => lineD f k).map qLine).map mkS ++ [mkS []] ∧
    (mailL fs k fs.length).length ≤ 300 ∧ (dText (fs.map fun f => lineD f k)).length ≤ 300 ∧ (dText ((fs.map fun f => lineD f k).map qLine)).length ≤ 400 := by
  have hok : ∀ l ∈ (fs.map fun f => lineD f k), LineOk l := fun l hl => by
    obtain ⟨f, hf, rfl⟩ := List.mem_map.mp hl
    exact (lineD_ok (hfs f hf).2 hk).1
  have hl7 : ∀ l ∈ (fs.map fun f => lineD f k), l.length ≤ 7 := fun l hl => by
    obtain ⟨f, hf, rfl⟩ := List.mem_map.mp hl
    exact (lineD_ok (hfs f hf).2 hk).2
  have hb : ∀ b ∈ blks fs k fs.length, BlkOk b ∧ b.line ≠ [] := fun b hb => by
    obtain ⟨j, hj, rfl⟩ := List.mem_map.mp hb
    have hjn : j < fs.length := by simpa using hj
    have hf : fs.getD j 0 = fs[j] := by simp [hjn]
    have h1 := (lineD_ok (k := k) (hfs _ (List.getElem_mem hjn)).2 hk).1
    rw [← hf] at h1
    refine ⟨⟨h1.noEnd, ?_⟩, h1.ne⟩
    show eolOf j = _ ∨ eolOf j = _ ∨ eolOf j = _
    unfold eolOf
    split
    · exact .inl rfl
    · split
      · exact .inr (.inl rfl)
      · exact .inr (.inr rfl)
  have d1 : (dText (fs.map fun f => lineD f k)).length ≤ 300 := by
    have := dText_len _ 7 hl7
    rw [List.length_map] at this
    have : (7 + 2) * fs.length ≤ 9 * 32 := Nat.mul_le_mul (Nat.le_refl _) hn
    omega
  have d2 : (dText ((fs.map fun f => lineD f k).map qLine)).length ≤ 400 := by
    have := dText_len ((fs.map fun f => lineD f k).map qLine) 8 fun l hl => by
      obtain ⟨l', hl', rfl⟩ := List.mem_map.mp hl
      have := qLine_len l'; have := hl7 l' hl'; omega
    rw [List.length_map, List.length_map] at this
    have : (8 + 2) * fs.length ≤ 10 * 32 := Nat.mul_le_mul (Nat.le_refl _) hn
    omega
  refine ⟨?_, ?_, split_lines fun l hl => ?_, ?_, d1, d2⟩
  · have := subR_eol (fun b h => (hb b h).1) (fun b h => (hb b h).2) (by simp [blks]; omega) (by rw [crlfText_eq]; omega)
    rw [crlfText_eq] at this
    exact this
  · have := subR_dot hok (by simp; omega) (Nat.le_trans d1 (by decide)) (by rw [qText_eq]; omega)
    rw [qText_eq] at this
    exact this
  · obtain ⟨l', hl', rfl⟩ := List.mem_map.mp hl
    exact qLine_ok (hok l' hl')
  · have := mail_len fs k fs.length (fun x hx => (hfs x hx).2) hk (Nat.le_refl _)
    omega
/-- the places of the words with a letter, as bits -/
def heldI (fs : List Nat) (k : Nat) : Int := (((List.range fs.length).filter fun i => (fs.getD i 0).testBit k).map fun i => (2 : Int) ^ i).sum
def fHeld (fs : List Nat) (k : Nat) : MV → List MV
  | .int i => if (fs.getD i.toNat 0).testBit k then [.int (1 * 2 ^ i.toNat)] else []
  | _ => []
theorem fHeld_all (fs : List Nat) (k n : Nat) : (rng 0 n).flatMap (fHeld fs k) = (((List.range n).filter fun i => (fs.getD i 0).testBit k).map fun i => (2 : Int) ^ i).map .int := by
  unfold rng
  rw [List.flatMap_map]
  have : ∀ l : List Nat, l.flatMap (fun i => fHeld fs k (.int ((0 + i : Nat) : Int))) = ((l.filter fun i => (fs.getD i 0).testBit k).map fun i => (2 : Int) ^ i).map MV.int := by
    intro l
    induction l with
    | nil => rfl
    | cons a r ih =>
      rw [List.flatMap_cons, ih, List.filter_cons]
      have e : fHeld fs k (.int ((0 + a : Nat) : Int)) = if (fs.getD a 0).testBit k then [.int (2 ^ a)] else [] := by
        unfold fHeld; simp
      rw [e]
      split <;> simp
  exact this _
theorem eol_tup (i : Nat) : [MV.str (Str.ofString "\n"), MV.str (Str.ofString "\r"), MV.str (Str.ofString "\r\n")][(((i % 3 : Nat) : Int)).toNat]? = some (.str (mkS (eolOf i))) := by
  have e1 : Str.ofString "\n" = mkS [10] := by decide +kernel
  have e2 : Str.ofString "\r" = mkS [13] := by decide +kernel
  have e3 : Str.ofString "\r\n" = mkS [13, 10] := by decide +kernel
  rw [e1, e2, e3]
  have h : i % 3 = 0 ∨ i % 3 = 1 ∨ i % 3 = 2 := by omega
  unfold eolOf
  rcases h with h | h | h <;> rw [h] <;> rfl
theorem str_dot : Str.ofString "." = mkS [46] := by decide +kernel
theorem str_dots : Str.ofString ".." = mkS [46, 46] := by decide +kernel
theorem str_crlf : Str.ofString "\r\n" = crlf := by decide +kernel
theorem str_empty : Str.ofString "" = mkS [] := by decide +kernel
theorem chrs_bcdef {i : Nat} {m : MV} (h : (chrs (Str.ofString "BCDEF"))[i]? = some m) : i < 5 ∧ m = .str (mkS [66 + i]) := by
  have e : (Str.ofString "BCDEF").cps = #[66, 67, 68, 69, 70] := by decide +kernel
  unfold chrs at h
  rw [e] at h
  match i, h with
  | 0, h => simp at h; exact ⟨by decide, h.symm⟩
  | 1, h => simp at h; exact ⟨by decide, h.symm⟩
  | 2, h => simp at h; exact ⟨by decide, h.symm⟩
  | 3, h => simp at h; exact ⟨by decide, h.symm⟩
  | 4, h => simp at h; exact ⟨by decide, h.symm⟩
  | n + 5, h => simp at h
theorem fmod3 (a : Nat) : (a : Int).fmod 3 = ((a % 3 : Nat) : Int) := fmod_nat a 3
end Mine
end PartC10a

section PartC10
open PySem PySem.Calls PySem.W PyProof.Rows PySem.Spec
set_option maxRecDepth 100000
set_option linter.unusedVariables false
namespace Mine
section
variable {G : Gl} {env : Env} {A : Around} {σ : St} {Φ : MV → St → Prop} {f : Addr} {fd : FuncData} {n : Nat}

theorem XE_strL {σ : Mine.St} {x : Str} {l : List Nat} {k pos} {Φ : MV → Mine.St → Prop} (hx : x = mkS l) (h : Φ (.str (mkS l)) σ) : XE G env A σ (.Constant (.str x) k pos) Φ := XE_str (hx ▸ h)
theorem item_word {σ : Mine.St} {wd : Addr} {b : Bool} {fs : List Nat} {j : Nat} {value slice : Expr} {Ψ : MV → Mine.St → Prop} (hm : ⟨wd, b, .list (fs.map fun x => strM (wordL x))⟩ ∈ σ.hp) (hj : j < fs.length) (hsz : fs.length ≤ 32) (hΨ : Ψ (strM (wordL (fs.getD j 0))) σ)
    (hs : ∀ u, subscripted slice false (.ref wd) (.int (j : Int) u) = operate [.ref wd, .int (j : Int) u] (getItem (.ref wd) (.int (j : Int) u))) : XV2 G env A VA σ (.ref wd) (.int (j : Int)) (subscriptTail value slice) Ψ :=
  XV_item_list (m := strM (wordL (fs.getD j 0))) hm (by omega) (by omega) (by simp [hj]) hΨ hs

theorem held_ok (g : G.Ok) (k : AllK G.K) (room : Room A (n + 3)) (fk : FnK G.K f fd (stm 20)) {wd : Addr} {b : Bool} {fs : List Nat} (hm : ⟨wd, b, .list (fs.map fun x => strM (wordL x))⟩ ∈ σ.hp)
    (hsz : fs.length ≤ 32) (hfs : ∀ x ∈ fs, 0 < x ∧ x < 32)
    (h : ∀ D, Φ (.ref D) { σ with hp := ⟨D, true, .list ((List.range 5).map fun k => .int (heldI fs k))⟩ :: σ.hp }) : XCa G env A σ (.ref f) [.ref wd] [] Φ := by
  obtain ⟨name, qualname, params, body, scope, globals, closure, defaults, kwdefaults, doc, pm, ann, code, ct, blt⟩ := fd
  obtain ⟨fd_, hs, hp, hd, hk, -⟩ := fk
  dsimp only at hs hp hd hk
  subst hs hp hd hk
  obtain ⟨fdQ, fkQ⟩ := k.quoteF
  refine XC_defC g room fd_ (XBd_pure [("words", .ref wd)] (fun h vs kv va vk => ?_) ⟨fmc (.inr ⟨show lk 20 "words" = some .cell by decide +kernel, fun _ => by kernel_rfl⟩) fm0, fun L hroom => ?_⟩)
  · obtain ⟨v, _, rfl, hv, hr⟩ := va
    cases (hr : _ = _); cases (vk : _ = _)
    exact ⟨_, rfl, BA.cons hv BA.nil⟩
  have eo := cEnvOk fd_ L
  generalize hG : A.deeper _ = A' at hroom ⊢
  clear hG
  have kw : lk 20 "words" = some .cell := by decide +kernel
  have kr : lk 20 "rows" = some .cell := by decide +kernel
  have kh : lk 20 "held" = some .local := by decide +kernel
  have kl : lk 20 "letter" = some .local := by decide +kernel
  have km : lk 20 "mail" = some .local := by decide +kernel
  have kp : lk 20 "place" = some .local := by decide +kernel
  have hmf : ⟨wd, false, .list (fs.map fun x => strM (wordL x))⟩ ∈ frzAll σ.hp := mem_frz hm
  conv in (bodyOf _) => whnf
  refine XSs_cons (XS_Assign (XE_List (XA_nil ⟨Nat.zero_le _, fun D => XU_store_local ?_ kh eo⟩)) rfl)
  refine XSs_cons (XS_For (XSrc_of (XE_str ⟨_, _, XIter_str hroom.hh, fun i σ' => Le ⟨[("held", .ref D), ("words", .ref wd)], ⟨D, true, .list ((List.range i).map fun k => .int (heldI fs k))⟩ :: frzAll σ.hp, true⟩ σ', ⟨LocLe.cons put_same (LocLe.cons (put_keep rfl) (LocLe.nil _)), List.Sublist.refl _, id⟩,
    fun _ _ _ _ _ _ _ => trivial, fun i m σ' hi hle => ?_, fun σ' hle => ?_⟩)) (fun _ => rfl))
  · obtain ⟨hi5, rfl⟩ := chrs_bcdef hi
    obtain ⟨m1, m2, m3, m4, m5, m6⟩ := mail_all hfs hi5 hsz
    refine XV1.le ?_ hle
    refine XAss_Name (XU_store_local ?_ kl eo)
    refine XSs_cons (XS_Assign (XE_strL str_empty (XU_store_local ?_ km eo)) rfl)
    refine XSs_cons (XS_For (XSrc_range1 hroom.hh (XE_b g k.kb eo mem_range ⟨rfl, XE_B g k.kb eo mem_len (fun _ e => nomatch e) (XA_cons (XE_cell eo (v := .ref wd) (put_keep (put_keep rfl)) (XA_nil (XC_len_list (.tail _ hmf) (by simp; omega) ⟨fs.length, by simp, by omega,
      fun j σ' => Le ⟨[("mail", .str (mkS (mailL fs i j))), ("letter", .str (mkS [66 + i])), ("held", .ref D), ("words", .ref wd)], ⟨D, true, .list ((List.range i).map fun k => .int (heldI fs k))⟩ :: frzAll σ.hp, true⟩ σ',
      ⟨LocLe.cons put_same (LocLe.cons (put_keep put_same) (LocLe.cons (put_keep (put_keep rfl)) (LocLe.cons (put_keep (put_keep rfl)) (LocLe.nil _)))), List.Sublist.refl _, id⟩, fun _ _ _ _ _ _ _ => trivial, fun j m σ' hj hle => ?_, fun σ' hle => ?_⟩)) kw) rfl) (by kernel_rfl) rfl⟩ (by kernel_rfl)) rfl) (fun _ => rfl))
    · obtain ⟨hjn, rfl⟩ := rng_get hj
      have hfj : fs.getD j 0 = fs[j] := by simp [hjn]
      obtain ⟨f0, f32⟩ := hfs _ (List.getElem_mem hjn)
      rw [← hfj] at f0 f32
      refine XV1.le ?_ hle
      refine XAss_Name (XU_store_local ?_ kp eo)
      have hml := mail_len fs i j (fun x hx => (hfs x hx).2) hi5 (by omega)
      have hwl := wordL_len (fs.getD j 0)
      refine XSs_cons (XS_AugName (XN_local eo (v := .str (mkS (mailL fs i j))) (put_keep rfl) (XE_BinOp (XE_BinOp (XE_BinOp (XE_IfExp (XB_Compare (XE_local eo (v := .str (mkS [66 + i])) (put_keep rfl) (XE_Subscript (XE_cell eo (v := .ref wd) (put_keep rfl) (XE_local eo put_same (item_word (.tail _ hmf) hjn hsz (XV_inS (XV_truthB ⟨fun hb => ?_, fun hb => ?_⟩)) (fun _ => rfl)) kp) kw)) kl) rfl))))) km))
      all_goals
        have hbt : (fs.getD j 0).testBit i = _ := (has_letter f32 hi5).symm.trans ((StrLaws.found_one (mkS (wordL (fs.getD j 0))) (66 + i)).symm.trans hb)
        refine XE_strL (l := if (fs.getD j 0).testBit i then [46] else []) (by first | (rw [if_pos hbt]; exact str_dot) | (rw [if_neg (by rw [hbt]; simp)]; exact str_empty)) ?_
        have hd1 : (if (fs.getD j 0).testBit i then [46] else [] : List Nat).length ≤ 1 := by split <;> simp
        have hel : (eolOf j).length ≤ 2 := by
          unfold eolOf
          split
          · decide
          · split <;> decide
        refine XE_Subscript (XE_cell eo (v := .ref wd) (put_keep rfl) (XE_local eo put_same (item_word (.tail _ hmf) hjn hsz (XV_addS ?_ ?_) (fun _ => rfl)) kp) kw)
        · rw [mkS_len, mkS_len]; exact Nat.le_trans (show _ ≤ 100 by omega) (by decide)
        rw [mkS_append]
        refine XE_strL str_dot (XV_addS ?_ ?_)
        · rw [mkS_len, mkS_len]; simp only [List.length_append, List.length_cons, List.length_nil]; exact Nat.le_trans (show _ ≤ 100 by omega) (by decide)
        rw [mkS_append]
        refine XE_Subscript (XE_Tuple (XA_cons (XE_str (XA_cons (XE_str (XA_cons (XE_str (XA_nil ⟨(by decide : 3 ≤ sizeLine), XE_BinOp (XE_local eo put_same (XE_int (XV_mod (by decide) ?_)) kp)⟩)) rfl)) rfl)) rfl))
        rw [fmod3]
        refine XV_item_tup (by omega) (by omega) (eol_tup j) (XV_addS ?_ ?_) (fun _ _ => rfl)
        · rw [mkS_len, mkS_len]; simp only [List.length_append, List.length_cons, List.length_nil]; exact Nat.le_trans (show _ ≤ 100 by omega) (by decide)
        rw [mkS_append]
        refine XV_iaddS ?_ (XU_store_local (XSs_nil ⟨LocLe.cons ?_ (LocLe.cons (put_keep (put_keep rfl)) (LocLe.cons (put_keep (put_keep rfl)) (LocLe.cons (put_keep (put_keep rfl)) (LocLe.nil _)))), List.Sublist.refl _, id⟩) km eo)
        · rw [mkS_len, mkS_len]; simp only [List.length_append, List.length_cons, List.length_nil]; exact Nat.le_trans (show _ ≤ 500 by omega) (by decide)
        rw [mkS_append, mail_succ]
        exact put_same
    · refine XT.le ?_ hle
      have hrl : (rng 0 fs.length).length = fs.length := by simp [rng]
      rw [hrl]
      refine XSs_cons (XS_Assign (XE_Meth (XE_F g eo k.quote k.quoteF (by kernel_rfl) (by decide +kernel) (XA_cons (XE_local eo (v := .str (mkS (mailL fs i fs.length))) rfl (XA_nil (XC_of (quotedata_ok g k hroom fkQ m1 m2 (by rw [mkS_len]; exact Nat.le_trans m4 (by decide)) (by rw [mkS_len]; exact Nat.le_trans m5 (by decide))
        ⟨"str", "str.split", MTy.str, PySem.F.plainAttrs_str, PySem.F.slot_str_split, PySem.F.type_str_split, XA_cons (XE_str (XA_nil (XC_split ?_ ?_ fun R => ?_))) rfl⟩))) km) rfl) rfl) rfl rfl rfl rfl) rfl)
      · rw [str_crlf]; decide
      · rw [mkS_len]; exact Nat.le_trans (show _ ≤ 402 by omega) (by decide)
      have hrows : (Txt.split (mkS (dText ((fs.map fun f => lineD f i).map qLine))) (Str.ofString "\r\n")).map MV.str = (((fs.map fun f => lineD f i).map qLine).map strM) ++ [strM []] := by
        rw [str_crlf, m3, List.map_append, List.map_map]; rfl
      rw [hrows]
      refine XU_store_cell ?_ kr (by kernel_rfl) rfl eo cEnv_inj
      refine XSs_cons (XS_Expr (XE_Meth (XE_local eo (v := .ref D) (put_keep rfl) ⟨"list", "list.append", MTy.list (.tail _ (.head _)), PySem.F.plainAttrs_list, PySem.F.slot_list_append, PySem.F.type_list_append,
        XA_cons (XE_B g k.kb eo mem_sum (fun _ e => nomatch e) (XA_cons (XE_Comp hroom.hh (fHeld fs i) (cl := [("words", L + 1), ("rows", L + 2)]) (fl := [("rows", .ref R), ("words", .ref wd)]) ⟨by kernel_rfl, noCell (by decide +kernel), rfl, by decide +kernel, fun _ => rfl⟩
          (XSrc_range1 hroom.hh (XE_b g k.kb eo mem_range ⟨rfl, XE_B g k.kb eo mem_len (fun _ e => nomatch e) (XA_cons (XE_cell eo (v := .ref wd) (put_keep rfl) (XA_nil (XC_len_list (.tail _ (.tail _ hmf)) (by simp; omega) ⟨fs.length, by simp, by omega, ?_, fun _ _ _ _ => trivial,
            FlOk.cons put_same (.inl kr) (.inl (by kernel_rfl)) (by kernel_rfl) (FlOk.cons (put_keep rfl) (.inl kw) (.inl (by kernel_rfl)) (by kernel_rfl) FlOk.nil), ?_, fun Z => ?_⟩)) kw) rfl) (by kernel_rfl) rfl⟩ (by kernel_rfl)) rfl)) rfl) (by kernel_rfl) rfl) rfl⟩ kh) rfl rfl rfl rfl) rfl rfl)
      · rw [hrl]; exact Nat.le_trans hsz (by decide)
      · intro j m hj C
        obtain ⟨hjn, rfl⟩ := rng_get hj
        have hfj : fs.getD j 0 = fs[j] := by simp [hjn]
        obtain ⟨f0, f32⟩ := hfs _ (List.getElem_mem hjn)
        rw [← hfj] at f0 f32
        have hwl := wordL_len (fs.getD j 0)
        refine XAss_Name (XU_store_local (XIfs_one (XB_Compare (XE_Subscript (XE_cell (compEnvOk eo rfl) (v := .ref R) (put_keep rfl) (XE_local (compEnvOk eo rfl) put_same (XV_item_list (m := strM (qLine (lineD (fs.getD j 0) i))) (mem_frz (.head _)) (by omega) (by omega) ?_ ?_ (fun _ => rfl)) (by kernel_rfl)) (by kernel_rfl))) rfl)) (by kernel_rfl) (compEnvOk eo rfl))
        · rw [List.getElem?_append_left (by simp [hjn])]
          simp [hjn]
        refine XE_BinOp (XE_BinOp (XE_strL str_dots (XE_Subscript (XE_cell (compEnvOk eo rfl) (v := .ref wd) (put_keep rfl) (XE_local (compEnvOk eo rfl) put_same (item_word (mem_frz (.tail _ (.tail _ hmf))) hjn hsz (XV_addS ?_ ?_) (fun _ => rfl)) (by kernel_rfl)) (by kernel_rfl)))))
        · rw [mkS_len, mkS_len]; simp only [List.length_append, List.length_cons, List.length_nil]; exact Nat.le_trans (show _ ≤ 100 by omega) (by decide)
        rw [mkS_append]
        refine XE_strL str_dot (XV_addS ?_ ?_)
        · rw [mkS_len, mkS_len]; simp only [List.length_append, List.length_cons, List.length_nil]; exact Nat.le_trans (show _ ≤ 100 by omega) (by decide)
        rw [mkS_append]
        have heq : (mkS (qLine (lineD (fs.getD j 0) i)) == mkS ([46, 46] ++ wordL (fs.getD j 0) ++ [46])) = (fs.getD j 0).testBit i := by
          rw [← row_eq f0 f32 hi5]
          by_cases hq : qLine (lineD (fs.getD j 0) i) = [46, 46] ++ wordL (fs.getD j 0) ++ [46]
          · rw [hq]; simp
          · rw [beq_false_of_ne (by rw [Ne, mkS_inj]; exact hq), beq_false_of_ne hq]
        refine XV_eqS (XV_truthB ⟨fun hb => ?_, fun hb => ?_⟩)
        · rw [heq] at hb
          refine XE_BinOp (XE_int (XE_local (compEnvOk eo rfl) put_same (XV_shl (by omega) (by omega) (by decide) ?_) (by kernel_rfl)))
          show (if (fs.getD j 0).testBit i then [MV.int (1 * 2 ^ j)] else []) = _
          rw [if_pos hb]; rfl
        · rw [heq] at hb
          show (if (fs.getD j 0).testBit i then [MV.int (1 * 2 ^ j)] else []) = _
          rw [if_neg (by rw [hb]; simp)]
      · rw [fHeld_all]
        refine XA_nil (XC_sum hroom.hh (.head _) (XA_nil (XC_append (i := 2) rfl (by simp; exact Nat.le_trans (show _ ≤ 5 by omega) (by decide)) (XSs_nil ⟨LocLe.cons (put_keep rfl) (LocLe.cons (put_keep rfl) (LocLe.nil _)), ?_, id⟩))))
        have ht : (List.range (i + 1)).map (fun k => MV.int (heldI fs k)) = (List.range i).map (fun k => MV.int (heldI fs k)) ++ [MV.int (heldI fs i)] := by
          rw [List.range_succ, List.map_append]; rfl
        rw [ht]
        exact (List.sublist_cons_self _ _).trans (List.sublist_cons_self _ _)
  · refine XT.le ?_ hle
    have h5 : (chrs (Str.ofString "BCDEF")).length = 5 := by decide +kernel
    rw [h5]
    exact XSs_cons (XS_Return (XE_local eo (v := .ref D) rfl ⟨[_], List.singleton_sublist.mpr List.mem_cons_self, fmc rfl fm0, h D⟩ kh))
end
end Mine
end PartC10

section PartD4
open PySem PySem.Calls PySem.W PyProof.Rows PySem.Spec
set_option maxRecDepth 100000
set_option linter.unusedVariables false
namespace Mine

/-- the places of the sets of a kind, as bits -/
def mask : List Nat → (Nat → Bool) → Nat
  | [], _ => 0
  | f :: r, p => (if p f then 1 else 0) + 2 * mask r p
theorem mask_bit : ∀ (fs : List Nat) (p : Nat → Bool) (i : Nat), (mask fs p).testBit i = (fs[i]?).any p
  | [], p, i => by simp [mask]
  | f :: r, p, 0 => by
    show ((if p f then 1 else 0) + 2 * mask r p).testBit 0 = _
    rw [Nat.testBit_zero]
    cases h : p f <;> simp [h] <;> omega
  | f :: r, p, i + 1 => by
    show ((if p f then 1 else 0) + 2 * mask r p).testBit (i + 1) = _
    rw [Nat.testBit_succ]
    have : ((if p f then 1 else 0) + 2 * mask r p) / 2 = mask r p := by split <;> omega
    rw [this, mask_bit r p i]
    simp
theorem mask_congr {fs : List Nat} {p q : Nat → Bool} (h : ∀ x ∈ fs, p x = q x) : mask fs p = mask fs q := by
  apply Nat.eq_of_testBit_eq
  intro i
  rw [mask_bit, mask_bit]
  cases hx : fs[i]? with
  | none => rfl
  | some x => simp [h x (List.mem_of_getElem? hx)]
theorem mask_and (fs : List Nat) (p q : Nat → Bool) : mask fs p &&& mask fs q = mask fs fun x => p x && q x := by
  apply Nat.eq_of_testBit_eq
  intro i
  rw [Nat.testBit_and, mask_bit, mask_bit, mask_bit]
  cases fs[i]? <;> simp
theorem mask_or (fs : List Nat) (p q : Nat → Bool) : mask fs p ||| mask fs q = mask fs fun x => p x || q x := by
  apply Nat.eq_of_testBit_eq
  intro i
  rw [Nat.testBit_or, mask_bit, mask_bit, mask_bit]
  cases fs[i]? <;> simp
theorem mask_sum : ∀ (fs : List Nat) (p : Nat → Bool), (((List.range fs.length).filter fun i => p (fs.getD i 0)).map fun i => (2 : Int) ^ i).sum = (mask fs p : Nat)
  | [], p => rfl
  | f :: r, p => by
    have ih := mask_sum r p
    rw [List.length_cons, List.range_succ_eq_map, List.filter_cons, List.filter_map]
    have e : ((List.range r.length).filter ((fun i => p ((f :: r).getD i 0)) ∘ Nat.succ)) = (List.range r.length).filter fun i => p (r.getD i 0) := by
      congr 1
    rw [e]
    have e2 : ∀ l : List Nat, ((l.map Nat.succ).map fun i => (2 : Int) ^ i).sum = 2 * (l.map fun i => (2 : Int) ^ i).sum := by
      intro l
      induction l with
      | nil => rfl
      | cons a r ih => simp only [List.map_cons, List.sum_cons, ih]; rw [Int.pow_succ]; omega
    show _ = (((if p f then 1 else 0) + 2 * mask r p : Nat) : Int)
    have hp : p ((f :: r).getD 0 0) = p f := rfl
    rw [hp]
    cases h : p f
    · simp only [Bool.false_eq_true, if_false]
      rw [e2, ih]; omega
    · simp only [if_true, List.map_cons, List.sum_cons]
      rw [e2, ih]; omega
theorem mask_lt (fs : List Nat) (p : Nat → Bool) : mask fs p < 2 ^ fs.length := by
  induction fs with
  | nil => simp [mask]
  | cons f r ih =>
    show (if p f then 1 else 0) + 2 * mask r p < 2 ^ (r.length + 1)
    rw [Nat.pow_succ]
    split <;> omega

/-! the number of bits -/
def ones : List Char → Nat
  | [] => 0
  | c :: r => (if c = '1' then 1 else 0) + ones r
def pop : Nat → Nat → Nat
  | 0, _ => 0
  | k + 1, n => n % 2 + pop k (n / 2)
theorem pop_mask : ∀ (fs : List Nat) (p : Nat → Bool) (k : Nat), fs.length ≤ k → pop k (mask fs p) = (fs.filter p).length
  | [], p, k, _ => by
    have : ∀ k, pop k 0 = 0 := fun k => by
      induction k with
      | zero => rfl
      | succ k ih => simp [pop, ih]
    exact this k
  | f :: r, p, 0, h => by simp at h
  | f :: r, p, k + 1, h => by
    show ((if p f then 1 else 0) + 2 * mask r p) % 2 + pop k (((if p f then 1 else 0) + 2 * mask r p) / 2) = _
    have e1 : ((if p f then 1 else 0) + 2 * mask r p) / 2 = mask r p := by split <;> omega
    rw [e1, pop_mask r p k (by simpa using h), List.filter_cons]
    split <;> simp <;> omega
theorem ones_core : ∀ (fuel n : Nat) (ds : List Char) (k : Nat), n < fuel → n < 2 ^ k → ones (Nat.toDigitsCore 2 fuel n ds) = pop k n + ones ds
  | 0, n, ds, k, h, _ => by omega
  | fuel + 1, n, ds, k, h, hk => by
    unfold Nat.toDigitsCore
    have hd : ∀ ds, ones (Nat.digitChar (n % 2) :: ds) = n % 2 + ones ds := fun ds => by
      have : n % 2 = 0 ∨ n % 2 = 1 := by omega
      rcases this with h | h <;> rw [h] <;> rfl
    by_cases h0 : n / 2 = 0
    · simp only [h0, if_true]
      rw [hd]
      cases k with
      | zero =>
        have : n = 0 := by simpa using hk
        subst this; rfl
      | succ k =>
        show _ = n % 2 + pop k (n / 2) + _
        rw [h0]
        have : ∀ k, pop k 0 = 0 := fun k => by
          induction k with
          | zero => rfl
          | succ k ih => simp [pop, ih]
        rw [this]; omega
    · simp only [h0, if_false]
      cases k with
      | zero =>
        have : n = 0 := by simpa using hk
        omega
      | succ k =>
        rw [ones_core fuel (n / 2) _ k (by omega) (by rw [Nat.pow_succ] at hk; omega), hd]
        show _ = n % 2 + pop k (n / 2) + _
        omega
end Mine
end PartD4

section PartD5
open PySem PySem.Calls PySem.W PyProof.Rows PySem.Spec
set_option maxRecDepth 100000
set_option linter.unusedVariables false
namespace Mine

theorem and_nat (a b : Nat) : Builtin.bitAnd (a : Int) (b : Int) = ((a &&& b : Nat) : Int) := by
  unfold Builtin.bitAnd
  have h1 : decide (0 ≤ (a : Int)) = true := decide_eq_true (by omega)
  have h2 : decide (0 ≤ (b : Int)) = true := decide_eq_true (by omega)
  rw [h1, h2]
  rfl
theorem not_nat (a : Nat) : Builtin.bitNot (Builtin.bitNot (a : Int)) = a := by unfold Builtin.bitNot; omega
theorem or_nat (a b : Nat) : Builtin.bitOr (a : Int) (b : Int) = ((a ||| b : Nat) : Int) := by
  unfold Builtin.bitOr Builtin.bitAnd
  have h1 : decide (0 ≤ Builtin.bitNot (a : Int)) = false := decide_eq_false (by unfold Builtin.bitNot; omega)
  have h2 : decide (0 ≤ Builtin.bitNot (b : Int)) = false := decide_eq_false (by unfold Builtin.bitNot; omega)
  rw [h1, h2]
  show Builtin.bitNot (Builtin.bitNot _) = _
  rw [not_nat, not_nat, not_nat]
  rfl
theorem and_not_nat (a b : Nat) : Builtin.bitAnd (a : Int) (Builtin.bitNot (b : Int)) = (a : Int) - ((a &&& b : Nat) : Int) := by
  unfold Builtin.bitAnd
  have h1 : decide (0 ≤ (a : Int)) = true := decide_eq_true (by omega)
  have h2 : decide (0 ≤ Builtin.bitNot (b : Int)) = false := decide_eq_false (by unfold Builtin.bitNot; omega)
  rw [h1, h2]
  show (a : Int) - ((a : Int).toNat &&& (Builtin.bitNot (Builtin.bitNot (b : Int))).toNat : Nat) = _
  rw [not_nat]
  rfl
theorem and_neg1 (a : Nat) : Builtin.bitAnd (-1) (a : Int) = a := by
  unfold Builtin.bitAnd
  have h2 : decide (0 ≤ (a : Int)) = true := decide_eq_true (by omega)
  rw [show decide ((0 : Int) ≤ -1) = false from rfl, h2]
  show (a : Int) - ((a : Int).toNat &&& (Builtin.bitNot (-1)).toNat : Nat) = _
  have : (Builtin.bitNot (-1)).toNat = 0 := rfl
  rw [this, Nat.and_zero]; simp
theorem mask_split (fs : List Nat) (p q : Nat → Bool) : mask fs p = mask fs (fun x => p x && q x) + mask fs fun x => p x && !q x := by
  induction fs with
  | nil => rfl
  | cons f r ih =>
    show (if p f then 1 else 0) + 2 * mask r p = ((if (p f && q f) then 1 else 0) + 2 * mask r fun x => p x && q x) + ((if (p f && !q f) then 1 else 0) + 2 * mask r fun x => p x && !q x)
    rw [ih]
    cases p f <;> cases q f <;> simp <;> omega

theorem cnt_ones (l : List Char) : cnt 49 (l.map Char.toNat) = ones l := by
  induction l with
  | nil => rfl
  | cons a l ih =>
    rw [List.map_cons, cnt_cons, ih]
    show _ = (((if a = '1' then 1 else 0) + ones l : Nat) : Int)
    have : (a.toNat = 49) ↔ a = '1' := by
      constructor
      · intro h
        have : a.toNat = ('1').toNat := h
        exact Char.toNat_inj.mp this
      · rintro rfl; rfl
    by_cases h : a = '1'
    · rw [if_pos h, if_pos (this.mpr h)]; omega
    · rw [if_neg h, if_neg (fun q => h (this.mp q))]; omega
theorem bin_count {N k : Nat} (h : N < 2 ^ k) : Txt.count (baseText "0b" 2 (N : Int)) (Str.ofString "1") = pop k N := by
  have e1 : Str.ofString "1" = ⟨#[49]⟩ := by decide +kernel
  rw [e1, count_cnt, baseText_nonneg (by omega)]
  have e2 : (Str.ofString "" ++ Str.ofString "0b" ++ Str.ofString (String.ofList (Nat.toDigits 2 (N : Int).natAbs))).cps.toList = (Str.ofString "").cps.toList ++ (Str.ofString "0b").cps.toList ++ (Str.ofString (String.ofList (Nat.toDigits 2 N))).cps.toList := by
    rw [Str.cps_append, Str.cps_append, Array.toList_append, Array.toList_append]; rfl
  have e3 : (Str.ofString "").cps.toList = [] := by decide +kernel
  have e4 : (Str.ofString "0b").cps.toList = [48, 98] := by decide +kernel
  have e5 : (Str.ofString (String.ofList (Nat.toDigits 2 N))).cps.toList = (Nat.toDigits 2 N).map Char.toNat := by
    rw [Str.ofString_eq_toList]; simp
  rw [e2, e3, e4, e5, cnt_append, cnt_ones]
  have e6 : cnt 49 ([] ++ [48, 98]) = 0 := by decide +kernel
  rw [e6]
  have e7 := ones_core (N + 1) N [] k (by omega) h
  show (0 : Int) + (ones (Nat.toDigitsCore 2 (N + 1) N []) : Nat) = _
  rw [e7]
  simp [ones]
theorem bin_len {N : Nat} (h : N < 2 ^ 64) : (baseText "0b" 2 (N : Int)).length ≤ sizeLine := baseText_under (by decide +kernel) (by decide) (by simpa using h)
end Mine
end PartD5

section PartD6
open PySem PySem.Calls PySem.W PyProof.Rows PySem.Spec
set_option maxRecDepth 100000
set_option linter.unusedVariables false
namespace Mine

/-! the family -/
def fam (a b c f : Nat) : Bool := f &&& a == f || (f &&& b == f || f &&& c == f)
def facesL (a b c : Nat) : List Nat := ((List.range 31).map (1 + ·)).filter (fam a b c)
theorem facesL_mem {a b c x : Nat} : x ∈ facesL a b c ↔ (0 < x ∧ x < 32) ∧ fam a b c x = true := by
  unfold facesL
  rw [List.mem_filter, List.mem_map]
  constructor
  · rintro ⟨⟨i, hi, rfl⟩, h⟩
    rw [List.mem_range] at hi
    exact ⟨⟨by omega, by omega⟩, h⟩
  · rintro ⟨⟨h1, h2⟩, h⟩
    exact ⟨⟨x - 1, List.mem_range.mpr (by omega), by omega⟩, h⟩
theorem facesL_nodup (a b c : Nat) : (facesL a b c).Nodup := by
  unfold facesL
  exact List.Pairwise.sublist List.filter_sublist (by decide)
theorem facesL_len (a b c : Nat) : (facesL a b c).length ≤ 31 := by
  unfold facesL
  exact Nat.le_trans (List.length_filter_le _ _) (by simp)
theorem wordL_inj {f g : Nat} (hf : f < 32) (hg : g < 32) (h : wordL f = wordL g) : f = g := by
  have : ∀ f : Fin 32, ∀ g : Fin 32, wordL f.val = wordL g.val → f.val = g.val := by decide +kernel
  exact this ⟨f, hf⟩ ⟨g, hg⟩ h
def oddB (f : Nat) : Bool := (wordL f).length % 2 == 1
/-- the sign of a set -/
def wt (f : Nat) : Int := if oddB f then 1 else -1
theorem wt_pos (f : Nat) : decide (0 < wt f) = oddB f := by unfold wt; cases oddB f <;> rfl

/-! the table -/
def rowsOf (fs : List Nat) : List (List Nat × List Nat) := fs.flatMap fun f => (wordL f).map fun c => ([c], wordL f)
def toldOf (fs : List Nat) : List Str := fs.flatMap fun f => List.replicate (wordL f).length (mkS (wordL f))
theorem told_rows (fs : List Nat) : (rowsOf fs).map (fun r => MV.str (mkS r.2)) = (toldOf fs).map .str := by
  unfold rowsOf toldOf
  rw [List.map_flatMap, List.map_flatMap]
  congr 1
  funext f
  rw [List.map_map, List.map_replicate]
  have : ∀ l : List Nat, l.map ((fun r : List Nat × List Nat => MV.str (mkS r.2)) ∘ fun c => ([c], wordL f)) = List.replicate l.length (MV.str (mkS (wordL f))) := by
    intro l
    induction l with
    | nil => rfl
    | cons a r ih => rw [List.map_cons, ih]; rfl
  exact this _
theorem told_comp (fs : List Nat) : (fs.map fun x => strM (wordL x)).flatMap F2 = (toldOf fs).map .str := by
  unfold toldOf
  rw [List.flatMap_map, List.map_flatMap]
  congr 1
  funext f
  show List.replicate (mkS (wordL f)).cps.size _ = _
  rw [List.map_replicate]
  simp [mkS, strM]
theorem told_len (fs : List Nat) : (toldOf fs).length ≤ 5 * fs.length := by
  unfold toldOf
  induction fs with
  | nil => simp
  | cons f r ih =>
    have := wordL_len f
    rw [List.flatMap_cons, List.length_append, List.length_replicate, List.length_cons]
    omega
theorem told_count {fs : List Nat} (hn : fs.Nodup) (hfs : ∀ x ∈ fs, x < 32) {f : Nat} (hf : f ∈ fs) : countIn (.str (mkS (wordL f))) ((toldOf fs).map PyData.str) = ((wordL f).length : Nat) := by
  rw [cnt_strs]
  congr 1
  have none : ∀ l : List Nat, (∀ x ∈ l, x < 32) → f < 32 → f ∉ l → (toldOf l).count (mkS (wordL f)) = 0 := by
    intro l hl hf32 hnot
    rw [List.count_eq_zero]
    intro hm
    obtain ⟨g, hg, hm⟩ := List.mem_flatMap.mp hm
    obtain ⟨_, e⟩ := List.mem_replicate.mp hm
    rw [mkS_inj] at e
    have := wordL_inj hf32 (hl g hg) e
    subst this
    exact hnot hg
  induction fs with
  | nil => simp at hf
  | cons g r ih =>
    have e : toldOf (g :: r) = List.replicate (wordL g).length (mkS (wordL g)) ++ toldOf r := rfl
    rw [e, List.count_append]
    rw [List.nodup_cons] at hn
    have hf32 := hfs f hf
    by_cases hfg : f = g
    · subst hfg
      rw [none r (fun x hx => hfs x (List.mem_cons_of_mem _ hx)) hf32 hn.1]
      simp
    · have hfr : f ∈ r := by
        rcases List.mem_cons.mp hf with h | h
        · exact absurd h hfg
        · exact h
      rw [ih hn.2 (fun x hx => hfs x (List.mem_cons_of_mem _ hx)) hfr]
      have : (List.replicate (wordL g).length (mkS (wordL g))).count (mkS (wordL f)) = 0 := by
        rw [List.count_eq_zero]
        intro hm
        obtain ⟨_, e⟩ := List.mem_replicate.mp hm
        rw [mkS_inj] at e
        exact hfg (wordL_inj hf32 (hfs g List.mem_cons_self) e)
      rw [this]; omega
theorem rows_letter (fs : List Nat) (hfs : ∀ x ∈ fs, x < 32) {k : Nat} (hk : k < 5) : ((rowsOf fs).filter fun r => r.1 == [66 + k]).map (fun r => MV.str (mkS r.2)) = (fs.filter fun f => f.testBit k).map fun f => strM (wordL f) := by
  have one : ∀ f : Fin 32, ∀ k : Fin 5, ((wordL f.val).map fun c => ([c], wordL f.val)).filter (fun r => r.1 == [66 + k.val]) = if f.val.testBit k.val then [([66 + k.val], wordL f.val)] else [] := by decide +kernel
  unfold rowsOf
  induction fs with
  | nil => rfl
  | cons f r ih =>
    rw [List.flatMap_cons, List.filter_append, List.map_append, ih fun x hx => hfs x (List.mem_cons_of_mem _ hx), List.filter_cons]
    rw [one ⟨f, hfs f List.mem_cons_self⟩ ⟨k, hk⟩]
    show (if f.testBit k then _ else _ : List _).map _ ++ _ = _
    cases f.testBit k <;> simp [strM]
theorem rows_ok (fs : List Nat) (hfs : ∀ x ∈ fs, x < 32) : ∀ r ∈ rowsOf fs, ∃ d, r.1 = [d] ∧ 66 ≤ d ∧ d ≤ 70 := fun r hr => by
  obtain ⟨f, hf, hr⟩ := List.mem_flatMap.mp hr
  obtain ⟨c, hc, rfl⟩ := List.mem_map.mp hr
  refine ⟨c, rfl, ?_⟩
  unfold wordL at hc
  obtain ⟨k, hk, rfl⟩ := List.mem_map.mp hc
  have := List.mem_range.mp (List.mem_filter.mp hk).1
  omega
theorem rows_len (fs : List Nat) : (rowsOf fs).length ≤ 5 * fs.length := by
  have := congrArg List.length (told_rows fs)
  rw [List.length_map, List.length_map] at this
  rw [this]; exact told_len fs
theorem wordL_let {f c : Nat} (h : c ∈ wordL f) : 66 ≤ c ∧ c ≤ 70 := by
  unfold wordL at h
  obtain ⟨k, hk, rfl⟩ := List.mem_map.mp h
  have := List.mem_range.mp (List.mem_filter.mp hk).1
  omega
theorem wordL_isLet {f c : Nat} (h : c ∈ wordL f) : isLet c = true := by
  have := wordL_let h
  unfold isLet; simp; omega
/-- a word's place -/
theorem index_sum {fs : List Nat} (hn : fs.Nodup) (p : Nat → Bool) : ((fs.filter p).map fun f => (2 : Int) ^ fs.idxOf f).sum = (mask fs p : Nat) := by
  rw [← mask_sum]
  have e : fs.filter p = ((List.range fs.length).filter fun i => p (fs.getD i 0)).map fun i => fs.getD i 0 := by
    have h1 : fs = (List.range fs.length).map fun j => fs.getD j 0 := by
      apply List.ext_getElem (by simp)
      intro i h1 h2
      simp at h2
      simp [h2]
    conv => lhs; rw [h1]
    rw [List.filter_map]
    rfl
  rw [e, List.map_map]
  congr 1
  apply List.map_congr_left
  intro i hi
  have hil : i < fs.length := List.mem_range.mp (List.mem_filter.mp hi).1
  show (2 : Int) ^ fs.idxOf (fs.getD i 0) = _
  have : fs.getD i 0 = fs[i] := by simp [hil]
  rw [this, hn.idxOf_getElem i hil]
theorem heldI_mask (fs : List Nat) (k : Nat) : heldI fs k = (mask fs fun f => f.testBit k : Nat) := mask_sum fs fun f => f.testBit k
end Mine
end PartD6

section PartC11
open PySem PySem.Calls PySem.W PyProof.Rows PySem.Spec
set_option maxRecDepth 100000
set_option linter.unusedVariables false
namespace Mine

def mk3 (j x : Nat) : Nat := ((x % 32) ||| 2 ^ j) &&& ([23, 15, 29].getD j 0)
def fMk (c : List Nat) : MV → List MV
  | .int j => [.int (mk3 j.toNat (c.getD j.toNat 0) : Nat)]
  | _ => []
theorem mk3_lt (j x : Nat) : mk3 j x < 32 := by
  unfold mk3
  have h : ([23, 15, 29].getD j 0) < 2 ^ 5 := by
    match j with
    | 0 => decide
    | 1 => decide
    | 2 => decide
    | n + 3 => simp
  exact Nat.and_lt_two_pow _ h
def fFam (a b c : Nat) : MV → List MV
  | .int f => if fam a b c f.toNat then [.int f] else []
  | _ => []
theorem fFam_all (a b c : Nat) : (rng 1 31).flatMap (fFam a b c) = (facesL a b c).map intM := by
  unfold rng facesL
  rw [List.flatMap_map]
  have : ∀ l : List Nat, l.flatMap (fun i => fFam a b c (.int ((1 + i : Nat) : Int))) = ((l.map (1 + ·)).filter (fam a b c)).map intM := by
    intro l
    induction l with
    | nil => rfl
    | cons x r ih =>
      rw [List.flatMap_cons, ih, List.map_cons, List.filter_cons]
      have e : fFam a b c (.int ((1 + x : Nat) : Int)) = if fam a b c (1 + x) then [.int ((1 + x : Nat) : Int)] else [] := rfl
      rw [e]
      split <;> simp [intM]
  exact this _
theorem rng1_get {n i : Nat} {m : MV} (h : (rng 1 n)[i]? = some m) : i < n ∧ m = .int ((1 + i : Nat) : Int) := by
  unfold rng at h
  rw [List.getElem?_map] at h
  obtain ⟨j, hj, rfl⟩ := Option.map_eq_some_iff.mp h
  obtain ⟨hl, e⟩ := List.getElem?_eq_some_iff.mp hj
  rw [List.getElem_range] at e
  subst e
  exact ⟨by simpa using hl, rfl⟩
theorem fmod32 (a : Nat) : (a : Int).fmod 32 = ((a % 32 : Nat) : Int) := fmod_nat a 32
theorem beq_cast (a b : Nat) : ((a : Int) == (b : Int)) = (a == b) := by
  by_cases h : a = b
  · subst h; simp
  · rw [beq_false_of_ne (by omega), beq_false_of_ne h]
def rowsTo (fs : List Nat) (i : Nat) : List (List Nat × List Nat) := rowsOf (fs.take i)
theorem rowsTo_all (fs : List Nat) : rowsTo fs fs.length = rowsOf fs := by unfold rowsTo; rw [List.take_length]

/-- after the table is told -/
def σ1 (Dc W F T d l To : Addr) (cs : List Nat) (a b c : Nat) : Mine.St :=
  ⟨[("told", .ref To), ("table", .ref T), ("words", .ref W), ("faces", .ref F), ("c", .int c), ("b", .int b), ("a", .int a), ("cells", .ref Dc)],
    [⟨To, true, .list ((toldOf (facesL a b c)).map .str)⟩, ⟨l, true, .list ((rowsOf (facesL a b c)).map rowV)⟩, ⟨T, true, .inst 182 d⟩, ⟨d, true, .attrs l⟩, ⟨W, true, .list ((facesL a b c).map fun x => strM (wordL x))⟩, ⟨F, true, .list ((facesL a b c).map intM)⟩, ⟨Dc, true, .list (cs.map intM)⟩], true⟩
section
variable {G : Gl} {env : Env} {A : Around} {σ : St} {Φ : MV → St → Prop} {f : Addr} {fd : FuncData} {n : Nat}

theorem fam_part (eo : EnvOk env) {x v : Nat} {nm : Str} {p1 p2 p3 p4 p5 : Pos} {Ω : Bool → Mine.St → Prop} (h1 : σ.Has "face" (.int (x : Int))) (h2 : σ.Has nm (.int (v : Int))) (hf : env.kindOf "face" = some .local) (hn : env.kindOf nm = some .cell) (hd : (nm == ("__debug__" : Str)) = false)
    (hΩ : Ω (x &&& v == x) σ) : XB G env A σ (.Compare (.BinOp (.Name "face" p1) .BitAnd (.Name nm p2) p3) [.Eq] [.Name "face" p4] p5) Ω := by
  refine XB_Compare (XE_BinOp (XE_local eo h1 (XE_cell eo h2 (XV_and ?_) hn hd) hf)) rfl
  refine XE_local eo h1 (XV_eq (XV_truthB ?_)) hf
  rw [and_nat, beq_cast]
  exact hΩ

theorem law_1 (g : G.Ok) (k : AllK G.K) (fk : FnK G.K f fd (stm 22)) {L : Addr} {A' : Around} (hroom : Room A' (n + 20)) {s : Addr} {ns : List Int} {hp : List Ent} {Ψ : MF → St → Prop} (hm : ⟨s, false, .list (ns.map .int)⟩ ∈ hp) (hsz : ns.length ≤ 63)
    (next : ∀ Dc W F T d l To (cs : List Nat), cs.length = 4 → (∀ x ∈ cs, x ≤ 10000) → XSs G (cEnv fd L f) A' (σ1 Dc W F T d l To cs (mk3 0 (cs.getD 0 0)) (mk3 1 (cs.getD 1 0)) (mk3 2 (cs.getD 2 0))) ((bodyOf (stm 22)).drop 8) Ψ) :
    XSs G (cEnv fd L f) A' ⟨[("script", .ref s)], hp, true⟩ (bodyOf (stm 22)) Ψ := by
  obtain ⟨name, qualname, params, body, scope, globals, closure, defaults, kwdefaults, doc, pm, ann, code, ct, blt⟩ := fd
  obtain ⟨fd_, hs, hp', hd, hk, -⟩ := fk
  dsimp only at hs hp' hd hk
  subst hs hp' hd hk
  have eo := cEnvOk fd_ L
  obtain ⟨fdC, fkC⟩ := k.cellsF
  obtain ⟨fdW, fkW⟩ := k.wordsF
  obtain ⟨fv, fdV, hfv, fkV⟩ := k.values
  obtain ⟨fa, fdA, hfa, fkA⟩ := k.addHeader
  obtain ⟨ocV, odV, oslV, hKV⟩ := fkV.def_.look
  obtain ⟨ocA, odA, oslA, hKA⟩ := fkA.def_.look
  have hocV : ocV = .type "function" := by have := fkV.fn; rw [hKV] at this; simpa using this
  have hocA : ocA = .type "function" := by have := fkA.fn; rw [hKA] at this; simpa using this
  have kcl : lk 22 "cells" = some .cell := by decide +kernel
  have ka : lk 22 "a" = some .cell := by decide +kernel
  have kb : lk 22 "b" = some .cell := by decide +kernel
  have kc : lk 22 "c" = some .cell := by decide +kernel
  have kfa : lk 22 "faces" = some .local := by decide +kernel
  have kw : lk 22 "words" = some .cell := by decide +kernel
  have kta : lk 22 "table" = some .cell := by decide +kernel
  have kto : lk 22 "told" = some .cell := by decide +kernel
  have kwo : lk 22 "word" = some .local := by decide +kernel
  have ksi : lk 22 "sign" = some .local := by decide +kernel
  have ksc : lk 22 "script" = some .local := by decide +kernel
  conv in (occs := 1) (bodyOf _) => whnf
  -- cells
  refine XSs_cons (XS_Assign (XE_F g eo k.cells k.cellsF (by kernel_rfl) (by decide +kernel) (XA_cons (XE_local eo (v := .ref s) rfl (XA_nil (XC_of (cells_ok g k hroom fkC hm hsz fun Dc cs hc4 hcb => XU_store_cell ?_ kcl (by kernel_rfl) rfl eo cEnv_inj))) ksc) rfl) rfl) rfl)
  have hcs : ∀ j, j < 4 → cs.getD j 0 ∈ cs := fun j hj => by
    have : cs.getD j 0 = cs[j]'(by omega) := by simp [show j < cs.length by omega]
    rw [this]; exact List.getElem_mem _
  refine XT.le (σ' := ⟨[("cells", .ref Dc)], [⟨Dc, true, .list (cs.map intM)⟩], true⟩) ?_ ⟨LocLe.cons put_same (LocLe.nil _), List.singleton_sublist.mpr List.mem_cons_self, id⟩
  -- a, b, c
  refine XSs_cons (XS_AssignT (XE_Comp hroom.hh (fMk cs) (cl := [("cells", L + 1)]) (fl := [("cells", .ref Dc)]) ⟨by kernel_rfl, noCell (by decide +kernel), rfl, by decide +kernel, fun _ => rfl⟩
    (XSrc_range1 hroom.hh (XE_b g k.kb eo mem_range ⟨rfl, XE_int ⟨3, rfl, by decide, (by decide : 3 ≤ sizeLine), fun _ _ _ _ => trivial, FlOk.cons rfl (.inl kcl) (.inl (by kernel_rfl)) (by kernel_rfl) FlOk.nil, ?_, fun Z => ?_⟩⟩ (by kernel_rfl)) rfl)) rfl rfl)
  · intro j m hj C
    obtain ⟨hj3, rfl⟩ := rng_get hj
    refine XAss_Name (XU_store_local (XIfs_nil ⟨fun _ => ?_, fun q => (nomatch q)⟩) (by kernel_rfl) (compEnvOk eo rfl))
    refine XE_BinOp (XE_BinOp (XE_BinOp (XE_Subscript (XE_cell (compEnvOk eo rfl) (v := .ref Dc) (put_keep rfl) (XE_local (compEnvOk eo rfl) put_same (XV_item_list (m := intM (cs.getD j 0)) (.head _) (by omega) (by omega) (by simp [show j < cs.length by omega]) (XE_int (XV_mod (by decide) ?_)) (fun _ => rfl)) (by kernel_rfl)) (by kernel_rfl)))))
    rw [fmod32]
    refine XE_BinOp (XE_int (XE_local (compEnvOk eo rfl) put_same (XV_shl (by omega) (by omega) (by decide) ?_) (by kernel_rfl)))
    have e2 : (1 : Int) * 2 ^ ((j : Int)).toNat = ((2 ^ j : Nat) : Int) := by simp
    rw [e2]
    refine XV_or ?_
    rw [or_nat]
    refine XE_Subscript (XE_Tuple (XA_cons (XE_int (XA_cons (XE_int (XA_cons (XE_int (XA_nil ⟨(by decide : 3 ≤ sizeLine), XE_local (compEnvOk eo rfl) put_same (XV_item_tup (m := .int (([23, 15, 29].getD j 0 : Nat) : Int)) (by omega) (by omega) ?_ (XV_and ?_) (fun _ _ => rfl)) (by kernel_rfl)⟩)) rfl)) rfl)) rfl))
    · have : j = 0 ∨ j = 1 ∨ j = 2 := by omega
      rcases this with rfl | rfl | rfl <;> rfl
    rw [and_nat]
    rfl
  · have e3 : (rng 0 3).flatMap (fMk cs) = [.int (mk3 0 (cs.getD 0 0) : Nat), .int (mk3 1 (cs.getD 1 0) : Nat), .int (mk3 2 (cs.getD 2 0) : Nat)] := rfl
    rw [e3]
    refine XAss_TupleL hroom.hh (.head _) (XAs_cons (XAss_Name (XU_store_cell (XAs_cons (XAss_Name (XU_store_cell (XAs_cons (XAss_Name (XU_store_cell (XAs_nil ?_) kc (by kernel_rfl) rfl eo cEnv_inj)) rfl) kb (by kernel_rfl) rfl eo cEnv_inj)) rfl) ka (by kernel_rfl) rfl eo cEnv_inj)) rfl) rfl rfl
    generalize ea : mk3 0 (cs.getD 0 0) = a
    generalize eb : mk3 1 (cs.getD 1 0) = b
    generalize ec : mk3 2 (cs.getD 2 0) = c
    have next2 : ∀ W F T d l To, XSs G (cEnv _ L f) A' (σ1 Dc W F T d l To cs a b c) ((bodyOf (stm 22)).drop 8) Ψ := fun W F T d l To => by
      have := next Dc W F T d l To cs hc4 fun x hx => by have := hcb x hx; omega
      rw [ea, eb, ec] at this
      exact this
    clear next
    refine XT.le (σ' := ⟨[("c", .int c), ("b", .int b), ("a", .int a), ("cells", .ref Dc)], [⟨Dc, true, .list (cs.map intM)⟩], true⟩) ?_ ⟨LocLe.cons put_same (LocLe.cons (put_keep put_same) (LocLe.cons (put_keep (put_keep put_same)) (LocLe.cons (put_keep (put_keep (put_keep rfl))) (LocLe.nil _)))), List.sublist_cons_self _ _, id⟩
    -- faces
    refine XSs_cons (XS_AssignComp hroom.hh eo (fFam a b c) (cl := [("c", L + 4), ("b", L + 3), ("a", L + 2)]) (fl := [("c", .int c), ("b", .int b), ("a", .int a)]) ⟨by kernel_rfl, noCell (by decide +kernel), rfl, by decide +kernel, fun _ => rfl⟩ (by kernel_rfl) kfa
      (XSrc_range2 hroom.hh (XE_b g k.kb eo mem_range ⟨rfl, XE_int ⟨1, rfl, XE_int ⟨31, rfl, by decide, (by decide : 31 ≤ sizeLine), fun _ _ _ _ => trivial, FlOk.cons rfl (.inl kc) (.inl (by kernel_rfl)) (by kernel_rfl) (FlOk.cons rfl (.inl kb) (.inl (by kernel_rfl)) (by kernel_rfl) (FlOk.cons rfl (.inl ka) (.inl (by kernel_rfl)) (by kernel_rfl) FlOk.nil)), ?_, fun F => ?_⟩⟩⟩ (by kernel_rfl)) rfl))
    · intro i m hi C
      obtain ⟨hi31, rfl⟩ := rng1_get hi
      generalize 1 + i = x
      refine XAss_Name (XU_store_local (XIfs_one (XB_Or (fam_part (nm := "a") (v := a) (compEnvOk eo rfl) put_same (put_keep rfl) (by kernel_rfl) (by kernel_rfl) (by decide +kernel) ⟨fun h1 => ?_, fun h1 => XB_Or (fam_part (nm := "b") (v := b) (compEnvOk eo rfl) put_same (put_keep rfl) (by kernel_rfl) (by kernel_rfl) (by decide +kernel) ⟨fun h2 => ?_, fun h2 => XB_Or (fam_part (nm := "c") (v := c) (compEnvOk eo rfl) put_same (put_keep rfl) (by kernel_rfl) (by kernel_rfl) (by decide +kernel) ⟨fun h3 => ?_, fun h3 => XB_Or_nil ?_⟩)⟩)⟩))) (by kernel_rfl) (compEnvOk eo rfl))
      · refine ⟨fun _ => XE_local (compEnvOk eo rfl) put_same ?_ (by kernel_rfl), fun q => (nomatch q)⟩
        show (if fam a b c x then [MV.int (x : Int)] else []) = _
        rw [if_pos (by unfold fam; rw [h1]; rfl)]
      · refine ⟨fun _ => XE_local (compEnvOk eo rfl) put_same ?_ (by kernel_rfl), fun q => (nomatch q)⟩
        show (if fam a b c x then [MV.int (x : Int)] else []) = _
        rw [if_pos (by unfold fam; rw [h1, h2]; rfl)]
      · refine ⟨fun _ => XE_local (compEnvOk eo rfl) put_same ?_ (by kernel_rfl), fun q => (nomatch q)⟩
        show (if fam a b c x then [MV.int (x : Int)] else []) = _
        rw [if_pos (by unfold fam; rw [h1, h2, h3]; rfl)]
      · refine ⟨fun q => (nomatch q), fun _ => ?_⟩
        show (if fam a b c x then [MV.int (x : Int)] else []) = _
        rw [if_neg (by unfold fam; rw [h1, h2, h3]; simp)]
    rw [fFam_all]
    have hnd := facesL_nodup a b c
    have hlen := facesL_len a b c
    have h32 : ∀ x ∈ facesL a b c, x < 32 := fun x hx => (facesL_mem.mp hx).1.2
    unfold σ1 at next2
    generalize facesL a b c = fs at next2 hnd hlen h32
    refine XT.le (σ' := ⟨[("faces", .ref F), ("c", .int c), ("b", .int b), ("a", .int a), ("cells", .ref Dc)], [⟨F, true, .list (fs.map intM)⟩, ⟨Dc, true, .list (cs.map intM)⟩], true⟩) ?_
      ⟨LocLe.cons put_same (LocLe.cons (put_keep rfl) (LocLe.cons (put_keep rfl) (LocLe.cons (put_keep rfl) (LocLe.cons (put_keep rfl) (LocLe.nil _))))), List.Sublist.refl _, id⟩
    -- words
    refine XSs_cons (XS_Assign (XE_F g eo k.words k.wordsF (by kernel_rfl) (by decide +kernel) (XA_cons (XE_local eo (v := .ref F) rfl (XA_nil (XC_of (words_ok g k hroom fkW (.head _) (by omega) h32 fun W => XU_store_cell ?_ kw (by kernel_rfl) rfl eo cEnv_inj))) kfa) rfl) rfl) rfl)
    -- table
    refine XSs_cons (XS_Assign (XE_CallCls0 g k.keep (XE_global g eo k.cls ⟨rfl, headers_new g k hroom fun T d l => XU_store_cell ?_ kta (by kernel_rfl) rfl eo cEnv_inj⟩ (by kernel_rfl))) rfl)
    let σT : Nat → List (List Nat × List Nat) → Mine.St := fun _ rows => ⟨[("table", .ref T), ("words", .ref W), ("faces", .ref F), ("c", .int c), ("b", .int b), ("a", .int a), ("cells", .ref Dc)],
      [⟨l, true, .list (rows.map rowV)⟩, ⟨T, true, .inst 182 d⟩, ⟨d, true, .attrs l⟩, ⟨W, true, .list (fs.map fun x => strM (wordL x))⟩, ⟨F, true, .list (fs.map intM)⟩, ⟨Dc, true, .list (cs.map intM)⟩], true⟩
    have hWm : ⟨W, true, .list (fs.map fun x => strM (wordL x))⟩ ∈ (σT 0 []).hp := .tail _ (.tail _ (.tail _ (.head _)))
    refine XSs_cons (XS_For (XSrc_of (XE_cell eo (v := .ref W) (put_keep put_same) ⟨_, _, XIter_list hroom.hh (.tail _ (.tail _ (.tail _ (.head _)))), fun i σ' => Le (σT 0 (rowsTo fs i)) σ',
      ⟨LocLe.cons put_same (LocLe.cons (put_keep put_same) (LocLe.cons (put_keep (put_keep rfl)) (LocLe.cons (put_keep (put_keep rfl)) (LocLe.cons (put_keep (put_keep rfl)) (LocLe.cons (put_keep (put_keep rfl)) (LocLe.cons (put_keep (put_keep rfl)) (LocLe.nil _))))))), List.Sublist.refl _, id⟩,
      fun i σ' hle => (InvOf.list (.tail _ (.tail _ (.tail _ (.head _))))).le hle, fun i m σ' hi hle => ?_, fun σ' hle => ?_⟩ kw)) (fun _ => rfl))
    · rw [List.getElem?_map] at hi
      obtain ⟨x, hx, rfl⟩ := Option.map_eq_some_iff.mp hi
      have hil : i < fs.length := (List.getElem?_eq_some_iff.mp hx).1
      have hx32 := h32 x (List.mem_of_getElem? hx)
      have hwl := wordL_len x
      refine XV1.le ?_ hle
      refine XAss_Name (XU_store_local ?_ kwo eo)
      let rj : Nat → List (List Nat × List Nat) := fun j => rowsTo fs i ++ ((wordL x).take j).map fun c => ([c], wordL x)
      have hrlen : ∀ j, (rj j).length ≤ 200 := fun j => by
        have h1 := rows_len (fs.take i)
        have h2 : (fs.take i).length ≤ 31 := by rw [List.length_take]; omega
        show (rowsTo fs i ++ _).length ≤ 200
        rw [List.length_append, List.length_map, List.length_take]
        unfold rowsTo
        omega
      refine XSs_cons (XS_For (XSrc_of (XE_local eo (v := strM (wordL x)) put_same ⟨_, _, XIter_str hroom.hh, fun j σ' => Le ((σT 0 (rj j)).put "word" (strM (wordL x))) σ', ⟨LocLe.cons put_same (LocLe.cons (put_keep rfl) (LocLe.cons (put_keep rfl) (LocLe.cons (put_keep rfl) (LocLe.cons (put_keep rfl) (LocLe.cons (put_keep rfl) (LocLe.cons (put_keep rfl) (LocLe.cons (put_keep rfl) (LocLe.nil _)))))))), ?_, id⟩,
        fun _ _ _ _ _ _ _ => trivial, fun j m σ' hj hle => ?_, fun σ' hle => ?_⟩ kwo)) (fun _ => rfl))
      · show List.Sublist ((⟨l, true, .list ((rj 0).map rowV)⟩ : Ent) :: _) _
        have : rj 0 = rowsTo fs i := by show rowsTo fs i ++ _ = _; simp
        rw [this]
        exact List.Sublist.refl _
      · unfold chrs at hj
        rw [List.getElem?_map] at hj
        obtain ⟨ch, hch, rfl⟩ := Option.map_eq_some_iff.mp hj
        have hch' : (wordL x)[j]? = some ch := hch
        have hcm := List.mem_of_getElem? hch'
        refine XV1.le ?_ hle
        refine XAss_Name (XU_store_local ?_ ksi eo)
        have ihT : ∀ loc b, IsH ⟨loc, (σT 0 (rj j)).hp, b⟩ 182 T l := fun _ _ => ⟨true, true, d, .tail _ (.head _), .tail _ (.tail _ (.head _))⟩
        refine XSs_cons (XS_Expr (XE_MethH g k.clsK hfa hKA hocA (by decide +kernel) (XE_cell eo (v := .ref T) (put_keep (put_keep rfl)) ⟨T, l, rfl, ihT _ _, XA_cons (XE_local eo (v := strM [ch]) put_same (XA_cons (XE_local eo (v := strM (wordL x)) (put_keep put_same) (XA_nil (XC_of (add_header_ok g k hroom fkA (j := 0) (wordL_isLet hcm) (fun d hd => wordL_isLet hd) (by omega) (ihT _ _) rfl (Nat.le_trans (hrlen j) (by decide)) (XSs_nil ?_)))) kwo) rfl) ksi) rfl⟩ kta) rfl rfl rfl rfl) rfl rfl)
        refine ⟨LocLe.cons (put_keep put_same) (LocLe.cons (put_keep (put_keep rfl)) (LocLe.cons (put_keep (put_keep rfl)) (LocLe.cons (put_keep (put_keep rfl)) (LocLe.cons (put_keep (put_keep rfl)) (LocLe.cons (put_keep (put_keep rfl)) (LocLe.cons (put_keep (put_keep rfl)) (LocLe.cons (put_keep (put_keep rfl)) (LocLe.nil _)))))))), ?_, id⟩
        have : rj (j + 1) = rj j ++ [([ch], wordL x)] := by
          show rowsTo fs i ++ _ = (rowsTo fs i ++ _) ++ _
          rw [List.take_add_one, hch', List.map_append, List.append_assoc]; rfl
        show List.Sublist ((⟨l, true, .list ((rj (j + 1)).map rowV)⟩ : Ent) :: _) _
        rw [this]
        exact List.Sublist.refl _
      · have hcl : (chrs (mkS (wordL x))).length = (wordL x).length := by simp [chrs, mkS]
        refine XSs_nil (Le.trans ?_ hle)
        refine ⟨LocLe.cons (put_keep rfl) (LocLe.cons (put_keep rfl) (LocLe.cons (put_keep rfl) (LocLe.cons (put_keep rfl) (LocLe.cons (put_keep rfl) (LocLe.cons (put_keep rfl) (LocLe.cons (put_keep rfl) (LocLe.nil _))))))), ?_, id⟩
        have : rowsTo fs (i + 1) = rj (wordL x).length := by
          show rowsOf (fs.take (i + 1)) = rowsOf (fs.take i) ++ _
          rw [List.take_add_one, hx, List.take_length]
          unfold rowsOf
          rw [List.flatMap_append]; simp
        show List.Sublist ((⟨l, true, .list ((rowsTo fs (i + 1)).map rowV)⟩ : Ent) :: _) ((⟨l, true, .list ((rj (chrs (mkS (wordL x))).length).map rowV)⟩ : Ent) :: _)
        rw [this, hcl]
        exact List.Sublist.refl _
    · refine XT.le ?_ hle
      rw [List.length_map, rowsTo_all]
      have ihT : ∀ loc b, IsH ⟨loc, (σT 0 (rowsOf fs)).hp, b⟩ 182 T l := fun _ _ => ⟨true, true, d, .tail _ (.head _), .tail _ (.tail _ (.head _))⟩
      have hrl := rows_len fs
      have htl := told_len fs
      -- told
      refine XSs_cons (XS_Assign (XE_MethH g k.clsK hfv hKV hocV (by decide +kernel) (XE_cell eo (v := .ref T) rfl ⟨T, l, rfl, ihT _ _, XA_nil (XC_of (values_ok g k hroom fkV (b := true) hroom.hh (ihT _ _) (.head _) (Nat.le_trans (show _ ≤ 200 by omega) (by decide)) fun To => XU_store_cell ?_ kto (by kernel_rfl) rfl eo cEnv_inj))⟩ kta) rfl rfl rfl rfl) rfl)
      rw [told_rows]
      refine XSs_cons (XS_If (XB_Compare (XE_cell eo (v := .ref To) put_same (XE_Comp2 hroom.hh (cl := []) ⟨rfl, noCell (by decide +kernel), rfl, by decide +kernel, fun _ => rfl⟩ eo (by kernel_rfl) (by kernel_rfl) (by decide +kernel) (by decide +kernel) (fun _ _ => rfl)
        (XSrc_of (XE_cell eo (v := .ref W) (put_keep rfl) ⟨_, _, XIter_list hroom.hh (.tail _ (.tail _ (.tail _ (.tail _ (.head _))))), ⟨fs.map fun x => mkS (wordL x), by rw [List.map_map]; rfl⟩, ?_, InvOf.list (.tail _ (.tail _ (.tail _ (.tail _ (.head _))))), fun Z => ?_⟩ kw))) kto) rfl))
      · rw [told_comp, List.length_map]; exact Nat.le_trans (show _ ≤ 200 by omega) (by decide)
      rw [told_comp]
      have hstr : ∀ x ∈ toldOf fs, PyData.strOk x = true := fun x hx => by
        obtain ⟨f', hf', hx⟩ := List.mem_flatMap.mp hx
        obtain ⟨_, rfl⟩ := List.mem_replicate.mp hx
        show (mkS (wordL f')).cps.all (· < 0x110000) = true
        rw [← Array.all_toList, List.all_eq_true]
        intro c hc
        have := wordL_let (f := f') (by simpa [mkS] using hc)
        simp; omega
      refine XV_neList (.tail _ (.head _)) (.head _) (by have := hroom.units; omega) hstr hstr (XV_truthB ⟨fun hb => by simp at hb, fun _ => XSs_nil ?_⟩)
      refine XT.le ?_ (?_ : Le ⟨[("told", .ref To), ("table", .ref T), ("words", .ref W), ("faces", .ref F), ("c", .int c), ("b", .int b), ("a", .int a), ("cells", .ref Dc)], [⟨To, true, .list ((toldOf fs).map .str)⟩, ⟨l, true, .list ((rowsOf fs).map rowV)⟩, ⟨T, true, .inst 182 d⟩, ⟨d, true, .attrs l⟩, ⟨W, true, .list (fs.map fun x => strM (wordL x))⟩, ⟨F, true, .list (fs.map intM)⟩, ⟨Dc, true, .list (cs.map intM)⟩], true⟩ _)
      · exact next2 W F T d l To
      · exact ⟨LocLe.cons put_same (LocLe.cons (put_keep rfl) (LocLe.cons (put_keep rfl) (LocLe.cons (put_keep rfl) (LocLe.cons (put_keep rfl) (LocLe.cons (put_keep rfl) (LocLe.cons (put_keep rfl) (LocLe.cons (put_keep rfl) (LocLe.nil _)))))))), List.sublist_cons_self _ _, id⟩
end
end Mine
end PartC11

section PartC12
open PySem PySem.Calls PySem.W PyProof.Rows PySem.Spec
set_option maxRecDepth 100000
set_option linter.unusedVariables false
namespace Mine

def fSign : MV → List MV
  | .str w => [.int (if w.cps.size % 2 == 1 then 1 else -1)]
  | _ => []
theorem fSign_all (fs : List Nat) : (fs.map fun x => strM (wordL x)).flatMap fSign = (fs.map wt).map .int := by
  induction fs with
  | nil => rfl
  | cons f r ih =>
    rw [List.map_cons, List.flatMap_cons, ih]
    show [MV.int (if (mkS (wordL f)).cps.size % 2 == 1 then 1 else -1)] ++ _ = _
    have : (mkS (wordL f)).cps.size = (wordL f).length := by simp [mkS]
    rw [this]; rfl
def fBits (p : Nat → Bool) : MV → List MV
  | .int i => if p i.toNat then [.int (1 * 2 ^ i.toNat)] else []
  | _ => []
theorem fBits_all (p : Nat → Bool) (n : Nat) : (rng 0 n).flatMap (fBits p) = (((List.range n).filter p).map fun i => (2 : Int) ^ i).map .int := by
  unfold rng
  rw [List.flatMap_map]
  have : ∀ l : List Nat, l.flatMap (fun i => fBits p (.int ((0 + i : Nat) : Int))) = ((l.filter p).map fun i => (2 : Int) ^ i).map MV.int := by
    intro l
    induction l with
    | nil => rfl
    | cons a r ih =>
      rw [List.flatMap_cons, ih, List.filter_cons]
      have e : fBits p (.int ((0 + a : Nat) : Int)) = if p a then [.int (2 ^ a)] else [] := by
        unfold fBits; simp
      rw [e]
      split <;> simp
  exact this _
theorem chrs_lower {i : Nat} {m : MV} (h : (chrs (Str.ofString "bcdef"))[i]? = some m) : i < 5 ∧ m = .str (mkS [98 + i]) := by
  have e : (Str.ofString "bcdef").cps = #[98, 99, 100, 101, 102] := by decide +kernel
  unfold chrs at h
  rw [e] at h
  match i, h with
  | 0, h => simp at h; exact ⟨by decide, h.symm⟩
  | 1, h => simp at h; exact ⟨by decide, h.symm⟩
  | 2, h => simp at h; exact ⟨by decide, h.symm⟩
  | 3, h => simp at h; exact ⟨by decide, h.symm⟩
  | 4, h => simp at h; exact ⟨by decide, h.symm⟩
  | n + 5, h => simp at h
def fStar (fs : List Nat) : MV → List MV
  | .str x => [.int (mask fs fun f => f.testBit (x.cps.getD 0 0 - 98) : Nat)]
  | _ => []
theorem fStar_all (fs : List Nat) : (chrs (Str.ofString "bcdef")).flatMap (fStar fs) = (List.range 5).map fun k => .int (mask fs fun f => f.testBit k : Nat) := by
  have e : (Str.ofString "bcdef").cps = #[98, 99, 100, 101, 102] := by decide +kernel
  unfold chrs
  rw [e]
  rfl
def fIdx (fs : List Nat) : MV → List MV
  | .str w => [.int (1 * 2 ^ (fs.findIdx fun x => mkS (wordL x) == w))]
  | _ => []
theorem idx_word {fs : List Nat} (hfs : ∀ x ∈ fs, x < 32) {f : Nat} (hf : f < 32) : (fs.findIdx fun x => mkS (wordL x) == mkS (wordL f)) = fs.idxOf f := by
  induction fs with
  | nil => rfl
  | cons a r ih =>
    rw [List.findIdx_cons, List.idxOf_cons, ih fun x hx => hfs x (List.mem_cons_of_mem _ hx)]
    have : (mkS (wordL a) == mkS (wordL f)) = (a == f) := by
      by_cases h : a = f
      · subst h; simp
      · rw [beq_false_of_ne h, beq_false_of_ne]
        rw [Ne, mkS_inj]
        exact fun e => h (wordL_inj (hfs a List.mem_cons_self) hf e)
    rw [this]
theorem fIdx_all {fs l : List Nat} (hfs : ∀ x ∈ fs, x < 32) (hl : ∀ x ∈ l, x < 32) : (l.map fun x => strM (wordL x)).flatMap (fIdx fs) = (l.map fun f => (2 : Int) ^ fs.idxOf f).map .int := by
  induction l with
  | nil => rfl
  | cons a r ih =>
    rw [List.map_cons, List.flatMap_cons, ih fun x hx => hl x (List.mem_cons_of_mem _ hx)]
    show [MV.int (1 * 2 ^ (fs.findIdx fun x => mkS (wordL x) == mkS (wordL a)))] ++ _ = _
    rw [idx_word hfs (hl a List.mem_cons_self), Int.one_mul]
    rfl
/-- what a set hears -/
def heardI (fs : List Nat) (cl f : Nat) : Int := ((fs.filter fun z => f &&& z != 0).map fun z => giftI z cl).sum
/-- the sets that hold one -/
def overN (fs : List Nat) (f : Nat) : Nat := mask fs fun z => f &&& z == f
def σ2 (Sg Sr He Gi Du H Ab W : Addr) (fs : List Nat) (cl a b c i : Nat) : Mine.St :=
  ⟨[("above", .ref Ab), ("heard", .ref H), ("due", .ref Du), ("gifts", .ref Gi), ("held", .ref He), ("stars", .ref Sr), ("odd", .int (mask fs oddB : Nat)), ("signs", .ref Sg), ("words", .ref W), ("c", .int c), ("b", .int b), ("a", .int a)],
    [⟨Ab, true, .list ((fs.take i).map fun x => .int (overN fs x : Nat))⟩, ⟨H, true, .list ((fs.take i).map fun x => .int (heardI fs cl x))⟩, ⟨Du, true, .list (fs.map fun x => .int (giftI x cl))⟩, ⟨Gi, true, .list (fs.map fun x => .int (giftI x cl))⟩,
     ⟨He, true, .list ((List.range 5).map fun k => .int (mask fs fun f => f.testBit k : Nat))⟩, ⟨Sr, true, .list ((List.range 5).map fun k => .int (mask fs fun f => f.testBit k : Nat))⟩, ⟨Sg, true, .list ((fs.map wt).map .int)⟩, ⟨W, true, .list (fs.map fun x => strM (wordL x))⟩], true⟩
section
variable {G : Gl} {env : Env} {A : Around} {σ : St} {Φ : MV → St → Prop} {f : Addr} {fd : FuncData} {n : Nat}

theorem law_2 (g : G.Ok) (k : AllK G.K) (fk : FnK G.K f fd (stm 22)) {L : Addr} {A' : Around} (hroom : Room A' (n + 20)) {Ψ : MF → St → Prop} {Dc W F T d l To : Addr} {cs : List Nat} {a b c : Nat} (hc4 : cs.length = 4) (hcb : ∀ x ∈ cs, x ≤ 10000)
    (next : ∀ Sg Sr He Gi Du H Ab, XSs G (cEnv fd L f) A' (σ2 Sg Sr He Gi Du H Ab W (facesL a b c) (cs.getD 3 0) a b c 0) ((bodyOf (stm 22)).drop 15) Ψ) :
    XSs G (cEnv fd L f) A' (σ1 Dc W F T d l To cs a b c) ((bodyOf (stm 22)).drop 8) Ψ := by
  obtain ⟨name, qualname, params, body, scope, globals, closure, defaults, kwdefaults, doc, pm, ann, code, ct, blt⟩ := fd
  obtain ⟨fd_, hs, hp', hd, hk, -⟩ := fk
  dsimp only at hs hp' hd hk
  subst hs hp' hd hk
  have eo := cEnvOk fd_ L
  obtain ⟨fdH, fkH⟩ := k.heldF
  obtain ⟨fdG, fkG⟩ := k.giftsF
  obtain ⟨fa, fdA, hfa, fkA⟩ := k.getAll
  obtain ⟨ocA, odA, oslA, hKA⟩ := fkA.def_.look
  have hocA : ocA = .type "function" := by have := fkA.fn; rw [hKA] at this; simpa using this
  have kcl : lk 22 "cells" = some .cell := by decide +kernel
  have kfa : lk 22 "faces" = some .local := by decide +kernel
  have kw : lk 22 "words" = some .cell := by decide +kernel
  have kta : lk 22 "table" = some .cell := by decide +kernel
  have kto : lk 22 "told" = some .cell := by decide +kernel
  have ksg : lk 22 "signs" = some .cell := by decide +kernel
  have kod : lk 22 "odd" = some .local := by decide +kernel
  have ksr : lk 22 "stars" = some .local := by decide +kernel
  have khe : lk 22 "held" = some .local := by decide +kernel
  have kgi : lk 22 "gifts" = some .cell := by decide +kernel
  have kdu : lk 22 "due" = some .local := by decide +kernel
  have khd : lk 22 "heard" = some .local := by decide +kernel
  have kab : lk 22 "above" = some .local := by decide +kernel
  have hnd := facesL_nodup a b c
  have hlen := facesL_len a b c
  have h32 : ∀ x ∈ facesL a b c, 0 < x ∧ x < 32 := fun x hx => (facesL_mem.mp hx).1
  unfold σ1
  generalize facesL a b c = fs at next hnd hlen h32 ⊢
  have h32' : ∀ x ∈ fs, x < 32 := fun x hx => (h32 x hx).2
  conv in (occs := 1) (List.drop 8 _) => whnf
  -- signs
  refine XSs_cons (XS_Assign (XE_Comp hroom.hh fSign (cl := [("told", L + 7)]) (fl := [("told", .ref To)]) ⟨by kernel_rfl, noCell (by decide +kernel), rfl, by decide +kernel, fun _ => rfl⟩
    (XSrc_of (XE_cell eo (v := .ref W) rfl ⟨_, _, XIter_list hroom.hh (.tail _ (.tail _ (.tail _ (.tail _ (.head _))))), ?_, InvOf.list (.tail _ (.tail _ (.tail _ (.tail _ (.head _))))), FlOk.cons rfl (.inl kto) (.inl (by kernel_rfl)) (by kernel_rfl) FlOk.nil, ?_, fun Sg => XU_store_cell ?_ ksg (by kernel_rfl) rfl eo cEnv_inj⟩ kw))) rfl)
  · rw [List.length_map]; exact Nat.le_trans (show _ ≤ 31 by omega) (by decide)
  · intro i m hi C
    rw [List.getElem?_map] at hi
    obtain ⟨x, hx, rfl⟩ := Option.map_eq_some_iff.mp hi
    have hxm := List.mem_of_getElem? hx
    refine XAss_Name (XU_store_local (XIfs_nil ⟨fun _ => XE_IfExp (XB_plain (XE_BinOp (XE_Meth (XE_cell (compEnvOk eo rfl) (v := .ref To) (put_keep rfl) ⟨"list", "list.count", MTy.list (mem_frz (.head _)), PySem.F.plainAttrs_list, PySem.F.slot_list_count, PySem.F.type_list_count,
      XA_cons (XE_local (compEnvOk eo rfl) (v := strM (wordL x)) put_same (XA_nil (XC_listcount (mem_frz (.head _)) (XE_int (XV_mod (by decide) ?_)))) (by kernel_rfl)) rfl⟩ (by kernel_rfl)) rfl rfl rfl rfl)) (fun _ => rfl)), fun q => (nomatch q)⟩) (by kernel_rfl) (compEnvOk eo rfl))
    rw [told_count hnd h32' hxm]
    have e : ((wordL x).length : Int).fmod 2 = (((wordL x).length % 2 : Nat) : Int) := fmod_nat _ 2
    rw [e]
    have es : fSign (strM (wordL x)) = [.int (wt x)] := by
      have := fSign_all [x]
      simpa using this
    refine XV_truthI ⟨fun hb => XE_int ?_, fun hb => XE_UnaryOp (XE_int (XV_neg ?_))⟩
    · rw [es]
      have : oddB x = true := by unfold oddB; simp at hb ⊢; omega
      unfold wt; rw [this]; rfl
    · rw [es]
      have : oddB x = false := by unfold oddB; simp at hb ⊢; omega
      unfold wt; rw [this]; rfl
  rw [fSign_all]
  refine XT.le (σ' := ⟨[("signs", .ref Sg), ("table", .ref T), ("words", .ref W), ("faces", .ref F), ("c", .int c), ("b", .int b), ("a", .int a), ("cells", .ref Dc)],
    [⟨Sg, true, .list ((fs.map wt).map .int)⟩, ⟨l, true, .list ((rowsOf fs).map rowV)⟩, ⟨T, true, .inst 182 d⟩, ⟨d, true, .attrs l⟩, ⟨W, true, .list (fs.map fun x => strM (wordL x))⟩, ⟨F, true, .list (fs.map intM)⟩, ⟨Dc, true, .list (cs.map intM)⟩], true⟩) ?_
    ⟨LocLe.cons put_same (LocLe.cons (put_keep rfl) (LocLe.cons (put_keep rfl) (LocLe.cons (put_keep rfl) (LocLe.cons (put_keep rfl) (LocLe.cons (put_keep rfl) (LocLe.cons (put_keep rfl) (LocLe.cons (put_keep rfl) (LocLe.nil _)))))))), (List.sublist_cons_self _ _).cons_cons _, id⟩
  -- odd
  refine XSs_cons (XS_Assign (XE_B g k.kb eo mem_sum (fun _ e => nomatch e) (XA_cons (XE_Comp hroom.hh (fBits fun i => oddB (fs.getD i 0)) (cl := [("signs", L + 8)]) (fl := [("signs", .ref Sg)]) ⟨by kernel_rfl, noCell (by decide +kernel), rfl, by decide +kernel, fun _ => rfl⟩
    (XSrc_range1 hroom.hh (XE_b g k.kb eo mem_range ⟨rfl, XE_B g k.kb eo mem_len (fun _ e => nomatch e) (XA_cons (XE_cell eo (v := .ref W) rfl (XA_nil (XC_len_list (.tail _ (.tail _ (.tail _ (.tail _ (.head _))))) (by simp; omega) ⟨fs.length, by simp, by omega, ?_, fun _ _ _ _ => trivial,
      FlOk.cons rfl (.inl ksg) (.inl (by kernel_rfl)) (by kernel_rfl) FlOk.nil, ?_, fun Z => ?_⟩)) kw) rfl) (by kernel_rfl) rfl⟩ (by kernel_rfl)) rfl)) rfl) (by kernel_rfl) rfl) rfl)
  · simp [rng]; exact Nat.le_trans (show _ ≤ 31 by omega) (by decide)
  · intro i m hi C
    obtain ⟨hin, rfl⟩ := rng_get hi
    have hfi : fs.getD i 0 = fs[i] := by simp [hin]
    have hit : ((fs.map wt).map MV.int)[((i : Nat) : Int).toNat]? = some (.int (wt (fs.getD i 0))) := by simp [hin]
    refine XAss_Name (XU_store_local (XIfs_one (XB_Compare (XE_Subscript (XE_cell (compEnvOk eo rfl) (v := .ref Sg) (put_keep rfl) (XE_local (compEnvOk eo rfl) put_same (XV_item_list (mem_frz (.head _)) (by omega) (by omega) hit (XE_int (XV_gt (XV_truthB ?_))) (fun _ => rfl)) (by kernel_rfl)) (by kernel_rfl))) rfl)) (by kernel_rfl) (compEnvOk eo rfl))
    rw [wt_pos]
    refine ⟨fun hb => XE_BinOp (XE_int (XE_local (compEnvOk eo rfl) put_same (XV_shl (by omega) (by omega) (by decide) ?_) (by kernel_rfl))), fun hb => ?_⟩
    · show (if oddB (fs.getD i 0) then [MV.int (1 * 2 ^ i)] else []) = _
      rw [if_pos hb]; rfl
    · show (if oddB (fs.getD i 0) then [MV.int (1 * 2 ^ i)] else []) = _
      rw [if_neg (by rw [hb]; simp)]
  have hodd := mask_sum fs oddB
  rw [fBits_all]
  refine XA_nil (XC_sum hroom.hh (.head _) (XU_store_local ?_ kod eo))
  rw [hodd]
  refine XT.le (σ' := ⟨[("odd", .int (mask fs oddB : Nat)), ("signs", .ref Sg), ("table", .ref T), ("words", .ref W), ("faces", .ref F), ("c", .int c), ("b", .int b), ("a", .int a), ("cells", .ref Dc)],
    [⟨Sg, true, .list ((fs.map wt).map .int)⟩, ⟨l, true, .list ((rowsOf fs).map rowV)⟩, ⟨T, true, .inst 182 d⟩, ⟨d, true, .attrs l⟩, ⟨W, true, .list (fs.map fun x => strM (wordL x))⟩, ⟨F, true, .list (fs.map intM)⟩, ⟨Dc, true, .list (cs.map intM)⟩], true⟩) ?_
    ⟨LocLe.cons put_same (LocLe.cons (put_keep rfl) (LocLe.cons (put_keep rfl) (LocLe.cons (put_keep rfl) (LocLe.cons (put_keep rfl) (LocLe.cons (put_keep rfl) (LocLe.cons (put_keep rfl) (LocLe.cons (put_keep rfl) (LocLe.cons (put_keep rfl) (LocLe.nil _))))))))), List.sublist_cons_self _ _, id⟩
  -- stars
  have hrl := rows_len fs
  have hWstr : (fs.map fun x => strM (wordL x)) = (fs.map fun x => mkS (wordL x)).map MV.str := by rw [List.map_map]; rfl
  refine XSs_cons (XS_AssignComp hroom.hh eo (fStar fs) (cl := [("words", L + 5), ("table", L + 6)]) (fl := [("words", .ref W), ("table", .ref T)]) ⟨by kernel_rfl, noCell (by decide +kernel), rfl, by decide +kernel, fun _ => rfl⟩ (by kernel_rfl) ksr
    (XSrc_of (XE_str ⟨_, _, XIter_str hroom.hh, ?_, fun _ _ _ _ => trivial, FlOk.cons rfl (.inl kw) (.inl (by kernel_rfl)) (by kernel_rfl) (FlOk.cons rfl (.inl kta) (.inl (by kernel_rfl)) (by kernel_rfl) FlOk.nil), ?_, fun Sr => ?_⟩)))
  · have : (chrs (Str.ofString "bcdef")).length = 5 := by decide +kernel
    rw [this]; decide
  · intro i m hi C
    obtain ⟨hi5, rfl⟩ := chrs_lower hi
    refine XAss_Name (XU_store_local (XIfs_nil ⟨fun _ => ?_, fun q => (nomatch q)⟩) (by kernel_rfl) (compEnvOk eo rfl))
    refine XE_B g k.kb (compEnvOk eo rfl) mem_sum (fun _ e => nomatch e) (XA_cons (XE_Comp hroom.hh (fIdx fs) (cl := [("words", L + 5)]) (fl := [("words", .ref W)]) ⟨by kernel_rfl, noCell (by decide +kernel), rfl, by decide +kernel, fun _ => rfl⟩
      (XSrc_of (XE_MethH g k.clsK hfa hKA hocA (by decide +kernel) (XE_cell (compEnvOk eo rfl) (v := .ref T) (put_keep rfl) ⟨T, l, rfl, ⟨⟨false, false, d, mem_frz (.tail _ (.tail _ (.head _))), mem_frz (.tail _ (.tail _ (.tail _ (.head _))))⟩⟩,
        XA_cons (XE_local (compEnvOk eo rfl) (v := .str (mkS [98 + i])) put_same (XA_nil (XC_of (get_all_ok g k hroom fkA (b := false) (c := 98 + i) (by omega) (by omega) ⟨⟨false, false, d, mem_frz (.tail _ (.tail _ (.head _))), mem_frz (.tail _ (.tail _ (.tail _ (.head _))))⟩⟩ (mem_frz (.tail _ (.head _))) (Nat.le_trans (show _ ≤ 200 by omega) (by decide)) (rows_ok fs h32')
          fun D => ⟨_, _, XIter_list hroom.hh (.head _), ?_, InvOf.list (.head _), FlOk.cons (put_keep rfl) (.inl (by kernel_rfl)) (.inl (by kernel_rfl)) (by kernel_rfl) FlOk.nil, ?_, fun Z => ?_⟩))) (by kernel_rfl)) rfl⟩ (by kernel_rfl)) rfl rfl rfl rfl))) rfl) (by kernel_rfl) rfl
    · rw [List.length_map]
      exact Nat.le_trans (List.length_filter_le _ _) (Nat.le_trans (show _ ≤ 200 by omega) (by decide))
    · intro j m hj C'
      rw [show [98 + i - 32] = [66 + i] by congr 1; omega, rows_letter fs h32' hi5, List.getElem?_map] at hj
      obtain ⟨x, hx, rfl⟩ := Option.map_eq_some_iff.mp hj
      have hxm := List.mem_filter.mp (List.mem_of_getElem? hx)
      have hx32 := h32' x hxm.1
      have hlt : fs.idxOf x < fs.length := List.idxOf_lt_length_iff.mpr hxm.1
      have e2 : fIdx fs (strM (wordL x)) = [.int (1 * 2 ^ (fs.idxOf x))] := by
        show [MV.int (1 * 2 ^ (fs.findIdx fun y => mkS (wordL y) == mkS (wordL x)))] = _
        rw [idx_word h32' hx32]
      refine XAss_Name (XU_store_local (XIfs_nil ⟨fun _ => XE_BinOp (XE_int (XE_Meth (XE_cell (compEnvOk (compEnvOk eo rfl) rfl) (v := .ref W) (put_keep rfl) ⟨"list", "list.index", MTy.list (vs := fs.map fun x => strM (wordL x)) (mem_frz (.tail _ (mem_frz (.tail _ (.tail _ (.tail _ (.tail _ (.head _)))))))), PySem.F.plainAttrs_list, PySem.F.slot_list_index, PySem.F.type_list_index,
        XA_cons (XE_local (compEnvOk (compEnvOk eo rfl) rfl) (v := strM (wordL x)) put_same (XA_nil (XC_listindex (xs := fs.map fun x => mkS (wordL x)) (j := fs.idxOf x) (by rw [← hWstr]; exact mem_frz (.tail _ (mem_frz (.tail _ (.tail _ (.tail _ (.tail _ (.head _)))))))) ?_ ?_ ?_ (XV_shl (by omega) (by omega) (by decide) ?_))) (by kernel_rfl)) rfl⟩ (by kernel_rfl)) rfl rfl rfl rfl)), fun q => (nomatch q)⟩) (by kernel_rfl) (compEnvOk (compEnvOk eo rfl) rfl))
      · rw [List.getElem?_map, List.getElem?_eq_getElem hlt, List.getElem_idxOf]; rfl
      · intro i' y hi' hy
        rw [List.getElem?_map] at hy
        obtain ⟨z, hz, rfl⟩ := Option.map_eq_some_iff.mp hy
        refine beq_false_of_ne ?_
        rw [Ne, mkS_inj]
        intro e
        have := wordL_inj (h32' z (List.mem_of_getElem? hz)) hx32 e
        subst this
        have hzl : i' < fs.length := (List.getElem?_eq_some_iff.mp hz).1
        have hz' : fs[i'] = z := (List.getElem?_eq_some_iff.mp hz).2
        have := hnd.idxOf_getElem i' hzl
        rw [hz'] at this
        omega
      · rw [List.length_map]; omega
      · rw [e2]; rfl
    · rw [show [98 + i - 32] = [66 + i] by congr 1; omega, rows_letter fs h32' hi5, fIdx_all h32' fun x hx => h32' x (List.mem_filter.mp hx).1]
      refine XA_nil (XC_sum hroom.hh (.head _) ?_)
      rw [index_sum hnd]
      show [MV.int (mask fs fun f => f.testBit ((mkS [98 + i]).cps.getD 0 0 - 98) : Nat)] = _
      have : (mkS [98 + i]).cps.getD 0 0 - 98 = i := by simp [mkS]
      rw [this]
  rw [fStar_all]
  refine XT.le (σ' := ⟨[("stars", .ref Sr), ("odd", .int (mask fs oddB : Nat)), ("signs", .ref Sg), ("words", .ref W), ("faces", .ref F), ("c", .int c), ("b", .int b), ("a", .int a), ("cells", .ref Dc)],
    [⟨Sr, true, .list ((List.range 5).map fun k => .int (mask fs fun f => f.testBit k : Nat))⟩, ⟨Sg, true, .list ((fs.map wt).map .int)⟩, ⟨W, true, .list (fs.map fun x => strM (wordL x))⟩, ⟨F, true, .list (fs.map intM)⟩, ⟨Dc, true, .list (cs.map intM)⟩], true⟩) ?_
    ⟨LocLe.cons put_same (LocLe.cons (put_keep rfl) (LocLe.cons (put_keep rfl) (LocLe.cons (put_keep rfl) (LocLe.cons (put_keep rfl) (LocLe.cons (put_keep rfl) (LocLe.cons (put_keep rfl) (LocLe.cons (put_keep rfl) (LocLe.cons (put_keep rfl) (LocLe.nil _))))))))), ((((List.sublist_cons_self _ _).trans (List.sublist_cons_self _ _)).trans (List.sublist_cons_self _ _)).cons_cons _).cons_cons _, id⟩
  -- held
  have hheld : ((List.range 5).map fun k => MV.int (heldI fs k)) = (List.range 5).map fun k => .int (mask fs fun f => f.testBit k : Nat) := List.map_congr_left fun k _ => by rw [heldI_mask]
  refine XSs_cons (XS_Assign (XE_F g eo k.held k.heldF (by kernel_rfl) (by decide +kernel) (XA_cons (XE_cell eo (v := .ref W) rfl (XA_nil (XC_of (held_ok g k hroom fkH (.tail _ (.tail _ (.head _))) (by omega) h32 fun He => XU_store_local ?_ khe eo))) kw) rfl) rfl) rfl)
  rw [hheld]
  -- gifts
  refine XSs_cons (XS_AssignT (XE_F g eo k.gifts k.giftsF (by kernel_rfl) (by decide +kernel) (XA_cons (XE_local eo (v := .ref F) (put_keep rfl) (XA_cons (XE_cell eo (v := .ref W) (put_keep rfl) (XA_cons (XE_Subscript (XE_cell eo (v := .ref Dc) (put_keep rfl) (XE_int (XV_item_list (m := intM (cs.getD 3 0)) (.tail _ (.tail _ (.tail _ (.tail _ (.tail _ (.head _)))))) (by decide) (by decide) ?_
    (XA_nil (XC_of (gifts_ok g k hroom fkG (b := true) (b' := true) (fs := fs) (c := cs.getD 3 0) ?_ (by omega) h32 ?_ fun Gi Du => ?_))) (fun _ => rfl))) kcl)) rfl) kw) rfl) kfa) rfl) rfl) rfl rfl)
  · simp [show 3 < cs.length by omega]
  · exact ((((List.nil_sublist _).cons_cons _).cons_cons _).trans (List.sublist_cons_self _ _) |>.trans (List.sublist_cons_self _ _) |>.trans (List.sublist_cons_self _ _))
  · have : cs.getD 3 0 = cs[3]'(by omega) := by simp [show 3 < cs.length by omega]
    rw [this]; exact hcb _ (List.getElem_mem _)
  refine XAss_Tuple hroom.hh (XAs_cons (XAss_Name (XU_store_cell (XAs_cons (XAss_Name (XU_store_local (XAs_nil ?_) kdu eo)) rfl) kgi (by kernel_rfl) rfl eo cEnv_inj)) rfl) rfl rfl
  refine XSs_cons (XS_Assign (XE_List (XA_nil ⟨Nat.zero_le _, fun H => XU_store_local ?_ khd eo⟩)) rfl)
  refine XSs_cons (XS_Assign (XE_List (XA_nil ⟨Nat.zero_le _, fun Ab => XU_store_local ?_ kab eo⟩)) rfl)
  refine XT.le (next Sg Sr He Gi Du H Ab) ⟨LocLe.cons put_same (LocLe.cons (put_keep put_same) (LocLe.cons (put_keep (put_keep put_same)) (LocLe.cons (put_keep (put_keep (put_keep put_same))) (LocLe.cons (put_keep (put_keep (put_keep (put_keep put_same)))) (LocLe.cons (put_keep (put_keep (put_keep (put_keep (put_keep rfl))))) (LocLe.cons (put_keep (put_keep (put_keep (put_keep (put_keep rfl))))) (LocLe.cons (put_keep (put_keep (put_keep (put_keep (put_keep rfl))))) (LocLe.cons (put_keep (put_keep (put_keep (put_keep (put_keep rfl))))) (LocLe.cons (put_keep (put_keep (put_keep (put_keep (put_keep rfl))))) (LocLe.cons (put_keep (put_keep (put_keep (put_keep (put_keep rfl))))) (LocLe.cons (put_keep (put_keep (put_keep (put_keep (put_keep rfl))))) (LocLe.nil _)))))))))))), ?_, id⟩
  exact ((((((((List.nil_sublist _).cons_cons _).cons_cons _).cons_cons _).cons_cons _).cons_cons _).cons_cons _).cons_cons _).cons_cons _
end
end Mine
end PartC12

section PartC13
open PySem PySem.Calls PySem.W PyProof.Rows PySem.Spec
set_option maxRecDepth 100000
set_option linter.unusedVariables false
namespace Mine

theorem LocLe.tl {l' l : List (Str × MV)} {x : Str} {v : MV} (h : LocLe l' l) (hx : l'.lookup x = none) : LocLe l' ((x, v) :: l) := fun y u e => by
  rw [List.lookup_cons]
  split
  · rename_i q
    rw [eq_of_beq q, hx] at e; cases e
  · exact h y u e
def orI (fs ls : List Nat) : Int := if ls.isEmpty then 0 else (mask fs fun z => ls.any fun c => z.testBit (c - 66) : Nat)
def andI (fs ls : List Nat) : Int := if ls.isEmpty then -1 else (mask fs fun z => ls.all fun c => z.testBit (c - 66) : Nat)
theorem orI_snoc (fs ls : List Nat) (c : Nat) : orI fs (ls ++ [c]) = Builtin.bitOr (orI fs ls) (mask fs fun z => z.testBit (c - 66) : Nat) := by
  have e : orI fs (ls ++ [c]) = (mask fs fun z => (ls ++ [c]).any fun c => z.testBit (c - 66) : Nat) := by
    unfold orI; rw [if_neg (by simp)]
  rw [e]
  unfold orI
  split
  · rename_i h
    have : ls = [] := by simpa using h
    subst this
    have : (0 : Int) = ((0 : Nat) : Int) := rfl
    rw [this, or_nat, Nat.zero_or]
    congr 1
    exact mask_congr fun x _ => by simp
  · rw [or_nat, mask_or]
    congr 1
    exact mask_congr fun x _ => by simp
theorem andI_snoc (fs ls : List Nat) (c : Nat) : andI fs (ls ++ [c]) = Builtin.bitAnd (andI fs ls) (mask fs fun z => z.testBit (c - 66) : Nat) := by
  have e : andI fs (ls ++ [c]) = (mask fs fun z => (ls ++ [c]).all fun c => z.testBit (c - 66) : Nat) := by
    unfold andI; rw [if_neg (by simp)]
  rw [e]
  unfold andI
  split
  · rename_i h
    have : ls = [] := by simpa using h
    subst this
    rw [and_neg1]
    congr 1
    exact mask_congr fun x _ => by simp
  · rw [and_nat, mask_and]
    congr 1
    exact mask_congr fun x _ => by simp
theorem any_meet {x z : Nat} (hx : x < 32) (hz : z < 32) : ((wordL x).any fun c => z.testBit (c - 66)) = (x &&& z != 0) := by
  have : ∀ x : Fin 32, ∀ z : Fin 32, ((wordL x.val).any fun c => z.val.testBit (c - 66)) = (x.val &&& z.val != 0) := by decide +kernel
  exact this ⟨x, hx⟩ ⟨z, hz⟩
theorem all_in {x z : Nat} (hx : x < 32) (hz : z < 32) : ((wordL x).all fun c => z.testBit (c - 66)) = (x &&& z == x) := by
  have : ∀ x : Fin 32, ∀ z : Fin 32, ((wordL x.val).all fun c => z.val.testBit (c - 66)) = (x.val &&& z.val == x.val) := by decide +kernel
  exact this ⟨x, hx⟩ ⟨z, hz⟩
theorem orI_word {fs : List Nat} (hfs : ∀ z ∈ fs, z < 32) {x : Nat} (h0 : 0 < x) (hx : x < 32) : orI fs (wordL x) = (mask fs fun z => x &&& z != 0 : Nat) := by
  have hne := (wordL_ne h0 hx).1
  unfold orI
  rw [if_neg (by simpa using hne)]
  congr 1
  exact mask_congr fun z hz => any_meet hx (hfs z hz)
theorem andI_word {fs : List Nat} (hfs : ∀ z ∈ fs, z < 32) {x : Nat} (h0 : 0 < x) (hx : x < 32) : andI fs (wordL x) = (overN fs x : Nat) := by
  have hne := (wordL_ne h0 hx).1
  unfold andI
  rw [if_neg (by simpa using hne)]
  congr 1
  exact mask_congr fun z hz => all_in hx (hfs z hz)
theorem find_letter {k : Nat} (hk : k < 5) : Txt.find (Str.ofString "BCDEF") (mkS [66 + k]) = k := by
  have : ∀ k : Fin 5, Txt.find (Str.ofString "BCDEF") (mkS [66 + k.val]) = (k.val : Int) := by decide +kernel
  exact this ⟨k, hk⟩
theorem bit_at (N i : Nat) : (Builtin.bitAnd ((N : Int).fdiv (2 ^ ((i : Nat) : Int).toNat)) 1 != 0) = N.testBit i := by
  have e1 : (2 : Int) ^ ((i : Nat) : Int).toNat = ((2 ^ i : Nat) : Int) := by simp
  have e2 : (1 : Int) = ((1 : Nat) : Int) := rfl
  rw [e1, fdiv_nat, e2, and_nat, Nat.and_one_is_mod, Nat.testBit_eq_decide_div_mod_eq]
  have : N / 2 ^ i % 2 = 0 ∨ N / 2 ^ i % 2 = 1 := by omega
  rcases this with h | h <;> rw [h] <;> rfl
def fSel (fs : List Nat) (p : Nat → Bool) (v : Nat → Int) : MV → List MV
  | .int i => if p (fs.getD i.toNat 0) then [.int (v (fs.getD i.toNat 0))] else []
  | _ => []
theorem fSel_all (fs : List Nat) (p : Nat → Bool) (v : Nat → Int) : (rng 0 fs.length).flatMap (fSel fs p v) = ((fs.filter p).map v).map .int := by
  unfold rng
  rw [List.flatMap_map]
  have h1 : fs = (List.range fs.length).map fun j => fs.getD j 0 := by
    apply List.ext_getElem (by simp)
    intro i h1 h2
    simp at h2
    simp [h2]
  have : ∀ l : List Nat, l.flatMap (fun i => fSel fs p v (.int ((0 + i : Nat) : Int))) = (((l.map fun j => fs.getD j 0).filter p).map v).map MV.int := by
    intro l
    induction l with
    | nil => rfl
    | cons a r ih =>
      rw [List.flatMap_cons, ih, List.map_cons, List.filter_cons]
      have e : fSel fs p v (.int ((0 + a : Nat) : Int)) = if p (fs.getD a 0) then [.int (v (fs.getD a 0))] else [] := by
        unfold fSel; simp
      rw [e]
      split <;> simp
  rw [this, ← h1]
section
variable {G : Gl} {env : Env} {A : Around} {σ : St} {Φ : MV → St → Prop} {f : Addr} {fd : FuncData} {n : Nat}

theorem law_3 (g : G.Ok) (k : AllK G.K) (fk : FnK G.K f fd (stm 22)) {L : Addr} {A' : Around} (hroom : Room A' (n + 20)) {Ψ : MF → St → Prop} {Sg Sr He Gi Du H Ab W : Addr} {fs : List Nat} {cl a b c : Nat} (hlen : fs.length ≤ 31) (h32 : ∀ x ∈ fs, 0 < x ∧ x < 32)
    (next : XSs G (cEnv fd L f) A' (σ2 Sg Sr He Gi Du H Ab W fs cl a b c fs.length) ((bodyOf (stm 22)).drop 16) Ψ) :
    XSs G (cEnv fd L f) A' (σ2 Sg Sr He Gi Du H Ab W fs cl a b c 0) ((bodyOf (stm 22)).drop 15) Ψ := by
  obtain ⟨name, qualname, params, body, scope, globals, closure, defaults, kwdefaults, doc, pm, ann, code, ct, blt⟩ := fd
  obtain ⟨fd_, hs, hp', hd, hk, -⟩ := fk
  dsimp only at hs hp' hd hk
  subst hs hp' hd hk
  have eo := cEnvOk fd_ L
  have kw : lk 22 "words" = some .cell := by decide +kernel
  have ksr : lk 22 "stars" = some .local := by decide +kernel
  have khe : lk 22 "held" = some .local := by decide +kernel
  have kgi : lk 22 "gifts" = some .cell := by decide +kernel
  have khd : lk 22 "heard" = some .local := by decide +kernel
  have kab : lk 22 "above" = some .local := by decide +kernel
  have knr : lk 22 "near" = some .cell := by decide +kernel
  have kov : lk 22 "over" = some .local := by decide +kernel
  have kwo : lk 22 "word" = some .local := by decide +kernel
  have ksi : lk 22 "sign" = some .local := by decide +kernel
  have h32' : ∀ x ∈ fs, x < 32 := fun x hx => (h32 x hx).2
  conv in (occs := 1) (List.drop 15 _) => whnf
  have hW : ∀ i, ⟨W, true, .list (fs.map fun x => strM (wordL x))⟩ ∈ (σ2 Sg Sr He Gi Du H Ab W fs cl a b c i).hp := fun i => .tail _ (.tail _ (.tail _ (.tail _ (.tail _ (.tail _ (.tail _ (.head _)))))))
  refine XSs_cons (XS_For (XSrc_of (XE_cell eo (v := .ref W) rfl ⟨_, _, XIter_list hroom.hh (hW 0), fun i σ' => Le (σ2 Sg Sr He Gi Du H Ab W fs cl a b c i) σ', Le.refl _, fun i σ' hle => (InvOf.list (hW i)).le hle, fun i m σ' hi hle => ?_, fun σ' hle => ?_⟩ kw)) (fun _ => rfl))
  · rw [List.getElem?_map] at hi
    obtain ⟨x, hx, rfl⟩ := Option.map_eq_some_iff.mp hi
    have hil : i < fs.length := (List.getElem?_eq_some_iff.mp hx).1
    have hxm := List.mem_of_getElem? hx
    obtain ⟨hx0, hx32⟩ := h32 x hxm
    have hwl := wordL_len x
    refine XV1.le ?_ hle
    refine XAss_Name (XU_store_local ?_ kwo eo)
    refine XSs_cons (XS_Assign (XE_int (XU_store_cell ?_ knr (by kernel_rfl) rfl eo cEnv_inj)) rfl)
    refine XSs_cons (XS_Assign (XE_UnaryOp (XE_int (XV_neg (XU_store_local ?_ kov eo)))) rfl)
    let σ3 : Nat → Mine.St := fun j => (((σ2 Sg Sr He Gi Du H Ab W fs cl a b c i).put "word" (strM (wordL x))).put "near" (.int (orI fs ((wordL x).take j)))).put "over" (.int (andI fs ((wordL x).take j)))
    refine XSs_cons (XS_For (XSrc_of (XE_local eo (v := strM (wordL x)) (put_keep (put_keep put_same)) ⟨_, _, XIter_str hroom.hh, fun j σ' => Le (σ3 j) σ', Le.refl _, fun _ _ _ _ _ _ _ => trivial, fun j m σ' hj hle => ?_, fun σ' hle => ?_⟩ kwo)) (fun _ => rfl))
    · unfold chrs at hj
      rw [List.getElem?_map] at hj
      obtain ⟨ch, hch, rfl⟩ := Option.map_eq_some_iff.mp hj
      have hch' : (wordL x)[j]? = some ch := hch
      have hcm := wordL_let (List.mem_of_getElem? hch')
      have hfl : Txt.find (Str.ofString "BCDEF") (mkS [ch]) = ((ch - 66 : Nat) : Int) := by
        have := find_letter (k := ch - 66) (by omega)
        rwa [show 66 + (ch - 66) = ch by omega] at this
      have hitem : ((List.range 5).map fun k => MV.int (mask fs fun f => f.testBit k : Nat))[(((ch - 66 : Nat) : Int)).toNat]? = some (.int (mask fs fun f => f.testBit (ch - 66) : Nat)) := by
        simp [show ch - 66 < 5 by omega]
      refine XV1.le ?_ hle
      refine XAss_Name (XU_store_local ?_ ksi eo)
      refine XSs_cons (XS_AugName (XN_cell eo (v := .int (orI fs ((wordL x).take j))) (put_keep (put_keep put_same)) (XE_Subscript (XE_local eo (v := .ref Sr) (put_keep (put_keep (put_keep (put_keep rfl)))) (XE_Meth (XE_str ⟨"str", "str.index", MTy.str, PySem.F.plainAttrs_str, PySem.F.slot_str_index, PySem.F.type_str_index,
        XA_cons (XE_local eo (v := .str (mkS [ch])) put_same (XA_nil (XC_index hroom.hh (by rw [hfl]; omega) ?_)) ksi) rfl⟩) rfl rfl rfl rfl) ksr)) knr))
      rw [hfl]
      refine XV_item_list (.tail _ (.tail _ (.tail _ (.tail _ (.tail _ (.head _)))))) (by omega) (by omega) hitem (XV_ior (XU_store_cell ?_ knr (by kernel_rfl) rfl eo cEnv_inj)) (fun _ => rfl)
      refine XSs_cons (XS_AugName (XN_local eo (v := .int (andI fs ((wordL x).take j))) (put_keep (put_keep put_same)) (XE_Subscript (XE_local eo (v := .ref He) (put_keep (put_keep (put_keep (put_keep (put_keep rfl))))) (XE_Meth (XE_str ⟨"str", "str.index", MTy.str, PySem.F.plainAttrs_str, PySem.F.slot_str_index, PySem.F.type_str_index,
        XA_cons (XE_local eo (v := .str (mkS [ch])) (put_keep put_same) (XA_nil (XC_index hroom.hh (by rw [hfl]; omega) ?_)) ksi) rfl⟩) rfl rfl rfl rfl) khe)) kov))
      rw [hfl]
      refine XV_item_list (.tail _ (.tail _ (.tail _ (.tail _ (.head _))))) (by omega) (by omega) hitem (XV_iand (XU_store_local (XSs_nil ?_) kov eo)) (fun _ => rfl)
      have hts : (wordL x).take (j + 1) = (wordL x).take j ++ [ch] := by rw [List.take_add_one, hch']; rfl
      show Le ((((σ2 Sg Sr He Gi Du H Ab W fs cl a b c i).put "word" (strM (wordL x))).put "near" (.int (orI fs ((wordL x).take (j + 1))))).put "over" (.int (andI fs ((wordL x).take (j + 1))))) _
      rw [hts, orI_snoc, andI_snoc]
      refine ⟨LocLe.cons put_same (LocLe.cons (put_keep put_same) (LocLe.tl (LocLe.tl (LocLe.tl (LocLe.tl (LocLe.tl (LocLe.refl _) rfl) rfl) rfl) rfl) rfl)), List.Sublist.refl _, id⟩
    · refine XT.le ?_ hle
      have hcl : (chrs (mkS (wordL x))).length = (wordL x).length := by simp [chrs, mkS]
      have h3 : σ3 (chrs (mkS (wordL x))).length = (((σ2 Sg Sr He Gi Du H Ab W fs cl a b c i).put "word" (strM (wordL x))).put "near" (.int (mask fs fun z => x &&& z != 0 : Nat))).put "over" (.int (overN fs x : Nat)) := by
        show (((σ2 Sg Sr He Gi Du H Ab W fs cl a b c i).put "word" (strM (wordL x))).put "near" (.int (orI fs ((wordL x).take _)))).put "over" (.int (andI fs ((wordL x).take _))) = _
        rw [hcl, List.take_length, orI_word h32' hx0 hx32, andI_word h32' hx0 hx32]
      rw [h3]
      clear h3
      have hgl : ∀ j, j < fs.length → (fs.map fun x => MV.int (giftI x cl))[((j : Nat) : Int).toNat]? = some (.int (giftI (fs.getD j 0) cl)) := fun j hj => by simp [hj]
      refine XSs_cons (XS_Expr (XE_Meth (XE_local eo (v := .ref H) (put_keep (put_keep (put_keep rfl))) ⟨"list", "list.append", MTy.list (.tail _ (.head _)), PySem.F.plainAttrs_list, PySem.F.slot_list_append, PySem.F.type_list_append,
        XA_cons (XE_B g k.kb eo mem_sum (fun _ e => nomatch e) (XA_cons (XE_Comp hroom.hh (fSel fs (fun z => x &&& z != 0) fun z => giftI z cl) (cl := [("near", L + 10), ("gifts", L + 9)]) (fl := [("near", .int (mask fs fun z => x &&& z != 0 : Nat)), ("gifts", .ref Gi)]) ⟨by kernel_rfl, noCell (by decide +kernel), rfl, by decide +kernel, fun _ => rfl⟩
          (XSrc_range1 hroom.hh (XE_b g k.kb eo mem_range ⟨rfl, XE_B g k.kb eo mem_len (fun _ e => nomatch e) (XA_cons (XE_cell eo (v := .ref W) (put_keep (put_keep (put_keep rfl))) (XA_nil (XC_len_list (hW i) (by simp; omega) ⟨fs.length, by simp, by omega, ?_, fun _ _ _ _ => trivial,
            FlOk.cons (put_keep put_same) (.inl knr) (.inl (by kernel_rfl)) (by kernel_rfl) (FlOk.cons (put_keep (put_keep (put_keep rfl))) (.inl kgi) (.inl (by kernel_rfl)) (by kernel_rfl) FlOk.nil), ?_, fun Z => ?_⟩)) kw) rfl) (by kernel_rfl) rfl⟩ (by kernel_rfl)) rfl)) rfl) (by kernel_rfl) rfl) rfl⟩ khd) rfl rfl rfl rfl) rfl rfl)
      · simp [rng]; exact Nat.le_trans (show _ ≤ 31 by omega) (by decide)
      · intro j m hj C
        obtain ⟨hjn, rfl⟩ := rng_get hj
        refine XAss_Name (XU_store_local (XIfs_one (XB_plain (XE_BinOp (XE_BinOp (XE_cell (compEnvOk eo rfl) (v := .int (mask fs fun z => x &&& z != 0 : Nat)) (put_keep rfl) (XE_local (compEnvOk eo rfl) put_same (XV_shr (by omega) (XE_int (XV_and (XV_truthI ?_)))) (by kernel_rfl)) (by kernel_rfl)))) (fun _ => rfl))) (by kernel_rfl) (compEnvOk eo rfl))
        rw [bit_at, mask_bit, List.getElem?_eq_getElem hjn]
        have hfj : fs.getD j 0 = fs[j] := by simp [hjn]
        refine ⟨fun hb => XE_Subscript (XE_cell (compEnvOk eo rfl) (v := .ref Gi) (put_keep rfl) (XE_local (compEnvOk eo rfl) put_same (XV_item_list (mem_frz (.tail _ (.tail _ (.tail _ (.head _))))) (by omega) (by omega) (hgl j hjn) ?_ (fun _ => rfl)) (by kernel_rfl)) (by kernel_rfl)), fun hb => ?_⟩
        · show (if (x &&& fs.getD j 0 != 0) = true then [MV.int (giftI (fs.getD j 0) cl)] else []) = _
          rw [if_pos (by rw [hfj]; exact hb)]
        · show (if (x &&& fs.getD j 0 != 0) = true then [MV.int (giftI (fs.getD j 0) cl)] else []) = _
          rw [if_neg (by rw [hfj]; intro q; rw [show (some fs[j]).any (fun z => x &&& z != 0) = (x &&& fs[j] != 0) from rfl, q] at hb; cases hb)]
      rw [fSel_all]
      have htl : (fs.take i).length ≤ 31 := by rw [List.length_take]; omega
      refine XA_nil (XC_sum hroom.hh (.head _) (XA_nil (XC_append (i := 2) rfl (by rw [List.length_map]; exact Nat.le_trans htl (by decide)) ?_)))
      have hth : (fs.take (i + 1)).map (fun x => MV.int (heardI fs cl x)) = (fs.take i).map (fun x => MV.int (heardI fs cl x)) ++ [.int (((fs.filter fun z => x &&& z != 0).map fun z => giftI z cl).sum)] := by
        rw [List.take_add_one, hx, List.map_append]; rfl
      have hta : (fs.take (i + 1)).map (fun x => MV.int (overN fs x : Nat)) = (fs.take i).map (fun x => MV.int (overN fs x : Nat)) ++ [.int (overN fs x : Nat)] := by
        rw [List.take_add_one, hx, List.map_append]; rfl
      rw [← hth]
      refine XT.le (σ' := ⟨("over", .int (overN fs x : Nat)) :: (σ2 Sg Sr He Gi Du H Ab W fs cl a b c i).loc, ⟨Ab, true, .list ((fs.take i).map fun x => .int (overN fs x : Nat))⟩ :: (σ2 Sg Sr He Gi Du H Ab W fs cl a b c (i + 1)).hp.tail, true⟩) ?_
        ⟨LocLe.cons put_same (LocLe.tl (LocLe.tl (LocLe.tl (LocLe.refl _) rfl) rfl) rfl), List.sublist_cons_self _ _, id⟩
      refine XSs_cons (XS_Expr (XE_Meth (XE_local eo (v := .ref Ab) rfl ⟨"list", "list.append", MTy.list (.head _), PySem.F.plainAttrs_list, PySem.F.slot_list_append, PySem.F.type_list_append,
        XA_cons (XE_local eo (v := .int (overN fs x : Nat)) rfl (XA_nil (XC_append (i := 0) rfl (by rw [List.length_map]; exact Nat.le_trans htl (by decide)) ?_)) kov) rfl⟩ kab) rfl rfl rfl rfl) rfl rfl)
      rw [← hta]
      exact XSs_nil ⟨LocLe.tl (LocLe.refl _) rfl, List.Sublist.refl _, id⟩
  · refine XT.le ?_ hle
    rw [List.length_map]
    exact next
end
end Mine
end PartC13

section PartC14
open PySem PySem.Calls PySem.W PyProof.Rows PySem.Spec
set_option maxRecDepth 100000
set_option linter.unusedVariables false
namespace Mine

def bothB (x y z : Nat) : Bool := x &&& z == x && y &&& z == y
/-- how many sets hold both, with signs -/
def cntI (fs : List Nat) (x y : Nat) : Int := ((fs.filter fun z => bothB x y z && oddB z).length : Int) - ((fs.filter fun z => bothB x y z && !oddB z).length : Int)
def facI (fs : List Nat) (x y : Nat) : Int := wt x * wt y * cntI fs x y
def enI (fs : List Nat) (i : Nat) : Int := ((fs.take i).map fun f => (fs.map fun g => facI fs f g).sum).sum
theorem mask_andnot (fs : List Nat) (p q : Nat → Bool) : Builtin.bitAnd (mask fs p : Nat) (Builtin.bitNot (mask fs q : Nat)) = (mask fs fun z => p z && !q z : Nat) := by
  rw [and_not_nat, mask_and]
  have := mask_split fs p q
  omega
theorem wt_cases (x : Nat) : wt x = 1 ∨ wt x = -1 := by unfold wt; cases oddB x <;> simp
theorem wt_bits (x : Nat) (b : Int) : IntMulOk (wt x) b := by
  rcases wt_cases x with h | h <;> rw [h] <;> exact IntMulOk.of_left (by decide +kernel)
theorem wt2_bits (x y : Nat) (b : Int) : IntMulOk (wt x * wt y) b := by
  rcases wt_cases x with h | h <;> rcases wt_cases y with h' | h' <;> rw [h, h'] <;> exact IntMulOk.of_left (by decide +kernel)
theorem fac_bits {fs : List Nat} (hlen : fs.length ≤ 31) (x y : Nat) (b : Int) : IntMulOk (facI fs x y) b := by
  have h1 := List.length_filter_le (fun z => bothB x y z && oddB z) fs
  have h2 := List.length_filter_le (fun z => bothB x y z && !oddB z) fs
  have h3 : -31 ≤ cntI fs x y ∧ cntI fs x y ≤ 31 := by unfold cntI; omega
  have h4 : -31 ≤ facI fs x y ∧ facI fs x y ≤ 31 := by
    unfold facI
    rcases wt_cases x with h | h <;> rcases wt_cases y with h' | h' <;> rw [h, h'] <;> omega
  exact IntMulOk.of_left (intBits_le_64 (by omega) (by omega))
theorem bin_mask {fs : List Nat} (hlen : fs.length ≤ 31) (p : Nat → Bool) : Txt.count (baseText "0b" 2 ((mask fs p : Nat) : Int)) (Str.ofString "1") = ((fs.filter p).length : Nat) := by
  have h := mask_lt fs p
  have h31 : 2 ^ fs.length ≤ 2 ^ 31 := Nat.pow_le_pow_right (by decide) hlen
  rw [bin_count (k := 31) (by omega), pop_mask fs p 31 hlen]
theorem bin_mask_len {fs : List Nat} (hlen : fs.length ≤ 31) (p : Nat → Bool) : (baseText "0b" 2 ((mask fs p : Nat) : Int)).length ≤ sizeLine := by
  have h := mask_lt fs p
  have h31 : 2 ^ fs.length ≤ 2 ^ 31 := Nat.pow_le_pow_right (by decide) hlen
  exact bin_len (by omega)
def fPair : MV → List MV
  | .tup [.int p, .int q] => if Builtin.bitAnd p q != 0 then [.int 1] else []
  | _ => []
def pairL (a b c : Nat) : List MV := [MV.tup [.int a, .int b], MV.tup [.int a, .int c], MV.tup [.int b, .int c]]
theorem pair_len (a b c : Nat) : ((pairL a b c).flatMap fPair).length ≤ 3 := by
  have one : ∀ p q : Nat, (fPair (.tup [.int p, .int q])).length ≤ 1 := fun p q => by
    show (if Builtin.bitAnd p q != 0 then [MV.int 1] else []).length ≤ 1
    split <;> simp
  have h1 := one a b
  have h2 := one a c
  have h3 := one b c
  have : (pairL a b c).flatMap fPair = fPair (.tup [.int a, .int b]) ++ (fPair (.tup [.int a, .int c]) ++ (fPair (.tup [.int b, .int c]) ++ [])) := rfl
  rw [this, List.length_append, List.length_append, List.length_append, List.length_nil]
  omega
/-- Euler's number, told by the three -/
def eulI (a b c : Nat) : Int := 3 - (((pairL a b c).flatMap fPair).length : Nat) + (if a &&& b &&& c != 0 then 1 else 0)

def σ4 (Sg Du H Ab W : Addr) (fs : List Nat) (cl a b c : Nat) : Mine.St :=
  ⟨[("above", .ref Ab), ("heard", .ref H), ("due", .ref Du), ("odd", .int (mask fs oddB : Nat)), ("signs", .ref Sg), ("words", .ref W), ("c", .int c), ("b", .int b), ("a", .int a)],
    [⟨Ab, true, .list (fs.map fun x => .int (overN fs x : Nat))⟩, ⟨H, true, .list (fs.map fun x => .int (heardI fs cl x))⟩, ⟨Du, true, .list (fs.map fun x => .int (giftI x cl))⟩,
     ⟨Sg, true, .list ((fs.map wt).map .int)⟩, ⟨W, true, .list (fs.map fun x => strM (wordL x))⟩], true⟩
section
variable {G : Gl} {env : Env} {A : Around} {σ : St} {Φ : MV → St → Prop} {f : Addr} {fd : FuncData} {n : Nat}

theorem law_4 (g : G.Ok) (k : AllK G.K) (fk : FnK G.K f fd (stm 22)) {L : Addr} {A' : Around} (hroom : Room A' (n + 20)) {Ψ : MF → St → Prop} {Sg Du H Ab W : Addr} {fs : List Nat} {cl a b c : Nat} (hlen : fs.length ≤ 31)
    (hback : ∀ x ∈ fs, (fs.map fun y => facI fs x y * heardI fs cl y).sum = giftI x cl) (hen : (fs.map fun x => (fs.map fun y => facI fs x y).sum).sum = eulI a b c)
    (hΨ : ∀ σ', Ψ (.ret (.bool true)) σ') :
    XSs G (cEnv fd L f) A' (σ4 Sg Du H Ab W fs cl a b c) ((bodyOf (stm 22)).drop 16) Ψ := by
  obtain ⟨name, qualname, params, body, scope, globals, closure, defaults, kwdefaults, doc, pm, ann, code, ct, blt⟩ := fd
  obtain ⟨fd_, hs, hp', hd, hk, -⟩ := fk
  dsimp only at hs hp' hd hk
  subst hs hp' hd hk
  have eo := cEnvOk fd_ L
  have kw : lk 22 "words" = some .cell := by decide +kernel
  have ka : lk 22 "a" = some .cell := by decide +kernel
  have kb : lk 22 "b" = some .cell := by decide +kernel
  have kc : lk 22 "c" = some .cell := by decide +kernel
  have ksg : lk 22 "signs" = some .cell := by decide +kernel
  have kod : lk 22 "odd" = some .local := by decide +kernel
  have kdu : lk 22 "due" = some .local := by decide +kernel
  have khd : lk 22 "heard" = some .local := by decide +kernel
  have kab : lk 22 "above" = some .local := by decide +kernel
  have ken : lk 22 "energy" = some .local := by decide +kernel
  have kx : lk 22 "x" = some .local := by decide +kernel
  have kbk : lk 22 "back" = some .local := by decide +kernel
  have ky : lk 22 "y" = some .local := by decide +kernel
  have kbo : lk 22 "both" = some .local := by decide +kernel
  have kfc : lk 22 "factor" = some .local := by decide +kernel
  have kpr : lk 22 "pairs" = some .local := by decide +kernel
  conv in (occs := 1) (List.drop 16 _) => whnf
  have hW : ⟨W, true, .list (fs.map fun x => strM (wordL x))⟩ ∈ (σ4 Sg Du H Ab W fs cl a b c).hp := .tail _ (.tail _ (.tail _ (.tail _ (.head _))))
  have hSg : ⟨Sg, true, .list ((fs.map wt).map .int)⟩ ∈ (σ4 Sg Du H Ab W fs cl a b c).hp := .tail _ (.tail _ (.tail _ (.head _)))
  have hDu : ⟨Du, true, .list (fs.map fun x => .int (giftI x cl))⟩ ∈ (σ4 Sg Du H Ab W fs cl a b c).hp := .tail _ (.tail _ (.head _))
  have hH : ⟨H, true, .list (fs.map fun x => .int (heardI fs cl x))⟩ ∈ (σ4 Sg Du H Ab W fs cl a b c).hp := .tail _ (.head _)
  have hAb : ⟨Ab, true, .list (fs.map fun x => .int (overN fs x : Nat))⟩ ∈ (σ4 Sg Du H Ab W fs cl a b c).hp := .head _
  have hen' : enI fs fs.length = eulI a b c := by unfold enI; rw [List.take_length]; exact hen
  have hn0 : ∀ v : Nat → MV, ∀ j, j < fs.length → (fs.map v)[((j : Nat) : Int).toNat]? = some (v (fs.getD j 0)) := fun v j hj => by simp [hj]
  have hS0 : ∀ j, j < fs.length → ((fs.map wt).map MV.int)[((j : Nat) : Int).toNat]? = some (.int (wt (fs.getD j 0))) := fun j hj => by simp [hj]
  refine XSs_cons (XS_Assign (XE_int (XU_store_local ?_ ken eo)) rfl)
  refine XSs_cons (XS_For (XSrc_range1 hroom.hh (XE_b g k.kb eo mem_range ⟨rfl, XE_B g k.kb eo mem_len (fun _ e => nomatch e) (XA_cons (XE_cell eo (v := .ref W) (put_keep rfl) (XA_nil (XC_len_list hW (by simp; omega) ⟨fs.length, by simp, by omega,
    fun i σ' => Le ((σ4 Sg Du H Ab W fs cl a b c).put "energy" (.int (enI fs i))) σ', Le.refl _, fun _ _ _ _ _ _ _ => trivial, fun i m σ' hi hle => ?_, fun σ' hle => ?_⟩)) kw) rfl) (by kernel_rfl) rfl⟩ (by kernel_rfl)) rfl) (fun _ => rfl))
  · obtain ⟨hin, rfl⟩ := rng_get hi
    have hxi : fs.getD i 0 = fs[i] := by simp [hin]
    have hxm : fs.getD i 0 ∈ fs := by rw [hxi]; exact List.getElem_mem hin
    have hti : fs[i]? = some (fs.getD i 0) := by simp [hin]
    have hA1 := hn0 (fun x => .int (overN fs x : Nat)) i hin
    have hD1 := hn0 (fun x => .int (giftI x cl)) i hin
    have hS1 := hS0 i hin
    have hens : enI fs (i + 1) = enI fs i + (fs.map fun y => facI fs (fs.getD i 0) y).sum := by
      unfold enI
      rw [List.take_add_one, hti, List.map_append, List.sum_append]; simp
    have hbx := hback _ hxm
    generalize fs.getD i 0 = x at hxi hxm hA1 hD1 hS1 hens hbx
    refine XV1.le ?_ hle
    refine XAss_Name (XU_store_local ?_ kx eo)
    refine XSs_cons (XS_Assign (XE_int (XU_store_local ?_ kbk eo)) rfl)
    let enj : Nat → Int := fun j => enI fs i + ((fs.take j).map fun y => facI fs x y).sum
    let bkj : Nat → Int := fun j => ((fs.take j).map fun y => facI fs x y * heardI fs cl y).sum
    let σ5 : Nat → Mine.St := fun j => ((((σ4 Sg Du H Ab W fs cl a b c).put "energy" (.int (enj j))).put "x" (.int (i : Nat))).put "back" (.int (bkj j)))
    refine XSs_cons (XS_For (XSrc_range1 hroom.hh (XE_b g k.kb eo mem_range ⟨rfl, XE_B g k.kb eo mem_len (fun _ e => nomatch e) (XA_cons (XE_cell eo (v := .ref W) (put_keep (put_keep (put_keep rfl))) (XA_nil (XC_len_list hW (by simp; omega) ⟨fs.length, by simp, by omega,
      fun j σ' => Le (σ5 j) σ', ⟨?_, List.Sublist.refl _, id⟩, fun _ _ _ _ _ _ _ => trivial, fun j m σ' hj hle => ?_, fun σ' hle => ?_⟩)) kw) rfl) (by kernel_rfl) rfl⟩ (by kernel_rfl)) rfl) (fun _ => rfl))
    · have e0 : enj 0 = enI fs i := by show enI fs i + _ = _; simp
      show LocLe ((((σ4 Sg Du H Ab W fs cl a b c).put "energy" (.int (enj 0))).put "x" (.int (i : Nat))).put "back" (.int (bkj 0))).loc _
      rw [e0]
      exact LocLe.refl _
    · obtain ⟨hjn, rfl⟩ := rng_get hj
      have htj : fs[j]? = some (fs.getD j 0) := by simp [hjn]
      have hA2 := hn0 (fun x => .int (overN fs x : Nat)) j hjn
      have hH2 := hn0 (fun x => .int (heardI fs cl x)) j hjn
      have hS2 := hS0 j hjn
      have hes : enj (j + 1) = enj j + facI fs x (fs.getD j 0) := by
        show enI fs i + _ = enI fs i + _ + _
        rw [List.take_add_one, htj, List.map_append, List.sum_append]; simp; omega
      have hbs : bkj (j + 1) = bkj j + facI fs x (fs.getD j 0) * heardI fs cl (fs.getD j 0) := by
        show List.sum _ = List.sum _ + _
        rw [List.take_add_one, htj, List.map_append, List.sum_append]; simp
      generalize fs.getD j 0 = y at hA2 hH2 hS2 hes hbs
      refine XV1.le ?_ hle
      refine XAss_Name (XU_store_local ?_ ky eo)
      have hbo : Builtin.bitAnd (overN fs x : Nat) (overN fs y : Nat) = (mask fs (bothB x y) : Nat) := by
        unfold overN; rw [and_nat, mask_and]; rfl
      have hod : Builtin.bitAnd (mask fs (bothB x y) : Nat) (mask fs oddB : Nat) = (mask fs (fun z => bothB x y z && oddB z) : Nat) := by rw [and_nat, mask_and]
      have hev := mask_andnot fs (bothB x y) oddB
      refine XSs_cons (XS_Assign (XE_BinOp (XE_Subscript (XE_local eo (v := .ref Ab) (put_keep (put_keep (put_keep (put_keep rfl)))) (XE_local eo (v := .int (i : Nat)) (put_keep (put_keep put_same)) (XV_item_list hAb (by omega) (by omega) hA1
        (XE_Subscript (XE_local eo (v := .ref Ab) (put_keep (put_keep (put_keep (put_keep rfl)))) (XE_local eo put_same (XV_item_list hAb (by omega) (by omega) hA2 (XV_and ?_) (fun _ => rfl)) ky) kab)) (fun _ => rfl)) kx) kab))) rfl)
      rw [hbo]
      refine XU_store_local ?_ kbo eo
      refine XSs_cons (XS_Assign (XE_BinOp (XE_BinOp (XE_Subscript (XE_cell eo (v := .ref Sg) (put_keep (put_keep (put_keep (put_keep (put_keep rfl))))) (XE_local eo (v := .int (i : Nat)) (put_keep (put_keep (put_keep put_same))) (XV_item_list hSg (by omega) (by omega) hS1
        (XE_Subscript (XE_cell eo (v := .ref Sg) (put_keep (put_keep (put_keep (put_keep (put_keep rfl))))) (XE_local eo (put_keep put_same) (XV_item_list hSg (by omega) (by omega) hS2 (XV_mul (wt_bits x _)
          (XE_BinOp (XE_Meth (XE_B g k.kb eo mem_bin (fun _ e => nomatch e) (XA_cons (XE_BinOp (XE_local eo put_same (XE_local eo (v := .int (mask fs oddB : Nat)) (put_keep (put_keep (put_keep (put_keep (put_keep rfl))))) (XV_and ?_) kod) kbo)) rfl) (by kernel_rfl) rfl) rfl rfl rfl rfl)))
          (fun _ => rfl)) ky) ksg)) (fun _ => rfl)) kx) ksg)))) rfl)
      rw [hod]
      refine XA_nil (XC_bin (bin_mask_len hlen _) ⟨"str", "str.count", MTy.str, PySem.F.plainAttrs_str, PySem.F.slot_str_count, PySem.F.type_str_count, XA_cons (XE_str (XA_nil (XC_count ?_))) rfl⟩)
      rw [bin_mask hlen]
      refine XE_Meth (XE_B g k.kb eo mem_bin (fun _ e => nomatch e) (XA_cons (XE_BinOp (XE_local eo put_same (XE_UnaryOp (XE_local eo (v := .int (mask fs oddB : Nat)) (put_keep (put_keep (put_keep (put_keep (put_keep rfl))))) (XV_inv (XV_and ?_)) kod)) kbo)) rfl) (by kernel_rfl) rfl) rfl rfl rfl rfl
      rw [hev]
      refine XA_nil (XC_bin (bin_mask_len hlen _) ⟨"str", "str.count", MTy.str, PySem.F.plainAttrs_str, PySem.F.slot_str_count, PySem.F.type_str_count, XA_cons (XE_str (XA_nil (XC_count ?_))) rfl⟩)
      rw [bin_mask hlen]
      refine XV_sub (XV_mul (wt2_bits x y _) (XU_store_local ?_ kfc eo))
      refine XT.le (σ' := (((((σ5 j).put "y" (.int (j : Nat))).put "both" (.int (mask fs (bothB x y) : Nat))).put "factor" (.int (facI fs x y))))) ?_ (Le.refl _)
      refine XSs_cons (XS_AugName (XN_local eo (v := .int (bkj j)) (put_keep (put_keep (put_keep put_same))) (XE_BinOp (XE_local eo put_same (XE_Subscript (XE_local eo (v := .ref H) (put_keep (put_keep (put_keep (put_keep (put_keep (put_keep rfl)))))) (XE_local eo (put_keep (put_keep put_same)) (XV_item_list hH (by omega) (by omega) hH2
        (XV_mul (fac_bits hlen x y _) (XV_iadd (XU_store_local ?_ kbk eo))) (fun _ => rfl)) ky) khd)) kfc)) kbk))
      refine XSs_cons (XS_AugName (XN_local eo (v := .int (enj j)) (put_keep (put_keep (put_keep (put_keep (put_keep (put_keep put_same)))))) (XE_local eo (put_keep put_same) (XV_iadd (XU_store_local (XSs_nil ?_) ken eo)) kfc) ken))
      rw [← hbs, ← hes]
      exact ⟨LocLe.cons (put_keep put_same) (LocLe.cons (put_keep (put_keep (put_keep (put_keep (put_keep (put_keep put_same)))))) (LocLe.cons put_same
        (LocLe.tl (LocLe.tl (LocLe.tl (LocLe.tl (LocLe.tl (LocLe.tl (LocLe.tl (LocLe.tl (LocLe.refl _) rfl) rfl) rfl) rfl) rfl) rfl) rfl) rfl))), List.Sublist.refl _, id⟩
    · refine XT.le ?_ hle
      have hrl : (rng 0 fs.length).length = fs.length := by simp [rng]
      have e1 : enj fs.length = enI fs (i + 1) := by show enI fs i + _ = _; rw [List.take_length, hens]
      have e2 : bkj fs.length = giftI x cl := by show List.sum _ = _; rw [List.take_length, hbx]
      rw [hrl]
      show XSs G _ A' ((((σ4 Sg Du H Ab W fs cl a b c).put "energy" (.int (enj fs.length))).put "x" (.int (i : Nat))).put "back" (.int (bkj fs.length))) _ _
      rw [e1, e2]
      refine XSs_cons (XS_If (XB_Compare (XE_local eo put_same (XE_Subscript (XE_local eo (v := .ref Du) (put_keep (put_keep (put_keep rfl))) (XE_local eo (put_keep put_same) (XV_item_list hDu (by omega) (by omega) hD1 (XV_ne (XV_truthB ?_)) (fun _ => rfl)) kx) kdu)) kbk) rfl))
      refine ⟨fun hb => by simp at hb, fun _ => XSs_nil (XSs_nil ⟨?_, List.Sublist.refl _, id⟩)⟩
      exact LocLe.tl (LocLe.tl (LocLe.refl _) rfl) rfl
  · refine XT.le ?_ hle
    have hrl : (rng 0 fs.length).length = fs.length := by simp [rng]
    rw [hrl, hen']
    have h2 : 2 ≤ sizeLine := by decide
    have h3 : 3 ≤ sizeLine := by decide
    refine XSs_cons (XS_AssignComp hroom.hh eo fPair (cl := []) (fl := []) ⟨rfl, noCell (by decide +kernel), rfl, by decide +kernel, fun _ => rfl⟩ (by kernel_rfl) kpr
      (XSrc_of (XE_Tuple (XA_cons (XE_Tuple (XA_cons (XE_cell eo (v := .int a) (put_keep rfl) (XA_cons (XE_cell eo (v := .int b) (put_keep rfl) (XA_nil ⟨h2,
        XA_cons (XE_Tuple (XA_cons (XE_cell eo (v := .int a) (put_keep rfl) (XA_cons (XE_cell eo (v := .int c) (put_keep rfl) (XA_nil ⟨h2,
        XA_cons (XE_Tuple (XA_cons (XE_cell eo (v := .int b) (put_keep rfl) (XA_cons (XE_cell eo (v := .int c) (put_keep rfl) (XA_nil ⟨h2, XA_nil ⟨h3, _, _, XIter_tup hroom.hh, h3, fun _ _ _ _ => trivial, FlOk.nil, ?_, fun P => ?_⟩⟩) kc) rfl) kb) rfl)) rfl⟩) kc) rfl) ka) rfl)) rfl⟩) kb) rfl) ka) rfl)) rfl))))
    · intro i m hi C
      obtain ⟨p, q, rfl⟩ : ∃ p q : Nat, m = .tup [.int p, .int q] := by
        match i, hi with
        | 0, hi => cases hi; exact ⟨a, b, rfl⟩
        | 1, hi => cases hi; exact ⟨a, c, rfl⟩
        | 2, hi => cases hi; exact ⟨b, c, rfl⟩
        | n + 3, hi => simp at hi
      refine XAss_Tuple hroom.hh (XAs_cons (XAss_Name (XU_store_local (XAs_cons (XAss_Name (XU_store_local (XAs_nil (XIfs_one (XB_Compare (XE_BinOp (XE_local (compEnvOk eo rfl) (v := .int p) (put_keep put_same) (XE_local (compEnvOk eo rfl) (v := .int q) put_same (XV_and (XE_int (XV_ne (XV_truthB
          ⟨fun hb => XE_int ?_, fun hb => ?_⟩)))) (by kernel_rfl)) (by kernel_rfl))) rfl))) (by kernel_rfl) (compEnvOk eo rfl))) rfl) (by kernel_rfl) (compEnvOk eo rfl))) rfl) rfl rfl
      · show (if Builtin.bitAnd p q != 0 then [MV.int 1] else []) = _
        rw [if_pos hb]
      · show (if Builtin.bitAnd p q != 0 then [MV.int 1] else []) = _
        rw [if_neg (by rw [hb]; simp)]
    refine XSs_cons (XS_Return (XE_Compare (XE_local eo (v := .int (eulI a b c)) (put_keep put_same) (XE_BinOp (XE_BinOp (XE_int (XE_B g k.kb eo mem_len (fun _ e => nomatch e) (XA_cons (XE_local eo (v := .ref P) put_same (XA_nil (XC_len_list (.head _) ?_ (XV_sub ?_))) kpr) rfl) (by kernel_rfl) rfl))))  ken) rfl))
    · exact Nat.lt_of_le_of_lt (pair_len a b c) (by decide)
    have hab : Builtin.bitAnd (Builtin.bitAnd (a : Int) b) c = ((a &&& b &&& c : Nat) : Int) := by rw [and_nat, and_nat]
    refine XE_IfExp (XB_Compare (XE_BinOp (XE_BinOp (XE_cell eo (v := .int a) (put_keep (put_keep rfl)) (XE_cell eo (v := .int b) (put_keep (put_keep rfl)) (XV_and (XE_cell eo (v := .int c) (put_keep (put_keep rfl)) (XV_and (XE_int (XV_ne (XV_truthB ?_)))) kc)) kb) ka))) rfl)
    have fin : ∀ t : Int, 3 - (((pairL a b c).flatMap fPair).length : Nat) + t = eulI a b c → ∀ {σ' : Mine.St}, Ψ (.ret (.bool (eulI a b c == 3 - (((pairL a b c).flatMap fPair).length : Nat) + t))) σ' := fun t ht σ' => by
      rw [ht]; simpa using hΨ σ'
    refine ⟨fun hb => XE_int (XV_add (XV_eq (fin 1 ?_))), fun hb => XE_int (XV_add (XV_eq (fin 0 ?_)))⟩
    · rw [hab] at hb
      unfold eulI
      rw [if_pos (by simpa using hb)]
    · rw [hab] at hb
      unfold eulI
      rw [if_neg (by simpa using hb)]
end
end Mine
end PartC14

section PartD7
open PySem PySem.Calls PySem.W PyProof.Rows PySem.Spec
set_option maxRecDepth 100000
set_option linter.unusedVariables false
namespace Mine

/-! sums -/
def S (l : List Nat) (F : Nat → Int) : Int := (l.map F).sum
theorem S_nil (F : Nat → Int) : S [] F = 0 := rfl
theorem S_cons (a : Nat) (l : List Nat) (F : Nat → Int) : S (a :: l) F = F a + S l F := by unfold S; simp
theorem S_congr {l : List Nat} {F H : Nat → Int} (h : ∀ x ∈ l, F x = H x) : S l F = S l H := by
  unfold S; congr 1; exact List.map_congr_left h
theorem S_zero (l : List Nat) : S l (fun _ => 0) = 0 := by
  induction l with
  | nil => rfl
  | cons a l ih => rw [S_cons, ih]; rfl
theorem S_add (l : List Nat) (F H : Nat → Int) : S l (fun x => F x + H x) = S l F + S l H := by
  induction l with
  | nil => rfl
  | cons a l ih => rw [S_cons, S_cons, S_cons, ih]; omega
theorem S_sub (l : List Nat) (F H : Nat → Int) : S l (fun x => F x - H x) = S l F - S l H := by
  induction l with
  | nil => rfl
  | cons a l ih => rw [S_cons, S_cons, S_cons, ih]; omega
theorem S_mul (l : List Nat) (c : Int) (F : Nat → Int) : S l (fun x => c * F x) = c * S l F := by
  induction l with
  | nil => simp [S_nil]
  | cons a l ih => rw [S_cons, S_cons, ih, Int.mul_add]
theorem S_mulr (l : List Nat) (c : Int) (F : Nat → Int) : S l (fun x => F x * c) = S l F * c := by
  induction l with
  | nil => simp [S_nil]
  | cons a l ih => rw [S_cons, S_cons, ih, Int.add_mul]
theorem S_swap (l m : List Nat) (F : Nat → Nat → Int) : S l (fun x => S m fun y => F x y) = S m fun y => S l fun x => F x y := by
  induction l with
  | nil => simp only [S_nil]; rw [S_zero]
  | cons a l ih =>
    rw [S_cons, ih, ← S_add]
    exact S_congr fun y _ => by rw [S_cons]
theorem S_filter (l : List Nat) (p : Nat → Bool) (F : Nat → Int) : S (l.filter p) F = S l fun x => if p x then F x else 0 := by
  induction l with
  | nil => rfl
  | cons a l ih =>
    rw [S_cons, List.filter_cons, ← ih]
    split
    · rw [S_cons]
    · omega
theorem S_pick {l : List Nat} (hn : l.Nodup) {x : Nat} (hx : x ∈ l) (F : Nat → Int) : S l (fun w => F w * (if x == w then 1 else 0)) = F x := by
  induction l with
  | nil => simp at hx
  | cons a l ih =>
    rw [S_cons]
    rw [List.nodup_cons] at hn
    by_cases h : x = a
    · subst h
      have : S l (fun w => F w * (if x == w then 1 else 0)) = S l fun _ => 0 := S_congr fun w hw => by
        have : (x == w) = false := beq_false_of_ne fun e => hn.1 (e ▸ hw)
        rw [this]; simp
      rw [this, S_zero]; simp
    · have hxl : x ∈ l := by
        rcases List.mem_cons.mp hx with e | e
        · exact absurd e h
        · exact e
      rw [ih hn.2 hxl, beq_false_of_ne h]; simp

/-! the sets of five letters -/
def all31 : List Nat := (List.range 31).map (1 + ·)
def wq (f : Nat) : Int := if Nat.testBit 2523490710 f then 1 else -1
theorem wt_wq {f : Nat} (h : f < 32) : wt f = wq f := by
  have : ∀ f : Fin 32, wt f.val = wq f.val := by decide +kernel
  exact this ⟨f, h⟩
def sub (x z : Nat) : Bool := x &&& z == x
theorem all31_mem {x : Nat} : x ∈ all31 ↔ 0 < x ∧ x < 32 := by
  unfold all31
  rw [List.mem_map]
  constructor
  · rintro ⟨i, hi, rfl⟩
    rw [List.mem_range] at hi
    omega
  · rintro ⟨h1, h2⟩
    exact ⟨x - 1, List.mem_range.mpr (by omega), by omega⟩
theorem one_sum {z : Nat} (h0 : 0 < z) (h : z < 32) : S all31 (fun y => if sub y z then wt y else 0) = 1 := by
  have : ∀ z : Fin 32, 0 < z.val → S all31 (fun y => if sub y z.val then wq y else 0) = 1 := by decide +kernel
  rw [← this ⟨z, h⟩ h0]
  exact S_congr fun y hy => by rw [wt_wq (all31_mem.mp hy).2]
theorem sub_trans {x z w : Nat} (h1 : sub x z = true) (h2 : sub z w = true) : sub x w = true := by
  unfold sub at *
  rw [beq_iff_eq] at *
  calc x &&& w = (x &&& z) &&& w := by rw [h1]
    _ = x &&& (z &&& w) := Nat.and_assoc ..
    _ = x := by rw [h2, h1]
theorem sub_and (x z w : Nat) : sub x (z &&& w) = (sub x z && sub x w) := by
  rw [Bool.eq_iff_iff, Bool.and_eq_true]
  unfold sub
  simp only [beq_iff_eq]
  constructor
  · intro h
    constructor
    · calc x &&& z = (x &&& (z &&& w)) &&& z := by rw [h]
        _ = x &&& (z &&& w) := by rw [Nat.and_assoc, Nat.and_comm (z &&& w) z, ← Nat.and_assoc z z w, Nat.and_self]
        _ = x := h
    · calc x &&& w = (x &&& (z &&& w)) &&& w := by rw [h]
        _ = x &&& (z &&& w) := by rw [Nat.and_assoc, Nat.and_assoc, Nat.and_self]
        _ = x := h
  · rintro ⟨h1, h2⟩
    rw [← Nat.and_assoc, h1, h2]
theorem sub_self (x : Nat) : sub x x = true := by unfold sub; rw [Nat.and_self]; simp
theorem meet_in {y z w : Nat} (h : sub y z = true) : y &&& (z &&& w) = y &&& w := by
  unfold sub at h
  rw [beq_iff_eq] at h
  rw [← Nat.and_assoc, h]
theorem two_sum {z w : Nat} (h0 : 0 < z) (h : z < 32) : S all31 (fun y => if sub y z && y &&& w != 0 then wt y else 0) = if sub z w then 1 else 0 := by
  have : ∀ z : Fin 32, 0 < z.val → ∀ w : Fin 32, sub w.val z.val = true → S all31 (fun y => if sub y z.val && y &&& w.val != 0 then wq y else 0) = if sub z.val w.val then 1 else 0 := by decide +kernel
  have hw : z &&& w < 32 := Nat.lt_of_le_of_lt Nat.and_le_left h
  have e : sub z w = sub z (z &&& w) := by rw [sub_and, sub_self, Bool.true_and]
  rw [e, ← this ⟨z, h⟩ h0 ⟨z &&& w, hw⟩ (by show sub (z &&& w) z = true; unfold sub; rw [beq_iff_eq, Nat.and_comm, ← Nat.and_assoc, Nat.and_self])]
  exact S_congr fun y hy => by
    rw [wt_wq (all31_mem.mp hy).2]
    show (if (sub y z && y &&& w != 0) = true then _ else _ : Int) = if (sub y z && y &&& (z &&& w) != 0) = true then _ else _
    cases hs : sub y z
    · rfl
    · rw [meet_in hs]
theorem mid_sum {x w : Nat} (h0 : 0 < x) (h : x < 32) (hw : w < 32) : S all31 (fun z => if sub x z && sub z w then wt z else 0) = if x == w then wt x else 0 := by
  have : ∀ x : Fin 32, 0 < x.val → ∀ w : Fin 32, sub x.val w.val = true → S all31 (fun z => if sub x.val z && sub z w.val then wq z else 0) = if x.val == w.val then wq x.val else 0 := by decide +kernel
  cases hs : sub x w
  · have hx : (x == w) = false := beq_false_of_ne fun e => by subst e; rw [sub_self] at hs; cases hs
    rw [hx]
    have : S all31 (fun z => if sub x z && sub z w then wt z else 0) = S all31 fun _ => 0 := S_congr fun z _ => by
      rw [if_neg]
      intro q
      rw [Bool.and_eq_true] at q
      rw [sub_trans q.1 q.2] at hs; cases hs
    rw [this, S_zero]; rfl
  · rw [wt_wq h, ← this ⟨x, h⟩ h0 ⟨w, hw⟩ hs]
    exact S_congr fun y hy => by rw [wt_wq (all31_mem.mp hy).2]
end Mine
end PartD7

section PartD8
open PySem PySem.Calls PySem.W PyProof.Rows PySem.Spec
set_option maxRecDepth 100000
set_option linter.unusedVariables false
namespace Mine

theorem facesL_filter (a b c : Nat) : facesL a b c = all31.filter (fam a b c) := rfl
theorem fam_eq (a b c x : Nat) : fam a b c x = (sub x a || (sub x b || sub x c)) := rfl
theorem fam_down {a b c y z : Nat} (h : sub y z = true) (hz : fam a b c z = true) : fam a b c y = true := by
  rw [fam_eq, Bool.or_eq_true, Bool.or_eq_true] at hz ⊢
  rcases hz with hz | hz | hz
  · exact .inl (sub_trans h hz)
  · exact .inr (.inl (sub_trans h hz))
  · exact .inr (.inr (sub_trans h hz))
theorem S_fam {a b c : Nat} {F : Nat → Int} (h : ∀ y ∈ all31, fam a b c y = false → F y = 0) : S (facesL a b c) F = S all31 F := by
  rw [facesL_filter, S_filter]
  exact S_congr fun y hy => by
    cases hf : fam a b c y
    · rw [h y hy hf]; simp
    · simp
theorem cntI_S (fs : List Nat) (x y : Nat) : cntI fs x y = S fs fun z => if sub x z && sub y z then wt z else 0 := by
  unfold cntI
  induction fs with
  | nil => rfl
  | cons z r ih =>
    rw [S_cons, ← ih, List.filter_cons, List.filter_cons]
    have e : bothB x y z = (sub x z && sub y z) := rfl
    rw [e]
    unfold wt
    cases sub x z && sub y z <;> cases oddB z <;> simp <;> omega
theorem heardI_S (fs : List Nat) (cl y : Nat) : heardI fs cl y = S fs fun w => if y &&& w != 0 then giftI w cl else 0 := S_filter fs (fun w => y &&& w != 0) fun w => giftI w cl
theorem wt_wt (x : Nat) : wt x * wt x = 1 := by
  rcases wt_cases x with h | h <;> rw [h] <;> rfl

theorem back_law {a b c x cl : Nat} (hx : x ∈ facesL a b c) : ((facesL a b c).map fun y => facI (facesL a b c) x y * heardI (facesL a b c) cl y).sum = giftI x cl := by
  show S (facesL a b c) (fun y => facI (facesL a b c) x y * heardI (facesL a b c) cl y) = _
  obtain ⟨⟨hx0, hx32⟩, hxf⟩ := facesL_mem.mp hx
  have hnd := facesL_nodup a b c
  have mem : ∀ z ∈ facesL a b c, (0 < z ∧ z < 32) ∧ fam a b c z = true := fun z hz => facesL_mem.mp hz
  -- the sum over y, for a z and a w
  have inY : ∀ z ∈ facesL a b c, ∀ w, S (facesL a b c) (fun y => if sub y z && y &&& w != 0 then wt y else 0) = if sub z w then 1 else 0 := fun z hz w => by
    obtain ⟨⟨hz0, hz32⟩, hzf⟩ := mem z hz
    rw [S_fam, two_sum hz0 hz32]
    intro y hy hf
    have : sub y z = false := by
      cases h : sub y z
      · rfl
      · rw [fam_down h hzf] at hf; cases hf
    rw [this]; rfl
  have inZ : ∀ w ∈ facesL a b c, S (facesL a b c) (fun z => if sub x z && sub z w then wt z else 0) = if x == w then wt x else 0 := fun w hw => by
    obtain ⟨⟨hw0, hw32⟩, hwf⟩ := mem w hw
    rw [S_fam, mid_sum hx0 hx32 hw32]
    intro z hz hf
    have : sub z w = false := by
      cases h : sub z w
      · rfl
      · rw [fam_down h hwf] at hf; cases hf
    rw [this, Bool.and_false]; rfl
  generalize facesL a b c = fs at *
  have e1 : S fs (fun y => facI fs x y * heardI fs cl y) = S fs fun y => S fs fun z => S fs fun w => giftI w cl * (wt x * (if sub x z then wt z else 0) * (if sub y z && y &&& w != 0 then wt y else 0)) := S_congr fun y _ => by
    unfold facI
    rw [cntI_S, heardI_S, ← S_mul fs (wt x * wt y), ← S_mulr]
    exact S_congr fun z _ => by
      rw [← S_mul]
      exact S_congr fun w _ => by
        cases sub x z <;> cases sub y z <;> cases (y &&& w != 0) <;> simp [Int.mul_assoc, Int.mul_comm, Int.mul_left_comm]
  have e2 : S fs (fun y => facI fs x y * heardI fs cl y) = S fs fun w => S fs fun z => S fs fun y => giftI w cl * (wt x * (if sub x z then wt z else 0) * (if sub y z && y &&& w != 0 then wt y else 0)) := by
    rw [e1, S_swap]
    have : ∀ z, S fs (fun y => S fs fun w => giftI w cl * (wt x * (if sub x z then wt z else 0) * (if sub y z && y &&& w != 0 then wt y else 0))) = S fs fun w => S fs fun y => giftI w cl * (wt x * (if sub x z then wt z else 0) * (if sub y z && y &&& w != 0 then wt y else 0)) := fun z => S_swap ..
    rw [S_congr fun z _ => this z, S_swap]
  rw [e2]
  have e3 : S fs (fun w => S fs fun z => S fs fun y => giftI w cl * (wt x * (if sub x z then wt z else 0) * (if sub y z && y &&& w != 0 then wt y else 0))) = S fs fun w => giftI w cl * (if x == w then 1 else 0) := S_congr fun w hw => by
    have : S fs (fun z => S fs fun y => giftI w cl * (wt x * (if sub x z then wt z else 0) * (if sub y z && y &&& w != 0 then wt y else 0))) = S fs fun z => giftI w cl * (wt x * (if sub x z && sub z w then wt z else 0)) := S_congr fun z hz => by
      rw [S_mul, S_mul, inY z hz w]
      cases sub x z <;> cases sub z w <;> simp
    rw [this, S_mul, S_mul, inZ w hw]
    cases hxw : x == w
    · simp
    · simp [wt_wt]
  rw [e3]
  exact S_pick hnd hx fun w => giftI w cl

/-! the energy -/
theorem one_or_none {m : Nat} (h : m < 32) : S all31 (fun y => if sub y m then wt y else 0) = if m != 0 then 1 else 0 := by
  rcases Nat.eq_zero_or_pos m with rfl | h0
  · have : S all31 (fun y => if sub y 0 then wt y else 0) = S all31 fun _ => 0 := S_congr fun y hy => by
      rw [if_neg]
      unfold sub
      rw [Nat.and_zero, beq_iff_eq]
      have := (all31_mem.mp hy).1
      omega
    rw [this, S_zero]; rfl
  · rw [one_sum h0 h, if_pos (by rw [bne_iff_ne]; omega)]
theorem fPair_len (p q : Nat) : ((fPair (.tup [.int p, .int q])).length : Int) = if p &&& q != 0 then 1 else 0 := by
  have e : fPair (.tup [.int p, .int q]) = if Builtin.bitAnd p q != 0 then [MV.int 1] else [] := rfl
  rw [e, and_nat]
  by_cases h : p &&& q = 0
  · rw [h]; rfl
  · have h1 : ((p &&& q : Nat) : Int) ≠ 0 := by omega
    rw [if_pos (by rw [bne_iff_ne]; exact h1), if_pos (by rw [bne_iff_ne]; exact h)]; rfl
theorem energy_law {a b c : Nat} (ha : a < 32) (hb : b < 32) (hc : c < 32) (ha0 : 0 < a) (hb0 : 0 < b) (hc0 : 0 < c) :
    ((facesL a b c).map fun x => ((facesL a b c).map fun y => facI (facesL a b c) x y).sum).sum = eulI a b c := by
  show S (facesL a b c) (fun x => S (facesL a b c) fun y => facI (facesL a b c) x y) = _
  have mem : ∀ z ∈ facesL a b c, (0 < z ∧ z < 32) ∧ fam a b c z = true := fun z hz => facesL_mem.mp hz
  have inX : ∀ z ∈ facesL a b c, S (facesL a b c) (fun y => if sub y z then wt y else 0) = 1 := fun z hz => by
    obtain ⟨⟨hz0, hz32⟩, hzf⟩ := mem z hz
    rw [S_fam, one_sum hz0 hz32]
    intro y hy hf
    have : sub y z = false := by
      cases h : sub y z
      · rfl
      · rw [fam_down h hzf] at hf; cases hf
    rw [this]; rfl
  have e1 : S (facesL a b c) (fun x => S (facesL a b c) fun y => facI (facesL a b c) x y) = S (facesL a b c) wt := by
    generalize facesL a b c = fs at *
    have e1 : S fs (fun x => S fs fun y => facI fs x y) = S fs fun x => S fs fun y => S fs fun z => wt z * ((if sub x z then wt x else 0) * (if sub y z then wt y else 0)) := S_congr fun x _ => S_congr fun y _ => by
      unfold facI
      rw [cntI_S, ← S_mul]
      exact S_congr fun z _ => by
        cases sub x z <;> cases sub y z <;> simp [Int.mul_assoc, Int.mul_comm, Int.mul_left_comm]
    have e2 : S fs (fun x => S fs fun y => facI fs x y) = S fs fun z => S fs fun x => S fs fun y => wt z * ((if sub x z then wt x else 0) * (if sub y z then wt y else 0)) := by
      rw [e1, S_congr fun x _ => S_swap .., S_swap]
    rw [e2]
    exact S_congr fun z hz => by
      have : S fs (fun x => S fs fun y => wt z * ((if sub x z then wt x else 0) * (if sub y z then wt y else 0))) = S fs fun x => wt z * (if sub x z then wt x else 0) := S_congr fun x _ => by
        rw [S_mul, S_mul, inX z hz, Int.mul_one]
      rw [this, S_mul, inX z hz, Int.mul_one]
  rw [e1, facesL_filter, S_filter]
  have hand : ∀ p q : Nat, p < 32 → p &&& q < 32 := fun p q hp => Nat.lt_of_le_of_lt Nat.and_le_left hp
  have e2 : S all31 (fun x => if fam a b c x then wt x else 0) = S all31 (fun x => if sub x a then wt x else 0) + S all31 (fun x => if sub x b then wt x else 0) + S all31 (fun x => if sub x c then wt x else 0)
      - S all31 (fun x => if sub x (a &&& b) then wt x else 0) - S all31 (fun x => if sub x (a &&& c) then wt x else 0) - S all31 (fun x => if sub x (b &&& c) then wt x else 0) + S all31 (fun x => if sub x (a &&& b &&& c) then wt x else 0) := by
    rw [← S_add, ← S_add, ← S_sub, ← S_sub, ← S_sub, ← S_add]
    exact S_congr fun x _ => by
      rw [fam_eq, sub_and, sub_and, sub_and, sub_and, sub_and]
      cases sub x a <;> cases sub x b <;> cases sub x c <;> simp <;> omega
  rw [e2, one_or_none ha, one_or_none hb, one_or_none hc, one_or_none (hand a b ha), one_or_none (hand a c ha), one_or_none (hand b c hb), one_or_none (hand _ c (hand a b ha))]
  have hl : (((pairL a b c).flatMap fPair).length : Int) = (if a &&& b != 0 then 1 else 0) + (if a &&& c != 0 then 1 else 0) + (if b &&& c != 0 then 1 else 0) := by
    have : (pairL a b c).flatMap fPair = fPair (.tup [.int a, .int b]) ++ (fPair (.tup [.int a, .int c]) ++ (fPair (.tup [.int b, .int c]) ++ [])) := rfl
    rw [this, List.length_append, List.length_append, List.length_append, List.length_nil, ← fPair_len, ← fPair_len, ← fPair_len]
    omega
  unfold eulI
  rw [hl, if_pos (show (a != 0) = true by rw [bne_iff_ne]; omega), if_pos (show (b != 0) = true by rw [bne_iff_ne]; omega), if_pos (show (c != 0) = true by rw [bne_iff_ne]; omega)]
  omega
end Mine
end PartD8

section PartHd
open PySem PySem.W PyProof.Rows
set_option maxRecDepth 100000
set_option maxHeartbeats 8000000
namespace Mine
open_top hd for PySem.Challenge.rw_wk0030_01
end Mine
end PartHd

section PartC15
open PySem PySem.Calls PySem.W PyProof.Rows PySem.Spec
set_option maxRecDepth 100000
set_option linter.unusedVariables false
namespace Mine

theorem mk3_pos {j : Nat} (hj : j < 3) (x : Nat) : 0 < mk3 j x := by
  have : ∀ j : Fin 3, ∀ r : Fin 32, 0 < (r.val ||| 2 ^ j.val) &&& ([23, 15, 29].getD j.val 0) := by decide +kernel
  exact this ⟨j, hj⟩ ⟨x % 32, Nat.mod_lt _ (by decide)⟩
section
variable {G : Gl} {env : Env} {A : Around} {σ : St} {Φ : MV → St → Prop} {f : Addr} {fd : FuncData} {n : Nat}

theorem law_body (g : G.Ok) (k : AllK G.K) (fk : FnK G.K f fd (stm 22)) {L : Addr} {A' : Around} (hroom : Room A' (n + 20)) {s : Addr} {ns : List Int} {hp : List Ent} (hm : ⟨s, false, .list (ns.map .int)⟩ ∈ hp) (hsz : ns.length ≤ 63) :
    XSs G (cEnv fd L f) A' ⟨[("script", .ref s)], hp, true⟩ (bodyOf (stm 22)) fun fl _ => fl = .ret (.bool true) := by
  refine law_1 g k fk hroom hm hsz fun Dc W F T d l To cs hc4 hcb => law_2 g k fk hroom hc4 hcb fun Sg Sr He Gi Du H Ab => ?_
  have ha := mk3_lt 0 (cs.getD 0 0)
  have hb := mk3_lt 1 (cs.getD 1 0)
  have hc := mk3_lt 2 (cs.getD 2 0)
  have ha0 := mk3_pos (j := 0) (by decide) (cs.getD 0 0)
  have hb0 := mk3_pos (j := 1) (by decide) (cs.getD 1 0)
  have hc0 := mk3_pos (j := 2) (by decide) (cs.getD 2 0)
  generalize mk3 0 (cs.getD 0 0) = a at *
  generalize mk3 1 (cs.getD 1 0) = b at *
  generalize mk3 2 (cs.getD 2 0) = c at *
  have hlen := facesL_len a b c
  refine law_3 g k fk hroom hlen (fun x hx => (facesL_mem.mp hx).1) ?_
  have := law_4 (Ψ := fun fl _ => fl = .ret (.bool true)) (Sg := Sg) (Du := Du) (H := H) (Ab := Ab) (W := W) (L := L) (cl := cs.getD 3 0) g k fk hroom hlen (fun x hx => back_law hx) (energy_law ha hb hc ha0 hb0 hc0) (fun _ => rfl)
  refine XT.le this ⟨?_, ?_, id⟩
  · unfold σ2 σ4
    exact LocLe.cons rfl (LocLe.cons rfl (LocLe.cons rfl (LocLe.cons rfl (LocLe.cons rfl (LocLe.cons rfl (LocLe.cons rfl (LocLe.cons rfl (LocLe.cons rfl (LocLe.nil _)))))))))
  · unfold σ2 σ4
    dsimp only
    rw [List.take_length]
    exact ((((((List.nil_sublist _).cons_cons _).cons_cons _).cons _).cons _).cons _).cons_cons _ |>.cons_cons _ |>.cons_cons _

theorem law_code (g : G.Ok) (k : AllK G.K) (fk : FnK G.K f fd (stm 22)) (room : Room A (n + 21)) {s : Shared} (base : ∀ b o, G.h₁.get? b = some o → s.heap.get? b = some o) {a : Addr} {arr : Array Value} {ns : List Int}
    (hp : s.heap.PlainList a arr) (va : VAs s.heap (ns.map .int) arr.toList) (hsz : ns.length ≤ 63) {R : Result → Shared → Prop}
    (hR : ∀ s' : Shared, (∀ b o, s.heap.get? b = some o → s'.heap.get? b = some o) → s' = { s with heap := s'.heap, toks := s'.toks } → R (.ok (.ret (.bool true))) s') :
    codeAny (model G.prog G.w) A (.call (.ref f) ⟨[.ref a], []⟩) R s := by
  have fk' := fk
  obtain ⟨name, qualname, params, body, scope, globals, closure, defaults, kwdefaults, doc, pm, ann, code, ct, blt⟩ := fd
  obtain ⟨fd_, hs, hp', hd, hk, -⟩ := fk
  dsimp only at hs hp' hd hk
  subst hs hp' hd hk
  obtain ⟨oc, od, osl, hK⟩ := fd_.look
  have X := g.X.keeps base
  refine codeAny_call_function room.lim (X _ _ hK) rfl fd_.co fd_.gen fd_.body (codeRec_of X fd_.code) ?_
  refine wpAny_pure (a := [(("script" : Str), Value.ref a)]) ?_
  have hloc' : ∀ x ∈ [(("script" : Str), Value.ref a)], (scopeOf (stm 22)).names.lookup x.1 = some .local ∨ ((scopeOf (stm 22)).names.lookup x.1 = some .cell ∧ ((cellsFrom (s.heap.objs.size + 1) (scopeOf (stm 22)).names []).lookup x.1).isSome = true) :=
    fmc (.inl (show lk 22 "script" = some .local by decide +kernel)) fm0
  rw [fd_.clo]
  refine wpAny_newFunctionEnv_cells fd_.kind hloc' fun env' he s' x => ?_
  subst he
  obtain ⟨h₀, tk₀, rfl⟩ := x.toInCall.same
  have kp := x.toInCall.keep
  refine ⟨(g.nolimit.keeps base).keeps kp, codeAny_func ?_⟩
  have t₀ : TK s.heap h₀ := TK.of_keep kp
  have hL : s.heap.get? s.heap.objs.size = none := fresh_size _
  have ba : BA s.heap [(("script" : Str), MV.ref a)] [(("script" : Str), Value.ref a)] := BA.cons rfl BA.nil
  refine (law_body g k fk' (L := s.heap.objs.size) (hp := [⟨a, false, .list (ns.map .int)⟩]) room.deeper (.head _) hsz).run (fun b => s.heap.get? b) s { s with heap := h₀, toks := tk₀ } _ _ ?_ fun fl mfl σ₂ s₂ fa hΦ r₂ t₂ => ?_
  · refine ⟨base, kp, hL, ⟨_, x.toInCall.ns, fun y v e hk => ?_⟩, fun y v e hk => ?_, fun _ y c e => ?_, fun e he => ?_, List.pairwise_singleton _ _, rfl⟩
    · obtain ⟨v', e1, e2⟩ := ba.lookup e
      exact ⟨v', (bindL_lookup hk [(("script" : Str), Value.ref a)] _).trans (by rw [show [(("script" : Str), Value.ref a)].reverse = [(("script" : Str), Value.ref a)] from rfl, e1]; rfl), e2.mono t₀⟩
    · obtain ⟨v', e1, e2⟩ := ba.lookup e
      have hm := mem_of_lookup e1
      have hk' : (scopeOf (stm 22)).names.lookup y = some .cell ∨ (scopeOf (stm 22)).names.lookup y = some .free := hk
      have hy : y = ("script" : Str) := by
        rcases List.mem_cons.mp hm with q | q
        · cases q; rfl
        · exact absurd q List.not_mem_nil
      subst hy
      rw [show List.lookup (("script" : Str)) (scopeOf (stm 22)).names = some NameKind.local from show lk 22 "script" = some .local by decide +kernel] at hk'
      rcases hk' with q | q <;> cases q
    · have hc : (cellsFrom (s.heap.objs.size + 1) (scopeOf (stm 22)).names []).lookup y = some c := e
      exact ⟨Heap.get?_none_of_le (Nat.le_of_lt (x.above y c (mem_of_lookup hc))), _, x.cell y c hc⟩
    · cases List.mem_singleton.mp he
      obtain ⟨nn, hg⟩ := hp
      exact ⟨⟨arr, ⟨nn, kp _ _ hg⟩, va.mono t₀⟩, fun q => (nomatch q), fun _ => by show (s.heap.get? a).isSome = true; rw [hg]; rfl⟩
  · subst hΦ
    obtain ⟨v', rfl, va'⟩ := fa
    cases (va' : _ = _)
    exact hR _ r₂.keep r₂.rest
end
end Mine
end PartC15

section PartC16
open PySem PySem.Calls PySem.W PyProof.Rows PySem.Spec PySem.Builtin.Re
set_option maxRecDepth 100000
set_option linter.unusedVariables false
namespace Mine

def fdOf : Option Obj → FuncData
  | some ⟨_, _, .func fd, _⟩ => fd
  | _ => default
def clsO (o : Option Obj) : Value := (o.map (·.cls)).getD .none
def dictO : Option Obj → Option Addr
  | some o => o.dict
  | none => none
def slotsO : Option Obj → Array (Option Value)
  | some o => o.slots
  | none => #[]
def metAt (K : Frag) (n : Str) : Addr := match findIn K (.ref 182) n with
  | some (some (.ref a)) => a
  | _ => 0
theorem defK_of {K : Frag} {f : Addr} {body : List Stmt} (h1 : K.lookup f = some ⟨clsO (K.lookup f), dictO (K.lookup f), .func (fdOf (K.lookup f)), slotsO (K.lookup f)⟩) (h2 : codeIn K (fdOf (K.lookup f)).code (fdOf (K.lookup f)).qualname = true)
    (h3 : (fdOf (K.lookup f)).body = .stmts body) (h4 : (fdOf (K.lookup f)).globals = mainGlobals) (h5 : (fdOf (K.lookup f)).builtins = builtinsNs) (h6 : (fdOf (K.lookup f)).closure = []) (h7 : (fdOf (K.lookup f)).scope.isCoroutine = false)
    (h8 : (fdOf (K.lookup f)).scope.isGenerator = false) (h9 : (fdOf (K.lookup f)).scope.kind = .function) : DefK K f (fdOf (K.lookup f)) body := ⟨⟨_, _, _, h1⟩, h2, h3, h4, h5, h6, h7, h8, h9⟩
theorem fnK_of {K : Frag} {f : Addr} {st : Stmt} (d : DefK K f (fdOf (K.lookup f)) (bodyOf st)) (s : (fdOf (K.lookup f)).scope = scopeOf st) (p : (fdOf (K.lookup f)).params = argsOf st) (n : (fdOf (K.lookup f)).defaults = .none) (k : (fdOf (K.lookup f)).kwdefaults = .none)
    (c : (K.lookup f).map (·.cls) = some (.type "function")) : ∃ fd, FnK K f fd st := ⟨_, d, s, p, n, k, c⟩
theorem met_of {K : Frag} {n : Str} {st : Stmt} (h : findIn K (.ref 182) n = some (some (.ref (metAt K n)))) (k : ∃ fd, FnK K (metAt K n) fd st) : ∃ f fd, findIn K (.ref 182) n = some (some (.ref f)) ∧ FnK K f fd st := let ⟨fd, k⟩ := k; ⟨_, fd, h, k⟩
def fieldsO : Option Obj → Array Value
  | some ⟨_, _, .fields fs, _⟩ => fs
  | _ => #[]
def seqO : Option Obj → Array Value
  | some ⟨_, _, .seq vs _, _⟩ => vs
  | _ => #[]
def seqN : Option Obj → Nat
  | some ⟨_, _, .seq _ n, _⟩ => n
  | _ => 0
def refV : Value → Addr
  | .ref a => a
  | _ => 0
theorem patK_of {K : Frag} {a : Addr} {code : Array Nat} (h1 : K.lookup a = some { cls := .type "re.Pattern", data := .fields (fieldsO (K.lookup a)) }) (h2 : (fieldsO (K.lookup a)).getD 5 .none = .ref (refV ((fieldsO (K.lookup a)).getD 5 .none)))
    (h3 : reRawNat ((fieldsO (K.lookup a)).getD 2 .none) = 0) (h4 : reRawNat ((fieldsO (K.lookup a)).getD 6 .none) = 0)
    (h5 : K.lookup (refV ((fieldsO (K.lookup a)).getD 5 .none)) = some { cls := .type "tuple", data := .seq (seqO (K.lookup (refV ((fieldsO (K.lookup a)).getD 5 .none)))) (seqN (K.lookup (refV ((fieldsO (K.lookup a)).getD 5 .none)))) })
    (h6 : ((seqO (K.lookup (refV ((fieldsO (K.lookup a)).getD 5 .none)))).map reRawOf).map (·.toNat) = code) : PatK K a code := ⟨_, _, _, _, h1, h2, h3, h4, h5, h6⟩
def strTok : Option (Option Value) → Tok
  | some (some (.str _ t)) => t
  | _ => default
theorem init_of {K : Frag} {st : Stmt} (h : findIn K (.ref 182) "__init__" = some (some (.ref (metAt K "__init__")))) (ht : typeIn K (.ref (metAt K "__init__")) = some (.type "function"))
    (d : DefK K (metAt K "__init__") (fdOf (K.lookup (metAt K "__init__"))) (bodyOf st)) (s : (fdOf (K.lookup (metAt K "__init__"))).scope = scopeOf st) (p : (fdOf (K.lookup (metAt K "__init__"))).params = argsOf st)
    (n1 : (fdOf (K.lookup (metAt K "__init__"))).defaults = .ref (refV (fdOf (K.lookup (metAt K "__init__"))).defaults))
    (n2 : K.lookup (refV (fdOf (K.lookup (metAt K "__init__"))).defaults) = some ⟨clsO (K.lookup (refV (fdOf (K.lookup (metAt K "__init__"))).defaults)), dictO (K.lookup (refV (fdOf (K.lookup (metAt K "__init__"))).defaults)),
      .seq (seqO (K.lookup (refV (fdOf (K.lookup (metAt K "__init__"))).defaults))) (seqN (K.lookup (refV (fdOf (K.lookup (metAt K "__init__"))).defaults))), slotsO (K.lookup (refV (fdOf (K.lookup (metAt K "__init__"))).defaults))⟩)
    (n3 : seqO (K.lookup (refV (fdOf (K.lookup (metAt K "__init__"))).defaults)) = #[.none]) (k : (fdOf (K.lookup (metAt K "__init__"))).kwdefaults = .none) :
    ∃ f fd, findIn K (.ref 182) "__init__" = some (some (.ref f)) ∧ typeIn K (.ref f) = some (.type "function") ∧ FnD K f fd st := ⟨_, _, h, ht, d, s, p, ⟨_, _, _, _, n1, n2, rfl, n3⟩, k⟩
end Mine
end PartC16

section PartC17
open PySem PySem.Calls PySem.W PyProof.Rows
set_option maxRecDepth 100000
set_option linter.unusedVariables false
namespace Mine

theorem well_vas {P : PySem.Params} {h : Heap} : ∀ (ns : List Int) (vs : List Value), WellAll P h vs (ofPys (ns.map .int)) → VAs h (ns.map .int) vs
  | [], vs, W => by
    cases W; rfl
  | n :: ns, vs, W => by
    have W' : WellAll P h vs (.int n :: ofPys (ns.map .int)) := W
    cases W' with
    | cons h1 h2 =>
      cases h1
      exact ⟨_, _, rfl, ⟨_, rfl⟩, well_vas ns _ h2⟩
theorem well_ints {P : PySem.Params} {h : Heap} {a : Addr} {ns : List Int} (W : Well P h (.ref a) (ofPy (.list (ns.map .int)))) : ∃ arr, h.PlainList a arr ∧ VAs h (ns.map .int) arr.toList := by
  have W' : Well P h (.ref a) (.list (ofPys (ns.map .int))) := W
  cases W' with
  | list h1 h2 => exact ⟨_, ⟨_, h1⟩, well_vas ns _ h2⟩
theorem last {p : Program} {w : World} {s₁ : Shared} {K : Frag} {mg mb : Str → Option Value} (KX : K.In s₁.heap) (g : s₁.heap.Ns mainGlobals mg) (b : s₁.heap.Ns builtinsNs mb) (nl : s₁.heap.NoLimit) (bt : ∀ x : Str, x ≠ "__name__" → mb x = bootBuiltins x)
    (k : AllK K) {a0 : Addr} (fk : ∃ fd, FnK K a0 fd (stm 22)) (ha : nsIn K mainGlobals "law" = some (some (.ref a0))) {fa : Addr} (hmg : mg "law" = some (.ref fa)) {P : PySem.Params} {a : Addr} {ns : List Int} (W : Well P s₁.heap (.ref a) (ofPy (.list (ns.map .int)))) (hsz : ns.length ≤ 63)
    {c : ClaimW} {cl : Str → Option Addr} {mean : ExcName → Option Value} {args : List WData} (hg : s₁.gens = #[]) (hn : ∀ cls, c.raises args cls = false) (hp : c.post args (.bool true) args = true) :
    codeAny (model p w) callerA (.call (.ref fa) ⟨[.ref a], []⟩) (GoodWG c cl mean args s₁) s₁ := by
  obtain ⟨fd, fk⟩ := fk
  obtain ⟨arr, hpl, hva⟩ := well_ints W
  have e := mg_of KX g ha
  rw [hmg] at e
  cases e
  let G : Gl := ⟨p, w, s₁.heap, K, mg, mb⟩
  have gok : G.Ok := ⟨KX, g, b, nl, bt⟩
  refine law_code (G := G) (n := 0) gok k fk ⟨rfl, by decide, by decide⟩ (fun _ _ e => e) hpl hva hsz fun s' hk hs => GoodW.toG ⟨.inl ⟨_, .bool true, [], rfl, hn, .bool true, hp, unshared_nil⟩, hk, ?_, ?_⟩
  · rw [hs]
  · rw [hs]; exact hg
end Mine
end PartC17

section PartW2
open PySem PySem.Calls PySem.W PyProof.Rows
set_option maxRecDepth 100000
set_option maxHeartbeats 8000000
namespace Mine
section
variable (P : Params)
theorem kb_ok : KOk (hd.heap_39 P) := ⟨by
  unfold bnames
  simp only [List.forall_mem_cons]
  refine ⟨?_, ?_, ?_, ?_, ?_, ?_, ?_, ?_, ?_, ?_, ?_, ?_, ?_, fun _ h => absurd h List.not_mem_nil⟩ <;> kernel_rfl⟩
theorem clsK_ok : ClsK (hd.heap_39 P) 182 := ⟨by kernel_rfl, by kernel_rfl⟩
theorem clsS_ok : ClsS (hd.heap_39 P) 182 := ⟨by kernel_rfl, by kernel_rfl, by kernel_rfl, by kernel_rfl⟩
theorem patN_ok : PatK (hd.heap_39 P) 48 cName := patK_of (by kernel_rfl) (by kernel_rfl) (by kernel_rfl) (by kernel_rfl) (by kernel_rfl) (by kernel_rfl)
theorem patV_ok : PatK (hd.heap_39 P) 53 cVal := patK_of (by kernel_rfl) (by kernel_rfl) (by kernel_rfl) (by kernel_rfl) (by kernel_rfl) (by kernel_rfl)
theorem pat1_ok : PatK (hd.heap_39 P) 205 cDot := patK_of (by kernel_rfl) (by kernel_rfl) (by kernel_rfl) (by kernel_rfl) (by kernel_rfl) (by kernel_rfl)
theorem pat2_ok : PatK (hd.heap_39 P) 210 cEol := patK_of (by kernel_rfl) (by kernel_rfl) (by kernel_rfl) (by kernel_rfl) (by kernel_rfl) (by kernel_rfl)
theorem int2apF_ok : ∃ fd, FnK (hd.heap_39 P) 193 fd (stm 9) := fnK_of (defK_of (by kernel_rfl) (by kernel_rfl) (by kernel_rfl) (by kernel_rfl) (by kernel_rfl) (by kernel_rfl) (by kernel_rfl) (by kernel_rfl) (by kernel_rfl)) (by kernel_rfl) (by kernel_rfl) (by kernel_rfl) (by kernel_rfl) (by kernel_rfl)
theorem stripF_ok : ∃ fd, FnK (hd.heap_39 P) 200 fd (stm 11) := fnK_of (defK_of (by kernel_rfl) (by kernel_rfl) (by kernel_rfl) (by kernel_rfl) (by kernel_rfl) (by kernel_rfl) (by kernel_rfl) (by kernel_rfl) (by kernel_rfl)) (by kernel_rfl) (by kernel_rfl) (by kernel_rfl) (by kernel_rfl) (by kernel_rfl)
theorem quoteF_ok : ∃ fd, FnK (hd.heap_39 P) 217 fd (stm 16) := fnK_of (defK_of (by kernel_rfl) (by kernel_rfl) (by kernel_rfl) (by kernel_rfl) (by kernel_rfl) (by kernel_rfl) (by kernel_rfl) (by kernel_rfl) (by kernel_rfl)) (by kernel_rfl) (by kernel_rfl) (by kernel_rfl) (by kernel_rfl) (by kernel_rfl)
theorem cellsF_ok : ∃ fd, FnK (hd.heap_39 P) 224 fd (stm 18) := fnK_of (defK_of (by kernel_rfl) (by kernel_rfl) (by kernel_rfl) (by kernel_rfl) (by kernel_rfl) (by kernel_rfl) (by kernel_rfl) (by kernel_rfl) (by kernel_rfl)) (by kernel_rfl) (by kernel_rfl) (by kernel_rfl) (by kernel_rfl) (by kernel_rfl)
theorem wordsF_ok : ∃ fd, FnK (hd.heap_39 P) 229 fd (stm 19) := fnK_of (defK_of (by kernel_rfl) (by kernel_rfl) (by kernel_rfl) (by kernel_rfl) (by kernel_rfl) (by kernel_rfl) (by kernel_rfl) (by kernel_rfl) (by kernel_rfl)) (by kernel_rfl) (by kernel_rfl) (by kernel_rfl) (by kernel_rfl) (by kernel_rfl)
theorem heldF_ok : ∃ fd, FnK (hd.heap_39 P) 234 fd (stm 20) := fnK_of (defK_of (by kernel_rfl) (by kernel_rfl) (by kernel_rfl) (by kernel_rfl) (by kernel_rfl) (by kernel_rfl) (by kernel_rfl) (by kernel_rfl) (by kernel_rfl)) (by kernel_rfl) (by kernel_rfl) (by kernel_rfl) (by kernel_rfl) (by kernel_rfl)
theorem giftsF_ok : ∃ fd, FnK (hd.heap_39 P) 239 fd (stm 21) := fnK_of (defK_of (by kernel_rfl) (by kernel_rfl) (by kernel_rfl) (by kernel_rfl) (by kernel_rfl) (by kernel_rfl) (by kernel_rfl) (by kernel_rfl) (by kernel_rfl)) (by kernel_rfl) (by kernel_rfl) (by kernel_rfl) (by kernel_rfl) (by kernel_rfl)
theorem convM_ok : ∃ f fd, findIn (hd.heap_39 P) (.ref 182) "_convert_string_type" = some (some (.ref f)) ∧ FnK (hd.heap_39 P) f fd (mth 1) := met_of (by kernel_rfl) (fnK_of (defK_of (by kernel_rfl) (by kernel_rfl) (by kernel_rfl) (by kernel_rfl) (by kernel_rfl) (by kernel_rfl) (by kernel_rfl) (by kernel_rfl) (by kernel_rfl)) (by kernel_rfl) (by kernel_rfl) (by kernel_rfl) (by kernel_rfl) (by kernel_rfl))
theorem getAllM_ok : ∃ f fd, findIn (hd.heap_39 P) (.ref 182) "get_all" = some (some (.ref f)) ∧ FnK (hd.heap_39 P) f fd (mth 7) := met_of (by kernel_rfl) (fnK_of (defK_of (by kernel_rfl) (by kernel_rfl) (by kernel_rfl) (by kernel_rfl) (by kernel_rfl) (by kernel_rfl) (by kernel_rfl) (by kernel_rfl) (by kernel_rfl)) (by kernel_rfl) (by kernel_rfl) (by kernel_rfl) (by kernel_rfl) (by kernel_rfl))
theorem valuesM_ok : ∃ f fd, findIn (hd.heap_39 P) (.ref 182) "values" = some (some (.ref f)) ∧ FnK (hd.heap_39 P) f fd (mth 10) := met_of (by kernel_rfl) (fnK_of (defK_of (by kernel_rfl) (by kernel_rfl) (by kernel_rfl) (by kernel_rfl) (by kernel_rfl) (by kernel_rfl) (by kernel_rfl) (by kernel_rfl) (by kernel_rfl)) (by kernel_rfl) (by kernel_rfl) (by kernel_rfl) (by kernel_rfl) (by kernel_rfl))
theorem addHeaderM_ok : ∃ f fd, findIn (hd.heap_39 P) (.ref 182) "add_header" = some (some (.ref f)) ∧ FnK (hd.heap_39 P) f fd (mth 16) := met_of (by kernel_rfl) (fnK_of (defK_of (by kernel_rfl) (by kernel_rfl) (by kernel_rfl) (by kernel_rfl) (by kernel_rfl) (by kernel_rfl) (by kernel_rfl) (by kernel_rfl) (by kernel_rfl)) (by kernel_rfl) (by kernel_rfl) (by kernel_rfl) (by kernel_rfl) (by kernel_rfl))
theorem initF_ok : ∃ f fd, findIn (hd.heap_39 P) (.ref 182) "__init__" = some (some (.ref f)) ∧ typeIn (hd.heap_39 P) (.ref f) = some (.type "function") ∧ FnD (hd.heap_39 P) f fd (mth 0) := init_of (by kernel_rfl) (by kernel_rfl) (defK_of (by kernel_rfl) (by kernel_rfl) (by kernel_rfl) (by kernel_rfl) (by kernel_rfl) (by kernel_rfl) (by kernel_rfl) (by kernel_rfl) (by kernel_rfl)) (by kernel_rfl) (by kernel_rfl) (by kernel_rfl) (by kernel_rfl) (by kernel_rfl) (by kernel_rfl)
theorem allK_ok : AllK (hd.heap_39 P) where
  kb := kb_ok P
  reN := by kernel_rfl
  reV := by kernel_rfl
  re1 := by kernel_rfl
  re2 := by kernel_rfl
  cls := by kernel_rfl
  int2ap := by kernel_rfl
  strip := by kernel_rfl
  quote := by kernel_rfl
  cells := by kernel_rfl
  words := by kernel_rfl
  held := by kernel_rfl
  gifts := by kernel_rfl
  keep := by kernel_rfl
  makes := by kernel_rfl
  noHd := by kernel_rfl
  crlf := ⟨strTok (nsIn (hd.heap_39 P) mainGlobals "CRLF"), by kernel_rfl⟩
  patN := patN_ok P
  patV := patV_ok P
  pat1 := pat1_ok P
  pat2 := pat2_ok P
  clsK := clsK_ok P
  clsS := clsS_ok P
  int2apF := int2apF_ok P
  stripF := stripF_ok P
  quoteF := quoteF_ok P
  cellsF := cellsF_ok P
  wordsF := wordsF_ok P
  heldF := heldF_ok P
  giftsF := giftsF_ok P
  conv := convM_ok P
  getAll := getAllM_ok P
  values := valuesM_ok P
  addHeader := addHeaderM_ok P
  initF := initF_ok P
theorem lawF_ok : ∃ fd, FnK (hd.heap_39 P) (refV (((nsIn (hd.heap_39 P) mainGlobals "law").getD none).getD .none)) fd (stm 22) := fnK_of (defK_of (by kernel_rfl) (by kernel_rfl) (by kernel_rfl) (by kernel_rfl) (by kernel_rfl) (by kernel_rfl) (by kernel_rfl) (by kernel_rfl) (by kernel_rfl)) (by kernel_rfl) (by kernel_rfl) (by kernel_rfl) (by kernel_rfl) (by kernel_rfl)
theorem law_at : nsIn (hd.heap_39 P) mainGlobals "law" = some (some (.ref (refV (((nsIn (hd.heap_39 P) mainGlobals "law").getD none).getD .none)))) := by kernel_rfl
end
end Mine
end PartW2

open PySem PySem.W PyProof.Rows
set_option maxRecDepth 100000 in
set_option maxHeartbeats 8000000 in
theorem PySem.Challenge.cw_wk0030_01_holds : PySem.Challenge.rw_wk0030_01.Holds := by
  refine Mine.hd ?_
  w_strict (
    k_fill
    intro w s₀ s₁ mg mb G Y fa o pm cd doc dV kV ho hd hcd hD hmg hg args vals as hpre hlay hrd hwl hlo
    have KX := kIn_of Y
    refine Ground.open G ?_
    intro T B D TE TW
    clear hcd hD hd
    wrow_args hpre hlay hrd hwl hlo
    all_goals refine enter_call ?_
    refine Mine.last KX T.g T.b T.nolimit T.builtins (Mine.allK_ok _) (Mine.lawF_ok _) (Mine.law_at _) hmg ‹Well _ _ _ _› (by omega) hg (raisesW_false ?hn) ?hp
    (case hn => wrow_none_raised)
    (case hp => wrow_post))
