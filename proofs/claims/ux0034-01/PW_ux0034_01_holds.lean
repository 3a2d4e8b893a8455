import PyProof.Rows.All
import Wide.All
import OpenK.AllK
import Wide.FinOn
import PySem.Challenge.RW_ux0034_01
set_option maxRecDepth 100000
set_option maxHeartbeats 16000000
set_option Elab.async false
set_option linter.unusedVariables false
set_option linter.unusedSimpArgs false
open PySem PySem.W PyProof.Rows
set_option Elab.async false
namespace Mine
set_option maxRecDepth 100000 in
set_option maxHeartbeats 8000000 in
open_top hd for PySem.Challenge.rw_ux0034_01
end Mine

-- WA
namespace Mine
open PySem PySem.W PySem.Calls PyProof.Rows

/-- values without their tokens; a tuple of such values stands for itself -/
inductive AVal where
  | none
  | bool (b : Bool)
  | int (i : Int)
  | str (s : List Nat)
  | ref (a : Addr)
  | tup (xs : List AVal)
  | blt (id : String)
  | typ (n : String)

def mkS (l : List Nat) : Str := ⟨l.toArray⟩

mutual
def V (h : Heap) : AVal → Value → Prop
  | .none, v => v = .none
  | .bool b, v => v = .bool b
  | .int i, v => ∃ t, v = .int i t
  | .str l, v => ∃ t, v = .str (mkS l) t
  | .ref a, v => v = .ref a
  | .tup xs, v => ∃ a vs, v = .ref a ∧ h.IsTuple a (List.toArray vs) ∧ Vs h xs vs
  | .blt i, v => v = .builtin i
  | .typ n, v => v = .type n
def Vs (h : Heap) : List AVal → List Value → Prop
  | [], vs => vs = []
  | x :: xs, vs => ∃ v r, vs = v :: r ∧ V h x v ∧ Vs h xs r
end

/-- the tuples stay -/
def TK (h h' : Heap) : Prop := ∀ a vs, h.IsTuple a vs → h'.IsTuple a vs
theorem TK.refl (h : Heap) : TK h h := fun _ _ x => x
theorem TK.trans {a b c : Heap} (x : TK a b) (y : TK b c) : TK a c := fun _ _ z => y _ _ (x _ _ z)
theorem TK.push (h : Heap) (o : Obj) : TK h (h.push o) := fun _ _ ⟨o', e, r⟩ => ⟨o', Heap.get?_push_of_some _ e, r⟩
theorem TK.keeps {h h' : Heap} (k : ∀ b o, h.get? b = some o → h'.get? b = some o) : TK h h' := fun _ _ ⟨o', e, r⟩ => ⟨o', k _ _ e, r⟩
/-- no tuple -/
def NT (o : Obj) : Prop := ¬ (o.cls = .type "tuple" ∧ ∃ items n, o.data = .seq items n)
theorem NT.dict {o : Obj} {es n} (h : o.data = .dict es n) : NT o := fun ⟨_, _, _, q⟩ => by rw [h] at q; cases q
theorem NT.cell {o : Obj} {v} (h : o.data = .cell v) : NT o := fun ⟨_, _, _, q⟩ => by rw [h] at q; cases q
theorem NT.ty {o : Obj} {nm : String} (h : o.cls = .type nm) (hn : nm ≠ "tuple" := by decide) : NT o := fun ⟨q, _⟩ => by rw [h] at q; exact hn (Value.type.inj q)
theorem NT.cls {o : Obj} (h : o.cls ≠ .type "tuple") : NT o := fun ⟨q, _⟩ => h q
theorem TK.sameBut {h h' : Heap} {a : Addr} (s : Heap.SameBut a h h') (n : ∀ o, h.get? a = some o → NT o) : TK h h' := fun b _ ⟨o', e, c, n', r⟩ =>
  ⟨o', (s.2 b (fun q => n o' (q ▸ e) ⟨c, _, _, r⟩)).trans e, c, n', r⟩

mutual
theorem V.mono {h h' : Heap} (k : TK h h') : ∀ {a : AVal} {v : Value}, V h a v → V h' a v
  | .none, _, e => by simpa [V] using e
  | .bool _, _, e => by simpa [V] using e
  | .int _, _, e => by simpa [V] using e
  | .str _, _, e => by simpa [V] using e
  | .ref _, _, e => by simpa [V] using e
  | .blt _, _, e => by simpa [V] using e
  | .typ _, _, e => by simpa [V] using e
  | .tup xs, _, e => by
    simp only [V] at e ⊢
    obtain ⟨a, vs, rfl, t, r⟩ := e
    exact ⟨a, vs, rfl, k _ _ t, Vs.mono k r⟩
theorem Vs.mono {h h' : Heap} (k : TK h h') : ∀ {as : List AVal} {vs : List Value}, Vs h as vs → Vs h' as vs
  | [], _, e => by simpa [Vs] using e
  | x :: xs, _, e => by
    simp only [Vs] at e ⊢
    obtain ⟨v, r, rfl, a, b⟩ := e
    exact ⟨v, r, rfl, V.mono k a, Vs.mono k b⟩
end

theorem Vs.length {h : Heap} : ∀ {as : List AVal} {vs : List Value}, Vs h as vs → vs.length = as.length
  | [], _, e => by simp only [Vs] at e; subst e; rfl
  | _ :: _, _, e => by
    simp only [Vs] at e
    obtain ⟨v, r, rfl, _, b⟩ := e
    simp [Vs.length b]
theorem Vs.get_ {h : Heap} (as : List AVal) : ∀ (vs : List Value) (i : Nat) (a : AVal), Vs h as vs → as[i]? = some a → ∃ v, vs[i]? = some v ∧ V h a v := by
  induction as with
  | nil => intro _ _ _ _ q; simp at q
  | cons x xs ih =>
    intro vs i a e q
    simp only [Vs] at e
    obtain ⟨v, r, rfl, y, z⟩ := e
    cases i with
    | zero => simp at q; subst q; exact ⟨v, rfl, y⟩
    | succ i => exact ih r i a z (by simpa using q)
theorem Vs.get {h : Heap} {as : List AVal} {vs : List Value} {i : Nat} {a : AVal} (e : Vs h as vs) (q : as[i]? = some a) : ∃ v, vs[i]? = some v ∧ V h a v := Vs.get_ as vs i a e q
theorem Vs.append {h : Heap} : ∀ {as bs : List AVal} {vs ws : List Value}, Vs h as vs → Vs h bs ws → Vs h (as ++ bs) (vs ++ ws)
  | [], _, _, _, e, f => by simp only [Vs] at e; subst e; exact f
  | _ :: _, _, _, _, e, f => by
    simp only [Vs] at e
    obtain ⟨v, r, rfl, x, y⟩ := e
    simp only [List.cons_append, Vs]
    exact ⟨v, _, rfl, x, Vs.append y f⟩
theorem Vs.split {h : Heap} : ∀ {as bs : List AVal} {vs : List Value}, Vs h (as ++ bs) vs → ∃ us ws, vs = us ++ ws ∧ Vs h as us ∧ Vs h bs ws
  | [], _, vs, e => ⟨[], vs, rfl, by simp [Vs], e⟩
  | _ :: _, _, _, e => by
    simp only [List.cons_append, Vs] at e
    obtain ⟨v, r, rfl, x, y⟩ := e
    obtain ⟨us, ws, rfl, a, b⟩ := Vs.split y
    exact ⟨v :: us, ws, rfl, by simp only [Vs]; exact ⟨v, us, rfl, x, a⟩, b⟩
theorem Vs.nil {h : Heap} : Vs h [] [] := by simp [Vs]
theorem Vs.cons {h : Heap} {a : AVal} {as : List AVal} {v : Value} {vs : List Value} (x : V h a v) (y : Vs h as vs) : Vs h (a :: as) (v :: vs) := by
  simp only [Vs]; exact ⟨v, vs, rfl, x, y⟩
theorem Vs.one {h : Heap} {a : AVal} {vs : List Value} (e : Vs h [a] vs) : ∃ v, vs = [v] ∧ V h a v := by
  simp only [Vs] at e
  obtain ⟨v, r, rfl, x, rfl⟩ := e
  exact ⟨v, rfl, x⟩
theorem Vs.two {h : Heap} {a b : AVal} {vs : List Value} (e : Vs h [a, b] vs) : ∃ v w, vs = [v, w] ∧ V h a v ∧ V h b w := by
  simp only [Vs] at e
  obtain ⟨v, r, rfl, x, w, r', rfl, y, rfl⟩ := e
  exact ⟨v, w, rfl, x, y⟩

/-- a piece of the heap: where it lies, what it says -/
structure Ck where
  foot : List Addr
  holds : Heap → Prop
  stable : ∀ h h', (∀ x ∈ foot, ∀ o, h.get? x = some o → h'.get? x = some o) → TK h h' → holds h → holds h'
  live : ∀ h, holds h → ∀ x ∈ foot, ∃ o, h.get? x = some o ∧ NT o

def feet (P : List Ck) : List Addr := P.flatMap Ck.foot

abbrev Loc := List (Option AVal)


/-- a frame: its environment, the cells that are its own -/
structure Fm where
  env : Env
  own : List Addr

abbrev Nms := List (Str × NameKind)

structure FmOk (f : Fm) (ns : Nms) : Prop where
  kind : f.env.scope.kind = .function
  names : f.env.scope.names = ns
  nodup : (ns.map (·.1)).Nodup
  globals : f.env.globals = mainGlobals
  blt : f.env.builtins = builtinsNs
  cells : (f.env.cells.map (·.2)).Nodup
  has : ∀ x, (x, NameKind.cell) ∈ ns ∨ (x, NameKind.free) ∈ ns → (f.env.cells.lookup x).isSome = true

inductive NmAt : Nms → Loc → Str → NameKind → AVal → Prop
  | head {x k ns a ms} : NmAt ((x, k) :: ns) (some a :: ms) x k a
  | tail {ns ms x k a y z} : NmAt ns ms x k a → NmAt (y :: ns) (z :: ms) x k a
inductive NmUp : Nms → Loc → Str → NameKind → AVal → Loc → Prop
  | head {x k ns a o ms} : NmUp ((x, k) :: ns) (o :: ms) x k a (some a :: ms)
  | tail {ns ms x k a y z ms'} : NmUp ns ms x k a ms' → NmUp (y :: ns) (z :: ms) x k a (z :: ms')
inductive Sw {α : Type} : List α → α → α → List α → Prop
  | head {c c' r} : Sw (c :: r) c c' (c' :: r)
  | tail {c c' r r' x} : Sw r c c' r' → Sw (x :: r) c c' (x :: r')

theorem NmAt.mem {ns : Nms} {m : Loc} {x k a} (h : NmAt ns m x k a) : (x, k) ∈ ns := by
  induction h with
  | head => exact .head _
  | tail _ ih => exact .tail _ ih
theorem NmUp.mem {ns : Nms} {m m' : Loc} {x k a} (h : NmUp ns m x k a m') : (x, k) ∈ ns := by
  induction h with
  | head => exact .head _
  | tail _ ih => exact .tail _ ih
theorem NmUp.back {ns : Nms} {m m' : Loc} {x k a} (h : NmUp ns m x k a m') : ∀ {y kd b}, NmAt ns m' y kd b → (y = x ∧ kd = k ∧ b = a) ∨ NmAt ns m y kd b := by
  induction h with
  | head =>
    intro y kd b q
    cases q with
    | head => exact .inl ⟨rfl, rfl, rfl⟩
    | tail q => exact .inr (.tail q)
  | tail _ ih =>
    intro y kd b q
    cases q with
    | head => exact .inr .head
    | tail q => exact (ih q).imp id .tail
theorem Sw.split {α : Type} {P P' : List α} {c c' : α} (h : Sw P c c' P') : ∃ A B, P = A ++ c :: B ∧ P' = A ++ c' :: B := by
  induction h with
  | head => exact ⟨[], _, rfl, rfl⟩
  | @tail c c' r r' x _ ih => obtain ⟨A, B, rfl, rfl⟩ := ih; exact ⟨x :: A, B, rfl, rfl⟩
theorem Sw.mem {α : Type} {P P' : List α} {c c' : α} (h : Sw P c c' P') : c ∈ P := by
  obtain ⟨A, B, rfl, _⟩ := h.split; simp
theorem nodup_fst {ns : Nms} (h : (ns.map (·.1)).Nodup) {x : Str} {k k' : NameKind} (a : (x, k) ∈ ns) (b : (x, k') ∈ ns) : k = k' := by
  induction ns with
  | nil => cases a
  | cons y r ih =>
    rw [List.map_cons, List.nodup_cons] at h
    cases a with
    | head =>
      cases b with
      | head => rfl
      | tail _ b => exact absurd (List.mem_map_of_mem (f := (·.1)) b) h.1
    | tail _ a =>
      cases b with
      | head => exact absurd (List.mem_map_of_mem (f := (·.1)) a) h.1
      | tail _ b => exact ih h.2 a b
theorem lookup_of_mem {ns : Nms} (h : (ns.map (·.1)).Nodup) {x : Str} {k : NameKind} (a : (x, k) ∈ ns) : ns.lookup x = some k := by
  induction ns with
  | nil => cases a
  | cons y r ih =>
    rw [List.map_cons, List.nodup_cons] at h
    obtain ⟨z, kz⟩ := y
    rw [List.lookup_cons]
    cases a with
    | head => simp
    | tail _ a =>
      have : (x == z) = false := by
        rw [beq_eq_false_iff_ne]
        rintro rfl
        exact h.1 (List.mem_map_of_mem (f := (·.1)) a)
      rw [this]; exact ih h.2 a
theorem NmAt.uniq {ns : Nms} (h : (ns.map (·.1)).Nodup) {m : Loc} {x k a k' b} (p : NmAt ns m x k a) (q : NmAt ns m x k' b) : k = k' ∧ a = b := by
  induction p with
  | head =>
    rw [List.map_cons, List.nodup_cons] at h
    cases q with
    | head => exact ⟨rfl, rfl⟩
    | tail q => exact absurd (List.mem_map_of_mem (f := (·.1)) q.mem) h.1
  | tail p ih =>
    rw [List.map_cons, List.nodup_cons] at h
    cases q with
    | head => exact absurd (List.mem_map_of_mem (f := (·.1)) p.mem) h.1
    | tail q => exact ih h.2 q

structure WD where
  prog : Program
  w : World
  K : Frag
  mb : Str → Option Value
  os : OsState
  dr : Drawn
  hd : Option Value

structure PF (D : WD) (g : Heap) : Prop where
  K : D.K.In g
  bns : g.Ns builtinsNs D.mb
  blt : ∀ x : Str, x ≠ "__name__" → D.mb x = bootBuiltins x
  nolimit : g.NoLimit
  nodigits : ∃ mc, g.Ns cStatics mc ∧ mc "sys.int_max_str_digits" = none
  main : ∃ mg bm ob, g.Ns mainGlobals mg ∧ mg "__builtins__" = some (.ref bm) ∧ g.get? bm = some ob ∧ ob.cls = .type "module" ∧ ob.dict = some builtinsNs ∧ ob.data = .plain
theorem PF.keeps {D : WD} {g h : Heap} (p : PF D g) (k : ∀ b o, g.get? b = some o → h.get? b = some o) : PF D h :=
  ⟨p.K.keeps k, p.bns.keeps k, p.blt, p.nolimit.keeps k, let ⟨mc, a, b⟩ := p.nodigits; ⟨mc, a.keeps k, b⟩,
   let ⟨mg, bm, ob, a, b, c, d⟩ := p.main; ⟨mg, bm, ob, a.keeps k, b, k _ _ c, d⟩⟩

structure St (D : WD) (g : Heap) (f : Fm) (ns : Nms) (m : Loc) (P : List Ck) (s : Shared) : Prop where
  ok : FmOk f ns
  keep : ∀ b o, g.get? b = some o → s.heap.get? b = some o
  lcl : ∃ M, s.heap.Ns f.env.locals M ∧ ∀ x a, NmAt ns m x .local a → ∃ v, M x = some v ∧ V s.heap a v
  cell : ∀ x kd a, NmAt ns m x kd a → kd = .cell ∨ kd = .free → ∃ c v, f.env.cells.lookup x = some c ∧ s.heap.IsCell c (some v) ∧ V s.heap a v
  cap : ∀ x c, f.env.cells.lookup x = some c → c ∈ f.own ∨ ∃ o, g.get? c = some o
  owns : ∀ c ∈ f.own, ∃ v, s.heap.IsCell c v
  fresh : ∀ x ∈ f.env.locals :: (f.own ++ feet P), g.get? x = none
  apart : (f.env.locals :: (f.own ++ feet P)).Nodup
  holds : ∀ c ∈ P, c.holds s.heap
  gens : s.gens = #[]
  hos : s.os = D.os
  hdr : s.drawn = D.dr

structure Room (D : WD) (n : Nat) (A : Around) : Prop where
  depth : A.depth + n < 900
  units : A.units + 10 * n < 9000
  handled : A.handled = D.hd
theorem Room.mono {D : WD} {n k : Nat} {A : Around} (r : Room D n A) (h : k ≤ n) : Room D k A := ⟨by have := r.depth; omega, by have := r.units; omega, r.handled⟩
theorem Room.in1 {D : WD} {n : Nat} {A : Around} (r : Room D (n + 1) A) : Room D n A.in1 := ⟨by have := r.depth; show A.depth + n < 900; omega, by have := r.units; show A.units + 1 + 10 * n < 9000; omega, r.handled⟩
theorem Room.deeper {D : WD} {n : Nat} {A : Around} {env : Env} (r : Room D (n + 1) A) : Room D n (A.deeper env) := ⟨by have := r.depth; show A.depth + 1 + n < 900; omega, by have := r.units; show A.units + 3 + 10 * n < 9000; omega, r.handled⟩
theorem Room.lt {D : WD} {n : Nat} {A : Around} (r : Room D n A) : A.depth < recursionLimit := by have := r.depth; show A.depth < 1000; omega
theorem Room.cline {D : WD} {n : Nat} {A : Around} (r : Room D n A) : A.units < cLine := by have := r.units; show A.units < 9900; omega

/-- what a tree that does not raise makes of a state -/
def Wp {α β : Type} (D : WD) (n : Nat) (f : Fm) (ns : Nms) (R : Heap → β → α → Prop) (as : List AVal) (t : List Value → Sem α) (m : Loc) (P : List Ck) (Q : β → Loc → List Ck → Prop) : Prop :=
  ∀ A g s vs, Room D n A → PF D g → St D g f ns m P s → Vs s.heap as vs →
    wpAny (model D.prog D.w) A (t vs) (fun x s' => ∃ b m' P', TK s.heap s'.heap ∧ R s'.heap b x ∧ St D g f ns m' P' s' ∧ Q b m' P') (fun _ _ => False) s

inductive AFlow where
  | next | brk | cont | ret (a : AVal)
def F (h : Heap) : AFlow → Flow → Prop
  | .next, x => x = .next
  | .brk, x => x = .brk
  | .cont, x => x = .cont
  | .ret a, x => ∃ v, x = .ret v ∧ V h a v
def Eqv {α : Type} (_ : Heap) (a b : α) : Prop := b = a
theorem F.mono {h h' : Heap} (k : TK h h') {a : AFlow} {x : Flow} (e : F h a x) : F h' a x := by
  cases a with
  | ret a => obtain ⟨v, q, z⟩ := e; exact ⟨v, q, z.mono k⟩
  | _ => exact e


section
variable {D : WD} {g : Heap} {f : Fm} {ns : Nms} {m : Loc} {P : List Ck} {s : Shared}

theorem feet_append (A B : List Ck) : feet (A ++ B) = feet A ++ feet B := by simp [feet]
theorem mem_feet {P : List Ck} {c : Ck} {x : Addr} (h : c ∈ P) (hx : x ∈ c.foot) : x ∈ feet P := List.mem_flatMap.mpr ⟨c, h, hx⟩

theorem St.liveF (S : St D g f ns m P s) {x : Addr} (hx : x ∈ f.env.locals :: (f.own ++ feet P)) : ∃ o, s.heap.get? x = some o ∧ NT o := by
  cases hx with
  | head =>
    obtain ⟨M, ⟨o, es, ep, ho, hd, _⟩, _⟩ := S.lcl
    exact ⟨o, ho, .dict hd⟩
  | tail _ hx =>
    rcases List.mem_append.mp hx with hx | hx
    · obtain ⟨v, o, a, b⟩ := S.owns x hx; exact ⟨o, a, .cell b⟩
    · obtain ⟨c, hc, hx⟩ := List.mem_flatMap.mp hx
      exact c.live _ (S.holds c hc) x hx

theorem tk_of {h h' : Heap} {l : List Addr} (hk : ∀ b o, b ∉ l → h.get? b = some o → h'.get? b = some o) (hl : ∀ b ∈ l, ∃ o, h.get? b = some o ∧ NT o) : TK h h' := fun a vs ⟨o, e, c, n', r⟩ =>
  ⟨o, hk a o (fun q => by obtain ⟨o', e', n⟩ := hl a q; rw [e] at e'; cases e'; exact n ⟨c, _, _, r⟩) e, c, n', r⟩

theorem St.tkC {A C B : List Ck} {h' : Heap} (S : St D g f ns m (A ++ C ++ B) s) (hk : ∀ b o, b ∉ feet C → s.heap.get? b = some o → h'.get? b = some o) : TK s.heap h' :=
  tk_of hk fun b hb => S.liveF (.tail _ (List.mem_append_right _ (by rw [feet_append, feet_append]; simp [hb])))

/-- pieces exchanged -/
theorem St.re {A C B C' : List Ck} {h' : Heap} {tk : Nat} (S : St D g f ns m (A ++ C ++ B) s) (hk : ∀ b o, b ∉ feet C → s.heap.get? b = some o → h'.get? b = some o)
    (hh : ∀ c ∈ C', c.holds h') (hf : ∀ x ∈ feet C', x ∈ feet C ∨ s.heap.get? x = none) (hn : (feet C').Nodup) : St D g f ns m (A ++ C' ++ B) { s with heap := h', toks := tk } := by
  have T : TK s.heap h' := S.tkC hk
  have ap := S.apart
  have nC : ∀ x, x ∈ f.env.locals :: (f.own ++ (feet A ++ feet B)) → x ∉ feet C := by
    intro x hx q
    rw [feet_append, feet_append] at ap
    simp only [List.nodup_cons, List.nodup_append, List.mem_append, List.mem_cons] at ap hx
    obtain ⟨a1, a2, ⟨⟨a3, a4, a5⟩, a6, a7⟩, a8⟩ := ap
    rcases hx with rfl | hx | hx | hx
    · exact a1 (.inr (.inl (.inr q)))
    · exact a8 x hx x (.inl (.inr q)) rfl
    · exact a5 x hx x q rfl
    · exact a7 x (.inr q) x hx rfl
  have old : ∀ x, x ∈ f.env.locals :: (f.own ++ (feet A ++ feet B)) → ∀ o, s.heap.get? x = some o → h'.get? x = some o := fun x hx o e => hk x o (nC x hx) e
  have live : ∀ x, x ∈ f.env.locals :: (f.own ++ (feet A ++ feet B)) → ∃ o, s.heap.get? x = some o := fun x hx => by
    obtain ⟨o, e, _⟩ := S.liveF (x := x) (by
      rw [feet_append, feet_append]
      simp only [List.mem_cons, List.mem_append] at hx ⊢
      rcases hx with h | h | h | h <;> simp [h])
    exact ⟨o, e⟩
  have gC : ∀ b o, g.get? b = some o → h'.get? b = some o := fun b o e => hk b o (fun q => by
    have := S.fresh b (.tail _ (List.mem_append_right _ (by rw [feet_append, feet_append]; simp [q])))
    rw [this] at e; cases e) (S.keep b o e)
  refine ⟨S.ok, gC, ?_, ?_, S.cap, ?_, ?_, ?_, ?_, S.gens, S.hos, S.hdr⟩
  · obtain ⟨M, ⟨o, es, ep, ho, r⟩, q⟩ := S.lcl
    exact ⟨M, ⟨o, es, ep, old _ (.head _) o ho, r⟩, fun x a na => let ⟨v, e, z⟩ := q x a na; ⟨v, e, z.mono T⟩⟩
  · intro x kd a na hkd
    obtain ⟨c, v, hc, ⟨o, ho, hd⟩, hv⟩ := S.cell x kd a na hkd
    refine ⟨c, v, hc, ⟨o, ?_, hd⟩, hv.mono T⟩
    rcases S.cap x c hc with hg | ⟨o', hg⟩
    · exact old c (.tail _ (List.mem_append_left _ hg)) o ho
    · have h1 := S.keep _ _ hg
      rw [h1] at ho; cases ho
      exact gC _ _ hg
  · intro c hc
    obtain ⟨v, o, a, b⟩ := S.owns c hc
    exact ⟨v, o, old c (.tail _ (List.mem_append_left _ hc)) o a, b⟩
  · intro x hx
    have go : ∀ y, s.heap.get? y = none → g.get? y = none := fun y e => by
      cases q : g.get? y with
      | none => rfl
      | some o => rw [S.keep _ _ q] at e; cases e
    rw [feet_append, feet_append] at hx
    simp only [List.mem_cons, List.mem_append] at hx
    have old' : x = f.env.locals ∨ x ∈ f.own ∨ x ∈ feet A ∨ x ∈ feet B → g.get? x = none := fun h => S.fresh x (by
      rw [feet_append, feet_append]
      simp only [List.mem_cons, List.mem_append]
      rcases h with h | h | h | h <;> simp [h])
    rcases hx with h | h | (h | h) | h
    · exact old' (.inl h)
    · exact old' (.inr (.inl h))
    · exact old' (.inr (.inr (.inl h)))
    · rcases hf x h with q | q
      · exact S.fresh x (.tail _ (List.mem_append_right _ (by rw [feet_append, feet_append]; simp [q])))
      · exact go x q
    · exact old' (.inr (.inr (.inr h)))
  · rw [feet_append, feet_append] at ap ⊢
    have n1 : ∀ x, x ∈ f.env.locals :: (f.own ++ (feet A ++ feet B)) → x ∉ feet C' := fun x hx q => by
      rcases hf x q with h | h
      · exact nC x hx h
      · obtain ⟨o, e⟩ := live x hx
        rw [h] at e; cases e
    simp only [List.nodup_cons, List.nodup_append, List.mem_append, List.mem_cons] at ap n1 ⊢
    obtain ⟨a1, a2, ⟨⟨a3, a4, a5⟩, a6, a7⟩, a8⟩ := ap
    refine ⟨?_, a2, ⟨⟨a3, hn, ?_⟩, a6, ?_⟩, ?_⟩
    · rintro (h | (h | h) | h)
      · exact a1 (.inl h)
      · exact a1 (.inr (.inl (.inl h)))
      · exact n1 _ (.inl rfl) h
      · exact a1 (.inr (.inr h))
    · intro x hx y hy e
      subst e
      exact n1 x (.inr (.inr (.inl hx))) hy
    · rintro x (hx | hx) y hy rfl
      · exact a7 x (.inl hx) x hy rfl
      · exact n1 x (.inr (.inr (.inr hy))) hx
    · rintro x hx y ((hy | hy) | hy) rfl
      · exact a8 x hx x (.inl (.inl hy)) rfl
      · exact n1 x (.inr (.inl hx)) hy
      · exact a8 x hx x (.inr hy) rfl
  · intro c hc
    have oldC : ∀ c, c ∈ A ∨ c ∈ B → c.holds h' := fun c hc => by
      refine c.stable s.heap h' (fun x hx o e => old x ?_ o e) T (S.holds c (by
        simp only [List.mem_append]; rcases hc with h | h <;> simp [h]))
      simp only [List.mem_cons, List.mem_append]
      rcases hc with h | h
      · exact .inr (.inr (.inl (mem_feet h hx)))
      · exact .inr (.inr (.inr (mem_feet h hx)))
    simp only [List.mem_append] at hc
    rcases hc with (h | h) | h
    · exact oldC c (.inl h)
    · exact hh c h
    · exact oldC c (.inr h)

theorem St.upd {c c' : Ck} {P' : List Ck} {h' : Heap} {tk : Nat} (S : St D g f ns m P s) (w : Sw P c c' P') (hk : ∀ b o, b ∉ c.foot → s.heap.get? b = some o → h'.get? b = some o)
    (hh : c'.holds h') (hf : ∀ x ∈ c'.foot, x ∈ c.foot ∨ s.heap.get? x = none) (hn : c'.foot.Nodup) : St D g f ns m P' { s with heap := h', toks := tk } := by
  obtain ⟨A, B, rfl, rfl⟩ := w.split
  have e : ∀ c : Ck, A ++ c :: B = A ++ [c] ++ B := fun c => by simp
  have e2 : ∀ c : Ck, feet [c] = c.foot := fun c => by simp [feet]
  rw [e] at S ⊢
  refine S.re (fun b o n => hk b o (by rw [← e2]; exact n)) (fun d hd => by simp at hd; subst hd; exact hh) (fun x hx => ?_) (by rw [e2]; exact hn)
  rw [e2] at hx ⊢
  exact hf x hx
theorem St.new {c' : Ck} {h' : Heap} {tk : Nat} (S : St D g f ns m P s) (hk : ∀ b o, s.heap.get? b = some o → h'.get? b = some o)
    (hh : c'.holds h') (hf : ∀ x ∈ c'.foot, s.heap.get? x = none) (hn : c'.foot.Nodup) : St D g f ns m (P ++ [c']) { s with heap := h', toks := tk } := by
  have e2 : ∀ c : Ck, feet [c] = c.foot := fun c => by simp [feet]
  have S' : St D g f ns m (P ++ [] ++ []) s := by simpa using S
  have := S'.re (C' := [c']) (h' := h') (tk := tk) (fun b o _ => hk b o) (fun d hd => by simp at hd; subst hd; exact hh) (fun x hx => .inr (hf x (by rw [← e2]; exact hx))) (by rw [e2]; exact hn)
  simpa using this
/-- new objects that nobody names -/
theorem St.junk {h' : Heap} {tk : Nat} (S : St D g f ns m P s) (hk : ∀ b o, s.heap.get? b = some o → h'.get? b = some o) : St D g f ns m P { s with heap := h', toks := tk } := by
  have S' : St D g f ns m (P ++ [] ++ []) s := by simpa using S
  have := S'.re (C' := []) (h' := h') (tk := tk) (fun b o _ => hk b o) (fun d hd => by simp at hd) (fun x hx => by simp [feet] at hx) (by simp [feet])
  simpa using this
theorem St.toks {tk : Nat} (S : St D g f ns m P s) : St D g f ns m P { s with toks := tk } := S.junk (h' := s.heap) fun _ _ e => e
theorem feet_sub {P' P : List Ck} (h : P'.Sublist P) : (feet P').Sublist (feet P) := by
  induction h with
  | slnil => exact List.Sublist.refl _
  | cons a _ ih => exact ih.trans (List.sublist_append_right _ _)
  | cons_cons a _ ih => exact List.Sublist.append (List.Sublist.refl _) ih
theorem St.sub {P' : List Ck} (S : St D g f ns m P s) (h : P'.Sublist P) : St D g f ns m P' s := by
  have hs : (f.env.locals :: (f.own ++ feet P')).Sublist (f.env.locals :: (f.own ++ feet P)) := by
    refine List.Sublist.cons_cons _ (List.Sublist.append (List.Sublist.refl _) ?_)
    exact feet_sub h
  exact ⟨S.ok, S.keep, S.lcl, S.cell, S.cap, S.owns, fun x hx => S.fresh x (hs.subset hx), S.apart.sublist hs, fun c hc => S.holds c (h.subset hc), S.gens, S.hos, S.hdr⟩
theorem St.perm {P' : List Ck} (S : St D g f ns m P s) (h : P.Perm P') : St D g f ns m P' s := by
  have hp : (f.env.locals :: (f.own ++ feet P)).Perm (f.env.locals :: (f.own ++ feet P')) := by
    refine List.Perm.cons _ (List.Perm.append_left _ ?_)
    exact h.flatMap_right _
  exact ⟨S.ok, S.keep, S.lcl, S.cell, S.cap, S.owns, fun x hx => S.fresh x (hp.mem_iff.mpr hx), hp.nodup_iff.mp S.apart, fun c hc => S.holds c (h.mem_iff.mpr hc), S.gens, S.hos, S.hdr⟩

theorem FmOk.kindOf (h : FmOk f ns) {x : Str} {k : NameKind} (e : (x, k) ∈ ns) : f.env.kindOf x = some k := by
  show f.env.scope.names.lookup x = some k
  rw [h.names]; exact lookup_of_mem h.nodup e

theorem NmUp.get {ns : Nms} {m m' : Loc} {x k a} (u : NmUp ns m x k a m') : NmAt ns m' x k a := by
  induction u with
  | head => exact .head
  | tail _ ih => exact .tail ih

theorem St.setL {x : Str} {a : AVal} {v : Value} {m' : Loc} {h' : Heap} {M : Str → Option Value} {tk : Nat} (S : St D g f ns m P s) (u : NmUp ns m x .local a m') (hv : V s.heap a v)
    (hM : s.heap.Ns f.env.locals M) (hq : ∀ x a, NmAt ns m x .local a → ∃ v, M x = some v ∧ V s.heap a v)
    (hn : h'.Ns f.env.locals (fun y => if y = x then some v else M y)) (hs : Heap.SameBut f.env.locals s.heap h') : St D g f ns m' P { s with heap := h', toks := tk } := by
  have T : TK s.heap h' := TK.sameBut hs fun o e => by obtain ⟨o', es, ep, ho, hd, _⟩ := hM; rw [ho] at e; cases e; exact .dict hd
  have ap := S.apart
  rw [List.nodup_cons] at ap
  have ne : ∀ y ∈ f.own ++ feet P, y ≠ f.env.locals := fun y hy e => ap.1 (e ▸ hy)
  have gn : ∀ b o, g.get? b = some o → b ≠ f.env.locals := fun b o e q => by
    have := S.fresh f.env.locals (.head _); rw [← q, e] at this; cases this
  refine ⟨S.ok, fun b o e => (hs.2 b (gn b o e)).trans (S.keep b o e), ⟨_, hn, fun y b na => ?_⟩, fun y kd b na hkd => ?_, S.cap, fun c hc' => ?_, S.fresh, S.apart, fun c hc' => ?_, S.gens, S.hos, S.hdr⟩
  · by_cases hy : y = x
    · subst hy
      obtain ⟨_, rfl⟩ := NmAt.uniq S.ok.nodup na u.get
      exact ⟨v, by simp, hv.mono T⟩
    · rcases u.back na with ⟨rfl, _⟩ | na'
      · exact absurd rfl hy
      · obtain ⟨w, e, z⟩ := hq y b na'
        exact ⟨w, by simp [hy, e], z.mono T⟩
  · rcases u.back na with ⟨rfl, rfl, rfl⟩ | na'
    · rcases hkd with h | h <;> cases h
    · obtain ⟨c, w, h1, ⟨o, h2, h3⟩, h4⟩ := S.cell y kd b na' hkd
      have hne : c ≠ f.env.locals := by
        rcases S.cap y c h1 with h5 | ⟨o', h5⟩
        · exact ne c (List.mem_append_left _ h5)
        · exact gn c o' h5
      exact ⟨c, w, h1, ⟨o, (hs.2 c hne).trans h2, h3⟩, h4.mono T⟩
  · obtain ⟨w, o, h1, h2⟩ := S.owns c hc'
    exact ⟨w, o, (hs.2 c (ne c (List.mem_append_left _ hc'))).trans h1, h2⟩
  · refine c.stable s.heap h' (fun y hy o e => (hs.2 y (ne y (List.mem_append_right _ (mem_feet hc' hy)))).trans e) T (S.holds c hc')

theorem lookup_addr {cs : List (Str × Addr)} (h : (cs.map (·.2)).Nodup) {x y : Str} {c : Addr} (a : cs.lookup x = some c) (b : cs.lookup y = some c) : x = y := by
  refine name_of_addr ?_ (mem_of_lookup a) (mem_of_lookup b)
  exact List.pairwise_map.mp h

theorem St.setC {x : Str} {a : AVal} {v : Value} {c : Addr} {m' : Loc} {h' : Heap} {tk : Nat} (S : St D g f ns m P s) (u : NmUp ns m x .cell a m') (hv : V s.heap a v)
    (hc : f.env.cells.lookup x = some c) (ho : c ∈ f.own)
    (hn : h'.IsCell c (some v)) (hs : Heap.SameBut c s.heap h') : St D g f ns m' P { s with heap := h', toks := tk } := by
  have T : TK s.heap h' := TK.sameBut hs fun o e => by obtain ⟨w, o', e', q⟩ := S.owns c ho; rw [e'] at e; cases e; exact .cell q
  have ap := S.apart
  rw [List.nodup_cons, List.nodup_append] at ap
  have ne : ∀ y ∈ feet P, y ≠ c := fun y hy e => ap.2.2.2 c ho y hy e.symm
  have nl : f.env.locals ≠ c := fun e => ap.1 (List.mem_append_left _ (e ▸ ho))
  have gn : ∀ b o, g.get? b = some o → b ≠ c := fun b o e q => by
    have := S.fresh c (.tail _ (List.mem_append_left _ ho)); rw [← q, e] at this; cases this
  refine ⟨S.ok, fun b o e => (hs.2 b (gn b o e)).trans (S.keep b o e), ?_, fun y kd b na hkd => ?_, S.cap, fun d hd => ?_, S.fresh, S.apart, fun d hd => ?_, S.gens, S.hos, S.hdr⟩
  · obtain ⟨M, hM, hq⟩ := S.lcl
    refine ⟨M, hM.sameBut hs nl, fun y b na => ?_⟩
    rcases u.back na with ⟨_, h, _⟩ | na'
    · cases h
    · obtain ⟨w, e, z⟩ := hq y b na'
      exact ⟨w, e, z.mono T⟩
  · by_cases hy : y = x
    · subst hy
      obtain ⟨rfl, rfl⟩ := NmAt.uniq S.ok.nodup na u.get
      exact ⟨c, v, hc, hn, hv.mono T⟩
    · rcases u.back na with ⟨rfl, _⟩ | na'
      · exact absurd rfl hy
      · obtain ⟨d, w, h1, ⟨o, h2, h3⟩, h4⟩ := S.cell y kd b na' hkd
        have hne : d ≠ c := fun e => hy (lookup_addr S.ok.cells h1 (e ▸ hc))
        exact ⟨d, w, h1, ⟨o, (hs.2 d hne).trans h2, h3⟩, h4.mono T⟩
  · by_cases e : d = c
    · subst e; exact ⟨_, hn⟩
    · obtain ⟨w, o, h1, h2⟩ := S.owns d hd
      exact ⟨w, o, (hs.2 d e).trans h1, h2⟩
  · exact d.stable s.heap h' (fun y hy o e => (hs.2 y (ne y (mem_feet hd hy))).trans e) T (S.holds d hd)

/-- back from a frame whose base was all but the pieces (and some of its own) -/
theorem St.back {f' : Fm} {ns' : Nms} {m' : Loc} {P' : List Ck} {s' : Shared} {l : List Addr} (S : St D g f ns m P s) (hl : ∀ x ∈ l, x ∈ feet P ∨ (g.get? x = none ∧ x ∉ f.env.locals :: f.own ∧ ∀ o, s.heap.get? x = some o → NT o))
    (S' : St D (hideAll s.heap l) f' ns' m' P' s') : St D g f ns m P' s' ∧ TK s.heap s'.heap := by
  have ap := S.apart
  rw [List.nodup_cons, List.nodup_append] at ap
  have n1 : f.env.locals ∉ l := fun q => by
    rcases hl _ q with q | q
    · exact ap.1 (List.mem_append_right _ q)
    · exact q.2.1 (.head _)
  have n2 : ∀ c ∈ f.own, c ∉ l := fun c hc q => by
    rcases hl _ q with q | q
    · exact ap.2.2.2 c hc c q rfl
    · exact q.2.1 (.tail _ hc)
  have n3 : ∀ b o, g.get? b = some o → b ∉ l := fun b o e q => by
    rcases hl _ q with q | q
    · have := S.fresh b (.tail _ (List.mem_append_right _ q)); rw [this] at e; cases e
    · rw [q.1] at e; cases e
  have keep : ∀ b o, b ∉ l → s.heap.get? b = some o → s'.heap.get? b = some o := fun b o n e => S'.keep b o (hideAll_get _ e n)
  have T : TK s.heap s'.heap := fun a vs ⟨o, e, c, n', r⟩ => ⟨o, keep a o (fun q => by
    rcases hl _ q with q | q
    · obtain ⟨o', e', nt⟩ := S.liveF (.tail _ (List.mem_append_right _ q)); rw [e] at e'; cases e'; exact nt ⟨c, _, _, r⟩
    · exact q.2.2 o e ⟨c, _, _, r⟩) e, c, n', r⟩
  have out : ∀ x ∈ feet P', ∀ o, s.heap.get? x = some o → x ∈ l := fun x hx o e => by
    by_cases q : x ∈ l
    · exact q
    · have := S'.fresh x (.tail _ (List.mem_append_right _ hx))
      rw [hideAll_get l e q] at this; cases this
  refine ⟨⟨S.ok, fun b o e => keep b o (n3 b o e) (S.keep b o e), ?_, fun y kd b na hkd => ?_, S.cap, fun c hc => ?_, fun x hx => ?_, ?_, S'.holds, S'.gens, S'.hos, S'.hdr⟩, T⟩
  · obtain ⟨M, ⟨o, es, ep, ho, r⟩, hq⟩ := S.lcl
    exact ⟨M, ⟨o, es, ep, keep _ o n1 ho, r⟩, fun y b na => let ⟨w, e, z⟩ := hq y b na; ⟨w, e, z.mono T⟩⟩
  · obtain ⟨c, w, h1, ⟨o, h2, h3⟩, h4⟩ := S.cell y kd b na hkd
    have hne : c ∉ l := by
      rcases S.cap y c h1 with h5 | ⟨o', h5⟩
      · exact n2 c h5
      · exact n3 c o' h5
    exact ⟨c, w, h1, ⟨o, keep c o hne h2, h3⟩, h4.mono T⟩
  · obtain ⟨w, o, h1, h2⟩ := S.owns c hc
    exact ⟨w, o, keep c o (n2 c hc) h1, h2⟩
  · cases hx with
    | head => exact S.fresh _ (.head _)
    | tail _ hx =>
      rcases List.mem_append.mp hx with hx | hx
      · exact S.fresh x (.tail _ (List.mem_append_left _ hx))
      · cases q : g.get? x with
        | none => rfl
        | some o => exact absurd (out x hx o (S.keep x o q)) (n3 x o q)
  · have ap' := S'.apart
    rw [List.nodup_cons, List.nodup_append] at ap'
    rw [List.nodup_cons, List.nodup_append]
    refine ⟨fun q => ?_, ap.2.1, ap'.2.2.1, fun c hc y hy e => ?_⟩
    · rcases List.mem_append.mp q with q | q
      · exact ap.1 (List.mem_append_left _ q)
      · obtain ⟨M, ⟨o, es, ep, ho, r⟩, hq⟩ := S.lcl
        exact n1 (out _ q o ho)
    · subst e
      obtain ⟨w, o, h1, h2⟩ := S.owns c hc
      exact n2 c hc (out c hy o h1)

end

end Mine

-- WB
namespace Mine
open PySem PySem.W PySem.Calls PyProof.Rows
section
variable {D : WD} {g : Heap} {f : Fm} {ns : Nms} {m : Loc} {P R : List Ck} {s : Shared}

theorem St.notBase (S : St D g f ns m P s) {b : Addr} {o : Obj} (e : g.get? b = some o) : b ∉ f.env.locals :: (f.own ++ feet P) := fun q => by
  rw [S.fresh b q] at e; cases e

theorem St.rebase (S : St D g f ns m (P ++ R) s) : St D (hideAll s.heap (f.env.locals :: (f.own ++ feet P))) f ns m P s := by
  have S0 := S.sub (List.sublist_append_left P R)
  refine ⟨S.ok, fun b o e => of_hideAll _ e, S.lcl, S.cell, fun y c hc => ?_, S.owns, fun x hx => hideAll_none _ hx, S0.apart, S0.holds, S.gens, S.hos, S.hdr⟩
  rcases S.cap y c hc with h | ⟨o, h⟩
  · exact .inl h
  · exact .inr ⟨o, hideAll_get _ (S.keep _ _ h) (S0.notBase h)⟩

theorem St.unbase {m' : Loc} {P' : List Ck} {s' : Shared} (S : St D g f ns m (P ++ R) s) (S' : St D (hideAll s.heap (f.env.locals :: (f.own ++ feet P))) f ns m' P' s') : St D g f ns m' (P' ++ R) s' ∧ TK s.heap s'.heap := by
  have S0 := S.sub (List.sublist_append_left P R)
  have keep : ∀ b o, b ∉ f.env.locals :: (f.own ++ feet P) → s.heap.get? b = some o → s'.heap.get? b = some o := fun b o n e => S'.keep b o (hideAll_get _ e n)
  have T : TK s.heap s'.heap := tk_of keep fun b hb => S0.liveF hb
  have nR : ∀ x ∈ feet R, x ∉ f.env.locals :: (f.own ++ feet P) := fun x hx q => by
    have ap := S.apart
    rw [feet_append] at ap
    simp only [List.nodup_cons, List.nodup_append, List.mem_append, List.mem_cons] at ap q
    obtain ⟨a1, a2, ⟨a3, a4, a5⟩, a6⟩ := ap
    rcases q with rfl | q | q
    · exact a1 (.inr (.inr hx))
    · exact a6 x q x (.inr hx) rfl
    · exact a5 x q x hx rfl
  have liveR : ∀ x ∈ feet R, ∃ o, s.heap.get? x = some o := fun x hx => let ⟨o, e, _⟩ := S.liveF (.tail _ (List.mem_append_right _ (by rw [feet_append]; exact List.mem_append_right _ hx))); ⟨o, e⟩
  have nP' : ∀ x ∈ f.env.locals :: (f.own ++ feet P'), x ∉ feet R := fun x hx q => by
    obtain ⟨o, e⟩ := liveR x q
    have := S'.fresh x hx
    rw [hideAll_get _ e (nR x q)] at this; cases this
  refine ⟨⟨S.ok, fun b o e => keep b o (S0.notBase e) (S.keep b o e), S'.lcl, S'.cell, S.cap, S'.owns, fun x hx => ?_, ?_, fun c hc => ?_, S'.gens, S'.hos, S'.hdr⟩, T⟩
  · rw [feet_append] at hx
    simp only [List.mem_cons, List.mem_append] at hx
    have a1 : x ∈ f.env.locals :: (f.own ++ feet P') → g.get? x = none := fun hx => by
      cases q : g.get? x with
      | none => rfl
      | some o =>
        have := S'.fresh x hx
        rw [hideAll_get _ (S.keep _ _ q) (S0.notBase q)] at this; cases this
    rcases hx with h | h | h | h
    · exact a1 (by simp [h])
    · exact a1 (by simp [h])
    · exact a1 (by simp [h])
    · exact S.fresh x (.tail _ (List.mem_append_right _ (by rw [feet_append]; simp [h])))
  · have ap' := S'.apart
    have apR : (feet R).Nodup := by
      have := S.apart
      rw [feet_append] at this
      simp only [List.nodup_cons, List.nodup_append] at this
      exact this.2.2.1.2.1
    rw [feet_append]
    simp only [List.nodup_cons, List.nodup_append, List.mem_append, List.mem_cons] at ap' nP' ⊢
    obtain ⟨a1, a2, a3, a4⟩ := ap'
    refine ⟨?_, a2, ⟨a3, apR, ?_⟩, ?_⟩
    · rintro (h | h | h)
      · exact a1 (.inl h)
      · exact a1 (.inr h)
      · exact nP' _ (.inl rfl) h
    · rintro x hx y hy rfl
      exact nP' x (.inr (.inr hx)) hy
    · rintro x hx y (hy | hy) rfl
      · exact a4 x hx x hy rfl
      · exact nP' x (.inr (.inl hx)) hy
  · rcases List.mem_append.mp hc with hc | hc
    · exact S'.holds c hc
    · exact c.stable s.heap s'.heap (fun x hx o e => keep x o (nR x (mem_feet hc hx)) e) T (S.holds c (List.mem_append_right _ hc))

theorem PF.rebase (S : St D g f ns m P s) (p : PF D g) : PF D (hideAll s.heap (f.env.locals :: (f.own ++ feet P))) :=
  p.keeps fun _ _ e => hideAll_get _ (S.keep _ _ e) (S.notBase e)

/-- what a tree makes of some pieces it makes beside others -/
theorem Wp.frame {α β : Type} {n : Nat} {V' : Heap → β → α → Prop} {as : List AVal} {t : List Value → Sem α} {Q : β → Loc → List Ck → Prop}
    (h : Wp D n f ns V' as t m P Q) : Wp D n f ns V' as t m (P ++ R) (fun b m' P' => ∃ P'', P' = P'' ++ R ∧ Q b m' P'') := fun A g s vs r p S hv => by
  have S0 := S.sub (List.sublist_append_left P R)
  refine wpAny_mono (h A _ s vs r (p.rebase S0) S.rebase hv) (fun x s' => ?_) fun _ _ e => e
  rintro ⟨b, m', P', T, rb, S', q⟩
  exact ⟨b, m', _, T, rb, (S.unbase S').1, P', rfl, q⟩

theorem Wp.mono {α β : Type} {n : Nat} {V' : Heap → β → α → Prop} {as : List AVal} {t : List Value → Sem α} {Q Q' : β → Loc → List Ck → Prop}
    (h : Wp D n f ns V' as t m P Q) (k : ∀ b m' P', Q b m' P' → Q' b m' P') : Wp D n f ns V' as t m P Q' := fun A g s vs r p S hv =>
  wpAny_mono (h A g s vs r p S hv) (fun _ _ ⟨b, m', P', T, rb, S', q⟩ => ⟨b, m', P', T, rb, S', k _ _ _ q⟩) fun _ _ e => e
theorem Wp.perm {α β : Type} {n : Nat} {V' : Heap → β → α → Prop} {as : List AVal} {t : List Value → Sem α} {Q : β → Loc → List Ck → Prop} {P' : List Ck}
    (hp : P.Perm P') (h : Wp D n f ns V' as t m P' Q) : Wp D n f ns V' as t m P Q := fun A g s vs r p S hv => h A g s vs r p (S.perm hp) hv
theorem Wp.sub {α β : Type} {n : Nat} {V' : Heap → β → α → Prop} {as : List AVal} {t : List Value → Sem α} {Q : β → Loc → List Ck → Prop} {P' : List Ck}
    (hp : P'.Sublist P) (h : Wp D n f ns V' as t m P' Q) : Wp D n f ns V' as t m P Q := fun A g s vs r p S hv => h A g s vs r p (S.sub hp) hv
theorem Wp.room {α β : Type} {n k : Nat} {V' : Heap → β → α → Prop} {as : List AVal} {t : List Value → Sem α} {Q : β → Loc → List Ck → Prop}
    (hp : k ≤ n) (h : Wp D k f ns V' as t m P Q) : Wp D n f ns V' as t m P Q := fun A g s vs r p S hv => h A g s vs (r.mono hp) p S hv

/-- one tree behind another -/
theorem Wp.bind {α β γ δ : Type} {n : Nat} {V1 : Heap → β → α → Prop} {V2 : Heap → δ → γ → Prop} {as : List AVal} {t : List Value → Sem α} {k : List Value → α → Sem γ} {Q : δ → Loc → List Ck → Prop}
    (h : Wp D n f ns V1 as t m P fun b m' P' => ∀ A g s vs x, Room D n A → PF D g → St D g f ns m' P' s → Vs s.heap as vs → V1 s.heap b x →
      wpAny (model D.prog D.w) A (k vs x) (fun y s' => ∃ d m'' P'', TK s.heap s'.heap ∧ V2 s'.heap d y ∧ St D g f ns m'' P'' s' ∧ Q d m'' P'') (fun _ _ => False) s) :
    Wp D n f ns V2 as (fun vs => t vs >>= k vs) m P Q := fun A g s vs r p S hv => by
  refine wpAny_bind (wpAny_mono (h A g s vs r p S hv) (fun x s' => ?_) fun _ _ e => e)
  rintro ⟨b, m', P', T, rb, S', q⟩
  refine wpAny_mono (q A g s' vs x r p S' (hv.mono T) rb) (fun y s'' => ?_) fun _ _ e => e
  rintro ⟨d, m'', P'', T', rd, S'', q'⟩
  exact ⟨d, m'', P'', T.trans T', rd, S'', q'⟩
end
end Mine

-- WC
namespace Mine
open PySem PySem.W PySem.Calls PyProof.Rows

def BR (h : Heap) : List (Str × AVal) → List (Str × Value) → Prop
  | [], bs => bs = []
  | (x, a) :: r, bs => ∃ v t, bs = (x, v) :: t ∧ V h a v ∧ BR h r t
theorem BR.names {h : Heap} : ∀ {ab : List (Str × AVal)} {bs : List (Str × Value)}, BR h ab bs → bs.map (·.1) = ab.map (·.1)
  | [], _, e => by simp only [BR] at e; subst e; rfl
  | (x, a) :: r, _, e => by
    simp only [BR] at e
    obtain ⟨v, t, rfl, _, z⟩ := e
    simp [BR.names z]
theorem BR.get {h : Heap} : ∀ {ab : List (Str × AVal)} {bs : List (Str × Value)} {x : Str} {a : AVal}, BR h ab bs → ab.lookup x = some a → ∃ v, (x, v) ∈ bs ∧ V h a v
  | [], _, _, _, e, q => by cases q
  | (y, b) :: r, bs, x, a, e, q => by
    simp only [BR] at e
    obtain ⟨v, t, rfl, y', z⟩ := e
    rw [List.lookup_cons] at q
    cases hb : x == y with
    | true =>
      rw [hb] at q; cases q
      rw [beq_iff_eq] at hb; subst hb
      exact ⟨v, .head _, y'⟩
    | false =>
      rw [hb] at q
      obtain ⟨w, hw, hv⟩ := BR.get z q
      exact ⟨w, .tail _ hw, hv⟩

theorem bindL_keep {kd : Str → Option NameKind} {x : Str} : ∀ {bs : List (Str × Value)} {m : Str → Option Value}, x ∉ bs.map (·.1) → bindL kd bs m x = m x
  | [], _, _ => rfl
  | (n, v) :: r, m, h => by
    rw [List.map_cons, List.mem_cons, not_or] at h
    unfold bindL
    rw [bindL_keep h.2]
    split
    · simp [h.1]
    · rfl
theorem bindL_get {kd : Str → Option NameKind} {x : Str} {v : Value} : ∀ {bs : List (Str × Value)} {m : Str → Option Value}, (bs.map (·.1)).Nodup → (x, v) ∈ bs → kd x = some .local → bindL kd bs m x = some v
  | (n, w) :: r, m, nd, h, hk => by
    rw [List.map_cons, List.nodup_cons] at nd
    unfold bindL
    cases h with
    | head => rw [bindL_keep nd.1, if_pos hk]; simp
    | tail _ h => exact bindL_get nd.2 h hk
theorem bindC_keep {kd : Str → Option NameKind} {x : Str} : ∀ {bs : List (Str × Value)} {m : Str → Option Value}, x ∉ bs.map (·.1) → bindC kd bs m x = m x
  | [], _, _ => rfl
  | (n, v) :: r, m, h => by
    rw [List.map_cons, List.mem_cons, not_or] at h
    unfold bindC
    rw [bindC_keep h.2]
    split
    · rfl
    · simp [h.1]
theorem bindC_get {kd : Str → Option NameKind} {x : Str} {v : Value} : ∀ {bs : List (Str × Value)} {m : Str → Option Value}, (bs.map (·.1)).Nodup → (x, v) ∈ bs → kd x ≠ some .local → bindC kd bs m x = some v
  | (n, w) :: r, m, nd, h, hk => by
    rw [List.map_cons, List.nodup_cons] at nd
    unfold bindC
    cases h with
    | head => rw [bindC_keep nd.1, if_neg hk]; simp
    | tail _ h => exact bindC_get nd.2 h hk

theorem cellsFrom_mem {x : Str} {c : Addr} : ∀ {ns : Nms} {k : Nat} {acc : List (Str × Addr)}, (x, c) ∈ cellsFrom k ns acc → (x, c) ∈ acc ∨ (x, NameKind.cell) ∈ ns
  | [], _, _, h => .inl h
  | (n, kd) :: r, k, acc, h => by
    unfold cellsFrom at h
    split at h
    · rename_i q
      have q : kd = .cell := by simpa using q
      rcases cellsFrom_mem h with h | h
      · cases h with
        | head => exact .inr (q ▸ .head _)
        | tail _ h => exact .inl h
      · exact .inr (.tail _ h)
    · rcases cellsFrom_mem h with h | h
      · exact .inl h
      · exact .inr (.tail _ h)
theorem cellsFrom_some {x : Str} : ∀ {ns : Nms} {k : Nat} {acc : List (Str × Addr)}, ((acc.lookup x).isSome = true ∨ (x, NameKind.cell) ∈ ns) → ((cellsFrom k ns acc).lookup x).isSome = true
  | [], _, _, h => by
    rcases h with h | h
    · exact h
    · cases h
  | (n, kd) :: r, k, acc, h => by
    unfold cellsFrom
    split
    · refine cellsFrom_some ?_
      rw [List.lookup_cons]
      cases hb : x == n with
      | true => simp
      | false =>
        rcases h with h | h
        · exact .inl h
        · cases h with
          | head => simp at hb
          | tail _ h => exact .inr h
    · rename_i q
      refine cellsFrom_some ?_
      rcases h with h | h
      · exact .inl h
      · cases h with
        | head => simp at q
        | tail _ h => exact .inr h

def initL (ns : Nms) (ab : List (Str × AVal)) : Loc := ns.map fun p => ab.lookup p.1
theorem initL_at {ns : Nms} {ab : List (Str × AVal)} {x : Str} {k : NameKind} {a : AVal} (h : NmAt ns (initL ns ab) x k a) : ab.lookup x = some a := by
  induction ns with
  | nil => cases h
  | cons y r ih =>
    obtain ⟨z, kz⟩ := y
    unfold initL at h
    rw [List.map_cons] at h
    generalize hq : ab.lookup z = q at h
    cases h with
    | head => exact hq
    | tail h => exact ih h

def ownOf (ns : Nms) (cs : List (Str × Addr)) : List Addr := ns.filterMap fun p => if p.2 == .cell then cs.lookup p.1 else none
theorem mem_ownOf {ns : Nms} {cs : List (Str × Addr)} {c : Addr} (h : c ∈ ownOf ns cs) : ∃ x, (x, NameKind.cell) ∈ ns ∧ cs.lookup x = some c := by
  unfold ownOf at h
  obtain ⟨⟨x, k⟩, hm, he⟩ := List.mem_filterMap.mp h
  dsimp only at he
  split at he
  · rename_i q
    have q : k = .cell := by simpa using q
    exact ⟨x, q ▸ hm, he⟩
  · cases he
theorem ownOf_mem {ns : Nms} {cs : List (Str × Addr)} {x : Str} {c : Addr} (h : (x, NameKind.cell) ∈ ns) (e : cs.lookup x = some c) : c ∈ ownOf ns cs :=
  List.mem_filterMap.mpr ⟨(x, .cell), h, by simpa using e⟩
theorem ownOf_nodup {ns : Nms} {cs : List (Str × Addr)} (h : (ns.map (·.1)).Nodup) (hc : (cs.map (·.2)).Nodup) : (ownOf ns cs).Nodup := by
  unfold ownOf
  refine List.Pairwise.filterMap _ (fun a a' hne b hb b' hb' e => ?_) (List.pairwise_map.mp h)
  subst e
  split at hb <;> split at hb' <;> simp_all
  exact hne (lookup_addr hc hb hb')

/-- the frame of a call -/
abbrev frameOf (fd : FuncData) (L a : Addr) : Fm := ⟨callEnvC fd L a, ownOf fd.scope.names (callEnvC fd L a).cells⟩
def retOf : AFlow → AVal
  | .ret a => a
  | _ => .none

section
variable {D : WD} {g : Heap} {f : Fm} {ns : Nms} {m : Loc} {P : List Ck} {s : Shared}

/-- a code that ends with a value -/
def CodeC (D : WD) (n : Nat) (f : Fm) (ns : Nms) (as : List AVal) (c : List Value → Code) (m : Loc) (P : List Ck) (Q : AVal → Loc → List Ck → Prop) : Prop :=
  ∀ A g s vs, Room D n A → PF D g → St D g f ns m P s → Vs s.heap as vs → codeAny (model D.prog D.w) A (c vs) (fun r s' => match r with
    | .ok (.ret x) => ∃ b m' P', TK s.heap s'.heap ∧ V s'.heap b x ∧ St D g f ns m' P' s' ∧ Q b m' P'
    | .ok _ => False
    | .error e => (fun (_ : Value) (_ : Shared) => False) e s') s
theorem Wp.codeC {n : Nat} {as : List AVal} {Q : AVal → Loc → List Ck → Prop} {a : Addr} {oc : Value} {od : Option Addr} {fd : FuncData} {osl : Array (Option Value)} {body : List Stmt} {mk : List Value → Args}
    (ho : D.K.lookup a = some ⟨oc, od, .func fd, osl⟩) (hbody : fd.body = .stmts body) (hcd : codeIn D.K fd.code fd.qualname = true) (hclo : fd.closure = []) (hgl : fd.globals = mainGlobals) (hbl : fd.builtins = builtinsNs)
    (hnd : (fd.scope.names.map (·.1)).Nodup) (hfree : (fd.scope.names.all fun p => p.2 != .free) = true)
    (hb : Wp D n f ns BR as (fun vs => bindArgs fd (mk vs)) m P fun ab m1 P1 => (ab.map (·.1)).Nodup ∧ (∀ p ∈ ab, (p.1, NameKind.local) ∈ fd.scope.names ∨ (p.1, NameKind.cell) ∈ fd.scope.names) ∧
      ∀ L, Wp D n (frameOf fd L a) fd.scope.names F [] (fun _ => execs body (callEnvC fd L a)) (initL fd.scope.names ab) P1 fun fl _ P2 => Q (retOf fl) m1 P2)
    (hco : fd.scope.isCoroutine = false := by rfl) (hgen : fd.scope.isGenerator = false := by rfl) (hk : fd.scope.kind = .function := by rfl) :
    CodeC D (n + 1) f ns as (fun vs => .call (.ref a) (mk vs)) m P Q := fun A g s vs r p S hv => by
  refine codeAny_call_function r.lt (S.keep _ _ (p.K _ _ ho)) rfl hco hgen hbody (codeRec_of (p.K.keeps S.keep) hcd) ?_
  refine wpAny_mono (hb A.in1 g s vs r.in1 p S hv) (fun bs s₁ => ?_) fun _ _ e => e.elim
  rintro ⟨ab, m1, P1, T1, hbr, S1, nda, hin, hW⟩
  rw [hclo, hgl, hbl]
  have kind : ∀ x ∈ bs, (x.1, NameKind.local) ∈ fd.scope.names ∨ (x.1, NameKind.cell) ∈ fd.scope.names := fun x hx => by
    have : x.1 ∈ ab.map (·.1) := hbr.names ▸ List.mem_map_of_mem hx
    obtain ⟨p, hp, e⟩ := List.mem_map.mp this
    exact e ▸ hin p hp
  have ndb : (bs.map (·.1)).Nodup := by rw [hbr.names]; exact nda
  refine wpAny_newFunctionEnv_cells hk (fun x hx => ?_) fun env he s₂ X => ?_
  · rcases kind x hx with h | h
    · exact .inl (lookup_of_mem hnd h)
    · exact .inr ⟨lookup_of_mem hnd h, cellsFrom_some (.inr h)⟩
  obtain rfl : env = callEnvC fd s₁.heap.objs.size a := by rw [he]; unfold callEnvC; rw [hgl, hbl]
  obtain ⟨h₂, tk, rfl, hkp⟩ := X.done
  refine ⟨(p.nolimit.keeps S1.keep).keeps hkp, ?_⟩
  refine codeAny_func ?_
  have hcs : ((callEnvC fd s₁.heap.objs.size a).cells.map (·.2)).Nodup := List.pairwise_map.mpr X.apart
  have hcl : (callEnvC fd s₁.heap.objs.size a).cells = cellsFrom (s₁.heap.objs.size + 1) fd.scope.names [] := rfl
  have above : ∀ c ∈ ownOf fd.scope.names (callEnvC fd s₁.heap.objs.size a).cells, s₁.heap.objs.size < c := fun c hc => by
    obtain ⟨x, _, e⟩ := mem_ownOf hc
    exact X.above x c (mem_of_lookup e)
  have big : ∀ x, s₁.heap.objs.size ≤ x → s₁.heap.get? x = none := fun x hx => by
    cases q : s₁.heap.get? x with
    | none => rfl
    | some o => exact absurd (Heap.lt_size q) (Nat.not_lt.mpr hx)
  have big' : ∀ x, s₁.heap.objs.size ≤ x → (hideAll s₁.heap (feet P1)).get? x = none := fun x hx => by
    cases q : (hideAll s₁.heap (feet P1)).get? x with
    | none => rfl
    | some o => have := of_hideAll _ q; rw [big x hx] at this; cases this
  have small : ∀ x ∈ feet P1, x < s₁.heap.objs.size := fun x hx => let ⟨o, e, _⟩ := S1.liveF (.tail _ (List.mem_append_right _ hx)); Heap.lt_size e
  have T2 : TK s₁.heap h₂ := .keeps hkp
  have kd : ∀ x, (callEnvC fd s₁.heap.objs.size a).kindOf x = fd.scope.names.lookup x := fun _ => rfl
  have S2 : St D (hideAll s₁.heap (feet P1)) (frameOf fd s₁.heap.objs.size a) fd.scope.names (initL fd.scope.names ab) P1 { s₁ with heap := h₂, toks := tk } := by
    refine ⟨⟨hk, rfl, hnd, hgl, hbl, hcs, fun x hx => ?_⟩, fun b o e => hkp b o (of_hideAll _ e), ⟨_, X.toInCall.ns, fun x b na => ?_⟩, fun x k b na hkk => ?_, fun x c hc => .inl ?_, fun c hc => ?_, fun x hx => ?_, ?_, fun c hc => ?_, S1.gens, S1.hos, S1.hdr⟩
    · rcases hx with hx | hx
      · exact cellsFrom_some (.inr hx)
      · have := List.all_eq_true.mp hfree _ hx
        simp at this
    · obtain ⟨v, hm, hv⟩ := hbr.get (initL_at na)
      exact ⟨v, bindL_get ndb hm (by rw [kd]; exact lookup_of_mem hnd na.mem), hv.mono T2⟩
    · obtain ⟨v, hm, hv⟩ := hbr.get (initL_at na)
      rcases hkk with rfl | rfl
      · obtain ⟨c, hc⟩ := Option.isSome_iff_exists.mp (cellsFrom_some (k := s₁.heap.objs.size + 1) (acc := []) (.inr na.mem))
        refine ⟨c, v, hc, ?_, hv.mono T2⟩
        have := X.cell x c hc
        rw [bindC_get ndb hm (by rw [kd, lookup_of_mem hnd na.mem]; decide)] at this
        exact this
      · rcases kind (x, v) hm with h | h
        · cases nodup_fst hnd h na.mem
        · cases nodup_fst hnd h na.mem
    · have := cellsFrom_mem (mem_of_lookup hc)
      rcases this with h | h
      · cases h
      · exact ownOf_mem h hc
    · obtain ⟨x, _, e⟩ := mem_ownOf hc
      exact ⟨_, X.cell x c e⟩
    · cases hx with
      | head => exact big' _ (Nat.le_refl _)
      | tail _ hx =>
        rcases List.mem_append.mp hx with hx | hx
        · exact big' _ (Nat.le_of_lt (above x hx))
        · exact hideAll_none _ hx
    · have apf : (feet P1).Nodup := by
        have := S1.apart
        simp only [List.nodup_cons, List.nodup_append] at this
        exact this.2.2.1
      rw [List.nodup_cons, List.nodup_append]
      refine ⟨fun q => ?_, ownOf_nodup hnd hcs, apf, fun c hc y hy e => ?_⟩
      · rcases List.mem_append.mp q with q | q
        · exact Nat.lt_irrefl _ (above _ q)
        · exact Nat.lt_irrefl _ (small _ q)
      · subst e
        exact Nat.lt_irrefl _ (Nat.lt_trans (small c hy) (above c hc))
    · exact c.stable _ _ (fun x hx o e => hkp x o e) T2 (S1.holds c hc)
  refine wpAny_mono (hW s₁.heap.objs.size _ _ { s₁ with heap := h₂, toks := tk } [] r.deeper (p.keeps fun b o e => hideAll_get _ (S1.keep b o e) fun q => S1.notBase e (.tail _ (List.mem_append_right _ q))) S2 Vs.nil) (fun fl s₃ => ?_) fun _ _ e => e.elim
  rintro ⟨afl, m2, P2, T3, hF, S3, q⟩
  obtain ⟨Sb, Tb⟩ := S1.back (fun _ h => .inl h) S3
  refine ⟨retOf afl, m1, P2, T1.trans Tb, ?_, Sb, q⟩
  cases afl with
  | ret b => obtain ⟨v, rfl, hv⟩ := hF; exact hv
  | _ => subst hF; simp [retOf, V]
theorem CodeC.wp {n : Nat} {as : List AVal} {Q : AVal → Loc → List Ck → Prop} {fv : Value} {mk : List Value → Args} (h : CodeC D n f ns as (fun vs => .call fv (mk vs)) m P Q) : Wp D n f ns V as (fun vs => call fv (mk vs).pos (mk vs).kw) m P Q :=
  fun A g s vs r p S hv => wpAny_call (h A g s vs r p S hv)
end
end Mine

-- WE
namespace Mine
open PySem PySem.W PySem.Calls PyProof.Rows

abbrev NoE : Value → Shared → Prop := fun _ _ => False
abbrev Post {α β : Type} (D : WD) (g : Heap) (f : Fm) (ns : Nms) (R : Heap → β → α → Prop) (s0 : Shared) (Q : β → Loc → List Ck → Prop) : α → Shared → Prop :=
  fun x s' => ∃ b m' P', TK s0.heap s'.heap ∧ R s'.heap b x ∧ St D g f ns m' P' s' ∧ Q b m' P'

abbrev Ev (D : WD) (n : Nat) (f : Fm) (ns : Nms) (e : Expr) (m : Loc) (P : List Ck) (Q : AVal → Loc → List Ck → Prop) : Prop := Wp D n f ns V [] (fun _ => eval e f.env) m P Q
abbrev Ex (D : WD) (n : Nat) (f : Fm) (ns : Nms) (st : Stmt) (m : Loc) (P : List Ck) (Q : AFlow → Loc → List Ck → Prop) : Prop := Wp D n f ns F [] (fun _ => exec st f.env) m P Q
abbrev Exs (D : WD) (n : Nat) (f : Fm) (ns : Nms) (ss : List Stmt) (m : Loc) (P : List Ck) (Q : AFlow → Loc → List Ck → Prop) : Prop := Wp D n f ns F [] (fun _ => execs ss f.env) m P Q
abbrev Tr (D : WD) (n : Nat) (f : Fm) (ns : Nms) (e : Expr) (m : Loc) (P : List Ck) (Q : Bool → Loc → List Ck → Prop) : Prop := Wp D n f ns Eqv [] (fun _ => isTrue e f.env (eval e f.env)) m P Q
abbrev As (D : WD) (n : Nat) (f : Fm) (ns : Nms) (t : Expr) (a : AVal) (m : Loc) (P : List Ck) (Q : Loc → List Ck → Prop) : Prop := Wp D n f ns Eqv [a] (fun vs => assign t f.env (vs.getD 0 .none)) m P (fun (_ : Unit) => Q)
abbrev Op1 {α : Type} (k : Value → Sem α) : List Value → Sem α := fun vs => k (vs.getD 0 .none)
abbrev Op2 {α : Type} (k : Value → Value → Sem α) : List Value → Sem α := fun vs => k (vs.getD 0 .none) (vs.getD 1 .none)
abbrev Op3 {α : Type} (k : Value → Value → Value → Sem α) : List Value → Sem α := fun vs => k (vs.getD 0 .none) (vs.getD 1 .none) (vs.getD 2 .none)

section
variable {D : WD} {n : Nat} {f : Fm} {ns : Nms} {m : Loc} {P : List Ck}

theorem Wp.run {α β : Type} {R : Heap → β → α → Prop} {as : List AVal} {t : List Value → Sem α} {Q : β → Loc → List Ck → Prop} (h : Wp D n f ns R as t m P Q)
    {A : Around} {g : Heap} {s : Shared} {vs : List Value} {Q' : α → Shared → Prop} (r : Room D n A) (p : PF D g) (S : St D g f ns m P s) (hv : Vs s.heap as vs)
    (k : ∀ b m' P' x s', TK s.heap s'.heap → R s'.heap b x → St D g f ns m' P' s' → Q b m' P' → Q' x s') : wpAny (model D.prog D.w) A (t vs) Q' NoE s :=
  wpAny_mono (h A g s vs r p S hv) (fun x s' ⟨b, m', P', T, rb, S', q⟩ => k b m' P' x s' T rb S' q) fun _ _ e => e

theorem Vs1 {h : Heap} {a : AVal} {v : Value} (x : V h a v) : Vs h [a] [v] := .cons x .nil
theorem Vs2 {h : Heap} {a b : AVal} {v w : Value} (x : V h a v) (y : V h b w) : Vs h [a, b] [v, w] := .cons x (.cons y .nil)

theorem V.int {h : Heap} {i : Int} {t : Tok} : V h (.int i) (.int i t) := ⟨t, rfl⟩
theorem V.str {h : Heap} {l : List Nat} {t : Tok} : V h (.str l) (.str (mkS l) t) := ⟨t, rfl⟩
theorem mkS_cps (x : Str) : mkS x.cps.toList = x := by cases x; rfl

/-! constants, names -/
theorem Ev.int {i : Int} {k : Nat} {pos : Pos} {Q : AVal → Loc → List Ck → Prop} (h : Q (.int i) m P) : Ev D n f ns (.Constant (.int i) k pos) m P Q := fun A g s vs r p S hv =>
  wpAny_Constant_int ⟨_, m, P, TK.refl _, V.int, S.toks, h⟩
theorem Ev.str {x : Str} {k : Nat} {pos : Pos} {Q : AVal → Loc → List Ck → Prop} (h : Q (.str x.cps.toList) m P) : Ev D n f ns (.Constant (.str x) k pos) m P Q := fun A g s vs r p S hv =>
  Constant_str ⟨.str x.cps.toList, m, P, TK.refl _, ⟨_, by rw [mkS_cps]⟩, S.toks, h⟩
theorem Ev.bool {b : Bool} {k : Nat} {pos : Pos} {Q : AVal → Loc → List Ck → Prop} (h : Q (.bool b) m P) : Ev D n f ns (.Constant (.bool b) k pos) m P Q := fun A g s vs r p S hv =>
  wpAny_pure (a := Value.bool b) ⟨.bool b, m, P, TK.refl _, rfl, S, h⟩
theorem Ev.none {k : Nat} {pos : Pos} {Q : AVal → Loc → List Ck → Prop} (h : Q .none m P) : Ev D n f ns (.Constant .none k pos) m P Q := fun A g s vs r p S hv =>
  wpAny_pure (a := Value.none) ⟨.none, m, P, TK.refl _, rfl, S, h⟩

def notDebug (x : Str) : Bool := !(x == ("__debug__" : Str))
theorem notDebug_ {x : Str} (h : notDebug x = true) : (x == ("__debug__" : Str)) = false := by simpa [notDebug] using h

theorem Ev.local {x : Str} {a : AVal} {pos : Pos} {Q : AVal → Loc → List Ck → Prop} (e : NmAt ns m x .local a) (h : Q a m P) (hd : notDebug x = true := by decide +kernel) : Ev D n f ns (.Name x pos) m P Q := fun A g s vs r p S hv => by
  obtain ⟨M, hM, hq⟩ := S.lcl
  obtain ⟨v, hv, hx⟩ := hq x a e
  exact wpAny_Name (wpAny_loadName_local S.ok.kind (S.ok.kindOf e.mem) hM hv ⟨a, m, P, TK.refl _, hx, S, h⟩) (notDebug_ hd)
theorem Ev.cell {x : Str} {a : AVal} {pos : Pos} {Q : AVal → Loc → List Ck → Prop} (e : NmAt ns m x .cell a) (h : Q a m P) (hd : notDebug x = true := by decide +kernel) : Ev D n f ns (.Name x pos) m P Q := fun A g s vs r p S hv => by
  obtain ⟨c, v, hc, hi, hx⟩ := S.cell x _ a e (.inl rfl)
  exact wpAny_Name (wpAny_loadName_cell S.ok.kind (S.ok.kindOf e.mem) hc hi ⟨a, m, P, TK.refl _, hx, S, h⟩) (notDebug_ hd)
theorem Ev.free {x : Str} {a : AVal} {pos : Pos} {Q : AVal → Loc → List Ck → Prop} (e : NmAt ns m x .free a) (h : Q a m P) (hd : notDebug x = true := by decide +kernel)
    (hn : (x == ("__classdict__" : Str)) = false := by decide +kernel) : Ev D n f ns (.Name x pos) m P Q := fun A g s vs r p S hv => by
  obtain ⟨c, v, hc, hi, hx⟩ := S.cell x _ a e (.inr rfl)
  exact wpAny_Name (wpAny_loadName_free S.ok.kind (S.ok.kindOf e.mem) hc hi ⟨a, m, P, TK.refl _, hx, S, h⟩ hn) (notDebug_ hd)

inductive In1 : Nms → Str → NameKind → Prop
  | head {x k ns} : In1 ((x, k) :: ns) x k
  | tail {ns x k y} : In1 ns x k → In1 (y :: ns) x k
theorem In1.mem {ns : Nms} {x k} (h : In1 ns x k) : (x, k) ∈ ns := by
  induction h with
  | head => exact .head _
  | tail _ ih => exact .tail _ ih

theorem Ev.global {x : Str} {v : Value} {a : AVal} {pos : Pos} {Q : AVal → Loc → List Ck → Prop} (e : In1 ns x .globalImplicit) (hx : nsIn D.K mainGlobals x = some (some v)) (hv : ∀ h, V h a v) (h : Q a m P)
    (hd : notDebug x = true := by decide +kernel) : Ev D n f ns (.Name x pos) m P Q := fun A g s vs r p S _ => by
  refine Name_function_global S.ok.kind (S.ok.kindOf e.mem) ?_ (notDebug_ hd)
  unfold loadGlobal
  rw [S.ok.globals]
  refine wpAny_bind ((looks_nsIn (p.K.keeps S.keep) hx).here ?_)
  exact wpAny_pure ⟨a, m, P, TK.refl _, hv _, S, h⟩
theorem Ev.builtin {x : Str} {v : Value} {a : AVal} {pos : Pos} {Q : AVal → Loc → List Ck → Prop} (e : In1 ns x .globalImplicit) (hx : nsIn D.K mainGlobals x = some Option.none) (hb : bootBuiltins x = some v) (hv : ∀ h, V h a v) (h : Q a m P)
    (hd : notDebug x = true := by decide +kernel) (hn : x ≠ "__name__" := by decide +kernel) : Ev D n f ns (.Name x pos) m P Q := fun A g s vs r p S _ => by
  refine Name_function_global S.ok.kind (S.ok.kindOf e.mem) ?_ (notDebug_ hd)
  unfold loadGlobal
  rw [S.ok.globals, S.ok.blt]
  refine wpAny_bind ((looks_nsIn (p.K.keeps S.keep) hx).here ?_)
  refine wpAny_bind (wpAny_nsGet (p.bns.keeps S.keep) ?_)
  rw [p.blt x hn, hb]
  exact wpAny_pure ⟨a, m, P, TK.refl _, hv _, S, h⟩

/-! operators -/
theorem Ev.binop {l r : Expr} {op : Operator} {pos : Pos} {Q : AVal → Loc → List Ck → Prop}
    (h : Ev D n f ns l m P fun a m1 P1 => Ev D n f ns r m1 P1 fun b m2 P2 => Wp D n f ns V [a, b] (Op2 (binaryOp op)) m2 P2 Q) : Ev D n f ns (.BinOp l op r pos) m P Q := fun A g s vs rm p S hv =>
  wpAny_BinOp (h.run rm p S .nil fun a m1 P1 v s1 T1 hv1 S1 h1 => h1.run rm p S1 .nil fun b m2 P2 w s2 T2 hw S2 h2 =>
    h2.run rm p S2 (Vs2 (hv1.mono T2) hw) fun c m3 P3 x s3 T3 hx S3 q => ⟨c, m3, P3, (T1.trans T2).trans T3, hx, S3, q⟩)
theorem Ev.unop {x : Expr} {op : UnaryOp} {pos : Pos} {Q : AVal → Loc → List Ck → Prop}
    (h : Ev D n f ns x m P fun a m1 P1 => Wp D n f ns V [a] (Op1 (unaryOp op)) m1 P1 Q) : Ev D n f ns (.UnaryOp op x pos) m P Q := fun A g s vs rm p S hv =>
  wpAny_UnaryOp (h.run rm p S .nil fun a m1 P1 v s1 T1 hv1 S1 h1 => h1.run rm p S1 (Vs1 hv1) fun c m3 P3 x s3 T3 hx S3 q => ⟨c, m3, P3, T1.trans T3, hx, S3, q⟩)
theorem Ev.cmp {l r : Expr} {op : CmpOp} {pos : Pos} {Q : AVal → Loc → List Ck → Prop}
    (h : Ev D n f ns l m P fun a m1 P1 => Ev D n f ns r m1 P1 fun b m2 P2 => Wp D n f ns V [a, b] (Op2 (compareOp op)) m2 P2 Q)
    (hm : behindInMarks op r = false := by with_unfolding_all rfl) : Ev D n f ns (.Compare l [op] [r] pos) m P Q := fun A g s vs rm p S hv =>
  wpAny_Compare1 (h.run rm p S .nil fun a m1 P1 v s1 T1 hv1 S1 h1 => h1.run rm p S1 .nil fun b m2 P2 w s2 T2 hw S2 h2 =>
    h2.run rm p S2 (Vs2 (hv1.mono T2) hw) fun c m3 P3 x s3 T3 hx S3 q => ⟨c, m3, P3, (T1.trans T2).trans T3, hx, S3, q⟩) hm
theorem Tr.cmp {l r : Expr} {op : CmpOp} {pos : Pos} {Q : Bool → Loc → List Ck → Prop}
    (h : Ev D n f ns l m P fun a m1 P1 => Ev D n f ns r m1 P1 fun b m2 P2 => Wp D n f ns V [a, b] (Op2 (compareOp op)) m2 P2 fun c m3 P3 => ∃ b, c = .bool b ∧ Q b m3 P3)
    (hm : behindInMarks op r = false := by with_unfolding_all rfl) : Tr D n f ns (.Compare l [op] [r] pos) m P Q := fun A g s vs rm p S hv =>
  wpAny_isTrue_Compare1 (h.run rm p S .nil fun a m1 P1 v s1 T1 hv1 S1 h1 => h1.run rm p S1 .nil fun b m2 P2 w s2 T2 hw S2 h2 =>
    h2.run rm p S2 (Vs2 (hv1.mono T2) hw) fun c m3 P3 x s3 T3 hx S3 q => by
      obtain ⟨b, rfl, q⟩ := q
      simp only [V] at hx; subst hx
      exact wpAny_truthy_bool ⟨b, m3, P3, (T1.trans T2).trans T3, rfl, S3, q⟩) hm
theorem Tr.not {x : Expr} {pos : Pos} {Q : Bool → Loc → List Ck → Prop} (h : Tr D n f ns x m P fun b => Q (!b)) : Tr D n f ns (.UnaryOp .Not x pos) m P Q := fun A g s vs rm p S hv =>
  wpAny_isTrue_Not (h.run rm p S .nil fun b m1 P1 v s1 T1 hv1 S1 h1 => ⟨!b, m1, P1, T1, by cases hv1; rfl, S1, h1⟩)
theorem Ev.ifexp {t b o : Expr} {pos : Pos} {Q : AVal → Loc → List Ck → Prop}
    (h : Tr D n f ns t m P fun c m1 P1 => if c = true then Ev D n f ns b m1 P1 Q else Ev D n f ns o m1 P1 Q) : Ev D n f ns (.IfExp t b o pos) m P Q := fun A g s vs rm p S hv =>
  wpAny_IfExp (h.run rm p S .nil fun c m1 P1 v s1 T1 hv1 S1 h1 => by
    cases hv1
    cases c with
    | true => rw [if_pos rfl] at h1; exact Wp.run h1 rm p S1 .nil fun c m3 P3 x s3 T3 hx S3 q => ⟨c, m3, P3, T1.trans T3, hx, S3, q⟩
    | false => rw [if_neg Bool.false_ne_true] at h1; exact Wp.run h1 rm p S1 .nil fun c m3 P3 x s3 T3 hx S3 q => ⟨c, m3, P3, T1.trans T3, hx, S3, q⟩)

/-! statements -/
theorem Exs.nil {Q : AFlow → Loc → List Ck → Prop} (h : Q .next m P) : Exs D n f ns [] m P Q := fun A g s vs r p S hv =>
  wpAny_execs_nil ⟨.next, m, P, TK.refl _, rfl, S, h⟩
def seqQ (k : Loc → List Ck → Prop) (Q : AFlow → Loc → List Ck → Prop) : AFlow → Loc → List Ck → Prop
  | .next, m, P => k m P
  | fl, m, P => Q fl m P
theorem Exs.cons {st : Stmt} {rest : List Stmt} {Q : AFlow → Loc → List Ck → Prop} (h : Ex D n f ns st m P (seqQ (fun m1 P1 => Exs D n f ns rest m1 P1 Q) Q)) : Exs D n f ns (st :: rest) m P Q := fun A g s vs r p S hv =>
  wpAny_execs_cons (h.run r p S .nil fun fl m1 P1 x s1 T1 hx S1 q => by
    cases fl with
    | next =>
      cases hx
      exact Wp.run (q : Exs D n f ns rest m1 P1 Q) r p S1 .nil fun c m3 P3 x s3 T3 hx S3 q => ⟨c, m3, P3, T1.trans T3, hx, S3, q⟩
    | brk => cases hx; exact ⟨.brk, m1, P1, T1, rfl, S1, q⟩
    | cont => cases hx; exact ⟨.cont, m1, P1, T1, rfl, S1, q⟩
    | ret a => obtain ⟨v, rfl, hv⟩ := hx; exact ⟨.ret a, m1, P1, T1, ⟨v, rfl, hv⟩, S1, q⟩)
theorem Ex.ret {e : Expr} {pos : Pos} {Q : AFlow → Loc → List Ck → Prop} (h : Ev D n f ns e m P fun a m1 P1 => Q (.ret a) m1 P1) : Ex D n f ns (.Return (some e) pos) m P Q := fun A g s vs r p S hv =>
  wpAny_Return_some (h.run r p S .nil fun a m1 P1 x s1 T1 hx S1 q => ⟨.ret a, m1, P1, T1, ⟨x, rfl, hx⟩, S1, q⟩)
theorem Ex.ret0 {pos : Pos} {Q : AFlow → Loc → List Ck → Prop} (h : Q (.ret .none) m P) : Ex D n f ns (.Return none pos) m P Q := fun A g s vs r p S hv =>
  wpAny_Return_none ⟨.ret .none, m, P, TK.refl _, ⟨_, rfl, rfl⟩, S, h⟩
theorem Ex.ite {t : Expr} {b o : List Stmt} {pos : Pos} {Q : AFlow → Loc → List Ck → Prop} (h : Tr D n f ns t m P fun c m1 P1 => if c = true then Exs D n f ns b m1 P1 Q else Exs D n f ns o m1 P1 Q) :
    Ex D n f ns (.If t b o pos) m P Q := fun A g s vs r p S hv =>
  wpAny_If (h.run r p S .nil fun c m1 P1 v s1 T1 hv1 S1 h1 => by
    cases hv1
    cases c with
    | true => rw [if_pos rfl] at h1; exact Wp.run h1 r p S1 .nil fun c m3 P3 x s3 T3 hx S3 q => ⟨c, m3, P3, T1.trans T3, hx, S3, q⟩
    | false => rw [if_neg Bool.false_ne_true] at h1; exact Wp.run h1 r p S1 .nil fun c m3 P3 x s3 T3 hx S3 q => ⟨c, m3, P3, T1.trans T3, hx, S3, q⟩)
theorem Ex.cont {pos : Pos} {Q : AFlow → Loc → List Ck → Prop} (h : Q .cont m P) : Ex D n f ns (.Continue pos) m P Q := fun A g s vs r p S hv => wpAny_Continue ⟨.cont, m, P, TK.refl _, rfl, S, h⟩
theorem Ex.brk {pos : Pos} {Q : AFlow → Loc → List Ck → Prop} (h : Q .brk m P) : Ex D n f ns (.Break pos) m P Q := fun A g s vs r p S hv => wpAny_Break ⟨.brk, m, P, TK.refl _, rfl, S, h⟩
theorem Ex.pass {pos : Pos} {Q : AFlow → Loc → List Ck → Prop} (h : Q .next m P) : Ex D n f ns (.Pass pos) m P Q := fun A g s vs r p S hv => wpAny_Pass ⟨.next, m, P, TK.refl _, rfl, S, h⟩
theorem Ex.expr {e : Expr} {pos : Pos} {Q : AFlow → Loc → List Ck → Prop} (h : Ev D n f ns e m P fun _ m1 P1 => Q .next m1 P1) (hi : interactive f.env = false := by rfl) (hs : swapsWith e Option.none pos.line f.env = pure false := by rfl) :
    Ex D n f ns (.Expr e pos) m P Q := fun A g s vs r p S hv =>
  wpAny_Expr_any (h.run r p S .nil fun a m1 P1 x s1 T1 hx S1 q => ⟨.next, m1, P1, T1, rfl, S1, q⟩) hi hs

theorem storeL {x : Str} {a : AVal} {m' : Loc} {Q : Loc → List Ck → Prop} (u : NmUp ns m x .local a m') (h : Q m' P) : Wp D n f ns Eqv [a] (Op1 fun v => storeName f.env x v) m P (fun (_ : Unit) => Q) := fun A g s vs r p S hv => by
  obtain ⟨v, rfl, hx⟩ := Vs.one hv
  obtain ⟨M, hM, hq⟩ := S.lcl
  refine wpAny_storeName_local (S.ok.kindOf u.mem) hM (fun h' hn hs => ⟨(), m', P, TK.sameBut hs fun o e => ?_, rfl, S.setL u hx hM hq hn hs, h⟩) ?_
  · obtain ⟨o', es, ep, ho, hd, _⟩ := hM; rw [ho] at e; cases e; exact .dict hd
  · rw [S.ok.kind]; rfl
theorem storeC {x : Str} {a : AVal} {m' : Loc} {Q : Loc → List Ck → Prop} (u : NmUp ns m x .cell a m') (hc : ∀ c, f.env.cells.lookup x = some c → c ∈ f.own) (hs : (f.env.cells.lookup x).isSome = true) (h : Q m' P) :
    Wp D n f ns Eqv [a] (Op1 fun v => storeName f.env x v) m P (fun (_ : Unit) => Q) := fun A g s vs r p S hv => by
  obtain ⟨v, rfl, hx⟩ := Vs.one hv
  obtain ⟨c, e⟩ := Option.isSome_iff_exists.mp hs
  obtain ⟨v0, hc0⟩ := S.owns c (hc c e)
  refine wpAny_storeName_cell S.ok.kind (S.ok.kindOf u.mem) e hc0 fun h' hn hs => ⟨(), m', P, TK.sameBut hs fun o e => ?_, rfl, S.setC u hx e (hc c e) hn hs, h⟩
  obtain ⟨o', e', q⟩ := hc0; rw [e'] at e; cases e; exact .cell q

theorem As.local {x : Str} {pos : Pos} {a : AVal} {m' : Loc} {Q : Loc → List Ck → Prop} (u : NmUp ns m x .local a m') (h : Q m' P) : As D n f ns (.Name x pos) a m P Q := fun A g s vs r p S hv => by
  obtain ⟨v, rfl, hx⟩ := Vs.one hv
  exact wpAny_assign_Name ((storeL u h : Wp D n f ns Eqv _ _ m P _) A g s [v] r p S (Vs1 hx))
theorem As.cell {x : Str} {pos : Pos} {a : AVal} {m' : Loc} {Q : Loc → List Ck → Prop} (u : NmUp ns m x .cell a m') (hc : ∀ c, f.env.cells.lookup x = some c → c ∈ f.own) (hs : (f.env.cells.lookup x).isSome = true) (h : Q m' P) :
    As D n f ns (.Name x pos) a m P Q := fun A g s vs r p S hv => by
  obtain ⟨v, rfl, hx⟩ := Vs.one hv
  exact wpAny_assign_Name ((storeC u hc hs h : Wp D n f ns Eqv _ _ m P _) A g s [v] r p S (Vs1 hx))

theorem Ex.assign {x : Str} {pos' : Pos} {value : Expr} {pos : Pos} {Q : AFlow → Loc → List Ck → Prop}
    (h : Ev D n f ns value m P fun a m1 P1 => As D n f ns (.Name x pos') a m1 P1 fun m2 P2 => Q .next m2 P2)
    (hs : swapsWith value (some (.Name x pos')) pos.line f.env = pure false := by rfl) : Ex D n f ns (.Assign [.Name x pos'] value pos) m P Q := fun A g s vs r p S hv => by
  rw [exec_Assign_Name f.env x pos' value pos hs]
  refine wpAny_bind (wpAny_standAt (wpAny_bind (h.run r p S .nil fun a m1 P1 v s1 T1 hv S1 q => ?_)))
  have q2 := q A g s1 [v] r p S1 (Vs1 hv)
  show wpAny (model D.prog D.w) A (PySem.assign (.Name x pos') f.env v >>= fun _ => pure Flow.next) _ _ _
  refine wpAny_bind (wpAny_mono q2 (fun u s2 => ?_) fun _ _ e => e)
  rintro ⟨_, m2, P2, T2, _, S2, q⟩
  exact wpAny_pure ⟨.next, m2, P2, T1.trans T2, rfl, S2, q⟩
end
end Mine

-- WF
namespace Mine
open PySem PySem.W PySem.Calls PyProof.Rows

def valOf : AVal → Value
  | .ref a => .ref a
  | .blt i => .builtin i
  | .typ n => .type n
  | _ => .none
def isFn : AVal → Bool
  | .ref _ | .blt _ | .typ _ => true
  | _ => false
theorem V.fn {h : Heap} {a : AVal} {v : Value} (e : isFn a = true) (x : V h a v) : v = valOf a := by
  cases a <;> simp_all [V, valOf, isFn]

inductive KeepOk (K : Frag) (P : List Ck) : AVal → Prop
  | blt {i} : KeepOk K P (.blt i)
  | typ {n} : KeepOk K P (.typ n)
  | fn {a oc od fd osl} (h : K.lookup a = some ⟨oc, od, .func fd, osl⟩) : KeepOk K P (.ref a)
  | cls {a oc od cd osl} (h : K.lookup a = some ⟨oc, od, .cls cd, osl⟩) (h2 : specialIn K (.ref a) "__call__" = some (some (.builtin "type.__call__"))) : KeepOk K P (.ref a)
  | own {a} {c : Ck} (hm : c ∈ P) (h : ∀ h, c.holds h → ∃ o fd, h.get? a = some o ∧ o.data = .func fd) : KeepOk K P (.ref a)

theorem KeepOk.looks {K : Frag} {M : Model} {h : Heap} {a : AVal} {P : List Ck} (k : KeepOk K P a) (X : K.In h) (hP : ∀ c ∈ P, c.holds h) : ∃ kp, kp ≠ Keeper.caller ∧ kp ≠ Keeper.boundFrame ∧ Looks M h (keeperOf (valOf a)) kp := by
  cases k with
  | blt => exact ⟨.machine, by decide, by decide, Looks.now⟩
  | typ => exact ⟨.machine, by decide, by decide, Looks.now⟩
  | fn e =>
    refine ⟨.frame, by decide, by decide, ?_⟩
    unfold valOf keeperOf
    refine (Looks.ld (part := Option.none) (X _ _ e)).andThen ?_
    exact .now
  | cls e e2 =>
    refine ⟨.machine, by decide, by decide, ?_⟩
    unfold valOf keeperOf
    refine (Looks.ld (part := Option.none) (X _ _ e)).andThen ?_
    dsimp only
    refine (looks_specialIn X e2).andThen ?_
    exact .now
  | own hm e =>
    obtain ⟨o, fd, ho, hd⟩ := e h (hP _ hm)
    refine ⟨.frame, by decide, by decide, ?_⟩
    unfold valOf keeperOf
    refine (Looks.ld (part := Option.none) ho).andThen ?_
    dsimp only
    rw [hd]
    exact .now

section
variable {M : Model} {A : Around} {E : Value → Shared → Prop} {s : Shared}
theorem callWith_gen {pos : Pos} {f : Value} {first : List Value} {args : List (Bool × Sem Value)} {keywords : List (Option Str × Sem Value)} {Q : Value → Shared → Prop} (hplain : args.any (·.1) = false) (hkw : keywords.any (·.1.isNone) = false)
    (h : wpAny M A (evalArgs f true args keywords) (fun a s₁ => (∃ kp, kp ≠ Keeper.caller ∧ kp ≠ Keeper.boundFrame ∧ Looks M s₁.heap (keeperOf f) kp) ∧ wpAny M A (call f (first ++ a.pos) a.kw) Q E s₁) E s) :
    wpAny M A (callWith pos f first args keywords) Q E s := by
  unfold callWith
  refine wpAny_bind (wpAny_holding (wpAny_mono h (fun a s₁ h₁ => wpAny_bind (wpAny_standAt ?_)) fun _ _ x => x))
  obtain ⟨⟨kp, hk, hk2, L⟩, h₁⟩ := h₁
  have tail : ∀ {t : Sem Value}, wpAny M A t Q E s₁ → wpAny M A (t >>= fun r => holding [r] point >>= fun _ => pure r) Q E s₁ :=
    fun ht => wpAny_bind (wpAny_mono ht (fun r s₂ hr => wpAny_bind (wpAny_holding (wpAny_point (wpAny_pure hr)))) fun _ _ x => x)
  simp only [hplain, hkw, Bool.or_false]
  refine wpAny_bind (L.here ?_)
  cases kp with
  | caller => exact absurd rfl hk
  | boundFrame => exact absurd rfl hk2
  | machine => exact tail h₁
  | frame =>
    dsimp only
    refine wpAny_ite ?_
    split
    · exact tail h₁
    · exact tail (by unfold callMarked; exact wpAny_keep h₁)
end

section
variable {D : WD} {n : Nat} {f : Fm} {ns : Nms} {m : Loc} {P : List Ck}

abbrev Ar (D : WD) (n : Nat) (f : Fm) (ns : Nms) (es : List Expr) (pos : Pos) (m : Loc) (P : List Ck) (Q : List AVal → Loc → List Ck → Prop) : Prop :=
  Wp D n f ns Vs [] (fun _ => spliced (backTo pos (starEach es f.env))) m P Q
theorem Ar.nil {pos : Pos} {Q : List AVal → Loc → List Ck → Prop} (h : Q [] m P) : Ar D n f ns [] pos m P Q := fun A g s vs r p S _ =>
  args_nil ⟨[], m, P, TK.refl _, Vs.nil, S, h⟩
theorem Ar.cons {e : Expr} {es : List Expr} {pos : Pos} {Q : List AVal → Loc → List Ck → Prop}
    (h : Ev D n f ns e m P fun a m1 P1 => Ar D n f ns es pos m1 P1 fun as m2 P2 => Q (a :: as) m2 P2) (he : starEach (e :: es) f.env = (false, eval e f.env) :: starEach es f.env := by rfl) : Ar D n f ns (e :: es) pos m P Q := fun A g s vs r p S _ =>
  args_cons (h.run r p S .nil fun a m1 P1 v s1 T1 hv S1 q => q.run r p S1 .nil fun as m2 P2 vs s2 T2 hvs S2 q2 => ⟨a :: as, m2, P2, T1.trans T2, .cons (hv.mono T2) hvs, S2, q2⟩) he

/-- the words of a call's names -/
abbrev Ks (D : WD) (n : Nat) (f : Fm) (ns : Nms) (kws : List Keyword) (pos : Pos) (m : Loc) (P : List Ck) (Q : List AVal → Loc → List Ck → Prop) : Prop :=
  Wp D n f ns Vs [] (fun _ => evalAll ((backToKw pos (keywordEach kws f.env)).map (·.2))) m P Q
theorem Ks.nil {pos : Pos} {Q : List AVal → Loc → List Ck → Prop} (h : Q [] m P) : Ks D n f ns [] pos m P Q := fun A g s vs r p S _ =>
  wpAny_evalAll_nil ⟨[], m, P, TK.refl _, Vs.nil, S, h⟩
theorem Ks.cons {x : Option Str} {e : Expr} {kp : Pos} {kws : List Keyword} {pos : Pos} {Q : List AVal → Loc → List Ck → Prop}
    (h : Ev D n f ns e m P fun a m1 P1 => Ks D n f ns kws pos m1 P1 fun as m2 P2 => Q (a :: as) m2 P2) : Ks D n f ns (⟨x, e, kp⟩ :: kws) pos m P Q := fun A g s vs r p S _ => by
  show wpAny _ _ (evalAll ((do let v ← eval e f.env; standAt pos; pure v) :: (backToKw pos (keywordEach kws f.env)).map (·.2))) _ _ _
  refine wpAny_evalAll_cons (wpAny_bind (h.run r p S .nil fun a m1 P1 v s1 T1 hv S1 q => wpAny_bind (wpAny_standAt (wpAny_pure ?_))))
  exact q.run r p S1 .nil fun as m2 P2 vs s2 T2 hvs S2 q2 => ⟨a :: as, m2, P2, T1.trans T2, .cons (hv.mono T2) hvs, S2, q2⟩

def plainArgs : List Expr → Bool
  | [] => true
  | .Starred .. :: _ => false
  | _ :: r => plainArgs r
theorem starEach_plain {env : Env} {pos : Pos} : ∀ {es : List Expr}, plainArgs es = true → (backTo pos (starEach es env)).any (·.1) = false
  | [], _ => by simp [starEach, backTo]
  | e :: r, h => by
    cases e <;> first | (cases h; done) | (simp only [starEach, backTo, List.map_cons, List.any_cons, Bool.false_or]; exact starEach_plain (es := r) h)
def namedKw : List Keyword → Bool
  | [] => true
  | ⟨some _, _, _⟩ :: r => namedKw r
  | _ => false
theorem keywordEach_named {env : Env} {pos : Pos} : ∀ {ks : List Keyword}, namedKw ks = true → (backToKw pos (keywordEach ks env)).any (·.1.isNone) = false ∧ (backToKw pos (keywordEach ks env)).all (·.1.isSome) = true ∧
    (backToKw pos (keywordEach ks env)).filterMap (·.1) = ks.filterMap (·.arg)
  | [], _ => by simp [keywordEach, backToKw]
  | ⟨some x, e, q⟩ :: r, h => by
    obtain ⟨a, b, c⟩ := keywordEach_named (env := env) (pos := pos) (ks := r) h
    refine ⟨?_, ?_, ?_⟩
    · simp only [keywordEach, backToKw, List.map_cons, List.any_cons, Option.isNone_some, Bool.false_or]; exact a
    · simp only [keywordEach, backToKw, List.map_cons, List.all_cons, Option.isSome_some, Bool.true_and]; exact b
    · simp only [keywordEach, backToKw, List.map_cons, List.filterMap_cons]; rw [← c]; rfl

theorem args_gen {fv : Value} {es : List Expr} {kws : List Keyword} {pos : Pos} {A : Around} {g : Heap} {s : Shared} {Q' : Args → Shared → Prop} (r : Room D n A) (p : PF D g) (S : St D g f ns m P s) (hp : plainArgs es = true) (hk : namedKw kws = true)
    {Q : List AVal → List AVal → Loc → List Ck → Prop} (h : Ar D n f ns es pos m P fun as m1 P1 => Ks D n f ns kws pos m1 P1 fun ks m2 P2 => Q as ks m2 P2)
    (k : ∀ as ks m2 P2 vs ws s2, TK s.heap s2.heap → Vs s2.heap as vs → Vs s2.heap ks ws → St D g f ns m2 P2 s2 → Q as ks m2 P2 → Q' ⟨vs, (kws.filterMap (·.arg)).zip ws⟩ s2) :
    wpAny (model D.prog D.w) A (evalArgs fv true (backTo pos (starEach es f.env)) (backToKw pos (keywordEach kws f.env))) Q' NoE s := by
  obtain ⟨k1, k2, k3⟩ := keywordEach_named (env := f.env) (pos := pos) hk
  have body : wpAny (model D.prog D.w) A (spliced (backTo pos (starEach es f.env))) (fun vs s₁ => wpAny (model D.prog D.w) A (evalAll ((backToKw pos (keywordEach kws f.env)).map (·.2))) (fun ks s₂ => Q' ⟨vs, ((backToKw pos (keywordEach kws f.env)).filterMap (·.1)).zip ks⟩ s₂) NoE s₁) NoE s := by
    refine h.run r p S .nil fun as m1 P1 vs s1 T1 hv S1 q => ?_
    refine q.run r p S1 .nil fun ks m2 P2 ws s2 T2 hw S2 q2 => ?_
    rw [k3]
    exact k as ks m2 P2 vs ws s2 (T1.trans T2) (hv.mono T2) hw S2 q2
  cases hes : backTo pos (starEach es f.env) with
  | nil =>
    rw [hes] at body
    refine evalArgs_kw_nil k2 ?_
    exact fun Γ q hΓ => by
      have := body Γ q hΓ
      have t : wpAny (model D.prog D.w) A (evalAll ((backToKw pos (keywordEach kws f.env)).map (·.2))) (fun ks s₂ => Q' ⟨[], ((backToKw pos (keywordEach kws f.env)).filterMap (·.1)).zip ks⟩ s₂) NoE s := this
      exact t Γ q hΓ
  | cons x rest =>
    obtain ⟨b, t⟩ := x
    have hb : b = false := by
      have := starEach_plain (env := f.env) (pos := pos) hp
      rw [hes] at this
      simp only [List.any_cons, Bool.or_eq_false_iff] at this
      exact this.1
    subst hb
    rw [hes] at body
    exact evalArgs_kw k2 body

/-- what is called, with what -/
abbrev Cal (D : WD) (n : Nat) (f : Fm) (ns : Nms) (fa : AVal) (as ks : List AVal) (kn : List Str) (m : Loc) (P : List Ck) (Q : AVal → Loc → List Ck → Prop) : Prop :=
  Wp D n f ns V (as ++ ks) (fun vs => call (valOf fa) (vs.take as.length) (kn.zip (vs.drop as.length))) m P Q

theorem Ev.call {fe : Expr} {es : List Expr} {kws : List Keyword} {pos : Pos} {Q : AVal → Loc → List Ck → Prop}
    (h : Ev D n f ns fe m P fun fa m1 P1 => isFn fa = true ∧ Ar D n f ns es pos m1 P1 fun as m2 P2 => Ks D n f ns kws pos m2 P2 fun ks m3 P3 => KeepOk D.K P3 fa ∧ Cal D n f ns fa as ks (kws.filterMap (·.arg)) m3 P3 Q)
    (hp : plainArgs es = true := by rfl) (hk : namedKw kws = true := by rfl)
    (he : eval (.Call fe es kws pos) f.env = (do callWith pos (← eval fe f.env) [] (backTo pos (starEach es f.env)) (backToKw pos (keywordEach kws f.env))) := by rfl) :
    Ev D n f ns (.Call fe es kws pos) m P Q := fun A g s vs r p S _ => by
  rw [he]
  refine wpAny_bind (h.run r p S .nil fun fa m1 P1 v s1 T1 hv S1 q => ?_)
  obtain ⟨q0, q⟩ := q
  rw [V.fn q0 hv]
  refine callWith_gen (starEach_plain hp) (keywordEach_named hk).1 ?_
  refine args_gen r p S1 hp hk q fun as ks m3 P3 vs ws s3 T3 hvs hws S3 q3 => ⟨q3.1.looks (p.K.keeps S3.keep) S3.holds, ?_⟩
  have hlen := hvs.length
  have := q3.2.run (Q' := Post D g f ns V s Q) r p S3 (hvs.append hws) fun c m4 P4 x s4 T4 hx S4 q4 => ⟨c, m4, P4, (T1.trans T3).trans T4, hx, S4, q4⟩
  rw [← hlen, List.take_left, List.drop_left] at this
  exact this

def PairR (h : Heap) (b : AVal × List AVal) (x : Value × List Value) : Prop := x.1 = valOf b.1 ∧ Vs h b.2 x.2
abbrev Gm (D : WD) (n : Nat) (f : Fm) (ns : Nms) (a : AVal) (name : Str) (m : Loc) (P : List Ck) (Q : AVal × List AVal → Loc → List Ck → Prop) : Prop :=
  ∀ pl, Wp D n f ns PairR [a] (Op1 fun v => getMethod v name pl) m P Q

theorem Ev.meth {o : Expr} {name : Str} {apos : Pos} {es : List Expr} {kws : List Keyword} {pos : Pos} {pl : Sem Bool} {Q : AVal → Loc → List Ck → Prop}
    (h : Ev D n f ns o m P fun a m1 P1 => Gm D n f ns a name m1 P1 fun fx m2 P2 => Ar D n f ns es pos m2 P2 fun as m3 P3 => Ks D n f ns kws pos m3 P3 fun ks m4 P4 => KeepOk D.K P4 fx.1 ∧ Cal D n f ns fx.1 (fx.2 ++ as) ks (kws.filterMap (·.arg)) m4 P4 Q)
    (hp : plainArgs es = true := by rfl) (hk : namedKw kws = true := by rfl)
    (he : eval (.Call (.Attribute o name apos) es kws pos) f.env = (do
      let ov ← eval o f.env
      standAt apos.atName
      let (f', first) ← holding [ov] (getMethod ov name pl)
      callWith pos f' first (backTo pos (starEach es f.env)) (backToKw pos (keywordEach kws f.env))) := by rfl) :
    Ev D n f ns (.Call (.Attribute o name apos) es kws pos) m P Q := fun A g s vs r p S _ => by
  rw [he]
  refine wpAny_bind (h.run r p S .nil fun a m1 P1 v s1 T1 hv S1 q => wpAny_bind (wpAny_standAt (wpAny_bind (wpAny_holding ?_))))
  refine (q pl).run r p S1 (Vs1 hv) fun fx m2 P2 y s2 T2 hy S2 q2 => ?_
  obtain ⟨fv, first⟩ := y
  obtain ⟨rfl, hfirst⟩ := hy
  refine callWith_gen (starEach_plain hp) (keywordEach_named hk).1 ?_
  refine args_gen r p S2 hp hk q2 fun as ks m3 P3 vs ws s3 T3 hvs hws S3 q3 => ⟨q3.1.looks (p.K.keeps S3.keep) S3.holds, ?_⟩
  have hlen : (first ++ vs).length = (fx.2 ++ as).length := by rw [List.length_append, List.length_append, hfirst.length, hvs.length]
  have := q3.2.run (Q' := Post D g f ns V s Q) r p S3 (((hfirst.mono T3).append hvs).append hws) fun c m4 P4 x s4 T4 hx S4 q4 => ⟨c, m4, P4, ((T1.trans T2).trans T3).trans T4, hx, S4, q4⟩
  rw [← hlen, List.take_left, List.drop_left] at this
  exact this
end
end Mine

-- WG
namespace Mine
open PySem PySem.W PySem.Calls PyProof.Rows

section
variable {D : WD} {n : Nat} {f : Fm} {ns : Nms} {m : Loc} {P : List Ck} {g : Heap} {s : Shared}

theorem St.newc {c' : Ck} {h' : Heap} {tk : Nat} (S : St D g f ns m P s) (hk : ∀ b o, s.heap.get? b = some o → h'.get? b = some o)
    (hh : c'.holds h') (hf : ∀ x ∈ c'.foot, s.heap.get? x = none) (hn : c'.foot.Nodup) : St D g f ns m (c' :: P) { s with heap := h', toks := tk } :=
  (S.new hk hh hf hn).perm (List.perm_append_singleton c' P)

/-- objects that are no piece, no part of the frame, change -/
theorem St.others {l : List Addr} {h' : Heap} {tk : Nat} (S : St D g f ns m P s) (hk : ∀ b o, b ∉ l → s.heap.get? b = some o → h'.get? b = some o)
    (hl : ∀ b ∈ l, b ∉ f.env.locals :: (f.own ++ feet P) ∧ g.get? b = none ∧ ∀ o, s.heap.get? b = some o → NT o) : St D g f ns m P { s with heap := h', toks := tk } ∧ TK s.heap h' := by
  have T : TK s.heap h' := fun a vs ⟨o, e, c, n', r⟩ => ⟨o, hk a o (fun q => (hl a q).2.2 o e ⟨c, _, _, r⟩) e, c, n', r⟩
  have mine : ∀ b o, b ∈ f.env.locals :: (f.own ++ feet P) → s.heap.get? b = some o → h'.get? b = some o := fun b o hb e => hk b o (fun q => (hl b q).1 hb) e
  have gn : ∀ b o, g.get? b = some o → b ∉ l := fun b o e q => by rw [(hl b q).2.1] at e; cases e
  refine ⟨⟨S.ok, fun b o e => hk b o (gn b o e) (S.keep b o e), ?_, fun y kd b na hkd => ?_, S.cap, fun c hc => ?_, S.fresh, S.apart, fun c hc => ?_, S.gens, S.hos, S.hdr⟩, T⟩
  · obtain ⟨M, ⟨o, es, ep, ho, r⟩, hq⟩ := S.lcl
    exact ⟨M, ⟨o, es, ep, mine _ o (.head _) ho, r⟩, fun y b na => let ⟨w, e, z⟩ := hq y b na; ⟨w, e, z.mono T⟩⟩
  · obtain ⟨c, w, h1, ⟨o, h2, h3⟩, h4⟩ := S.cell y kd b na hkd
    refine ⟨c, w, h1, ⟨o, ?_, h3⟩, h4.mono T⟩
    rcases S.cap y c h1 with h5 | ⟨o', h5⟩
    · exact mine c o (.tail _ (List.mem_append_left _ h5)) h2
    · exact hk c o (gn c o' h5) h2
  · obtain ⟨w, o, h1, h2⟩ := S.owns c hc
    exact ⟨w, o, mine c o (.tail _ (List.mem_append_left _ hc)) h1, h2⟩
  · exact c.stable s.heap h' (fun y hy o e => mine y o (.tail _ (List.mem_append_right _ (mem_feet hc hy))) e) T (S.holds c hc)

/-- a list -/
def lst (a : Addr) (xs : List AVal) : Ck where
  foot := [a]
  holds h := ∃ vs, h.PlainList a (List.toArray vs) ∧ Vs h xs vs
  stable h h' k T := fun ⟨vs, ⟨n, e⟩, v⟩ => ⟨vs, ⟨n, k a (.head _) _ e⟩, v.mono T⟩
  live h := fun ⟨vs, ⟨n, e⟩, v⟩ x hx => by
    simp at hx; subst hx
    exact ⟨_, e, .cls (by show Value.type "list" ≠ _; decide)⟩

/-! loops over something that lies still -/
def Keep (fi : List Addr) (s s' : Shared) : Prop := ∃ h' tk, s' = { s with heap := h', toks := tk } ∧ ∀ b o, b ∉ fi → s.heap.get? b = some o → h'.get? b = some o

structure IterOk (D : WD) (n : Nat) (tgt : Expr) (it : Value) (fi : List Addr) (K : Nat → Heap → Prop) (xs : List AVal) (need : List Ck) : Prop where
  stable : ∀ j h h', K j h → (∀ b ∈ fi, ∀ o, h.get? b = some o → h'.get? b = some o) → TK h h' → K j h'
  live : ∀ j h, K j h → ∀ b ∈ fi, ∃ o, h.get? b = some o ∧ NT o
  again : ∀ A s, Room D n A → K 0 s.heap → wpAny (model D.prog D.w) A (pyIter it) (fun v s1 => v = it ∧ s1 = s) NoE s
  next : ∀ A s j, Room D n A → K j s.heap → (∀ c ∈ need, c.holds s.heap) → wpAny (model D.prog D.w) A (pyNext it) (fun r s1 => match xs[j]? with
    | some x => ∃ v, r = some v ∧ wpAny (model D.prog D.w) A (letOwnedTupleGo tgt it v) (fun _ s2 => Keep fi s s2 ∧ V s2.heap x v ∧ K (j + 1) s2.heap) NoE s1
    | none => r = none ∧ Keep fi s s1) NoE s

def IterW (D : WD) (n : Nat) (f : Fm) (ns : Nms) (tgt : Expr) (a : AVal) (xs : List AVal) (need : List Ck) (m : Loc) (P P' : List Ck) : Prop :=
  ∀ A g s v, Room D n A → PF D g → St D g f ns m P s → V s.heap a v → wpAny (model D.prog D.w) A (pyIter v) (fun it s1 => ∃ fi K, TK s.heap s1.heap ∧ St D g f ns m P' s1 ∧
    (∀ b ∈ fi, b ∉ f.env.locals :: (f.own ++ feet P') ∧ g.get? b = none) ∧ K 0 s1.heap ∧ IterOk D n tgt it fi K xs need) NoE s
theorem IterW.ofNew {tgt : Expr} {it : Value} {fi : List Addr} {K : Nat → Heap → Prop} {xs : List AVal} {need : List Ck} {h' : Heap} {tk : Nat} (S : St D g f ns m P s) (hk : ∀ b o, s.heap.get? b = some o → h'.get? b = some o) (hfi : ∀ b ∈ fi, s.heap.get? b = none)
    (hK : K 0 h') (I : IterOk D n tgt it fi K xs need) : ∃ fi K, TK s.heap h' ∧ St D g f ns m P { s with heap := h', toks := tk } ∧
    (∀ b ∈ fi, b ∉ f.env.locals :: (f.own ++ feet P) ∧ g.get? b = none) ∧ K 0 h' ∧ IterOk D n tgt it fi K xs need := by
  refine ⟨fi, K, .keeps hk, S.junk hk, fun b hb => ⟨fun q => ?_, ?_⟩, hK, I⟩
  · obtain ⟨o, e, _⟩ := S.liveF q
    rw [hfi b hb] at e; cases e
  · cases q : g.get? b with
    | none => rfl
    | some o => have := S.keep b o q; rw [hfi b hb] at this; cases this

theorem codeAny_forLoopG {prog : Program} {w : World} {A : Around} {R : Result → Shared → Prop} {target it body orelse env} (I : Nat → Shared → Prop) {s : Shared}
    (turn : ∀ n s, I n s → wpAny (model prog w) A (pyNext it) (fun r s₁ => match r with
      | none => wpAny (model prog w) A (execs orelse env) (fun f s₃ => R (.ok f) s₃) NoE s₁
      | some v => wpAny (model prog w) A (letOwnedTupleGo target it v) (fun _ s₁' => wpAny (model prog w) A (assign target env v) (fun _ s₂ => wpAny (model prog w) A (execs body env) (fun f s₃ => match f with
          | .next | .cont => ∃ m, m < n ∧ I m s₃
          | .brk => R (.ok .next) s₃
          | .ret v => R (.ok (.ret v)) s₃) NoE s₂) NoE s₁') NoE s₁) NoE s)
    (n : Nat) (h : I n s) : codeAny (model prog w) A (.forLoop target it body orelse env) R s := by
  refine codeAny_loop' rfl I (fun n s hI => ?_) n h
  show wpAny _ _ ((forTurn target it body orelse env).onRaise (fun x => do noteFrame x env; theTreesLotGoes x)) _ _ s
  refine wpAny_noted ?_
  simp only [forTurn]
  refine wpAny_bind (wpAny_standAt (wpAny_bind (wpAny_onRaise (wpAny_mono (turn n s hI) (fun r s₁ h₁ => ?_) fun _ _ e => e.elim))))
  cases r with
  | none => exact wpAny_pure (.inr ⟨rfl, codeAny_block (wpAny_mono h₁ (fun _ _ x => x) fun _ _ e => e.elim)⟩)
  | some v =>
    refine wpAny_bind (wpAny_mono h₁ (fun _ s₁' h₁ => ?_) fun _ _ e => e.elim)
    refine wpAny_bind (wpAny_mono h₁ (fun _ s₂ h₂ => wpAny_bind (wpAny_mono h₂ (fun f s₃ h₃ => ?_) fun _ _ h' => h'.elim)) fun _ _ h' => h'.elim)
    cases f with
    | next => exact wpAny_pure (.inl ⟨rfl, h₃⟩)
    | cont => exact wpAny_pure (.inl ⟨rfl, h₃⟩)
    | brk => exact wpAny_pure h₃
    | ret v => exact wpAny_pure h₃

def loopQ (K : Loc → List Ck → Prop) (Q : AFlow → Loc → List Ck → Prop) : AFlow → Loc → List Ck → Prop
  | .next, m, P => K m P
  | .cont, m, P => K m P
  | .brk, m, P => Q .next m P
  | .ret a, m, P => Q (.ret a) m P

/-- the state between the turns -/
structure LoopI (D : WD) (f : Fm) (ns : Nms) (g : Heap) (s0 : Shared) (fi : List Addr) (K : Nat → Heap → Prop) (J : Nat → Loc → List Ck → Prop) (j : Nat) (s : Shared) : Prop where
  tk : TK s0.heap s.heap
  k : K j s.heap
  st : ∃ m P, J j m P ∧ St D g f ns m P s ∧ ∀ b ∈ fi, b ∉ f.env.locals :: (f.own ++ feet P)
  gn : ∀ b ∈ fi, g.get? b = none

theorem Ex.for_ {target iter : Expr} {body orelse : List Stmt} {pos : Pos} {Q : AFlow → Loc → List Ck → Prop}
    (h : Ev D n f ns iter m P fun a m1 P1 => ∃ (xs : List AVal) (need : List Ck) (P2 : List Ck) (J : Nat → Loc → List Ck → Prop), IterW D n f ns target a xs need m1 P1 P2 ∧ J 0 m1 P2 ∧ (∀ j m P, J j m P → ∀ c ∈ need, c ∈ P) ∧
      (∀ j x m P, xs[j]? = some x → J j m P → As D n f ns target x m P fun m2 P2 => Exs D n f ns body m2 P2 (loopQ (J (j + 1)) Q)) ∧
      (∀ m P, J xs.length m P → Exs D n f ns orelse m P Q))
    (hs : ∀ x, foldedSetIterable iter f.env x = pure x := by intro _; rfl) : Ex D n f ns (.For target iter body orelse pos) m P Q := fun A g s vs r p S _ => by
  refine wpAny_For (h.run r p S .nil fun a m1 P1 v s1 T1 hv S1 q => ?_) hs
  obtain ⟨xs, need, P2, J, hI, hJ0, hneed, hturn, hend⟩ := q
  refine wpAny_mono (hI A g s1 v r p S1 hv) (fun it s2 => ?_) fun _ _ e => e
  rintro ⟨fi, K, T2, S2, hfi, hK, IO⟩
  refine codeAny_forLoopG (fun k s' => ∃ j, j + k = xs.length ∧ LoopI D f ns g s fi K J j s') (fun k s' => ?_) xs.length ⟨0, by omega, T1.trans T2, hK, ⟨m1, P2, hJ0, S2, fun b hb => (hfi b hb).1⟩, fun b hb => (hfi b hb).2⟩
  rintro ⟨j, hj, L⟩
  obtain ⟨mj, Pj, hJ, Sj, nfj⟩ := L.st
  have lives := IO.live j s'.heap L.k
  refine wpAny_mono (IO.next A s' j r L.k fun c hc => Sj.holds c (hneed j mj Pj hJ c hc)) (fun rr s3 hr => ?_) fun _ _ e => e
  have oth : ∀ b ∈ fi, b ∉ f.env.locals :: (f.own ++ feet Pj) ∧ g.get? b = none ∧ ∀ o, s'.heap.get? b = some o → NT o := fun b hb => ⟨nfj b hb, (hfi b hb).2, fun o e => by
    obtain ⟨o', e', nt⟩ := lives b hb; rw [e'] at e; cases e; exact nt⟩
  cases hx : xs[j]? with
  | none =>
    rw [hx] at hr
    obtain ⟨rfl, h3, tk3, rfl, hk3⟩ := hr
    obtain ⟨S3, T3⟩ := Sj.others (tk := tk3) hk3 oth
    have hjl : j = xs.length := by
      have := List.getElem?_eq_none_iff.mp hx
      omega
    subst hjl
    exact (hend mj Pj hJ).run r p S3 .nil fun c m4 P4 x s4 T4 hx4 S4 q4 => ⟨c, m4, P4, (L.tk.trans T3).trans T4, hx4, S4, q4⟩
  | some x =>
    rw [hx] at hr
    obtain ⟨v', rfl, hr⟩ := hr
    refine wpAny_mono hr (fun _ s4 => ?_) fun _ _ e => e
    rintro ⟨⟨h4, tk4, rfl, hk4⟩, hv4, hK4⟩
    obtain ⟨S4, T4⟩ := Sj.others (tk := tk4) hk4 oth
    have nf4 := nfj
    have SR : St D g f ns mj (Pj ++ []) { s' with heap := h4, toks := tk4 } := by simpa using S4
    have hbase : ∀ b ∈ fi, ∃ o, (hideAll h4 (f.env.locals :: (f.own ++ feet Pj))).get? b = some o := fun b hb => by
      obtain ⟨o, e, _⟩ := IO.live (j + 1) h4 hK4 b hb
      exact ⟨o, hideAll_get _ e (nfj b hb)⟩
    refine (hturn j x mj Pj hx hJ).run r (p.rebase S4) SR.rebase (Vs1 hv4) fun _ m5 P5 _ s5 T5 _ S5 q5 => ?_
    refine q5.run r (p.rebase S4) S5 .nil fun fl m6 P6 y s6 T6 hy S6 q6 => ?_
    obtain ⟨S6', T6'⟩ := SR.unbase S6
    rw [List.append_nil] at S6'
    have hK6 : K (j + 1) s6.heap := IO.stable (j + 1) h4 s6.heap hK4 (fun b hb o e => S6.keep b o (hideAll_get _ e (nfj b hb))) (T5.trans T6)
    have nf6 : ∀ b ∈ fi, b ∉ f.env.locals :: (f.own ++ feet P6) := fun b hb q => by
      obtain ⟨o, e⟩ := hbase b hb
      have e2 := S6.fresh b q
      have e3 : (hideAll h4 (f.env.locals :: (f.own ++ feet Pj))).get? b = none := e2
      rw [e3] at e; cases e
    have TT : TK s.heap s6.heap := (L.tk.trans T4).trans T6'
    have hlt : j < xs.length := (List.getElem?_eq_some_iff.mp hx).1
    cases fl with
    | next => cases hy; exact ⟨k - 1, by omega, j + 1, by omega, TT, hK6, ⟨m6, P6, q6, S6', nf6⟩, fun b hb => (hfi b hb).2⟩
    | cont => cases hy; exact ⟨k - 1, by omega, j + 1, by omega, TT, hK6, ⟨m6, P6, q6, S6', nf6⟩, fun b hb => (hfi b hb).2⟩
    | brk => cases hy; exact ⟨.next, m6, P6, TT, rfl, S6', q6⟩
    | ret a => obtain ⟨w, rfl, hw⟩ := hy; exact ⟨.ret a, m6, P6, TT, ⟨w, rfl, hw⟩, S6', q6⟩
end
end Mine

-- WH
namespace Mine
open PySem PySem.W PySem.Calls PyProof.Rows

theorem letOwned_plain {M : Model} {A : Around} {E : Value → Shared → Prop} {s : Shared} {tgt : Expr} {it : Addr} {v : Value} {o : Obj} {nm : String} {Q : Unit → Shared → Prop} (ho : s.heap.get? it = some o) (hc : o.cls = .type nm)
    (hn : (["enumerate", "zip", "dict_itemiterator", "dict_reverseitemiterator", "odict_iterator", "itertools.zip_longest", "itertools.pairwise"] : List String).contains nm = false) (h : Q () s) :
    wpAny M A (letOwnedTupleGo tgt (.ref it) v) Q E s := by
  unfold letOwnedTupleGo
  split
  · cases v <;> first
      | exact wpAny_pure h
      | (refine wpAny_bind (wpAny_load ho ?_)
         rw [hc]
         (try dsimp only)
         split
         · rename_i n vs h1 h2
           cases h1
           try dsimp only
           rw [hn, Bool.false_and, if_neg Bool.false_ne_true]
           exact wpAny_pure h
         · exact wpAny_pure h)
  · cases v <;> first
      | exact wpAny_pure h
      | (refine wpAny_bind (wpAny_load ho ?_)
         rw [hc]
         (try dsimp only)
         split
         · rename_i n vs h1 h2
           cases h1
           try dsimp only
           rw [hn, Bool.false_and, if_neg Bool.false_ne_true]
           exact wpAny_pure h
         · exact wpAny_pure h)
  · exact wpAny_pure h

theorem Keep.of {fi : List Addr} {s : Shared} {h' : Heap} {tk : Nat} (k : ∀ b o, b ∉ fi → s.heap.get? b = some o → h'.get? b = some o) : Keep fi s { s with heap := h', toks := tk } := ⟨h', tk, rfl, k⟩
theorem Keep.same {it : Addr} {s : Shared} {h' : Heap} {tk : Nat} (k : Heap.SameBut it s.heap h') : Keep [it] s { s with heap := h', toks := tk } :=
  .of fun b o hb e => (k.2 b (fun q => hb (q ▸ .head _))).trans e
theorem Keep.ext {it : Addr} {s : Shared} {h' : Heap} {tk : Nat} (k : Heap.ExtBut it s.heap h') : Keep [it] s { s with heap := h', toks := tk } :=
  .of fun b o hb e => k b o (fun q => hb (q ▸ .head _)) e
theorem V.sameBut {h h' : Heap} {it : Addr} {a : AVal} {v : Value} (e : Heap.SameBut it h h') (nt : ∀ o, h.get? it = some o → NT o) (x : V h a v) : V h' a v := x.mono (TK.sameBut e nt)

section
variable {D : WD} {n : Nat} {f : Fm} {ns : Nms} {m : Loc} {P : List Ck}

theorem iter_list {tgt : Expr} {l : Addr} {xs : List AVal} (hh : D.hd = none) (hm : lst l xs ∈ P) : IterW D n f ns tgt (.ref l) xs [lst l xs] m P P := fun A g s v r p S hv => by
  simp only [V] at hv; subst hv
  obtain ⟨vs, hl, hvs⟩ := S.holds _ hm
  replace hl := hl.isList
  refine wpAny_pyIter_list hl (IterW.ofNew (fi := [s.heap.objs.size]) (K := fun j h => h.IsListIter s.heap.objs.size l j) (tk := s.toks) S (fun b o e => Heap.get?_push_of_some _ e) (fun b hb => ?_) ⟨_, Heap.get?_push_size _ rfl, rfl, rfl⟩ ⟨fun j h h' ⟨o, e, q⟩ k _ => ⟨o, k _ (.head _) o e, q⟩, fun j h ⟨o, e, c, q⟩ b hb => ?_, fun A s' r K => wpAny_pyIter_listiter K ⟨rfl, rfl⟩, fun A s' j r K hsrc => ?_⟩)
  · simp at hb; subst hb
    cases q : s.heap.get? s.heap.objs.size with
    | none => rfl
    | some o => exact absurd (Heap.lt_size q) (Nat.lt_irrefl _)
  · simp at hb; subst hb
    exact ⟨o, e, .cls (by rw [c]; decide)⟩
  · obtain ⟨vs', hl', hvs'⟩ := hsrc _ (.head _)
    replace hl' := hl'.isList
    obtain ⟨o, e, c, q⟩ := id K
    have nt : ∀ o', s'.heap.get? s.heap.objs.size = some o' → NT o' := fun o' e' => by rw [e] at e'; cases e'; exact .cls (by rw [c]; decide)
    cases hx : xs[j]? with
    | none =>
      have : (List.toArray vs')[j]? = none := by
        have := hvs'.length
        simp at hx ⊢; omega
      exact wpAny_pyNext_list_end (r.handled.trans hh) K hl' this fun h' hx' => ⟨rfl, Keep.ext (tk := s'.toks) hx'⟩
    | some x =>
      obtain ⟨w, hw, hV⟩ := hvs'.get hx
      refine wpAny_pyNext_list_item K hl' (x := w) (by simpa using hw) fun h' K' hs => ⟨w, rfl, ?_⟩
      obtain ⟨o', e', c', q'⟩ := id K'
      exact letOwned_plain e' c' (by decide) ⟨Keep.same (tk := s'.toks) hs, hV.sameBut hs nt, K'⟩

theorem iter_tup {tgt : Expr} {xs : List AVal} (hh : D.hd = none) : IterW D n f ns tgt (.tup xs) xs [] m P P := fun A g s v r p S hv => by
  simp only [V] at hv
  obtain ⟨t, vs, rfl, ht, hvs⟩ := hv
  have hlt : t < s.heap.objs.size := let ⟨o, e, _⟩ := ht; Heap.lt_size e
  have hne : t ≠ s.heap.objs.size := Nat.ne_of_lt hlt
  have fresh : ∀ b ∈ [s.heap.objs.size], s.heap.get? b = none := fun b hb => by
    simp at hb; subst hb
    cases q : s.heap.get? s.heap.objs.size with
    | none => rfl
    | some o => exact absurd (Heap.lt_size q) (Nat.lt_irrefl _)
  refine wpAny_pyIter_tuple ht (IterW.ofNew (fi := [s.heap.objs.size]) (K := fun j h => h.IsTupleIter s.heap.objs.size t j ∧ h.IsTuple t (List.toArray vs) ∧ Vs h xs vs) (tk := s.toks) S (fun b o e => Heap.get?_push_of_some _ e) fresh
    ⟨⟨_, Heap.get?_push_size _ rfl, rfl, rfl⟩, ht.push _, hvs.mono (TK.push _ _)⟩ ⟨fun j h h' ⟨⟨o, e, q⟩, q2, q3⟩ k T => ⟨⟨o, k _ (.head _) o e, q⟩, T _ _ q2, q3.mono T⟩, fun j h ⟨⟨o, e, c, q⟩, _⟩ b hb => ?_, fun A s' r K => wpAny_pyIter_tupleiter K.1 ⟨rfl, rfl⟩, fun A s' j r K hsrc => ?_⟩)
  · simp at hb; subst hb
    exact ⟨o, e, .cls (by rw [c]; decide)⟩
  · obtain ⟨K, ht', hvs'⟩ := K
    obtain ⟨o, e, c, q⟩ := id K
    have nt : ∀ o', s'.heap.get? s.heap.objs.size = some o' → NT o' := fun o' e' => by rw [e] at e'; cases e'; exact .cls (by rw [c]; decide)
    cases hx : xs[j]? with
    | none =>
      have : (List.toArray vs)[j]? = none := by
        have := hvs'.length
        simp at hx ⊢; omega
      exact wpAny_pyNext_tuple_end (r.handled.trans hh) K ht' this fun h' hx' => ⟨rfl, Keep.ext (tk := s'.toks) hx'⟩
    | some x =>
      obtain ⟨w, hw, hV⟩ := hvs'.get hx
      refine wpAny_pyNext_tuple_item K ht' (x := w) (by simpa using hw) fun h' K' hs => ⟨w, rfl, ?_⟩
      obtain ⟨o', e', c', q'⟩ := id K'
      have T := TK.sameBut hs nt
      exact letOwned_plain e' c' (by decide) ⟨Keep.same (tk := s'.toks) hs, hV.mono T, K', T _ _ ht', hvs'.mono T⟩

theorem fresh_size {h : Heap} : ∀ b ∈ [h.objs.size], h.get? b = none := fun b hb => by
  simp at hb; subst hb
  cases q : h.get? h.objs.size with
  | none => rfl
  | some o => exact absurd (Heap.lt_size q) (Nat.lt_irrefl _)

theorem iter_str {tgt : Expr} {l : List Nat} (hh : D.hd = none) : IterW D n f ns tgt (.str l) (l.map fun c => .str [c]) [] m P P := fun A g s v r p S hv => by
  simp only [V] at hv
  obtain ⟨t, rfl⟩ := hv
  have hty : strIterType (mkS l) = "str_ascii_iterator" ∨ strIterType (mkS l) = "str_iterator" := by
    unfold strIterType; split <;> simp
  refine wpAny_pyIter_strU (IterW.ofNew (fi := [s.heap.objs.size]) (K := fun j h => h.IsStrIter s.heap.objs.size (strIterType (mkS l)) (mkS l) t j) (tk := s.toks) S (fun b o e => Heap.get?_push_of_some _ e) fresh_size
    ⟨_, Heap.get?_push_size _ rfl, rfl, rfl⟩ ⟨fun j h h' ⟨o, e, q⟩ k _ => ⟨o, k _ (.head _) o e, q⟩, fun j h ⟨o, e, c, q⟩ b hb => ?_, fun A s' r K => ?_, fun A s' j r K hsrc => ?_⟩)
  · simp at hb; subst hb
    exact ⟨o, e, .cls (by rw [c]; rcases hty with h | h <;> rw [h] <;> decide)⟩
  · rcases hty with ty | ty <;> rw [ty] at K
    · exact wpAny_pyIter_striter_ascii K ⟨rfl, rfl⟩
    · exact wpAny_pyIter_striter_wide K ⟨rfl, rfl⟩
  · have cps : ∀ i : Nat, (mkS l).cps[i]? = l[i]? := fun i => by simp [mkS]
    have nt : ∀ o', s'.heap.get? s.heap.objs.size = some o' → NT o' := fun o' e' => by
      obtain ⟨o, e, c, q⟩ := id K
      rw [e] at e'; cases e'; exact .cls (by rw [c]; rcases hty with h | h <;> rw [h] <;> decide)
    rcases hty with ty | ty <;> rw [ty] at K <;> cases hx : l[j]? with
    | none =>
      simp only [List.getElem?_map, hx, Option.map_none]
      first
        | exact wpAny_pyNext_ascii_end (r.handled.trans hh) K ((cps j).trans hx) fun h' hx' => ⟨rfl, Keep.ext (tk := s'.toks) hx'⟩
        | exact wpAny_pyNext_wide_end (r.handled.trans hh) K ((cps j).trans hx) fun h' hx' => ⟨rfl, Keep.ext (tk := s'.toks) hx'⟩
    | some c =>
      simp only [List.getElem?_map, hx, Option.map_some]
      first
        | (refine wpAny_pyNext_ascii_item K ((cps j).trans hx) fun h' K' hs => ⟨_, rfl, ?_⟩
           obtain ⟨o', e', c', q'⟩ := id K'
           exact letOwned_plain e' c' (by decide) ⟨Keep.same (tk := s'.toks + 1) hs, ⟨_, rfl⟩, by rw [ty]; exact K'⟩)
        | (refine wpAny_pyNext_wide_item K ((cps j).trans hx) fun h' K' hs => ⟨_, rfl, ?_⟩
           obtain ⟨o', e', c', q'⟩ := id K'
           exact letOwned_plain e' c' (by decide) ⟨Keep.same (tk := s'.toks + 1) hs, ⟨_, rfl⟩, by rw [ty]; exact K'⟩)

/-- range(k) -/
def rng (a : Addr) (k : Nat) : Ck where
  foot := [a]
  holds h := ∃ t u v, IsRange h a 0 k 1 t u v
  stable h h' k T := fun ⟨t, u, v, e⟩ => ⟨t, u, v, k a (.head _) _ e⟩
  live h := fun ⟨t, u, v, e⟩ x hx => by
    simp at hx; subst hx
    exact ⟨_, e, .ty rfl⟩

theorem iter_range {tgt : Expr} {a : Addr} {k : Nat} (hh : D.hd = none) (hm : rng a k ∈ P) (hk : k < 1000000) : IterW D n f ns tgt (.ref a) ((List.range k).map fun j => AVal.int (j : Nat)) [] m P P := fun A g s v r p S hv => by
  simp only [V] at hv; subst hv
  obtain ⟨t, u, w, hr⟩ := S.holds _ hm
  have sz : Builtin.Range.rangeSize 0 k 1 = (k : Int) := by rw [rangeSize_one]; split <;> omega
  refine wpAny_pyIter_range hr (small_one (by omega) (by omega) (by omega) (by omega)) (IterW.ofNew (fi := [s.heap.objs.size]) (K := fun j h => IsRangeIter h s.heap.objs.size j ((k : Int) - j) 1) (tk := s.toks) S (fun b o e => Heap.get?_push_of_some _ e) fresh_size
    ?_ ⟨fun j h h' e k _ => k _ (.head _) _ e, fun j h e b hb => ?_, fun A s' r K => wpAny_pyIter_rangeiter K ⟨rfl, rfl⟩, fun A s' j r K hsrc => ?_⟩)
  · have := Heap.get?_push_size s.heap (o := { cls := .type "range_iterator", data := .fields #[rawInt 0, rawInt (Builtin.Range.rangeSize 0 k 1), rawInt 1] }) rfl
    rw [sz] at this
    rw [sz]
    simpa using this
  · simp at hb; subst hb
    exact ⟨_, e, .ty rfl⟩
  · have nt : ∀ o', s'.heap.get? s.heap.objs.size = some o' → NT o' := fun o' e' => by
      have K := K
      rw [K] at e'; cases e'; exact .ty rfl
    by_cases hj : j < k
    · have : ((List.range k).map fun j => AVal.int (j : Nat))[j]? = some (.int j) := by simp [hj]
      rw [this]
      refine wpAny_pyNext_range_item K (by omega) fun h' K' hs => ⟨_, rfl, ?_⟩
      have K2 : IsRangeIter h' s.heap.objs.size ((j + 1 : Nat) : Int) ((k : Int) - ((j + 1 : Nat) : Int)) 1 := by
        have e1 : ((j + 1 : Nat) : Int) = (j : Int) + 1 := by omega
        have e2 : ((k : Int) - ((j + 1 : Nat) : Int)) = (k : Int) - j - 1 := by omega
        rw [e2, e1]; exact K'
      exact letOwned_plain K' rfl (by decide) ⟨Keep.same (tk := s'.toks + 1) hs, ⟨_, rfl⟩, K2⟩
    · have : ((List.range k).map fun j => AVal.int (j : Nat))[j]? = none := by simp; omega
      rw [this]
      exact wpAny_pyNext_range_end (r.handled.trans hh) K (by omega) fun h' hx' => ⟨rfl, Keep.ext (tk := s'.toks) hx'⟩

/-- enumerate of a list, at its start -/
def enm (e it l : Addr) : Ck where
  foot := [e, it]
  holds h := IsEnum h e it 0 .none ∧ h.IsListIter it l 0
  stable h h' k T := fun ⟨a, ⟨o, b, c⟩⟩ => ⟨k e (by simp) _ a, ⟨o, k it (by simp) o b, c⟩⟩
  live h := fun ⟨a, ⟨o, b, c, d⟩⟩ x hx => by
    simp at hx
    rcases hx with rfl | rfl
    · exact ⟨_, a, .ty rfl⟩
    · exact ⟨o, b, .cls (by rw [c]; decide)⟩

theorem iter_enum {elts : List Expr} {x1 : Nat} {pos : Pos} {e it l : Addr} {xs : List AVal} {P' : List Ck} (hh : D.hd = none) (hP : P.Perm (enm e it l :: P')) (hm : lst l xs ∈ P') :
    IterW D n f ns (.Tuple elts x1 pos) (.ref e) (xs.zipIdx.map fun p => .tup [.int p.2, p.1]) [lst l xs] m P P' := fun A g s v r p S hv => by
  simp only [V] at hv; subst hv
  have S := S.perm hP
  obtain ⟨hE, hI⟩ := S.holds _ (.head _)
  have ap := S.apart
  have hfeet : feet (enm e it l :: P') = e :: it :: feet P' := rfl
  rw [hfeet] at ap
  simp only [List.nodup_cons, List.nodup_append, List.mem_append, List.mem_cons] at ap
  obtain ⟨a1, a2, ⟨a3, a4, a5⟩, a6⟩ := ap
  simp only [not_or] at a1 a3 a4
  have hne : e ≠ it := a3.1
  refine wpAny_pyIter_enum hE ⟨[e, it], fun j h => ∃ old, IsEnum h e it (j : Nat) old ∧ h.IsListIter it l j, TK.refl _, S.sub (List.sublist_cons_self _ _), fun b hb => ?_, ⟨_, hE, hI⟩,
    ⟨fun j h h' ⟨old, q1, ⟨o, q2, q3⟩⟩ k _ => ⟨old, k e (by simp) _ q1, ⟨o, k it (by simp) o q2, q3⟩⟩, fun j h ⟨old, q1, ⟨o, q2, q3, q4⟩⟩ b hb => ?_, fun A s' r ⟨old, K1, K2⟩ => wpAny_pyIter_enum K1 ⟨rfl, rfl⟩, fun A s' j r K hsrc => ?_⟩⟩
  · simp at hb
    refine ⟨fun q => ?_, S.fresh b (.tail _ (List.mem_append_right _ (by rw [hfeet]; rcases hb with rfl | rfl <;> simp)))⟩
    simp only [List.mem_cons, List.mem_append] at q
    rcases hb with rfl | rfl
    · rcases q with q | q | q
      · exact a1.2.1 q.symm
      · exact a6 b q b (.inl rfl) rfl
      · exact a3.2 q
    · rcases q with q | q | q
      · exact a1.2.2.1 q.symm
      · exact a6 b q b (.inr (.inl rfl)) rfl
      · exact a4 q
  · simp at hb
    rcases hb with rfl | rfl
    · exact ⟨_, q1, .ty rfl⟩
    · exact ⟨o, q2, .cls (by rw [q3]; decide)⟩
  · obtain ⟨old, K1, K2⟩ := K
    obtain ⟨vs', hl', hvs'⟩ := hsrc _ (.head _)
    replace hl' := hl'.isList
    cases hx : xs[j]? with
    | none =>
      have h1 : (List.toArray vs')[j]? = none := by
        have := hvs'.length
        simp at hx ⊢; omega
      have h2 : (xs.zipIdx.map fun p => AVal.tup [.int (p.2 : Nat), p.1])[j]? = none := by simp at hx ⊢; omega
      rw [h2]
      exact wpAny_pyNext_enum_end (r.handled.trans hh) K1 K2 hl' h1 fun h' hx' => ⟨rfl, Keep.of (tk := s'.toks) fun b o hb e' => hx' b o (fun q => hb (q ▸ (.tail _ (.head _)))) e'⟩
    | some x =>
      obtain ⟨w, hw, hV⟩ := hvs'.get hx
      have h2 : (xs.zipIdx.map fun p => AVal.tup [.int (p.2 : Nat), p.1])[j]? = some (.tup [.int (j : Nat), x]) := by simp [hx]
      rw [h2]
      have nte : ∀ b ∈ [e, it], ∀ o', s'.heap.get? b = some o' → NT o' := fun b hb o' e' => by
        simp at hb
        rcases hb with rfl | rfl
        · rw [K1] at e'; cases e'; exact .ty rfl
        · obtain ⟨o, q2, q3, q4⟩ := id K2
          rw [q2] at e'; cases e'; exact .cls (by rw [q3]; decide)
      refine wpAny_pyNext_enum_item K1 K2 hl' (x := w) (by simpa using hw) hne fun h' O K2' ht hz hk => ⟨_, rfl, ?_⟩
      have heH : e < s'.heap.objs.size := Heap.lt_size K1
      refine wpAny_letOwnedTupleGo_enum O fun h2 O2 hs2 => ?_
      replace hs2 : Heap.SameBut e h' h2 := hs2
      have keep : ∀ b o, b ∉ [e, it] → s'.heap.get? b = some o → h2.get? b = some o := fun b o hb e' => by
        simp at hb
        exact (hs2.2 b hb.1).trans (hk b o hb.1 hb.2 e')
      have T : TK s'.heap h2 := fun a vs ⟨o, e', c, n', rr⟩ => ⟨o, keep a o (fun q => nte a q o e' ⟨c, _, _, rr⟩) e', c, n', rr⟩
      refine ⟨Keep.of (tk := s'.toks + 1) keep, ?_, ⟨w, ?_, ?_⟩⟩
      · show V h2 (.tup [.int (j : Nat), x]) (.ref s'.heap.objs.size)
        simp only [V]
        exact ⟨_, [.int j s'.toks, w], rfl, ⟨_, (hs2.2 _ (Nat.ne_of_gt heH)).trans ht, rfl, _, rfl⟩, .cons ⟨_, rfl⟩ (.cons (hV.mono T) .nil)⟩
      · have : ((j + 1 : Nat) : Int) = (j : Int) + 1 := by omega
        show IsEnum h2 e it ((j + 1 : Nat) : Int) w
        rw [this]; exact O2
      · obtain ⟨o, q2, q3, q4⟩ := K2'
        exact ⟨o, (hs2.2 it (Ne.symm hne)).trans q2, q3, q4⟩
end
end Mine

-- WI
namespace Mine
open PySem PySem.W PySem.Calls PyProof.Rows

/-! comprehensions -/
theorem wpAny_newFunctionEnv_comp {M : Model} {A : Around} {E : Value → Shared → Prop} {s : Shared} {scope : Scope} {globals : Addr} {cl : List (Str × Addr)} {qual : Str} {outer : Env} {Q : Env → Shared → Prop}
    (hQ : Q { scope, locals := s.heap.objs.size, globals, cells := cellsFrom (s.heap.objs.size + 1) scope.names cl, qual, func := none, code := outer.code, frame := outer.frame, builtins := outer.builtins }
      { s with heap := pushCells (s.heap.push { cls := .type "dict", data := .dict #[] }) scope.names }) :
    wpAny M A (newFunctionEnv scope globals cl [] qual none .none (some outer)) Q E s := by
  simp only [newFunctionEnv, Option.isSome_some, if_true]
  refine wpAny_bind (wpAny_alloc ?_)
  refine wpAny_bind (wpAny_layCells _ (fun name kind cells => by cases hkc : kind == NameKind.cell <;> simp [hkc]) _ _ _ _ ?_)
  rw [show ({ s with heap := s.heap.push { cls := .type "dict", data := .dict #[] } } : Shared).heap.objs.size = s.heap.objs.size + 1 from Heap.size_push ..]
  refine wpAny_bind ?_
  rw [List.forIn_nil]
  exact wpAny_pure (wpAny_pure hQ)

abbrev testsOf (ifs : List Expr) (env : Env) : Sem Bool := forIn ifs true fun c r => if r = true then do let ok ← isTrue c env (eval c env); pure (ForInStep.yield ok) else pure (ForInStep.yield r)

section
variable {D : WD} {n : Nat} {f : Fm} {ns : Nms} {m : Loc} {P : List Ck}

abbrev Cd (D : WD) (n : Nat) (f : Fm) (ns : Nms) (ifs : List Expr) (m : Loc) (P : List Ck) (Q : Bool → Loc → List Ck → Prop) : Prop := Wp D n f ns Eqv [] (fun _ => testsOf ifs f.env) m P Q
theorem tests_false {M : Model} {A : Around} {E : Value → Shared → Prop} {env : Env} : ∀ {ifs : List Expr} {s : Shared} {Q : Bool → Shared → Prop}, Q false s →
    wpAny M A (forIn ifs false fun c r => if r = true then do let ok ← isTrue c env (eval c env); pure (ForInStep.yield ok) else pure (ForInStep.yield r)) Q E s
  | [], s, Q, h => by rw [List.forIn_nil]; exact wpAny_pure h
  | c :: r, s, Q, h => by
    rw [List.forIn_cons]
    refine wpAny_bind ?_
    rw [if_neg Bool.false_ne_true]
    exact wpAny_pure (tests_false (ifs := r) h)
theorem Cd.nil {Q : Bool → Loc → List Ck → Prop} (h : Q true m P) : Cd D n f ns [] m P Q := fun A g s vs r p S _ => by
  show wpAny _ _ (forIn [] true _) _ _ _
  rw [List.forIn_nil]
  exact wpAny_pure ⟨true, m, P, TK.refl _, rfl, S, h⟩
theorem Cd.cons {c : Expr} {ifs : List Expr} {Q : Bool → Loc → List Ck → Prop} (h : Tr D n f ns c m P fun b m1 P1 => if b = true then Cd D n f ns ifs m1 P1 Q else Q false m1 P1) : Cd D n f ns (c :: ifs) m P Q := fun A g s vs r p S _ => by
  show wpAny _ _ (forIn (c :: ifs) true _) _ _ _
  rw [List.forIn_cons]
  refine wpAny_bind ?_
  rw [if_pos rfl]
  refine wpAny_bind (h.run r p S .nil fun b m1 P1 x s1 T1 hx S1 q => wpAny_pure ?_)
  cases hx
  cases b with
  | true =>
    rw [if_pos rfl] at q
    exact q.run r p S1 .nil fun c m3 P3 x s3 T3 hx S3 q => ⟨c, m3, P3, T1.trans T3, hx, S3, q⟩
  | false =>
    rw [if_neg Bool.false_ne_true] at q
    exact tests_false ⟨false, m1, P1, T1, rfl, S1, q⟩

/-- the state in a comprehension's frame, from its names -/
inductive Capt (ns : Nms) (m : Loc) : Nms → Nms → Loc → Prop
  | nil : Capt ns m [] [] []
  | cell {x a r r' t} : NmAt ns m x .cell a → Capt ns m r r' t → Capt ns m ((x, .free) :: r) ((x, .cell) :: r') (some a :: t)
  | free {x a r r' t} : NmAt ns m x .free a → Capt ns m r r' t → Capt ns m ((x, .free) :: r) ((x, .free) :: r') (some a :: t)
  | other {x k r r' t} : k ≠ .free → Capt ns m r r' t → Capt ns m ((x, k) :: r) ((x, k) :: r') (Option.none :: t)

theorem Capt.fst {ns : Nms} {m : Loc} {r r' : Nms} {t : Loc} (h : Capt ns m r r' t) : r'.map (·.1) = r.map (·.1) := by
  induction h with
  | nil => rfl
  | cell _ _ ih => simp [ih]
  | free _ _ ih => simp [ih]
  | other _ _ ih => simp [ih]
theorem Capt.at {ns : Nms} {m : Loc} {r r' : Nms} {t : Loc} (h : Capt ns m r r' t) : ∀ {x k a}, NmAt r' t x k a → (x, NameKind.free) ∈ r ∧ (k = .cell ∨ k = .free) ∧ (NmAt ns m x .cell a ∨ NmAt ns m x .free a) := by
  induction h with
  | nil => intro x k a q; cases q
  | cell e _ ih =>
    intro x k a q
    cases q with
    | head => exact ⟨.head _, .inl rfl, .inl e⟩
    | tail q => exact ⟨.tail _ (ih q).1, (ih q).2⟩
  | free e _ ih =>
    intro x k a q
    cases q with
    | head => exact ⟨.head _, .inr rfl, .inr e⟩
    | tail q => exact ⟨.tail _ (ih q).1, (ih q).2⟩
  | other _ _ ih =>
    intro x k a q
    cases q with
    | tail q => exact ⟨.tail _ (ih q).1, (ih q).2⟩
theorem Capt.relabel {ns : Nms} {m : Loc} {r r' : Nms} {t : Loc} (h : Capt ns m r r' t) (hn : (ns.map (·.1)).Nodup) (env : Env) (hk : env.scope.kind = .function) (he : env.scope.names = ns) :
    (r.map fun (n, k) => if (k == NameKind.free && env.scope.kind == .function && env.kindOf n == some .cell) then (n, NameKind.cell) else (n, k)) = r' := by
  have kd : ∀ x k, (x, k) ∈ ns → env.kindOf x = some k := fun x k e => by
    show env.scope.names.lookup x = some k
    rw [he]; exact lookup_of_mem hn e
  induction h with
  | nil => rfl
  | cell e _ ih =>
    rw [List.map_cons, ih]
    simp [hk, kd _ _ e.mem]
  | free e _ ih =>
    rw [List.map_cons, ih]
    simp [kd _ _ e.mem]
  | @other x k _ _ _ e _ ih =>
    rw [List.map_cons, ih]
    have : (k == NameKind.free) = false := by simpa using e
    simp [this]

/-- the cells that a comprehension takes along -/
def closOf (cells : List (Str × Addr)) : Nms → List (Str × Addr) → List (Str × Addr)
  | [], acc => acc
  | (x, k) :: r, acc => if k == .free then closOf cells r ((x, (cells.lookup x).getD 0) :: acc) else closOf cells r acc
theorem closureFor_go {env : Env} (fn : Str × NameKind → List (Str × Addr) → Sem (ForInStep (List (Str × Addr))))
    (hf : ∀ x k acc, fn (x, k) acc = if k == .free then (do let c ← cellOf env x; pure (.yield ((x, c) :: acc))) else pure (.yield acc)) :
    ∀ (r : Nms) (acc : List (Str × Addr)), (∀ x, (x, NameKind.free) ∈ r → (env.cells.lookup x).isSome = true) → (forIn r acc fn : Sem _) = pure (closOf env.cells r acc)
  | [], acc, _ => by rw [List.forIn_nil]; rfl
  | (x, k) :: r, acc, h => by
    rw [List.forIn_cons, hf]
    unfold closOf
    by_cases hk : k = .free
    · subst hk
      obtain ⟨c, hc⟩ := Option.isSome_iff_exists.mp (h x (.head _))
      have e : cellOf env x = pure c := by unfold cellOf; rw [hc]
      simp only [beq_self_eq_true, if_true, e, hc, Option.getD_some]
      exact closureFor_go fn hf r _ fun y hy => h y (.tail _ hy)
    · have : (k == NameKind.free) = false := by simpa using hk
      simp only [this, Bool.false_eq_true, if_false]
      exact closureFor_go fn hf r _ fun y hy => h y (.tail _ hy)
theorem closureFor_eq {scope : Scope} {env : Env} (h : ∀ x, (x, NameKind.free) ∈ scope.names → (env.cells.lookup x).isSome = true) : closureFor scope env = pure (closOf env.cells scope.names []) := by
  simp only [closureFor]
  rw [closureFor_go (env := env) _ (fun x k acc => by cases hk : k == NameKind.free <;> simp [hk]) scope.names [] h]
  rfl

theorem cellsFrom_comp : ∀ (ns : Nms) (h : Heap) (acc : List (Str × Addr)), (acc.map (·.2)).Nodup → (∀ p ∈ acc, p.2 < h.objs.size) →
    (∀ x c, (x, c) ∈ cellsFrom h.objs.size ns acc → (x, c) ∈ acc ∨ (h.objs.size ≤ c ∧ (pushCells h ns).IsCell c Option.none ∧ (x, NameKind.cell) ∈ ns)) ∧ ((cellsFrom h.objs.size ns acc).map (·.2)).Nodup
  | [], h, acc, nd, lt => ⟨fun x c e => .inl e, nd⟩
  | (y, k) :: r, h, acc, nd, lt => by
    unfold cellsFrom pushCells
    split
    · rename_i hk
      have hk : k = .cell := by simpa using hk
      subst hk
      have e : h.objs.size + 1 = (h.push { cls := .type "cell", data := .cell Option.none }).objs.size := (Heap.size_push ..).symm
      rw [e]
      obtain ⟨a, b⟩ := cellsFrom_comp r (h.push { cls := .type "cell", data := .cell Option.none }) ((y, h.objs.size) :: acc) (by
        rw [List.map_cons, List.nodup_cons]
        refine ⟨fun q => ?_, nd⟩
        obtain ⟨p, hp, e⟩ := List.mem_map.mp q
        have h1 : p.2 = h.objs.size := e
        have := lt p hp
        rw [h1] at this
        exact Nat.lt_irrefl _ this) (fun p hp => by
        rw [← e]
        cases hp with
        | head => exact Nat.lt_succ_self _
        | tail _ hp => exact Nat.lt_succ_of_lt (lt p hp))
      refine ⟨fun x c hm => ?_, b⟩
      rcases a x c hm with q | ⟨q1, q2, q3⟩
      · cases q with
        | head => exact .inr ⟨Nat.le_refl _, ⟨_, pushCells_keeps r _ _ _ (Heap.get?_push_size _ rfl), rfl⟩, .head _⟩
        | tail _ q => exact .inl q
      · exact .inr ⟨by rw [← e] at q1; omega, q2, .tail _ q3⟩
    · obtain ⟨a, b⟩ := cellsFrom_comp r h acc nd lt
      refine ⟨fun x c hm => ?_, b⟩
      rcases a x c hm with q | ⟨q1, q2, q3⟩
      · exact .inl q
      · exact .inr ⟨q1, q2, .tail _ q3⟩
theorem cellsFrom_other {x : Str} : ∀ {ns : Nms} {k : Nat} {acc : List (Str × Addr)}, (x, NameKind.cell) ∉ ns → (cellsFrom k ns acc).lookup x = acc.lookup x
  | [], _, _, _ => rfl
  | (y, kd) :: r, k, acc, h => by
    unfold cellsFrom
    have hr : (x, NameKind.cell) ∉ r := fun q => h (.tail _ q)
    split
    · rename_i hk
      have hk : kd = .cell := by simpa using hk
      subst hk
      rw [cellsFrom_other hr, List.lookup_cons]
      cases hb : x == y with
      | true => rw [beq_iff_eq] at hb; subst hb; exact absurd (.head _) h
      | false => rfl
    · exact cellsFrom_other hr
theorem closOf_keep {cells : List (Str × Addr)} {x : Str} : ∀ {r : Nms} {acc : List (Str × Addr)}, x ∉ r.map (·.1) → (closOf cells r acc).lookup x = acc.lookup x
  | [], _, _ => rfl
  | (y, k) :: r, acc, h => by
    rw [List.map_cons, List.mem_cons, not_or] at h
    unfold closOf
    split
    · rw [closOf_keep h.2, List.lookup_cons]
      have : (x == y) = false := by simpa using h.1
      rw [this]
    · exact closOf_keep h.2
theorem closOf_get {cells : List (Str × Addr)} {x : Str} : ∀ {r : Nms} {acc : List (Str × Addr)}, (r.map (·.1)).Nodup → (x, NameKind.free) ∈ r → (closOf cells r acc).lookup x = some ((cells.lookup x).getD 0)
  | (y, k) :: r, acc, nd, h => by
    rw [List.map_cons, List.nodup_cons] at nd
    unfold closOf
    cases h with
    | head =>
      simp only [beq_self_eq_true, if_true]
      rw [closOf_keep nd.1, List.lookup_cons]; simp
    | tail _ h =>
      split
      · exact closOf_get nd.2 h
      · exact closOf_get nd.2 h
theorem closOf_mem {cells : List (Str × Addr)} {x : Str} {c : Addr} : ∀ {r : Nms} {acc : List (Str × Addr)}, (x, c) ∈ closOf cells r acc → (x, c) ∈ acc ∨ ((x, NameKind.free) ∈ r ∧ c = (cells.lookup x).getD 0)
  | [], _, h => .inl h
  | (y, k) :: r, acc, h => by
    unfold closOf at h
    split at h
    · rename_i hk
      have hk : k = .free := by simpa using hk
      subst hk
      rcases closOf_mem h with q | q
      · cases q with
        | head => exact .inr ⟨.head _, rfl⟩
        | tail _ q => exact .inl q
      · exact .inr ⟨.tail _ q.1, q.2⟩
    · rcases closOf_mem h with q | q
      · exact .inl q
      · exact .inr ⟨.tail _ q.1, q.2⟩
theorem closOf_nodup {cells : List (Str × Addr)} (hc : (cells.map (·.2)).Nodup) : ∀ {r : Nms} {acc : List (Str × Addr)}, (r.map (·.1)).Nodup → (∀ x, (x, NameKind.free) ∈ r → (cells.lookup x).isSome = true) → (acc.map (·.2)).Nodup →
    (∀ p ∈ acc, p.1 ∉ r.map (·.1) ∧ cells.lookup p.1 = some p.2) → ((closOf cells r acc).map (·.2)).Nodup
  | [], _, _, _, nd, _ => nd
  | (y, k) :: r, acc, ndr, hs, nd, ha => by
    rw [List.map_cons, List.nodup_cons] at ndr
    unfold closOf
    split
    · rename_i hk
      have hk : k = .free := by simpa using hk
      subst hk
      obtain ⟨c, hy⟩ := Option.isSome_iff_exists.mp (hs y (.head _))
      refine closOf_nodup hc ndr.2 (fun x hx => hs x (.tail _ hx)) ?_ fun p hp => ?_
      · rw [hy, Option.getD_some, List.map_cons, List.nodup_cons]
        refine ⟨fun q => ?_, nd⟩
        obtain ⟨p, hp, e⟩ := List.mem_map.mp q
        obtain ⟨h1, h2⟩ := ha p hp
        have := lookup_addr hc (h2.trans (congrArg some e)) hy
        exact h1 (by rw [this]; exact .head _)
      · cases hp with
        | head => exact ⟨ndr.1, by rw [hy, Option.getD_some]⟩
        | tail _ hp => exact ⟨fun q => (ha p hp).1 (.tail _ q), (ha p hp).2⟩
    · exact closOf_nodup hc ndr.2 (fun x hx => hs x (.tail _ hx)) nd fun p hp => ⟨fun q => (ha p hp).1 (.tail _ q), (ha p hp).2⟩

/-- the frame of a comprehension -/
def compEnv (f : Fm) (scope : Scope) (L : Addr) : Env :=
  { scope := relabel scope f.env, locals := L, globals := f.env.globals, cells := cellsFrom (L + 1) scope.names (closOf f.env.cells scope.names []), qual := f.env.qual, func := Option.none, code := f.env.code, frame := f.env.frame, builtins := f.env.builtins }
abbrev compFm (f : Fm) (scope : Scope) (L : Addr) : Fm := ⟨compEnv f scope L, ownOf scope.names (compEnv f scope L).cells⟩

/-- the turn of a comprehension: what it does behind its tests -/
def TurnIs (e : Expr) (depth : Nat) (target : Expr) (ifs : List Expr) (ins : Value → Env → Sem Unit) : Prop :=
  ∀ it acc env, ∃ p, compTurn e depth it acc env = (standAt p >>= fun _ => pyNext it >>= fun r => match r with
    | Option.none => pure (.done .next)
    | some v => letOwnedTupleGo target it v >>= fun _ => assign target env v >>= fun _ => testsOf ifs env >>= fun ok => (if ok = true then ins acc env else pure ()) >>= fun _ => again (.compLoop e depth it acc env))

theorem codeAny_compLoopG {prog : Program} {w : World} {A : Around} {R : Result → Shared → Prop} {e : Expr} {depth : Nat} {target : Expr} {ifs : List Expr} {ins : Value → Env → Sem Unit} {it acc : Value} {env : Env} {s : Shared} (I : Nat → Shared → Prop)
    (he : TurnIs e depth target ifs ins) (hfr : (Code.compLoop e depth it acc env).isFrame = false)
    (turn : ∀ n s, I n s → wpAny (model prog w) A (pyNext it) (fun r s₁ => match r with
      | Option.none => R (.ok .next) s₁
      | some v => wpAny (model prog w) A (letOwnedTupleGo target it v) (fun _ s₁' => wpAny (model prog w) A (assign target env v) (fun _ s₂ => wpAny (model prog w) A (testsOf ifs env) (fun ok s₃ =>
          if ok = true then wpAny (model prog w) A (ins acc env) (fun _ s₄ => ∃ m, m < n ∧ I m s₄) NoE s₃ else ∃ m, m < n ∧ I m s₃) NoE s₂) NoE s₁') NoE s₁) NoE s)
    (n : Nat) (h : I n s) : codeAny (model prog w) A (.compLoop e depth it acc env) R s := by
  have hfrm : (Code.compLoop e depth it acc env).frames = 0 := by
    show (if (Code.compLoop e depth it acc env).isFrame = true then 1 else 0) = 0
    rw [hfr]; rfl
  refine codeAny_loop rfl I (fun n s hI => ?_) n h
  have hden : (model prog w).den (.compLoop e depth it acc env) = (compTurn e depth it acc env).onRaise (fun x => do noteFrame x env; theTreesLotGoes x) := by
    show (if (Code.compLoop e depth it acc env).isFrame = true then (compTurn e depth it acc env).onRaise (leaving env) else (compTurn e depth it acc env).onRaise (fun x => do noteFrame x env; theTreesLotGoes x)) = _
    rw [hfr]; rfl
  have hund : A.under (.compLoop e depth it acc env) = A := by
    refine Around.under_of_weight ?_ ?_
    · show (Code.compLoop e depth it acc env).frames + 0 + 0 + 0 = 0
      rw [hfrm]
    · show 3 * (Code.compLoop e depth it acc env).frames = 0
      rw [hfrm]
  rw [hden, hund]
  refine wpAny_noted ?_
  obtain ⟨p, hp⟩ := he it acc env
  rw [hp]
  refine wpAny_bind (wpAny_standAt (wpAny_bind (wpAny_mono (turn n s hI) (fun r s₁ h₁ => ?_) fun _ _ e => e.elim)))
  cases r with
  | none => exact wpAny_pure h₁
  | some v =>
    refine wpAny_bind (wpAny_mono h₁ (fun _ s₁' h₁ => ?_) fun _ _ e => e.elim)
    refine wpAny_bind (wpAny_mono h₁ (fun _ s₂ h₂ => ?_) fun _ _ e => e.elim)
    refine wpAny_bind (wpAny_mono h₂ (fun ok s₃ h₃ => ?_) fun _ _ e => e.elim)
    cases ok with
    | true =>
      rw [if_pos rfl] at h₃ ⊢
      exact wpAny_bind (wpAny_mono h₃ (fun _ s₄ h₄ => wpAny_pure ⟨rfl, h₄⟩) fun _ _ e => e.elim)
    | false =>
      rw [if_neg Bool.false_ne_true] at h₃ ⊢
      exact wpAny_bind (wpAny_pure (wpAny_pure ⟨rfl, h₃⟩))

theorem codeAny_compStartG {prog : Program} {w : World} {A : Around} {R : Result → Shared → Prop} {e : Expr} {depth : Nat} {it acc : Value} {env : Env} {s : Shared}
    (hfr : (Code.compStart e depth it acc env).isFrame = false) (hasy : ((clausesOf e)[depth]?).elim false (·.is_async != 0) = false)
    (h : codeAny (model prog w) A (.compLoop e depth it acc env) R s) (hag : wpAny (model prog w) A (pyIter it) (fun v s1 => v = it ∧ s1 = s) NoE s) : codeAny (model prog w) A (.compStart e depth it acc env) R s := by
  have hfrm : (Code.compStart e depth it acc env).frames = 0 := by
    show (if (Code.compStart e depth it acc env).isFrame = true then 1 else 0) = 0
    rw [hfr]; rfl
  refine codeAny_of_tree ?_
  have hden : (model prog w).den (.compStart e depth it acc env) = (compStart e depth it acc env).onRaise (fun x => do noteFrame x env; standAt theWindowsPlace) := by
    show (if (Code.compStart e depth it acc env).isFrame = true then (compStart e depth it acc env).onRaise (leaving env) else (compStart e depth it acc env).onRaise (fun x => do noteFrame x env; standAt theWindowsPlace)) = _
    rw [hfr]; rfl
  have hund : A.under (.compStart e depth it acc env) = A := by
    refine Around.under_of_weight ?_ ?_
    · show (Code.compStart e depth it acc env).frames + 0 + 0 + 0 = 0
      rw [hfrm]
    · show 3 * (Code.compStart e depth it acc env).frames = 0
      rw [hfrm]
  rw [hden, hund]
  refine wpAny_notedAt ?_
  unfold compStart
  rw [hasy]
  simp only [Bool.false_eq_true, if_false]
  refine wpAny_bind (wpAny_askSetting (wpAny_ite ?_))
  have go : wpAny (model prog w) A (again (.compLoop e depth it acc env)) (fun fin s' => match fin with | .done f => R (.ok f) s' | .again c' => c'.quiet = true ∧ codeAny (model prog w) A c' R s') (notedBy (model prog w) A env fun x s' => R (.error x) s') s := wpAny_pure (And.intro rfl h)
  have fin : wpAny (model prog w) A (pyIter it >>= fun v => again (.compLoop e depth v acc env)) (fun fin s' => match fin with | .done f => R (.ok f) s' | .again c' => c'.quiet = true ∧ codeAny (model prog w) A c' R s') (notedBy (model prog w) A env fun x s' => R (.error x) s') s :=
    wpAny_bind (wpAny_mono hag (fun v s1 ⟨e1, e2⟩ => by subst e1; subst e2; exact wpAny_pure (And.intro rfl h)) fun _ _ e => e.elim)
  split
  · exact wpAny_bind (m := again _) (wpAny_pure (wpAny_pure (And.intro rfl h)))
  · refine wpAny_bind (wpAny_rule ?_)
    split
    · exact wpAny_bind (wpAny_standAt fin)
    · exact fin

theorem compLoop_run {e : Expr} {depth : Nat} {target : Expr} {ifs : List Expr} {ins : Value → Env → Sem Unit} {it acc : Value} {xs : List AVal} {need : List Ck} {fi : List Addr} {K : Nat → Heap → Prop} {J : Nat → Loc → List Ck → Prop}
    {A : Around} {g : Heap} {s : Shared} {R : Result → Shared → Prop} (he : TurnIs e depth target ifs ins) (hfr : (Code.compLoop e depth it acc f.env).isFrame = false) (IO : IterOk D n target it fi K xs need) (hneed : ∀ j m P, J j m P → ∀ c ∈ need, c ∈ P)
    (hturn : ∀ j x m P, xs[j]? = some x → J j m P → As D n f ns target x m P fun m1 P1 => Cd D n f ns ifs m1 P1 fun ok m2 P2 => if ok = true then Wp D n f ns Eqv [] (fun _ => ins acc f.env) m2 P2 (fun (_ : Unit) m3 P3 => J (j + 1) m3 P3) else J (j + 1) m2 P2)
    (r : Room D n A) (p : PF D g) (S : St D g f ns m P s) (hJ0 : J 0 m P) (hfi : ∀ b ∈ fi, b ∉ f.env.locals :: (f.own ++ feet P) ∧ g.get? b = Option.none) (hK : K 0 s.heap)
    (hend : ∀ m P s', TK s.heap s'.heap → J xs.length m P → St D g f ns m P s' → R (.ok .next) s') : codeAny (model D.prog D.w) A (.compLoop e depth it acc f.env) R s := by
  refine codeAny_compLoopG (fun k s' => ∃ j, j + k = xs.length ∧ LoopI D f ns g s fi K J j s') he hfr (fun k s' => ?_) xs.length ⟨0, by omega, TK.refl _, hK, ⟨m, P, hJ0, S, fun b hb => (hfi b hb).1⟩, fun b hb => (hfi b hb).2⟩
  rintro ⟨j, hj, L⟩
  obtain ⟨mj, Pj, hJ, Sj, nfj⟩ := L.st
  have lives := IO.live j s'.heap L.k
  refine wpAny_mono (IO.next A s' j r L.k fun c hc => Sj.holds c (hneed j mj Pj hJ c hc)) (fun rr s3 hr => ?_) fun _ _ e => e
  have oth : ∀ b ∈ fi, b ∉ f.env.locals :: (f.own ++ feet Pj) ∧ g.get? b = Option.none ∧ ∀ o, s'.heap.get? b = some o → NT o := fun b hb => ⟨nfj b hb, (hfi b hb).2, fun o e => by
    obtain ⟨o', e', nt⟩ := lives b hb; rw [e'] at e; cases e; exact nt⟩
  cases hx : xs[j]? with
  | none =>
    rw [hx] at hr
    obtain ⟨rfl, h3, tk3, rfl, hk3⟩ := hr
    obtain ⟨S3, T3⟩ := Sj.others (tk := tk3) hk3 oth
    have hjl : j = xs.length := by
      have := List.getElem?_eq_none_iff.mp hx
      omega
    subst hjl
    exact hend mj Pj _ (L.tk.trans T3) hJ S3
  | some x =>
    rw [hx] at hr
    obtain ⟨v', rfl, hr⟩ := hr
    refine wpAny_mono hr (fun _ s4 => ?_) fun _ _ e => e
    rintro ⟨⟨h4, tk4, rfl, hk4⟩, hv4, hK4⟩
    obtain ⟨S4, T4⟩ := Sj.others (tk := tk4) hk4 oth
    have SR : St D g f ns mj (Pj ++ []) { s' with heap := h4, toks := tk4 } := by simpa using S4
    have hbase : ∀ b ∈ fi, ∃ o, (hideAll h4 (f.env.locals :: (f.own ++ feet Pj))).get? b = some o := fun b hb => by
      obtain ⟨o, e, _⟩ := IO.live (j + 1) h4 hK4 b hb
      exact ⟨o, hideAll_get _ e (nfj b hb)⟩
    have hlt : j < xs.length := (List.getElem?_eq_some_iff.mp hx).1
    have close : ∀ m6 P6 s6, TK h4 s6.heap → St D (hideAll h4 (f.env.locals :: (f.own ++ feet Pj))) f ns m6 P6 s6 → J (j + 1) m6 P6 → ∃ k', k' < k ∧ ∃ j', j' + k' = xs.length ∧ LoopI D f ns g s fi K J j' s6 := fun m6 P6 s6 T6 S6 q6 => by
      obtain ⟨S6', T6'⟩ := SR.unbase S6
      rw [List.append_nil] at S6'
      have hK6 : K (j + 1) s6.heap := IO.stable (j + 1) h4 s6.heap hK4 (fun b hb o e => S6.keep b o (hideAll_get _ e (nfj b hb))) T6
      have nf6 : ∀ b ∈ fi, b ∉ f.env.locals :: (f.own ++ feet P6) := fun b hb q => by
        obtain ⟨o, e⟩ := hbase b hb
        have e2 := S6.fresh b q
        have e3 : (hideAll h4 (f.env.locals :: (f.own ++ feet Pj))).get? b = Option.none := e2
        rw [e3] at e; cases e
      exact ⟨k - 1, by omega, j + 1, by omega, (L.tk.trans T4).trans T6', hK6, ⟨m6, P6, q6, S6', nf6⟩, fun b hb => (hfi b hb).2⟩
    refine (hturn j x mj Pj hx hJ).run r (p.rebase S4) SR.rebase (Vs1 hv4) fun _ m5 P5 _ s5 T5 _ S5 q5 => ?_
    refine q5.run r (p.rebase S4) S5 .nil fun ok m6 P6 y s6 T6 hy S6 q6 => ?_
    cases hy
    cases ok with
    | true =>
      rw [if_pos rfl] at q6 ⊢
      exact q6.run r (p.rebase S4) S6 .nil fun _ m7 P7 _ s7 T7 _ S7 q7 => close m7 P7 s7 ((T5.trans T6).trans T7) S7 q7
    | false =>
      rw [if_neg Bool.false_ne_true] at q6 ⊢
      exact close m6 P6 s6 (T5.trans T6) S6 q6

/-- what a comprehension's loop does with its elements -/
def CompL (D : WD) (n : Nat) (f : Fm) (ns : Nms) (target : Expr) (ifs : List Expr) (ins : Value → Env → Sem Unit) (acc : Value) (xs : List AVal) (need : List Ck) (m : Loc) (P : List Ck) (Q : Loc → List Ck → Prop) : Prop :=
  ∃ J : Nat → Loc → List Ck → Prop, J 0 m P ∧ (∀ j m P, J j m P → ∀ c ∈ need, c ∈ P) ∧
    (∀ j x m P, xs[j]? = some x → J j m P → As D n f ns target x m P fun m1 P1 => Cd D n f ns ifs m1 P1 fun ok m2 P2 => if ok = true then Wp D n f ns Eqv [] (fun _ => ins acc f.env) m2 P2 (fun (_ : Unit) m3 P3 => J (j + 1) m3 P3) else J (j + 1) m2 P2) ∧
    (∀ m P, J xs.length m P → Q m P)

theorem PF.fresh1 {D : WD} {g : Heap} {s : Shared} (p : PF D g) (S : St D g f ns m P s) : (s.heap.objs.size == sysModules) = false := by
  obtain ⟨mc, ⟨o, es, ep, ho, _⟩, _⟩ := p.nodigits
  have := Heap.lt_size (S.keep _ _ ho)
  rw [beq_eq_false_iff_ne]
  show s.heap.objs.size ≠ 1
  have h2 : 2 < s.heap.objs.size := this
  omega
/-- a new container -/
def NewAcc (newAcc : Sem Value) (mk : Addr → Ck) : Prop :=
  ∀ (M : Model) (A : Around) (E : Value → Shared → Prop) (s : Shared) (Q : Value → Shared → Prop), (s.heap.objs.size == sysModules) = false → (∀ h' tk, (∀ b o, s.heap.get? b = some o → h'.get? b = some o) → (mk s.heap.objs.size).holds h' → Q (.ref s.heap.objs.size) { s with heap := h', toks := tk }) → wpAny M A newAcc Q E s

theorem St.comp {scope : Scope} {g : Heap} {s4 : Shared} {s3 : Shared} {ns' : Nms} {m0 : Loc} {fi : List Addr} (S : St D g f ns m P s3) (hfi : ∀ b ∈ fi, b ∉ f.env.locals :: (f.own ++ feet P) ∧ g.get? b = Option.none) (hsc : scope.kind = .function) (hnd : (scope.names.map (·.1)).Nodup) (hcap : Capt ns m scope.names ns' m0)
    (hs4 : s4 = { s3 with heap := pushCells (s3.heap.push { cls := .type "dict", data := .dict #[] }) scope.names }) :
    St D (hideAll s4.heap (fi ++ s3.heap.objs.size :: (ownOf scope.names (compEnv f scope s3.heap.objs.size).cells ++ feet P))) (compFm f scope s3.heap.objs.size) ns' m0 P s4 ∧ St D g f ns m P s4 ∧ TK s3.heap s4.heap ∧
    (∀ x ∈ s3.heap.objs.size :: ownOf scope.names (compEnv f scope s3.heap.objs.size).cells, s3.heap.get? x = Option.none ∧ ∀ o, s4.heap.get? x = some o → NT o) := by
  subst hs4
  have hk : ∀ b o, s3.heap.get? b = some o → (pushCells (s3.heap.push { cls := .type "dict", data := .dict #[] }) scope.names).get? b = some o := fun b o e => pushCells_keeps _ _ b o (Heap.get?_push_of_some _ e)
  have T : TK s3.heap (pushCells (s3.heap.push { cls := .type "dict", data := .dict #[] }) scope.names) := .keeps hk
  have S4 : St D g f ns m P { s3 with heap := pushCells (s3.heap.push { cls := .type "dict", data := .dict #[] }) scope.names } := S.junk hk
  have capt : ∀ x, (x, NameKind.free) ∈ scope.names → ∃ c v, f.env.cells.lookup x = some c ∧ s3.heap.IsCell c (some v) := by
    have : ∀ {r r' : Nms} {t : Loc}, Capt ns m r r' t → ∀ x, (x, NameKind.free) ∈ r → ∃ a, NmAt ns m x .cell a ∨ NmAt ns m x .free a := by
      intro r r' t h
      induction h with
      | nil => intro x hx; cases hx
      | cell e _ ih => intro x hx; cases hx with
        | head => exact ⟨_, .inl e⟩
        | tail _ hx => exact ih x hx
      | free e _ ih => intro x hx; cases hx with
        | head => exact ⟨_, .inr e⟩
        | tail _ hx => exact ih x hx
      | other e _ ih => intro x hx; cases hx with
        | head => exact absurd rfl e
        | tail _ hx => exact ih x hx
    intro x hx
    obtain ⟨a, h | h⟩ := this hcap x hx
    · obtain ⟨c, v, h1, h2, _⟩ := S.cell x _ a h (.inl rfl); exact ⟨c, v, h1, h2⟩
    · obtain ⟨c, v, h1, h2, _⟩ := S.cell x _ a h (.inr rfl); exact ⟨c, v, h1, h2⟩
  have hz : (s3.heap.push { cls := .type "dict", data := .dict #[] }).objs.size = s3.heap.objs.size + 1 := Heap.size_push ..
  have hclmem : ∀ x c, (x, c) ∈ closOf f.env.cells scope.names [] → (x, NameKind.free) ∈ scope.names ∧ f.env.cells.lookup x = some c ∧ ∃ v, s3.heap.IsCell c (some v) := fun x c hx => by
    rcases closOf_mem hx with q | ⟨q1, q2⟩
    · cases q
    · obtain ⟨c', v, h1, h2⟩ := capt x q1
      rw [h1, Option.getD_some] at q2
      subst q2
      exact ⟨q1, h1, v, h2⟩
  obtain ⟨cs1, cs2⟩ := cellsFrom_comp scope.names (s3.heap.push { cls := .type "dict", data := .dict #[] }) (closOf f.env.cells scope.names [])
    (closOf_nodup S.ok.cells hnd (fun x hx => by obtain ⟨c, v, h1, _⟩ := capt x hx; rw [h1]; rfl) List.nodup_nil (fun p hp => by cases hp))
    (fun p hp => by
      obtain ⟨_, _, v, h⟩ := hclmem p.1 p.2 hp
      rw [hz]; exact Nat.lt_succ_of_lt h.lt)
  rw [hz] at cs1 cs2
  have hcs : (compEnv f scope s3.heap.objs.size).cells = cellsFrom (s3.heap.objs.size + 1) scope.names (closOf f.env.cells scope.names []) := rfl
  have ownBig : ∀ c ∈ ownOf scope.names (compEnv f scope s3.heap.objs.size).cells, s3.heap.objs.size < c ∧ (pushCells (s3.heap.push { cls := .type "dict", data := .dict #[] }) scope.names).IsCell c Option.none := fun c hc => by
    obtain ⟨x, hx, e⟩ := mem_ownOf hc
    rcases cs1 x c (mem_of_lookup e) with q | ⟨q1, q2, _⟩
    · cases nodup_fst hnd hx (hclmem x c q).1
    · exact ⟨q1, q2⟩
  have big : ∀ x, s3.heap.objs.size ≤ x → s3.heap.get? x = Option.none := fun x hx => by
    cases q : s3.heap.get? x with
    | none => rfl
    | some o => exact absurd (Heap.lt_size q) (Nat.not_lt.mpr hx)
  have small : ∀ x ∈ feet P, x < s3.heap.objs.size := fun x hx => let ⟨o, e, _⟩ := S.liveF (.tail _ (List.mem_append_right _ hx)); Heap.lt_size e
  have hLns : (pushCells (s3.heap.push { cls := .type "dict", data := .dict #[] }) scope.names).Ns s3.heap.objs.size fun _ => Option.none := (Heap.Ns.new s3.heap (.type "dict")).keeps (pushCells_keeps _ _)
  have ap := S.apart
  rw [List.nodup_cons, List.nodup_append] at ap
  refine ⟨⟨⟨hsc, hcap.relabel S.ok.nodup f.env S.ok.kind S.ok.names, by rw [hcap.fst]; exact hnd, S.ok.globals, S.ok.blt, cs2, fun x hx => ?_⟩, fun b o e => of_hideAll _ e, ⟨_, hLns, fun x a na => ?_⟩, fun x kd a na _ => ?_, fun x c hc => ?_, fun c hc => ⟨_, (ownBig c hc).2⟩,
    fun x hx => hideAll_none _ (List.mem_append_right _ hx), ?_, S4.holds, S.gens, S.hos, S.hdr⟩, S4, T, fun x hx => ?_⟩
  · have hin : ∀ {r r' : Nms} {t : Loc}, Capt ns m r r' t → ∀ x, ((x, NameKind.cell) ∈ r' ∨ (x, NameKind.free) ∈ r') → (x, NameKind.cell) ∈ r ∨ (x, NameKind.free) ∈ r := by
      intro r r' t h
      induction h with
      | nil => intro x h; rcases h with h | h <;> cases h
      | cell e _ ih =>
        intro x h
        rcases h with h | h <;> cases h <;> first | exact .inr (.head _) | (rename_i h; exact (ih x (.inl h)).imp (.tail _) (.tail _)) | (rename_i h; exact (ih x (.inr h)).imp (.tail _) (.tail _))
      | free e _ ih =>
        intro x h
        rcases h with h | h <;> cases h <;> first | exact .inr (.head _) | (rename_i h; exact (ih x (.inl h)).imp (.tail _) (.tail _)) | (rename_i h; exact (ih x (.inr h)).imp (.tail _) (.tail _))
      | other e _ ih =>
        intro x h
        rcases h with h | h <;> cases h <;> first | exact .inl (.head _) | exact .inr (.head _) | (rename_i h; exact (ih x (.inl h)).imp (.tail _) (.tail _)) | (rename_i h; exact (ih x (.inr h)).imp (.tail _) (.tail _))
    show ((cellsFrom (s3.heap.objs.size + 1) scope.names (closOf f.env.cells scope.names [])).lookup x).isSome = true
    rcases hin hcap x hx with h | h
    · exact cellsFrom_some (.inr h)
    · refine cellsFrom_some (.inl ?_)
      rw [closOf_get hnd h]; rfl
  · rcases (hcap.at na).2.1 with h | h <;> cases h
  · obtain ⟨h1, _, h3⟩ := hcap.at na
    have : ∃ c v, f.env.cells.lookup x = some c ∧ s3.heap.IsCell c (some v) ∧ V s3.heap a v := by
      rcases h3 with h | h
      · exact S.cell x _ a h (.inl rfl)
      · exact S.cell x _ a h (.inr rfl)
    obtain ⟨c, v, q1, q2, q3⟩ := this
    refine ⟨c, v, ?_, q2.keeps hk, q3.mono T⟩
    show (cellsFrom (s3.heap.objs.size + 1) scope.names (closOf f.env.cells scope.names [])).lookup x = some c
    rw [cellsFrom_other (fun q => by cases nodup_fst hnd h1 q), closOf_get hnd h1, q1]; rfl
  · rcases cs1 x c (mem_of_lookup hc) with q | ⟨q1, q2, q3⟩
    · obtain ⟨h1, h2, v, o, h3, h4⟩ := hclmem x c q
      refine .inr ⟨o, hideAll_get _ (hk _ _ h3) fun hm => ?_⟩
      rcases List.mem_append.mp hm with hm | hm
      · rcases S.cap x c h2 with h5 | ⟨o', h5⟩
        · exact (hfi c hm).1 (.tail _ (List.mem_append_left _ h5))
        · rw [(hfi c hm).2] at h5; cases h5
      cases hm with
      | head => exact Nat.lt_irrefl _ (Heap.lt_size h3)
      | tail _ hm =>
        rcases List.mem_append.mp hm with hm | hm
        · exact Nat.lt_irrefl _ (Nat.lt_trans (Heap.lt_size h3) (ownBig c hm).1)
        · rcases S.cap x c h2 with h5 | ⟨o', h5⟩
          · exact ap.2.2.2 c h5 c hm rfl
          · exact S.notBase h5 (.tail _ (List.mem_append_right _ hm))
    · exact .inl (ownOf_mem q3 hc)
  · rw [List.nodup_cons, List.nodup_append]
    refine ⟨fun q => ?_, ownOf_nodup hnd cs2, ap.2.2.1, fun c hc y hy e => ?_⟩
    · rcases List.mem_append.mp q with q | q
      · exact Nat.lt_irrefl _ (ownBig _ q).1
      · exact Nat.lt_irrefl _ (small _ q)
    · subst e
      exact Nat.lt_irrefl _ (Nat.lt_trans (small c hy) (ownBig c hc).1)
  · cases hx with
    | head => exact ⟨big _ (Nat.le_refl _), fun o e => by obtain ⟨o', es, ep, e', hd, _⟩ := hLns; rw [e'] at e; cases e; exact .dict hd⟩
    | tail _ hx => exact ⟨big _ (Nat.le_of_lt (ownBig x hx).1), fun o e => by obtain ⟨o', e', hd⟩ := (ownBig x hx).2; rw [e'] at e; cases e; exact .cell hd⟩

def takes (ns : Nms) (names : Nms) : Bool := names.all fun p => p.2 != .free || ns.any fun q => q.1 == p.1 && (q.2 == .cell || q.2 == .free)
theorem takes_ {ns names : Nms} (h : takes ns names = true) {x : Str} (hx : (x, NameKind.free) ∈ names) : (x, NameKind.cell) ∈ ns ∨ (x, NameKind.free) ∈ ns := by
  have := List.all_eq_true.mp h _ hx
  simp only [bne_self_eq_false, Bool.false_or, List.any_eq_true] at this
  obtain ⟨⟨y, k⟩, hy, e⟩ := this
  simp only [Bool.and_eq_true, beq_iff_eq, Bool.or_eq_true] at e
  obtain ⟨rfl, rfl | rfl⟩ := e
  · exact .inl hy
  · exact .inr hy

def finOf (D : WD) (n : Nat) (f : Fm) (ns : Nms) (use : Option (Value → Sem Unit)) (acc : Addr) (m : Loc) (P : List Ck) (Q : AVal → Loc → List Ck → Prop) : Prop :=
  match use with
  | Option.none => Q (.ref acc) m P
  | some u => Wp D n f ns Eqv [.ref acc] (fun vs => u (vs.getD 0 .none)) m P fun (_ : Unit) m2 P2 => Q .none m2 P2

theorem Wp.comp {e : Expr} {scope : Scope} {pos : Pos} {newAcc first : Sem Value} {use : Option (Value → Sem Unit)} {target iter : Expr} {ifs : List Expr} {gs : List Comprehension} {ins : Value → Env → Sem Unit} {mk : Addr → Ck} {Q : AVal → Loc → List Ck → Prop}
    (hcl : clausesOf e = ⟨target, iter, ifs, 0⟩ :: gs) (he : TurnIs e 0 target ifs ins) (hf1 : ∀ it acc env, (Code.compLoop e 0 it acc env).isFrame = false) (hf2 : ∀ it acc env, (Code.compStart e 0 it acc env).isFrame = false)
    (hacc : NewAcc newAcc mk) (hfoot : ∀ a, (mk a).foot = [a]) (hsc : scope.kind = .function) (hnd : (scope.names.map (·.1)).Nodup) (htk : takes ns scope.names = true)
    (h : Wp D n f ns V [] (fun _ => first) m P fun a m1 P1 => ∃ xs need P2 ns' m0, IterW D n f ns target a xs need m1 P1 P2 ∧ Capt ns m1 scope.names ns' m0 ∧ ∀ acc L, CompL D n (compFm f scope L) ns' target ifs ins (.ref acc) xs need m0 (mk acc :: P2) fun _ P3 => finOf D n f ns use acc m1 P3 Q)
    (hs : ∀ x, foldedSetIterable iter f.env x = pure x := by intro _; rfl) :
    Wp D n f ns V [] (fun _ => comprehension e scope f.env pos newAcc false first use) m P Q := fun A g s vs r p S _ => by
  refine wpAny_comprehension_free hcl hs (closureFor_eq fun x hx => S.ok.has x (takes_ htk hx)) hsc (fun x hx hl => by obtain ⟨y, k⟩ := x; cases hl; exact lookup_of_mem hnd hx) ?_
  refine h.run r p S .nil fun a m1 P1 v s1 T1 hv S1 q => ?_
  obtain ⟨xs, need, P2, ns', m0, hI, hcap, hL⟩ := q
  refine wpAny_mono (hI A g s1 v r p S1 hv) (fun it s2 => ?_) fun _ _ e => e
  rintro ⟨fi, K, T2, S2, hfi, hK, IO⟩
  refine hacc _ _ _ _ _ (p.fresh1 S2) fun h3 tk3 hk3 hm3 => ?_
  have T3 : TK s2.heap h3 := .keeps hk3
  have none2 : s2.heap.get? s2.heap.objs.size = Option.none := fresh_size _ (.head _)
  have S3 : St D g f ns m1 (mk s2.heap.objs.size :: P2) { s2 with heap := h3, toks := tk3 } := S2.newc hk3 hm3 (fun x hx => by rw [hfoot] at hx; simp at hx; rw [hx]; exact none2) (by rw [hfoot]; simp)
  have hlive2 : ∀ b ∈ fi, ∃ o, s2.heap.get? b = some o := fun b hb => let ⟨o, e, _⟩ := IO.live 0 _ hK b hb; ⟨o, e⟩
  have hK3 : K 0 h3 := IO.stable 0 _ _ hK (fun b hb o e => hk3 b o e) T3
  have nf3 : ∀ b ∈ fi, b ∉ f.env.locals :: (f.own ++ feet (mk s2.heap.objs.size :: P2)) := fun b hb q => by
    have hq : b ∈ f.env.locals :: (f.own ++ feet P2) ∨ b = s2.heap.objs.size := by
      have : feet (mk s2.heap.objs.size :: P2) = s2.heap.objs.size :: feet P2 := by show (mk _).foot ++ feet P2 = _; rw [hfoot]; rfl
      rw [this] at q
      simp only [List.mem_cons, List.mem_append] at q ⊢
      rcases q with q | q | q | q <;> simp [q]
    rcases hq with q | q
    · exact (hfi b hb).1 q
    · obtain ⟨o, e⟩ := hlive2 b hb
      rw [q, none2] at e; cases e
  have gn3 : ∀ b ∈ fi, g.get? b = Option.none := fun b hb => (hfi b hb).2
  refine wpAny_newFunctionEnv_comp ?_
  obtain ⟨SC, S4, T4, hnew⟩ := S3.comp (scope := scope) (fi := fi) (fun b hb => ⟨nf3 b hb, gn3 b hb⟩) hsc hnd hcap rfl
  generalize hH4 : pushCells (({ s2 with heap := h3, toks := tk3 } : Shared).heap.push { cls := .type "dict", data := .dict #[] }) scope.names = h4 at SC S4 T4 hnew ⊢
  have hk4 : ∀ b o, h3.get? b = some o → h4.get? b = some o := fun b o e => by rw [← hH4]; exact pushCells_keeps _ _ b o (Heap.get?_push_of_some _ e)
  have eL : ({ s2 with heap := h3, toks := tk3 } : Shared).heap.objs.size = h3.objs.size := rfl
  rw [eL] at SC hnew
  have hnew' : ∀ x ∈ h3.objs.size :: ownOf scope.names (compEnv f scope h3.objs.size).cells, h3.get? x = Option.none ∧ ∀ o, h4.get? x = some o → NT o := hnew
  have live4 : ∀ b ∈ fi, ∃ o, h3.get? b = some o ∧ NT o := fun b hb => IO.live 0 h3 hK3 b hb
  have pc : PF D (hideAll h4 (fi ++ h3.objs.size :: (ownOf scope.names (compEnv f scope h3.objs.size).cells ++ feet (mk s2.heap.objs.size :: P2)))) := p.keeps fun b o e => hideAll_get _ (S4.keep b o e) fun q => by
    simp only [List.mem_cons, List.mem_append] at q
    have e3 : h3.get? b = some o := S3.keep b o e
    rcases q with q | q | q | q
    · rw [gn3 b q] at e; cases e
    · rw [(hnew' b (by simp [q])).1] at e3; cases e3
    · rw [(hnew' b (by simp [q])).1] at e3; cases e3
    · exact S3.notBase e (.tail _ (List.mem_append_right _ q))
  have hfiC : ∀ b ∈ fi, b ∉ (compFm f scope h3.objs.size).env.locals :: ((compFm f scope h3.objs.size).own ++ feet (mk s2.heap.objs.size :: P2)) ∧
      (hideAll h4 (fi ++ h3.objs.size :: (ownOf scope.names (compEnv f scope h3.objs.size).cells ++ feet (mk s2.heap.objs.size :: P2)))).get? b = Option.none := fun b hb => by
    refine ⟨fun q => ?_, hideAll_none _ (List.mem_append_left _ hb)⟩
    obtain ⟨o, e3, _⟩ := live4 b hb
    have q : b ∈ h3.objs.size :: (ownOf scope.names (compEnv f scope h3.objs.size).cells ++ feet (mk s2.heap.objs.size :: P2)) := q
    simp only [List.mem_cons, List.mem_append] at q
    rcases q with q | q | q
    · rw [(hnew' b (by simp [q])).1] at e3; cases e3
    · rw [(hnew' b (by simp [q])).1] at e3; cases e3
    · exact nf3 b hb (.tail _ (List.mem_append_right _ q))
  obtain ⟨J, hJ0, hneed, hturn, hend⟩ := hL s2.heap.objs.size h3.objs.size
  have hK4 : K 0 h4 := IO.stable 0 _ _ hK3 (fun b hb o e => hk4 b o e) (.keeps hk4)
  have hback : ∀ x ∈ fi ++ h3.objs.size :: (ownOf scope.names (compEnv f scope h3.objs.size).cells ++ feet (mk s2.heap.objs.size :: P2)), x ∈ feet (mk s2.heap.objs.size :: P2) ∨
      (g.get? x = Option.none ∧ x ∉ f.env.locals :: f.own ∧ ∀ o, h4.get? x = some o → NT o) := fun x hx => by
    have frm : ∀ y, h3.get? y = Option.none → y ∉ f.env.locals :: f.own := fun y hy q => by
      have q : y ∈ f.env.locals :: (f.own ++ feet (mk s2.heap.objs.size :: P2)) := by
        cases q with
        | head => exact .head _
        | tail _ q => exact .tail _ (List.mem_append_left _ q)
      obtain ⟨o, e, _⟩ := S3.liveF q
      have e : h3.get? y = some o := e
      rw [hy] at e; cases e
    have gfr : ∀ y, h3.get? y = Option.none → g.get? y = Option.none := fun y hy => by
      cases q : g.get? y with
      | none => rfl
      | some o => have e : h3.get? y = some o := S3.keep y o q; rw [hy] at e; cases e
    simp only [List.mem_cons, List.mem_append] at hx
    rcases hx with q | q | q | q
    · refine .inr ⟨gn3 x q, fun z => nf3 x q ?_, fun o e => ?_⟩
      · cases z with
        | head => exact .head _
        | tail _ z => exact .tail _ (List.mem_append_left _ z)
      · obtain ⟨o', e', nt⟩ := live4 x q
        rw [hk4 x o' e'] at e; cases e; exact nt
    · obtain ⟨h1, h2⟩ := hnew' x (by simp [q]); exact .inr ⟨gfr x h1, frm x h1, h2⟩
    · obtain ⟨h1, h2⟩ := hnew' x (by simp [q]); exact .inr ⟨gfr x h1, frm x h1, h2⟩
    · exact .inl q
  have loop : codeAny (model D.prog D.w) A (.compLoop e 0 it (.ref s2.heap.objs.size) (compFm f scope h3.objs.size).env)
      (compPost (model D.prog D.w) A NoE use (Post D g f ns V s Q) (.ref s2.heap.objs.size) h3.objs.size) { s2 with heap := h4, toks := tk3 } := by
    refine compLoop_run he (hf1 _ _ _) IO hneed hturn r pc SC hJ0 hfiC hK4 fun m' P' s' T5 hJ S' => ?_
    have q := hend m' P' hJ
    obtain ⟨S5, T5'⟩ := S4.back hback S'
    have TT : TK s.heap s'.heap := (((T1.trans T2).trans T3).trans T4).trans T5'
    have apI := S'.apart
    rw [List.nodup_cons] at apI
    have nL : h3.objs.size ∉ f.env.locals :: (f.own ++ feet P') := fun z => by
      have h3L := (hnew' h3.objs.size (.head _)).1
      simp only [List.mem_cons, List.mem_append] at z
      rcases z with z | z | z
      · obtain ⟨o, e, _⟩ := S3.liveF (.head _)
        have e : h3.get? f.env.locals = some o := e
        rw [← z, h3L] at e; cases e
      · obtain ⟨o, e, _⟩ := S3.liveF (.tail _ (List.mem_append_left _ z))
        have e : h3.get? h3.objs.size = some o := e
        rw [h3L] at e; cases e
      · exact apI.1 (List.mem_append_right _ z)
    have gL : g.get? h3.objs.size = Option.none := by
      cases z : g.get? h3.objs.size with
      | none => rfl
      | some o => have e : h3.get? h3.objs.size = some o := S3.keep _ o z; rw [(hnew' h3.objs.size (.head _)).1] at e; cases e
    obtain ⟨MI, hMI, _⟩ := S'.lcl
    have hMI : s'.heap.Ns h3.objs.size MI := hMI
    cases use with
    | none =>
      refine ⟨MI, hMI, fun h' hs' => ?_⟩
      obtain ⟨S6, T6⟩ := S5.others (l := [h3.objs.size]) (h' := h') (tk := s'.toks) (fun b o hb e => (hs'.2 b (by simpa using hb)).trans e) (fun b hb => by
        simp at hb; subst hb
        exact ⟨nL, gL, fun o e => by obtain ⟨o', es, ep, e', hd, _⟩ := hMI; rw [e'] at e; cases e; exact .dict hd⟩)
      exact ⟨.ref s2.heap.objs.size, m1, P', TT.trans T6, rfl, S6, q⟩
    | some u =>
      have SR : St D g f ns m1 (P' ++ []) s' := by simpa using S5
      have q : Wp D n f ns Eqv [.ref s2.heap.objs.size] (fun vs => u (vs.getD 0 .none)) m1 P' fun (_ : Unit) m2 P2 => Q .none m2 P2 := q
      have pb := p.rebase S5
      refine q.run r pb SR.rebase (Vs1 rfl) fun _ m6 P6 _ s6 T6 _ S6 q6 => ?_
      obtain ⟨S6', T6'⟩ := SR.unbase S6
      rw [List.append_nil] at S6'
      obtain ⟨o, es, ep, e, hd, hr⟩ := hMI
      have eb : (hideAll s'.heap (f.env.locals :: (f.own ++ feet P'))).get? h3.objs.size = some o := hideAll_get _ e nL
      have e6 : s6.heap.get? h3.objs.size = some o := S6.keep _ _ eb
      refine ⟨MI, ⟨o, es, ep, e6, hd, hr⟩, fun h' hs' => ?_⟩
      have nL6 : h3.objs.size ∉ f.env.locals :: (f.own ++ feet P6) := fun z => by
        have := S6.fresh _ z
        rw [eb] at this; cases this
      obtain ⟨S7, T7⟩ := S6'.others (l := [h3.objs.size]) (h' := h') (tk := s6.toks) (fun b o hb e => (hs'.2 b (by simpa using hb)).trans e) (fun b hb => by
        simp at hb; subst hb
        exact ⟨nL6, gL, fun o' e' => by rw [e6] at e'; cases e'; exact .dict hd⟩)
      exact ⟨.none, m6, P6, (TT.trans T6').trans T7, rfl, S7, q6⟩
  exact codeAny_compStartG (hf2 _ _ _) (by rw [hcl]; rfl) loop (IO.again A _ r hK4)
end
end Mine

-- WJ
namespace Mine
open PySem PySem.W PySem.Calls PyProof.Rows

theorem turn_ite {α : Type} {p : Pos} {e : Expr} {depth : Nat} {it acc : Value} {env : Env} {target : Expr} {ifs : List Expr} {ins : Value → Env → Sem Unit} {X : Sem Fin}
    (h : X = (standAt p >>= fun _ => pyNext it >>= fun r => match r with
      | Option.none => pure (.done .next)
      | some v => letOwnedTupleGo target it v >>= fun _ => assign target env v >>= fun _ => testsOf ifs env >>= fun ok => if ok = true then (ins acc env >>= fun _ => again (.compLoop e depth it acc env)) else again (.compLoop e depth it acc env))) :
    X = (standAt p >>= fun _ => pyNext it >>= fun r => match r with
      | Option.none => pure (.done .next)
      | some v => letOwnedTupleGo target it v >>= fun _ => assign target env v >>= fun _ => testsOf ifs env >>= fun ok => (if ok = true then ins acc env else pure ()) >>= fun _ => again (.compLoop e depth it acc env)) := by
  rw [h]
  congr 1; funext _; congr 1; funext r
  cases r with
  | none => rfl
  | some v =>
    dsimp only
    congr 1; funext _; congr 1; funext _; congr 1; funext ok
    cases ok <;> rfl

abbrev insList (elt : Expr) : Value → Env → Sem Unit := fun acc env => eval elt env >>= fun x => call (.builtin "list.append") [acc, x] >>= fun _ => pure ()
theorem turn_list1 {elt target iter : Expr} {ifs : List Expr} {scope : Scope} {pos : Pos} : TurnIs (.ListComp elt [⟨target, iter, ifs, 0⟩] scope pos) 0 target ifs (insList elt) := fun it acc env =>
  ⟨iter.pos, turn_ite (α := Unit) rfl⟩
theorem turn_list2b {elt t1 i1 t2 i2 : Expr} {ifs1 ifs2 : List Expr} {scope : Scope} {pos : Pos} : TurnIs (.ListComp elt [⟨t1, i1, ifs1, 0⟩, ⟨t2, i2, ifs2, 0⟩] scope pos) 1 t2 ifs2 (insList elt) := fun it acc env =>
  ⟨i2.pos, turn_ite (α := Unit) rfl⟩
abbrev insNest (e i2 : Expr) (depth : Nat) : Value → Env → Sem Unit := fun acc env => do
  let x ← eval i2 env
  standAt i2.pos
  let x ← foldedSetIterable i2 env x
  let it ← holding [x] (pyIter x)
  let _ ← runOwn (.compStart e depth it acc env) env
  pure ()
theorem turn_list2a {elt t1 i1 t2 i2 : Expr} {ifs1 ifs2 : List Expr} {scope : Scope} {pos : Pos} : TurnIs (.ListComp elt [⟨t1, i1, ifs1, 0⟩, ⟨t2, i2, ifs2, 0⟩] scope pos) 0 t1 ifs1 (insNest (.ListComp elt [⟨t1, i1, ifs1, 0⟩, ⟨t2, i2, ifs2, 0⟩] scope pos) i2 1) := fun it acc env => by
  refine ⟨i1.pos, turn_ite (α := Unit) ?_⟩
  simp only [insNest, bind_assoc, pure_bind]
  rfl
theorem newAcc_list : NewAcc (newList []) fun a => lst a [] := fun M A E s Q _ h =>
  wpAny_newObj_type (h _ _ (fun b o e => Heap.get?_push_of_some _ e) ⟨[], ⟨_, Heap.get?_push_size _ rfl⟩, Vs.nil⟩) (by size_fits)

section
variable {D : WD} {n : Nat} {f : Fm} {ns : Nms} {m : Loc} {P : List Ck}

/-- list.append upon a piece -/
theorem St.listSet {g : Heap} {s : Shared} {a : Addr} {xs ys : List AVal} {P' : List Ck} {h' : Heap} {tk : Nat} {ws : List Value} (S : St D g f ns m P s) (w : Sw P (lst a xs) (lst a ys) P') (hs : Heap.SameBut a s.heap h') (hl : h'.PlainList a (List.toArray ws)) (hv : Vs s.heap ys ws) :
    St D g f ns m P' { s with heap := h', toks := tk } ∧ TK s.heap h' := by
  have T : TK s.heap h' := TK.sameBut hs fun o e => by
    obtain ⟨vs, ⟨n, e'⟩, _⟩ := S.holds _ w.mem
    rw [e'] at e; cases e; exact .cls (by show Value.type "list" ≠ _; decide)
  exact ⟨S.upd w (fun b o hb e => (hs.2 b (fun q => hb (by rw [q]; exact .head _))).trans e) ⟨ws, hl, hv.mono T⟩ (fun x hx => .inl hx) (by simp [lst]), T⟩

theorem c_append {a : Addr} {xs : List AVal} {b : AVal} {P' : List Ck} {Q : AVal → Loc → List Ck → Prop} (w : Sw P (lst a xs) (lst a (xs ++ [b])) P') (hz : xs.length ≤ 1000000) (h : Q .none m P') :
    Wp D n f ns V [.ref a, b] (fun vs => call (.builtin "list.append") vs) m P Q := fun A g s vs r p S hv => by
  obtain ⟨va, vb, rfl, ha, hb⟩ := Vs.two hv
  simp only [V] at ha; subst ha
  obtain ⟨ws, hl, hws⟩ := S.holds _ w.mem
  have hlen := hws.length
  refine wpAny_list_append_plain hl (fun h' hl' hs => ?_) (by rw [List.size_toArray, hlen]; exact Nat.le_trans hz (by decide))
  have hl'' : h'.PlainList a (List.toArray (ws ++ [vb])) := by simpa using hl'
  obtain ⟨S', T⟩ := S.listSet (tk := s.toks) w hs hl'' (hws.append (Vs1 hb))
  exact ⟨.none, m, P', T, rfl, S', h⟩

theorem ins_append {elt : Expr} {a : Addr} {Q : Loc → List Ck → Prop} (h : Ev D n f ns elt m P fun b m1 P1 => ∃ xs P2, Sw P1 (lst a xs) (lst a (xs ++ [b])) P2 ∧ xs.length ≤ 1000000 ∧ Q m1 P2) :
    Wp D n f ns Eqv [] (fun _ => insList elt (.ref a) f.env) m P (fun (_ : Unit) => Q) := fun A g s vs r p S _ => by
  refine wpAny_bind (h.run r p S .nil fun b m1 P1 v s1 T1 hv S1 q => ?_)
  obtain ⟨xs, P2, w, hz, q⟩ := q
  refine wpAny_bind ((c_append (Q := fun _ => Q) w hz q).run r p S1 (Vs2 (a := .ref a) rfl hv) fun _ m2 P3 _ s2 T2 _ S2 q2 => wpAny_pure ⟨(), m2, P3, T1.trans T2, rfl, S2, q2⟩)

theorem ins_nest {e : Expr} {target iter i2 : Expr} {ifs : List Expr} {depth : Nat} {ins : Value → Env → Sem Unit} {acc : Value} {Q : Loc → List Ck → Prop} (hcl : ((clausesOf e)[depth]?).elim false (·.is_async != 0) = false)
    (he : TurnIs e depth target ifs ins) (hf1 : ∀ it acc env, (Code.compLoop e depth it acc env).isFrame = false) (hf2 : ∀ it acc env, (Code.compStart e depth it acc env).isFrame = false)
    (h : Ev D n f ns i2 m P fun a m1 P1 => ∃ xs need P2, IterW D n f ns target a xs need m1 P1 P2 ∧ CompL D n f ns target ifs ins acc xs need m1 P2 Q)
    (hs : ∀ x, foldedSetIterable i2 f.env x = pure x := by intro _; rfl) : Wp D n f ns Eqv [] (fun _ => insNest e i2 depth acc f.env) m P (fun (_ : Unit) => Q) := fun A g s vs r p S _ => by
  refine wpAny_bind (h.run r p S .nil fun a m1 P1 v s1 T1 hv S1 q => wpAny_bind (wpAny_standAt (wpAny_bind (wpAny_of_eq (hs v) (wpAny_bind (wpAny_holding ?_))))))
  obtain ⟨xs, need, P2, hI, J, hJ0, hneed, hturn, hend⟩ := q
  refine wpAny_mono (hI A g s1 v r p S1 hv) (fun it s2 => ?_) fun _ _ e => e
  rintro ⟨fi, K, T2, S2, hfi, hK, IO⟩
  refine wpAny_bind (wpAny_runOwn (h := Option.none) ?_)
  refine codeAny_compStartG (hf2 _ _ _) hcl ?_ (IO.again A _ r hK)
  refine compLoop_run (R := fun r s' => match r with | .ok fl => wpAny (model D.prog D.w) A (pure ()) (Post D g f ns Eqv s (fun (_ : Unit) => Q)) NoE s' | .error e => cameBackBy (model D.prog D.w) A f.env NoE e s') he (hf1 _ _ _) IO hneed hturn r p S2 hJ0 hfi hK fun m' P' s' T3 hJ S' => ?_
  exact wpAny_pure ⟨(), m', P', (T1.trans T2).trans T3, rfl, S', hend m' P' hJ⟩

theorem Ev.comp1 {elt target iter : Expr} {ifs : List Expr} {scope : Scope} {pos : Pos} {Q : AVal → Loc → List Ck → Prop} (hsc : scope.kind = .function) (hnd : (scope.names.map (·.1)).Nodup) (htk : takes ns scope.names = true)
    (h : Ev D n f ns iter m P fun a m1 P1 => ∃ xs need P2 ns' m0, IterW D n f ns target a xs need m1 P1 P2 ∧ Capt ns m1 scope.names ns' m0 ∧ ∀ acc L, CompL D n (compFm f scope L) ns' target ifs (insList elt) (.ref acc) xs need m0 (lst acc [] :: P2) fun _ P3 => Q (.ref acc) m1 P3)
    (hs : ∀ x, foldedSetIterable iter f.env x = pure x := by intro _; rfl) : Ev D n f ns (.ListComp elt [⟨target, iter, ifs, 0⟩] scope pos) m P Q :=
  Wp.comp (use := Option.none) rfl turn_list1 (fun _ _ _ => rfl) (fun _ _ _ => rfl) newAcc_list (fun _ => rfl) hsc hnd htk h hs

end
end Mine

-- WK
namespace Mine
open PySem PySem.W PySem.Calls PyProof.Rows
section
variable {D : WD} {n : Nat} {f : Fm} {ns : Nms} {m : Loc} {P : List Ck}

theorem storeLs {A : Around} {g : Heap} {s : Shared} {x : Str} {a : AVal} {v : Value} {m' : Loc} {Q : Unit → Shared → Prop} (u : NmUp ns m x .local a m') (S : St D g f ns m P s) (hx : V s.heap a v)
    (h : ∀ h' tk, TK s.heap h' → St D g f ns m' P { s with heap := h', toks := tk } → Q () { s with heap := h', toks := tk }) : wpAny (model D.prog D.w) A (storeName f.env x v) Q NoE s := by
  obtain ⟨M, hM, hq⟩ := S.lcl
  refine wpAny_storeName_local (S.ok.kindOf u.mem) hM (fun h' hn hs => h h' _ (TK.sameBut hs fun o e => ?_) (S.setL u hx hM hq hn hs)) ?_
  · obtain ⟨o', es, ep, ho, hd, _⟩ := hM; rw [ho] at e; cases e; exact .dict hd
  · rw [S.ok.kind]; rfl

/-! stores in order -/
abbrev AsIn (D : WD) (n : Nat) (f : Fm) (ns : Nms) (ts : List Expr) (xs : List AVal) (m : Loc) (P : List Ck) (Q : Loc → List Ck → Prop) : Prop :=
  Wp D n f ns Eqv xs (fun vs => assignInOrder ((assignEach ts f.env).map (·.2)) vs) m P (fun (_ : Unit) => Q)
theorem AsIn.nil {xs : List AVal} {Q : Loc → List Ck → Prop} (h : Q m P) : AsIn D n f ns [] xs m P Q := fun A g s vs r p S hv => by
  show wpAny _ _ (assignInOrder [] vs) _ _ _
  unfold assignInOrder
  exact wpAny_pure ⟨(), m, P, TK.refl _, rfl, S, h⟩
theorem AsIn.cons {t : Expr} {ts : List Expr} {x : AVal} {xs : List AVal} {Q : Loc → List Ck → Prop} (h : As D n f ns t x m P fun m1 P1 => AsIn D n f ns ts xs m1 P1 Q)
    (he : assignEach (t :: ts) f.env = (false, PySem.assign t f.env) :: assignEach ts f.env := by rfl) : AsIn D n f ns (t :: ts) (x :: xs) m P Q := fun A g s vs r p S hv => by
  simp only [Vs] at hv
  obtain ⟨v, ws, rfl, hx, hxs⟩ := hv
  show wpAny _ _ (assignInOrder ((assignEach (t :: ts) f.env).map (·.2)) (v :: ws)) _ _ _
  rw [he]
  show wpAny _ _ (do holding ws (PySem.assign t f.env v); assignInOrder ((assignEach ts f.env).map (·.2)) ws) _ _ _
  refine wpAny_bind (wpAny_holding (h.run r p S (Vs1 hx) fun _ m1 P1 _ s1 T1 _ S1 q => ?_))
  exact q.run r p S1 (hxs.mono T1) fun _ m2 P2 _ s2 T2 _ S2 q2 => ⟨(), m2, P2, T1.trans T2, rfl, S2, q2⟩

def plainTs : List Expr → Bool
  | [] => true
  | .Starred .. :: _ => false
  | _ :: r => plainTs r
theorem assignEach_plain {env : Env} : ∀ {ts : List Expr}, plainTs ts = true → (assignEach ts env).findIdx? (·.1) = Option.none ∧ (assignEach ts env).length = ts.length
  | [], _ => by simp [assignEach]
  | t :: r, h => by
    have hr : plainTs r = true := by cases t <;> first | (cases h; done) | exact h
    obtain ⟨a, b⟩ := assignEach_plain (env := env) hr
    have e : assignEach (t :: r) env = (false, PySem.assign t env) :: assignEach r env := by cases t <;> first | (cases h; done) | rfl
    rw [e]
    simp [List.findIdx?_cons, a, b]

theorem keep_ext {s : Shared} {h' : Heap} (e : Heap.ExtBut s.heap.objs.size s.heap h') : ∀ b o, s.heap.get? b = some o → h'.get? b = some o := fun b o q => e b o (Nat.ne_of_lt (Heap.lt_size q)) q

theorem As.tup {elts : List Expr} {k : Nat} {pos : Pos} {xs : List AVal} {Q : Loc → List Ck → Prop} (hh : D.hd = Option.none) (h : AsIn D n f ns elts xs m P Q) (hl : elts.length = xs.length := by rfl) (hp : plainTs elts = true := by rfl) :
    As D n f ns (.Tuple elts k pos) (.tup xs) m P Q := fun A g s vs r p S hv => by
  obtain ⟨v, rfl, hx⟩ := Vs.one hv
  simp only [V] at hx
  obtain ⟨t, ws, rfl, ht, hws⟩ := hx
  obtain ⟨h1, h2⟩ := assignEach_plain (env := f.env) hp
  refine wpAny_assign_Tuple (r.handled.trans hh) ht (by rw [h2, hl, List.size_toArray, hws.length]) h1 fun h' e => ?_
  have hk := keep_ext e
  have T : TK s.heap h' := .keeps hk
  exact h.run r p (S.junk (tk := s.toks) hk) (hws.mono T) fun _ m2 P2 _ s2 T2 _ S2 q2 => ⟨(), m2, P2, T.trans T2, rfl, S2, q2⟩

theorem Ex.assignT {elts : List Expr} {k : Nat} {tpos : Pos} {value : Expr} {pos : Pos} {Q : AFlow → Loc → List Ck → Prop}
    (h : Ev D n f ns value m P fun a m1 P1 => As D n f ns (.Tuple elts k tpos) a m1 P1 fun m2 P2 => Q .next m2 P2)
    (hs : swapsWithSole [.Tuple elts k tpos] value pos.line f.env = pure false := by rfl) (hw : swappedStores [.Tuple elts k tpos] value f.env = pure Option.none := by rfl) :
    Ex D n f ns (.Assign [.Tuple elts k tpos] value pos) m P Q := fun A g s vs r p S _ =>
  Assign_Tuple (h.run r p S .nil fun a m1 P1 v s1 T1 hv S1 q => q.run r p S1 (Vs1 hv) fun _ m2 P2 _ s2 T2 _ S2 q2 => ⟨.next, m2, P2, T1.trans T2, rfl, S2, q2⟩) hs hw

/-- stores by names, last first -/
abbrev AsNm (D : WD) (n : Nat) (f : Fm) (ns : Nms) (xs : List Str) (as : List AVal) (m : Loc) (P : List Ck) (Q : Loc → List Ck → Prop) : Prop :=
  Wp D n f ns Eqv as (fun vs => assignInOrder (xs.map fun x => bindName f.env x) vs) m P (fun (_ : Unit) => Q)
theorem AsNm.nil {as : List AVal} {Q : Loc → List Ck → Prop} (h : Q m P) : AsNm D n f ns [] as m P Q := fun A g s vs r p S hv => by
  show wpAny _ _ (assignInOrder [] vs) _ _ _
  unfold assignInOrder
  exact wpAny_pure ⟨(), m, P, TK.refl _, rfl, S, h⟩
theorem AsNm.cons {x : Str} {xs : List Str} {a : AVal} {as : List AVal} {m' : Loc} {Q : Loc → List Ck → Prop} (u : NmUp ns m x .local a m') (h : AsNm D n f ns xs as m' P Q) : AsNm D n f ns (x :: xs) (a :: as) m P Q := fun A g s vs r p S hv => by
  simp only [Vs] at hv
  obtain ⟨v, ws, rfl, hx, hxs⟩ := hv
  show wpAny _ _ (do holding ws (bindName f.env x v); assignInOrder (xs.map fun x => bindName f.env x) ws) _ _ _
  refine wpAny_bind (wpAny_holding (wpAny_bindName ?_))
  refine storeLs u S hx fun h1 tk1 T1 S1 => ?_
  exact h.run r p S1 (hxs.mono T1) fun _ m2 P2 _ s2 T2 _ S2 q2 => ⟨(), m2, P2, T1.trans T2, rfl, S2, q2⟩
theorem Vs.reverse {h : Heap} : ∀ {as : List AVal} {vs : List Value}, Vs h as vs → Vs h as.reverse vs.reverse
  | [], _, e => by simp only [Vs] at e; subst e; exact .nil
  | _ :: _, _, e => by
    simp only [Vs] at e
    obtain ⟨v, r, rfl, x, y⟩ := e
    rw [List.reverse_cons, List.reverse_cons]
    exact y.reverse.append (Vs1 x)
theorem Ex.assignS {elts : List Expr} {k : Nat} {tpos : Pos} {value : Expr} {pos : Pos} {names : List Str} {Q : AFlow → Loc → List Ck → Prop} (hh : D.hd = Option.none)
    (hw : swappedStores [.Tuple elts k tpos] value f.env = pure (some names))
    (h : Ev D n f ns value m P fun a m1 P1 => ∃ xs, a = .tup xs ∧ names.length = xs.length ∧ AsNm D n f ns names.reverse xs.reverse m1 P1 fun m2 P2 => Q .next m2 P2)
    (hs : swapsWithSole [.Tuple elts k tpos] value pos.line f.env = pure false := by rfl) :
    Ex D n f ns (.Assign [.Tuple elts k tpos] value pos) m P Q := fun A g s vs r p S _ => by
  refine Assign_Tuple_swapped (h.run r p S .nil fun a m1 P1 v s1 T1 hv S1 q => ?_) hs hw
  obtain ⟨xs, rfl, hl, q⟩ := q
  simp only [V] at hv
  obtain ⟨t, ws, rfl, ht, hws⟩ := hv
  have e : names.length = (List.toArray ws).size := by rw [hl, List.size_toArray, hws.length]
  rw [e]
  refine wpAny_unpackItems_tuple (r.handled.trans hh) ht fun h' e => ?_
  have hk := keep_ext e
  have T : TK s1.heap h' := .keeps hk
  exact q.run r p (S1.junk (tk := s1.toks) hk) (hws.reverse.mono T) fun _ m2 P2 _ s2 T2 _ S2 q2 => ⟨.next, m2, P2, (T1.trans T).trans T2, rfl, S2, q2⟩

/-- a list comprehension stored as it is used -/
theorem Ex.assignC {x : Str} {pos' : Pos} {elt target iter : Expr} {ifs : List Expr} {scope : Scope} {cpos pos : Pos} {Q : AFlow → Loc → List Ck → Prop} (hsc : scope.kind = .function) (hnd : (scope.names.map (·.1)).Nodup) (htk : takes ns scope.names = true)
    (h : Ev D n f ns iter m P fun a m1 P1 => ∃ xs need P2 ns' m0, IterW D n f ns target a xs need m1 P1 P2 ∧ Capt ns m1 scope.names ns' m0 ∧ ∀ acc L, CompL D n (compFm f scope L) ns' target ifs (insList elt) (.ref acc) xs need m0 (lst acc [] :: P2) fun _ P3 => As D n f ns (.Name x pos') (.ref acc) m1 P3 fun m2 P4 => Q .next m2 P4)
    (hsw : swapsWith (.ListComp elt [⟨target, iter, ifs, 0⟩] scope cpos) (some (.Name x pos')) pos.line f.env = pure true)
    (hs : ∀ x, foldedSetIterable iter f.env x = pure x := by intro _; rfl) : Ex D n f ns (.Assign [.Name x pos'] (.ListComp elt [⟨target, iter, ifs, 0⟩] scope cpos) pos) m P Q := fun A g s vs r p S _ => by
  rw [exec_Assign_Name_used x pos' _ pos hsw]
  have W : Wp D n f ns V [] (fun _ => comprehension (.ListComp elt [⟨target, iter, ifs, 0⟩] scope cpos) scope f.env (firstIterPos [⟨target, iter, ifs, 0⟩] cpos) (newList []) false (eval iter f.env) (some (PySem.assign (.Name x pos') f.env))) m P fun _ m2 P2 => Q .next m2 P2 :=
    Wp.comp rfl turn_list1 (fun _ _ _ => rfl) (fun _ _ _ => rfl) newAcc_list (fun _ => rfl) hsc hnd htk h hs
  refine wpAny_bind (wpAny_standAt (wpAny_bind ?_))
  show wpAny _ _ (comprehension _ _ _ _ _ _ _ _ >>= fun _ => pure ()) _ _ _
  exact wpAny_bind (W.run r p S .nil fun a m1 P1 v s1 T1 hv S1 q => wpAny_pure (wpAny_pure ⟨.next, m1, P1, T1, rfl, S1, q⟩))

/-! displays -/
theorem Ev.tup {es : List Expr} {k : Nat} {pos : Pos} {Q : AVal → Loc → List Ck → Prop} (h : Ar D n f ns es pos m P fun as m1 P1 => as.length ≤ 1000000 ∧ Q (.tup as) m1 P1) : Ev D n f ns (.Tuple es k pos) m P Q := fun A g s vs r p S _ =>
  wpAny_Tuple (h.run r p S .nil fun as m1 P1 vs s1 T1 hv S1 q => ⟨Nat.le_trans (by rw [hv.length]; exact q.1) (by decide), by
    have hk : ∀ b o, s1.heap.get? b = some o → (s1.heap.push { cls := .type "tuple", data := .seq vs.toArray }).get? b = some o := fun b o e => Heap.get?_push_of_some _ e
    refine ⟨.tup as, m1, P1, T1.trans (.keeps hk), ?_, S1.junk (tk := s1.toks) hk, q.2⟩
    simp only [V]
    exact ⟨_, vs, rfl, ⟨_, Heap.get?_push_size _ rfl, rfl, _, rfl⟩, hv.mono (.keeps hk)⟩⟩)
theorem Ev.list {es : List Expr} {pos : Pos} {Q : AVal → Loc → List Ck → Prop} (h : Ar D n f ns es pos m P fun as m1 P1 => as.length ≤ 1000000 ∧ ∀ a, Q (.ref a) m1 (lst a as :: P1)) : Ev D n f ns (.List es pos) m P Q := fun A g s vs r p S _ =>
  wpAny_List (h.run r p S .nil fun as m1 P1 vs s1 T1 hv S1 q => ⟨Nat.le_trans (by rw [hv.length]; exact q.1) (by decide), by
    have hk : ∀ b o, s1.heap.get? b = some o → (s1.heap.push { cls := .type "list", data := .seq vs.toArray }).get? b = some o := fun b o e => Heap.get?_push_of_some _ e
    refine ⟨.ref s1.heap.objs.size, m1, _, T1.trans (.keeps hk), rfl, S1.newc (tk := s1.toks) (c' := lst s1.heap.objs.size as) hk ⟨vs, ⟨_, Heap.get?_push_size _ rfl⟩, hv.mono (.keeps hk)⟩ (fun x hx => ?_) (by simp [lst]), q.2 _⟩
    exact fresh_size x hx⟩)

/-! while -/
theorem Ex.while_ {test : Expr} {body : List Stmt} {pos : Pos} {Q : AFlow → Loc → List Ck → Prop} (J : Nat → Loc → List Ck → Prop) (k0 : Nat) (h0 : J k0 m P)
    (h : ∀ k m P, J k m P → Tr D n f ns test m P fun b m1 P1 => if b = true then Exs D n f ns body m1 P1 (loopQ (fun m2 P2 => ∃ k', k' < k ∧ J k' m2 P2) Q) else Q .next m1 P1) :
    Ex D n f ns (.While test body [] pos) m P Q := fun A g s vs r p S _ => by
  refine wpAny_While (codeAny_whileLoop (fun k s' => ∃ m P, J k m P ∧ TK s.heap s'.heap ∧ St D g f ns m P s') (fun k s' => ?_) k0 ⟨m, P, h0, TK.refl _, S⟩)
  rintro ⟨m', P', hJ, T, S'⟩
  refine wpAny_mono ((h k m' P' hJ).run r p S' .nil fun b m1 P1 x s1 T1 hx S1 q => ?_) (fun _ _ x => x) fun _ _ e => e.elim
  cases hx
  cases b with
  | true =>
    rw [if_pos rfl] at q ⊢
    refine wpAny_mono (q.run r p S1 .nil fun fl m2 P2 y s2 T2 hy S2 q2 => ?_) (fun _ _ x => x) fun _ _ e => e.elim
    have TT := (T.trans T1).trans T2
    cases fl with
    | next => cases hy; obtain ⟨k', hk, q2⟩ := q2; exact ⟨k', hk, m2, P2, q2, TT, S2⟩
    | cont => cases hy; obtain ⟨k', hk, q2⟩ := q2; exact ⟨k', hk, m2, P2, q2, TT, S2⟩
    | brk => cases hy; exact ⟨.next, m2, P2, TT, rfl, S2, q2⟩
    | ret a => obtain ⟨w, rfl, hw⟩ := hy; exact ⟨.ret a, m2, P2, TT, ⟨w, rfl, hw⟩, S2, q2⟩
  | false =>
    rw [if_neg Bool.false_ne_true] at q ⊢
    exact wpAny_execs_nil ⟨.next, m1, P1, T.trans T1, rfl, S1, q⟩

/-! stores that reckon -/
theorem Ex.aug {x : Str} {pos' : Pos} {op : Operator} {value : Expr} {pos : Pos} {a : AVal} {Q : AFlow → Loc → List Ck → Prop} (e : NmAt ns m x .local a)
    (h : Ev D n f ns value m P fun b m1 P1 => Wp D n f ns V [a, b] (Op2 (inplaceOp op)) m1 P1 fun c m2 P2 => ∃ m3, NmUp ns m2 x .local c m3 ∧ Q .next m3 P2) : Ex D n f ns (.AugAssign (.Name x pos') op value pos) m P Q := fun A g s vs r p S _ => by
  obtain ⟨M, hM, hq⟩ := S.lcl
  obtain ⟨v, hv, hx⟩ := hq x a e
  refine wpAny_AugAssign_Name (wpAny_loadName_local S.ok.kind (S.ok.kindOf e.mem) hM hv (h.run r p S .nil fun b m1 P1 w s1 T1 hw S1 q => ?_))
  refine q.run r p S1 (Vs2 (hx.mono T1) hw) fun c m2 P2 y s2 T2 hy S2 q2 => ?_
  obtain ⟨m3, u, q2⟩ := q2
  exact storeLs u S2 hy fun h4 tk4 T4 S4 => ⟨.next, m3, P2, (T1.trans T2).trans T4, rfl, S4, q2⟩
end
end Mine

-- WL
namespace Mine
open PySem PySem.W PySem.Calls PyProof.Rows

/-- the facts of a type's method, read off the written part -/
structure MethIn (K : Frag) (T : Value) (name : Str) (f : Value) : Prop where
  ga : ∃ ga, findIn K T "__getattribute__" = some (some (.builtin ga)) ∧ (Manifest.canonical ga != "object.__getattribute__") = false
  gt : findIn K T "__getattr__" = some Option.none
  me : findIn K T name = some (some f)
  tf : ∃ tf, typeIn K f = some tf ∧ (tf != .type "function" && tf != .type "method_descriptor" && tf != .type "wrapper_descriptor") = false
def methIn (K : Frag) (T : Value) (name : Str) (f : Value) : Bool :=
  (match findIn K T "__getattribute__" with | some (some (.builtin ga)) => !(Manifest.canonical ga != "object.__getattribute__") | _ => false) &&
  (match findIn K T "__getattr__" with | some Option.none => true | _ => false) && findIn K T name == some (some f) &&
  (match typeIn K f with | some tf => !(tf != .type "function" && tf != .type "method_descriptor" && tf != .type "wrapper_descriptor") | _ => false)
theorem methIn_ {K : Frag} {T : Value} {name : Str} {f : Value} (h : methIn K T name f = true) : MethIn K T name f := by
  unfold methIn at h
  simp only [Bool.and_eq_true, beq_iff_eq] at h
  obtain ⟨⟨⟨h1, h2⟩, h3⟩, h4⟩ := h
  refine ⟨?_, ?_, h3, ?_⟩
  · split at h1
    · rename_i ga e; exact ⟨ga, e, by simpa using h1⟩
    · cases h1
  · split at h2
    · assumption
    · cases h2
  · split at h4
    · rename_i tf e
      refine ⟨tf, e, ?_⟩
      simp at h4
      rcases h4 with (h | h) | h <;> simp [h]
    · cases h4

section
variable {M : Model} {A : Around} {E : Value → Shared → Prop} {s : Shared}
theorem getMethod_gen {K : Frag} {obj T f : Value} {name : Str} {pl : Sem Bool} {Q : Value × List Value → Shared → Prop} (X : K.In s.heap) (hT : Looks M s.heap (typeOf obj) T) (I : MethIn K T name f)
    (hd : ∀ a, obj = .ref a → ∃ o, s.heap.get? a = some o ∧ ∀ d, o.dict = some d → ∃ m, s.heap.Ns d m ∧ m name = Option.none) (h : Q (f, [obj]) s) : wpAny M A (getMethod obj name pl) Q E s := by
  obtain ⟨⟨ga, g1, g2⟩, gt, me, tf, t1, t2⟩ := I
  unfold getMethod specialOf
  refine wpAny_bind (wpAny_bind (hT.here ((looks_findIn X g1).here ?_)))
  show wpAny M A (if (Manifest.canonical ga != "object.__getattribute__") = true then _ else _) Q E s
  rw [g2, if_neg Bool.false_ne_true]
  refine wpAny_bind (wpAny_bind (hT.here ((looks_findIn X gt).here ?_)))
  show wpAny M A (if (Option.none : Option Value).isSome = true then _ else _) Q E s
  rw [if_neg (by decide)]
  refine wpAny_bind (wpAny_bind (hT.here ((looks_findIn X me).here ?_)))
  dsimp only
  refine wpAny_bind ((looks_typeIn X t1).here ?_)
  show wpAny M A (if (tf != .type "function" && tf != .type "method_descriptor" && tf != .type "wrapper_descriptor") = true then _ else _) Q E s
  rw [t2, if_neg Bool.false_ne_true]
  cases obj with
  | ref a =>
    obtain ⟨o, ho, hdd⟩ := hd a rfl
    refine wpAny_bind (wpAny_loadPart ho ?_)
    cases hod : o.dict with
    | none => exact wpAny_bind (wpAny_rule (wpAny_pure h))
    | some d =>
      obtain ⟨m, hn, hm⟩ := hdd d hod
      dsimp only
      refine wpAny_bind (wpAny_nsGet hn ?_)
      rw [hm]
      show wpAny M A (if (Option.none : Option Value).isSome = true then _ else _) Q E s
      rw [if_neg (by decide)]
      exact wpAny_bind (wpAny_rule (wpAny_pure h))
  | _ => exact wpAny_bind (wpAny_rule (wpAny_pure h))
end

section
variable {prog : Program} {w : World} {A : Around} {E : Value → Shared → Prop} {s : Shared} {K : Frag} {x C dx : Addr} {ox od : Obj} {name : Str}
theorem lookIn_ns {h : Heap} {d : Addr} {m : Str → Option Value} (hn : h.Ns d m) (name : Str) : ∃ o, h.get? d = some o ∧ lookIn name o = some (m name) := by
  obtain ⟨o, es, ep, ho, hd, hk, hf⟩ := hn
  refine ⟨o, ho, ?_⟩
  unfold lookIn
  rw [hd]
  dsimp only
  have hany : es.toList.any (·.refKey) = false := by
    rw [List.any_eq_false]
    intro e he
    obtain ⟨n, t, q⟩ := hk e (by simpa using he)
    simp [DictEntry.refKey, q]
  have := hf name
  unfold nsFind findBy at this
  rw [← Array.find?_toList] at this
  cases q : es.toList.find? (·.key.isStr name) with
  | some e => rw [q] at this; simpa using this
  | none => rw [q] at this; simp only [hany, Bool.false_eq_true, if_false]; simpa using this

/-- a namespace and how many entries it has at most -/
def NsZ (h : Heap) (a : Addr) (m : Str → Option Value) (k : Nat) : Prop := ∃ o es ep, h.get? a = some o ∧ o.data = .dict es ep ∧ StrKeys es ∧ (∀ name, nsFind es name = m name) ∧ es.size ≤ k
theorem NsZ.ns {h : Heap} {a : Addr} {m : Str → Option Value} {k : Nat} (x : NsZ h a m k) : h.Ns a m := let ⟨o, es, ep, a, b, c, d, _⟩ := x; ⟨o, es, ep, a, b, c, d⟩

theorem wpAny_nsSetZ {M : Model} {a : Addr} {m : Str → Option Value} {k : Nat} {v : Value} {Q : Unit → Shared → Prop} (hn : NsZ s.heap a m k)
    (hQ : ∀ h', NsZ h' a (fun x => if x = name then some v else m x) (if (m name).isSome = true then k else k + 1) → Heap.SameBut a s.heap h' → Q () { s with heap := h', toks := s.toks + 1 }) : wpAny M A (nsSet a name v) Q E s := fun Γ p _ => by
  obtain ⟨o, es, ep, ho, hd, hk, hm, hz⟩ := hn
  simp only [nsSet, strHash, Sem.wp_bind', Sem.wp_cmd_ask, Sem.wp_pure', Sem.wp_cmd_mkText]
  rw [Sem.wp_loadPart_of M Γ _ p { s with toks := s.toks + 1 } (o := o) _ ho]
  have hany : es.any (·.refKey) = false := by
    rw [Array.any_eq_false']; intro e he; obtain ⟨n, t, h⟩ := hk e he; simp [DictEntry.refKey, h]
  simp only [hd, aRefKeyMayBeTheName_eq, aRefKeyMayBeTheNameByArray, hany, Bool.and_false, Bool.false_eq_true, if_false, Sem.wp_cmd_updatePart]
  refine ⟨by rw [ho]; rfl, hQ _ ?_ (Heap.SameBut.update ..)⟩
  obtain ⟨c, d, dt, sl⟩ := o
  subst hd
  cases hi : es.findIdx? (·.key.isStr name) with
  | some i =>
    refine ⟨_, _, ep, Heap.get?_update_self _ ho (by simp only [Obj.putName_eq, Obj.putNameByArray, hi]; rfl), by simp only [Obj.putName_eq, Obj.putNameByArray, hi]; rfl, hk.modify _ _, fun x => ?_, ?_⟩
    · show _ = if x = name then some v else m x
      rw [← hm]; exact findBy_modify (fun n v => v.isStr n) Value.isStr_inj es name x v i hi
    · rw [Array.size_modify]; split <;> omega
  | none =>
    refine ⟨_, _, ep + 1, Heap.get?_update_self _ ho (by simp only [Obj.putName_eq, Obj.putNameByArray, hi]; rfl), by simp only [Obj.putName_eq, Obj.putNameByArray, hi]; rfl, hk.push _ _ _ _, fun x => ?_, ?_⟩
    · show _ = if x = name then some v else m x
      rw [← hm]
      exact findBy_push (fun n v => v.isStr n) es name x _ _ v (fun y => by
        show (name == y) = decide (y = name)
        by_cases h : y = name
        · subst h; simp
        · have : ¬ name = y := fun e => h e.symm
          simp [h, this]) hi
    · have : m name = Option.none := by
        rw [← hm]; unfold nsFind findBy
        rw [Array.findIdx?_eq_none_iff] at hi
        have : es.find? (fun x => x.key.isStr name) = Option.none := by rw [Array.find?_eq_none]; simpa using hi
        rw [this]; rfl
      rw [this, Array.size_push]; simp; omega

theorem setAttr_inst {v : Value} {m : Str → Option Value} {k : Nat} {Q : Unit → Shared → Prop} (X : K.In s.heap) (I : InstAt s.heap x ox C (some od)) (hd : ox.dict = some dx) (hn : NsZ s.heap dx m k) (hk : k ≤ 1000)
    (hs : findIn K (.ref C) "__setattr__" = some (some (.builtin "object.__setattr__"))) (hp : plainOver K C = true) (ht : takerIn K C name = some Option.none) (hh : (clsIn K C).any (·.hasDict) = true)
    (h : ∀ h' tk, NsZ h' dx (fun y => if y = name then some v else m y) (if (m name).isSome = true then k else k + 1) → Heap.SameBut dx s.heap h' → Q () { s with heap := h', toks := tk }) : wpAny (model prog w) A (setAttr (.ref x) name v) Q E s := by
  refine set_plain X I hs ?_
  obtain ⟨cd, hc, hd'⟩ := any_some hh
  refine osa_open (s := { s with toks := s.toks + 1 }) X I hp ht fun b => ?_
  obtain ⟨hx, hcl, hno, -⟩ := I
  obtain ⟨oc, odi, oda, osl⟩ := ox
  dsimp only at hcl hd
  subst hcl hd
  refine wpAny_bind (wpAny_pure (wpAny_bind (wpAny_bind (wpAny_loadPart (s := { s with toks := s.toks + 1 }) hx (wpAny_bind ((looks_clsIn (h := ({ s with toks := s.toks + 1 } : Shared).heap) X hc).here ?_))))))
  rw [hd']
  refine wpAny_pure (a := some dx) (wpAny_bind (wpAny_pure (wpAny_bind (wpAny_nsSetZ (s := { s with toks := s.toks + 1 }) hn fun h' hn' hs' => ?_))))
  obtain ⟨o', es', ep', q1, q2, q3, q4, q5⟩ := id hn'
  refine wpAny_bind (wpAny_lookBehind q1 (by rw [q2]; exact pastItsLine_dict (Nat.le_trans q5 (by rw [sizeLine_eq]; split <;> omega))) ?_)
  exact wpAny_pure (h h' _ hn' hs')
end

/-- an own object: its class, its namespace, what it holds -/
def inst (a C d : Addr) (fs : List (Str × AVal)) : Ck where
  foot := [a, d]
  holds h := (∃ sl, h.get? a = some ⟨.ref C, some d, .plain, sl⟩) ∧ ∃ m, NsZ h d m fs.length ∧ ∀ x, match fs.lookup x with | some b => ∃ v, m x = some v ∧ V h b v | Option.none => m x = Option.none
  stable h h' k T := fun ⟨⟨sl, e⟩, m, ⟨o, es, ep, ho, r⟩, q⟩ => ⟨⟨sl, k a (by simp) _ e⟩, m, ⟨o, es, ep, k d (by simp) o ho, r⟩, fun x => by
    have := q x
    split
    · rename_i b hb; rw [hb] at this; obtain ⟨v, e, z⟩ := this; exact ⟨v, e, z.mono T⟩
    · rename_i hb; rw [hb] at this; exact this⟩
  live h := fun ⟨⟨sl, e⟩, m, ⟨o, es, ep, ho, hd, r⟩, q⟩ x hx => by
    simp at hx
    rcases hx with rfl | rfl
    · exact ⟨_, e, .cls (by show Value.ref C ≠ _; exact fun q => by cases q)⟩
    · exact ⟨o, ho, .dict hd⟩
def setF (x : Str) (b : AVal) : List (Str × AVal) → List (Str × AVal)
  | [] => [(x, b)]
  | (y, c) :: r => if x = y then (y, b) :: r else (y, c) :: setF x b r
theorem setF_lookup {x : Str} {b : AVal} (y : Str) : ∀ {fs : List (Str × AVal)}, (setF x b fs).lookup y = if y = x then some b else fs.lookup y
  | [] => by
    simp only [setF, List.lookup_cons, List.lookup_nil]
    by_cases h : y = x
    · subst h; simp
    · have : (y == x) = false := by simpa using h
      simp [this, h]
  | (z, c) :: r => by
    unfold setF
    by_cases hx : x = z
    · subst hx
      rw [if_pos rfl, List.lookup_cons, List.lookup_cons]
      by_cases h : y = x
      · subst h; simp
      · have : (y == x) = false := by simpa using h
        simp [this, h]
    · rw [if_neg hx, List.lookup_cons, List.lookup_cons, setF_lookup y (fs := r)]
      by_cases h : y = z
      · subst h
        have : ¬ y = x := fun q => hx q.symm
        simp [this]
      · have : (y == z) = false := by simpa using h
        simp [this]
theorem setF_length {x : Str} {b : AVal} : ∀ {fs : List (Str × AVal)}, (setF x b fs).length = if (fs.lookup x).isSome = true then fs.length else fs.length + 1
  | [] => by simp [setF]
  | (z, c) :: r => by
    unfold setF
    by_cases hx : x = z
    · subst hx; simp
    · have : (x == z) = false := by simpa using hx
      rw [if_neg hx, List.length_cons, setF_length (fs := r), List.lookup_cons, this]
      dsimp only
      split <;> simp

/-- what is read off the written part for a class of plain objects -/
structure ClsIn (K : Frag) (C : Addr) : Prop where
  ga : findIn K (.ref C) "__getattribute__" = some (some (.builtin "object.__getattribute__"))
  sa : findIn K (.ref C) "__setattr__" = some (some (.builtin "object.__setattr__"))
  po : plainOver K C = true
  hd : hasDictIn K C = true

section
variable {D : WD} {n : Nat} {f : Fm} {ns : Nms} {m : Loc} {P : List Ck}

theorem inst_at {h : Heap} {a C d : Addr} {fs : List (Str × AVal)} (x : (inst a C d fs).holds h) (name : Str) : ∃ ox od mm, InstAt h a ox C (some od) ∧ ox.dict = some d ∧ NsZ h d mm fs.length ∧ lookIn name od = some (mm name) ∧
    (∀ x, match fs.lookup x with | some b => ∃ v, mm x = some v ∧ V h b v | Option.none => mm x = Option.none) := by
  obtain ⟨⟨sl, e⟩, mm, hn, q⟩ := x
  obtain ⟨o, ho, hl⟩ := lookIn_ns hn.ns name
  exact ⟨_, o, mm, ⟨e, rfl, rfl, ho⟩, rfl, hn, hl, q⟩

/-- self.x -/
theorem Ev.attr {o : Expr} {name : Str} {pos : Pos} {Q : AVal → Loc → List Ck → Prop}
    (h : Ev D n f ns o m P fun a m1 P1 => ∃ x C d fs b, a = .ref x ∧ inst x C d fs ∈ P1 ∧ ClsIn D.K C ∧ findIn D.K (.ref C) name = some Option.none ∧ fs.lookup name = some b ∧ (∀ h v, V h b v → handedIn v = true) ∧ Q b m1 P1)
    (he : eval (.Attribute o name pos) f.env = (do let ov ← eval o f.env; standAt pos.atName; let r ← holding [ov] (getAttr ov name true); letTemporaryGo o ov r; pure r) := by rfl) : Ev D n f ns (.Attribute o name pos) m P Q := fun A g s vs r p S _ => by
  rw [he]
  refine wpAny_bind (h.run r p S .nil fun a m1 P1 v s1 T1 hv S1 q => wpAny_bind (wpAny_standAt (wpAny_bind (wpAny_holding ?_))))
  obtain ⟨x, C, d, fs, b, rfl, hm, hc, hno, hb, hh, q⟩ := q
  simp only [V] at hv; subst hv
  obtain ⟨ox, od, mm, I, hd, hn, hl, hq⟩ := inst_at (S1.holds _ hm) name
  have := hq name
  rw [hb] at this
  obtain ⟨w, hw, hV⟩ := this
  refine get_value (p.K.keeps S1.keep) I hc.ga (findObj_own hc.hd hno rfl (hl.trans (by rw [hw]))) (hh _ _ hV) ?_
  have S2 : St D g f ns m1 P1 { s1 with toks := s1.toks + 1 } := S1.toks
  refine wpAny_bind (wpAny_letTemporaryGo (wpAny_pure ⟨b, m1, P1, T1, hV, S2, q⟩))
end
end Mine

-- WM
namespace Mine
open PySem PySem.W PySem.Calls PyProof.Rows

/-! strings as lists -/
def pos (x y : List Nat) (hi i : Nat) : Bool := decide (i + y.length ≤ hi) && ((x.drop i).take y.length == y)
def fnd (x y : List Nat) (lo hi : Nat) : Option Nat := (List.range' lo (hi + 1 - lo)).find? (pos x y hi)
def rfnd (x y : List Nat) (lo hi : Nat) : Option Nat := (List.range' lo (hi + 1 - lo)).reverse.find? (pos x y hi)
def toI : Option Nat → Int
  | some k => (k : Int)
  | Option.none => -1
theorem mkS_len (l : List Nat) : (mkS l).length = l.length := by simp [mkS, Str.length]
theorem mkS_list (l : List Nat) : (mkS l).cps.toList = l := rfl
theorem mkS_append (a b : List Nat) : mkS a ++ mkS b = mkS (a ++ b) := Str.ext' (by simp [Str.cps_append, mkS])
theorem mkS_inj {a b : List Nat} (h : mkS a = mkS b) : a = b := by have := congrArg (fun s : Str => s.cps.toList) h; simpa [mkS] using this
theorem subAt_mk (x y : List Nat) (i : Nat) : Builtin.Str.subAt (mkS x) (mkS y) i = ((x.drop i).take y.length == y) := by rw [StrLaws.subAt_eq, mkS_len]; rfl
theorem pos_at (x y : List Nat) (hi i : Nat) : StrLaws.At (mkS x) (mkS y) hi i ↔ pos x y hi i = true := by
  unfold StrLaws.At pos
  rw [subAt_mk, mkS_len, Bool.and_eq_true, decide_eq_true_eq]
theorem find_pre {p : Nat → Bool} : ∀ {pre post : List Nat} {a : Nat}, p a = true → (∀ i ∈ pre, ¬ p i = true) → (pre ++ a :: post).find? p = some a
  | [], post, a, h, _ => by simp [h]
  | b :: pre, post, a, h, hn => by
    have hb : p b = false := by simpa using hn b (.head _)
    rw [List.cons_append, List.find?_cons, hb]
    exact find_pre h fun i hi => hn i (.tail _ hi)
theorem occ_fnd (x y : List Nat) (lo hi : Nat) : (Builtin.Str.occurrences (mkS x) (mkS y) lo hi 1).head? = fnd x y lo hi := by
  unfold fnd
  rw [StrLaws.occ_eq]
  rcases StrLaws.occ_first (mkS x) (mkS y) hi 1 (Nat.le_refl 1) (List.range' lo (hi + 1 - lo)) lo (fun i h => by have := List.mem_range'_1.mp h; omega) with ⟨h0, hn⟩ | ⟨pre, a, post, e, h0, ha, hn⟩
  · rw [h0]
    symm
    show List.find? _ _ = Option.none
    rw [List.find?_eq_none]
    intro i hi q
    exact hn i hi ((pos_at ..).mpr q)
  · rw [e, find_pre ((pos_at ..).mp ha) fun i hi q => hn i hi ((pos_at ..).mpr q), ← h0, List.head?_eq_getElem?, Array.getElem?_toList]
    rw [e]
theorem occ_toI (x y : List Nat) (lo hi : Nat) : (match Builtin.Str.occurrences (mkS x) (mkS y) lo hi 1 with | i :: _ => (i : Int) | [] => -1) = toI (fnd x y lo hi) := by
  rw [← occ_fnd]
  cases Builtin.Str.occurrences (mkS x) (mkS y) lo hi 1 <;> rfl
theorem occ_in (x y : List Nat) : (!(Builtin.Str.occurrences (mkS x) (mkS y) 0 (mkS x).length 1).isEmpty) = (fnd x y 0 x.length).isSome := by
  rw [← occ_fnd, mkS_len]
  cases Builtin.Str.occurrences (mkS x) (mkS y) 0 x.length 1 <;> rfl
theorem last_run (x y : List Nat) (hi : Nat) : ∀ (l : List Nat) (st : Option Nat), (forIn l st (StrLaws.lastBody (mkS x) (mkS y) hi)).run = (l.reverse.find? (pos x y hi)).or st
  | [], st => rfl
  | a :: l, st => by
    rw [List.forIn_cons, List.reverse_cons, List.find?_append]
    unfold StrLaws.lastBody
    have e := pos_at x y hi a
    unfold StrLaws.At at e
    by_cases hc : pos x y hi a = true
    · rw [if_pos (e.mpr hc)]
      refine (last_run x y hi l (some a)).trans ?_
      simp [hc, List.find?_cons]
    · rw [if_neg fun q => hc (e.mp q)]
      refine (last_run x y hi l st).trans ?_
      simp [hc, List.find?_cons]
theorem last_rfnd (x y : List Nat) (lo hi : Nat) : Builtin.Str.lastOccurrence (mkS x) (mkS y) lo hi = rfnd x y lo hi := by
  rw [StrLaws.last_eq, last_run]
  unfold rfnd
  cases List.find? (pos x y hi) (List.range' lo (hi + 1 - lo)).reverse <;> rfl

section
variable {D : WD} {n : Nat} {f : Fm} {ns : Nms} {m : Loc} {P : List Ck} {Q : AVal → Loc → List Ck → Prop}

theorem V.bool {h : Heap} {b : Bool} : V h (.bool b) (.bool b) := rfl
/-- an answer that needs no heap -/
theorem ok0 {g : Heap} {s0 s : Shared} {c : AVal} {v : Value} {tk : Nat} (S : St D g f ns m P s) (hv : V s.heap c v) (h : Q c m P) : Post D g f ns V s Q v { s with toks := tk } := ⟨c, m, P, TK.refl _, hv, S.toks, h⟩
theorem ok1 {g : Heap} {s : Shared} {c : AVal} {v : Value} (S : St D g f ns m P s) (hv : V s.heap c v) (h : Q c m P) : Post D g f ns V s Q v s := ⟨c, m, P, TK.refl _, hv, S, h⟩

theorem Wp.i2 {k : Value → Value → Sem Value} {a b : Int} {c : AVal} (h : ∀ A s t u (Q' : Value → Shared → Prop), (∀ v tk, V s.heap c v → Q' v { s with toks := tk }) → wpAny (model D.prog D.w) A (k (.int a t) (.int b u)) Q' NoE s) (q : Q c m P) :
    Wp D n f ns V [.int a, .int b] (Op2 k) m P Q := fun A g s vs r p S hv => by
  obtain ⟨v, w, rfl, h1, h2⟩ := Vs.two hv
  simp only [V] at h1 h2
  obtain ⟨t, rfl⟩ := h1
  obtain ⟨u, rfl⟩ := h2
  exact h A s t u _ fun v tk hv => ok0 (s0 := s) S hv q
theorem Wp.s2 {k : Value → Value → Sem Value} {a b : List Nat} {c : AVal} (h : ∀ A s t u (Q' : Value → Shared → Prop), (∀ v tk, V s.heap c v → Q' v { s with toks := tk }) → wpAny (model D.prog D.w) A (k (.str (mkS a) t) (.str (mkS b) u)) Q' NoE s) (q : Q c m P) :
    Wp D n f ns V [.str a, .str b] (Op2 k) m P Q := fun A g s vs r p S hv => by
  obtain ⟨v, w, rfl, h1, h2⟩ := Vs.two hv
  simp only [V] at h1 h2
  obtain ⟨t, rfl⟩ := h1
  obtain ⟨u, rfl⟩ := h2
  exact h A s t u _ fun v tk hv => ok0 (s0 := s) S hv q

/-! whole numbers -/
section
variable {a b : Int}
theorem o_addI (q : Q (.int (a + b)) m P) : Wp D n f ns V [.int a, .int b] (Op2 (binaryOp .Add)) m P Q := .i2 (fun A s t u Q' k => PySem.P.add_int (k _ _ V.int)) q
theorem o_iaddI (q : Q (.int (a + b)) m P) : Wp D n f ns V [.int a, .int b] (Op2 (inplaceOp .Add)) m P Q := .i2 (fun A s t u Q' k => PySem.P.iadd_int (k _ _ V.int)) q
theorem o_subI (q : Q (.int (a - b)) m P) : Wp D n f ns V [.int a, .int b] (Op2 (binaryOp .Sub)) m P Q := .i2 (fun A s t u Q' k => PySem.P.sub_int (k _ _ V.int)) q
theorem o_isubI (q : Q (.int (a - b)) m P) : Wp D n f ns V [.int a, .int b] (Op2 (inplaceOp .Sub)) m P Q := .i2 (fun A s t u Q' k => PySem.P.isub_int (k _ _ V.int)) q
theorem o_fdivI (hb : b ≠ 0) (hz : Builtin.divisionGoesByPylong a b = false) (q : Q (.int (a.fdiv b)) m P) : Wp D n f ns V [.int a, .int b] (Op2 (binaryOp .FloorDiv)) m P Q :=
  .i2 (fun A s t u Q' k => AutoIntOps.floordiv_1 (by simpa using hb) (by simp [hz]) (k _ _ V.int)) q
theorem o_modI (hb : b ≠ 0) (q : Q (.int (a.fmod b)) m P) : Wp D n f ns V [.int a, .int b] (Op2 (binaryOp .Mod)) m P Q :=
  .i2 (fun A s t u Q' k => AutoIntOps.mod_1 (by simpa using hb) (k _ _ V.int)) q
theorem o_ltI (q : Q (.bool (decide (a < b))) m P) : Wp D n f ns V [.int a, .int b] (Op2 (compareOp .Lt)) m P Q := .i2 (fun A s t u Q' k => PySem.P.lt_int (k _ _ V.bool)) q
theorem o_leI (q : Q (.bool (decide (a ≤ b))) m P) : Wp D n f ns V [.int a, .int b] (Op2 (compareOp .LtE)) m P Q := .i2 (fun A s t u Q' k => PySem.P.le_int (k _ _ V.bool)) q
theorem o_gtI (q : Q (.bool (decide (a > b))) m P) : Wp D n f ns V [.int a, .int b] (Op2 (compareOp .Gt)) m P Q := .i2 (fun A s t u Q' k => PySem.P.gt_int (k _ _ V.bool)) q
theorem o_geI (q : Q (.bool (decide (a ≥ b))) m P) : Wp D n f ns V [.int a, .int b] (Op2 (compareOp .GtE)) m P Q := .i2 (fun A s t u Q' k => PySem.P.ge_int (k _ _ V.bool)) q
theorem o_eqI (q : Q (.bool (a == b)) m P) : Wp D n f ns V [.int a, .int b] (Op2 (compareOp .Eq)) m P Q := .i2 (fun A s t u Q' k => PySem.P.eq_int (k _ _ V.bool)) q
theorem o_neI (q : Q (.bool (a != b)) m P) : Wp D n f ns V [.int a, .int b] (Op2 (compareOp .NotEq)) m P Q := .i2 (fun A s t u Q' k => PySem.P.ne_int (k _ _ V.bool)) q
theorem o_negI (q : Q (.int (-a)) m P) : Wp D n f ns V [.int a] (Op1 (unaryOp .USub)) m P Q := fun A g s vs r p S hv => by
  obtain ⟨v, rfl, h1⟩ := Vs.one hv
  simp only [V] at h1
  obtain ⟨t, rfl⟩ := h1
  exact PySem.P.neg_int (ok0 (s0 := s) S V.int q)
end

/-! strings -/
section
variable {a b : List Nat}
theorem o_addS (hz : a.length + b.length ≤ 1000000) (q : Q (.str (a ++ b)) m P) : Wp D n f ns V [.str a, .str b] (Op2 (binaryOp .Add)) m P Q :=
  .s2 (fun A s t u Q' k => SB.add (fun t' tk => k _ tk (by rw [mkS_append]; exact V.str)) (by rw [mkS_len, mkS_len]; exact Nat.le_trans hz (by decide))) q
theorem o_iaddS (hz : a.length + b.length ≤ 1000000) (q : Q (.str (a ++ b)) m P) : Wp D n f ns V [.str a, .str b] (Op2 (inplaceOp .Add)) m P Q :=
  .s2 (fun A s t u Q' k => SB.iadd (fun t' tk => k _ tk (by rw [mkS_append]; exact V.str)) (by rw [mkS_len, mkS_len]; exact Nat.le_trans hz (by decide))) q
theorem o_eqS (q : Q (.bool (a == b)) m P) : Wp D n f ns V [.str a, .str b] (Op2 (compareOp .Eq)) m P Q := .s2 (fun A s t u Q' k => PySem.P.eq_str (k _ _ V.bool)) q
theorem o_neS (q : Q (.bool (a != b)) m P) : Wp D n f ns V [.str a, .str b] (Op2 (compareOp .NotEq)) m P Q := .s2 (fun A s t u Q' k => PySem.P.ne_str (k _ _ V.bool)) q
theorem o_ltS (q : Q (.bool (decide (a < b))) m P) : Wp D n f ns V [.str a, .str b] (Op2 (compareOp .Lt)) m P Q := .s2 (fun A s t u Q' k => PySem.P.lt_str (k _ _ V.bool)) q
theorem o_gtS (q : Q (.bool (decide (b < a))) m P) : Wp D n f ns V [.str a, .str b] (Op2 (compareOp .Gt)) m P Q := .s2 (fun A s t u Q' k => PySem.P.gt_str (k _ _ V.bool)) q
theorem o_inS (q : Q (.bool (fnd b a 0 b.length).isSome) m P) : Wp D n f ns V [.str a, .str b] (Op2 (compareOp .In)) m P Q := .s2 (fun A s t u Q' k => PySem.P.in_str (by rw [occ_in]; exact k _ _ V.bool)) q
theorem o_notInS (q : Q (.bool (!(fnd b a 0 b.length).isSome)) m P) : Wp D n f ns V [.str a, .str b] (Op2 (compareOp .NotIn)) m P Q := .s2 (fun A s t u Q' k => PySem.P.notIn_str (by rw [occ_in]; exact k _ _ V.bool)) q
theorem o_itemS {i : Int} {c : Nat} (hc : (seqIndex? i a.length).bind (a[·]?) = some c) (hr : (decide (i < -(2 ^ 63 : Int)) || decide (i ≥ 2 ^ 63)) = false) (q : Q (.str [c]) m P) : Wp D n f ns V [.str a, .int i] (Op2 getItem) m P Q := fun A g s vs r p S hv => by
  obtain ⟨v, w, rfl, h1, h2⟩ := Vs.two hv
  simp only [V] at h1 h2
  obtain ⟨t, rfl⟩ := h1
  obtain ⟨u, rfl⟩ := h2
  exact PySem.P.getItem_str hr (by rw [mkS_len]; simpa [mkS] using hc) (ok0 (s0 := s) (c := .str [c]) S ⟨_, rfl⟩ q)
end

/-! truth -/
def truthA : AVal → Option Bool
  | .none => some false
  | .bool b => some b
  | .int i => some (i != 0)
  | .str l => if l.length ≤ 1000000 then some (!l.isEmpty) else Option.none
  | _ => Option.none
theorem Tr.ev {e : Expr} {Q : Bool → Loc → List Ck → Prop} (h : Ev D n f ns e m P fun a m1 P1 => Wp D n f ns Eqv [a] (Op1 truthy) m1 P1 Q)
    (he : isTrue e f.env (eval e f.env) = (do let v ← eval e f.env; standAt e.pos; holding [v] (truthy v)) := by rfl) : Tr D n f ns e m P Q := fun A g s vs r p S _ => by
  show wpAny _ _ (isTrue e f.env (eval e f.env)) _ _ _
  rw [he]
  refine wpAny_bind (h.run r p S .nil fun a m1 P1 v s1 T1 hv1 S1 q => wpAny_bind (wpAny_standAt (wpAny_holding ?_)))
  exact q.run r p S1 (Vs1 hv1) fun c m3 P3 x s3 T3 hx S3 q => ⟨c, m3, P3, T1.trans T3, hx, S3, q⟩
theorem t_flat {a : AVal} {b : Bool} {Q : Bool → Loc → List Ck → Prop} (ha : truthA a = some b) (q : Q b m P) : Wp D n f ns Eqv [a] (Op1 truthy) m P Q := fun A g s vs r p S hv => by
  obtain ⟨v, rfl, h1⟩ := Vs.one hv
  cases a with
  | none => simp only [V] at h1; subst h1; cases ha; exact wpAny_pure (a := false) ⟨_, m, P, TK.refl _, rfl, S, q⟩
  | bool => simp only [V] at h1; subst h1; cases ha; exact wpAny_truthy_bool ⟨_, m, P, TK.refl _, rfl, S, q⟩
  | int => simp only [V] at h1; obtain ⟨t, rfl⟩ := h1; cases ha; exact PySem.P.truthy_int ⟨_, m, P, TK.refl _, rfl, S, q⟩
  | str l =>
    simp only [V] at h1; obtain ⟨t, rfl⟩ := h1
    simp only [truthA] at ha
    split at ha
    · rename_i hz
      cases ha
      refine PySem.P.truthy_str (by rw [mkS_len]; omega) ⟨!l.isEmpty, m, P, TK.refl _, ?_, S.toks, q⟩
      show (((mkS l).length : Int) != 0) = (!l.isEmpty)
      rw [mkS_len]
      cases l with
      | nil => rfl
      | cons a r => simp; omega
    · cases ha
  | _ => cases ha
end
end Mine

-- WN
namespace Mine
open PySem PySem.W PySem.Calls PyProof.Rows

/-- what is cut out by a slice -/
def slc {α : Type} (xs : List α) (lo hi st : Option Int) : List α :=
  ((sliceRange (sliceBounds lo hi st xs.length).1 (sliceBounds lo hi st xs.length).2.1 (sliceBounds lo hi st xs.length).2.2).filterMap (xs[·]?))
theorem sliceIdx_eq (lo hi st : Option Int) (k : Nat) : Builtin.Str.strSliceIndices lo hi (st.getD 1) k = sliceRange (sliceBounds lo hi st k).1 (sliceBounds lo hi st k).2.1 (sliceBounds lo hi st k).2.2 := by
  unfold Builtin.Str.strSliceIndices sliceBounds
  cases lo <;> cases hi <;> rfl
theorem slicePick_slc (vs : List Value) (lo hi st : Option Int) : slicePick (List.toArray vs) lo hi st = List.toArray (slc vs lo hi st) := by
  unfold slicePick slc
  simp
theorem Vs.places {h : Heap} {xs : List AVal} {vs : List Value} (e : Vs h xs vs) : ∀ (is : List Nat), Vs h (is.filterMap (xs[·]?)) (is.filterMap (vs[·]?))
  | [] => .nil
  | i :: r => by
    rw [List.filterMap_cons, List.filterMap_cons]
    cases hx : xs[i]? with
    | none =>
      have : vs[i]? = Option.none := by have := e.length; simp at hx ⊢; omega
      rw [this]; exact e.places r
    | some x =>
      obtain ⟨v, hv, z⟩ := e.get hx
      rw [hv]; exact .cons z (e.places r)
theorem Vs.slc {h : Heap} {xs : List AVal} {vs : List Value} (e : Vs h xs vs) (lo hi st : Option Int) : Vs h (slc xs lo hi st) (slc vs lo hi st) := by
  unfold Mine.slc
  rw [e.length]
  exact e.places _

theorem slc_map {α β : Type} (g : α → β) (xs : List α) (lo hi st : Option Int) : slc (xs.map g) lo hi st = (slc xs lo hi st).map g := by
  unfold slc
  rw [List.length_map, List.map_filterMap]
  simp
theorem slc_length_le {α : Type} (xs : List α) (lo hi st : Option Int) : (slc xs lo hi st).length ≤ xs.length := by
  have h := slicePick_size_le (List.toArray (xs.map fun _ => Value.none)) lo hi st
  rw [slicePick_slc, slc_map] at h
  simpa using h
theorem slc_whole {α : Type} (xs : List α) (lo hi st : Option Int) (h1 : st.getD 1 = 1) (h2 : (sliceRange (sliceBounds lo hi st xs.length).1 (sliceBounds lo hi st xs.length).2.1 (sliceBounds lo hi st xs.length).2.2).length = xs.length) : slc xs lo hi st = xs := by
  unfold slc
  have hb : (sliceBounds lo hi st xs.length).2.2 = 1 := h1
  have ha0 : 0 ≤ (sliceBounds lo hi st xs.length).1 := by
    simp only [sliceBounds, h1]
    cases lo <;> simp <;> omega
  have hbn : (sliceBounds lo hi st xs.length).2.1 ≤ xs.length := by
    simp only [sliceBounds, h1]
    cases hi <;> simp <;> omega
  rw [hb] at h2 ⊢
  generalize (sliceBounds lo hi st xs.length).1 = a at *
  generalize (sliceBounds lo hi st xs.length).2.1 = b at *
  unfold sliceRange at h2 ⊢
  simp only [List.length_map, List.length_range] at h2
  have e1 : ((1 : Int) > 0) := by omega
  simp only [e1, if_true] at h2 ⊢
  have key : (if a < b then (b - a + 1 - 1) / 1 else 0 : Int).toNat = xs.length → (xs = [] ∨ a = 0) := by
    split
    · intro q
      have : (b - a).toNat = xs.length := by simpa using q
      by_cases hx : xs = []
      · exact .inl hx
      · have : 0 < xs.length := List.length_pos_iff.mpr hx
        right; omega
    · intro q
      left
      exact List.length_eq_zero_iff.mp (by simpa using q.symm)
  rw [h2]
  rcases key h2 with rfl | rfl
  · simp
  · have : ((List.range xs.length).map fun (k : Nat) => ((0 : Int) + 1 * (k : Int)).toNat) = List.range' 0 xs.length := by
      rw [List.range_eq_range']
      apply List.ext_getElem <;> simp
    rw [this, ← List.range_eq_range']
    have := StrLaws.picks xs xs.length 0 (by omega)
    simpa using this

section
variable {D : WD} {n : Nat} {f : Fm} {ns : Nms} {m : Loc} {P : List Ck} {Q : AVal → Loc → List Ck → Prop}

/-- what can be looked into -/
inductive Sb : AVal → List Ck → Prop
  | str {x P} : Sb (.str x) P
  | tup {xs P} : Sb (.tup xs) P
  | lst {a xs P} : lst a xs ∈ P → Sb (.ref a) P
  | own {a : Addr} {c : Ck} {P} {T id : String} : c ∈ P → (∀ h, c.holds h → ∃ o, h.get? a = some o ∧ o.cls = .type T) → typeLookup (.type T) "__getitem__" = pure (some (.builtin id)) → Sb (.ref a) P
theorem Sb.type {a : AVal} {P : List Ck} {g : Heap} {s : Shared} {v : Value} (x : Sb a P) (S : St D g f ns m P s) (hv : V s.heap a v) : ∃ T id, s.TypeIs v T ∧ typeLookup (.type T) "__getitem__" = pure (some (.builtin id)) := by
  cases x with
  | str => simp only [V] at hv; obtain ⟨t, rfl⟩ := hv; exact ⟨_, _, typeIs_str _ _ _, F.slot_str_getitem.lookup⟩
  | tup => simp only [V] at hv; obtain ⟨t, ws, rfl, ht, _⟩ := hv; exact ⟨_, _, IsTup.typeIs ht, slot_tuple_getitem.lookup⟩
  | lst h => simp only [V] at hv; subst hv; obtain ⟨ws, hl, _⟩ := S.holds _ h; exact ⟨_, _, hl.isList.typeIs, list_getitem_lookup⟩
  | own h k l => simp only [V] at hv; subst hv; obtain ⟨o, ho, hc⟩ := k _ (S.holds _ h); exact ⟨_, _, ⟨o, ho, hc⟩, l⟩

theorem subTail {A : Around} {s : Shared} {E : Value → Shared → Prop} {value slice : Expr} {o i : Value} {T id : String} {ops : List Value} {Q : Value → Shared → Prop} (hT : s.TypeIs o T)
    (hl : typeLookup (.type T) "__getitem__" = pure (some (.builtin id))) (h : wpAny (model D.prog D.w) A (getItem o i) Q E s) (hs : subscripted slice false o i = operate ops (getItem o i)) : wpAny (model D.prog D.w) A (subscriptTail value slice o i) Q E s := by
  unfold subscriptTail
  refine wpAny_bind ?_
  rw [getitemInPython_of_ne hT.not_modules]
  refine wpAny_bind (wpAny_specialOf hT hl ?_)
  have fin : wpAny (model D.prog D.w) A (subscripted slice false o i) (fun r s₃ => wpAny (model D.prog D.w) A (letTemporaryGo value o r >>= fun _ => pure r) Q E s₃) E s := by
    rw [hs]
    exact wpAny_operating (wpAny_mono h (fun r s₃ h₃ => wpAny_bind (wpAny_letTemporaryGo (wpAny_pure h₃))) fun _ _ x => x)
  first
    | exact wpAny_pure (wpAny_bind fin)
    | exact wpAny_bind (wpAny_pure (wpAny_bind fin))
    | exact wpAny_bind fin

theorem Ev.item {value slice : Expr} {pos : Pos} (h : Ev D n f ns value m P fun a m1 P1 => Ev D n f ns slice m1 P1 fun i m2 P2 => Sb a P2 ∧ Wp D n f ns V [a, i] (Op2 getItem) m2 P2 Q)
    (hs : ∀ o i, subscripted slice false o i = operate [o, i] (getItem o i) := by intro _ _; rfl) : Ev D n f ns (.Subscript value slice pos) m P Q := fun A g s vs r p S _ =>
  Subscript_ (h.run r p S .nil fun a m1 P1 v s1 T1 hv S1 h1 => h1.run r p S1 .nil fun i m2 P2 w s2 T2 hw S2 h2 => by
    have hv2 := hv.mono T2
    obtain ⟨T, id, hT, hl⟩ := h2.1.type S2 hv2
    exact subTail hT hl (h2.2.run r p S2 (Vs2 hv2 hw) fun c m3 P3 x s3 T3 hx S3 q => ⟨c, m3, P3, (T1.trans T2).trans T3, hx, S3, q⟩) (hs _ _))

abbrev Eo (D : WD) (n : Nat) (f : Fm) (ns : Nms) (e : Option Expr) (m : Loc) (P : List Ck) (Q : AVal → Loc → List Ck → Prop) : Prop := Wp D n f ns V [] (fun _ => evalPart e f.env) m P Q
theorem Eo.none (h : Q .none m P) : Eo D n f ns Option.none m P Q := fun A g s vs r p S _ => wpAny_pure (a := Value.none) ⟨.none, m, P, TK.refl _, rfl, S, h⟩
theorem Eo.some {e : Expr} (h : Ev D n f ns e m P Q) : Eo D n f ns (some e) m P Q := h

inductive Pt : AVal → Option Int → Prop
  | none : Pt .none Option.none
  | int {i} : Pt (.int i) (some i)
theorem Pt.part {h : Heap} {a : AVal} {o : Option Int} {v : Value} (x : Pt a o) (hv : V h a v) : IsPart v o := by
  cases x with
  | none => simp only [V] at hv; subst hv; exact .none
  | int => simp only [V] at hv; obtain ⟨t, rfl⟩ := hv; exact .int _ _
theorem IsPart.ex {v : Value} {o : Option Int} (x : IsPart v o) : ∃ q : Option (Int × Tok), v = partValue q ∧ q.map (·.1) = o := by
  cases x with
  | none => exact ⟨Option.none, rfl, rfl⟩
  | int i t => exact ⟨some (i, t), rfl, rfl⟩

theorem subscripted_slice {lo hi st : Option Expr} {p : Pos} {o i : Value} : ∃ ops, subscripted (.Slice lo hi st p) false o i = operate ops (getItem o i) := by
  cases st with
  | none => exact ⟨_, rfl⟩
  | some _ => exact ⟨_, rfl⟩

inductive SlOf : AVal → List Ck → Option Int → Option Int → Option Int → (AVal → List Ck → Prop) → Prop
  | str {x P lo hi st k} : x.length ≤ 1000000 → k (.str (slc x lo hi st)) P → SlOf (.str x) P lo hi st k
  | lst {a xs P lo hi st k} : lst a xs ∈ P → xs.length ≤ 1000000 → (∀ b, k (.ref b) (lst b (slc xs lo hi st) :: P)) → SlOf (.ref a) P lo hi st k

theorem Ev.slice {value : Expr} {lo hi st : Option Expr} {sp pos : Pos}
    (h : Ev D n f ns value m P fun a m1 P1 => Eo D n f ns lo m1 P1 fun l m2 P2 => Eo D n f ns hi m2 P2 fun u m3 P3 => Eo D n f ns st m3 P3 fun k m4 P4 => ∃ l' u' k', Pt l l' ∧ Pt u u' ∧ Pt k k' ∧ k' ≠ some 0 ∧ SlOf a P4 l' u' k' fun c P5 => Q c m4 P5) :
    Ev D n f ns (.Subscript value (.Slice lo hi st sp) pos) m P Q := fun A g s vs r p S _ => by
  refine Subscript_ (h.run r p S .nil fun a m1 P1 v s1 T1 hv S1 h1 => wpAny_Slice (h1.run r p S1 .nil fun l m2 P2 vl s2 T2 hvl S2 h2 => h2.run r p S2 .nil fun u m3 P3 vu s3 T3 hvu S3 h3 => h3.run r p S3 .nil fun k m4 P4 vk s4 T4 hvk S4 q => ?_))
  obtain ⟨l', u', k', pl, pu, pk, h0, q⟩ := q
  have pl := pl.part (hvl.mono (T3.trans T4))
  have pu := pu.part (hvu.mono T4)
  have pk := pk.part hvk
  have hv := hv.mono ((T2.trans T3).trans T4)
  have hk : ∀ b o, s4.heap.get? b = some o → (s4.heap.push { cls := .type "slice", data := .fields #[vl, vu, vk] }).get? b = some o := fun b o e => Heap.get?_push_of_some _ e
  have S5 := S4.junk (tk := s4.toks) hk
  have T5 : TK s4.heap (s4.heap.push { cls := .type "slice", data := .fields #[vl, vu, vk] }) := .keeps hk
  have TT := (((T1.trans T2).trans T3).trans T4).trans T5
  obtain ⟨ops, ho⟩ := subscripted_slice (lo := lo) (hi := hi) (st := st) (p := sp) (o := v) (i := .ref s4.heap.objs.size)
  cases q with
  | @str x _ _ _ _ _ hz q =>
    simp only [V] at hv
    obtain ⟨t, rfl⟩ := hv
    refine subTail (typeIs_str _ _ _) F.slot_str_getitem.lookup ?_ ho
    obtain ⟨ql, rfl, e1⟩ := IsPart.ex pl
    obtain ⟨qu, rfl, e2⟩ := IsPart.ex pu
    obtain ⟨qk, rfl, e3⟩ := IsPart.ex pk
    subst e1 e2 e3
    have hn0 : ((qk.map (·.1)).getD 1 == 0) = false := by
      cases qk with
      | none => rfl
      | some y => simp at h0 ⊢; exact h0
    refine getItem_meets (typeIs_str _ _ _) (by decide) F.slot_str_getitem F.entry_str_getitem (F.args_str_getitem_2 _ _) (meets_str_getitem_slice (mkS x) t s4.heap.objs.size ql qu qk hn0) ⟨⟨_, Heap.get?_push_size _ rfl, rfl, rfl⟩, ?_⟩
    have e : slicePicked (mkS x) ql qu qk = sliceRange (sliceBounds (ql.map (·.1)) (qu.map (·.1)) (qk.map (·.1)) x.length).1 (sliceBounds (ql.map (·.1)) (qu.map (·.1)) (qk.map (·.1)) x.length).2.1 (sliceBounds (ql.map (·.1)) (qu.map (·.1)) (qk.map (·.1)) x.length).2.2 := by
      unfold slicePicked; rw [sliceIdx_eq, mkS_len]
    have e2 : (⟨((slicePicked (mkS x) ql qu qk).filterMap ((mkS x).cps[·]?)).toArray⟩ : Str) = mkS (slc x (ql.map (·.1)) (qu.map (·.1)) (qk.map (·.1))) := by
      rw [e]; unfold slc mkS; simp
    have fin : ∀ t' tk, Post D g f ns V s Q (.str (mkS (slc x (ql.map (·.1)) (qu.map (·.1)) (qk.map (·.1)))) t') { s4 with heap := (s4.heap.push { cls := .type "slice", data := .fields #[partValue ql, partValue qu, partValue qk] }), toks := tk } :=
      fun t' tk => ⟨_, m4, P4, TT, V.str, S4.junk hk, q⟩
    unfold sliceMade
    by_cases hc : ((qk.map (·.1)).getD 1 == 1 && (slicePicked (mkS x) ql qu qk).length == (mkS x).length) = true
    · rw [if_pos hc]
      rw [Bool.and_eq_true, beq_iff_eq, beq_iff_eq] at hc
      have hw : slc x (ql.map (·.1)) (qu.map (·.1)) (qk.map (·.1)) = x := slc_whole _ _ _ _ hc.1 (by rw [← e, hc.2, mkS_len])
      have := fin t s4.toks
      rw [hw] at this
      exact this
    · rw [if_neg hc, e2]
      exact ⟨by rw [mkS_len]; exact Nat.le_trans (slc_length_le ..) (Nat.le_trans hz (by decide)), fin _ _⟩
  | @lst a xs _ _ _ _ _ hm hz q =>
    simp only [V] at hv
    subst hv
    obtain ⟨ws, hl, hws⟩ := S5.holds _ hm
    refine subTail hl.isList.typeIs list_getitem_lookup ?_ ho
    refine wpAny_getItem_list_slice hl.isList (Heap.IsSliceOf.new ..) pl pu pk h0 ?_ (by rw [List.size_toArray, hws.length]; exact Nat.le_trans hz (by decide))
    have hk2 : ∀ b o, (s4.heap.push { cls := .type "slice", data := .fields #[vl, vu, vk] }).get? b = some o → ((s4.heap.push { cls := .type "slice", data := .fields #[vl, vu, vk] }).push { cls := .type "list", data := .seq (slicePick (List.toArray ws) l' u' k') }).get? b = some o := fun b o e => Heap.get?_push_of_some _ e
    have T6 := TK.keeps hk2
    refine ⟨.ref _, m4, _, TT.trans T6, rfl, S5.newc (tk := s4.toks) (c' := lst _ _) hk2 ⟨slc ws l' u' k', ⟨0, ?_⟩, ?_⟩ (fun x hx => fresh_size x hx) (by simp [lst]), q _⟩
    · rw [← slicePick_slc]
      exact Heap.get?_push_size _ rfl
    · exact (hws.slc l' u' k').mono T6
end
end Mine

-- WO
namespace Mine
open PySem PySem.W PySem.Calls PyProof.Rows PySem.SeqAt

/-! likeness -/
def beq0 : AVal → AVal → Bool
  | .int a, .int b => a == b
  | .str a, .str b => a == b
  | .bool a, .bool b => a == b
  | .none, .none => true
  | _, _ => false
def ok0A : AVal → AVal → Bool
  | .int _, .int _ => true
  | .str _, .str _ => true
  | .bool _, .bool _ => true
  | .none, .none => true
  | .none, .str _ => true
  | .str _, .none => true
  | .str _, .int _ => true
  | .int _, .str _ => true
  | _, _ => false
def all2 {α β : Type} (p : α → β → Bool) : List α → List β → Bool
  | x :: xs, y :: ys => p x y && all2 p xs ys
  | _, _ => true
def beqA : AVal → AVal → Bool
  | .tup xs, .tup ys => xs.length == ys.length && all2 beq0 xs ys
  | a, b => beq0 a b
def okA : AVal → AVal → Bool
  | .tup xs, .tup ys => all2 ok0A xs ys
  | a, b => ok0A a b
theorem all2_get {α β : Type} {p : α → β → Bool} : ∀ {xs : List α} {ys : List β}, all2 p xs ys = true → ∀ (j : Nat) (x : α) (y : β), xs[j]? = some x → ys[j]? = some y → p x y = true
  | [], _, _, j, _, _, hx, _ => by simp at hx
  | _ :: _, [], _, j, _, _, _, hy => by simp at hy
  | a :: xs, b :: ys, h, j, x, y, hx, hy => by
    simp only [all2, Bool.and_eq_true] at h
    cases j with
    | zero => simp at hx hy; subst hx hy; exact h.1
    | succ j => exact all2_get h.2 j x y (by simpa using hx) (by simpa using hy)
theorem all2_range {α β : Type} (p : α → β → Bool) : ∀ (xs : List α) (ys : List β) (e : Nat → Bool), (∀ (j : Nat) (x : α) (y : β), xs[j]? = some x → ys[j]? = some y → e j = p x y) → (List.range (min xs.length ys.length)).all e = all2 p xs ys
  | [], _, e, _ => by simp [all2]
  | _ :: _, [], e, _ => by simp [all2]
  | a :: xs, b :: ys, e, h => by
    have ih := all2_range p xs ys (fun j => e (j + 1)) fun j x y hx hy => h (j + 1) x y (by simpa using hx) (by simpa using hy)
    have e0 := h 0 a b rfl rfl
    simp only [List.length_cons, all2]
    rw [← ih, ← e0, Nat.succ_min_succ, List.range_succ_eq_map, List.all_cons, List.all_map]
    rfl
theorem all2_true {α : Type} {p : α → α → Bool} (hp : ∀ a, p a a = true) : ∀ xs : List α, all2 p xs xs = true
  | [] => rfl
  | a :: xs => by simp [all2, hp a, all2_true hp xs]

theorem eq0_at {A : Around} {s : Shared} {h : Heap} {a b : AVal} {v w : Value} (ok : ok0A a b = true) (hv : V h a v) (hw : V h b w) : EqAt A s v w (beq0 a b) := by
  cases a <;> cases b <;> first | (cases ok; done) | skip
  · simp only [V] at hv hw; subst hv hw; exact EqAt.same _
  · simp only [V] at hv hw; obtain ⟨_, rfl⟩ := hw; subst hv; exact EqAt.none_str _ _
  · simp only [V] at hv hw; subst hv hw; exact EqAt.bool_bool _ _
  · simp only [V] at hv hw; obtain ⟨_, rfl⟩ := hw; obtain ⟨_, rfl⟩ := hv; exact EqAt.int_int _ _ _ _
  · simp only [V] at hv hw; obtain ⟨_, rfl⟩ := hw; obtain ⟨_, rfl⟩ := hv; exact EqAt.int_str _ _ _ _
  · simp only [V] at hv hw; obtain ⟨_, rfl⟩ := hv; subst hw; exact EqAt.str_none _ _
  · simp only [V] at hv hw; obtain ⟨_, rfl⟩ := hw; obtain ⟨_, rfl⟩ := hv; exact EqAt.str_int _ _ _ _
  · simp only [V] at hv hw; obtain ⟨_, rfl⟩ := hw; obtain ⟨_, rfl⟩ := hv; exact (SeqRoads2.EqGives.str _ _ _ _).at A s
theorem beq0_same {h : Heap} {a b : AVal} {v : Value} (ok : ok0A a b = true) (hv : V h a v) (hw : V h b v) : beq0 a b = true := by
  cases a <;> cases b <;> first | (cases ok; done) | skip
  · rfl
  · simp only [V] at hv hw; obtain ⟨_, q⟩ := hw; subst hv; cases q
  · simp only [V] at hv hw; subst hv; injection hw with e; simp [beq0, e]
  · simp only [V] at hv hw; obtain ⟨_, rfl⟩ := hw; obtain ⟨_, q⟩ := hv; injection q with e _; simp [beq0, e]
  · simp only [V] at hv hw; obtain ⟨_, rfl⟩ := hw; obtain ⟨_, q⟩ := hv; cases q
  · simp only [V] at hv hw; obtain ⟨_, rfl⟩ := hv; cases hw
  · simp only [V] at hv hw; obtain ⟨_, rfl⟩ := hw; obtain ⟨_, q⟩ := hv; cases q
  · simp only [V] at hv hw; obtain ⟨_, rfl⟩ := hw; obtain ⟨_, q⟩ := hv; injection q with e _; simp [beq0, mkS_inj e]

theorem Vs.at {h : Heap} {xs : List AVal} {vs : List Value} (e : Vs h xs vs) {j : Nat} (hj : j < vs.length) : ∃ x, xs[j]? = some x ∧ V h x vs[j] := by
  have hl := e.length
  have : j < xs.length := by omega
  obtain ⟨v, hv, z⟩ := e.get (i := j) (a := xs[j]) (by simp [this])
  refine ⟨xs[j], by simp [this], ?_⟩
  rw [List.getElem?_eq_getElem hj] at hv
  cases hv; exact z

theorem all2_beq_same {h : Heap} : ∀ {xs ys : List AVal} {vs : List Value}, Vs h xs vs → Vs h ys vs → all2 ok0A xs ys = true → all2 beq0 xs ys = true
  | [], _, _, _, _, _ => rfl
  | _ :: _, [], _, _, _, _ => rfl
  | a :: xs, b :: ys, vs, hx, hy, h => by
    simp only [Vs] at hx hy
    obtain ⟨v, r, rfl, x, y⟩ := hx
    obtain ⟨v', r', q, x', y'⟩ := hy
    injection q with q1 q2
    subst q1 q2
    simp only [all2, Bool.and_eq_true] at h ⊢
    exact ⟨beq0_same h.1 x x', all2_beq_same y y' h.2⟩

theorem eqA_at {A : Around} {s : Shared} {a b : AVal} {v w : Value} (hu : A.units + 1 < cLine) (ok : okA a b = true) (hv : V s.heap a v) (hw : V s.heap b w) : EqAt A s v w (beqA a b) := by
  by_cases ht : ∃ xs ys, a = .tup xs ∧ b = .tup ys
  · obtain ⟨xs, ys, rfl, rfl⟩ := ht
    simp only [okA] at ok
    simp only [V] at hv hw
    obtain ⟨l, vs, rfl, hl, hvs⟩ := hv
    obtain ⟨k, ws, rfl, hk, hws⟩ := hw
    by_cases e : l = k
    · subst e
      have : vs = ws := by
        obtain ⟨o, h1, _, n1, h2⟩ := hl
        obtain ⟨o', h3, _, n3, h4⟩ := hk
        rw [h1] at h3; cases h3
        rw [h2] at h4; injection h4 with h5; simpa using h5
      subst this
      have : beqA (.tup xs) (.tup ys) = true := by
        have h1 := hvs.length
        have h2 := hws.length
        simp only [beqA, Bool.and_eq_true, beq_iff_eq]
        exact ⟨by omega, all2_beq_same hvs hws ok⟩
      rw [this]
      exact EqAt.same _
    · refine EqAt.of_refs e ?_
      have hlen1 := hvs.length
      have hlen2 := hws.length
      have h := RcAt.tuples (A := A) (s := s) (e := fun j => match xs[j]?, ys[j]? with | some x, some y => beq0 x y | _, _ => true) hl hk (by omega) fun j h1 h2 => by
        obtain ⟨x, hx, zx⟩ := hvs.at (j := j) (by simpa using h1)
        obtain ⟨y, hy, zy⟩ := hws.at (j := j) (by simpa using h2)
        simp only [hx, hy]
        have := all2_get ok j x y hx hy
        simpa using eq0_at this zx zy
      have e2 : beqA (.tup xs) (.tup ys) = ((List.range (min (List.toArray vs).size (List.toArray ws).size)).all (fun j => match xs[j]?, ys[j]? with | some x, some y => beq0 x y | _, _ => true) && (List.toArray vs).size == (List.toArray ws).size) := by
        rw [List.size_toArray, List.size_toArray, hlen1, hlen2, all2_range beq0 xs ys _ fun j x y hx hy => by simp only [hx, hy]]
        simp only [beqA]
        rw [Bool.and_comm]
      rw [e2]
      exact h
  · have e1 : okA a b = ok0A a b := by cases a <;> cases b <;> first | rfl | exact absurd ⟨_, _, rfl, rfl⟩ ht
    have e2 : beqA a b = beq0 a b := by cases a <;> cases b <;> first | rfl | exact absurd ⟨_, _, rfl, rfl⟩ ht
    rw [e2]
    exact eq0_at (e1 ▸ ok) hv hw

def beqL (xs ys : List AVal) : Bool := xs.length == ys.length && all2 beqA xs ys
theorem Room.u1 {D : WD} {n : Nat} {A : Around} (r : Room D n A) : A.units + 3 < cLine := by have := r.units; show A.units + 3 < 9900; omega

section
variable {D : WD} {n : Nat} {f : Fm} {ns : Nms} {m : Loc} {P : List Ck} {Q : AVal → Loc → List Ck → Prop}

theorem eqL_fn {A : Around} {s : Shared} {xs ys : List AVal} {vs ws : List Value} (hu : A.units + 1 < cLine) (ok : all2 okA xs ys = true) (hvs : Vs s.heap xs vs) (hws : Vs s.heap ys ws) (j : Nat) (h1 : j < (List.toArray vs).size) (h2 : j < (List.toArray ws).size) :
    EqAt A s (List.toArray vs)[j] (List.toArray ws)[j] (match xs[j]?, ys[j]? with | some x, some y => beqA x y | _, _ => true) := by
  obtain ⟨x, hx, zx⟩ := hvs.at (j := j) (by simpa using h1)
  obtain ⟨y, hy, zy⟩ := hws.at (j := j) (by simpa using h2)
  simp only [hx, hy]
  have := all2_get ok j x y hx hy
  simpa using eqA_at hu this zx zy

theorem o_eqL {a b : Addr} {xs ys : List AVal} (ha : lst a xs ∈ P) (hb : lst b ys ∈ P) (ok : xs.length = ys.length → all2 okA xs ys = true) (q : Q (.bool (beqL xs ys)) m P) : Wp D n f ns V [.ref a, .ref b] (Op2 (compareOp .Eq)) m P Q := fun A g s vs r p S hv => by
  obtain ⟨v, w, rfl, h1, h2⟩ := Vs.two hv
  simp only [V] at h1 h2
  subst h1 h2
  obtain ⟨vs, hl, hvs⟩ := S.holds _ ha
  obtain ⟨ws, hk, hws⟩ := S.holds _ hb
  have l1 := hvs.length
  have l2 := hws.length
  have hu := r.u1
  by_cases e : xs.length = ys.length
  · refine eq_listAt (e := fun j => match xs[j]?, ys[j]? with | some x, some y => beqA x y | _, _ => true) hl.isList hk.isList (by simp; omega) (by omega) (fun j h1 h2 => eqL_fn (A := A.in1) (by show A.units + 1 + 1 < cLine; omega) (ok e) hvs hws j h1 h2) ?_
    refine ok1 S ?_ q
    have : beqL xs ys = (List.range (List.toArray vs).size).all (fun j => match xs[j]?, ys[j]? with | some x, some y => beqA x y | _, _ => true) := by
      have h := all2_range beqA xs ys (fun j => match xs[j]?, ys[j]? with | some x, some y => beqA x y | _, _ => true) fun j x y hx hy => by simp only [hx, hy]
      rw [← e, Nat.min_self] at h
      rw [List.size_toArray, l1, h]
      simp [beqL, e]
    rw [this]; exact V.bool
  · refine eq_list_lengthsAt hl.isList hk.isList (by simp; omega) (by omega) ?_
    refine ok1 S ?_ q
    have : beqL xs ys = false := by simp [beqL, e]
    rw [this]; exact V.bool
theorem o_neL {a b : Addr} {xs ys : List AVal} (ha : lst a xs ∈ P) (hb : lst b ys ∈ P) (ok : xs.length = ys.length → all2 okA xs ys = true) (q : Q (.bool (!beqL xs ys)) m P) : Wp D n f ns V [.ref a, .ref b] (Op2 (compareOp .NotEq)) m P Q := fun A g s vs r p S hv => by
  obtain ⟨v, w, rfl, h1, h2⟩ := Vs.two hv
  simp only [V] at h1 h2
  subst h1 h2
  obtain ⟨vs, hl, hvs⟩ := S.holds _ ha
  obtain ⟨ws, hk, hws⟩ := S.holds _ hb
  have l1 := hvs.length
  have l2 := hws.length
  have hu := r.u1
  by_cases e : xs.length = ys.length
  · refine RcNeAt.lists (e := fun j => match xs[j]?, ys[j]? with | some x, some y => beqA x y | _, _ => true) hl.isList hk.isList (by simp; omega) (by omega) (fun j h1 h2 => eqL_fn (A := A.in1) (by show A.units + 1 + 1 < cLine; omega) (ok e) hvs hws j h1 h2) _ _ _ _ ?_
    refine ok1 S ?_ q
    have : beqL xs ys = (List.range (List.toArray vs).size).all (fun j => match xs[j]?, ys[j]? with | some x, some y => beqA x y | _, _ => true) := by
      have h := all2_range beqA xs ys (fun j => match xs[j]?, ys[j]? with | some x, some y => beqA x y | _, _ => true) fun j x y hx hy => by simp only [hx, hy]
      rw [← e, Nat.min_self] at h
      rw [List.size_toArray, l1, h]
      simp [beqL, e]
    rw [this]; exact V.bool
  · refine RcNeAt.lists_lengths hl.isList hk.isList (by simp; omega) (by omega) _ _ _ _ ?_
    refine ok1 S ?_ q
    have : beqL xs ys = false := by simp [beqL, e]
    rw [this]; exact V.bool

end
end Mine

-- WP
namespace Mine
open PySem PySem.W PySem.Calls PyProof.Rows PySem.SeqAt

/-! parts, joins -/
def splF (x y : List Nat) : Nat → Nat → List (List Nat)
  | 0, lo => [x.drop lo]
  | k + 1, lo => match fnd x y lo x.length with
    | Option.none => [x.drop lo]
    | some c => (x.drop lo).take (c - lo) :: splF x y k (c + y.length)
def spl (x y : List Nat) : List (List Nat) := splF x y (x.length + 1) 0
def jn (sep : List Nat) : List (List Nat) → List Nat
  | [] => []
  | [a] => a
  | a :: b :: r => a ++ sep ++ jn sep (b :: r)

theorem fnd_some {x y : List Nat} {lo hi c : Nat} (h : pos x y hi c = true) (hlo : lo ≤ c) (hn : ∀ k, lo ≤ k → k < c → ¬ pos x y hi k = true) : fnd x y lo hi = some c := by
  unfold fnd
  have hc : c ≤ hi := by unfold pos at h; simp at h; omega
  have e : List.range' lo (hi + 1 - lo) = List.range' lo (c - lo) ++ c :: List.range' (c + 1) (hi - c) := by
    have e1 : hi + 1 - lo = (c - lo) + (1 + (hi - c)) := by omega
    rw [e1, ← List.range'_append_1, ← List.range'_append_1]
    have e2 : lo + (c - lo) = c := by omega
    rw [e2]; rfl
  rw [e]
  refine find_pre h fun i hi => ?_
  have := List.mem_range'_1.mp hi
  exact hn i (by omega) (by omega)
theorem fnd_none {x y : List Nat} {lo hi : Nat} (hn : ∀ k, lo ≤ k → ¬ pos x y hi k = true) : fnd x y lo hi = Option.none := by
  unfold fnd
  rw [List.find?_eq_none]
  intro i hi
  exact hn i (List.mem_range'_1.mp hi).1
theorem mkS_sub (x : List Nat) (a b : Nat) : Builtin.Str.strSub (mkS x) a b = mkS ((x.drop a).take (b - a)) := by
  have := StrLaws.strSub_toList (mkS x) a b
  rw [mkS_list] at this
  rw [← this, mkS_cps]
theorem splF_chain (x y : List Nat) : ∀ (cuts : List Nat) (k lo f : Nat), StrLaws.ChainG (mkS x) (mkS y) x.length lo cuts f → (∀ k, f ≤ k → ¬ StrLaws.At (mkS x) (mkS y) x.length k) → cuts.length ≤ k →
    StrLaws.partsFrom (mkS x) y.length lo cuts = (splF x y k lo).map mkS
  | [], k, lo, f, h, hn, _ => by
    have h : f = lo := h
    subst h
    have e : fnd x y f x.length = Option.none := fnd_none fun i hi q => hn i hi ((pos_at ..).mpr q)
    have e2 : splF x y k f = [x.drop f] := by
      cases k with
      | zero => rfl
      | succ k => simp only [splF, e]
    rw [e2]
    show [Builtin.Str.strSub (mkS x) f (mkS x).length] = [mkS (x.drop f)]
    rw [mkS_sub, mkS_len]
    congr 2
    rw [List.take_of_length_le (by simp)]
  | c :: r, k, lo, f, h, hn, hk => by
    obtain ⟨h1, h2, h3, h4⟩ := h
    cases k with
    | zero => simp at hk
    | succ k =>
      have e : fnd x y lo x.length = some c := fnd_some ((pos_at ..).mp h2) h1 fun i a b q => h3 i a b ((pos_at ..).mpr q)
      rw [mkS_len] at h4
      have ih := splF_chain x y r k (c + y.length) f h4 hn (by simpa using hk)
      simp only [splF, e]
      show Builtin.Str.strSub (mkS x) lo c :: StrLaws.partsFrom (mkS x) y.length (c + y.length) r = _
      rw [ih, mkS_sub]
      rfl
theorem split_spl (x y : List Nat) (hy : 1 ≤ y.length) (hk : y.all (· < 256) = true) : Txt.split (mkS x) (mkS y) = (spl x y).map mkS := by
  have hkind : ¬ Builtin.Str.strKind (mkS x) < Builtin.Str.strKind (mkS y) := by
    have : Builtin.Str.strKind (mkS y) = 1 := by unfold Builtin.Str.strKind; rw [if_pos (by simpa [mkS] using hk)]
    rw [this]
    unfold Builtin.Str.strKind
    split
    · omega
    · split <;> omega
  obtain ⟨f, h1, h2⟩ := StrLaws.occ_tight (mkS x) (mkS y) (by rw [mkS_len]; exact hy)
  have hlen := StrLaws.occ_length_le (mkS x) (mkS y) 0 (mkS x).length ((mkS x).length + 1)
  rw [mkS_len] at h1 h2 hlen
  have key := splF_chain x y _ (x.length + 1) 0 f h1 h2 hlen
  unfold Txt.split spl
  rw [mkS_len, mkS_len]
  split
  · rename_i q
    rw [Bool.or_eq_true, decide_eq_true_eq, decide_eq_true_eq] at q
    have q := q.resolve_right hkind
    have e : fnd x y 0 x.length = Option.none := fnd_none fun i hi q' => by unfold pos at q'; simp at q'; omega
    simp only [splF, e, List.drop_zero, List.map_cons, List.map_nil]
  · split
    · rename_i q
      rw [List.isEmpty_iff] at q
      rw [q] at key
      rw [← key]
      show [mkS x] = [Builtin.Str.strSub (mkS x) 0 (mkS x).length]
      rw [mkS_sub, mkS_len]
      simp
    · rw [StrLaws.partsBetween_eq]
      exact key
theorem join_jn (sep : List Nat) : ∀ (ls : List (List Nat)), Str.join (mkS sep) (ls.map mkS) = mkS (jn sep ls)
  | [] => rfl
  | [a] => rfl
  | a :: b :: r => by
    have ih := join_jn sep (b :: r)
    show mkS a ++ mkS sep ++ Str.join (mkS sep) ((b :: r).map mkS) = mkS (a ++ sep ++ jn sep (b :: r))
    rw [ih, mkS_append, mkS_append]

section
variable {D : WD} {n : Nat} {f : Fm} {ns : Nms} {m : Loc} {P : List Ck} {Q : AVal → Loc → List Ck → Prop}

/-! calls of what is built in -/
theorem Cal.b {id : String} {as : List AVal} (h : Wp D n f ns V as (fun vs => call (.builtin id) vs) m P Q) : Cal D n f ns (.blt id) as [] [] m P Q := fun A g s vs r p S hv => by
  rw [List.append_nil] at hv
  have := h A g s vs r p S hv
  show wpAny _ _ (call (.builtin id) (vs.take as.length) ([].zip (vs.drop as.length))) _ _ s
  rw [← hv.length, List.take_length, List.zip_nil_left]
  exact this
theorem Cal.t {id : String} {as : List AVal} (h : Wp D n f ns V as (fun vs => call (.type id) vs) m P Q) : Cal D n f ns (.typ id) as [] [] m P Q := fun A g s vs r p S hv => by
  rw [List.append_nil] at hv
  have := h A g s vs r p S hv
  show wpAny _ _ (call (.type id) (vs.take as.length) ([].zip (vs.drop as.length))) _ _ s
  rw [← hv.length, List.take_length, List.zip_nil_left]
  exact this

theorem Vs.three {h : Heap} {a b c : AVal} {vs : List Value} (e : Vs h [a, b, c] vs) : ∃ u v w, vs = [u, v, w] ∧ V h a u ∧ V h b v ∧ V h c w := by
  simp only [Vs] at e
  obtain ⟨v, r, rfl, x, w, r', rfl, y, w', r'', rfl, z, rfl⟩ := e
  exact ⟨v, w, w', rfl, x, y, z⟩
theorem Vs.four {h : Heap} {a b c d : AVal} {vs : List Value} (e : Vs h [a, b, c, d] vs) : ∃ u v w x, vs = [u, v, w, x] ∧ V h a u ∧ V h b v ∧ V h c w ∧ V h d x := by
  simp only [Vs] at e
  obtain ⟨v, r, rfl, x, w, r', rfl, y, w', r'', rfl, z, w'', r3, rfl, z', rfl⟩ := e
  exact ⟨v, w, w', w'', rfl, x, y, z, z'⟩

theorem Gm.s {x : List Nat} {name : Str} {id : String} {Q : AVal × List AVal → Loc → List Ck → Prop}
    (hg : ∀ {A : Around} {s : Shared} {t : Tok} {pl : Sem Bool} {Q : Value × List Value → Shared → Prop}, Q (.builtin id, [.str (mkS x) t]) s → wpAny (model D.prog D.w) A (getMethod (.str (mkS x) t) name pl) Q NoE s) (q : Q (.blt id, [.str x]) m P) :
    Gm D n f ns (.str x) name m P Q := fun pl A g s vs r p S hv => by
  obtain ⟨v, rfl, h1⟩ := Vs.one hv
  simp only [V] at h1
  obtain ⟨t, rfl⟩ := h1
  exact hg ⟨(.blt id, [.str x]), m, P, TK.refl _, ⟨rfl, Vs1 V.str⟩, S, q⟩
section
variable {x y : List Nat} {Q : AVal × List AVal → Loc → List Ck → Prop}
theorem g_find (q : Q (.blt "str.find", [.str x]) m P) : Gm D n f ns (.str x) "find" m P Q := .s GM.find q
theorem g_rfind (q : Q (.blt "str.rfind", [.str x]) m P) : Gm D n f ns (.str x) "rfind" m P Q := .s GM.rfind q
theorem g_split (q : Q (.blt "str.split", [.str x]) m P) : Gm D n f ns (.str x) "split" m P Q := .s GM.split q
theorem g_join (q : Q (.blt "str.join", [.str x]) m P) : Gm D n f ns (.str x) "join" m P Q := .s GM.join q
theorem g_startswith (q : Q (.blt "str.startswith", [.str x]) m P) : Gm D n f ns (.str x) "startswith" m P Q := .s GM.startswith q
theorem g_endswith (q : Q (.blt "str.endswith", [.str x]) m P) : Gm D n f ns (.str x) "endswith" m P Q := .s GM.endswith q
theorem g_lower (q : Q (.blt "str.lower", [.str x]) m P) : Gm D n f ns (.str x) "lower" m P Q := .s GM.lower q
theorem g_upper (q : Q (.blt "str.upper", [.str x]) m P) : Gm D n f ns (.str x) "upper" m P Q := .s GM.upper q
theorem g_count (q : Q (.blt "str.count", [.str x]) m P) : Gm D n f ns (.str x) "count" m P Q := .s GM.count q
theorem g_index (q : Q (.blt "str.index", [.str x]) m P) : Gm D n f ns (.str x) "index" m P Q := .s GM.index q
theorem g_replace (q : Q (.blt "str.replace", [.str x]) m P) : Gm D n f ns (.str x) "replace" m P Q := .s GM.replace q
end

theorem Wp.c2 {k : List Value → Sem Value} {x y : List Nat} {c : AVal} (h : ∀ A s t u (Q' : Value → Shared → Prop), (∀ v tk, V s.heap c v → Q' v { s with toks := tk }) → wpAny (model D.prog D.w) A (k [.str (mkS x) t, .str (mkS y) u]) Q' NoE s) (q : Q c m P) :
    Wp D n f ns V [.str x, .str y] k m P Q := fun A g s vs r p S hv => by
  obtain ⟨v, w, rfl, h1, h2⟩ := Vs.two hv
  simp only [V] at h1 h2
  obtain ⟨t, rfl⟩ := h1
  obtain ⟨u, rfl⟩ := h2
  exact h A s t u _ fun v tk hv => ok0 (s0 := s) S hv q
section
variable {x y : List Nat}
def startsL (x y : List Nat) : Bool := x.take y.length == y
def endsL (x y : List Nat) : Bool := decide (y.length ≤ x.length) && (x.drop (x.length - y.length) == y)
theorem c_find (q : Q (.int (toI (fnd x y 0 x.length))) m P) : Cal D n f ns (.blt "str.find") [.str x, .str y] [] [] m P Q := .b (.c2 (fun A s t u Q' k => SC.find (by
  have : Txt.find (mkS x) (mkS y) = toI (fnd x y 0 x.length) := by unfold Txt.find; rw [mkS_len]; exact occ_toI x y 0 x.length
  rw [this]; exact k _ _ V.int)) q)
theorem c_startswith (q : Q (.bool (startsL x y)) m P) : Cal D n f ns (.blt "str.startswith") [.str x, .str y] [] [] m P Q := .b (.c2 (fun A s t u Q' k => SC.startswith (by
  have : Txt.startswith (mkS x) (mkS y) = startsL x y := by
    unfold Txt.startswith startsL; rw [mkS_len, mkS_len, subAt_mk]
    by_cases h : y.length ≤ x.length
    · simp [h]
    · have : ¬ (x.take y.length = y) := fun q => h (by have := congrArg List.length q; simp at this; omega)
      simp [h, this]
  rw [this]; exact k _ s.toks V.bool)) q)
theorem c_endswith (q : Q (.bool (endsL x y)) m P) : Cal D n f ns (.blt "str.endswith") [.str x, .str y] [] [] m P Q := .b (.c2 (fun A s t u Q' k => SC.endswith (by
  have : Txt.endswith (mkS x) (mkS y) = endsL x y := by
    unfold Txt.endswith endsL; rw [mkS_len, mkS_len, subAt_mk]
    by_cases h : y.length ≤ x.length
    · have : (x.drop (x.length - y.length)).take y.length = x.drop (x.length - y.length) := List.take_of_length_le (by simp; omega)
      simp [h, this]
    · simp [h]
  rw [this]; exact k _ s.toks V.bool)) q)

theorem gives_find4 (x y : List Nat) (a b : Nat) (hb : b ≤ x.length) (t u v w : Tok) : Gives (Builtin.«str.find» ⟨[.str (mkS x) t, .str (mkS y) u, .int a v, .int b w], []⟩) (.int (toI (fnd x y a b))) := by
  have e1 : (max (0 : Int) (if (a : Int) < 0 then (a : Int) + ((mkS x).length : Nat) else a)).toNat = a := by omega
  have e2 : (max (0 : Int) (if (b : Int) < 0 then (b : Int) + ((mkS x).length : Nat) else b)).toNat = b := by omega
  have e3 : min b (mkS x).length = b := by rw [mkS_len]; omega
  show Gives (match Builtin.Str.occurrences (mkS x) (mkS y) (max (0 : Int) (if (a : Int) < 0 then (a : Int) + ((mkS x).length : Nat) else a)).toNat (min (max (0 : Int) (if (b : Int) < 0 then (b : Int) + ((mkS x).length : Nat) else b)).toNat (mkS x).length) 1 with | k :: _ => retInt k | [] => (do rule "str.find.not-found"; retInt (-1))) _
  rw [e1, e2, e3, ← occ_toI]
  cases Builtin.Str.occurrences (mkS x) (mkS y) a b 1 with
  | nil => exact .rule (.of_eq rfl)
  | cons k _ => exact .of_eq rfl
end
end
end Mine

-- WQ
namespace Mine
open PySem PySem.W PySem.Calls PyProof.Rows PySem.SeqAt

def dec (k : Nat) : List Nat := (Nat.toDigits 10 k).map Char.toNat
theorem dec_str (k : Nat) : Str.ofString (toString (k : Int)) = mkS (dec k) := text_ofNat k
def upL (x : List Nat) : List Nat := x.map up1
def loL (x : List Nat) : List Nat := x.map lo1
def asc (x : List Nat) : Bool := x.all (· < 128)
theorem upL_eq {x : List Nat} (h : asc x = true) : Txt.upper (mkS x) = mkS (upL x) := by
  rw [upper_ascii (fun c hc => by simpa using List.all_eq_true.mp h c hc)]
  simp [mkS, upL]
theorem loL_eq {x : List Nat} (h : asc x = true) : Txt.lower (mkS x) = mkS (loL x) := by
  rw [lower_ascii (fun c hc => by simpa using List.all_eq_true.mp h c hc)]
  simp [mkS, loL]

section
variable {D : WD} {n : Nat} {f : Fm} {ns : Nms} {m : Loc} {P : List Ck} {Q : AVal → Loc → List Ck → Prop}

theorem gives_rfind4 (x y : List Nat) (a b : Nat) (hb : b ≤ x.length) (t u v w : Tok) : Gives (Builtin.«str.rfind» ⟨[.str (mkS x) t, .str (mkS y) u, .int a v, .int b w], []⟩) (.int (toI (rfnd x y a b))) := by
  have e1 : (max (0 : Int) (if (a : Int) < 0 then (a : Int) + ((mkS x).length : Nat) else a)).toNat = a := by omega
  have e2 : (max (0 : Int) (if (b : Int) < 0 then (b : Int) + ((mkS x).length : Nat) else b)).toNat = b := by omega
  have e3 : min b (mkS x).length = b := by rw [mkS_len]; omega
  show Gives (match Builtin.Str.lastOccurrence (mkS x) (mkS y) (max (0 : Int) (if (a : Int) < 0 then (a : Int) + ((mkS x).length : Nat) else a)).toNat (min (max (0 : Int) (if (b : Int) < 0 then (b : Int) + ((mkS x).length : Nat) else b)).toNat (mkS x).length) with | some k => retInt k | Option.none => (do rule "str.rfind.not-found"; retInt (-1))) _
  rw [e1, e2, e3, last_rfnd]
  cases rfnd x y a b with
  | none => exact .rule (.of_eq rfl)
  | some k => exact .of_eq rfl

theorem Wp.c1 {k : List Value → Sem Value} {x : List Nat} {c : AVal} (h : ∀ A s t (Q' : Value → Shared → Prop), (∀ v tk, V s.heap c v → Q' v { s with toks := tk }) → wpAny (model D.prog D.w) A (k [.str (mkS x) t]) Q' NoE s) (q : Q c m P) :
    Wp D n f ns V [.str x] k m P Q := fun A g s vs r p S hv => by
  obtain ⟨v, rfl, h1⟩ := Vs.one hv
  simp only [V] at h1
  obtain ⟨t, rfl⟩ := h1
  exact h A s t _ fun v tk hv => ok0 (s0 := s) S hv q
theorem Wp.ci {k : List Value → Sem Value} {x : Int} {c : AVal} (h : ∀ A s t (Q' : Value → Shared → Prop), (∀ v tk, V s.heap c v → Q' v { s with toks := tk }) → wpAny (model D.prog D.w) A (k [.int x t]) Q' NoE s) (q : Q c m P) :
    Wp D n f ns V [.int x] k m P Q := fun A g s vs r p S hv => by
  obtain ⟨v, rfl, h1⟩ := Vs.one hv
  simp only [V] at h1
  obtain ⟨t, rfl⟩ := h1
  exact h A s t _ fun v tk hv => ok0 (s0 := s) S hv q

theorem c_find4 {x y : List Nat} {a b : Nat} (hb : b ≤ x.length) (q : Q (.int (toI (fnd x y a b))) m P) : Cal D n f ns (.blt "str.find") [.str x, .str y, .int a, .int b] [] [] m P Q := .b fun A g s vs r p S hv => by
  obtain ⟨v1, v2, v3, v4, rfl, h1, h2, h3, h4⟩ := Vs.four hv
  simp only [V] at h1 h2 h3 h4
  obtain ⟨_, rfl⟩ := h1
  obtain ⟨_, rfl⟩ := h2
  obtain ⟨_, rfl⟩ := h3
  obtain ⟨_, rfl⟩ := h4
  exact call_meets PySem.F.slot_str_find (typeIs_str _ _ _) PySem.F.entry_str_find (PySem.F.args_str_find_4 _ _ _ _) (gives_find4 x y a b hb _ _ _ _).meets (ok0 (s0 := s) S V.int q)
theorem c_rfind4 {x y : List Nat} {a b : Nat} (hb : b ≤ x.length) (q : Q (.int (toI (rfnd x y a b))) m P) : Cal D n f ns (.blt "str.rfind") [.str x, .str y, .int a, .int b] [] [] m P Q := .b fun A g s vs r p S hv => by
  obtain ⟨v1, v2, v3, v4, rfl, h1, h2, h3, h4⟩ := Vs.four hv
  simp only [V] at h1 h2 h3 h4
  obtain ⟨_, rfl⟩ := h1
  obtain ⟨_, rfl⟩ := h2
  obtain ⟨_, rfl⟩ := h3
  obtain ⟨_, rfl⟩ := h4
  exact call_meets PySem.F.slot_str_rfind (typeIs_str _ _ _) PySem.F.entry_str_rfind (PySem.F.args_str_rfind_4 _ _ _ _) (gives_rfind4 x y a b hb _ _ _ _).meets (ok0 (s0 := s) S V.int q)
theorem c_upper {x : List Nat} (ha : asc x = true) (hz : x.length ≤ 1000000) (q : Q (.str (upL x)) m P) : Cal D n f ns (.blt "str.upper") [.str x] [] [] m P Q := .b (.c1 (fun A s t Q' k => SC.upper (by rw [upL_eq ha, mkS_len]; simp [upL, Builtin.Str.tooLong, sizeLine]; omega) (by rw [upL_eq ha]; exact k _ _ V.str)) q)
theorem c_lower {x : List Nat} (ha : asc x = true) (hz : x.length ≤ 1000000) (q : Q (.str (loL x)) m P) : Cal D n f ns (.blt "str.lower") [.str x] [] [] m P Q := .b (.c1 (fun A s t Q' k => SC.lower (by rw [loL_eq ha, mkS_len]; simp [loL, Builtin.Str.tooLong, sizeLine]; omega) (by rw [loL_eq ha]; exact k _ _ V.str)) q)
theorem count_one (x : List Nat) (c : Nat) : Txt.count (mkS x) (mkS [c]) = (x.count c : Nat) := by
  have h := count_cnt (mkS x) c
  refine h.trans ?_
  rw [mkS_list]
  clear h
  induction x with
  | nil => simp [cnt_nil]
  | cons a r ih =>
    rw [cnt_cons, ih, List.count_cons]
    by_cases e : a = c
    · simp [e]; omega
    · simp [e]
theorem c_count {x : List Nat} {c : Nat} (q : Q (.int (x.count c : Nat)) m P) : Cal D n f ns (.blt "str.count") [.str x, .str [c]] [] [] m P Q := .b (.c2 (fun A s t u Q' k => SC.count (by rw [count_one]; exact k _ _ V.int)) q)
theorem dec_small {k : Nat} (h : k < 10 ^ 10) : (k : Int).natAbs.log2 < 1920 := by
  rw [Int.natAbs_natCast]
  have : k < 2 ^ 34 := Nat.lt_of_lt_of_le h (by decide)
  have := (Nat.log2_lt (n := k) (k := 34))
  by_cases hk : k = 0
  · subst hk; decide
  · have := (Nat.log2_lt hk (k := 34)).mpr (by omega)
    omega
theorem c_strI {k : Nat} (hk : k < 10 ^ 10) (q : Q (.str (dec k)) m P) : Cal D n f ns (.typ "str") [.int k] [] [] m P Q := .t (.ci (fun A s t Q' K => PySem.P.str_of_int (dec_small hk) (by show Q' (.str (Str.ofString (toString (k : Int))) _) _; rw [dec_str]; exact K _ _ V.str)) q)
theorem c_strS {x : List Nat} (q : Q (.str x) m P) : Cal D n f ns (.typ "str") [.str x] [] [] m P Q := .t (.c1 (fun A s t Q' K => PySem.P.str_of_str (K _ s.toks V.str)) q)
theorem c_intS {k : Nat} (hk : k < 10 ^ 10) (q : Q (.int k) m P) : Cal D n f ns (.typ "int") [.str (dec k)] [] [] m P Q := .t (.c1 (fun A s t Q' K => by
  rw [← dec_str]
  exact KIN.call_num (by omega) (by omega) (K _ _ V.int)) q)
theorem c_lenS {x : List Nat} (hz : x.length ≤ 1000000) (q : Q (.int x.length) m P) : Cal D n f ns (.blt "len") [.str x] [] [] m P Q := .b (.c1 (fun A s t Q' K => PySem.P.len_str (by rw [mkS_len]; omega) (by rw [mkS_len]; exact K _ _ V.int)) q)
theorem c_lenL {a : Addr} {xs : List AVal} (hm : lst a xs ∈ P) (hz : xs.length ≤ 1000000) (q : Q (.int xs.length) m P) : Cal D n f ns (.blt "len") [.ref a] [] [] m P Q := .b fun A g s vs r p S hv => by
  obtain ⟨v, rfl, h1⟩ := Vs.one hv
  simp only [V] at h1; subst h1
  obtain ⟨ws, hl, hws⟩ := S.holds _ hm
  have := hws.length
  exact call_len_list hl.isList (by simp; omega) (ok0 (s0 := s) (c := .int xs.length) S ⟨_, by rw [List.size_toArray, this]⟩ q)

theorem Vs.texts {h : Heap} : ∀ {l : List (Str × Tok)} {ys : List (List Nat)}, l.map (·.1) = ys.map mkS → Vs h (ys.map .str) (strValues l)
  | [], [], _ => .nil
  | [], _ :: _, e => by simp at e
  | _ :: _, [], e => by simp at e
  | (a, t) :: r, b :: ys, e => by
    simp only [List.map_cons, List.cons.injEq] at e
    obtain ⟨e1, e2⟩ := e
    subst e1
    exact .cons V.str (Vs.texts e2)
theorem splF_length (x y : List Nat) : ∀ k lo, (splF x y k lo).length ≤ k + 1
  | 0, _ => by simp [splF]
  | k + 1, lo => by
    simp only [splF]
    split
    · simp
    · simp; exact splF_length x y k _
/-- parts of a text -/
theorem c_split {x y : List Nat} (hy : 1 ≤ y.length) (hk : y.all (· < 256) = true) (hz : x.length ≤ 1000000) (q : ∀ a, Q (.ref a) m (lst a ((spl x y).map .str) :: P)) : Cal D n f ns (.blt "str.split") [.str x, .str y] [] [] m P Q := .b fun A g s vs r p S hv => by
  obtain ⟨v1, v2, rfl, h1, h2⟩ := Vs.two hv
  simp only [V] at h1 h2
  obtain ⟨t, rfl⟩ := h1
  obtain ⟨u, rfl⟩ := h2
  have fin : ∀ (l : List (Str × Tok)) tk, l.map (·.1) = Txt.split (mkS x) (mkS y) → Post D g f ns V s Q (.ref s.heap.objs.size) { s with toks := tk, heap := s.heap.push { cls := .type "list", data := .seq (strValues l).toArray } } := fun l tk hl => by
    have hk' : ∀ b o, s.heap.get? b = some o → (s.heap.push { cls := .type "list", data := .seq (strValues l).toArray }).get? b = some o := fun b o e => Heap.get?_push_of_some _ e
    refine ⟨.ref s.heap.objs.size, m, _, .keeps hk', rfl, S.newc (c' := lst _ ((spl x y).map .str)) hk' ⟨strValues l, ⟨0, Heap.get?_push_size _ rfl⟩, ?_⟩ (fun x hx => fresh_size x hx) (by simp [lst]), q _⟩
    rw [split_spl x y hy hk] at hl
    exact Vs.texts hl
  have h0 : ((mkS y).length == 0) = false := by rw [mkS_len]; simp; intro e; simp [e] at hy
  have hzx : (mkS x).length ≤ sizeLine := by rw [mkS_len]; exact Nat.le_trans hz (by decide)
  cases h1 : (decide ((mkS x).length < (mkS y).length) || decide (Builtin.Str.strKind (mkS x) < Builtin.Str.strKind (mkS y)))
  · cases hf : (Builtin.Str.occurrences (mkS x) (mkS y) 0 (mkS x).length ((mkS x).length + 1)).isEmpty
    · refine call_meets PySem.F.slot_str_split (typeIs_str _ _ _) PySem.F.entry_str_split (PySem.F.args_str_split_2 _ _) (meets_str_split_sep (mkS x) (mkS y) t u h1 h0 hf hzx (by
        have e : Builtin.Str.partsBetween (mkS x) (Builtin.Str.occurrences (mkS x) (mkS y) 0 (mkS x).length ((mkS x).length + 1)) (mkS y).length = (spl x y).map mkS := by
          rw [← split_spl x y hy hk]; exact ((if_neg (ne_true_of_eq_false h1)).trans (if_neg (ne_true_of_eq_false hf))).symm
        rw [e, List.length_map]
        have := splF_length x y (x.length + 1) 0
        exact Nat.le_trans this (by rw [sizeLine_eq]; omega))) ?_
      show wants _ _ _ { s with toks := _, heap := s.heap.push { cls := .type "list", data := .seq (strsFrom s.toks (Builtin.Str.partsBetween (mkS x) (Builtin.Str.occurrences (mkS x) (mkS y) 0 (mkS x).length ((mkS x).length + 1)) (mkS y).length)).toArray } }
      rw [strsFrom_eq]
      exact fin (numbered s.toks _) _ ((numbered_texts _ _).trans ((if_neg (ne_true_of_eq_false h1)).trans (if_neg (ne_true_of_eq_false hf))).symm)
    · exact call_meets PySem.F.slot_str_split (typeIs_str _ _ _) PySem.F.entry_str_split (PySem.F.args_str_split_2 _ _) (meets_str_split_not_found (mkS x) (mkS y) t u h1 h0 hf)
        (fin [(mkS x, t)] _ ((if_neg (ne_true_of_eq_false h1)).trans (if_pos hf)).symm)
  · exact call_meets PySem.F.slot_str_split (typeIs_str _ _ _) PySem.F.entry_str_split (PySem.F.args_str_split_2 _ _) (meets_str_split_cannot_occur (mkS x) (mkS y) t u h1)
      (fin [(mkS x, t)] _ (if_pos h1).symm)
end
end Mine

-- WR
namespace Mine
open PySem PySem.W PySem.Calls PyProof.Rows PySem.SeqAt

section
variable {D : WD} {n : Nat} {f : Fm} {ns : Nms} {m : Loc} {P : List Ck} {Q : AVal → Loc → List Ck → Prop}

/-! lists -/
theorem Gm.l {a : Addr} {xs : List AVal} {name : Str} {id : String} {Q : AVal × List AVal → Loc → List Ck → Prop} (hm : lst a xs ∈ P) (slot : Slot "list" name id) (hty : typeOf (.builtin id) = pure (.type "method_descriptor")) (q : Q (.blt id, [.ref a]) m P) :
    Gm D n f ns (.ref a) name m P Q := fun pl A g s vs r p S hv => by
  obtain ⟨v, rfl, h1⟩ := Vs.one hv
  simp only [V] at h1; subst h1
  obtain ⟨ws, hl, hws⟩ := S.holds _ hm
  exact getMethod_list_of slot hty hl.isList (let ⟨_, e⟩ := hl; ⟨_, e, rfl⟩) ⟨(.blt id, [.ref a]), m, P, TK.refl _, ⟨rfl, Vs1 (a := .ref a) rfl⟩, S, q⟩
section
variable {a : Addr} {xs : List AVal} {Q : AVal × List AVal → Loc → List Ck → Prop}
theorem g_append (hm : lst a xs ∈ P) (q : Q (.blt "list.append", [.ref a]) m P) : Gm D n f ns (.ref a) "append" m P Q := .l hm PySem.F.slot_list_append PySem.F.type_list_append q
theorem g_pop (hm : lst a xs ∈ P) (q : Q (.blt "list.pop", [.ref a]) m P) : Gm D n f ns (.ref a) "pop" m P Q := .l hm PySem.F.slot_list_pop PySem.F.type_list_pop q
theorem g_insert (hm : lst a xs ∈ P) (q : Q (.blt "list.insert", [.ref a]) m P) : Gm D n f ns (.ref a) "insert" m P Q := .l hm PySem.F.slot_list_insert PySem.F.type_list_insert q
theorem g_extend (hm : lst a xs ∈ P) (q : Q (.blt "list.extend", [.ref a]) m P) : Gm D n f ns (.ref a) "extend" m P Q := .l hm PySem.F.slot_list_extend PySem.F.type_list_extend q
theorem g_indexL (hm : lst a xs ∈ P) (q : Q (.blt "list.index", [.ref a]) m P) : Gm D n f ns (.ref a) "index" m P Q := .l hm PySem.F.slot_list_index PySem.F.type_list_index q
end

theorem St.listUpd {g : Heap} {s : Shared} {a : Addr} {xs ys : List AVal} {P' : List Ck} {tk : Nat} {vs ws : List Value} {k : Nat} {fn : Array Value → Array Value} (S : St D g f ns m P s) (w : Sw P (lst a xs) (lst a ys) P') (hl : IsL s.heap a (List.toArray vs) k) (he : fn (List.toArray vs) = List.toArray ws) (hv : Vs s.heap ys ws) :
    St D g f ns m P' { s with heap := s.heap.update a (Obj.mapSeq fn), toks := tk } ∧ TK s.heap (s.heap.update a (Obj.mapSeq fn)) :=
  S.listSet w (Heap.SameBut.update ..) ⟨_, he ▸ hl.update fn⟩ hv

theorem fits_nat {k : Nat} (h : k ≤ 1000000) : Builtin.List.listFitsIndex k = true := by
  unfold Builtin.List.listFitsIndex
  rw [Bool.and_eq_true, decide_eq_true_eq, decide_eq_true_eq]
  constructor <;> omega
def insL {α : Type} (xs : List α) (k : Nat) (x : α) : List α := xs.take k ++ x :: xs.drop k
theorem Vs.take {h : Heap} {xs : List AVal} {vs : List Value} (e : Vs h xs vs) (k : Nat) : Vs h (xs.take k) (vs.take k) := by
  induction k generalizing xs vs with
  | zero => simpa using Vs.nil
  | succ k ih =>
    cases xs with
    | nil => simp only [Vs] at e; subst e; exact .nil
    | cons x xs =>
      simp only [Vs] at e
      obtain ⟨v, r, rfl, a, b⟩ := e
      exact .cons a (ih b)
theorem Vs.drop {h : Heap} {xs : List AVal} {vs : List Value} (e : Vs h xs vs) (k : Nat) : Vs h (xs.drop k) (vs.drop k) := by
  induction k generalizing xs vs with
  | zero => simpa using e
  | succ k ih =>
    cases xs with
    | nil => simp only [Vs] at e; subst e; exact .nil
    | cons x xs =>
      simp only [Vs] at e
      obtain ⟨v, r, rfl, a, b⟩ := e
      exact ih b
theorem Vs.erase {h : Heap} {xs : List AVal} {vs : List Value} (e : Vs h xs vs) (k : Nat) : Vs h (xs.eraseIdx k) (vs.eraseIdx k) := by
  induction k generalizing xs vs with
  | zero =>
    cases xs with
    | nil => simp only [Vs] at e; subst e; exact .nil
    | cons x xs =>
      simp only [Vs] at e
      obtain ⟨v, r, rfl, a, b⟩ := e
      exact b
  | succ k ih =>
    cases xs with
    | nil => simp only [Vs] at e; subst e; exact .nil
    | cons x xs =>
      simp only [Vs] at e
      obtain ⟨v, r, rfl, a, b⟩ := e
      exact .cons a (ih b)
theorem erase_arr (vs : List Value) (k : Nat) : (List.toArray vs).eraseIdxIfInBounds k = List.toArray (vs.eraseIdx k) := by
  by_cases h : k < vs.length
  · simp [Array.eraseIdxIfInBounds, h]
  · simp [Array.eraseIdxIfInBounds, h, List.eraseIdx_of_length_le (Nat.le_of_not_lt h)]

theorem o_itemT {xs : List AVal} {k : Int} {j : Nat} {x : AVal} (hj : seqIndex? k xs.length = some j) (hx : xs[j]? = some x) (hlo : -(2 ^ 63) ≤ k) (hhi : k < 2 ^ 63) (q : Q x m P) : Wp D n f ns V [.tup xs, .int k] (Op2 getItem) m P Q := fun A g s vs r p S hv => by
  obtain ⟨v, w, rfl, h1, h2⟩ := Vs.two hv
  simp only [V] at h1 h2
  obtain ⟨t, ws, rfl, ht, hws⟩ := h1
  obtain ⟨u, rfl⟩ := h2
  obtain ⟨y, hy, z⟩ := hws.get hx
  exact PyProof.Rows.getItem_tuple (j := j) ht hlo hhi (by rw [List.size_toArray, hws.length]; exact hj) (by simpa using hy) (ok1 S z q)
theorem o_itemL {a : Addr} {xs : List AVal} {k : Int} {j : Nat} {x : AVal} (hm : lst a xs ∈ P) (hj : seqIndex? k xs.length = some j) (hx : xs[j]? = some x) (hlo : -(2 ^ 63) ≤ k) (hhi : k < 2 ^ 63) (q : Q x m P) : Wp D n f ns V [.ref a, .int k] (Op2 getItem) m P Q := fun A g s vs r p S hv => by
  obtain ⟨v, w, rfl, h1, h2⟩ := Vs.two hv
  simp only [V] at h1 h2
  subst h1
  obtain ⟨u, rfl⟩ := h2
  obtain ⟨ws, hl, hws⟩ := S.holds _ hm
  obtain ⟨y, hy, z⟩ := hws.get hx
  have hlen := hws.length
  unfold seqIndex? at hj
  by_cases h0 : k < 0
  · have e0 : ¬ (0 ≤ k) := by omega
    simp only [h0, if_true] at hj
    split at hj
    · rename_i hc
      have hc : 0 ≤ k + (xs.length : Int) ∧ k + (xs.length : Int) < (xs.length : Int) := by simpa using hc
      refine wpAny_getItem_list_neg (x := y) hl.isList h0 (by simp; omega) hlo ?_ (ok1 S z q)
      cases hj
      rw [List.size_toArray, hlen]
      simpa using hy
    · cases hj
  · simp only [h0, if_false] at hj
    split at hj
    · cases hj
      exact wpAny_getItem_list (x := y) hl.isList (by omega) hhi (by simpa using hy) (ok1 S z q)
    · cases hj

theorem c_popAt {a : Addr} {xs : List AVal} {k : Int} {j : Nat} {x : AVal} {P' : List Ck} (hj : seqIndex? k xs.length = some j) (hx : xs[j]? = some x) (w : Sw P (lst a xs) (lst a (xs.eraseIdx j)) P') (hf : Builtin.List.listFitsIndex k = true) (hz : xs.length ≤ 1000000) (q : Q x m P') :
    Cal D n f ns (.blt "list.pop") [.ref a, .int k] [] [] m P Q := .b fun A g s vs r p S hv => by
  obtain ⟨v, v', rfl, h1, h2⟩ := Vs.two hv
  simp only [V] at h1 h2
  subst h1
  obtain ⟨u, rfl⟩ := h2
  obtain ⟨ws, ⟨c, hl⟩, hws⟩ := S.holds _ w.mem
  obtain ⟨y, hy, z⟩ := hws.get hx
  have hlen := hws.length
  obtain ⟨S', T⟩ := S.listUpd (tk := s.toks) (fn := fun xs => xs.eraseIdxIfInBounds j) w hl (erase_arr ws j) (hws.erase j)
  exact call_meets PySem.F.slot_list_pop ⟨_, hl, rfl⟩ PySem.F.entry_list_pop (PySem.F.args_list_pop_2 _ _) (MeetsSeq.list_pop_at a (List.toArray ws) c k u j y hf (by rw [List.size_toArray, hlen]; exact hj) (by simpa using hy) (by rw [List.size_toArray, hlen]; exact Nat.le_trans hz (by decide)))
    ⟨hl, x, m, P', T, z.mono T, S', q⟩
theorem c_insert_ {a : Addr} {xs : List AVal} {k : Nat} {i : Int} (hi : i = (k : Int)) {x : AVal} {P' : List Ck} (hk : k ≤ xs.length) (w : Sw P (lst a xs) (lst a (insL xs k x)) P') (hz : xs.length ≤ 1000000) (q : Q .none m P') :
    Cal D n f ns (.blt "list.insert") [.ref a, .int i, x] [] [] m P Q := .b fun A g s vs r p S hv => by
  obtain ⟨v, v', y, rfl, h1, h2, h3⟩ := Vs.three hv
  simp only [V] at h1 h2
  subst h1
  obtain ⟨u, rfl⟩ := h2
  obtain ⟨ws, ⟨c, hl⟩, hws⟩ := S.holds _ w.mem
  have hlen := hws.length
  have e : ((fun xs : Array Value => have k := if i < 0 then (i + (xs.size : Int)).toNat else min i.toNat xs.size; (xs.extract 0 k).push y ++ xs.extract k) (List.toArray ws)) = List.toArray (insL ws k y) := by
    have h0 : ¬ (i < 0) := by omega
    have h1 : min i.toNat ws.length = k := by omega
    simp only [h0, if_false, List.size_toArray, h1, insL]
    apply Array.toList_inj.mp
    simp
    rw [List.take_of_length_le (by simp)]
  obtain ⟨S', T⟩ := S.listUpd (tk := s.toks) (ws := insL ws k y) (fn := fun xs : Array Value => have k := if i < 0 then (i + (xs.size : Int)).toNat else min i.toNat xs.size; (xs.extract 0 k).push y ++ xs.extract k) w hl e ((hws.take k).append (.cons h3 (hws.drop k)))
  have hfit : Builtin.List.listFitsIndex i = true := by rw [hi]; exact fits_nat (k := k) (by omega)
  have hfit2 : ¬(!Builtin.List.listFitsIndex i) = true := by rw [hfit]; exact Bool.false_ne_true
  have hsz : (List.toArray ws).size ≤ sizeLine := by rw [List.size_toArray, hlen, sizeLine_eq]; omega
  exact call_meets PySem.F.slot_list_insert ⟨_, hl, rfl⟩ PySem.F.entry_list_insert (PySem.F.args_list_insert_3 _ _ _) (AutoSeq1.list_insert_list_int_val_1 a (List.toArray ws) c i u y hfit2 hsz) ⟨hl, .none, m, P', T, rfl, S', q⟩
theorem c_insert {a : Addr} {xs : List AVal} {k : Nat} {x : AVal} {P' : List Ck} (hk : k ≤ xs.length) (w : Sw P (lst a xs) (lst a (insL xs k x)) P') (hz : xs.length ≤ 1000000) (q : Q .none m P') :
    Cal D n f ns (.blt "list.insert") [.ref a, .int k, x] [] [] m P Q := c_insert_ rfl hk w hz q
theorem c_extend {a b : Addr} {xs ys : List AVal} {P' : List Ck} (hb : lst b ys ∈ P) (w : Sw P (lst a xs) (lst a (xs ++ ys)) P') (hz : xs.length + ys.length ≤ 1000000) (q : Q .none m P') :
    Cal D n f ns (.blt "list.extend") [.ref a, .ref b] [] [] m P Q := .b fun A g s vs r p S hv => by
  obtain ⟨v, v', rfl, h1, h2⟩ := Vs.two hv
  simp only [V] at h1 h2
  subst h1 h2
  obtain ⟨ws, ⟨c, hl⟩, hws⟩ := S.holds _ w.mem
  obtain ⟨us, ⟨c2, hl2⟩, hus⟩ := S.holds _ hb
  have hlen := hws.length
  have hlen2 := hus.length
  obtain ⟨S', T⟩ := S.listUpd (tk := s.toks) (ws := ws ++ us) (fn := fun xs => xs ++ List.toArray us) w hl (by simp) (hws.append hus)
  have hs : (List.toArray ws).size + (List.toArray us).size ≤ sizeLine := by rw [List.size_toArray, List.size_toArray, hlen, hlen2, sizeLine_eq]; omega
  exact call_meets PySem.F.slot_list_extend ⟨_, hl, rfl⟩ PySem.F.entry_list_extend (PySem.F.args_list_extend_2 _ _) (AutoSeq1.list_extend_list_list_0 a (List.toArray ws) c b (List.toArray us) c2 (extend_door hs) (Nat.le_trans (Nat.le_add_right _ _) hs) (Nat.le_succ_of_le hs))
    ⟨hl, hl2, .none, m, P', T, rfl, S', q⟩
theorem c_appendL {a : Addr} {xs : List AVal} {b : AVal} {P' : List Ck} (w : Sw P (lst a xs) (lst a (xs ++ [b])) P') (hz : xs.length ≤ 1000000) (h : Q .none m P') : Cal D n f ns (.blt "list.append") [.ref a, b] [] [] m P Q := .b (c_append w hz h)

theorem Ex.delItem {o i : Expr} {sp pos : Pos} {Q : AFlow → Loc → List Ck → Prop}
    (h : Ev D n f ns o m P fun a m1 P1 => Ev D n f ns i m1 P1 fun k m2 P2 => ∃ x xs k' j P3, a = .ref x ∧ k = .int k' ∧ seqIndex? k' xs.length = some j ∧ Sw P2 (lst x xs) (lst x (xs.eraseIdx j)) P3 ∧ Builtin.List.listFitsIndex k' = true ∧ xs.length ≤ 1000000 ∧ Q .next m2 P3) :
    Ex D n f ns (.Delete [.Subscript o i sp] pos) m P Q := fun A g s vs r p S _ => by
  refine wpAny_Delete (wpAny_deleteEach_cons (wpAny_delete_Subscript (h.run r p S .nil fun a m1 P1 v s1 T1 hv S1 h1 => h1.run r p S1 .nil fun k m2 P2 w s2 T2 hw S2 q => ?_)))
  obtain ⟨x, xs, k', j, P3, rfl, rfl, hj, sw, hf, hz, q⟩ := q
  simp only [V] at hv hw
  subst hv
  obtain ⟨u, rfl⟩ := hw
  obtain ⟨ws, ⟨c, hl⟩, hws⟩ := S2.holds _ sw.mem
  have hlen := hws.length
  obtain ⟨S', T⟩ := S2.listUpd (tk := s2.toks) (fn := fun xs => xs.eraseIdxIfInBounds j) sw hl (erase_arr ws j) (hws.erase j)
  exact PySem.P.delItem_list hl hf (by rw [List.size_toArray, hlen]; exact hj) (wpAny_deleteEach_nil ⟨.next, m2, P3, (T1.trans T2).trans T, rfl, S', q⟩) (by rw [List.size_toArray, hlen]; exact Nat.le_trans hz (by decide))

theorem strsAre {h : Heap} : ∀ {ys : List (List Nat)} {vs : List Value}, Vs h (ys.map .str) vs → StrsAre vs (ys.map mkS)
  | [], _, e => by simp only [List.map_nil, Vs] at e; subst e; exact .nil
  | y :: ys, _, e => by
    simp only [List.map_cons, Vs] at e
    obtain ⟨v, r, rfl, a, b⟩ := e
    simp only [V] at a
    obtain ⟨t, rfl⟩ := a
    exact .cons _ _ (strsAre b)
theorem any_mkS (k : List Nat) : ∀ ys : List (List Nat), (ys.map mkS).any (· == mkS k) = ys.any (· == k)
  | [] => rfl
  | y :: ys => by
    rw [List.map_cons, List.any_cons, List.any_cons, any_mkS k ys]
    congr 1
    rw [Bool.eq_iff_iff, beq_iff_eq, beq_iff_eq]
    exact ⟨mkS_inj, fun e => by rw [e]⟩
theorem o_inL {a : Addr} {ys : List (List Nat)} {k : List Nat} (hm : lst a (ys.map .str) ∈ P) (q : Q (.bool (ys.any (· == k))) m P) : Wp D n f ns V [.str k, .ref a] (Op2 (compareOp .In)) m P Q := fun A g s vs r p S hv => by
  obtain ⟨v, w, rfl, h1, h2⟩ := Vs.two hv
  simp only [V] at h1 h2
  subst h2
  obtain ⟨u, rfl⟩ := h1
  obtain ⟨ws, hl, hws⟩ := S.holds _ hm
  exact in_list_strs hl.isList (strsAre hws) (by rw [any_mkS]; exact ok1 S V.bool q)
theorem o_notInL {a : Addr} {ys : List (List Nat)} {k : List Nat} (hm : lst a (ys.map .str) ∈ P) (q : Q (.bool (!ys.any (· == k))) m P) : Wp D n f ns V [.str k, .ref a] (Op2 (compareOp .NotIn)) m P Q := fun A g s vs r p S hv => by
  obtain ⟨v, w, rfl, h1, h2⟩ := Vs.two hv
  simp only [V] at h1 h2
  subst h2
  obtain ⟨u, rfl⟩ := h1
  obtain ⟨ws, hl, hws⟩ := S.holds _ hm
  exact notin_list_strs hl.isList (strsAre hws) (by rw [any_mkS]; exact ok1 S V.bool q)
theorem t_list {a : Addr} {xs : List AVal} {Q : Bool → Loc → List Ck → Prop} (hm : lst a xs ∈ P) (hz : xs.length ≤ 1000000) (q : Q (!xs.isEmpty) m P) : Wp D n f ns Eqv [.ref a] (Op1 truthy) m P Q := fun A g s vs r p S hv => by
  obtain ⟨v, rfl, h1⟩ := Vs.one hv
  simp only [V] at h1; subst h1
  obtain ⟨ws, hl, hws⟩ := S.holds _ hm
  have hlen := hws.length
  refine wpAny_truthy_list hl.isList (by simp; omega) ⟨!xs.isEmpty, m, P, TK.refl _, ?_, S.toks, q⟩
  show (!(List.toArray ws).isEmpty) = !xs.isEmpty
  cases ws <;> cases xs <;> simp_all

/-- is, of what is one thing alone -/
def isA : AVal → AVal → Option Bool
  | .bool a, .bool b => some (a == b)
  | .none, .none => some true
  | .none, .bool _ => some false
  | .bool _, .none => some false
  | .ref _, .none => some false
  | .tup _, .none => some false
  | .str _, .none => some false
  | .int _, .none => some false
  | .none, .str _ => some false
  | .none, .int _ => some false
  | .typ a, .typ b => some (a == b)
  | _, _ => Option.none
theorem isA_eq {h : Heap} {a b : AVal} {c : Bool} {v w : Value} (e : isA a b = some c) (hv : V h a v) (hw : V h b w) : plainIs v w = true ∧ (v == w) = c := by
  cases a <;> cases b <;> (try (cases e; done)) <;> simp only [V] at hv hw <;> (try obtain ⟨_, rfl⟩ := hv) <;> (try obtain ⟨_, rfl⟩ := hw) <;> (try subst hv) <;> (try subst hw) <;> (try obtain ⟨_, _, rfl, _⟩ := hv) <;> cases e <;> first | exact ⟨rfl, rfl⟩ | (refine ⟨rfl, ?_⟩; rw [Bool.eq_iff_iff, beq_iff_eq, beq_iff_eq]; simp)
theorem o_is {a b : AVal} {c : Bool} (e : isA a b = some c) (q : Q (.bool c) m P) : Wp D n f ns V [a, b] (Op2 (compareOp .Is)) m P Q := fun A g s vs r p S hv => by
  obtain ⟨v, w, rfl, h1, h2⟩ := Vs.two hv
  obtain ⟨i1, i2⟩ := isA_eq e h1 h2
  exact wpAny_is_plain (a := v) (b := w) i1 (by rw [i2]; exact ok1 S V.bool q)
theorem o_isNot {a b : AVal} {c : Bool} (e : isA a b = some c) (q : Q (.bool (!c)) m P) : Wp D n f ns V [a, b] (Op2 (compareOp .IsNot)) m P Q := fun A g s vs r p S hv => by
  obtain ⟨v, w, rfl, h1, h2⟩ := Vs.two hv
  obtain ⟨i1, i2⟩ := isA_eq e h1 h2
  exact wpAny_isNot_plain (a := v) (b := w) i1 (by rw [i2]; exact ok1 S V.bool q)
end
end Mine

-- WS
namespace Mine
open PySem PySem.W PySem.Calls PyProof.Rows PySem.SeqAt

section
variable {D : WD} {n : Nat} {f : Fm} {ns : Nms} {m : Loc} {P : List Ck}

theorem Wp.sub' {α β : Type} {R : Heap → β → α → Prop} {as : List AVal} {t : List Value → Sem α} {Q : β → Loc → List Ck → Prop} (h : Wp D n f ns R as t m P fun b m' P' => ∃ P'', P''.Sublist P' ∧ Q b m' P'') : Wp D n f ns R as t m P Q := fun A g s vs r p S hv =>
  wpAny_mono (h A g s vs r p S hv) (fun _ _ ⟨b, m', P', T, rb, S', P'', hs, q⟩ => ⟨b, m', P'', T, rb, S'.sub hs, q⟩) fun _ _ e => e
theorem Wp.perm' {α β : Type} {R : Heap → β → α → Prop} {as : List AVal} {t : List Value → Sem α} {Q : β → Loc → List Ck → Prop} (h : Wp D n f ns R as t m P fun b m' P' => ∃ P'', P'.Perm P'' ∧ Q b m' P'') : Wp D n f ns R as t m P Q := fun A g s vs r p S hv =>
  wpAny_mono (h A g s vs r p S hv) (fun _ _ ⟨b, m', P', T, rb, S', P'', hs, q⟩ => ⟨b, m', P'', T, rb, S'.perm hs, q⟩) fun _ _ e => e

/-! attributes that are set -/
theorem instSet {A : Around} {g : Heap} {s : Shared} {x C d : Addr} {fs : List (Str × AVal)} {name : Str} {b : AVal} {v : Value} {P' : List Ck} {Q : Unit → Shared → Prop} (p : PF D g) (S : St D g f ns m P s) (hc : ClsIn D.K C) (ht : takerIn D.K C name = some Option.none) (w : Sw P (inst x C d fs) (inst x C d (setF name b fs)) P') (hz : fs.length ≤ 900)
    (hv : V s.heap b v) (h : ∀ h' tk, TK s.heap h' → St D g f ns m P' { s with heap := h', toks := tk } → Q () { s with heap := h', toks := tk }) : wpAny (model D.prog D.w) A (setAttr (.ref x) name v) Q NoE s := by
  have hI := S.holds _ w.mem
  obtain ⟨ox, od, mm, I, hd, hn, hl, hq⟩ := inst_at hI name
  have hhd : (clsIn D.K C).any (·.hasDict) = true := hc.hd
  refine setAttr_inst (p.K.keeps S.keep) I hd hn (by omega) hc.sa hc.po ht hhd fun h' tk hn' hs => ?_
  have hnt : ∀ o, s.heap.get? d = some o → NT o := fun o e => by obtain ⟨o', es, ep, ho, hd', _⟩ := hn; rw [ho] at e; cases e; exact .dict hd'
  have T := TK.sameBut hs hnt
  have hne : x ≠ d := by
    rintro rfl
    obtain ⟨⟨sl, e⟩, _, ⟨o, es, ep, ho, hd', _⟩, _⟩ := hI
    rw [e] at ho; cases ho; cases hd'
  refine h h' tk T (S.upd w (fun a o ha e => (hs.2 a (fun q => ha (by rw [q]; simp [inst]))).trans e) ?_ (fun y hy => .inl hy) (by simp [inst, hne]))
  obtain ⟨⟨sl, e⟩, _⟩ := hI
  refine ⟨⟨sl, (hs.2 x hne).trans e⟩, fun y => if y = name then some v else mm y, ?_, fun y => ?_⟩
  · obtain ⟨o, es, ep, q1, q2, q3, q4, q5⟩ := hn'
    refine ⟨o, es, ep, q1, q2, q3, q4, Nat.le_trans q5 ?_⟩
    rw [setF_length]
    have hqn := hq name
    cases hfl : fs.lookup name with
    | some c => rw [hfl] at hqn; obtain ⟨v', e', _⟩ := hqn; rw [e']; simp
    | none => rw [hfl] at hqn; rw [hqn]; simp
  · rw [setF_lookup]
    by_cases hy : y = name
    · simp only [hy, if_true]; exact ⟨v, rfl, hv.mono T⟩
    · simp only [hy, if_false]
      have := hq y
      split at this
      · obtain ⟨v', e', z⟩ := this; exact ⟨v', e', z.mono T⟩
      · exact this

theorem Ex.assignA {o value : Expr} {name : Str} {pos' pos : Pos} {Q : AFlow → Loc → List Ck → Prop}
    (h : Ev D n f ns value m P fun b m1 P1 => Ev D n f ns o m1 P1 fun a m2 P2 => ∃ x C d fs P3, a = .ref x ∧ ClsIn D.K C ∧ takerIn D.K C name = some Option.none ∧ Sw P2 (inst x C d fs) (inst x C d (setF name b fs)) P3 ∧ fs.length ≤ 900 ∧ Q .next m2 P3)
    (hs : swapsWith value (some (.Attribute o name pos')) pos.line f.env = pure false := by rfl) : Ex D n f ns (.Assign [.Attribute o name pos'] value pos) m P Q := fun A g s vs r p S _ => by
  refine plainObj_wpAny_Assign_Attribute (h.run r p S .nil fun b m1 P1 v s1 T1 hv S1 h1 => h1.run r p S1 .nil fun a m2 P2 w s2 T2 hw S2 q => ?_) hs
  obtain ⟨x, C, d, fs, P3, rfl, hc, ht, sw, hz, q⟩ := q
  simp only [V] at hw; subst hw
  exact instSet p S2 hc ht sw hz (hv.mono T2) fun h' tk T S' => ⟨.next, m2, P3, (T1.trans T2).trans T, rfl, S', q⟩

theorem Ex.augA {o value : Expr} {name : Str} {op : Operator} {tpos pos : Pos} {Q : AFlow → Loc → List Ck → Prop}
    (h : Ev D n f ns o m P fun a m1 P1 => ∃ x C d fs b, a = .ref x ∧ inst x C d fs ∈ P1 ∧ ClsIn D.K C ∧ findIn D.K (.ref C) name = some Option.none ∧ takerIn D.K C name = some Option.none ∧ fs.lookup name = some b ∧ (∀ h v, V h b v → handedIn v = true) ∧ fs.length ≤ 900 ∧
      Ev D n f ns value m1 P1 fun c m2 P2 => Wp D n f ns V [b, c] (Op2 (inplaceOp op)) m2 P2 fun e m3 P3 => ∃ P4, Sw P3 (inst x C d fs) (inst x C d (setF name e fs)) P4 ∧ Q .next m3 P4) :
    Ex D n f ns (.AugAssign (.Attribute o name tpos) op value pos) m P Q := fun A g s vs r p S _ => by
  refine wpAny_AugAssign_AttributeAny (h.run r p S .nil fun a m1 P1 v s1 T1 hv S1 q => ?_)
  obtain ⟨x, C, d, fs, b, rfl, hm, hc, hno, ht, hb, hh, hz, q⟩ := q
  simp only [V] at hv; subst hv
  obtain ⟨ox, od, mm, I, hd, hn, hl, hq⟩ := inst_at (S1.holds _ hm) name
  have := hq name
  rw [hb] at this
  obtain ⟨w, hw, hV⟩ := this
  refine get_value (p.K.keeps S1.keep) I hc.ga (findObj_own hc.hd hno rfl (hl.trans (by rw [hw]))) (hh _ _ hV) ?_
  have S2 : St D g f ns m1 P1 { s1 with toks := s1.toks + 1 } := S1.toks
  refine q.run r p S2 .nil fun c m2 P2 v2 s2 T2 hv2 S3 q => ?_
  refine q.run r p S3 (Vs2 (hV.mono T2) hv2) fun e m3 P3 v3 s3 T3 hv3 S4 q => ?_
  obtain ⟨P4, sw, q⟩ := q
  exact instSet p S4 hc ht sw hz hv3 fun h' tk T S' => ⟨.next, m3, P4, ((T1.trans T2).trans T3).trans T, rfl, S', q⟩

/-- a method of an own object -/
theorem Gm.i {x C d fn : Addr} {fs : List (Str × AVal)} {name : Str} {Q : AVal × List AVal → Loc → List Ck → Prop} (hm : inst x C d fs ∈ P) (I : MethIn D.K (.ref C) name (.ref fn)) (hno : fs.lookup name = Option.none) (q : Q (.ref fn, [.ref x]) m P) :
    Gm D n f ns (.ref x) name m P Q := fun pl A g s vs r p S hv => by
  obtain ⟨v, rfl, h1⟩ := Vs.one hv
  simp only [V] at h1; subst h1
  obtain ⟨⟨sl, e⟩, mm, hn, hq⟩ := S.holds _ hm
  refine getMethod_gen (p.K.keeps S.keep) (Looks.ld (part := Option.none) e |>.andThen Looks.now) I (fun a ea => ?_) ⟨(.ref fn, [.ref x]), m, P, TK.refl _, ⟨rfl, Vs1 (a := .ref x) rfl⟩, S, q⟩
  cases ea
  refine ⟨_, e, fun d' e' => ?_⟩
  cases e'
  have := hq name
  rw [hno] at this
  exact ⟨mm, hn.ns, this⟩

/-! both, either -/
theorem Tr.and_nil {pos : Pos} {Q : Bool → Loc → List Ck → Prop} (h : Q true m P) : Tr D n f ns (.BoolOp .And [] pos) m P Q := fun A g s vs r p S _ => isTrue_and_nil ⟨true, m, P, TK.refl _, rfl, S, h⟩
theorem Tr.or_nil {pos : Pos} {Q : Bool → Loc → List Ck → Prop} (h : Q false m P) : Tr D n f ns (.BoolOp .Or [] pos) m P Q := fun A g s vs r p S _ => isTrue_or_nil ⟨false, m, P, TK.refl _, rfl, S, h⟩
theorem Tr.and {x : Expr} {rest : List Expr} {pos : Pos} {Q : Bool → Loc → List Ck → Prop} (h : Tr D n f ns x m P fun b m1 P1 => if b = true then Tr D n f ns (.BoolOp .And rest pos) m1 P1 Q else Q false m1 P1) : Tr D n f ns (.BoolOp .And (x :: rest) pos) m P Q := fun A g s vs r p S _ =>
  isTrue_and (h.run r p S .nil fun b m1 P1 x s1 T1 hx S1 q => by
    cases hx
    cases b with
    | true =>
      rw [if_pos rfl] at q
      exact q.run r p S1 .nil fun c m3 P3 x s3 T3 hx S3 q => ⟨c, m3, P3, T1.trans T3, hx, S3, q⟩
    | false => rw [if_neg Bool.false_ne_true] at q; exact ⟨false, m1, P1, T1, rfl, S1, q⟩)
theorem Tr.or {x : Expr} {rest : List Expr} {pos : Pos} {Q : Bool → Loc → List Ck → Prop} (h : Tr D n f ns x m P fun b m1 P1 => if b = true then Q true m1 P1 else Tr D n f ns (.BoolOp .Or rest pos) m1 P1 Q) : Tr D n f ns (.BoolOp .Or (x :: rest) pos) m P Q := fun A g s vs r p S _ =>
  isTrue_or (h.run r p S .nil fun b m1 P1 x s1 T1 hx S1 q => by
    cases hx
    cases b with
    | true => rw [if_pos rfl] at q; exact ⟨true, m1, P1, T1, rfl, S1, q⟩
    | false =>
      rw [if_neg Bool.false_ne_true] at q
      exact q.run r p S1 .nil fun c m3 P3 x s3 T3 hx S3 q => ⟨c, m3, P3, T1.trans T3, hx, S3, q⟩)
theorem Ev.one {op : BoolOp} {e : Expr} {pos : Pos} {Q : AVal → Loc → List Ck → Prop} (h : Ev D n f ns e m P Q) : Ev D n f ns (.BoolOp op [e] pos) m P Q := fun A g s vs r p S hv => BoolOp_one (h A g s vs r p S hv)
theorem Ev.and {e1 e2 : Expr} {rest : List Expr} {pos : Pos} {Q : AVal → Loc → List Ck → Prop} (h : Ev D n f ns e1 m P fun a m1 P1 => Wp D n f ns Eqv [a] (Op1 truthy) m1 P1 fun b m2 P2 => if b = true then Ev D n f ns (.BoolOp .And (e2 :: rest) pos) m2 P2 Q else Q a m2 P2) :
    Ev D n f ns (.BoolOp .And (e1 :: e2 :: rest) pos) m P Q := fun A g s vs r p S _ =>
  BoolOp_and (h.run r p S .nil fun a m1 P1 v s1 T1 hv S1 h1 => h1.run r p S1 (Vs1 hv) fun b m2 P2 x s2 T2 hx S2 q => by
    cases hx
    cases b with
    | true =>
      rw [if_pos rfl] at q ⊢
      exact q.run r p S2 .nil fun c m3 P3 x s3 T3 hx S3 q => ⟨c, m3, P3, (T1.trans T2).trans T3, hx, S3, q⟩
    | false => rw [if_neg Bool.false_ne_true] at q ⊢; exact ⟨a, m2, P2, T1.trans T2, hv.mono T2, S2, q⟩)
theorem Ev.or {e1 e2 : Expr} {rest : List Expr} {pos : Pos} {Q : AVal → Loc → List Ck → Prop} (h : Ev D n f ns e1 m P fun a m1 P1 => Wp D n f ns Eqv [a] (Op1 truthy) m1 P1 fun b m2 P2 => if b = true then Q a m2 P2 else Ev D n f ns (.BoolOp .Or (e2 :: rest) pos) m2 P2 Q) :
    Ev D n f ns (.BoolOp .Or (e1 :: e2 :: rest) pos) m P Q := fun A g s vs r p S _ =>
  BoolOp_or (h.run r p S .nil fun a m1 P1 v s1 T1 hv S1 h1 => h1.run r p S1 (Vs1 hv) fun b m2 P2 x s2 T2 hx S2 q => by
    cases hx
    cases b with
    | true => rw [if_pos rfl] at q ⊢; exact ⟨a, m2, P2, T1.trans T2, hv.mono T2, S2, q⟩
    | false =>
      rw [if_neg Bool.false_ne_true] at q ⊢
      exact q.run r p S2 .nil fun c m3 P3 x s3 T3 hx S3 q => ⟨c, m3, P3, (T1.trans T2).trans T3, hx, S3, q⟩)

/-! what a function is handed -/
theorem Bd.one {fd : FuncData} {a : AVal} {x : Str} {mk : List Value → Args} {Q : List (Str × AVal) → Loc → List Ck → Prop} (hb : ∀ v, bindArgs fd (mk [v]) = pure [(x, v)]) (q : Q [(x, a)] m P) : Wp D n f ns BR [a] (fun vs => bindArgs fd (mk vs)) m P Q := fun A g s vs r p S hv => by
  obtain ⟨v, rfl, h1⟩ := Vs.one hv
  show wpAny _ _ (bindArgs fd (mk [v])) _ _ _
  rw [hb]
  exact wpAny_pure ⟨[(x, a)], m, P, TK.refl _, ⟨_, _, rfl, h1, rfl⟩, S, q⟩
theorem Bd.zero {fd : FuncData} {mk : List Value → Args} {Q : List (Str × AVal) → Loc → List Ck → Prop} (hb : bindArgs fd (mk []) = pure []) (q : Q [] m P) : Wp D n f ns BR [] (fun vs => bindArgs fd (mk vs)) m P Q := fun A g s vs r p S hv => by
  simp only [Vs] at hv; subst hv
  show wpAny _ _ (bindArgs fd (mk [])) _ _ _
  rw [hb]
  exact wpAny_pure ⟨[], m, P, TK.refl _, rfl, S, q⟩
theorem Bd.two {fd : FuncData} {a b : AVal} {x y : Str} {mk : List Value → Args} {Q : List (Str × AVal) → Loc → List Ck → Prop} (hb : ∀ v w, bindArgs fd (mk [v, w]) = pure [(x, v), (y, w)]) (q : Q [(x, a), (y, b)] m P) : Wp D n f ns BR [a, b] (fun vs => bindArgs fd (mk vs)) m P Q := fun A g s vs r p S hv => by
  obtain ⟨v, w, rfl, h1, h2⟩ := Vs.two hv
  show wpAny _ _ (bindArgs fd (mk [v, w])) _ _ _
  rw [hb]
  exact wpAny_pure ⟨[(x, a), (y, b)], m, P, TK.refl _, ⟨_, _, rfl, h1, _, _, rfl, h2, rfl⟩, S, q⟩
theorem Bd.three {fd : FuncData} {a b c : AVal} {x y z : Str} {mk : List Value → Args} {Q : List (Str × AVal) → Loc → List Ck → Prop} (hb : ∀ v w u, bindArgs fd (mk [v, w, u]) = pure [(x, v), (y, w), (z, u)]) (q : Q [(x, a), (y, b), (z, c)] m P) : Wp D n f ns BR [a, b, c] (fun vs => bindArgs fd (mk vs)) m P Q := fun A g s vs r p S hv => by
  obtain ⟨v, w, u, rfl, h1, h2, h3⟩ := Vs.three hv
  show wpAny _ _ (bindArgs fd (mk [v, w, u])) _ _ _
  rw [hb]
  exact wpAny_pure ⟨[(x, a), (y, b), (z, c)], m, P, TK.refl _, ⟨_, _, rfl, h1, _, _, rfl, h2, _, _, rfl, h3, rfl⟩, S, q⟩
theorem Bd.four {fd : FuncData} {a b c d : AVal} {x y z z' : Str} {mk : List Value → Args} {Q : List (Str × AVal) → Loc → List Ck → Prop} (hb : ∀ v w u u', bindArgs fd (mk [v, w, u, u']) = pure [(x, v), (y, w), (z, u), (z', u')]) (q : Q [(x, a), (y, b), (z, c), (z', d)] m P) : Wp D n f ns BR [a, b, c, d] (fun vs => bindArgs fd (mk vs)) m P Q := fun A g s vs r p S hv => by
  obtain ⟨v, w, u, u', rfl, h1, h2, h3, h4⟩ := Vs.four hv
  show wpAny _ _ (bindArgs fd (mk [v, w, u, u'])) _ _ _
  rw [hb]
  exact wpAny_pure ⟨[(x, a), (y, b), (z, c), (z', d)], m, P, TK.refl _, ⟨_, _, rfl, h1, _, _, rfl, h2, _, _, rfl, h3, _, _, rfl, h4, rfl⟩, S, q⟩
end

section
variable {D : WD} {n : Nat} {f : Fm} {ns : Nms} {m : Loc} {P : List Ck} {Q : AVal → Loc → List Ck → Prop}
/-! more calls -/
theorem jn_fits {x : List Nat} {ls : List (List Nat)} (h : (ls.map (·.length)).sum + ls.length * x.length ≤ 1000000) : JoinOk (mkS x) (ls.map mkS) = true := by
  have e : ((ls.map mkS).map (·.length)).sum = (ls.map (·.length)).sum := by
    rw [List.map_map]
    have : (Str.length ∘ mkS) = List.length := funext mkS_len
    rw [this]
  have := StrLaws.joinTotal (mkS x) (ls.map mkS)
  unfold JoinOk
  rw [this, e, mkS_len, List.length_map]
  simp [Builtin.Str.tooLong, sizeLine]
  omega
theorem vs_strs {h : Heap} : ∀ {ls : List (List Nat)} {vs : List Value}, Vs h (ls.map .str) vs → ∃ l : List (Str × Tok), vs = strValues l ∧ l.map (·.1) = ls.map mkS
  | [], _, e => by simp only [List.map_nil, Vs] at e; subst e; exact ⟨[], rfl, rfl⟩
  | a :: r, _, e => by
    simp only [List.map_cons, Vs] at e
    obtain ⟨v, r', rfl, h1, h2⟩ := e
    simp only [V] at h1
    obtain ⟨t, rfl⟩ := h1
    obtain ⟨l, rfl, e⟩ := vs_strs h2
    exact ⟨(mkS a, t) :: l, rfl, by simp [e]⟩
theorem c_join {x : List Nat} {a : Addr} {ls : List (List Nat)} (hm : lst a (ls.map .str) ∈ P) (hz : (ls.map (·.length)).sum + ls.length * x.length ≤ 1000000) (q : Q (.str (jn x ls)) m P) : Cal D n f ns (.blt "str.join") [.str x, .ref a] [] [] m P Q := .b fun A g s vs r p S hv => by
  obtain ⟨v, w, rfl, h1, h2⟩ := Vs.two hv
  simp only [V] at h1 h2
  obtain ⟨t, rfl⟩ := h1
  subst h2
  obtain ⟨ws, hl, hws⟩ := S.holds _ hm
  obtain ⟨l, rfl, e⟩ := vs_strs hws
  refine SC.join hl.isList e (jn_fits hz) fun t' k => ok0 (s0 := s) (c := .str (jn x ls)) S ⟨t', ?_⟩ q
  show Value.str (Builtin.Str.glued (mkS x) (ls.map mkS)) t' = _
  rw [StrLaws.glued_eq_join, join_jn]
theorem c_range {k : Nat} (hk : k < 1000000) (q : ∀ a, Q (.ref a) m (rng a k :: P)) : Cal D n f ns (.typ "range") [.int k] [] [] m P Q := .t fun A g s vs r p S hv => by
  obtain ⟨v, rfl, h1⟩ := Vs.one hv
  simp only [V] at h1
  obtain ⟨t, rfl⟩ := h1
  refine call_range_1 ⟨.ref s.heap.objs.size, m, _, .keeps fun b o e => Heap.get?_push_of_some _ e, rfl, S.newc (c' := rng s.heap.objs.size k) (fun b o e => Heap.get?_push_of_some _ e) ⟨_, _, _, IsRange.new ..⟩ (fun x hx => fresh_size x hx) (by simp [rng]), q _⟩
theorem c_enum {a : Addr} {xs : List AVal} (hm : lst a xs ∈ P) (q : ∀ e it, Q (.ref e) m (enm e it a :: P)) : Cal D n f ns (.typ "enumerate") [.ref a] [] [] m P Q := .t fun A g s vs r p S hv => by
  obtain ⟨v, rfl, h1⟩ := Vs.one hv
  simp only [V] at h1; subst h1
  obtain ⟨ws, hl, hws⟩ := S.holds _ hm
  refine call_enumerate_list hl.isList fun h' h1 h2 h3 hk => ⟨.ref (s.heap.objs.size + 1), m, _, .keeps hk, rfl, S.newc (c' := enm (s.heap.objs.size + 1) s.heap.objs.size a) hk ⟨h1, h2⟩ (fun x hx => ?_) (by simp [enm]), q _ _⟩
  cases e : s.heap.get? x with
  | none => rfl
  | some o =>
    have hlt : x < s.heap.objs.size := Heap.lt_size e
    have hx : x = s.heap.objs.size + 1 ∨ x = s.heap.objs.size := by simpa [enm] using hx
    rcases hx with hx | hx
    · exact absurd (hx ▸ hlt) (by intro q; exact Nat.not_succ_le_self _ (Nat.le_of_succ_le q))
    · exact absurd (hx ▸ hlt) (Nat.lt_irrefl _)
theorem c_listS {x : List Nat} (hh : D.hd = Option.none) (hz : x.length ≤ 1000000) (q : ∀ a, Q (.ref a) m (lst a (x.map fun c => .str [c]) :: P)) : Cal D n f ns (.typ "list") [.str x] [] [] m P Q := .t fun A g s vs r p S hv => by
  obtain ⟨v, rfl, h1⟩ := Vs.one hv
  simp only [V] at h1
  obtain ⟨t, rfl⟩ := h1
  refine PySem.call_list_str (r.handled.trans hh) (mkS x) t (fun h' tk acc' c' hk hg hI => ⟨.ref s.heap.objs.size, m, _, .keeps hk, rfl, S.newc (tk := tk) (c' := lst s.heap.objs.size (x.map fun c => .str [c])) hk ⟨acc'.toList, ⟨c', by rw [hg]⟩, ?_⟩ (fun x hx => fresh_size x hx) (by simp [lst]), q _⟩) (by have := mkS_len x; unfold Str.length at this; rw [this, sizeLine_eq]; omega)
  obtain ⟨h1, h2⟩ := hI
  have hlen : acc'.toList.length = x.length := by rw [Array.length_toList, h1]; exact mkS_len x
  have key : ∀ (x : List Nat) (vs : List Value), vs.length = x.length → (∀ (j : Nat) (v : Value), vs[j]? = some v → ∃ (c : Nat) (u : Tok), x[j]? = some c ∧ v = Value.str ⟨#[c]⟩ u) → Vs h' (x.map fun c => AVal.str [c]) vs := by
    intro x
    induction x with
    | nil => intro vs h _; have := List.length_eq_zero_iff.mp h; subst this; exact .nil
    | cons c x ih =>
      intro vs h hv
      cases vs with
      | nil => simp at h
      | cons v vs =>
        obtain ⟨c', u, e1, e2⟩ := hv 0 v rfl
        simp at e1; subst e1
        exact .cons ⟨u, e2⟩ (ih vs (by simpa using h) fun j v' hj => by simpa using hv (j + 1) v' (by simpa using hj))
  refine key x acc'.toList hlen fun j v hj => ?_
  obtain ⟨c, u, e1, e2⟩ := h2 j v (by simpa using hj)
  exact ⟨c, u, by simpa [mkS] using e1, e2⟩
end
end Mine

-- WT
namespace Mine
open PySem PySem.W PySem.Calls PyProof.Rows PySem.SeqAt

/-- what lies at the place of an own def -/
structure Fn (D : WD) (a : Addr) (fd : FuncData) (names : Nms) (body : List Stmt) : Prop where
  at' : ∃ oc od osl, D.K.lookup a = some ⟨oc, od, .func fd, osl⟩
  body : fd.body = .stmts body
  code : codeIn D.K fd.code fd.qualname = true
  clo : fd.closure = []
  gl : fd.globals = mainGlobals
  bl : fd.builtins = builtinsNs
  nm : fd.scope.names = names
  nd : (names.map (·.1)).Nodup
  free : (names.all fun p => p.2 != .free) = true
  co : fd.scope.isCoroutine = false
  gen : fd.scope.isGenerator = false
  kind : fd.scope.kind = .function

/-- the cells of a frame are its own -/
def MineC (f : Fm) (ns : Nms) : Prop := ∀ x, (x, NameKind.cell) ∈ ns → (f.env.cells.lookup x).isSome = true ∧ ∀ c, f.env.cells.lookup x = some c → c ∈ f.own

section
variable {D : WD} {n : Nat} {f : Fm} {ns : Nms} {m : Loc} {P : List Ck}

theorem Fn.ok {a : Addr} {fd : FuncData} {names : Nms} {body : List Stmt} (F : Fn D a fd names body) : KeepOk D.K P (.ref a) := let ⟨_, _, _, h⟩ := F.at'; .fn h

theorem frame_mine {fd : FuncData} {L a : Addr} : MineC (frameOf fd L a) fd.scope.names := fun x hx => by
  have h : ((frameOf fd L a).env.cells.lookup x).isSome = true := cellsFrom_some (.inr hx)
  exact ⟨h, fun c hc => ownOf_mem hx hc⟩

inductive Init : Nms → List (Str × AVal) → Loc → Prop
  | nil {ab} : Init [] ab []
  | hit {x k r ab a m} : ab.lookup x = some a → Init r ab m → Init ((x, k) :: r) ab (some a :: m)
  | miss {x k r ab m} : ab.lookup x = none → Init r ab m → Init ((x, k) :: r) ab (none :: m)
theorem Init.eq {ns : Nms} {ab : List (Str × AVal)} {m : Loc} (h : Init ns ab m) : initL ns ab = m := by
  induction h with
  | nil => rfl
  | hit e _ ih => unfold initL at ih ⊢; rw [List.map_cons, ih, e]
  | miss e _ ih => unfold initL at ih ⊢; rw [List.map_cons, ih, e]
def xsOk (xs : List Str) (ns : Nms) : Bool := decide xs.Nodup && xs.all fun x => ns.contains (x, NameKind.local) || ns.contains (x, NameKind.cell)

theorem Wp.fnC {as : List AVal} {Q : AVal → Loc → List Ck → Prop} {a : Addr} {fd : FuncData} {names : Nms} {body : List Stmt} {mk : List Value → Args} (F : Fn D a fd names body)
    (hb : Wp D n f ns BR as (fun vs => bindArgs fd (mk vs)) m P fun ab m1 P1 => xsOk (ab.map (·.1)) names = true ∧ ∃ m0, Init names ab m0 ∧
      ∀ f', MineC f' names → Exs D n f' names body m0 P1 fun fl _ P2 => Q (retOf fl) m1 P2) :
    CodeC D (n + 1) f ns as (fun vs => .call (.ref a) (mk vs)) m P Q := by
  obtain ⟨oc, od, osl, ho⟩ := F.at'
  have hn := F.nm
  subst hn
  refine Wp.codeC ho F.body F.code F.clo F.gl F.bl F.nd F.free (hb.mono fun ab m1 P1 ⟨h2, m0, h3, h4⟩ => ?_) F.co F.gen F.kind
  unfold xsOk at h2
  rw [Bool.and_eq_true, decide_eq_true_eq, List.all_eq_true] at h2
  refine ⟨h2.1, fun p hp => ?_, fun L => ?_⟩
  · have := h2.2 p.1 (List.mem_map_of_mem (f := (·.1)) hp)
    rw [Bool.or_eq_true] at this
    exact this.imp (fun h => by simpa using h) fun h => by simpa using h
  · rw [h3.eq]; exact h4 _ frame_mine

theorem Wp.fn {as : List AVal} {Q : AVal → Loc → List Ck → Prop} {a : Addr} {fd : FuncData} {names : Nms} {body : List Stmt} {mk : List Value → Args} (F : Fn D a fd names body)
    (hb : Wp D n f ns BR as (fun vs => bindArgs fd (mk vs)) m P fun ab m1 P1 => xsOk (ab.map (·.1)) names = true ∧ ∃ m0, Init names ab m0 ∧
      ∀ f', MineC f' names → Exs D n f' names body m0 P1 fun fl _ P2 => Q (retOf fl) m1 P2) :
    Wp D (n + 1) f ns V as (fun vs => call (.ref a) (mk vs).pos (mk vs).kw) m P Q := (Wp.fnC F hb).wp

theorem bind_dflt {fd : FuncData} {args : Args} {T : Addr} {o : Obj} {items : Array Value} {c : Nat} {k : Option (Array Value) → Sem (List (Str × Value))} {A : Around} {g : Heap} {s : Shared} {Q : List (Str × Value) → Shared → Prop} (p : PF D g) (S : St D g f ns m P s)
    (hd : fd.defaults = .ref T) (ho : D.K.lookup T = some o) (hs : o.data = .seq items c) (h1 : bindArgs fd args = seqItems? fd.defaults >>= k) (h2 : wpAny (model D.prog D.w) A (k (some items)) Q NoE s) : wpAny (model D.prog D.w) A (bindArgs fd args) Q NoE s := by
  rw [h1, hd]
  exact wpAny_bind (wpAny_seqItems (S.keep _ _ (p.K _ _ ho)) hs h2)
theorem Ev.gRef {x : Str} {v : Addr} {pos : Pos} {Q : AVal → Loc → List Ck → Prop} (e : In1 ns x .globalImplicit) (hx : nsIn D.K mainGlobals x = some (some (.ref v))) (h : Q (.ref v) m P) (hd : notDebug x = true) : Ev D n f ns (.Name x pos) m P Q := .global (a := .ref v) e hx (fun _ => rfl) h hd
theorem Ev.gStr {x y : Str} {t : Tok} {pos : Pos} {Q : AVal → Loc → List Ck → Prop} (e : In1 ns x .globalImplicit) (hx : nsIn D.K mainGlobals x = some (some (.str y t))) (h : Q (.str y.cps.toList) m P) (hd : notDebug x = true) : Ev D n f ns (.Name x pos) m P Q := .global (a := .str y.cps.toList) e hx (fun _ => ⟨t, by rw [mkS_cps]⟩) h hd
theorem Ev.bBlt {x : Str} {id : String} {pos : Pos} {Q : AVal → Loc → List Ck → Prop} (e : In1 ns x .globalImplicit) (hx : nsIn D.K mainGlobals x = some Option.none) (hb : bootBuiltins x = some (.builtin id)) (h : Q (.blt id) m P) (hd : notDebug x = true) (hn : x ≠ "__name__") : Ev D n f ns (.Name x pos) m P Q := .builtin (a := .blt id) e hx hb (fun _ => rfl) h hd hn
theorem Ev.bTyp {x : Str} {id : String} {pos : Pos} {Q : AVal → Loc → List Ck → Prop} (e : In1 ns x .globalImplicit) (hx : nsIn D.K mainGlobals x = some Option.none) (hb : bootBuiltins x = some (.type id)) (h : Q (.typ id) m P) (hd : notDebug x = true) (hn : x ≠ "__name__") : Ev D n f ns (.Name x pos) m P Q := .builtin (a := .typ id) e hx hb (fun _ => rfl) h hd hn
theorem Ex.exprE {e : Expr} {pos : Pos} {Q : AFlow → Loc → List Ck → Prop} (h : Ev D n f ns e m P fun _ m1 P1 => Q .next m1 P1) (hs : swapsWith e Option.none pos.line f.env = pure false) :
    Ex D n f ns (.Expr e pos) m P Q := fun A g s vs r p S hv =>
  Ex.expr h (by unfold interactive; rw [S.ok.kind]; rfl) hs A g s vs r p S hv
def envN (ns : Nms) : Env := { scope := { kind := .function, names := ns, isGenerator := false, isCoroutine := false }, locals := 0, globals := 0, cells := [] }
theorem swapped_eq {ts : List Expr} {v : Expr} {env : Env} (hk : env.scope.kind = .function) (hn : env.scope.names = ns) : swappedStores ts v env = swappedStores ts v (envN ns) := by
  have h1 : env.blockKind = (envN ns).blockKind := by unfold Env.blockKind; rw [hk]; rfl
  have h2 : env.kindOf = (envN ns).kindOf := by funext x; unfold Env.kindOf; rw [hn]; rfl
  unfold swappedStores
  rw [h1, h2]
theorem Ex.assignW {elts : List Expr} {k : Nat} {tpos : Pos} {value : Expr} {pos : Pos} {names : List Str} {Q : AFlow → Loc → List Ck → Prop} (hh : D.hd = Option.none)
    (hw : swappedStores [.Tuple elts k tpos] value (envN ns) = pure (some names))
    (h : Ev D n f ns value m P fun a m1 P1 => ∃ xs, a = .tup xs ∧ names.length = xs.length ∧ AsNm D n f ns names.reverse xs.reverse m1 P1 fun m2 P2 => Q .next m2 P2)
    (hs : swapsWithSole [.Tuple elts k tpos] value pos.line f.env = pure false) :
    Ex D n f ns (.Assign [.Tuple elts k tpos] value pos) m P Q := fun A g s vs r p S hv =>
  Ex.assignS hh ((swapped_eq S.ok.kind S.ok.names).trans hw) h hs A g s vs r p S hv
theorem Ex.assignW2 {x y : Str} {px py : Pos} {k : Nat} {tpos : Pos} {value : Expr} {pos : Pos} {Q : AFlow → Loc → List Ck → Prop} (hh : D.hd = Option.none)
    (h : Ev D n f ns value m P fun a m1 P1 => ∃ b c, a = .tup [b, c] ∧ AsNm D n f ns [y, x] [c, b] m1 P1 fun m2 P2 => Q .next m2 P2)
    (hw : swappedStores [.Tuple [.Name x px, .Name y py] k tpos] value (envN ns) = pure (some [x, y]))
    (hs : swapsWithSole [.Tuple [.Name x px, .Name y py] k tpos] value pos.line f.env = pure false) :
    Ex D n f ns (.Assign [.Tuple [.Name x px, .Name y py] k tpos] value pos) m P Q :=
  Ex.assignW hh hw (h.mono fun a m1 P1 ⟨b, c, e, q⟩ => ⟨[b, c], e, rfl, q⟩) hs
theorem Ex.assignW3 {x y z : Str} {px py pz : Pos} {k : Nat} {tpos : Pos} {value : Expr} {pos : Pos} {Q : AFlow → Loc → List Ck → Prop} (hh : D.hd = Option.none)
    (h : Ev D n f ns value m P fun a m1 P1 => ∃ b c d, a = .tup [b, c, d] ∧ AsNm D n f ns [z, y, x] [d, c, b] m1 P1 fun m2 P2 => Q .next m2 P2)
    (hw : swappedStores [.Tuple [.Name x px, .Name y py, .Name z pz] k tpos] value (envN ns) = pure (some [x, y, z]))
    (hs : swapsWithSole [.Tuple [.Name x px, .Name y py, .Name z pz] k tpos] value pos.line f.env = pure false) :
    Ex D n f ns (.Assign [.Tuple [.Name x px, .Name y py, .Name z pz] k tpos] value pos) m P Q :=
  Ex.assignW hh hw (h.mono fun a m1 P1 ⟨b, c, d, e, q⟩ => ⟨[b, c, d], e, rfl, q⟩) hs
theorem Ex.assignU {elts : List Expr} {k : Nat} {tpos : Pos} {value : Expr} {pos : Pos} {Q : AFlow → Loc → List Ck → Prop}
    (h : Ev D n f ns value m P fun a m1 P1 => As D n f ns (.Tuple elts k tpos) a m1 P1 fun m2 P2 => Q .next m2 P2)
    (hs : swapsWithSole [.Tuple elts k tpos] value pos.line f.env = pure false) (hw : swappedStores [.Tuple elts k tpos] value (envN ns) = pure Option.none) :
    Ex D n f ns (.Assign [.Tuple elts k tpos] value pos) m P Q := fun A g s vs r p S hv =>
  Ex.assignT h hs ((swapped_eq S.ok.kind S.ok.names).trans hw) A g s vs r p S hv
theorem Ex.assert {test : Expr} {pos : Pos} {Q : AFlow → Loc → List Ck → Prop} (hh : D.hd = Option.none) (h : Tr D n f ns test m P fun b m1 P1 => b = true ∧ Q .next m1 P1) : Ex D n f ns (.Assert test Option.none pos) m P Q := fun A g s vs r p S _ =>
  wpAny_Assert_new (r.handled.trans hh) (h.run r p S .nil fun b m1 P1 x s1 T1 hx S1 q => by
    obtain ⟨rfl, q⟩ := q
    cases hx
    rw [if_pos rfl]
    exact ⟨.next, m1, P1, T1, rfl, S1, q⟩)
theorem swaps_eq {v : Expr} {t : Option Expr} {l : Nat} {env : Env} (hk : env.scope.kind = .function) (hn : env.scope.names = ns) : swapsWith v t l env = swapsWith v t l (envN ns) := by
  have h1 : env.blockKind = (envN ns).blockKind := by unfold Env.blockKind; rw [hk]; rfl
  have h2 : env.kindOf = (envN ns).kindOf := by funext x; unfold Env.kindOf; rw [hn]; rfl
  have h3 : env.scope.kind = (envN ns).scope.kind := hk
  unfold swapsWith
  rw [h1, h2, h3]
theorem Ex.assignN {x : Str} {pos' : Pos} {value : Expr} {pos : Pos} {Q : AFlow → Loc → List Ck → Prop}
    (h : Ev D n f ns value m P fun a m1 P1 => As D n f ns (.Name x pos') a m1 P1 fun m2 P2 => Q .next m2 P2)
    (hs : swapsWith value (some (.Name x pos')) pos.line (envN ns) = pure false) : Ex D n f ns (.Assign [.Name x pos'] value pos) m P Q := fun A g s vs r p S hv =>
  Ex.assign h ((swaps_eq S.ok.kind S.ok.names).trans hs) A g s vs r p S hv
theorem Ex.assignD {x : Str} {pos' : Pos} {elt target iter : Expr} {ifs : List Expr} {scope : Scope} {cpos pos : Pos} {Q : AFlow → Loc → List Ck → Prop} (hsc : scope.kind = .function) (hnd : (scope.names.map (·.1)).Nodup) (htk : takes ns scope.names = true)
    (hsw : swapsWith (.ListComp elt [⟨target, iter, ifs, 0⟩] scope cpos) (some (.Name x pos')) pos.line (envN ns) = pure true)
    (hs : ∀ x, foldedSetIterable iter f.env x = pure x)
    (h : Ev D n f ns iter m P fun a m1 P1 => ∃ xs need P2 ns' m0, IterW D n f ns target a xs need m1 P1 P2 ∧ Capt ns m1 scope.names ns' m0 ∧ ∀ acc L, CompL D n (compFm f scope L) ns' target ifs (insList elt) (.ref acc) xs need m0 (lst acc [] :: P2) fun _ P3 => As D n f ns (.Name x pos') (.ref acc) m1 P3 fun m2 P4 => Q .next m2 P4) :
    Ex D n f ns (.Assign [.Name x pos'] (.ListComp elt [⟨target, iter, ifs, 0⟩] scope cpos) pos) m P Q := fun A g s vs r p S hv =>
  Ex.assignC hsc hnd htk h ((swaps_eq S.ok.kind S.ok.names).trans hsw) hs A g s vs r p S hv
theorem Exs.cut {st : Stmt} {rest : List Stmt} {Q : AFlow → Loc → List Ck → Prop} (m1 : Loc) (P1 : List Ck) (h1 : Ex D n f ns st m P fun fl m' P' => fl = .next ∧ m' = m1 ∧ P' = P1) (h2 : Exs D n f ns rest m1 P1 Q) : Exs D n f ns (st :: rest) m P Q :=
  Exs.cons (h1.mono fun fl m' P' ⟨e1, e2, e3⟩ => by subst e1 e2 e3; exact h2)
theorem iteCut {c : Prop} [Decidable c] {b o : List Stmt} {k : Loc → List Ck → Prop} {Q : AFlow → Loc → List Ck → Prop} (m1 : Loc) (P1 : List Ck) (h1 : c → Exs D n f ns b m P fun fl m' P' => fl = .next ∧ m' = m1 ∧ P' = P1) (h2 : ¬ c → Exs D n f ns o m P fun fl m' P' => fl = .next ∧ m' = m1 ∧ P' = P1) (hk : k m1 P1) :
    if c then Exs D n f ns b m P (seqQ k Q) else Exs D n f ns o m P (seqQ k Q) := by
  split
  · rename_i hc
    exact (h1 hc).mono fun fl m' P' ⟨e1, e2, e3⟩ => by subst e1 e2 e3; exact hk
  · rename_i hc
    exact (h2 hc).mono fun fl m' P' ⟨e1, e2, e3⟩ => by subst e1 e2 e3; exact hk
theorem iteCutJ {c : Prop} [Decidable c] {b o : List Stmt} {k : Loc → List Ck → Prop} {Q : AFlow → Loc → List Ck → Prop} (J : Loc → List Ck → Prop) (h1 : c → Exs D n f ns b m P (seqQ J Q)) (h2 : ¬ c → Exs D n f ns o m P (seqQ J Q)) (hk : ∀ m' P', J m' P' → k m' P') :
    if c then Exs D n f ns b m P (seqQ k Q) else Exs D n f ns o m P (seqQ k Q) := by
  have w : ∀ fl m' P', seqQ J Q fl m' P' → seqQ k Q fl m' P' := fun fl m' P' h => by
    cases fl with
    | next => exact hk _ _ h
    | _ => exact h
  split
  · rename_i hc
    exact (h1 hc).mono w
  · rename_i hc
    exact (h2 hc).mono w
theorem splF_ne (x y : List Nat) : ∀ k lo, 1 ≤ (splF x y k lo).length
  | 0, _ => by simp [splF]
  | k + 1, lo => by
    simp only [splF]
    split <;> simp
theorem spl_two {x y : List Nat} (h : (fnd x y 0 x.length).isSome = true) : 2 ≤ (spl x y).length := by
  unfold spl
  simp only [splF]
  cases e : fnd x y 0 x.length with
  | none => rw [e] at h; cases h
  | some c =>
    simp only [List.length_cons]
    have := splF_ne x y x.length (c + y.length)
    omega
theorem splF_small (x y : List Nat) : ∀ k lo, ∀ w ∈ splF x y k lo, w.length ≤ x.length
  | 0, lo, w, h => by simp [splF] at h; subst h; simp
  | k + 1, lo, w, h => by
    simp only [splF] at h
    split at h
    · simp at h; subst h; simp
    · simp at h
      rcases h with rfl | h
      · simp; omega
      · exact splF_small x y k _ w h
theorem t_str {l : List Nat} {Q : Bool → Loc → List Ck → Prop} (hz : l.length ≤ 1000000) (q : Q (!l.isEmpty) m P) : Wp D n f ns Eqv [.str l] (Op1 truthy) m P Q := t_flat (by simp [truthA, hz]) q
theorem t_bool {b : Bool} {Q : Bool → Loc → List Ck → Prop} (q : Q b m P) : Wp D n f ns Eqv [.bool b] (Op1 truthy) m P Q := t_flat rfl q
theorem t_none {Q : Bool → Loc → List Ck → Prop} (q : Q false m P) : Wp D n f ns Eqv [.none] (Op1 truthy) m P Q := t_flat rfl q
theorem t_int {i : Int} {Q : Bool → Loc → List Ck → Prop} (q : Q (i != 0) m P) : Wp D n f ns Eqv [.int i] (Op1 truthy) m P Q := t_flat rfl q
theorem As.cellM {x : Str} {pos : Pos} {a : AVal} {m' : Loc} {Q : Loc → List Ck → Prop} (hm : MineC f ns) (u : NmUp ns m x .cell a m') (h : Q m' P) : As D n f ns (.Name x pos) a m P Q := .cell u (hm x u.mem).2 (hm x u.mem).1 h
end
end Mine

-- WU
namespace Mine
open PySem PySem.W PySem.Calls PyProof.Rows PySem.SeqAt
theorem bd_bisect2 {M : Model} {A : Around} {E : Value → Shared → Prop} {s : Shared} {Q : List (Str × Value) → Shared → Prop} {fd : FuncData} {v0 v1 d0 d1 kd : Value} (h1 : fd.params.posonlyargs = []) (h2 : fd.params.args.map (·.arg) = [Str.ofString "a", Str.ofString "x", Str.ofString "lo", Str.ofString "hi"]) (h3 : fd.params.kwonlyargs.map (·.arg) = [Str.ofString "key"]) (h4 : fd.params.vararg = none) (h5 : fd.params.kwarg = none) {T : Addr} (hd : fd.defaults = .ref T) (hT : ∀ Q' : Option (Array Value) → Shared → Prop, Q' (some #[d0, d1]) s → wpAny M A (seqItems? (.ref T)) Q' E s) {K : Addr} (hk : fd.kwdefaults = .ref K) (hK : ∀ Q' : Option Value → Shared → Prop, Q' (some kd) s → wpAny M A (nsGet K "key") Q' E s) (q : Q [(Str.ofString "a", v0), (Str.ofString "x", v1), (Str.ofString "lo", d0), (Str.ofString "hi", d1), (Str.ofString "key", kd)] s) : wpAny M A (bindArgs fd ⟨[v0, v1], []⟩) Q E s := by
  have c1 : (Str.ofString "a" == Str.ofString "x") = false := by decide +kernel
  have c2 : (Str.ofString "a" == Str.ofString "lo") = false := by decide +kernel
  have c3 : (Str.ofString "a" == Str.ofString "hi") = false := by decide +kernel
  have c4 : (Str.ofString "a" == Str.ofString "key") = false := by decide +kernel
  have c5 : (Str.ofString "x" == Str.ofString "a") = false := by decide +kernel
  have c6 : (Str.ofString "x" == Str.ofString "lo") = false := by decide +kernel
  have c7 : (Str.ofString "x" == Str.ofString "hi") = false := by decide +kernel
  have c8 : (Str.ofString "x" == Str.ofString "key") = false := by decide +kernel
  have c9 : (Str.ofString "lo" == Str.ofString "a") = false := by decide +kernel
  have c10 : (Str.ofString "lo" == Str.ofString "x") = false := by decide +kernel
  have c11 : (Str.ofString "lo" == Str.ofString "hi") = false := by decide +kernel
  have c12 : (Str.ofString "lo" == Str.ofString "key") = false := by decide +kernel
  have c13 : (Str.ofString "hi" == Str.ofString "a") = false := by decide +kernel
  have c14 : (Str.ofString "hi" == Str.ofString "x") = false := by decide +kernel
  have c15 : (Str.ofString "hi" == Str.ofString "lo") = false := by decide +kernel
  have c16 : (Str.ofString "hi" == Str.ofString "key") = false := by decide +kernel
  have c17 : (Str.ofString "key" == Str.ofString "a") = false := by decide +kernel
  have c18 : (Str.ofString "key" == Str.ofString "x") = false := by decide +kernel
  have c19 : (Str.ofString "key" == Str.ofString "lo") = false := by decide +kernel
  have c20 : (Str.ofString "key" == Str.ofString "hi") = false := by decide +kernel
  simp only [bindArgs, h1, h2, h3, h4, h5, hd, hk, List.map_nil, List.nil_append, List.forIn_nil, pure_bind, List.zip, List.zipWith, List.length_cons, List.length_nil]
  refine wpAny_bind (hT _ ?_)
  simp [List.lookup, List.contains, List.elem, c1, c2, c3, c4, c5, c6, c7, c8, c9, c10, c11, c12, c13, c14, c15, c16, c17, c18, c19, c20]
  refine wpAny_bind (hK _ ?_)
  simp [List.lookup, List.contains, List.elem, c1, c2, c3, c4, c5, c6, c7, c8, c9, c10, c11, c12, c13, c14, c15, c16, c17, c18, c19, c20]
  exact wpAny_pure q
theorem bd_init1 {M : Model} {A : Around} {E : Value → Shared → Prop} {s : Shared} {Q : List (Str × Value) → Shared → Prop} {fd : FuncData} {v0 d0 : Value} (h1 : fd.params.posonlyargs = []) (h2 : fd.params.args.map (·.arg) = [Str.ofString "self", Str.ofString "headers"]) (h3 : fd.params.kwonlyargs.map (·.arg) = []) (h4 : fd.params.vararg = none) (h5 : fd.params.kwarg = none) {T : Addr} (hd : fd.defaults = .ref T) (hT : ∀ Q' : Option (Array Value) → Shared → Prop, Q' (some #[d0]) s → wpAny M A (seqItems? (.ref T)) Q' E s) (q : Q [(Str.ofString "self", v0), (Str.ofString "headers", d0)] s) : wpAny M A (bindArgs fd ⟨[v0], []⟩) Q E s := by
  have c1 : (Str.ofString "self" == Str.ofString "headers") = false := by decide +kernel
  have c2 : (Str.ofString "headers" == Str.ofString "self") = false := by decide +kernel
  simp only [bindArgs, h1, h2, h3, h4, h5, hd, List.map_nil, List.nil_append, List.forIn_nil, pure_bind, List.zip, List.zipWith, List.length_cons, List.length_nil]
  refine wpAny_bind (hT _ ?_)
  simp [List.lookup, List.contains, List.elem, c1, c2]
  exact wpAny_pure q
theorem bd_conv {M : Model} {A : Around} {E : Value → Shared → Prop} {s : Shared} {Q : List (Str × Value) → Shared → Prop} {fd : FuncData} {v0 v1 k0 : Value} (h1 : fd.params.posonlyargs = []) (h2 : fd.params.args.map (·.arg) = [Str.ofString "self", Str.ofString "value"]) (h3 : fd.params.kwonlyargs.map (·.arg) = [Str.ofString "name"]) (h4 : fd.params.vararg = none) (h5 : fd.params.kwarg = none) (hd : fd.defaults = .none) (q : Q [(Str.ofString "self", v0), (Str.ofString "value", v1), (Str.ofString "name", k0)] s) : wpAny M A (bindArgs fd ⟨[v0, v1], [(Str.ofString "name", k0)]⟩) Q E s := by
  have c1 : (Str.ofString "self" == Str.ofString "value") = false := by decide +kernel
  have c2 : (Str.ofString "self" == Str.ofString "name") = false := by decide +kernel
  have c3 : (Str.ofString "value" == Str.ofString "self") = false := by decide +kernel
  have c4 : (Str.ofString "value" == Str.ofString "name") = false := by decide +kernel
  have c5 : (Str.ofString "name" == Str.ofString "self") = false := by decide +kernel
  have c6 : (Str.ofString "name" == Str.ofString "value") = false := by decide +kernel
  simp only [bindArgs, h1, h2, h3, h4, h5, hd, List.map_nil, List.nil_append, List.forIn_nil, pure_bind, List.zip, List.zipWith, List.length_cons, List.length_nil]
  simp only [List.forIn_cons, List.forIn_nil, List.contains, List.elem, List.lookup, c1, c2, c3, c4, c5, c6, beq_self_eq_true, Bool.or_true, Bool.or_false, Bool.false_or, if_true, if_false, Option.isSome_none, Bool.false_eq_true, pure_bind]
  refine wpAny_bind (wpAny_of_eq (a := none) rfl ?_)
  simp [List.lookup, List.contains, List.elem, c1, c2, c3, c4, c5, c6]
  exact wpAny_pure q
theorem bd_get2 {M : Model} {A : Around} {E : Value → Shared → Prop} {s : Shared} {Q : List (Str × Value) → Shared → Prop} {fd : FuncData} {v0 v1 d0 : Value} (h1 : fd.params.posonlyargs = []) (h2 : fd.params.args.map (·.arg) = [Str.ofString "self", Str.ofString "name", Str.ofString "default"]) (h3 : fd.params.kwonlyargs.map (·.arg) = []) (h4 : fd.params.vararg = none) (h5 : fd.params.kwarg = none) {T : Addr} (hd : fd.defaults = .ref T) (hT : ∀ Q' : Option (Array Value) → Shared → Prop, Q' (some #[d0]) s → wpAny M A (seqItems? (.ref T)) Q' E s) (q : Q [(Str.ofString "self", v0), (Str.ofString "name", v1), (Str.ofString "default", d0)] s) : wpAny M A (bindArgs fd ⟨[v0, v1], []⟩) Q E s := by
  have c1 : (Str.ofString "self" == Str.ofString "name") = false := by decide +kernel
  have c2 : (Str.ofString "self" == Str.ofString "default") = false := by decide +kernel
  have c3 : (Str.ofString "name" == Str.ofString "self") = false := by decide +kernel
  have c4 : (Str.ofString "name" == Str.ofString "default") = false := by decide +kernel
  have c5 : (Str.ofString "default" == Str.ofString "self") = false := by decide +kernel
  have c6 : (Str.ofString "default" == Str.ofString "name") = false := by decide +kernel
  simp only [bindArgs, h1, h2, h3, h4, h5, hd, List.map_nil, List.nil_append, List.forIn_nil, pure_bind, List.zip, List.zipWith, List.length_cons, List.length_nil]
  refine wpAny_bind (hT _ ?_)
  simp [List.lookup, List.contains, List.elem, c1, c2, c3, c4, c5, c6]
  exact wpAny_pure q
theorem bd_addh {M : Model} {A : Around} {E : Value → Shared → Prop} {s : Shared} {Q : List (Str × Value) → Shared → Prop} {fd : FuncData} {v0 v1 v2 : Value} (h1 : fd.params.posonlyargs = []) (h2 : fd.params.args.map (·.arg) = [Str.ofString "self", Str.ofString "_name", Str.ofString "_value"]) (h3 : fd.params.kwonlyargs.map (·.arg) = []) (h4 : fd.params.vararg = none) {ka : Arg} (h5 : fd.params.kwarg = some ka) (h6 : ka.arg = Str.ofString "_params") (hd : fd.defaults = .none) (q : Q [(Str.ofString "self", v0), (Str.ofString "_name", v1), (Str.ofString "_value", v2), (Str.ofString "_params", .ref s.heap.objs.size)] { s with heap := s.heap.push { cls := .type "dict", data := .dict #[] } }) : wpAny M A (bindArgs fd ⟨[v0, v1, v2], []⟩) Q E s := by
  have c1 : (Str.ofString "self" == Str.ofString "_name") = false := by decide +kernel
  have c2 : (Str.ofString "self" == Str.ofString "_value") = false := by decide +kernel
  have c3 : (Str.ofString "_name" == Str.ofString "self") = false := by decide +kernel
  have c4 : (Str.ofString "_name" == Str.ofString "_value") = false := by decide +kernel
  have c5 : (Str.ofString "_value" == Str.ofString "self") = false := by decide +kernel
  have c6 : (Str.ofString "_value" == Str.ofString "_name") = false := by decide +kernel
  simp only [bindArgs, h1, h2, h3, h4, h5, hd, h6, List.map_nil, List.nil_append, List.forIn_nil, pure_bind, List.zip, List.zipWith, List.length_cons, List.length_nil]
  refine wpAny_bind (wpAny_of_eq (a := none) rfl ?_)
  simp [List.lookup, List.contains, List.elem, c1, c2, c3, c4, c5, c6, h6]
  refine wpAny_bind (wpAny_alloc ?_)
  exact wpAny_pure q
end Mine

-- RX
namespace Mine
open PySem PySem.W PySem.Calls PyProof.Rows PySem.SeqAt

theorem plainAttrs_pat : PlainAttrs "re.Pattern" :=
  ⟨⟨"object.__getattribute__", by rw [typeLookup_type, builtinLookup_eq_fast]; kernel_rfl, by decide +kernel⟩, by rw [typeLookup_type, builtinLookup_eq_fast]; kernel_rfl⟩
theorem slot_search : Slot "re.Pattern" "search" "re.Pattern.search" :=
  .of (owner := "re.Pattern") (n := "search") (by rw [typeLookup_type, builtinLookup_eq_fast]; kernel_rfl) (by decide +kernel) (by decide +kernel) (by decide +kernel)
    (by first | exact .inl (by decide +kernel) | exact .inr (by decide +kernel)) (by rw [isSubtype_type]; kernel_rfl)
theorem type_search : typeOf (.builtin "re.Pattern.search") = pure (.type "method_descriptor") := by show builtinType _ = _; rw [builtinType_eq_fast]; kernel_rfl
theorem entry_search : entryFor table "re.Pattern.search" = some Builtin.«re.Pattern.search» := entryFor_of_tree (by kernel_rfl)
theorem args_search (a b : Value) : argsOk "re.Pattern.search" ⟨[a, b], []⟩ := by
  unfold argsOk; kernel_rfl

/-- a set that takes no sign of a text -/
def NoHit (code : Array Nat) (x : List Nat) : Prop := ∀ c ∈ x, ∀ seen, ∃ seen', Sre.inSet code c code.size 5 true seen = .ok (false, seen')

theorem admitted_none {m : Sre.M} {code : Array Nat} {x : List Nat} (hc : m.code = code) (ht : m.text = x.toArray) (hl : m.lim = x.length) (h : NoHit code x) : ∀ (fuel s : Nat) seen, ∃ seen', Sre.M.admitted m fuel s seen = .ok (Option.none, seen')
  | 0, s, seen => ⟨seen, rfl⟩
  | fuel + 1, s, seen => by
    unfold Sre.M.admitted
    by_cases hs : s ≥ m.lim
    · exact ⟨seen, by rw [if_pos hs]⟩
    · rw [if_neg hs, hc, ht]
      have hlt : s < x.length := by omega
      obtain ⟨seen', e⟩ := h (x.toArray.getD s 0) (by simp [Array.getD, hlt]) seen
      rw [e]
      exact admitted_none hc ht hl h fuel (s + 1) seen'

theorem wp_rules {M : Model} {A : Around} {E : Value → Shared → Prop} {s : Shared} {p : Nat → Bool} {f : Nat → String} {Q : PUnit → Shared → Prop} (h : Q ⟨⟩ s) : ∀ (l : List Nat), wpAny M A (forIn l PUnit.unit fun i _ => if p i = true then (do rule (f i); pure (ForInStep.yield PUnit.unit)) else pure (ForInStep.yield PUnit.unit)) Q E s
  | [] => wpAny_pure h
  | i :: r => by
    rw [List.forIn_cons]
    refine wpAny_bind ?_
    split
    · exact wpAny_bind (wpAny_rule (wpAny_pure (wp_rules h r)))
    · exact wpAny_pure (wp_rules h r)

theorem runToEnd_none {M : Model} {A : Around} {E : Value → Shared → Prop} {s : Shared} {m : Sre.M} {Q : Option Sre.M → Shared → Prop} (h1 : m.outcome = none) (h2 : m.answer = some false) (h3 : m.frames = []) (h : Q none s) : wpAny M A (Builtin.Re.reRunToEnd m) Q E s := by
  have e : Builtin.Re.reDrive (2 ^ 64) m = pure { m with outcome := some .failed } := by
    have : (2 : Nat) ^ 64 = (2 ^ 64 - 1) + 1 := by decide
    rw [this]
    unfold Builtin.Re.reDrive
    have hr : m.runFor Builtin.Re.reTurnSteps = { m with outcome := some .failed } := by
      show m.runFor 4 = _
      unfold Sre.M.runFor
      rw [h1]
      have hst : m.step = { m with outcome := some .failed } := by
        unfold Sre.M.step
        rw [h1, h2, h3]
        rfl
      simp only [Option.isSome_none, Bool.false_eq_true, if_false]
      rw [hst]
      unfold Sre.M.runFor
      rfl
    simp only [hr]
    rfl
  unfold Builtin.Re.reRunToEnd
  rw [e]
  refine wpAny_bind (wpAny_pure ?_)
  refine wpAny_bind (wpAny_mono (wp_rules (Q := fun _ s' => s' = s) rfl _) (fun _ s' hs => ?_) fun _ _ e => e)
  subst hs
  exact wpAny_pure h

theorem attemptFrom_none {m : Sre.M} {code : Array Nat} {x : List Nat} {s : Nat} (hf : m.hasFirstSet = true) (hc : m.code = code) (ht : m.text = x.toArray) (hl : m.lim = x.length) (h : NoHit code x) (h1 : m.outcome = none) (h3 : m.frames = []) :
    (m.attemptFrom s true).outcome = none ∧ (m.attemptFrom s true).answer = some false ∧ (m.attemptFrom s true).frames = [] := by
  unfold Sre.M.attemptFrom
  rw [hf]
  simp only [Bool.not_true, Bool.false_eq_true, if_false]
  obtain ⟨seen', e'⟩ := admitted_none hc ht hl h (m.lim + 1 - s) s m.seen
  rw [e']
  exact ⟨h1, rfl, h3⟩
theorem forSearch_none {code : Array Nat} {x : List Nat} {g b : Nat} (hh : Sre.header code = (1, b)) (hf : ∀ m : Sre.M, m.code = code → m.hasFirstSet = true) (h : NoHit code x) :
    (Sre.forSearch code x.toArray g 0 x.length false).outcome = none ∧ (Sre.forSearch code x.toArray g 0 x.length false).answer = some false ∧ (Sre.forSearch code x.toArray g 0 x.length false).frames = [] := by
  unfold Sre.forSearch
  simp only [hh]
  by_cases h0 : 0 > x.length ∨ x.length - 0 < 1
  · have h0' : (decide (0 > x.length) || decide (x.length - 0 < 1)) = true := by simpa using h0
    simp only [h0', if_true]
    exact ⟨rfl, rfl, rfl⟩
  · have h0' : (decide (0 > x.length) || decide (x.length - 0 < 1)) = false := by simpa using h0
    simp only [h0', if_false, Bool.false_eq_true]
    refine attemptFrom_none (code := code) (x := x) (hf _ ?_) ?_ ?_ ?_ h ?_ ?_ <;> rfl

theorem meets_search_none {p T : Addr} {op oT : Obj} {x : List Nat} {t : Tok} {fs items : Array Value} {k b : Nat} {code : Array Nat} (hfs : op.data = .fields fs) (hw : Builtin.Re.reRawNat (fs.getD 6 .none) = 0) (hc : fs.getD 5 .none = .ref T) (hit : oT.data = .seq items k)
    (hcode : (items.map Builtin.Re.reRawOf).map (·.toNat) = code) (hh : Sre.header code = (1, b)) (hf : ∀ m : Sre.M, m.code = code → m.hasFirstSet = true) (h : NoHit code x) (hz : x.length ≤ 1000000) :
    Meets (Builtin.«re.Pattern.search» ⟨[.ref p, .str (mkS x) t], []⟩) (fun _ R s => s.heap.get? p = some op ∧ s.heap.get? T = some oT ∧ R (.ok (.ret .none)) s) := .of_wp fun prog w A R s h' => by
  obtain ⟨hp, hT, hR⟩ := h'
  unfold Builtin.«re.Pattern.search»
  refine wpAny_bind ?_
  unfold Builtin.Re.reTarget
  show wpAny _ _ (Builtin.Re.reNamed _ _ _ _ _ _ >>= _) _ _ _
  refine wpAny_bind (wpAny_of_eq (a := [some (Value.str (mkS x) t), none, none]) rfl ?_)
  dsimp only
  refine wpAny_bind (wpAny_pure ?_)
  refine wpAny_bind (wpAny_pure ?_)
  refine wpAny_bind (wpAny_fieldsOf hp hfs ?_)
  refine wpAny_bind (m := Builtin.Re.reTextOf (.str (mkS x) t)) (wpAny_of_eq (a := (x.toArray, 0)) rfl ?_)
  rw [hw, hc]
  show wpAny _ _ (Builtin.Re.reRawItems (.ref T) >>= _) _ _ _
  unfold Builtin.Re.reRawItems
  refine wpAny_bind (wpAny_bind (wpAny_seqItems hT hit (wpAny_pure ?_)))
  refine wpAny_pure ?_
  dsimp only
  simp only [Option.getD_some, hcode]
  have e1 : min (Int.toNat 0) x.toArray.size = 0 := by simp
  have e2 : min (2 ^ 63 - 1 : Int).toNat x.toArray.size = x.length := by simp; omega
  rw [e1, e2]
  unfold Builtin.Re.reAnswer
  obtain ⟨q1, q2, q3⟩ := forSearch_none (g := Builtin.Re.reRawNat (fs.getD 2 .none)) hh hf h
  refine wpAny_bind (runToEnd_none q1 q2 q3 ?_)
  exact wpAny_pure ⟨_, rfl, hR⟩

def code41 : Array Nat := #[14, 10, 4, 1, 1, 22, 0, 31, 16, 127, 0, 13, 7, 22, 0, 31, 16, 127, 0, 1]
def code46 : Array Nat := #[14, 14, 4, 1, 1, 9, 4294966783, 0, 0, 2147483648, 0, 0, 0, 0, 0, 13, 11, 9, 4294966783, 0, 0, 2147483648, 0, 0, 0, 0, 0, 1]
def okN (x : List Nat) : Bool := x.all fun c => decide (31 < c) && c != 127
def okV (x : List Nat) : Bool := x.all fun c => decide (c < 128) && !(code46.getD (6 + c / 32) 0).testBit (c % 32)
section
variable {code : Array Nat} {c fuel i : Nat} {yes : Bool} {seen : Sre.Seen}
theorem inSet_range (h : Sre.ops[code.getD (i + 0) 0]? = some .RANGE) (hn : (decide (code.getD (i + 1) 0 ≤ c) && decide (c ≤ code.getD (i + 2) 0)) = false) : Sre.inSet code c (fuel + 1) i yes seen = Sre.inSet code c fuel (i + 3) yes (seen.add (code.getD (i + 0) 0)) := by
  unfold Sre.inSet
  dsimp only
  rw [h]
  dsimp only
  rw [hn, if_neg Bool.false_ne_true]
  cases fuel <;> rfl
theorem inSet_lit (h : Sre.ops[code.getD (i + 0) 0]? = some .LITERAL) (hn : (c == code.getD (i + 1) 0) = false) : Sre.inSet code c (fuel + 1) i yes seen = Sre.inSet code c fuel (i + 2) yes (seen.add (code.getD (i + 0) 0)) := by
  unfold Sre.inSet
  dsimp only
  rw [h]
  dsimp only
  rw [hn, if_neg Bool.false_ne_true]
  cases fuel <;> rfl
theorem inSet_set (h : Sre.ops[code.getD (i + 0) 0]? = some .CHARSET) (hn : (decide (c < 256) && (code.getD (i + (1 + c / 32)) 0).testBit (c % 32)) = false) : Sre.inSet code c (fuel + 1) i yes seen = Sre.inSet code c fuel (i + 9) yes (seen.add (code.getD (i + 0) 0)) := by
  unfold Sre.inSet
  dsimp only
  rw [h]
  dsimp only
  rw [hn, if_neg Bool.false_ne_true]
  cases fuel <;> rfl
theorem inSet_end (h : Sre.ops[code.getD (i + 0) 0]? = some .FAILURE) : Sre.inSet code c (fuel + 1) i yes seen = .ok (!yes, seen.add (code.getD (i + 0) 0)) := by
  unfold Sre.inSet
  dsimp only
  rw [h]
end
theorem nohit41 {x : List Nat} (h : okN x = true) : NoHit code41 x := fun c hc seen => by
  have := List.all_eq_true.mp h c hc
  simp at this
  obtain ⟨h1, h2⟩ := this
  apply Exists.intro
  show Sre.inSet code41 c 20 5 true seen = _
  rw [inSet_range (i := 5) rfl (by show (decide (0 ≤ c) && decide (c ≤ 31)) = false; simp; omega), inSet_lit (i := 8) rfl (by show (c == 127) = false; simpa using h2), inSet_end (i := 10) rfl]
  rfl
theorem nohit46 {x : List Nat} (h : okV x = true) : NoHit code46 x := fun c hc seen => by
  have := List.all_eq_true.mp h c hc
  simp only [Bool.and_eq_true, decide_eq_true_eq, Bool.not_eq_true'] at this
  obtain ⟨h1, h2⟩ := this
  apply Exists.intro
  show Sre.inSet code46 c 28 5 true seen = _
  have e : 5 + (1 + c / 32) = 6 + c / 32 := by omega
  rw [inSet_set (i := 5) rfl (by rw [e, h2]; simp), inSet_end (i := 14) rfl]
  rfl
theorem first41 (m : Sre.M) (h : m.code = code41) : m.hasFirstSet = true := by unfold Sre.M.hasFirstSet; rw [h]; decide
theorem first46 (m : Sre.M) (h : m.code = code46) : m.hasFirstSet = true := by unfold Sre.M.hasFirstSet; rw [h]; decide

section
variable {D : WD} {n : Nat} {f : Fm} {ns : Nms} {m : Loc} {P : List Ck}
/-- what lies at a pattern's place -/
structure Pat (D : WD) (p : Addr) (code : Array Nat) : Prop where
  at' : ∃ op T oT fs items k, D.K.lookup p = some op ∧ op.cls = .type "re.Pattern" ∧ op.dict = none ∧ op.data = .fields fs ∧ Builtin.Re.reRawNat (fs.getD 6 .none) = 0 ∧ fs.getD 5 .none = .ref T ∧ D.K.lookup T = some oT ∧ oT.data = .seq items k ∧
    (items.map Builtin.Re.reRawOf).map (·.toNat) = code
theorem g_search {p : Addr} {code : Array Nat} {Q : AVal × List AVal → Loc → List Ck → Prop} (h : Pat D p code) (q : Q (.blt "re.Pattern.search", [.ref p]) m P) : Gm D n f ns (.ref p) "search" m P Q := fun pl A g s vs r pf S hv => by
  obtain ⟨v, rfl, h1⟩ := Vs.one hv
  simp only [V] at h1; subst h1
  obtain ⟨op, T, oT, fs, items, k, a1, a2, a3, a4, a5, a6, a7, a8, a9⟩ := h.at'
  have hp := S.keep _ _ (pf.K _ _ a1)
  exact getMethod_builtin ⟨op, hp, a2⟩ plainAttrs_pat slot_search type_search (fun a e => by cases e; exact ⟨op, hp, a3⟩) ⟨(.blt "re.Pattern.search", [.ref p]), m, P, TK.refl _, ⟨rfl, Vs1 (a := .ref p) rfl⟩, S, q⟩
theorem c_search {p : Addr} {code : Array Nat} {x : List Nat} {b : Nat} {Q : AVal → Loc → List Ck → Prop} (h : Pat D p code) (hh : Sre.header code = (1, b)) (hf : ∀ m : Sre.M, m.code = code → m.hasFirstSet = true) (hn : NoHit code x) (hz : x.length ≤ 1000000) (q : Q .none m P) :
    Cal D n f ns (.blt "re.Pattern.search") [.ref p, .str x] [] [] m P Q := .b fun A g s vs r pf S hv => by
  obtain ⟨v, w, rfl, h1, h2⟩ := Vs.two hv
  simp only [V] at h1 h2
  subst h1
  obtain ⟨t, rfl⟩ := h2
  obtain ⟨op, T, oT, fs, items, k, a1, a2, a3, a4, a5, a6, a7, a8, a9⟩ := h.at'
  have hp := S.keep _ _ (pf.K _ _ a1)
  have hT := S.keep _ _ (pf.K _ _ a7)
  exact call_meets slot_search ⟨op, hp, a2⟩ entry_search (args_search _ _) (meets_search_none a4 a5 a6 a8 a9 hh hf hn hz) ⟨hp, hT, .none, m, P, TK.refl _, rfl, S, q⟩
theorem c_search41 {p : Addr} {x : List Nat} {Q : AVal → Loc → List Ck → Prop} (h : Pat D p code41) (hn : okN x = true) (hz : x.length ≤ 1000000) (q : Q .none m P) : Cal D n f ns (.blt "re.Pattern.search") [.ref p, .str x] [] [] m P Q :=
  c_search (b := 11) h (by decide) first41 (nohit41 hn) hz q
theorem c_search46 {p : Addr} {x : List Nat} {Q : AVal → Loc → List Ck → Prop} (h : Pat D p code46) (hn : okV x = true) (hz : x.length ≤ 1000000) (q : Q .none m P) : Cal D n f ns (.blt "re.Pattern.search") [.ref p, .str x] [] [] m P Q :=
  c_search (b := 15) h (by decide) first46 (nohit46 hn) hz q
theorem c_typeS {x : List Nat} {Q : AVal → Loc → List Ck → Prop} (q : Q (.typ "str") m P) : Cal D n f ns (.typ "type") [.str x] [] [] m P Q := .t (.c1 (c := .typ "str") (fun A s t Q' K => call_type_of (typeIs_str _ _ _) (by decide) (K (.type "str") s.toks rfl)) q)
end
end Mine

-- WV
namespace Mine
open PySem PySem.W PySem.Calls PyProof.Rows PySem.SeqAt

theorem slc_ab {α : Type} (x : List α) {a b : Nat} (h1 : a ≤ b) (h2 : b ≤ x.length) : slc x (some (a : Int)) (some (b : Int)) Option.none = (x.take b).drop a := by
  unfold slc
  have := sliceIdx_eq (some (a : Int)) (some (b : Int)) Option.none x.length
  rw [← this]
  show (Builtin.Str.strSliceIndices (some (a : Int)) (some (b : Int)) 1 x.length).filterMap (x[·]?) = _
  rw [StrLaws.strSliceIndices_plain h1 h2, StrLaws.picks x (b - a) a (by omega), List.drop_take]
theorem slc_bounds {α : Type} (x : List α) {lo hi lo' hi' st : Option Int} (h : sliceBounds lo hi st x.length = sliceBounds lo' hi' st x.length) : slc x lo hi st = slc x lo' hi' st := by
  unfold slc; rw [h]
/-- a cut between two places, wherever they are -/
theorem slc_cut {α : Type} (x : List α) (a b : Nat) : slc x (some (a : Int)) (some (b : Int)) Option.none = (x.take b).drop a := by
  by_cases h : a ≤ b
  · have e : slc x (some (a : Int)) (some (b : Int)) Option.none = slc x (some ((min a x.length : Nat) : Int)) (some ((min b x.length : Nat) : Int)) Option.none := by
      refine slc_bounds x ?_
      simp only [sliceBounds, Option.getD_none]
      have h1 : ¬ ((a : Int) < 0) := by omega
      have h2 : ¬ ((b : Int) < 0) := by omega
      have h3 : ¬ (((min a x.length : Nat) : Int) < 0) := by omega
      have h4 : ¬ (((min b x.length : Nat) : Int) < 0) := by omega
      simp only [h1, h2, h3, h4, if_false]
      refine Prod.ext ?_ (Prod.ext ?_ rfl)
      · simp; omega
      · simp; omega
    rw [e, slc_ab x (by omega) (by omega)]
    by_cases hb : b ≤ x.length
    · have : min b x.length = b := by omega
      have ha : min a x.length = a := by omega
      rw [this, ha]
    · have : min b x.length = x.length := by omega
      rw [this, List.take_length, List.take_of_length_le (by omega)]
      by_cases ha : a ≤ x.length
      · have : min a x.length = a := by omega
        rw [this]
      · have : min a x.length = x.length := by omega
        rw [this, List.drop_length, List.drop_eq_nil_of_le (by omega)]
  · have e : (x.take b).drop a = [] := List.drop_eq_nil_of_le (by simp; omega)
    rw [e]
    have hlen : (sliceRange (sliceBounds (some (a : Int)) (some (b : Int)) Option.none x.length).1 (sliceBounds (some (a : Int)) (some (b : Int)) Option.none x.length).2.1 (sliceBounds (some (a : Int)) (some (b : Int)) Option.none x.length).2.2) = [] := by
      simp only [sliceBounds, Option.getD_none, sliceRange]
      have h1 : ¬ ((a : Int) < 0) := by omega
      have h2 : ¬ ((b : Int) < 0) := by omega
      have h3 : ¬ (max (0 : Int) (min (a : Int) (x.length : Int)) < max 0 (min (b : Int) (x.length : Int))) := by omega
      simp [h1, h2, h3]
    unfold slc
    rw [hlen]; rfl
theorem slc_to {α : Type} (x : List α) (b : Nat) : slc x Option.none (some (b : Int)) Option.none = x.take b := by
  have e : slc x Option.none (some (b : Int)) Option.none = slc x (some ((0 : Nat) : Int)) (some (b : Int)) Option.none := by
    refine slc_bounds x ?_
    simp [sliceBounds]
    try omega
  rw [e, slc_cut]; rfl
theorem slc_from {α : Type} (x : List α) (a : Nat) : slc x (some (a : Int)) Option.none Option.none = x.drop a := by
  have e : slc x (some (a : Int)) Option.none Option.none = slc x (some (a : Int)) (some ((x.length : Nat) : Int)) Option.none := by
    refine slc_bounds x ?_
    simp [sliceBounds]
    try omega
  rw [e, slc_cut, List.take_length]
theorem slc_all {α : Type} (x : List α) : slc x Option.none Option.none Option.none = x := by
  have e : slc x Option.none Option.none Option.none = slc x (some ((0 : Nat) : Int)) Option.none Option.none := by
    refine slc_bounds x ?_
    simp [sliceBounds]
    try omega
  rw [e, slc_from]; rfl
theorem fm_congr {α β : Type} {g h : β → Option α} : ∀ {l : List β}, (∀ b ∈ l, g b = h b) → l.filterMap g = l.filterMap h
  | [], _ => rfl
  | b :: r, e => by
    rw [List.filterMap_cons, List.filterMap_cons, e b (List.mem_cons_self ..), fm_congr fun c hc => e c (List.mem_cons_of_mem _ hc)]
theorem slc_rev {α : Type} (x : List α) : slc x Option.none Option.none (some (-1)) = x.reverse := by
  unfold slc
  have hb : sliceBounds Option.none Option.none (some (-1)) x.length = ((x.length : Int) - 1, -1, -1) := by simp [sliceBounds]
  rw [hb]
  have hr : sliceRange ((x.length : Int) - 1) (-1) (-1) = (List.range x.length).map fun k => x.length - 1 - k := by
    unfold sliceRange
    by_cases h0 : x.length = 0
    · simp [h0]
    · have h1 : ((x.length : Int) - 1 > -1) := by omega
      have h2 : ¬ ((-1 : Int) > 0) := by omega
      simp only [h1, h2, if_true, if_false]
      have h3 : (((x.length : Int) - 1 - -1 - -1 - 1) / (- -1)).toNat = x.length := by
        have : ((x.length : Int) - 1 - -1 - -1 - 1) = x.length := by omega
        rw [this]; simp
      rw [h3]
      refine List.map_congr_left fun k hk => ?_
      have := List.mem_range.mp hk
      omega
  rw [hr, List.filterMap_map]
  have e1 : (List.range x.length).filterMap ((fun j => x[j]?) ∘ fun k => x.length - 1 - k) = (List.range x.length).filterMap fun k => x.reverse[k]? := by
    refine fm_congr fun k hk => ?_
    have := List.mem_range.mp hk
    show x[x.length - 1 - k]? = _
    rw [List.getElem?_reverse this]
  have e2 := StrLaws.picks x.reverse x.length 0 (by simp)
  rw [e1]
  have e3 : x.reverse.take x.length = x.reverse := List.take_of_length_le (by simp)
  refine Eq.trans ?_ e3
  simpa using e2
end Mine

-- WX
namespace Mine
open PySem PySem.W PySem.Calls PyProof.Rows PySem.SeqAt

/-- a dict whose keys are texts -/
def dct (prog : Program) (w : World) (d : Addr) (ps : List (List Nat × AVal)) : Ck where
  foot := [d]
  holds h := (d == sysModules) = false ∧ ∃ kvs, h.DictOf (PySem.strKind prog w) d kvs ∧ kvs.map (·.1) = ps.map (fun p => mkS p.1) ∧ Vs h (ps.map (·.2)) (kvs.map (·.2))
  stable h h' k T := by
    rintro ⟨hs, kvs, ⟨o, es, ep, e, r⟩, a, v⟩
    exact ⟨hs, kvs, ⟨o, es, ep, k d (.head _) o e, r⟩, a, v.mono T⟩
  live h := by
    rintro ⟨hs, kvs, ⟨o, es, ep, e, _, hd, _⟩, a, v⟩ x hx
    simp at hx; subst hx
    exact ⟨o, e, .dict hd⟩

theorem isStr_self (x : List Nat) (t : Tok) : Value.isStrOf (mkS x) (.str (mkS x) t) = true := by simp [Value.isStrOf]
theorem valueAt_dct {h : Heap} : ∀ {kvs : List (Str × Value)} {ps : List (List Nat × AVal)} (x : List Nat), kvs.map (·.1) = ps.map (fun p => mkS p.1) → Vs h (ps.map (·.2)) (kvs.map (·.2)) →
    match ps.lookup x with | some b => ∃ v, valueAt kvs (mkS x) = some v ∧ V h b v | none => valueAt kvs (mkS x) = none
  | [], [], _, _, _ => rfl
  | [], _ :: _, _, e, _ => by simp at e
  | _ :: _, [], _, e, _ => by simp at e
  | (k, v) :: kvs, (y, b) :: ps, x, e, hv => by
    simp only [List.map_cons, List.cons.injEq] at e
    simp only [List.map_cons, Vs] at hv
    obtain ⟨e1, e2⟩ := e
    obtain ⟨v', r, q, hV, hr⟩ := hv
    injection q with q1 q2
    subst q1 q2 e1
    have ih := valueAt_dct x e2 hr
    rw [List.lookup_cons]
    by_cases hx : x = y
    · subst hx
      simp only [beq_self_eq_true]
      exact ⟨v, by simp [valueAt], hV⟩
    · have h1 : (x == y) = false := by simpa using hx
      have h2 : ¬ mkS y = mkS x := fun q => hx (mkS_inj q).symm
      rw [h1]
      dsimp only
      have e : valueAt ((mkS y, v) :: kvs) (mkS x) = valueAt kvs (mkS x) := by
        unfold valueAt
        rw [List.find?_cons]
        simp [h2]
      rw [e]
      exact ih
/-- what is stored under a key -/
def setD (x : List Nat) (b : AVal) : List (List Nat × AVal) → List (List Nat × AVal)
  | [] => [(x, b)]
  | (y, c) :: r => if x = y then (y, b) :: r else (y, c) :: setD x b r

section
variable {D : WD} {n : Nat} {f : Fm} {ns : Nms} {m : Loc} {P : List Ck}
theorem St.newDict {g : Heap} {s : Shared} (p : PF D g) (S : St D g f ns m P s) {tk : Nat} : St D g f ns m (dct D.prog D.w s.heap.objs.size [] :: P) { s with heap := s.heap.push { cls := .type "dict", data := .dict #[] }, toks := tk } :=
  S.newc (c' := dct D.prog D.w s.heap.objs.size []) (fun b o e => Heap.get?_push_of_some _ e) ⟨p.fresh1 S, [], Heap.DictOf.new _, rfl, Vs.nil⟩ (fun x hx => fresh_size x hx) (by simp [dct])

theorem o_inD {d : Addr} {ps : List (List Nat × AVal)} {x : List Nat} {Q : AVal → Loc → List Ck → Prop} (hm : dct D.prog D.w d ps ∈ P) (q : Q (.bool (ps.lookup x).isSome) m P) : Wp D n f ns V [.str x, .ref d] (Op2 (compareOp .In)) m P Q := fun A g s vs r p S hv => by
  obtain ⟨v, w, rfl, h1, h2⟩ := Vs.two hv
  simp only [V] at h1 h2
  subst h2
  obtain ⟨t, rfl⟩ := h1
  obtain ⟨hs, kvs, hd, hk, hvs⟩ := S.holds _ hm
  have := valueAt_dct x hk hvs
  refine wpAny_in_of (knd := PySem.strKind D.prog D.w) (k := mkS x) (isStr_self x t) hs hd.mapOf ?_
  have e : (valueAt kvs (mkS x)).isSome = (ps.lookup x).isSome := by
    cases hb : ps.lookup x with
    | some b => rw [hb] at this; obtain ⟨v, e, _⟩ := this; rw [e]; rfl
    | none => rw [hb] at this; rw [this]; rfl
  rw [e]
  exact ok0 (s0 := s) S V.bool q
theorem o_notInD {d : Addr} {ps : List (List Nat × AVal)} {x : List Nat} {Q : AVal → Loc → List Ck → Prop} (hm : dct D.prog D.w d ps ∈ P) (q : Q (.bool (!(ps.lookup x).isSome)) m P) : Wp D n f ns V [.str x, .ref d] (Op2 (compareOp .NotIn)) m P Q := fun A g s vs r p S hv => by
  obtain ⟨v, w, rfl, h1, h2⟩ := Vs.two hv
  simp only [V] at h1 h2
  subst h2
  obtain ⟨t, rfl⟩ := h1
  obtain ⟨hs, kvs, hd, hk, hvs⟩ := S.holds _ hm
  have := valueAt_dct x hk hvs
  refine wpAny_notIn_of (knd := PySem.strKind D.prog D.w) (k := mkS x) (isStr_self x t) hs hd.mapOf ?_
  have e : (valueAt kvs (mkS x)).isSome = (ps.lookup x).isSome := by
    cases hb : ps.lookup x with
    | some b => rw [hb] at this; obtain ⟨v, e, _⟩ := this; rw [e]; rfl
    | none => rw [hb] at this; rw [this]; rfl
  rw [e]
  exact ok0 (s0 := s) S V.bool q
theorem o_itemD {d : Addr} {ps : List (List Nat × AVal)} {x : List Nat} {b : AVal} {Q : AVal → Loc → List Ck → Prop} (hm : dct D.prog D.w d ps ∈ P) (hb : ps.lookup x = some b) (q : Q b m P) : Wp D n f ns V [.ref d, .str x] (Op2 getItem) m P Q := fun A g s vs r p S hv => by
  obtain ⟨v, w, rfl, h1, h2⟩ := Vs.two hv
  simp only [V] at h1 h2
  subst h1
  obtain ⟨t, rfl⟩ := h2
  obtain ⟨hs, kvs, hd, hk, hvs⟩ := S.holds _ hm
  have := valueAt_dct x hk hvs
  rw [hb] at this
  obtain ⟨v, e, hV⟩ := this
  exact wpAny_getItem_of (knd := PySem.strKind D.prog D.w) (k := mkS x) (isStr_self x t) hd.mapOf e (ok0 (s0 := s) S hV q)

/-- what .items() hands out -/
def vw (v d : Addr) : Ck where
  foot := [v]
  holds h := h.IsItemsView v d
  stable h h' k T := fun ⟨o, e, r⟩ => ⟨o, k v (.head _) o e, r⟩
  live h := fun ⟨o, e, c, _⟩ x hx => by
    simp at hx; subst hx
    exact ⟨o, e, .cls (by rw [c]; decide)⟩
theorem g_items {d : Addr} {ps : List (List Nat × AVal)} {Q : AVal × List AVal → Loc → List Ck → Prop} (hm : dct D.prog D.w d ps ∈ P) (q : Q (.blt "dict.items", [.ref d]) m P) : Gm D n f ns (.ref d) "items" m P Q := fun pl A g s vs r p S hv => by
  obtain ⟨v, rfl, h1⟩ := Vs.one hv
  simp only [V] at h1; subst h1
  obtain ⟨hs, kvs, hd, _⟩ := S.holds _ hm
  obtain ⟨o, es, ep, ho, hx, _⟩ := id hd
  exact getMethod_builtin hd.typeIs PySem.F.plainAttrs_dict PySem.F.slot_dict_items PySem.F.type_dict_items (fun a e => by cases e; exact ⟨o, ho, hx.2.1⟩) ⟨(.blt "dict.items", [.ref d]), m, P, TK.refl _, ⟨rfl, Vs1 (a := .ref d) rfl⟩, S, q⟩
theorem c_items {d : Addr} {ps : List (List Nat × AVal)} {Q : AVal → Loc → List Ck → Prop} (hm : dct D.prog D.w d ps ∈ P) (q : ∀ v, Q (.ref v) m (vw v d :: P)) : Cal D n f ns (.blt "dict.items") [.ref d] [] [] m P Q := .b fun A g s vs r p S hv => by
  obtain ⟨v, rfl, h1⟩ := Vs.one hv
  simp only [V] at h1; subst h1
  obtain ⟨hs, kvs, hd, _⟩ := S.holds _ hm
  have hk : ∀ b o, s.heap.get? b = some o → (s.heap.push { cls := .type "dict_items", data := .fields #[.ref d] }).get? b = some o := fun b o e => Heap.get?_push_of_some _ e
  exact call_meetsIn PySem.F.slot_dict_items hd.typeIs PySem.F.entry_dict_items (PySem.F.args_dict_items_1 _) (meets_dict_items (PySem.strKind D.prog D.w) d hs) ⟨⟨kvs, hd⟩, .ref s.heap.objs.size, m, _, .keeps hk, rfl, S.newc (tk := s.toks) (c' := vw s.heap.objs.size d) hk ⟨_, Heap.get?_push_size _ rfl, rfl, rfl⟩ (fun x hx => fresh_size x hx) (by simp [vw]), q _⟩

/-- a loop over the items of an empty dict -/
theorem Ex.forNone {target iter : Expr} {body orelse : List Stmt} {pos : Pos} {Q : AFlow → Loc → List Ck → Prop} (hh : D.hd = Option.none)
    (h : Ev D n f ns iter m P fun a m1 P1 => ∃ v d P', a = .ref v ∧ P1.Perm (vw v d :: dct D.prog D.w d [] :: P') ∧ Exs D n f ns orelse m1 P' Q)
    (hs : ∀ x, foldedSetIterable iter f.env x = pure x) : Ex D n f ns (.For target iter body orelse pos) m P Q := fun A g s vs r p S _ => by
  refine wpAny_For (h.run r p S .nil fun a m1 P1 v s1 T1 hv S1 q => ?_) hs
  obtain ⟨vv, d, P', rfl, hP, q⟩ := q
  simp only [V] at hv; subst hv
  have S1 := S1.perm hP
  have hvw := S1.holds _ (.head _)
  obtain ⟨hsy, kvs, hd, hk0, _⟩ := S1.holds _ (.tail _ (.head _))
  obtain rfl : kvs = [] := by simpa using hk0
  obtain ⟨o, es, ep, ho, hx, hdat, hks, hp, hnd⟩ := id hd
  have hdt : s1.heap.DictAt (PySem.strKind D.prog D.w) d [] ep := ⟨o, es, ho, hx, hdat, hks, hp, hnd⟩
  have S2 := S1.sub (P' := P') ((List.sublist_cons_self _ _).trans (List.sublist_cons_self _ _))
  have hkp : ∀ b o, s1.heap.get? b = some o → (s1.heap.push { cls := .type "dict_itemiterator", data := .fields #[.none, .bool false, .ref d, .int 0 0, .int (([] : List (Str × Value)).length : Nat) 0, .int ep 0, .none, .none] }).get? b = some o := fun b o e => Heap.get?_push_of_some _ e
  refine wpAny_pyIter_items hvw hdt ?_
  refine codeAny_forLoopG (fun k s' => s' = { s1 with heap := s1.heap.push { cls := .type "dict_itemiterator", data := .fields #[.none, .bool false, .ref d, .int 0 0, .int (([] : List (Str × Value)).length : Nat) 0, .int ep 0, .none, .none] } }) (fun k s' hs' => ?_) 0 rfl
  subst hs'
  refine wpAny_pyNext_items_end (kvs := []) (r.handled.trans hh) (Heap.get?_push_size _ rfl) ⟨o, es, hkp _ _ ho, hx, hdat, hks, hp, hnd⟩ rfl fun h' hx' => ?_
  have hk2 : ∀ b o, s1.heap.get? b = some o → h'.get? b = some o := fun b o e => hx' b o (Nat.ne_of_lt (Heap.lt_size e)) (hkp b o e)
  have S3 := S2.junk (tk := s1.toks) hk2
  exact q.run r p S3 .nil fun c m4 P4 x s4 T4 hx4 S4 q4 => ⟨c, m4, P4, (T1.trans (.keeps hk2)).trans T4, hx4, S4, q4⟩
end
end Mine

-- WY
namespace Mine
open PySem PySem.W PySem.Calls PyProof.Rows PySem.SeqAt

theorem Room.under {D : WD} {n : Nat} {A : Around} {c : Code} (r : Room D (n + 1) A) (hw : c.weight ≤ 1) (hu : c.cUnits ≤ 10) : Room D n (A.under c) :=
  ⟨by have := r.depth; show A.depth + c.weight + n < 900; omega, by have := r.units; show A.units + c.cUnits + 10 * n < 9000; omega, r.handled⟩

section
variable {D : WD} {n : Nat} {f : Fm} {ns : Nms} {m : Loc} {P : List Ck} {Q : AVal → Loc → List Ck → Prop}

/-- a class is called: its object, handed to its __init__ -/
theorem Cal.mk {C fI : Addr} {as ks : List AVal} {kn : List Str} (hm : makesIn D.K C = true) (hi : findIn D.K (.ref C) "__init__" = some (some (.ref fI))) (hf : typeIn D.K (.ref fI) = some (.type "function"))
    (h : ∀ x d, CodeC D n f ns (.ref x :: (as ++ ks)) (fun vs => .call (.ref fI) ⟨vs.head?.getD .none :: vs.tail.take as.length, kn.zip (vs.tail.drop as.length)⟩) m (inst x C d [] :: P) fun r m' P' => r = .none ∧ Q (.ref x) m' P') :
    Cal D (n + 1) f ns (.ref C) as ks kn m P Q := fun A g s vs r p S hv => by
  refine wpAny_call ?_
  obtain ⟨hh, gg, dd, tk, os⟩ := s
  have X := p.K.keeps S.keep
  refine make_core (makes_of X hm) (looks_findIn X hi) (fun self => bind_fn X self hf) (.inl rfl) ?_
  have hk1 : ∀ b o, hh.get? b = some o → ((hh.push emptyDict).push (instObj C hh.objs.size)).get? b = some o := fun b o e => Heap.get?_push_of_some _ (Heap.get?_push_of_some _ e)
  have hsz : (hh.push emptyDict).objs.size = hh.objs.size + 1 := Heap.size_push ..
  have S2 : St D g f ns m (inst (hh.objs.size + 1) C hh.objs.size [] :: P) ⟨(hh.push emptyDict).push (instObj C hh.objs.size), gg, dd, tk, os⟩ := by
    refine S.newc (c' := inst (hh.objs.size + 1) C hh.objs.size []) (tk := tk) hk1 ?_ (fun x hx => ?_) (by simp [inst])
    · refine ⟨⟨#[], ?_⟩, fun _ => none, ⟨emptyDict, #[], 0, ?_, rfl, fun _ he => by simp at he, fun _ => rfl, Nat.zero_le _⟩, fun _ => rfl⟩
      · rw [← hsz]; exact Heap.get?_push_size _ rfl
      · exact Heap.get?_push_of_some _ (Heap.get?_push_size _ rfl)
    · cases e : hh.get? x with
      | none => rfl
      | some o =>
        have hlt : x < hh.objs.size := Heap.lt_size e
        have hx : x = hh.objs.size + 1 ∨ x = hh.objs.size := by simpa [inst] using hx
        rcases hx with hx | hx
        · exact absurd (hx ▸ hlt) (by intro q; exact Nat.not_succ_le_self _ (Nat.le_of_succ_le q))
        · exact absurd (hx ▸ hlt) (Nat.lt_irrefl _)
  have T : TK hh ((hh.push emptyDict).push (instObj C hh.objs.size)) := .keeps hk1
  have hr : Room D n (A.under (.builtin "type.__call__" ⟨.ref C :: vs.take as.length, kn.zip (vs.drop as.length)⟩)) := by
    refine r.under ?_ ?_
    · exact Nat.le_of_ble_eq_true rfl
    · exact Nat.le_of_ble_eq_true rfl
  have key := h (hh.objs.size + 1) hh.objs.size _ g _ (.ref (hh.objs.size + 1) :: vs) hr p S2 (.cons rfl (hv.mono T))
  refine codeAny_mono key fun r' s' hq => ?_
  cases r' with
  | error e => exact hq.elim
  | ok fl =>
    cases fl with
    | ret v =>
      obtain ⟨b, m', P', T', hV, S', rfl, q⟩ := hq
      simp only [V] at hV
      exact ⟨hV, .ref (hh.objs.size + 1), m', P', T.trans T', rfl, S', q⟩
    | _ => exact hq.elim
end
end Mine

-- WZ
namespace Mine
open PySem PySem.W PySem.Calls PyProof.Rows PySem.SeqAt

/-- a cell that is nobody's frame's any more -/
def cel (c : Addr) (a : AVal) : Ck where
  foot := [c]
  holds h := ∃ v, h.IsCell c (some v) ∧ V h a v
  stable h h' k T := fun ⟨v, ⟨o, e, d⟩, z⟩ => ⟨v, ⟨o, k c (by simp) _ e, d⟩, z.mono T⟩
  live h := fun ⟨v, ⟨o, e, d⟩, z⟩ x hx => by simp at hx; subst hx; exact ⟨o, e, .cell d⟩
/-- a code object's table of the codes in it -/
def tab (c : Addr) (ps : Array Value) : Ck where
  foot := [c]
  holds h := h.get? c = some (tabObj ps)
  stable h h' k T := fun e => k c (by simp) _ e
  live h := fun e x hx => by simp at hx; subst hx; exact ⟨_, e, fun ⟨_, _, _, q⟩ => by cases q⟩
/-- a function object made here, its code, and (if d is some) its attributes -/
def fno (a c : Addr) (fd : FuncData) : Ck where
  foot := [a, c]
  holds h := (∃ sl, h.get? a = some ⟨.type "function", Option.none, .func fd, sl⟩) ∧ ∃ oc vs t, h.get? c = some oc ∧ oc.data = .fields vs ∧ vs[1]? = some (.str fd.qualname t)
  stable h h' k T := fun ⟨⟨sl, e⟩, oc, vs, t, e1, e2, e3⟩ => ⟨⟨sl, k a (by simp) _ e⟩, oc, vs, t, k c (by simp) _ e1, e2, e3⟩
  live h := fun ⟨⟨sl, e⟩, oc, vs, t, e1, e2, e3⟩ x hx => by
    simp at hx
    rcases hx with rfl | rfl
    · exact ⟨_, e, fun ⟨_, _, _, q⟩ => by cases q⟩
    · exact ⟨_, e1, fun ⟨_, _, _, q⟩ => by rw [e2] at q; cases q⟩
def fnx (a c d : Addr) (fd : FuncData) (fs : List (Str × AVal)) : Ck where
  foot := [a, c, d]
  holds h := (∃ sl, h.get? a = some ⟨.type "function", some d, .func fd, sl⟩) ∧ (∃ oc vs t, h.get? c = some oc ∧ oc.data = .fields vs ∧ vs[1]? = some (.str fd.qualname t)) ∧
    ∃ m, NsZ h d m fs.length ∧ ∀ x, match fs.lookup x with | some b => ∃ v, m x = some v ∧ V h b v | Option.none => m x = Option.none
  stable h h' k T := fun ⟨⟨sl, e⟩, ⟨oc, vs, t, e1, e2, e3⟩, m, ⟨o, es, ep, ho, r⟩, q⟩ => ⟨⟨sl, k a (by simp) _ e⟩, ⟨oc, vs, t, k c (by simp) _ e1, e2, e3⟩, m, ⟨o, es, ep, k d (by simp) o ho, r⟩, fun x => by
    have := q x
    split
    · rename_i b hb; rw [hb] at this; obtain ⟨v, e, z⟩ := this; exact ⟨v, e, z.mono T⟩
    · rename_i hb; rw [hb] at this; exact this⟩
  live h := fun ⟨⟨sl, e⟩, ⟨oc, vs, t, e1, e2, e3⟩, m, ⟨o, es, ep, ho, hd, r⟩, q⟩ x hx => by
    simp at hx
    rcases hx with rfl | rfl | rfl
    · exact ⟨_, e, fun ⟨_, _, _, q⟩ => by cases q⟩
    · exact ⟨_, e1, fun ⟨_, _, _, q⟩ => by rw [e2] at q; cases q⟩
    · exact ⟨o, ho, .dict hd⟩

section
variable {D : WD} {g : Heap} {f : Fm} {ns : Nms} {m : Loc} {P : List Ck} {s : Shared}

/-- a frame that is left: what it owned may become a piece -/
theorem St.strip {R : List Ck} (S : St D g f ns m P s) (hR : ∀ x ∈ feet R, x ∈ f.own) (nd : (feet R).Nodup) (hh : ∀ c ∈ R, c.holds s.heap) :
    St D g ⟨{ f.env with scope := { f.env.scope with names := [] }, cells := [] }, []⟩ [] m (P ++ R) s := by
  have ap := S.apart
  rw [List.nodup_cons, List.nodup_append] at ap
  refine ⟨⟨S.ok.kind, rfl, List.nodup_nil, S.ok.globals, S.ok.blt, List.nodup_nil, fun x hx => by simp at hx⟩, S.keep, ?_, fun x k a na => (by cases na), fun x c hc => (by simp at hc), fun c hc => (by cases hc), fun x hx => ?_, ?_, fun c hc => ?_, S.gens, S.hos, S.hdr⟩
  · obtain ⟨M, h1, _⟩ := S.lcl
    exact ⟨M, h1, fun x a na => by cases na⟩
  · cases hx with
    | head => exact S.fresh _ (.head _)
    | tail _ hx =>
      rw [List.nil_append, feet_append] at hx
      rcases List.mem_append.mp hx with hx | hx
      · exact S.fresh _ (.tail _ (List.mem_append_right _ hx))
      · exact S.fresh _ (.tail _ (List.mem_append_left _ (hR x hx)))
  · rw [List.nil_append, feet_append, List.nodup_cons, List.nodup_append]
    refine ⟨fun q => ?_, ap.2.2.1, nd, fun x hx y hy e => ?_⟩
    · rcases List.mem_append.mp q with q | q
      · exact ap.1 (List.mem_append_right _ q)
      · exact ap.1 (List.mem_append_left _ (hR _ q))
    · subst e; exact ap.2.2.2 x (hR x hy) x hx rfl
  · rcases List.mem_append.mp hc with hc | hc
    · exact S.holds c hc
    · exact hh c hc
theorem Wp.codeX {n : Nat} {as : List AVal} {Q : AVal → Loc → List Ck → Prop} {a : Addr} {oc : Value} {od : Option Addr} {fd : FuncData} {osl : Array (Option Value)} {body : List Stmt} {mk : List Value → Args}
    (ho : D.K.lookup a = some ⟨oc, od, .func fd, osl⟩) (hbody : fd.body = .stmts body) (hcd : codeIn D.K fd.code fd.qualname = true) (hclo : fd.closure = []) (hgl : fd.globals = mainGlobals) (hbl : fd.builtins = builtinsNs)
    (hnd : (fd.scope.names.map (·.1)).Nodup) (hfree : (fd.scope.names.all fun p => p.2 != .free) = true)
    (hb : Wp D n f ns BR as (fun vs => bindArgs fd (mk vs)) m P fun ab m1 P1 => (ab.map (·.1)).Nodup ∧ (∀ p ∈ ab, (p.1, NameKind.local) ∈ fd.scope.names ∨ (p.1, NameKind.cell) ∈ fd.scope.names) ∧
      ∀ L, Wp D n (frameOf fd L a) fd.scope.names F [] (fun _ => execs body (callEnvC fd L a)) (initL fd.scope.names ab) P1 fun fl m2 P2 => ∃ x b, NmAt fd.scope.names m2 x .cell b ∧ Q (retOf fl) m1 (P2 ++ [cel (((callEnvC fd L a).cells.lookup x).getD 0) b]))
    (hco : fd.scope.isCoroutine = false := by rfl) (hgen : fd.scope.isGenerator = false := by rfl) (hk : fd.scope.kind = .function := by rfl) :
    CodeC D (n + 1) f ns as (fun vs => .call (.ref a) (mk vs)) m P Q := fun A g s vs r p S hv => by
  refine codeAny_call_function r.lt (S.keep _ _ (p.K _ _ ho)) rfl hco hgen hbody (codeRec_of (p.K.keeps S.keep) hcd) ?_
  refine wpAny_mono (hb A.in1 g s vs r.in1 p S hv) (fun bs s₁ => ?_) fun _ _ e => e.elim
  rintro ⟨ab, m1, P1, T1, hbr, S1, nda, hin, hW⟩
  rw [hclo, hgl, hbl]
  have kind : ∀ x ∈ bs, (x.1, NameKind.local) ∈ fd.scope.names ∨ (x.1, NameKind.cell) ∈ fd.scope.names := fun x hx => by
    have : x.1 ∈ ab.map (·.1) := hbr.names ▸ List.mem_map_of_mem hx
    obtain ⟨p, hp, e⟩ := List.mem_map.mp this
    exact e ▸ hin p hp
  have ndb : (bs.map (·.1)).Nodup := by rw [hbr.names]; exact nda
  refine wpAny_newFunctionEnv_cells hk (fun x hx => ?_) fun env he s₂ X => ?_
  · rcases kind x hx with h | h
    · exact .inl (lookup_of_mem hnd h)
    · exact .inr ⟨lookup_of_mem hnd h, cellsFrom_some (.inr h)⟩
  obtain rfl : env = callEnvC fd s₁.heap.objs.size a := by rw [he]; unfold callEnvC; rw [hgl, hbl]
  obtain ⟨h₂, tk, rfl, hkp⟩ := X.done
  refine ⟨(p.nolimit.keeps S1.keep).keeps hkp, ?_⟩
  refine codeAny_func ?_
  have hcs : ((callEnvC fd s₁.heap.objs.size a).cells.map (·.2)).Nodup := List.pairwise_map.mpr X.apart
  have hcl : (callEnvC fd s₁.heap.objs.size a).cells = cellsFrom (s₁.heap.objs.size + 1) fd.scope.names [] := rfl
  have above : ∀ c ∈ ownOf fd.scope.names (callEnvC fd s₁.heap.objs.size a).cells, s₁.heap.objs.size < c := fun c hc => by
    obtain ⟨x, _, e⟩ := mem_ownOf hc
    exact X.above x c (mem_of_lookup e)
  have big : ∀ x, s₁.heap.objs.size ≤ x → s₁.heap.get? x = none := fun x hx => by
    cases q : s₁.heap.get? x with
    | none => rfl
    | some o => exact absurd (Heap.lt_size q) (Nat.not_lt.mpr hx)
  have big' : ∀ x, s₁.heap.objs.size ≤ x → (hideAll s₁.heap (feet P1)).get? x = none := fun x hx => by
    cases q : (hideAll s₁.heap (feet P1)).get? x with
    | none => rfl
    | some o => have := of_hideAll _ q; rw [big x hx] at this; cases this
  have small : ∀ x ∈ feet P1, x < s₁.heap.objs.size := fun x hx => let ⟨o, e, _⟩ := S1.liveF (.tail _ (List.mem_append_right _ hx)); Heap.lt_size e
  have T2 : TK s₁.heap h₂ := .keeps hkp
  have kd : ∀ x, (callEnvC fd s₁.heap.objs.size a).kindOf x = fd.scope.names.lookup x := fun _ => rfl
  have S2 : St D (hideAll s₁.heap (feet P1)) (frameOf fd s₁.heap.objs.size a) fd.scope.names (initL fd.scope.names ab) P1 { s₁ with heap := h₂, toks := tk } := by
    refine ⟨⟨hk, rfl, hnd, hgl, hbl, hcs, fun x hx => ?_⟩, fun b o e => hkp b o (of_hideAll _ e), ⟨_, X.toInCall.ns, fun x b na => ?_⟩, fun x k b na hkk => ?_, fun x c hc => .inl ?_, fun c hc => ?_, fun x hx => ?_, ?_, fun c hc => ?_, S1.gens, S1.hos, S1.hdr⟩
    · rcases hx with hx | hx
      · exact cellsFrom_some (.inr hx)
      · have := List.all_eq_true.mp hfree _ hx
        simp at this
    · obtain ⟨v, hm, hv⟩ := hbr.get (initL_at na)
      exact ⟨v, bindL_get ndb hm (by rw [kd]; exact lookup_of_mem hnd na.mem), hv.mono T2⟩
    · obtain ⟨v, hm, hv⟩ := hbr.get (initL_at na)
      rcases hkk with rfl | rfl
      · obtain ⟨c, hc⟩ := Option.isSome_iff_exists.mp (cellsFrom_some (k := s₁.heap.objs.size + 1) (acc := []) (.inr na.mem))
        refine ⟨c, v, hc, ?_, hv.mono T2⟩
        have := X.cell x c hc
        rw [bindC_get ndb hm (by rw [kd, lookup_of_mem hnd na.mem]; decide)] at this
        exact this
      · rcases kind (x, v) hm with h | h
        · cases nodup_fst hnd h na.mem
        · cases nodup_fst hnd h na.mem
    · have := cellsFrom_mem (mem_of_lookup hc)
      rcases this with h | h
      · cases h
      · exact ownOf_mem h hc
    · obtain ⟨x, _, e⟩ := mem_ownOf hc
      exact ⟨_, X.cell x c e⟩
    · cases hx with
      | head => exact big' _ (Nat.le_refl _)
      | tail _ hx =>
        rcases List.mem_append.mp hx with hx | hx
        · exact big' _ (Nat.le_of_lt (above x hx))
        · exact hideAll_none _ hx
    · have apf : (feet P1).Nodup := by
        have := S1.apart
        simp only [List.nodup_cons, List.nodup_append] at this
        exact this.2.2.1
      rw [List.nodup_cons, List.nodup_append]
      refine ⟨fun q => ?_, ownOf_nodup hnd hcs, apf, fun c hc y hy e => ?_⟩
      · rcases List.mem_append.mp q with q | q
        · exact Nat.lt_irrefl _ (above _ q)
        · exact Nat.lt_irrefl _ (small _ q)
      · subst e
        exact Nat.lt_irrefl _ (Nat.lt_trans (small c hy) (above c hc))
    · exact c.stable _ _ (fun x hx o e => hkp x o e) T2 (S1.holds c hc)
  refine wpAny_mono (hW s₁.heap.objs.size _ _ { s₁ with heap := h₂, toks := tk } [] r.deeper (p.keeps fun b o e => hideAll_get _ (S1.keep b o e) fun q => S1.notBase e (.tail _ (List.mem_append_right _ q))) S2 Vs.nil) (fun fl s₃ => ?_) fun _ _ e => e.elim
  rintro ⟨afl, m2, P2, T3, hF, S3, x, b, hx, q⟩
  obtain ⟨c, v, hc, hv1, hv2⟩ := S3.cell x _ b hx (.inl rfl)
  have hc' : (callEnvC fd s₁.heap.objs.size a).cells.lookup x = some c := hc
  rw [hc', Option.getD_some] at q
  obtain ⟨Sb, Tb⟩ := S1.back (fun _ h => .inl h) (S3.strip (R := [cel c b]) (fun y hy => by
    simp [feet, cel] at hy
    subst hy
    exact ownOf_mem hx.mem hc) (by simp [feet, cel]) (fun d hd => by simp at hd; subst hd; exact ⟨v, hv1, hv2⟩))
  refine ⟨retOf afl, m1, _, T1.trans Tb, ?_, Sb, q⟩
  cases afl with
  | ret b => obtain ⟨v, rfl, hv⟩ := hF; exact hv
  | _ => subst hF; simp [retOf, V]

/-- a call of an own def that leaves a cell behind -/
theorem Wp.fnX {n : Nat} {as : List AVal} {Q : AVal → Loc → List Ck → Prop} {a : Addr} {fd : FuncData} {names : Nms} {body : List Stmt} {mk : List Value → Args} (F : Fn D a fd names body)
    (hb : Wp D n f ns BR as (fun vs => bindArgs fd (mk vs)) m P fun ab m1 P1 => xsOk (ab.map (·.1)) names = true ∧ ∃ m0, Init names ab m0 ∧
      ∀ f', MineC f' names → f'.env.code = fd.code → Exs D n f' names body m0 P1 fun fl m2 P2 => ∃ x b, NmAt names m2 x .cell b ∧ Q (retOf fl) m1 (P2 ++ [cel ((f'.env.cells.lookup x).getD 0) b])) :
    Wp D (n + 1) f ns V as (fun vs => call (.ref a) (mk vs).pos (mk vs).kw) m P Q := CodeC.wp (by
  obtain ⟨oc, od, osl, ho⟩ := F.at'
  have hn := F.nm
  subst hn
  refine Wp.codeX ho F.body F.code F.clo F.gl F.bl F.nd F.free (hb.mono fun ab m1 P1 ⟨h2, m0, h3, h4⟩ => ?_) F.co F.gen F.kind
  unfold xsOk at h2
  rw [Bool.and_eq_true, decide_eq_true_eq, List.all_eq_true] at h2
  refine ⟨h2.1, fun p hp => ?_, fun L => ?_⟩
  · have := h2.2 p.1 (List.mem_map_of_mem (f := (·.1)) hp)
    rw [Bool.or_eq_true] at this
    exact this.imp (fun h => by simpa using h) fun h => by simpa using h
  · rw [h3.eq]; exact h4 _ frame_mine rfl)

/-- a lambda -/
theorem Ev.lambda {n : Nat} {params : Arguments} {body : Expr} {scope : Scope} {pos : Pos} {T c : Addr} {ps : Array Value} {P' : Addr → List Ck} {Q : AVal → Loc → List Ck → Prop} (hco : f.env.code = .ref c) (hhd : codeHdIn D.K c T = true)
    (w : ∀ c', Sw P (tab T ps) (tab T (ps ++ #[rawInt pos.line, rawInt pos.col, .ref c'])) (P' c')) (ht : TriplesOk ps.toList) (hnf : codeAmong pos ps.toList = Option.none)
    (hfree : ∀ x, (x, NameKind.free) ∈ scope.names → (f.env.cells.lookup x).isSome = true) (hdef : defaultsOf params f.env = ([], []))
    (h : ∀ F c' q pm ctv, Q (.ref F) m (fno F c' (kla_fn "<lambda>" q params body scope (closOf f.env.cells scope.names []) pm (.ref c') ctv) :: P' c')) : Ev D n f ns (.Lambda params body scope pos) m P Q := fun A g s vs r p S _ => by
  refine kla_eval hdef ?_
  obtain ⟨mg, bm, ob, G, b1, b2, b3, b4, b5⟩ := p.main
  have X := p.K.keeps S.keep
  have G' := G.keeps S.keep
  have b2' := S.keep _ _ b2
  have hT : s.heap.get? T = some (tabObj ps) := S.holds _ (w 0).mem
  have hgT : mainGlobals ≠ T := fun q => by
    obtain ⟨o, es, ep, e, d, _⟩ := G'
    rw [q, hT] at e; cases e; cases d
  have hbT : bm ≠ T := fun q => by rw [q, hT] at b2'; cases b2'; cases b3
  have hbG : bm ≠ mainGlobals := fun q => by
    obtain ⟨o, es, ep, e, d, _⟩ := G'
    rw [q, e] at b2'; cases b2'; rw [d] at b5; cases b5
  have hbB : bm ≠ builtinsNs := fun q => by
    obtain ⟨o, es, ep, e, d, _⟩ := p.bns.keeps S.keep
    rw [q, e] at b2'; cases b2'; rw [d] at b5; cases b5
  refine kla_makeFunction (mg := mg) (closureFor_eq hfree) S.ok.globals G' hco (codeHd_of_K X hhd) hT ht hnf hgT ⟨bm, ob, b1, hbB, hbG, hbT, b2', b3, b4, b5⟩ fun c' ctv h' tk hx hge hlt hrec htb => ?_
  obtain ⟨c₂, oc, us, t, e2, hoc, hd, hv⟩ := hrec
  cases e2
  have hlT : T < s.heap.objs.size := Heap.lt_size hT
  obtain ⟨A', B', hPe, hPe'⟩ := (w c').split
  have hPe2 : P = A' ++ [tab T ps] ++ B' := by rw [hPe]; simp
  have S0 : St D g f ns m (A' ++ [tab T ps] ++ B') s := hPe2 ▸ S
  have hFn : h'.get? h'.objs.size = Option.none := Heap.get?_none_of_le (Nat.le_refl _)
  have hk : ∀ b o, b ∉ feet [tab T ps] → s.heap.get? b = some o → (h'.push (kla_obj "<lambda>" (f.env.qual ++ "<lambda>") params body scope (closOf f.env.cells scope.names []) ((mg "__name__").getD .none) c' ctv)).get? b = some o := fun b o hb e =>
    Heap.get?_push_of_some _ (hx b o (fun q => hb (by simp [feet, tab, q])) e)
  have S1 := S0.re (C' := [fno h'.objs.size c' (kla_fn "<lambda>" (f.env.qual ++ "<lambda>") params body scope (closOf f.env.cells scope.names []) ((mg "__name__").getD .none) (.ref c') ctv), tab T (ps ++ #[rawInt pos.line, rawInt pos.col, .ref c'])]) (tk := tk) hk
    (fun d hd' => by
      simp at hd'
      rcases hd' with rfl | rfl
      · exact ⟨⟨_, Heap.get?_push_size _ rfl⟩, oc, us, t, Heap.get?_push_of_some _ hoc, hd, hv⟩
      · exact Heap.get?_push_of_some _ htb)
    (fun x hx' => by
      have hx' : x = h'.objs.size ∨ x = c' ∨ x = T := by simpa [feet, fno, tab] using hx'
      rcases hx' with rfl | rfl | rfl
      · exact .inr (Heap.get?_none_of_le (Nat.le_of_lt (Nat.lt_of_le_of_lt hge hlt)))
      · exact .inr (Heap.get?_none_of_le hge)
      · exact .inl (by simp [feet, tab]))
    (by
      have h1 : ¬ h'.objs.size = c' := fun q => by rw [q] at hlt; exact Nat.lt_irrefl _ hlt
      have h2 : ¬ h'.objs.size = T := fun q => by rw [← q] at hlT; exact Nat.lt_irrefl _ (Nat.lt_of_lt_of_le hlT (Nat.le_of_lt (Nat.lt_of_le_of_lt hge hlt)))
      have h3 : ¬ c' = T := fun q => by rw [← q] at hlT; exact Nat.lt_irrefl _ (Nat.lt_of_lt_of_le hlT hge)
      simp [feet, fno, tab, h1, h2, h3])
  refine ⟨.ref h'.objs.size, m, _, S0.tkC hk, rfl, S1.perm (P' := fno h'.objs.size c' (kla_fn "<lambda>" (f.env.qual ++ "<lambda>") params body scope (closOf f.env.cells scope.names []) ((mg "__name__").getD .none) (.ref c') ctv) :: P' c') ?_, h _ _ _ _ _⟩
  rw [hPe']
  have : A' ++ [fno h'.objs.size c' (kla_fn "<lambda>" (f.env.qual ++ "<lambda>") params body scope (closOf f.env.cells scope.names []) ((mg "__name__").getD .none) (.ref c') ctv), tab T (ps ++ #[rawInt pos.line, rawInt pos.col, .ref c'])] ++ B' = A' ++ fno h'.objs.size c' (kla_fn "<lambda>" (f.env.qual ++ "<lambda>") params body scope (closOf f.env.cells scope.names []) ((mg "__name__").getD .none) (.ref c') ctv) :: (tab T (ps ++ #[rawInt pos.line, rawInt pos.col, .ref c']) :: B') := by simp
  rw [this]
  exact List.perm_middle
end
end Mine

-- XB
namespace Mine
open PySem PySem.W PySem.Calls PyProof.Rows PySem.SeqAt

theorem slot_citnext : Slot "callable_iterator" "__next__" "callable_iterator.__next__" :=
  .of (owner := "callable_iterator") (n := "__next__") (by rw [typeLookup_type, builtinLookup_eq_fast]; kernel_rfl) (by decide +kernel) (by decide +kernel) (by decide +kernel)
    (by first | exact .inl (by decide +kernel) | exact .inr (by decide +kernel)) (by rw [isSubtype_type]; kernel_rfl)
theorem slot_cititer : Slot "callable_iterator" "__iter__" "callable_iterator.__iter__" :=
  .of (owner := "callable_iterator") (n := "__iter__") (by rw [typeLookup_type, builtinLookup_eq_fast]; kernel_rfl) (by decide +kernel) (by decide +kernel) (by decide +kernel)
    (by first | exact .inl (by decide +kernel) | exact .inr (by decide +kernel)) (by rw [isSubtype_type]; kernel_rfl)
theorem entry_citnext : entryFor table "callable_iterator.__next__" = some Builtin.«callable_iterator.__next__» := entryFor_of_fast (by kernel_rfl)
theorem entry_cititer : entryFor table "callable_iterator.__iter__" = some Builtin.«dict_keyiterator.__iter__» :=
  entryFor_alias (id' := "dict_keyiterator.__iter__") (by kernel_rfl) rfl (by decide +kernel) (by kernel_rfl)
theorem args_citnext (a : Value) : argsOk "callable_iterator.__next__" ⟨[a], []⟩ := by unfold argsOk; kernel_rfl
theorem args_cititer (a : Value) : argsOk "callable_iterator.__iter__" ⟨[a], []⟩ := by unfold argsOk; kernel_rfl

/-- a method of an own object, kept -/
def mtd (b f x : Addr) : Ck where
  foot := [b]
  holds h := h.get? b = some (methodObj (.ref f) (.ref x))
  stable h h' k T := fun e => k b (by simp) _ e
  live h := fun e y hx => by simp at hx; subst hx; exact ⟨_, e, .ty rfl⟩
/-- an iterator that calls till a text comes -/
def cit (it b : Addr) (l : List Nat) : Ck where
  foot := [it]
  holds h := ∃ t, h.get? it = some { cls := .type "callable_iterator", data := .fields #[.ref b, .str (mkS l) t, .bool false] }
  stable h h' k T := fun ⟨t, e⟩ => ⟨t, k it (by simp) _ e⟩
  live h := fun ⟨t, e⟩ y hx => by simp at hx; subst hx; exact ⟨_, e, .ty rfl⟩
/-- it is over -/
def cie (it : Addr) : Ck where
  foot := [it]
  holds h := h.get? it = some { cls := .type "callable_iterator", data := .fields #[.none, .none, .bool true] }
  stable h h' k T := fun e => k it (by simp) _ e
  live h := fun e x hx => by simp at hx; subst hx; exact ⟨_, e, .cls (by decide)⟩

theorem wpAny_callBorrowed {M : Model} {A : Around} {E : Value → Shared → Prop} {s : Shared} {f : Value} {pos : List Value} {Q : Value → Shared → Prop}
    (hc : codeAny M A (.call f ⟨pos, []⟩) (fun r s' => match r with | .ok (.ret v) => Q v s' | .ok _ => False | .error e => E e s') s) :
    wpAny M A (callBorrowed f pos) Q E s := fun Γ p hΓ => by
  unfold callBorrowed
  rw [Sem.wp_call]
  refine wpCode_mono (fun r s' h => ?_) (hc _ p rfl (hΓ.enter _ none p (by intro x; cases x)))
  cases r with
  | error e => exact h
  | ok f => cases f <;> first | exact h | exact h.elim

section
variable {D : WD} {n : Nat} {f : Fm} {ns : Nms} {m : Loc} {P : List Ck}

def OptR (h : Heap) : Option AVal → Option Value → Prop
  | some a, x => ∃ v, x = some v ∧ V h a v
  | Option.none, x => x = Option.none
/-- a step of an iterator -/
abbrev Nx (D : WD) (n : Nat) (f : Fm) (ns : Nms) (it : Addr) (m : Loc) (P : List Ck) (Q : Option AVal → Loc → List Ck → Prop) : Prop :=
  Wp D n f ns OptR [] (fun _ => pyNext (.ref it)) m P Q

/-- a call by the interpreter -/
def CodeN (D : WD) (n : Nat) (f : Fm) (ns : Nms) (c : Code) (m : Loc) (P : List Ck) (Q : AVal → Loc → List Ck → Prop) : Prop := CodeC D n f ns [] (fun _ => c) m P Q

theorem mkS_beq (l k : List Nat) : (mkS l == mkS k) = (l == k) := by
  by_cases h : l = k
  · subst h; simp
  · rw [beq_eq_false_iff_ne.mpr h, beq_eq_false_iff_ne]
    exact fun q => h (mkS_inj q)
theorem wp_stopIt {M : Model} {A : Around} {s : Shared} {α : Type} {Q : α → Shared → Prop} {E : Value → Shared → Prop} (hh : A.handled = Option.none)
    (h : ∀ h' e, (∀ b o, s.heap.get? b = some o → h'.get? b = some o) → ({ s with heap := h' } : Shared).TypeIs e "StopIteration" → E e { s with heap := h' }) : wpAny M A (Builtin.SmallTypes.stopIteration (α := α)) Q E s := by
  unfold Builtin.SmallTypes.stopIteration
  refine wpAny_bind ?_
  show wpAny _ _ (newExc (.type "StopIteration") [] >>= _) _ _ _
  refine wpAny_bind ?_
  simp only [newExc, newTuple]
  refine wpAny_bind (wpAny_newObj_type ?_ (by size_fits))
  refine wpAny_bind (m := firstArgMember _ _) (wpAny_of_eq (a := Value.none) (by first | rfl | (simp only [firstArgMember]; rfl)) ?_)
  refine wpAny_newObj_type ?_ (by size_fits)
  refine wpAny_pure ?_
  simp only [raiseNew]
  refine wpAny_bind (wpAny_handled ?_)
  rw [hh]
  refine wpAny_bind (wpAny_pure (wpAny_throw ?_))
  exact h _ _ (fun b o e => Heap.get?_push_of_some _ (Heap.get?_push_of_some _ e)) ⟨_, Heap.get?_push_size _ rfl, rfl⟩

theorem Nx.call {it b fn x : Addr} {l : List Nat} {Q : Option AVal → Loc → List Ck → Prop} (hh : D.hd = Option.none) (hi : cit it b l ∈ P) (hb : mtd b fn x ∈ P) {oc : Value} {od : Option Addr} {fd : FuncData} {osl : Array (Option Value)}
    (hf : D.K.lookup fn = some ⟨oc, od, .func fd, osl⟩)
    (h : CodeC D n f ns [.ref x] (fun vs => .call (.ref fn) ⟨vs.take 1, [].zip (vs.drop 1)⟩) m P fun r m1 P1 => ∃ k, r = .str k ∧ cit it b l ∈ P1 ∧ mtd b fn x ∈ P1 ∧ if (l == k) = true then ∃ P2, Sw P1 (cit it b l) (cie it) P2 ∧ Q Option.none m1 P2 else Q (some (.str k)) m1 P1) : Nx D (n + 2) f ns it m P Q := fun A g s vs r p S _ => by
  obtain ⟨t, ho⟩ := S.holds _ hi
  have hbo := S.holds _ hb
  have hfo := S.keep _ _ (p.K _ _ hf)
  have hT : s.TypeIs (.ref it) "callable_iterator" := ⟨_, ho, rfl⟩
  unfold pyNext
  refine wpAny_bind (wpAny_attempt (wpAny_callSpecial?_slot (name := Str.ofString "__next__") hT slot_citnext (wpAny_call_entry slot_citnext hT entry_citnext ?_ (args_citnext _))))
  show wpAny _ _ (field (.ref it) 2 >>= _) _ _ s
  refine wpAny_bind (wpAny_field ho rfl (x := .bool false) rfl ?_)
  rw [if_neg (show ¬ ((Value.bool false == Value.bool true) = true) from Bool.false_ne_true)]
  refine wpAny_bind (wpAny_field ho rfl (x := .ref b) rfl ?_)
  refine wpAny_bind (wpAny_attempt ?_)
  have hbor : ∀ {A : Around} {s : Shared} {Q : Bool → Shared → Prop} {E : Value → Shared → Prop}, s.heap.get? b = some (methodObj (.ref fn) (.ref x)) → (∃ o, s.heap.get? fn = some o ∧ o.data = .func fd) → Q true s → wpAny (model D.prog D.w) A (borrowsExactly (.ref b)) Q E s := by
    intro A s Q E e1 ⟨o, e2, e3⟩ q
    unfold borrowsExactly
    refine wpAny_bind (wpAny_load e1 ?_)
    refine wpAny_bind (wpAny_load e2 ?_)
    rw [e3]
    exact wpAny_pure q
  unfold callOutOfASlot
  refine wpAny_bind (hbor hbo ⟨_, hfo, rfl⟩ ?_)
  rw [if_pos rfl]
  refine wpAny_callBorrowed (ks_codeAny_call_bound hbo ?_)
  refine codeAny_mono (h A.in1 g s [.ref x] (r.mono (Nat.le_succ _)).in1 p S (Vs.cons rfl .nil)) fun r' s' q => ?_
  cases r' with
  | error e => exact q.elim
  | ok fl =>
    cases fl with
    | ret v =>
      obtain ⟨c, m1, P1, T1, hv, S1, k, rfl, hi1, hb1, q⟩ := q
      obtain ⟨u, rfl⟩ := hv
      obtain ⟨t1, ho1⟩ := S1.holds _ hi1
      have hbo1 := S1.holds _ hb1
      have hfo1 := S1.keep _ _ (p.K _ _ hf)
      show wpAny _ _ (field (.ref it) 2 >>= _) _ _ s'
      refine wpAny_bind (wpAny_field ho1 rfl (x := .bool false) rfl ?_)
      rw [if_neg (show ¬ ((Value.bool false == Value.bool true) = true) from Bool.false_ne_true)]
      refine wpAny_bind (wpAny_field ho1 rfl (x := .str (mkS l) t1) rfl ?_)
      refine wpAny_bind (wpAny_holding (eqBool_str ?_))
      rw [mkS_beq]
      cases hk : l == k with
      | false =>
        rw [hk] at q
        rw [if_pos (show (!false) = true from rfl)]
        exact wpAny_pure ⟨_, rfl, wpAny_pure ⟨some (.str k), m1, P1, T1, ⟨_, rfl, u, rfl⟩, S1, q⟩⟩
      | true =>
        rw [hk, if_pos rfl] at q
        obtain ⟨P2, w, q⟩ := q
        rw [if_neg (by simp)]
        refine wpAny_bind (wpAny_rule ?_)
        refine wpAny_bind ?_
        refine wpAny_bind (wpAny_field ho1 rfl (x := .ref b) rfl ?_)
        refine wpAny_bind (wpAny_bind (hbor hbo1 ⟨_, hfo1, rfl⟩ ?_))
        rw [if_pos rfl]
        refine wpAny_pure ?_
        refine wpAny_bind (wpAny_setField_rec ho1 (by simp) fun h1 e1 s1 => ?_)
        refine wpAny_bind (wpAny_setField_rec e1 (by simp) fun h2 e2 s2 => ?_)
        refine wpAny_setField_rec e2 (by simp) fun h3 e3 s3 => ?_
        refine wp_stopIt (r.handled.trans hh) fun h4 e k4 hT4 => ?_
        refine wpAny_bind (wpAny_isInstance (T := "StopIteration") (b := true) hT4 isSubtype_stop ?_)
        have k := (s1.trans s2).trans s3
        refine wpAny_pure ⟨Option.none, m1, P2, ?_, rfl, S1.upd (tk := s'.toks) w (fun b' o nb e => k4 _ _ ((k.2 _ (by simpa [cit] using nb)).trans e)) (k4 _ _ e3) (fun y hy => .inl (by simpa [cit, cie] using hy)) (by simp [cie]), q⟩
        exact T1.trans ((TK.sameBut k fun o e => by rw [ho1] at e; cases e; exact .ty rfl).trans (TK.keeps k4))
    | _ => exact q.elim
theorem Nx.over {it : Addr} {Q : Option AVal → Loc → List Ck → Prop} (hh : D.hd = Option.none) (hi : cie it ∈ P) (q : Q Option.none m P) : Nx D n f ns it m P Q := fun A g s vs r p S _ => by
  have ho := S.holds _ hi
  have hT : s.TypeIs (.ref it) "callable_iterator" := ⟨_, ho, rfl⟩
  unfold pyNext
  refine wpAny_bind (wpAny_attempt (wpAny_callSpecial?_slot (name := Str.ofString "__next__") hT slot_citnext (wpAny_call_entry slot_citnext hT entry_citnext ?_ (args_citnext _))))
  show wpAny _ _ (field (.ref it) 2 >>= _) _ _ s
  refine wpAny_bind (wpAny_field ho rfl (x := .bool true) rfl ?_)
  dsimp only
  rw [if_pos (show (Value.bool true == Value.bool true) = true from rfl)]
  refine wpAny_bind (wpAny_rule ?_)
  refine wpAny_bind (wp_stopIt (r.handled.trans hh) fun h4 e k4 hT4 => ?_)
  refine wpAny_bind (wpAny_isInstance (T := "StopIteration") (b := true) hT4 isSubtype_stop ?_)
  exact wpAny_pure ⟨Option.none, m, P, TK.keeps k4, rfl, S.junk (tk := s.toks) k4, q⟩

/-- what an iterator of this kind is -/
inductive Itr (it : Addr) (P : List Ck) : Prop
  | live {b l} : cit it b l ∈ P → Itr it P
  | over : cie it ∈ P → Itr it P
theorem Itr.typeIs {it : Addr} {g : Heap} {s : Shared} (i : Itr it P) (S : St D g f ns m P s) : s.TypeIs (.ref it) "callable_iterator" := by
  cases i with
  | live h => obtain ⟨t, ho⟩ := S.holds _ h; exact ⟨_, ho, rfl⟩
  | over h => exact ⟨_, S.holds _ h, rfl⟩
theorem letOwned_cit {M : Model} {A : Around} {E : Value → Shared → Prop} {s : Shared} {tgt : Expr} {it : Addr} {v : Value} {Q : Unit → Shared → Prop} (hT : s.TypeIs (.ref it) "callable_iterator") (h : Q () s) : wpAny M A (letOwnedTupleGo tgt (.ref it) v) Q E s := by
  obtain ⟨o, ho, hc⟩ := hT
  exact letOwned_plain ho hc (by decide) h
theorem iter_cit {A : Around} {s : Shared} {it : Addr} {Q : Value → Shared → Prop} {E : Value → Shared → Prop} (hT : s.TypeIs (.ref it) "callable_iterator") (q : Q (.ref it) s) : wpAny (model D.prog D.w) A (pyIter (.ref it)) Q E s := by
  refine wpAny_pyIter_slot hT slot_cititer (wpAny_call_entry slot_cititer hT entry_cititer ?_ (args_cititer _))
  refine wpAny_bind (wpAny_pure ?_)
  exact wpAny_pure ⟨_, rfl, _, _, hT, slot_citnext.lookup, q⟩

/-- a loop over an iterator that calls -/
theorem Ex.forC {target iter : Expr} {body orelse : List Stmt} {pos : Pos} {Q : AFlow → Loc → List Ck → Prop}
    (h : Ev D n f ns iter m P fun a m1 P1 => ∃ (it : Addr) (J : Nat → Loc → List Ck → Prop) (k0 : Nat), a = .ref it ∧ Itr it P1 ∧ J k0 m1 P1 ∧ ∀ k m P, J k m P → Nx D n f ns it m P fun r m2 P2 => match r with
      | some v => Itr it P2 ∧ As D n f ns target v m2 P2 fun m3 P3 => Exs D n f ns body m3 P3 (loopQ (fun m4 P4 => ∃ k' : Nat, k' < k ∧ J k' m4 P4) Q)
      | Option.none => Exs D n f ns orelse m2 P2 Q)
    (hs : ∀ x, foldedSetIterable iter f.env x = pure x := by intro _; rfl) : Ex D n f ns (.For target iter body orelse pos) m P Q := fun A g s vs r p S _ => by
  refine wpAny_For (h.run r p S .nil fun a m1 P1 v s1 T1 hv S1 q => ?_) hs
  obtain ⟨it, J, k0, rfl, hi, hJ0, hturn⟩ := q
  simp only [V] at hv
  subst hv
  refine iter_cit (hi.typeIs S1) ?_
  refine codeAny_forLoopG (fun k s' => TK s.heap s'.heap ∧ ∃ m P, J k m P ∧ St D g f ns m P s') (fun k s' => ?_) k0 ⟨T1, m1, P1, hJ0, S1⟩
  rintro ⟨TT, mj, Pj, hJ, Sj⟩
  refine (hturn k mj Pj hJ).run r p Sj .nil fun rr m2 P2 x s2 T2 hx S2 q => ?_
  cases rr with
  | none =>
    cases hx
    exact q.run r p S2 .nil fun c m4 P4 x s4 T4 hx4 S4 q4 => ⟨c, m4, P4, (TT.trans T2).trans T4, hx4, S4, q4⟩
  | some a =>
    obtain ⟨v, rfl, hv⟩ := hx
    obtain ⟨hi2, q⟩ := q
    refine letOwned_cit (hi2.typeIs S2) ?_
    refine q.run r p S2 (Vs1 hv) fun _ m5 P5 _ s5 T5 _ S5 q5 => ?_
    refine q5.run r p S5 .nil fun fl m6 P6 y s6 T6 hy S6 q6 => ?_
    have TT' : TK s.heap s6.heap := ((TT.trans T2).trans T5).trans T6
    cases fl with
    | next => cases hy; obtain ⟨k', hk, hJ'⟩ := q6; exact ⟨k', hk, TT', m6, P6, hJ', S6⟩
    | cont => cases hy; obtain ⟨k', hk, hJ'⟩ := q6; exact ⟨k', hk, TT', m6, P6, hJ', S6⟩
    | brk => cases hy; exact ⟨.next, m6, P6, TT', rfl, S6, q6⟩
    | ret a => obtain ⟨w, rfl, hw⟩ := hy; exact ⟨.ret a, m6, P6, TT', ⟨w, rfl, hw⟩, S6, q6⟩

/-- what is read off the written part for a method that is not called -/
structure BndIn (K : Frag) (C : Addr) (name : Str) (fn : Addr) : Prop where
  pg : plainGet K C name = true
  hh : hasDictIn K C = true
  ha : findIn K (.ref C) name = some (some (.ref fn))
  hf : PySem.W.isFn K (.ref fn) = true
  gf : specialIn K (.ref fn) "__get__" = some (some (.builtin "function.__get__"))
  ht : takesIn K (.ref fn) = some false
  hc : copiedNames.contains name = false
/-- a method of an own object, not called yet -/
theorem Ev.bound {o : Expr} {name : Str} {pos : Pos} {Q : AVal → Loc → List Ck → Prop} (h : Ev D n f ns o m P fun a m1 P1 => ∃ x C d fs fn, a = .ref x ∧ inst x C d fs ∈ P1 ∧ BndIn D.K C name fn ∧ fs.lookup name = Option.none ∧ ∀ b, Q (.ref b) m1 (mtd b fn x :: P1))
    (he : eval (.Attribute o name pos) f.env = (do let ov ← eval o f.env; standAt pos.atName; let r ← holding [ov] (getAttr ov name true); letTemporaryGo o ov r; pure r) := by rfl) : Ev D n f ns (.Attribute o name pos) m P Q := fun A g s vs r p S _ => by
  rw [he]
  refine wpAny_bind (h.run r p S .nil fun a m1 P1 v s1 T1 hv S1 q => wpAny_bind (wpAny_standAt (wpAny_bind (wpAny_holding ?_))))
  obtain ⟨x, C, d, fs, fn, rfl, hm, B, hb, q⟩ := q
  simp only [V] at hv; subst hv
  obtain ⟨ox, od, mm, I, hd, hn, hl, hq⟩ := inst_at (S1.holds _ hm) name
  have := hq name
  rw [hb] at this
  have X := p.K.keeps S1.keep
  refine get_bind X I (plainGet_of B.pg).1 (findObj_fn B.hh B.ha B.gf B.ht B.hc (hl.trans (by rw [this]))) (plainGet_of B.pg).2
    (wpAny_call (fn_get (s := { s1 with toks := s1.toks + 1 }) X (beq_iff_eq.mp B.hf) (handed_on rfl ?_)))
  have S2 := S1.newc (c' := mtd s1.heap.objs.size fn x) (tk := s1.toks + 1) (fun b o e => Heap.get?_push_of_some _ e) (Heap.get?_push_size _ rfl) (fun y hy => by simp [mtd] at hy; subst hy; exact Heap.get?_none_of_le (Nat.le_refl _)) (by simp [mtd])
  refine wpAny_bind (wpAny_letTemporaryGo (wpAny_pure ⟨.ref s1.heap.objs.size, m1, _, T1.trans (TK.keeps fun b o e => Heap.get?_push_of_some _ e), rfl, S2, q _⟩))

theorem entry_iter : entryFor table "iter" = some Builtin.«iter» := entryFor_of_tree (by kernel_rfl)
theorem plain_iter : plainId "iter" = true := by decide +kernel
theorem kind_iter : builtinKind "iter" = none := by decide +kernel
theorem args_iter (a b : Value) : argsOk "iter" ⟨[a, b], []⟩ := by unfold argsOk; kernel_rfl
theorem mth_call : typeLookup (.type "method") "__call__" = pure (some (.builtin "method.__call__")) := by rw [typeLookup_type, builtinLookup_eq_fast]; kernel_rfl
theorem c_iter2 {b fn x : Addr} {l : List Nat} {Q : AVal → Loc → List Ck → Prop} (hm : mtd b fn x ∈ P) (q : ∀ it, Q (.ref it) m (cit it b l :: P)) : Cal D n f ns (.blt "iter") [.ref b, .str l] [] [] m P Q := .b fun A g s vs r p S hv => by
  obtain ⟨v, w, rfl, h1, h2⟩ := Vs.two hv
  simp only [V] at h1; subst h1
  obtain ⟨t, rfl⟩ := h2
  have hb := S.holds _ hm
  have hT : s.TypeIs (.ref b) "method" := ⟨_, hb, rfl⟩
  refine Calls.call_function_entry kind_iter plain_iter entry_iter (args_iter _ _) ?_
  unfold Builtin.«iter»
  refine wpAny_bind (wpAny_of_eq (a := [.ref b, .str (mkS l) t]) (by first | rfl | kernel_rfl) ?_)
  dsimp only
  refine wpAny_bind (wpAny_specialOf hT mth_call ?_)
  refine wpAny_bind (wpAny_rule ?_)
  unfold newFields
  refine wpAny_bind (wpAny_newObj_type ?_ (by size_fits))
  refine wpAny_pure ⟨_, rfl, .ref s.heap.objs.size, m, _, TK.keeps fun b o e => Heap.get?_push_of_some _ e, rfl, S.newc (c' := cit s.heap.objs.size b l) (tk := s.toks) (fun b o e => Heap.get?_push_of_some _ e) ⟨t, Heap.get?_push_size _ rfl⟩ (fun y hy => by simp [cit] at hy; subst hy; exact Heap.get?_none_of_le (Nat.le_refl _)) (by simp [cit]), q _⟩
end
end Mine

-- XA
namespace Mine
open PySem PySem.W PySem.Calls PyProof.Rows PySem.SeqAt Builtin Builtin.ObjectAttr

theorem slot_fnset : Slot "function" "__setattr__" "object.__setattr__" :=
  .of (owner := "object") (n := "__setattr__") (by rw [typeLookup_type, builtinLookup_eq_fast]; kernel_rfl) (by decide +kernel) (by decide +kernel) (by decide +kernel)
    (by first | exact .inl (by decide +kernel) | exact .inr (by decide +kernel)) (by rw [isSubtype_type]; kernel_rfl)
theorem entry_objset : entryFor table "object.__setattr__" = some Builtin.«object.__setattr__» := entryFor_of_tree (by kernel_rfl)
theorem args_objset (a b c : Value) : argsOk "object.__setattr__" ⟨[a, b, c], []⟩ := by unfold argsOk; kernel_rfl
theorem fn_read_none : typeLookup (.type "function") "read" = pure none := by rw [typeLookup_type, builtinLookup_eq_fast]; kernel_rfl
theorem refuse_fn (self : Value) : refuseLoop self "__setattr__" [.type "function", .type "object"] = pure () := by
  kernel_rfl
theorem mro_fn : mroOf (.type "function") = pure [.type "function", .type "object"] := by kernel_rfl
section
variable {D : WD} {n : Nat} {f : Fm} {ns : Nms} {m : Loc} {P : List Ck}
variable {M : Model} {A : Around} {E : Value → Shared → Prop} {s : Shared} {prog : Program} {w : World}

theorem setAttr_fn {F : Addr} {fd : FuncData} {sl} {name : Str} {v : Value} {Q : Unit → Shared → Prop} (ho : s.heap.get? F = some ⟨.type "function", Option.none, .func fd, sl⟩) (hl : typeLookup (.type "function") name = pure none)
    (h : ∀ h' tk, h'.get? F = some ⟨.type "function", some s.heap.objs.size, .func fd, sl⟩ → NsZ h' s.heap.objs.size (fun y => if y = name then some v else none) 1 → (∀ b o, b ≠ F → s.heap.get? b = some o → h'.get? b = some o) → Q () { s with heap := h', toks := tk }) :
    wpAny (model prog w) A (setAttr (.ref F) name v) Q E s := by
  have hT : s.TypeIs (.ref F) "function" := ⟨_, ho, rfl⟩
  unfold setAttr
  refine wpAny_bind (wpAny_mkText ?_)
  have hT' : ({ s with toks := s.toks + 1 } : Shared).TypeIs (.ref F) "function" := hT
  refine wpAny_bind (wpAny_callSpecial?_slot (name := Str.ofString "__setattr__") hT' slot_fnset (wpAny_call_entry slot_fnset hT' entry_objset ?_ (args_objset _ _ _)))
  unfold Builtin.«object.__setattr__»
  refine wpAny_bind ?_
  rw [refuse_eq]
  refine wpAny_bind (wpAny_typeOf hT' ?_)
  rw [mro_fn]
  refine wpAny_bind (wpAny_pure ?_)
  rw [refuse_fn]
  refine wpAny_pure ?_
  refine wpAny_bind (wpAny_of_eq (a := name) (by first | rfl | kernel_rfl) ?_)
  refine wpAny_bind (wpAny_typeOf hT' ?_)
  rw [hl]
  refine wpAny_bind (wpAny_pure (wpAny_bind (wpAny_pure ?_)))
  dsimp only
  unfold storeInOwnDict ownStreamTells
  dsimp only
  rw [if_neg (by decide), if_neg (by decide)]
  refine wpAny_bind (wpAny_pure ?_)
  rw [if_neg (by decide)]
  show wpAny _ _ (instanceDict F true >>= _) _ _ _
  unfold instanceDict
  refine wpAny_bind (wpAny_bind (wpAny_loadPart (s := { s with toks := s.toks + 1 }) ho ?_))
  dsimp only
  have hth : typeHasDict (.type "function") = true := by kernel_rfl
  rw [hth]
  rw [if_neg (by decide)]
  refine wpAny_bind (wpAny_alloc ?_)
  have ho2 : ({ s with toks := s.toks + 1, heap := s.heap.push { cls := .type "dict", data := .dict #[] } } : Shared).heap.get? F = _ := Heap.get?_push_of_some _ ho
  refine wpAny_bind (wpAny_update ho2 ?_)
  unfold dictMade
  dsimp only
  rw [show finalisedInACycleAlone "function" = false from by decide +kernel]
  rw [if_neg Bool.false_ne_true]
  refine wpAny_pure ?_
  unfold storeInDict newKeyGuard
  have hne : F ≠ s.heap.objs.size := Nat.ne_of_lt (Heap.lt_size ho)
  refine wpAny_bind (wpAny_pure ?_)
  have hd : ((s.heap.push { cls := .type "dict", data := .dict #[] }).update F fun o => { o with dict := some s.heap.objs.size }).get? s.heap.objs.size = some { cls := .type "dict", data := .dict #[] } :=
    (Heap.get?_update_ne _ _ _ _ hne.symm).trans (Heap.get?_push_size _ rfl)
  refine wpAny_bind (wpAny_nsSetZ (m := fun _ => Option.none) (k := 0) ⟨_, #[], _, hd, rfl, fun e he => absurd he (by simp), fun _ => rfl, Nat.le_refl _⟩ fun h' hn' hs' => ?_)
  obtain ⟨o', es', ep', q1, q2, q3, q4, q5⟩ := id hn'
  refine wpAny_bind (wpAny_lookBehind q1 (by rw [q2]; exact pastItsLine_dict (Nat.le_trans q5 (by rw [sizeLine_eq]; simp))) ?_)
  refine wpAny_pure ⟨_, rfl, wpAny_pure (h h' _ ?_ hn' fun b o hb e => ?_)⟩
  · exact (hs'.2 F hne).trans (Heap.get?_update_self _ (Heap.get?_push_of_some _ ho) rfl)
  · exact (hs'.2 b (Nat.ne_of_lt (Heap.lt_size e))).trans ((Heap.get?_update_ne _ _ _ _ hb).trans (Heap.get?_push_of_some _ e))
theorem slot_fnget : Slot "function" "__getattribute__" "object.__getattribute__" :=
  .of (owner := "object") (n := "__getattribute__") (by rw [typeLookup_type, builtinLookup_eq_fast]; kernel_rfl) (by decide +kernel) (by decide +kernel) (by decide +kernel)
    (by first | exact .inl (by decide +kernel) | exact .inr (by decide +kernel)) (by rw [isSubtype_type]; kernel_rfl)
theorem entry_fnget : entryFor table "object.__getattribute__" = some Builtin.«object.__getattribute__» := entryFor_of_tree (by kernel_rfl)
theorem args_fnget (a b : Value) : argsOk "object.__getattribute__" ⟨[a, b], []⟩ := by unfold argsOk; kernel_rfl
theorem fn_hook_none : typeLookup (.type "function") "__getattr__" = pure none := by rw [typeLookup_type, builtinLookup_eq_fast]; kernel_rfl

theorem getAttr_fn {F d : Addr} {fd : FuncData} {sl} {name : Str} {v : Value} {mm : Str → Option Value} {expr : Bool} {Q : Value → Shared → Prop} (ho : s.heap.get? F = some ⟨.type "function", some d, .func fd, sl⟩) (hn : s.heap.Ns d mm) (hv : mm name = some v) (hl : typeLookup (.type "function") name = pure none) (hh : handedIn v = true)
    (h : Q v { s with toks := s.toks + 1 }) : wpAny (model prog w) A (getAttr (.ref F) name expr) Q E s := by
  have hT : ({ s with toks := s.toks + 1 } : Shared).TypeIs (.ref F) "function" := ⟨_, ho, rfl⟩
  unfold getAttr getAttrBy
  refine wpAny_bind (wpAny_mkText (wpAny_holding (wpAny_bind (wpAny_typeOf hT ?_))))
  rw [slot_fnget.lookup]
  refine wpAny_bind (wpAny_pure ?_)
  dsimp only
  rw [if_neg (by decide)]
  unfold getAttrByItsOwn
  refine wpAny_bind (wpAny_pure (wpAny_bind (wpAny_attempt (wpAny_holding ?_))))
  unfold callGetattribute
  rw [if_neg (by simp [onTheHeap])]
  unfold boundAndCalled
  rw [slot_fnget.bind]
  refine wpAny_bind (wpAny_pure ?_)
  dsimp only
  refine wpAny_call_entry slot_fnget hT entry_fnget ?_ (args_fnget _ _)
  unfold Builtin.«object.__getattribute__»
  refine wpAny_bind (wpAny_of_eq (a := (.ref F, [.str name s.toks])) (by first | rfl | kernel_rfl) ?_)
  dsimp only
  refine wpAny_bind (wpAny_of_eq (a := name) (by first | rfl | kernel_rfl) ?_)
  refine wpAny_bind (wpAny_typeOf hT ?_)
  unfold find
  rw [hl]
  refine wpAny_bind (wpAny_bind (wpAny_pure (wpAny_bind (wpAny_pure (wpAny_bind (wpAny_pure ?_))))))
  unfold ownThenClass inOwnDict Builtin.ObjectAttr.ownDict
  refine wpAny_bind (wpAny_bind (wpAny_bind (wpAny_load (s := { s with toks := s.toks + 1 }) ho ?_)))
  dsimp only
  unfold instanceDict
  refine wpAny_bind (wpAny_loadPart (s := { s with toks := s.toks + 1 }) ho ?_)
  dsimp only
  refine wpAny_pure ?_
  refine wpAny_nsGet (s := { s with toks := s.toks + 1 }) hn ?_
  rw [hv]
  refine wpAny_bind (wpAny_rule (wpAny_pure ?_))
  refine wpAny_pure ⟨v, rfl, ?_⟩
  show wpAny _ _ (handedOut v) _ _ _
  rw [handedOut_of hh]
  exact wpAny_pure h
theorem getMethod_fn {F d : Addr} {fd : FuncData} {sl} {name : Str} {v : Value} {mm : Str → Option Value} {pl : Sem Bool} {Q : Value × List Value → Shared → Prop} (ho : s.heap.get? F = some ⟨.type "function", some d, .func fd, sl⟩) (hn : s.heap.Ns d mm) (hv : mm name = some v) (hl : typeLookup (.type "function") name = pure none) (hh : handedIn v = true)
    (h : Q (v, []) { s with toks := s.toks + 1 }) : wpAny (model prog w) A (getMethod (.ref F) name pl) Q E s := by
  have hT : s.TypeIs (.ref F) "function" := ⟨_, ho, rfl⟩
  unfold getMethod
  refine wpAny_bind (wpAny_specialOf hT slot_fnget.lookup ?_)
  dsimp only
  rw [if_neg (by decide +kernel)]
  refine wpAny_bind (wpAny_specialOf hT fn_hook_none ?_)
  rw [if_neg (by decide)]
  refine wpAny_bind (wpAny_specialOf hT hl ?_)
  dsimp only
  exact wpAny_bind (getAttr_fn ho hn hv hl hh (wpAny_pure h))

/-- a function kept under a function's name -/
theorem Gm.fx {F c d : Addr} {fd : FuncData} {fs : List (Str × AVal)} {name : Str} {G : Addr} {Q : AVal × List AVal → Loc → List Ck → Prop} (hm : fnx F c d fd fs ∈ P) (hl : typeLookup (.type "function") name = pure none) (hb : fs.lookup name = some (.ref G)) (q : Q (.ref G, []) m P) : Gm D n f ns (.ref F) name m P Q := fun pl A g s vs r p S hv => by
  obtain ⟨v, rfl, h1⟩ := Vs.one hv
  simp only [V] at h1; subst h1
  obtain ⟨⟨sl, ho⟩, _, mm, hn, hq⟩ := S.holds _ hm
  have := hq name
  rw [hb] at this
  obtain ⟨w, hw, hV⟩ := this
  simp only [V] at hV; subst hV
  exact getMethod_fn ho hn.ns hw hl rfl ⟨(.ref G, []), m, P, TK.refl _, ⟨rfl, .nil⟩, S.toks, q⟩

/-- a name laid upon a function object -/
theorem Ex.assignF {o value : Expr} {name : Str} {pos' pos : Pos} {Q : AFlow → Loc → List Ck → Prop}
    (h : Ev D n f ns value m P fun b m1 P1 => Ev D n f ns o m1 P1 fun a m2 P2 => ∃ (F c : Addr) (fd : FuncData) (P3 : Addr → List Ck), a = .ref F ∧ typeLookup (.type "function") name = pure none ∧ (∀ d, Sw P2 (fno F c fd) (fnx F c d fd [(name, b)]) (P3 d)) ∧ ∀ d, Q .next m2 (P3 d))
    (hs : swapsWith value (some (.Attribute o name pos')) pos.line f.env = pure false := by rfl) : Ex D n f ns (.Assign [.Attribute o name pos'] value pos) m P Q := fun A g s vs r p S _ => by
  refine plainObj_wpAny_Assign_Attribute (h.run r p S .nil fun b m1 P1 v s1 T1 hv S1 h1 => h1.run r p S1 .nil fun a m2 P2 w s2 T2 hw S2 q => ?_) hs
  obtain ⟨F, c, fd, P3, rfl, hl, sw, q⟩ := q
  simp only [V] at hw; subst hw
  have hF := S2.holds _ (sw 0).mem
  obtain ⟨⟨sl, ho⟩, oc, us, tq, e1, e2, e3⟩ := hF
  refine setAttr_fn ho hl fun h' tk hF' hn' hk => ?_
  have hne : F ≠ c := by rintro rfl; rw [ho] at e1; cases e1; cases e2
  have T : TK s2.heap h' := fun x vs ⟨o', e, cl, nn, r⟩ => ⟨o', hk x o' (fun q => by subst q; rw [ho] at e; cases e; exact absurd (Value.type.inj cl) (by decide)) e, cl, nn, r⟩
  have hlt := Heap.lt_size e1
  refine ⟨.next, m2, P3 s2.heap.objs.size, (T1.trans T2).trans T, rfl, S2.upd (sw _) (fun x o hx e => hk x o (fun q => hx (by rw [q]; simp [fno])) e) ?_ ?_ ?_, q _⟩
  · refine ⟨⟨sl, hF'⟩, ⟨oc, us, tq, hk c oc hne.symm e1, e2, e3⟩, _, hn', fun x => ?_⟩
    by_cases hx : x = name
    · subst hx; simp only [List.lookup, beq_self_eq_true]; exact ⟨v, by simp, (hv.mono T2).mono T⟩
    · have : (x == name) = false := beq_eq_false_iff_ne.mpr hx
      simp [List.lookup, this, hx]
  · intro x hx
    simp [fnx] at hx
    rcases hx with rfl | rfl | rfl
    · exact .inl (by simp [fno])
    · exact .inl (by simp [fno])
    · exact .inr (Heap.get?_none_of_le (Nat.le_refl _))
  · have h1 : F ≠ s2.heap.objs.size := Nat.ne_of_lt (Heap.lt_size ho)
    have h2 : c ≠ s2.heap.objs.size := Nat.ne_of_lt hlt
    simp [fnx, hne, h1, h2]
end
end Mine

-- XC
namespace Mine
open PySem PySem.W PySem.Calls PyProof.Rows PySem.SeqAt

/-- a piece that says what function lies at a place -/
structure FnHere (F : Addr) (fd : FuncData) (c : Ck) : Prop where
  at' : ∀ h, c.holds h → ∃ o, h.get? F = some o ∧ o.data = .func fd
  code : ∀ h, c.holds h → h.CodeRec fd.code fd.qualname
theorem fno_here {F c : Addr} {fd : FuncData} (h : fd.code = .ref c) : FnHere F fd (fno F c fd) :=
  ⟨fun h ⟨⟨sl, e⟩, _⟩ => ⟨_, e, rfl⟩, fun _ ⟨_, oc, vs, t, e1, e2, e3⟩ => ⟨c, oc, vs, t, h, e1, e2, e3⟩⟩
inductive InitX (R : List Ck) (cl : List (Str × Addr)) : Nms → List (Str × AVal) → Loc → Prop
  | nil {ab} : InitX R cl [] ab []
  | hit {x r ab a m} : ab.lookup x = some a → InitX R cl r ab m → InitX R cl ((x, .local) :: r) ab (some a :: m)
  | free {x r ab a m c} : cl.lookup x = some c → cel c a ∈ R → InitX R cl r ab m → InitX R cl ((x, .free) :: r) ab (some a :: m)
  | miss {x k r ab m} : InitX R cl r ab m → InitX R cl ((x, k) :: r) ab (none :: m)
theorem InitX.at {R : List Ck} {cl : List (Str × Addr)} {ns : Nms} {ab : List (Str × AVal)} {m : Loc} (h : InitX R cl ns ab m) {x : Str} {k : NameKind} {a : AVal} (na : NmAt ns m x k a) : (k = .local ∧ ab.lookup x = some a) ∨ (k = .free ∧ ∃ c, cl.lookup x = some c ∧ cel c a ∈ R) := by
  induction h with
  | nil => cases na
  | hit e _ ih => cases na with
    | head => exact .inl ⟨rfl, e⟩
    | tail na => exact ih na
  | free e e2 _ ih => cases na with
    | head => exact .inr ⟨rfl, _, e, e2⟩
    | tail na => exact ih na
  | miss _ ih => cases na with
    | tail na => exact ih na
theorem lookup_rev {bs : List (Str × Value)} (h : (bs.map (·.1)).Nodup) {x : Str} {v : Value} (hm : (x, v) ∈ bs) : bs.reverse.lookup x = some v := by
  have h2 : (bs.reverse.map (·.1)).Nodup := by rw [List.map_reverse]; unfold List.Nodup; rw [List.pairwise_reverse]; exact h.imp fun q => Ne.symm q
  have hm2 : (x, v) ∈ bs.reverse := List.mem_reverse.mpr hm
  generalize bs.reverse = cs at h2 hm2
  induction cs with
  | nil => cases hm2
  | cons y r ih =>
    obtain ⟨z, w⟩ := y
    rw [List.map_cons, List.nodup_cons] at h2
    rw [List.lookup_cons]
    cases hm2 with
    | head => simp
    | tail _ hm2 =>
      have : (x == z) = false := by
        rw [beq_eq_false_iff_ne]; rintro rfl
        exact h2.1 (List.mem_map_of_mem (f := (·.1)) hm2)
      rw [this]; exact ih h2.2 hm2

section
variable {D : WD} {n : Nat} {f : Fm} {ns : Nms} {m : Loc} {P0 R : List Ck}
/-- a call of a lambda that was made here -/
theorem Wp.lam {as : List AVal} {Q : AVal → Loc → List Ck → Prop} {F : Addr} {fd : FuncData} {names : Nms} {body : Expr} {mk : List Value → Args} {ck : Ck} {m0 : Loc} (hm : ck ∈ P0 ++ R) (H : FnHere F fd ck)
    (hbody : fd.body = .expr body) (hgl : fd.globals = mainGlobals) (hbl : fd.builtins = builtinsNs) (hnm : fd.scope.names = names) (hnd : (names.map (·.1)).Nodup) (hnc : (names.all fun p => p.2 != .cell) = true)
    (hc2 : (fd.closure.map (·.2)).Nodup) (hcf : ∀ x, (x, NameKind.free) ∈ names → (fd.closure.lookup x).isSome = true) (hcR : ∀ x c, fd.closure.lookup x = some c → ∃ a, cel c a ∈ R)
    (hb : Wp D n f ns BR as (fun vs => bindArgs fd (mk vs)) m (P0 ++ R) fun ab m1 P1 => P1 = P0 ++ R ∧ (ab.map (·.1)).Nodup ∧ (∀ p ∈ ab, (p.1, NameKind.local) ∈ names) ∧ InitX R fd.closure names ab m0 ∧
      ∀ f', Ev D n f' names body m0 P0 fun a _ P2 => Q a m1 (P2 ++ R))
    (hco : fd.scope.isCoroutine = false := by rfl) (hgen : fd.scope.isGenerator = false := by rfl) (hk : fd.scope.kind = .function := by rfl) : Wp D (n + 1) f ns V as (fun vs => call (.ref F) (mk vs).pos (mk vs).kw) m (P0 ++ R) Q := CodeC.wp fun A g s vs r p S hv => by
  subst hnm
  have hck := S.holds _ hm
  obtain ⟨o, ho, hd⟩ := H.at' _ hck
  refine kla_callFunE r.lt ho hd hco hgen hbody (H.code _ hck) ?_
  refine wpAny_mono (hb A.in1 g s vs r.in1 p S hv) (fun bs s₁ => ?_) fun _ _ e => e.elim
  rintro ⟨ab, m1, P1, T1, hbr, S1, rfl, nda, hin, hI, hW⟩
  have ndb : (bs.map (·.1)).Nodup := by rw [hbr.names]; exact nda
  have hloc : ∀ x ∈ bs, fd.scope.names.lookup x.1 = some .local := fun x hx => by
    have : x.1 ∈ ab.map (·.1) := hbr.names ▸ List.mem_map_of_mem hx
    obtain ⟨p, hp, e⟩ := List.mem_map.mp this
    exact lookup_of_mem hnd (e ▸ hin p hp)
  refine wpAny_newFunctionEnv (fun x hx => by simpa using List.all_eq_true.mp hnc x hx) hloc (fun h₂ hns hsb => ?_) hk
  have hkp : ∀ b o, s₁.heap.get? b = some o → h₂.get? b = some o := fun b o e => hsb.extBut b o (Nat.ne_of_lt (Heap.lt_size e)) (Heap.get?_push_of_some _ e)
  refine ⟨(p.nolimit.keeps S1.keep).keeps hkp, ?_⟩
  refine kla_codeExpr ?_
  have big : ∀ x, s₁.heap.objs.size ≤ x → s₁.heap.get? x = none := fun x hx => Heap.get?_none_of_le hx
  have T2 : TK s₁.heap h₂ := .keeps hkp
  have SR := S1.rebase
  have apR : ∀ x ∈ feet R, x ∉ feet P0 := fun x hx q => by
    have := S1.apart
    rw [feet_append] at this
    simp only [List.nodup_cons, List.nodup_append] at this
    exact this.2.2.1.2.2 x q x hx rfl
  have small : ∀ x ∈ feet P0, x < s₁.heap.objs.size := fun x hx => by
    obtain ⟨o, e, _⟩ := S1.liveF (.tail _ (List.mem_append_right _ (by rw [feet_append]; exact List.mem_append_left _ hx)))
    exact Heap.lt_size e
  have celR : ∀ c a, cel c a ∈ R → ∃ v, s₁.heap.IsCell c (some v) ∧ V s₁.heap a v ∧ ∃ o, (hideAll s₁.heap (feet P0)).get? c = some o := fun c a hc => by
    obtain ⟨v, ⟨o, e, d⟩, hv⟩ := S1.holds _ (List.mem_append_right _ hc)
    exact ⟨v, ⟨o, e, d⟩, hv, o, hideAll_get _ e (apR c (mem_feet hc (by simp [cel])))⟩
  have S2 : St D (hideAll s₁.heap (feet P0)) ⟨newEnv fd.scope s₁.heap.objs.size fd.globals fd.closure (fd.qualname ++ ".<locals>.") (some F) fd.code none fd.builtins, []⟩ fd.scope.names m0 P0 { s₁ with heap := h₂, toks := s₁.toks + bs.length } := by
    refine ⟨⟨hk, rfl, hnd, hgl, hbl, hc2, fun x hx => ?_⟩, fun b o e => hkp b o (of_hideAll _ e), ⟨_, hns, fun x a na => ?_⟩, fun x k a na hkk => ?_, fun x c hc => .inr ?_, fun c hc => (by cases hc), fun x hx => ?_, ?_, fun c hc => ?_, S1.gens, S1.hos, S1.hdr⟩
    · rcases hx with hx | hx
      · have := List.all_eq_true.mp hnc _ hx; simp at this
      · exact hcf x hx
    · rcases hI.at na with ⟨_, e⟩ | ⟨q, _⟩
      · obtain ⟨v, hm, hv⟩ := hbr.get e
        exact ⟨v, lookup_rev ndb hm, hv.mono T2⟩
      · cases q
    · rcases hI.at na with ⟨q, _⟩ | ⟨_, c, e, hc⟩
      · subst q; simp at hkk
      · obtain ⟨v, ⟨o, e1, d1⟩, hv, _⟩ := celR c a hc
        exact ⟨c, v, e, ⟨o, hkp _ _ e1, d1⟩, hv.mono T2⟩
    · obtain ⟨a, ha⟩ := hcR x c hc
      exact (celR c a ha).choose_spec.2.2
    · cases hx with
      | head => cases q : (hideAll s₁.heap (feet P0)).get? s₁.heap.objs.size with
        | none => exact q
        | some o => have := of_hideAll _ q; rw [big _ (Nat.le_refl _)] at this; cases this
      | tail _ hx => exact hideAll_none _ hx
    · have ap := S1.apart
      rw [feet_append] at ap
      simp only [List.nodup_cons, List.nodup_append] at ap
      rw [List.nil_append, List.nodup_cons]
      exact ⟨fun q => Nat.lt_irrefl _ (small _ q), ap.2.2.1.1⟩
    · exact c.stable _ _ (fun x hx o e => hkp x o e) T2 (S1.holds c (List.mem_append_left _ hc))
  refine wpAny_mono (hW _ _ _ { s₁ with heap := h₂, toks := s₁.toks + bs.length } [] r.deeper (p.keeps fun b o e => hideAll_get _ (S1.keep b o e) fun q => S1.notBase e (.tail _ (List.mem_append_right _ (by rw [feet_append]; exact List.mem_append_left _ q)))) S2 Vs.nil) (fun x s₃ => ?_) fun _ _ e => e.elim
  rintro ⟨a, m2, P2, T3, hx, S3, q⟩
  obtain ⟨Sb, Tb⟩ := SR.back (fun _ h => .inl h) S3
  obtain ⟨Su, Tu⟩ := S1.unbase Sb
  exact ⟨a, m1, P2 ++ R, T1.trans Tu, hx, Su, q⟩
end
end Mine

-- XD
namespace Mine
open PySem PySem.W PySem.Calls PyProof.Rows PySem.SeqAt

/-- pieces as one -/
def pak (l : List Ck) : Ck where
  foot := feet l
  holds h := ∀ c ∈ l, c.holds h
  stable h h' k T := fun H c hc => c.stable h h' (fun x hx o e => k x (mem_feet hc hx) o e) T (H c hc)
  live h := fun H x hx => by
    obtain ⟨c, hc, hx⟩ := List.mem_flatMap.mp hx
    exact c.live h (H c hc) x hx
theorem feet_pak (A B l : List Ck) : feet (A ++ pak l :: B) = feet (A ++ l ++ B) := by simp [feet, pak]
/-- one taken out of a list -/
inductive Pk {α : Type} : List α → α → List α → Prop
  | head {a r} : Pk (a :: r) a r
  | tail {a x r r'} : Pk r a r' → Pk (x :: r) a (x :: r')
theorem Pk.perm {α : Type} {l r r' : List α} {a : α} (h : Pk l a r) (k : r.Perm r') : l.Perm (a :: r') := by
  have : l.Perm (a :: r) := by
    clear k
    induction h with
    | head => exact .refl _
    | tail _ ih => exact (ih.cons _).trans (.swap ..)
  exact this.trans (k.cons _)
/-- what pieces say -/
def Has (P : List Ck) (c : Ck) : Prop := ∃ k ∈ P, ∀ h, k.holds h → c.holds h
theorem Has.mem {P : List Ck} {c : Ck} (h : c ∈ P) : Has P c := ⟨c, h, fun _ x => x⟩
theorem Has.pak {P l : List Ck} {c : Ck} (h : pak l ∈ P) (hc : c ∈ l) : Has P c := ⟨_, h, fun _ x => x c hc⟩
theorem Has.more {P : List Ck} {c d : Ck} (h : Has P c) : Has (d :: P) c := let ⟨k, a, b⟩ := h; ⟨k, .tail _ a, b⟩

section
variable {D : WD} {n : Nat} {f : Fm} {ns : Nms} {m : Loc} {P : List Ck} {g : Heap} {s : Shared}
theorem Has.holds {c : Ck} (h : Has P c) (S : St D g f ns m P s) : c.holds s.heap := let ⟨k, a, b⟩ := h; b _ (S.holds k a)
theorem St.unpak {A B l : List Ck} (S : St D g f ns m (A ++ pak l :: B) s) : St D g f ns m (A ++ l ++ B) s := by
  refine ⟨S.ok, S.keep, S.lcl, S.cell, S.cap, S.owns, ?_, ?_, ?_, S.gens, S.hos, S.hdr⟩
  · rw [← feet_pak]; exact S.fresh
  · rw [← feet_pak]; exact S.apart
  · intro c hc
    simp only [List.mem_append] at hc
    rcases hc with (hc | hc) | hc
    · exact S.holds c (by simp [hc])
    · exact S.holds (pak l) (by simp) c hc
    · exact S.holds c (by simp [hc])
theorem St.topak {A B l : List Ck} (S : St D g f ns m (A ++ l ++ B) s) : St D g f ns m (A ++ pak l :: B) s := by
  refine ⟨S.ok, S.keep, S.lcl, S.cell, S.cap, S.owns, ?_, ?_, ?_, S.gens, S.hos, S.hdr⟩
  · rw [feet_pak]; exact S.fresh
  · rw [feet_pak]; exact S.apart
  · intro c hc
    simp only [List.mem_append, List.mem_cons] at hc
    rcases hc with hc | rfl | hc
    · exact S.holds c (by simp [hc])
    · exact fun d hd => S.holds d (by simp [hd])
    · exact S.holds c (by simp [hc])
/-- one way to see the pieces is another -/
structure Imp (P P' : List Ck) : Prop where
  to : ∀ {D : WD} {g : Heap} {f : Fm} {ns : Nms} {m : Loc} {s : Shared}, St D g f ns m P s → St D g f ns m P' s
theorem Imp.perm {P P' : List Ck} (h : P.Perm P') : Imp P P' := ⟨fun S => S.perm h⟩
theorem Imp.sub {P P' : List Ck} (h : P'.Sublist P) : Imp P P' := ⟨fun S => S.sub h⟩
theorem Imp.refl {P : List Ck} : Imp P P := ⟨id⟩
theorem Imp.trans {P P' P'' : List Ck} (h : Imp P P') (k : Imp P' P'') : Imp P P'' := ⟨fun S => k.to (h.to S)⟩
theorem Imp.pak {A B l : List Ck} : Imp (A ++ l ++ B) (A ++ Mine.pak l :: B) := ⟨fun S => S.topak⟩
theorem Imp.unpak {A B l : List Ck} : Imp (A ++ Mine.pak l :: B) (A ++ l ++ B) := ⟨fun S => S.unpak⟩
theorem perm_front {A B l : List Ck} : (A ++ l ++ B).Perm (l ++ (A ++ B)) := by
  rw [← List.append_assoc]; exact (List.perm_append_comm).append_right B
/-- a piece opened at the front -/
theorem Imp.open {P l : List Ck} (h : Mine.pak l ∈ P) : ∃ A B, P = A ++ Mine.pak l :: B ∧ Imp P (l ++ (A ++ B)) := by
  obtain ⟨A, B, rfl⟩ := List.append_of_mem h
  exact ⟨A, B, rfl, Imp.trans .unpak (.perm perm_front)⟩
theorem Imp.close {A B l : List Ck} : Imp (l ++ (A ++ B)) (A ++ Mine.pak l :: B) := Imp.trans (.perm perm_front.symm) .pak
theorem Wp.imp {α β : Type} {V' : Heap → β → α → Prop} {as : List AVal} {t : List Value → Sem α} {Q : β → Loc → List Ck → Prop} {P' : List Ck}
    (hp : Imp P P') (h : Wp D n f ns V' as t m P' Q) : Wp D n f ns V' as t m P Q := fun A g s vs r p S hv => h A g s vs r p (hp.to S) hv
theorem Wp.imp' {α β : Type} {R : Heap → β → α → Prop} {as : List AVal} {t : List Value → Sem α} {Q : β → Loc → List Ck → Prop} (h : Wp D n f ns R as t m P fun b m' P' => ∃ P'', Imp P' P'' ∧ Q b m' P'') : Wp D n f ns R as t m P Q := fun A g s vs r p S hv =>
  wpAny_mono (h A g s vs r p S hv) (fun _ _ ⟨b, m', P', T, rb, S', P'', hs, q⟩ => ⟨b, m', P'', T, rb, hs.to S', q⟩) fun _ _ e => e
/-- work upon the parts of a piece -/
theorem Wp.pak {α β : Type} {V' : Heap → β → α → Prop} {as : List AVal} {t : List Value → Sem α} {Q : β → Loc → List Ck → Prop} {l l' P' : List Ck} (w : Sw P (Mine.pak l) (Mine.pak l') P')
    (h : ∀ R, Wp D n f ns V' as t m (l ++ R) fun b m' P'' => P'' = l' ++ R ∧ Q b m' P') : Wp D n f ns V' as t m P Q := by
  obtain ⟨A, B, rfl, rfl⟩ := w.split
  refine Wp.imp (Imp.trans .unpak (.perm perm_front)) (Wp.imp' ((h (A ++ B)).mono fun b m' P'' q => ⟨_, ?_, q.2⟩))
  rw [q.1]; exact Imp.close

theorem CodeC.imp {as : List AVal} {c : List Value → Code} {Q : AVal → Loc → List Ck → Prop} {P' : List Ck} (hp : Imp P P') (h : CodeC D n f ns as c m P' Q) : CodeC D n f ns as c m P Q := fun A g s vs r p S hv => h A g s vs r p (hp.to S) hv
theorem CodeC.mono {as : List AVal} {c : List Value → Code} {Q Q' : AVal → Loc → List Ck → Prop} (h : CodeC D n f ns as c m P Q) (k : ∀ b m' P', Q b m' P' → ∃ P'', Imp P' P'' ∧ Q' b m' P'') : CodeC D n f ns as c m P Q' := fun A g s vs r p S hv =>
  codeAny_mono (h A g s vs r p S hv) fun r' s' q => by
    cases r' with
    | error e => exact q
    | ok fl => cases fl with
      | ret v => obtain ⟨b, m', P', T, hv', S', q⟩ := q; obtain ⟨P'', hi, q⟩ := k _ _ _ q; exact ⟨b, m', P'', T, hv', hi.to S', q⟩
      | _ => exact q
theorem CodeC.pak {as : List AVal} {c : List Value → Code} {Q : AVal → Loc → List Ck → Prop} {l l' P' : List Ck} (w : Sw P (Mine.pak l) (Mine.pak l') P')
    (h : ∀ R, CodeC D n f ns as c m (l ++ R) fun b m' P'' => P'' = l' ++ R ∧ Q b m' P') : CodeC D n f ns as c m P Q := by
  obtain ⟨A, B, rfl, rfl⟩ := w.split
  refine CodeC.imp (Imp.trans .unpak (.perm perm_front)) ((h (A ++ B)).mono fun b m' P'' q => ⟨_, ?_, q.2⟩)
  rw [q.1]; exact Imp.close
theorem CodeC.room {k : Nat} {as : List AVal} {c : List Value → Code} {Q : AVal → Loc → List Ck → Prop} (hp : k ≤ n) (h : CodeC D k f ns as c m P Q) : CodeC D n f ns as c m P Q := fun A g s vs r p S hv => h A g s vs (r.mono hp) p S hv
theorem Ev.attrH {o : Expr} {name : Str} {pos : Pos} {Q : AVal → Loc → List Ck → Prop}
    (h : Ev D n f ns o m P fun a m1 P1 => ∃ x C d fs b, a = .ref x ∧ Has P1 (inst x C d fs) ∧ ClsIn D.K C ∧ findIn D.K (.ref C) name = some Option.none ∧ fs.lookup name = some b ∧ (∀ h v, V h b v → handedIn v = true) ∧ Q b m1 P1)
    (he : eval (.Attribute o name pos) f.env = (do let ov ← eval o f.env; standAt pos.atName; let r ← holding [ov] (getAttr ov name true); letTemporaryGo o ov r; pure r) := by rfl) : Ev D n f ns (.Attribute o name pos) m P Q := fun A g s vs r p S _ => by
  rw [he]
  refine wpAny_bind (h.run r p S .nil fun a m1 P1 v s1 T1 hv S1 q => wpAny_bind (wpAny_standAt (wpAny_bind (wpAny_holding ?_))))
  obtain ⟨x, C, d, fs, b, rfl, hm, hc, hno, hb, hh, q⟩ := q
  simp only [V] at hv; subst hv
  obtain ⟨ox, od, mm, I, hd, hn, hl, hq⟩ := inst_at (hm.holds S1) name
  have := hq name
  rw [hb] at this
  obtain ⟨w, hw, hV⟩ := this
  refine get_value (p.K.keeps S1.keep) I hc.ga (findObj_own hc.hd hno rfl (hl.trans (by rw [hw]))) (hh _ _ hV) ?_
  have S2 : St D g f ns m1 P1 { s1 with toks := s1.toks + 1 } := S1.toks
  refine wpAny_bind (wpAny_letTemporaryGo (wpAny_pure ⟨b, m1, P1, T1, hV, S2, q⟩))
theorem Gm.iH {x C d fn : Addr} {fs : List (Str × AVal)} {name : Str} {Q : AVal × List AVal → Loc → List Ck → Prop} (hm : Has P (inst x C d fs)) (I : MethIn D.K (.ref C) name (.ref fn)) (hno : fs.lookup name = Option.none) (q : Q (.ref fn, [.ref x]) m P) :
    Gm D n f ns (.ref x) name m P Q := fun pl A g s vs r p S hv => by
  obtain ⟨v, rfl, h1⟩ := Vs.one hv
  simp only [V] at h1; subst h1
  obtain ⟨⟨sl, e⟩, mm, hn, hq⟩ := hm.holds S
  refine getMethod_gen (p.K.keeps S.keep) (Looks.ld (part := Option.none) e |>.andThen Looks.now) I (fun a ea => ?_) ⟨(.ref fn, [.ref x]), m, P, TK.refl _, ⟨rfl, Vs1 (a := .ref x) rfl⟩, S, q⟩
  cases ea
  refine ⟨_, e, fun d' e' => ?_⟩
  cases e'
  have := hq name
  rw [hno] at this
  exact ⟨mm, hn.ns, this⟩
theorem Ev.boundH {o : Expr} {name : Str} {pos : Pos} {Q : AVal → Loc → List Ck → Prop} (h : Ev D n f ns o m P fun a m1 P1 => ∃ x C d fs fn, a = .ref x ∧ Has P1 (inst x C d fs) ∧ BndIn D.K C name fn ∧ fs.lookup name = Option.none ∧ ∀ b, Q (.ref b) m1 (mtd b fn x :: P1))
    (he : eval (.Attribute o name pos) f.env = (do let ov ← eval o f.env; standAt pos.atName; let r ← holding [ov] (getAttr ov name true); letTemporaryGo o ov r; pure r) := by rfl) : Ev D n f ns (.Attribute o name pos) m P Q := fun A g s vs r p S _ => by
  rw [he]
  refine wpAny_bind (h.run r p S .nil fun a m1 P1 v s1 T1 hv S1 q => wpAny_bind (wpAny_standAt (wpAny_bind (wpAny_holding ?_))))
  obtain ⟨x, C, d, fs, fn, rfl, hm, B, hb, q⟩ := q
  simp only [V] at hv; subst hv
  obtain ⟨ox, od, mm, I, hd, hn, hl, hq⟩ := inst_at (hm.holds S1) name
  have := hq name
  rw [hb] at this
  have X := p.K.keeps S1.keep
  refine get_bind X I (plainGet_of B.pg).1 (findObj_fn B.hh B.ha B.gf B.ht B.hc (hl.trans (by rw [this]))) (plainGet_of B.pg).2
    (wpAny_call (fn_get (s := { s1 with toks := s1.toks + 1 }) X (beq_iff_eq.mp B.hf) (handed_on rfl ?_)))
  have S2 := S1.newc (c' := mtd s1.heap.objs.size fn x) (tk := s1.toks + 1) (fun b o e => Heap.get?_push_of_some _ e) (Heap.get?_push_size _ rfl) (fun y hy => by simp [mtd] at hy; subst hy; exact Heap.get?_none_of_le (Nat.le_refl _)) (by simp [mtd])
  refine wpAny_bind (wpAny_letTemporaryGo (wpAny_pure ⟨.ref s1.heap.objs.size, m1, _, T1.trans (TK.keeps fun b o e => Heap.get?_push_of_some _ e), rfl, S2, q _⟩))
end
end Mine

-- H0
namespace Mine
open PySem PySem.W PySem.Calls PyProof.Rows PySem.SeqAt

structure Ok (D : WD) : Prop where
  K : D.K = hd.heap_39 D.w.params
  hd : D.hd = Option.none
theorem iteT {c : Prop} [Decidable c] {A B : Prop} (h : c) (a : A) : if c then A else B := by rw [if_pos h]; exact a
theorem iteF {c : Prop} [Decidable c] {A B : Prop} (h : ¬ c) (a : B) : if c then A else B := by rw [if_neg h]; exact a
section
variable {k : Loc → List Ck → Prop} {Q : AFlow → Loc → List Ck → Prop} {m : Loc} {P : List Ck} {a : AVal}
theorem sq_next (h : k m P) : seqQ k Q .next m P := h
theorem sq_ret (h : Q (.ret a) m P) : seqQ k Q (.ret a) m P := h
theorem sq_brk (h : Q .brk m P) : seqQ k Q .brk m P := h
theorem sq_cont (h : Q .cont m P) : seqQ k Q .cont m P := h
theorem lq_next (h : k m P) : loopQ k Q .next m P := h
theorem lq_cont (h : k m P) : loopQ k Q .cont m P := h
theorem lq_brk (h : Q .next m P) : loopQ k Q .brk m P := h
theorem lq_ret (h : Q (.ret a) m P) : loopQ k Q (.ret a) m P := h
end
/-! what follows kept out of sight: the terms stay small -/
theorem opn {Qa Qb : AFlow → Loc → List Ck → Prop} {fl : AFlow} {m : Loc} {P : List Ck} (h : Qa = Qb) (k : Qa fl m P) : Qb fl m P := h ▸ k
theorem opn2 {Qa Qb : Loc → List Ck → Prop} {m : Loc} {P : List Ck} (h : Qa = Qb) (k : Qa m P) : Qb m P := h ▸ k
section
variable {D : WD} {n : Nat} {f : Fm} {ns : Nms} {m : Loc} {P : List Ck}
theorem CompL.opq {target : Expr} {ifs : List Expr} {ins : Value → Env → Sem Unit} {acc : Value} {xs : List AVal} {need : List Ck} {Q : Loc → List Ck → Prop}
    (h : ∃ J : Nat → Loc → List Ck → Prop, J 0 m P ∧ (∀ j m P, J j m P → ∀ c ∈ need, c ∈ P) ∧
      (∀ j x m P, xs[j]? = some x → J j m P → ∀ Qb : Loc → List Ck → Prop, J (j + 1) = Qb → As D n f ns target x m P fun m1 P1 => Cd D n f ns ifs m1 P1 fun ok m2 P2 => if ok = true then Wp D n f ns Eqv [] (fun _ => ins acc f.env) m2 P2 (fun (_ : Unit) => Qb) else Qb m2 P2) ∧
      (∀ m P, J xs.length m P → Q m P)) : CompL D n f ns target ifs ins acc xs need m P Q := by
  obtain ⟨J, a, b, c, d⟩ := h
  exact ⟨J, a, b, fun j x m P h1 h2 => c j x m P h1 h2 _ rfl, d⟩
theorem Ex.forO {target iter : Expr} {body orelse : List Stmt} {pos : Pos} {Q : AFlow → Loc → List Ck → Prop}
    (h : Ev D n f ns iter m P fun a m1 P1 => ∃ (xs : List AVal) (need : List Ck) (P2 : List Ck) (J : Nat → Loc → List Ck → Prop), IterW D n f ns target a xs need m1 P1 P2 ∧ J 0 m1 P2 ∧ (∀ j m P, J j m P → ∀ c ∈ need, c ∈ P) ∧
      (∀ j x m P, xs[j]? = some x → J j m P → ∀ Qb : AFlow → Loc → List Ck → Prop, loopQ (J (j + 1)) Q = Qb → As D n f ns target x m P fun m2 P2 => Exs D n f ns body m2 P2 Qb) ∧
      (∀ m P, J xs.length m P → Exs D n f ns orelse m P Q))
    (hs : ∀ x, foldedSetIterable iter f.env x = pure x) : Ex D n f ns (.For target iter body orelse pos) m P Q :=
  Ex.for_ (Wp.mono h fun _ _ _ ⟨xs, need, P2, J, a, b, c, d, e⟩ => ⟨xs, need, P2, J, a, b, c, fun j x m P h1 h2 => d j x m P h1 h2 _ rfl, e⟩) hs
end
theorem cs_k0 : (Str.ofString "\\").cps.toList = [92] := by decide +kernel
theorem cs_k1 : (Str.ofString "\"").cps.toList = [34] := by decide +kernel
theorem cs_k2 : (Str.ofString "").cps.toList = [] := by decide +kernel
theorem cs_k3 : (Str.ofString "\n \t\r").cps.toList = [10, 32, 9, 13] := by decide +kernel
theorem cs_dots : (Str.ofString "...").cps.toList = [46, 46, 46] := by decide +kernel
theorem cs_k5 : (Str.ofString "a").cps.toList = [97] := by decide +kernel
theorem cs_k6 : (Str.ofString "b").cps.toList = [98] := by decide +kernel
theorem cs_k7 : (Str.ofString "s.").cps.toList = [115, 46] := by decide +kernel
theorem cs_k8 : (Str.ofString "0").cps.toList = [48] := by decide +kernel
theorem cs_k9 : (Str.ofString "S.").cps.toList = [83, 46] := by decide +kernel
theorem cs_dot : (Str.ofString ".").cps.toList = [46] := by decide +kernel
theorem cs_k11 : (Str.ofString "Y").cps.toList = [89] := by decide +kernel
theorem cs_k12 : (Str.ofString "y").cps.toList = [121] := by decide +kernel
theorem cs_k13 : (Str.ofString "7").cps.toList = [55] := by decide +kernel
theorem cs_k14 : (Str.ofString "z").cps.toList = [122] := by decide +kernel
theorem cs_k15 : (Str.ofString "\t").cps.toList = [9] := by decide +kernel
theorem cs_k16 : (Str.ofString "z\t").cps.toList = [122, 9] := by decide +kernel
theorem cs_k17 : (Str.ofString "8").cps.toList = [56] := by decide +kernel
theorem cs_k18 : (Str.ofString "8\n").cps.toList = [56, 10] := by decide +kernel
theorem cs_k19 : (Str.ofString "ValueError ").cps.toList = [86, 97, 108, 117, 101, 69, 114, 114, 111, 114, 32] := by decide +kernel
theorem cs_k20 : (Str.ofString "AssertionError ").cps.toList = [65, 115, 115, 101, 114, 116, 105, 111, 110, 69, 114, 114, 111, 114, 32] := by decide +kernel
theorem cs_k21 : (Str.ofString "ValueError Control characters not allowed in headers").cps.toList = [86, 97, 108, 117, 101, 69, 114, 114, 111, 114, 32, 67, 111, 110, 116, 114, 111, 108, 32, 99, 104, 97, 114, 97, 99, 116, 101, 114, 115, 32, 110, 111, 116, 32, 97, 108, 108, 111, 119, 101, 100, 32, 105, 110, 32, 104, 101, 97, 100, 101, 114, 115] := by decide +kernel
theorem cs_k22 : (Str.ofString "AssertionError Header names/values must be of type str (got ").cps.toList = [65, 115, 115, 101, 114, 116, 105, 111, 110, 69, 114, 114, 111, 114, 32, 72, 101, 97, 100, 101, 114, 32, 110, 97, 109, 101, 115, 47, 118, 97, 108, 117, 101, 115, 32, 109, 117, 115, 116, 32, 98, 101, 32, 111, 102, 32, 116, 121, 112, 101, 32, 115, 116, 114, 32, 40, 103, 111, 116, 32] := by decide +kernel
theorem cs_k23 : (Str.ofString ")").cps.toList = [41] := by decide +kernel
theorem cs_k24 : (Str.ofString "1").cps.toList = [49] := by decide +kernel
theorem cs_k25 : (Str.ofString "ab").cps.toList = [97, 98] := by decide +kernel
theorem cs_nl : (Str.ofString "\n").cps.toList = [10] := by decide +kernel
theorem cs_k27 : (Str.ofString "; ").cps.toList = [59, 32] := by decide +kernel
theorem cs_colon : (Str.ofString ":").cps.toList = [58] := by decide +kernel
theorem cs_k29 : (Str.ofString "\n\t\r ").cps.toList = [10, 9, 13, 32] := by decide +kernel
theorem cs_k30 : (Str.ofString "Control characters not allowed in headers").cps.toList = [67, 111, 110, 116, 114, 111, 108, 32, 99, 104, 97, 114, 97, 99, 116, 101, 114, 115, 32, 110, 111, 116, 32, 97, 108, 108, 111, 119, 101, 100, 32, 105, 110, 32, 104, 101, 97, 100, 101, 114, 115] := by decide +kernel
theorem cs_k31 : (Str.ofString "Header names/values must be of type str (got {0})").cps.toList = [72, 101, 97, 100, 101, 114, 32, 110, 97, 109, 101, 115, 47, 118, 97, 108, 117, 101, 115, 32, 109, 117, 115, 116, 32, 98, 101, 32, 111, 102, 32, 116, 121, 112, 101, 32, 115, 116, 114, 32, 40, 103, 111, 116, 32, 123, 48, 125, 41] := by decide +kernel
theorem cs_k32 : (Str.ofString "lo must be non-negative").cps.toList = [108, 111, 32, 109, 117, 115, 116, 32, 98, 101, 32, 110, 111, 110, 45, 110, 101, 103, 97, 116, 105, 118, 101] := by decide +kernel
theorem cs_k33 : (Str.ofString "abcd").cps.toList = [97, 98, 99, 100] := by decide +kernel
theorem cs_k34 : (Str.ofString "b.c.").cps.toList = [98, 46, 99, 46] := by decide +kernel
theorem cs_k35 : (Str.ofString "c.").cps.toList = [99, 46] := by decide +kernel
theorem cs_k36 : (Str.ofString ":. ").cps.toList = [58, 46, 32] := by decide +kernel
theorem cs_k37 : (Str.ofString "\n.").cps.toList = [10, 46] := by decide +kernel
theorem cs_k38 : (Str.ofString " \n").cps.toList = [32, 10] := by decide +kernel
theorem cs_k39 : (Str.ofString "ba").cps.toList = [98, 97] := by decide +kernel
theorem cs_k40 : (Str.ofString "ca").cps.toList = [99, 97] := by decide +kernel
theorem cs_k41 : (Str.ofString "cb").cps.toList = [99, 98] := by decide +kernel
theorem cs_k42 : (Str.ofString "da").cps.toList = [100, 97] := by decide +kernel
theorem cs_k43 : (Str.ofString "db").cps.toList = [100, 98] := by decide +kernel
theorem cs_k44 : (Str.ofString "dc").cps.toList = [100, 99] := by decide +kernel
theorem Ev.strL {D : WD} {n : Nat} {f : Fm} {ns : Nms} {m : Loc} {P : List Ck} {x : Str} {l : List Nat} {k : Nat} {pos : Pos} {Q : AVal → Loc → List Ck → Prop} (hl : x.cps.toList = l) (h : Q (.str l) m P) : Ev D n f ns (.Constant (.str x) k pos) m P Q := by
  subst hl; exact Ev.str h
end Mine

-- HE
namespace Mine
open PySem PySem.W PySem.Calls PyProof.Rows PySem.SeqAt

local macro_rules | `(tactic| leaf_len) => `(tactic| ((repeat (first | with_reducible exact NmAt.head | with_reducible apply NmAt.tail)); done))
local macro_rules | `(tactic| one_sign) => `(tactic| ((repeat (first | with_reducible exact NmUp.head | with_reducible apply NmUp.tail)); done))
local macro_rules | `(tactic| o_reads) => `(tactic| ((repeat (first | with_reducible exact In1.head | with_reducible apply In1.tail)); done))
local macro_rules | `(tactic| o_fieldsN) => `(tactic| ((repeat (first | with_reducible assumption | with_reducible exact Sw.head | with_reducible apply Sw.tail)); done))
local macro_rules | `(tactic| o_readsAll) => `(tactic| ((repeat (first | with_reducible assumption | with_reducible exact List.mem_cons_self .. | with_reducible apply List.mem_cons_of_mem)); done))
local macro_rules | `(tactic| o_shape) => `(tactic| ((repeat (first | with_reducible exact .nil | (apply Init.hit; (next => rfl)) | (apply Init.miss; (next => rfl)))); done))
local macro_rules | `(tactic| wrow_none_raised) => `(tactic| (simp only [List.map]; decide +kernel))
local macro_rules | `(tactic| wrow_raised) => `(tactic| (constructor; (next => (constructor; constructor; constructor; (rw [Ok.K ‹Ok _›]); rfl)); (next => rfl); (next => (rw [Ok.K ‹Ok _›]; rfl)); (next => rfl); (next => rfl); (next => rfl); (next => rfl); (next => decide +kernel); (next => decide +kernel); (next => rfl); (next => rfl); (next => rfl)))
local macro_rules | `(tactic| w_left) => `(tactic| (constructor; (next => wrow_none_raised); constructor; constructor; (next => o_shape)))
local macro_rules | `(tactic| w_means) => `(tactic| first
  | focus ((apply c_lenL); (next => o_readsAll))
  | (apply c_lenS)
  | (apply c_find)
  | (apply c_startswith)
  | (apply c_endswith)
  | (apply c_find4)
  | (apply c_rfind4)
  | (apply c_count)
  | (apply c_upper)
  | (apply c_lower)
  | (apply c_strI)
  | (apply c_strS)
  | (apply c_intS)
  | (apply c_split)
  | (apply c_range)
  | (apply c_listS)
  | focus ((apply c_enum); (next => o_readsAll))
  )
local macro_rules | `(tactic| wrow_close) => `(tactic| ((repeat (first | with_reducible exact Capt.nil | focus ((apply Capt.other); (next => decide)) | focus ((with_reducible apply Capt.cell); (next => leaf_len)) | focus ((with_reducible apply Capt.free); (next => leaf_len)))); done))
local macro_rules | `(tactic| close_w) => `(tactic| first
  | focus ((with_reducible apply Ev.comp1); (next => rfl); (next => decide +kernel); (next => decide +kernel); rotate_left; (next => (intro _; rfl)); dsimp only)
  | focus ((with_reducible apply Ex.assignD); (next => rfl); (next => decide +kernel); (next => decide +kernel); (next => rfl); (next => (intro _; rfl)); dsimp only)
  | focus ((with_reducible apply Ev.dcomp1); (next => rfl); (next => decide +kernel); (next => decide +kernel); (next => (intro _; rfl)); dsimp only)
  | focus ((with_reducible apply Ex.assignDC); (next => rfl); (next => decide +kernel); (next => decide +kernel); (next => rfl); (next => (intro _; rfl)); dsimp only)
  | focus ((with_reducible apply Ex.assignC2); (next => rfl); (next => decide +kernel); (next => decide +kernel); (next => rfl); (next => (intro _; rfl)); dsimp only))
local macro_rules | `(tactic| kd_mem) => `(tactic| ((repeat (first | with_reducible exact Pk.head | with_reducible apply Pk.tail)); done))
local macro_rules | `(tactic| kd_subs) => `(tactic| ((repeat (refine Pk.perm (by kd_mem) ?_)); exact List.Perm.refl _))
local macro_rules | `(tactic| none_booked) => `(tactic| first
  | (with_reducible refine Exs.cons ?_)
  | (with_reducible refine Exs.nil ?_)
  | ((with_reducible show Ev _ _ _ _ _ _ _ _); first
    | ((with_reducible show Ev _ _ _ _ (Expr.Name _ _) _ _ _); first
      | focus ((with_reducible apply Ev.local); (next => leaf_len); rotate_left; (next => decide +kernel))
      | focus ((with_reducible apply Ev.cell); (next => leaf_len); rotate_left; (next => decide +kernel))
      | focus ((with_reducible apply Ev.free); (next => leaf_len); rotate_left; (next => decide +kernel); (next => decide +kernel))
      | focus ((with_reducible apply Ev.gRef); (next => o_reads); (next => (rw [Ok.K ‹Ok _›]; eq_refl)); rotate_left; (next => decide +kernel))
      | focus ((with_reducible apply Ev.bBlt); (next => o_reads); (next => (rw [Ok.K ‹Ok _›]; eq_refl)); (next => eq_refl); rotate_left; (next => decide +kernel); (next => decide +kernel))
      | focus ((with_reducible apply Ev.bTyp); (next => o_reads); (next => (rw [Ok.K ‹Ok _›]; eq_refl)); (next => eq_refl); rotate_left; (next => decide +kernel); (next => decide +kernel))
      | focus ((with_reducible apply Ev.gStr); (next => o_reads); (next => (rw [Ok.K ‹Ok _›]; eq_refl)); rotate_left; (next => decide +kernel)))
    | ((with_reducible show Ev _ _ _ _ (Expr.Constant _ _ _) _ _ _); first
      | (with_reducible refine Ev.int ?_)
      | focus ((with_reducible apply Ev.strL); (next => (first | with_reducible exact cs_k0 | with_reducible exact cs_k1 | with_reducible exact cs_k2 | with_reducible exact cs_k3 | with_reducible exact cs_dots | with_reducible exact cs_k5 | with_reducible exact cs_k6 | with_reducible exact cs_k7 | with_reducible exact cs_k8 | with_reducible exact cs_k9 | with_reducible exact cs_dot | with_reducible exact cs_k11 | with_reducible exact cs_k12 | with_reducible exact cs_k13 | with_reducible exact cs_k14 | with_reducible exact cs_k15 | with_reducible exact cs_k16 | with_reducible exact cs_k17 | with_reducible exact cs_k18 | with_reducible exact cs_k19 | with_reducible exact cs_k20 | with_reducible exact cs_k21 | with_reducible exact cs_k22 | with_reducible exact cs_k23 | with_reducible exact cs_k24 | with_reducible exact cs_k25 | with_reducible exact cs_nl | with_reducible exact cs_k27 | with_reducible exact cs_colon | with_reducible exact cs_k29 | with_reducible exact cs_k30 | with_reducible exact cs_k31 | with_reducible exact cs_k32 | with_reducible exact cs_k33 | with_reducible exact cs_k34 | with_reducible exact cs_k35 | with_reducible exact cs_k36 | with_reducible exact cs_k37 | with_reducible exact cs_k38 | with_reducible exact cs_k39 | with_reducible exact cs_k40 | with_reducible exact cs_k41 | with_reducible exact cs_k42 | with_reducible exact cs_k43 | with_reducible exact cs_k44 | exact rfl)))
      | (with_reducible refine Ev.bool ?_)
      | (with_reducible refine Ev.none ?_))
    | ((with_reducible show Ev _ _ _ _ (Expr.Call _ _ _ _) _ _ _); first
      | ((with_reducible show Ev _ _ _ _ (Expr.Call (Expr.Attribute _ _ _) _ _ _) _ _ _); focus ((with_reducible apply Ev.meth); rotate_left; (next => eq_refl); (next => eq_refl); (next => eq_refl)))
      | focus ((with_reducible refine Ev.call ?_ ?_ ?_ ?_); rotate_left; (next => eq_refl); (next => eq_refl); (next => eq_refl)))
    | focus ((with_reducible refine Ev.cmp ?_ ?_); rotate_left; (next => with_unfolding_all eq_refl))
    | (with_reducible refine Ev.binop ?_)
    | (with_reducible refine Ev.slice ?_)
    | focus ((with_reducible refine Ev.item ?_ ?_); rotate_left; (next => (intros; eq_refl)))
    | (with_reducible refine Ev.tup ?_)
    | (with_reducible refine Ev.list ?_)
    | (with_reducible refine Ev.unop ?_)
    | (with_reducible refine Ev.ifexp ?_)
    | (with_reducible refine Ev.one ?_)
    | (with_reducible refine Ev.and ?_)
    | (with_reducible refine Ev.or ?_))
  | ((with_reducible show Ex _ _ _ _ _ _ _ _); first
    | (with_reducible refine Ex.ite ?_)
    | (with_reducible refine Ex.ret ?_)
    | focus ((with_reducible refine Ex.assignN ?_ ?_); rotate_left; (next => eq_refl))
    | focus ((with_reducible refine Ex.exprE ?_ ?_); rotate_left; (next => eq_refl))
    | ((with_reducible show Ex _ _ _ _ (Stmt.AugAssign (Expr.Name _ _) _ _ _) _ _ _); focus ((with_reducible apply Ex.aug); (next => leaf_len)))
    | focus ((with_reducible refine Ex.assignW2 (Ok.hd ‹Ok _›) ?_ ?_ ?_); rotate_left; (next => eq_refl); (next => eq_refl))
    | focus ((with_reducible refine Ex.assignW3 (Ok.hd ‹Ok _›) ?_ ?_ ?_); rotate_left; (next => eq_refl); (next => eq_refl))
    | (with_reducible refine Ex.assert (Ok.hd ‹Ok _›) ?_)
    | (with_reducible refine Ex.delItem ?_)
    | (with_reducible refine Ex.ret0 ?_)
    | (with_reducible refine Ex.cont ?_)
    | (with_reducible refine Ex.brk ?_)
    | (with_reducible refine Ex.pass ?_))
  | ((with_reducible show Tr _ _ _ _ _ _ _ _); first
    | focus ((with_reducible refine Tr.cmp ?_ ?_); rotate_left; (next => with_unfolding_all eq_refl))
    | (with_reducible refine Tr.not ?_)
    | (with_reducible refine Tr.and_nil ?_)
    | (with_reducible refine Tr.or_nil ?_)
    | (with_reducible refine Tr.and ?_)
    | (with_reducible refine Tr.or ?_)
    | focus ((with_reducible refine Tr.ev ?_ ?_); rotate_left; (next => eq_refl)))
  | ((with_reducible show Wp _ _ _ _ _ _ _ _ _ _); first
    | (with_reducible refine Ar.nil ?_)
    | focus ((with_reducible refine Ar.cons ?_ ?_); rotate_left; (next => eq_refl))
    | (with_reducible refine Ks.nil ?_)
    | (with_reducible refine Ks.cons ?_)
    | ((with_reducible show As _ _ _ _ _ _ _ _ _); first
      | ((with_reducible show As _ _ _ _ (Expr.Name _ _) _ _ _ _); first
        | focus ((with_reducible apply As.local); (next => one_sign))
        | focus ((with_reducible apply As.cellM); (next => assumption); (next => one_sign)))
      | focus ((with_reducible refine As.tup (Ok.hd ‹Ok _›) ?_ ?_ ?_); rotate_left; (next => eq_refl); (next => eq_refl)))
    | (with_reducible refine Eo.none ?_)
    | (with_reducible refine Eo.some ?_)
    | ((with_reducible show AsNm _ _ _ _ (_ :: _) _ _ _ _); focus ((with_reducible apply AsNm.cons); (next => one_sign)))
    | (with_reducible refine AsNm.nil ?_)
    | focus ((with_reducible refine AsIn.cons ?_ ?_); rotate_left; (next => eq_refl))
    | (with_reducible refine AsIn.nil ?_)
    | (with_reducible refine Cd.nil ?_)
    | (with_reducible refine Cd.cons ?_)
    | (with_reducible refine o_addI ?_)
    | (with_reducible refine o_subI ?_)
    | (with_reducible refine o_ltI ?_)
    | (with_reducible refine o_gtI ?_)
    | (with_reducible refine o_leI ?_)
    | (with_reducible refine o_geI ?_)
    | (with_reducible refine o_eqI ?_)
    | (with_reducible refine o_neI ?_)
    | (with_reducible refine o_eqS ?_)
    | (with_reducible refine o_neS ?_)
    | (with_reducible refine o_inS ?_)
    | (with_reducible refine o_notInS ?_)
    | ((with_reducible show Wp _ _ _ _ _ _ (Op2 (compareOp CmpOp.Is)) _ _ _); focus ((with_reducible apply o_is); (next => eq_refl)))
    | ((with_reducible show Wp _ _ _ _ _ _ (Op2 (compareOp CmpOp.IsNot)) _ _ _); focus ((with_reducible apply o_isNot); (next => eq_refl)))
    | (with_reducible refine o_iaddI ?_)
    | (with_reducible refine o_isubI ?_)
    | (with_reducible refine o_negI ?_)
    | (with_reducible refine o_ltS ?_)
    | (with_reducible refine o_gtS ?_)
    | (with_reducible refine t_bool ?_)
    | (with_reducible refine t_none ?_)
    | (with_reducible refine t_int ?_))
  | (with_reducible refine sq_next ?_)
  | (with_reducible refine sq_ret ?_)
  | (with_reducible refine lq_next ?_)
  | (with_reducible refine lq_cont ?_)
  | (with_reducible refine lq_brk ?_)
  | (with_reducible refine lq_ret ?_)
  | (with_reducible refine sq_brk ?_)
  | (with_reducible refine sq_cont ?_)
  | ((with_reducible show ∀ pl, Wp _ _ _ _ _ _ _ _ _ _); first
    | ((with_reducible show Gm _ _ _ _ (AVal.str _) _ _ _ _); first
      | (with_reducible refine g_find ?_)
      | (with_reducible refine g_rfind ?_)
      | (with_reducible refine g_split ?_)
      | (with_reducible refine g_join ?_)
      | (with_reducible refine g_startswith ?_)
      | (with_reducible refine g_endswith ?_)
      | (with_reducible refine g_lower ?_)
      | (with_reducible refine g_upper ?_)
      | (with_reducible refine g_count ?_))
    | ((with_reducible show Gm _ _ _ _ (AVal.ref _) _ _ _ _); first
      | focus ((with_reducible apply g_append); (next => o_readsAll))
      | focus ((with_reducible apply g_pop); (next => o_readsAll))
      | focus ((with_reducible apply g_insert); (next => o_readsAll))
      | focus ((with_reducible apply g_extend); (next => o_readsAll))))
  | focus ((refine ⟨?_, ?_⟩); (next => (first | ((with_reducible show isFn _ = true); exact rfl) | ((with_reducible show KeepOk _ _ _); (first | exact KeepOk.blt | exact KeepOk.typ | (exact KeepOk.fn (by rw [Ok.K ‹Ok _›]; rfl)))) | ((with_reducible show Sb _ _); (first | exact Sb.str | exact Sb.tup | exact Sb.lst (by o_readsAll))) | ((with_reducible show _ ≤ _); exact Nat.le_of_ble_eq_true rfl) | ((with_reducible show _ = _); with_reducible exact rfl))))
  | (refine ⟨_, rfl, ?_⟩)
  | (refine ⟨_, _, rfl, ?_⟩)
  | (refine ⟨_, _, _, rfl, ?_⟩)
  | (refine iteT (by first | with_reducible assumption | decide | (with_reducible_and_instances exact rfl)) ?_)
  | (refine iteF (by first | with_reducible assumption | decide) ?_)
  | (with_reducible refine opn (by with_reducible assumption) ?_)
  | (with_reducible refine opn2 (by with_reducible assumption) ?_)
  )

section
variable {D : WD} {n : Nat} {f : Fm} {ns : Nms} {m : Loc} {P : List Ck} {Q : AVal → Loc → List Ck → Prop}

theorem pat41 (O : Ok D) : Pat D 41 code41 := by
  refine ⟨_, 40, _, _, _, _, by rw [O.K]; rfl, rfl, rfl, rfl, rfl, rfl, by rw [O.K]; rfl, rfl, ?_⟩
  decide +kernel
theorem pat46 (O : Ok D) : Pat D 46 code46 := by
  refine ⟨_, 45, _, _, _, _, by rw [O.K]; rfl, rfl, rfl, rfl, rfl, rfl, by rw [O.K]; rfl, rfl, ?_⟩
  decide +kernel
theorem cls175 (O : Ok D) : ClsIn D.K 175 := by
  constructor <;> rw [O.K] <;> rfl

theorem f_conv (O : Ok D) {h : AVal} {x : List Nat} {b : Bool} (ok : (if b = true then okN x else okV x) = true) (hz : x.length ≤ 1000) (q : Q (.str x) m P) : Cal D (n + 1) f ns (.ref 76) [h, .str x] [.bool b] ["name"] m P Q := by
  apply Wp.fn (a := 76) (mk := fun vs => ⟨vs.take 2, [("name" : Str)].zip (vs.drop 2)⟩)
  case F => wrow_raised
  dsimp only
  intro A g s vs r p S hv
  obtain ⟨v0, v1, k0, rfl, h0, h1, h2⟩ := Vs.three hv
  refine bd_conv rfl rfl rfl rfl rfl rfl ?_
  refine ⟨[("self", h), ("value", .str x), ("name", .bool b)], m, P, TK.refl _, ⟨_, _, rfl, h0, _, _, rfl, h1, _, _, rfl, h2, rfl⟩, S, ?_⟩
  w_left
  intro f' hM
  clear hv h0 h1 h2 S p r
  cases b with
  | true =>
    repeat none_booked
    refine c_typeS ?_
    repeat none_booked
    refine g_search (pat41 O) ?_
    repeat none_booked
    refine c_search41 (pat41 O) ok (by omega) ?_
    repeat none_booked
    all_goals exact q
  | false =>
    repeat none_booked
    refine c_typeS ?_
    repeat none_booked
    refine g_search (pat46 O) ?_
    repeat none_booked
    refine c_search46 (pat46 O) ok (by omega) ?_
    repeat none_booked
    all_goals exact q

/-- a Headers: its namespace, its list -/
abbrev hdrs (h d l : Addr) : Ck := inst h 175 d [("_headers", .ref l)]
abbrev prs (l : Addr) (ps : List (List Nat × List Nat)) : Ck := lst l (ps.map fun p => AVal.tup [.str p.1, .str p.2])
/-- a name as it may stand there -/
def okH (x : List Nat) : Bool := asc x && okN x && okN (loL x) && decide (x.length ≤ 1000)
theorem okH_ {x : List Nat} (h : okH x = true) : asc x = true ∧ okN x = true ∧ okN (loL x) = true ∧ x.length ≤ 1000 := by
  unfold okH at h
  simp only [Bool.and_eq_true, decide_eq_true_eq] at h
  exact ⟨h.1.1.1, h.1.1.2, h.1.2, h.2⟩
def getH (ps : List (List Nat × List Nat)) (x : List Nat) : Option (List Nat) := (ps.find? fun p => loL p.1 == loL x).map (·.2)
def optS : Option (List Nat) → AVal
  | some s => .str s
  | none => .none
theorem meth76 (O : Ok D) : MethIn D.K (.ref 175) "_convert_string_type" (.ref 76) := methIn_ (by rw [O.K]; kernel_rfl)
theorem meth114 (O : Ok D) : MethIn D.K (.ref 175) "get_all" (.ref 114) := methIn_ (by rw [O.K]; kernel_rfl)
theorem meth122 (O : Ok D) : MethIn D.K (.ref 175) "get" (.ref 122) := methIn_ (by rw [O.K]; kernel_rfl)
theorem meth127 (O : Ok D) : MethIn D.K (.ref 175) "keys" (.ref 127) := methIn_ (by rw [O.K]; kernel_rfl)
theorem meth139 (O : Ok D) : MethIn D.K (.ref 175) "items" (.ref 139) := methIn_ (by rw [O.K]; kernel_rfl)
theorem meth165 (O : Ok D) : MethIn D.K (.ref 175) "setdefault" (.ref 165) := methIn_ (by rw [O.K]; kernel_rfl)
theorem meth172 (O : Ok D) : MethIn D.K (.ref 175) "add_header" (.ref 172) := methIn_ (by rw [O.K]; kernel_rfl)
theorem no_headers (O : Ok D) : findIn D.K (.ref 175) "_headers" = some Option.none := by rw [O.K]; rfl
theorem loL_len (x : List Nat) : (loL x).length = x.length := by simp [loL]

theorem at_hdr (O : Ok D) {h d l : Addr} {Q : AVal → Prop} (hm : hdrs h d l ∈ P) (q : Q (.ref l)) :
    ∃ x C d' fs b, (AVal.ref h) = .ref x ∧ inst x C d' fs ∈ P ∧ ClsIn D.K C ∧ findIn D.K (.ref C) "_headers" = some Option.none ∧ fs.lookup ("_headers" : Str) = some b ∧ (∀ h v, V h b v → handedIn v = true) ∧ Q b :=
  ⟨h, 175, d, _, .ref l, rfl, hm, cls175 O, no_headers O, rfl, fun _ v hv => by simp only [V] at hv; subst hv; rfl, q⟩
theorem getH_cons {p : List Nat × List Nat} {ps : List (List Nat × List Nat)} {x : List Nat} : getH (p :: ps) x = if loL p.1 == loL x then some p.2 else getH ps x := by
  unfold getH
  rw [List.find?_cons]
  split <;> simp_all
theorem f_get (O : Ok D) {h d l : Addr} {ps : List (List Nat × List Nat)} {x : List Nat} (hm : hdrs h d l ∈ P) (hl : prs l ps ∈ P) (hx : okH x = true) (hps : ∀ p ∈ ps, okH p.1 = true) (hz : ps.length ≤ 1000) (q : Q (optS (getH ps x)) m P) :
    Cal D (n + 2) f ns (.ref 122) [.ref h, .str x] [] [] m P Q := by
  obtain ⟨hx1, hx2, hx3, hx4⟩ := okH_ hx
  apply Wp.fn (a := 122) (mk := fun vs => ⟨vs.take 2, [].zip (vs.drop 2)⟩)
  case F => wrow_raised
  dsimp only
  intro A g s vs r p S hv
  obtain ⟨v0, v1, rfl, h0, h1⟩ := Vs.two hv
  refine bd_get2 (T := 115) rfl rfl rfl rfl rfl rfl (fun Q' q => wpAny_seqItems (S.keep _ _ (p.K _ _ (by rw [O.K]; rfl))) rfl q) ?_
  refine ⟨[("self", .ref h), ("name", .str x), ("default", .none)], m, P, TK.refl _, ⟨_, _, rfl, h0, _, _, rfl, h1, _, _, rfl, rfl, rfl⟩, S, ?_⟩
  w_left
  intro f' hM
  clear hv h0 h1 S p r
  repeat none_booked
  refine Gm.i hm (meth76 O) rfl ?_
  repeat none_booked
  refine c_lower hx1 (by omega) ?_
  repeat none_booked
  refine f_conv O (by simpa using hx3) (by rw [loL_len]; omega) ?_
  repeat none_booked
  focus ((refine Ex.for_ ?_ ?_); rotate_left; (next => (intro _; rfl)))
  refine Ev.attr ?_ rfl
  repeat none_booked
  refine at_hdr O hm ?_
  generalize hR : getH ps x = R at q
  refine ⟨_, _, _, fun j m' P' => P' = P ∧ ∃ (k v : Option AVal), m' = [some (.ref h), some (.str (loL x)), some .none, k, v] ∧ getH (ps.drop j) x = R, iter_list O.hd hl, ⟨rfl, none, none, rfl, hR⟩, ?_, ?_, ?_⟩
  · rintro j m' P' ⟨rfl, _⟩ c hc
    simp at hc; subst hc; exact hl
  · rintro j w' m' P' hj ⟨rfl, k, v, rfl, hR⟩
    rw [List.getElem?_map] at hj
    cases hw : ps[j]? with
    | none => rw [hw] at hj; simp at hj
    | some w =>
      rw [hw] at hj
      simp only [Option.map_some, Option.some.injEq] at hj
      subst hj
      obtain ⟨w1, w2⟩ := w
      obtain ⟨ha, _, _, hlen⟩ := okH_ (hps _ (List.mem_of_getElem? hw))
      have hd : ps.drop j = (w1, w2) :: ps.drop (j + 1) := by
        obtain ⟨h1, h2⟩ := List.getElem?_eq_some_iff.mp hw
        rw [List.drop_eq_getElem_cons h1, h2]
      rw [hd, getH_cons] at hR
      repeat none_booked
      refine c_lower ha (by omega) ?_
      repeat none_booked
      by_cases he : (loL w1 == loL x) = true
      · rw [if_pos he] at hR
        refine iteT he ?_
        repeat none_booked
        subst hR
        all_goals exact q
      · rw [if_neg he] at hR
        refine iteF he ?_
        repeat none_booked
        all_goals exact hR
  · rintro m' P' ⟨rfl, k, v, rfl, hR⟩
    rw [List.length_map, List.drop_length] at hR
    have hR : none = R := hR
    subst hR
    repeat none_booked
    all_goals exact q
end

-- HH

/-- where the parts of a lexer lie -/
structure LexA where
  x : Addr
  d : Addr
  pb : Addr
  F : Addr
  c : Addr
  dF : Addr
  fdS : FuncData
  G : Addr
  cG : Addr
  fdR : FuncData
  cc : Addr
  sl : Addr
abbrev sgn (a : Addr) (xs : List Nat) : Ck := lst a (xs.map fun c => AVal.str [c])
abbrev ws4 : List Nat := [10, 9, 13, 32]
abbrev lexI (X : LexA) (ln : Nat) : Ck := inst X.x 240 X.d [("lineno", .int ln), ("instream", .ref X.F), ("whitespace", .str ws4), ("pushback", .ref X.pb)]
abbrev lexF (X : LexA) : Ck := fnx X.F X.c X.dF X.fdS [("read", .ref X.G)]
abbrev lexG (X : LexA) : Ck := fno X.G X.cG X.fdR
def lexP (X : LexA) (pend : List (List Nat)) (signs : List Nat) (ln : Nat) : List Ck :=
  [sgn X.sl signs, lexI X ln, lst X.pb (pend.map .str), lexF X, lexG X, cel X.cc (.ref X.sl)]
abbrev lexC (X : LexA) (pend : List (List Nat)) (signs : List Nat) (ln : Nat) : Ck := pak (lexP X pend signs ln)
structure LexOk (D : WD) (X : LexA) : Prop where
  rd : ∀ {n : Nat} {f : Fm} {ns : Nms} {m : Loc} {signs : List Nat} {R : List Ck} {Q : AVal → Loc → List Ck → Prop}, lexG X ∈ R → cel X.cc (.ref X.sl) ∈ R → signs.length ≤ 100000 →
    Q (.str (signs.take 1)) m (sgn X.sl signs.tail :: R) → Cal D (n + 1) f ns (.ref X.G) [.int 1] [] [] m (sgn X.sl signs :: R) Q
def isW (c : Nat) : Bool := c == 10 || c == 9 || c == 13 || c == 32
def bp (c : Nat) (ln : Nat) : Nat := if c == 10 then ln + 1 else ln
/-- a word in quotation marks: what it is, what is left, the line -/
def lexQ : List Nat → List Nat → Nat → List Nat × List Nat × Nat
  | [], acc, ln => (acc, [], ln)
  | [c], acc, ln => if c == 34 then (acc, [], bp c ln) else if c == 92 then (acc, [], bp c ln) else (acc ++ [c], [], bp c ln)
  | c :: d :: r, acc, ln => if c == 34 then (acc, d :: r, bp c ln) else if c == 92 then lexQ r (acc ++ [d]) (bp d (bp c ln)) else lexQ (d :: r) (acc ++ [c]) (bp c ln)
/-- a bare word -/
def lexB : List Nat → List Nat → Nat → List Nat × List Nat × Nat
  | [], acc, ln => (acc, [], ln)
  | [c], acc, ln => if isW c then (acc, [], bp c ln) else if c == 92 then (acc, [], bp c ln) else (acc ++ [c], [], bp c ln)
  | c :: d :: r, acc, ln => if isW c then (acc, d :: r, bp c ln) else if c == 92 then lexB r (acc ++ [d]) (bp d (bp c ln)) else lexB (d :: r) (acc ++ [c]) (bp c ln)
def lexT : List Nat → Nat → List Nat × List Nat × Nat
  | [], ln => ([], [], ln)
  | c :: r, ln => if isW c then lexT r (bp c ln) else if c == 34 then lexQ r [] (bp c ln) else if c == 92 then (match r with | [] => ([], [], bp c ln) | d :: r' => lexB r' [d] (bp d (bp c ln))) else lexB r [c] (bp c ln)
/-- a line more -/
def bmp (signs : List Nat) (ln : Nat) : Nat := if signs.take 1 == [10] then ln + 1 else ln

section
variable {D : WD} {n : Nat} {f : Fm} {ns : Nms} {m : Loc} {P : List Ck} {Q : AVal → Loc → List Ck → Prop}
theorem cls240 (O : Ok D) : ClsIn D.K 240 := by
  constructor <;> rw [O.K] <;> rfl
theorem attr240 (O : Ok D) {x d : Addr} {fs : List (Str × AVal)} {name : Str} {b : AVal} {Q : AVal → Prop} (hm : Has P (inst x 240 d fs)) (hn : findIn D.K (.ref 240) name = some Option.none) (hb : fs.lookup name = some b) (hh : ∀ h v, V h b v → handedIn v = true) (q : Q b) :
    ∃ x' C d' fs b, (AVal.ref x) = .ref x' ∧ Has P (inst x' C d' fs) ∧ ClsIn D.K C ∧ findIn D.K (.ref C) name = some Option.none ∧ fs.lookup name = some b ∧ (∀ h v, V h b v → handedIn v = true) ∧ Q b :=
  ⟨x, 240, d, fs, b, rfl, hm, cls240 O, hn, hb, hh, q⟩
theorem hd_ref {a : Addr} : ∀ h v, V h (.ref a) v → handedIn v = true := fun _ v hv => by simp only [V] at hv; subst hv; rfl
theorem hd_str {a : List Nat} : ∀ h v, V h (.str a) v → handedIn v = true := fun _ v hv => by obtain ⟨t, rfl⟩ := hv; rfl
theorem hd_int {a : Int} : ∀ h v, V h (.int a) v → handedIn v = true := fun _ v hv => by obtain ⟨t, rfl⟩ := hv; rfl

/-- the next sign -/
theorem f_readcC (O : Ok D) {X : LexA} (L : LexOk D X) {pend : List (List Nat)} {signs : List Nat} {ln : Nat} {P' : List Ck} (hz : signs.length ≤ 100000) (w : Sw P (lexC X pend signs ln) (lexC X pend signs.tail (bmp signs ln)) P') (q : Q (.str (signs.take 1)) m P') :
    CodeC D (n + 2) f ns [.ref X.x] (fun vs => .call (.ref 223) ⟨vs.take 1, [].zip (vs.drop 1)⟩) m P Q := by
  refine CodeC.pak w fun R => ?_
  apply Wp.fnC (a := 223) (mk := fun vs => ⟨vs.take 1, [].zip (vs.drop 1)⟩)
  case F => wrow_raised
  dsimp only
  refine Bd.one (x := "self") (fun v => rfl) ?_
  w_left
  intro f' hM
  repeat none_booked
  refine Ev.attrH ?_ rfl
  repeat none_booked
  refine attr240 O (fs := [("lineno", .int ln), ("instream", .ref X.F), ("whitespace", .str ws4), ("pushback", .ref X.pb)]) (d := X.d) (b := .ref X.F) (Has.mem (by simp [lexP])) (by rw [O.K]; rfl) rfl hd_ref ?_
  refine Gm.fx (c := X.c) (d := X.dF) (fd := X.fdS) (fs := [("read", .ref X.G)]) (G := X.G) (by simp [lexP]) fn_read_none rfl ?_
  repeat none_booked
  refine ⟨KeepOk.own (c := lexG X) (by simp [lexP]) (fun h ⟨⟨sl, e⟩, _⟩ => ⟨_, _, e, rfl⟩), ?_⟩
  refine L.rd (by simp) (by simp) hz ?_
  repeat none_booked
  by_cases hc : (signs.take 1 == [10]) = true
  · have hb : bmp signs ln = ln + 1 := by unfold bmp; rw [if_pos hc]
    refine iteT hc ?_
    repeat none_booked
    refine Ex.augA ?_
    repeat none_booked
    refine ⟨X.x, 240, X.d, [("lineno", .int ln), ("instream", .ref X.F), ("whitespace", .str ws4), ("pushback", .ref X.pb)], .int ln, rfl, by simp, cls240 O, by rw [O.K]; rfl, by rw [O.K]; rfl, rfl, hd_int, Nat.le_of_ble_eq_true rfl, ?_⟩
    repeat none_booked
    refine ⟨_, .tail .head, ?_⟩
    repeat none_booked
    refine ⟨?_, q⟩
    rw [hb]; rfl
  · have hb : bmp signs ln = ln := by unfold bmp; rw [if_neg hc]
    refine iteF hc ?_
    repeat none_booked
    refine ⟨?_, q⟩
    rw [hb]; rfl
theorem f_readc (O : Ok D) {X : LexA} (L : LexOk D X) {pend : List (List Nat)} {signs : List Nat} {ln : Nat} {P' : List Ck} (hz : signs.length ≤ 100000) (w : Sw P (lexC X pend signs ln) (lexC X pend signs.tail (bmp signs ln)) P') (q : Q (.str (signs.take 1)) m P') :
    Cal D (n + 2) f ns (.ref 223) [.ref X.x] [] [] m P Q := CodeC.wp (f_readcC O L hz w q)
theorem isW_fnd (c : Nat) : (fnd ws4 [c] 0 4).isSome = isW c := by
  unfold fnd
  have h : ∀ i, pos ws4 [c] 4 i = (decide (i < 4) && (ws4[i]? == some c)) := by
    intro i
    unfold pos
    by_cases hi : i < 4
    · have : i = 0 ∨ i = 1 ∨ i = 2 ∨ i = 3 := by omega
      rcases this with rfl | rfl | rfl | rfl <;> simp
    · simp [hi]; intro; omega
  rw [show (List.range' 0 (4 + 1 - 0)) = [0, 1, 2, 3, 4] from rfl]
  simp only [List.find?, h]
  unfold isW
  by_cases h0 : c = 10
  · subst h0; simp
  by_cases h1 : c = 9
  · subst h1; simp
  by_cases h2 : c = 13
  · subst h2; simp
  by_cases h3 : c = 32
  · subst h3; simp
  have e0 : (10 == c) = false := by simpa using Ne.symm h0
  have e1 : (9 == c) = false := by simpa using Ne.symm h1
  have e2 : (13 == c) = false := by simpa using Ne.symm h2
  have e3 : (32 == c) = false := by simpa using Ne.symm h3
  simp [h0, h1, h2, h3, e0, e1, e2, e3]
theorem bmp_cons (c : Nat) (r : List Nat) (ln : Nat) : bmp (c :: r) ln = bp c ln := by unfold bmp bp; simp
theorem bmp_nil (ln : Nat) : bmp [] ln = ln := by unfold bmp; simp

theorem bnd_readc (O : Ok D) : BndIn D.K 240 "_read_char" 223 := by
  constructor <;> first | (rw [O.K]; rfl) | decide +kernel
theorem meth223 (O : Ok D) : MethIn D.K (.ref 240) "_read_char" (.ref 223) := methIn_ (by rw [O.K]; rfl)
/-- a step of the iterator over the signs -/
theorem nx_readc (O : Ok D) {X : LexA} (L : LexOk D X) {it b : Addr} {pend : List (List Nat)} {signs : List Nat} {ln : Nat} {R : List Ck} {Q : Option AVal → Loc → List Ck → Prop} (hz : signs.length ≤ 100000)
    (q : match signs with
      | [] => Q none m (cie it :: mtd b 223 X.x :: lexC X pend [] ln :: R)
      | c :: r => Q (some (.str [c])) m (cit it b [] :: mtd b 223 X.x :: lexC X pend r (bp c ln) :: R)) :
    Nx D (n + 4) f ns it m (cit it b [] :: mtd b 223 X.x :: lexC X pend signs ln :: R) Q := by
  obtain ⟨fd, names, body, F⟩ : ∃ fd names body, Fn D 223 fd names body := ⟨_, _, _, by wrow_raised⟩
  obtain ⟨oc, od, osl, ho⟩ := F.at'
  refine Nx.call O.hd (fn := 223) (b := b) (x := X.x) (l := []) (by simp) (by simp) ho ?_
  refine f_readcC O L hz (.tail (.tail .head)) ⟨_, rfl, by simp, by simp, ?_⟩
  cases signs with
  | nil => exact ⟨_, .head, by simpa [bmp_nil] using q⟩
  | cons c r => rw [bmp_cons]; exact q
end

-- HI

theorem lexQ_cons (c : Nat) (r acc : List Nat) (ln : Nat) : lexQ (c :: r) acc ln = if c == 34 then (acc, r, bp c ln) else if c == 92 then lexQ r.tail (acc ++ r.take 1) (bmp r (bp c ln)) else lexQ r (acc ++ [c]) (bp c ln) := by
  cases r with
  | nil => simp [lexQ, bmp_nil]
  | cons d r => simp [lexQ, bmp_cons]
theorem lexB_cons (c : Nat) (r acc : List Nat) (ln : Nat) : lexB (c :: r) acc ln = if isW c then (acc, r, bp c ln) else if c == 92 then lexB r.tail (acc ++ r.take 1) (bmp r (bp c ln)) else lexB r (acc ++ [c]) (bp c ln) := by
  cases r with
  | nil => simp [lexB, bmp_nil]
  | cons d r => simp [lexB, bmp_cons]
theorem lexT_cons (c : Nat) (r : List Nat) (ln : Nat) : lexT (c :: r) ln = if isW c then lexT r (bp c ln) else if c == 34 then lexQ r [] (bp c ln) else if c == 92 then lexB r.tail (r.take 1) (bmp r (bp c ln)) else lexB r [c] (bp c ln) := by
  cases r with
  | nil => simp [lexT, lexB, bmp_nil]
  | cons d r => simp [lexT, bmp_cons]
theorem tail_le {α : Type} (r : List α) : r.tail.length ≤ r.length := by simp
/-- get_token -/
def getT (pend : List (List Nat)) (signs : List Nat) (ln : Nat) : List Nat × List (List Nat) × List Nat × Nat :=
  match pend with
  | t :: r => (t, r, signs, ln)
  | [] => ((lexT signs ln).1, [], (lexT signs ln).2.1, (lexT signs ln).2.2)

section
variable {D : WD} {n : Nat} {f : Fm} {ns : Nms} {m : Loc} {P : List Ck} {Q : AVal → Loc → List Ck → Prop}
theorem CodeC.front {as : List AVal} {c : List Value → Code} {P' : List Ck} {c0 c1 : Ck} (w : Sw P c0 c1 P') (h : ∀ R, CodeC D n f ns as c m (c0 :: R) fun b m' P'' => Imp P'' (c1 :: R) ∧ Q b m' P') : CodeC D n f ns as c m P Q := by
  obtain ⟨A, B, rfl, rfl⟩ := w.split
  refine CodeC.imp (.perm List.perm_middle) ((h (A ++ B)).mono fun b m' P'' q => ⟨_, q.1.trans (.perm List.perm_middle.symm), q.2⟩)

theorem o_inW {c : Nat} {Q : AVal → Loc → List Ck → Prop} (q : Q (.bool (isW c)) m P) : Wp D n f ns V [.str [c], .str ws4] (Op2 (compareOp .In)) m P Q := o_inS (by
  have := isW_fnd c
  rw [show ws4.length = 4 from rfl, this]; exact q)

theorem f_gettokC (O : Ok D) {X : LexA} (L : LexOk D X) {pend pend' : List (List Nat)} {signs signs' tok : List Nat} {ln ln' : Nat} {P' : List Ck} (hz : signs.length ≤ 100000) (hp : pend.length ≤ 100000) (w : Sw P (lexC X pend signs ln) (lexC X pend' signs' ln') P')
    (hT : getT pend signs ln = (tok, pend', signs', ln')) (q : Q (.str tok) m P') :
    CodeC D (n + 5) f ns [.ref X.x] (fun vs => .call (.ref 230) ⟨vs.take 1, [].zip (vs.drop 1)⟩) m P Q := by
  refine CodeC.front w fun R => ?_
  refine CodeC.imp (Imp.unpak (A := [])) ?_
  apply Wp.fnC (a := 230) (mk := fun vs => ⟨vs.take 1, [].zip (vs.drop 1)⟩)
  case F => wrow_raised
  dsimp only
  refine Bd.one (x := "self") (fun v => rfl) ?_
  w_left
  intro f' hM
  repeat none_booked
  refine Ev.attrH ?_ rfl
  repeat none_booked
  refine attr240 O (fs := [("lineno", .int ln), ("instream", .ref X.F), ("whitespace", .str ws4), ("pushback", .ref X.pb)]) (d := X.d) (b := .ref X.pb) (Has.mem (by simp [lexP])) (by rw [O.K]; rfl) rfl hd_ref ?_
  refine t_list (xs := pend.map .str) (by simp [lexP]) (by simp; omega) ?_
  cases pend with
  | cons t r =>
    simp only [getT, Prod.mk.injEq] at hT
    obtain ⟨rfl, rfl, rfl, rfl⟩ := hT
    refine iteT rfl ?_
    repeat none_booked
    refine Ev.attrH ?_ rfl
    repeat none_booked
    refine attr240 O (fs := [("lineno", .int ln), ("instream", .ref X.F), ("whitespace", .str ws4), ("pushback", .ref X.pb)]) (d := X.d) (b := .ref X.pb) (Has.mem (by simp [lexP])) (by rw [O.K]; rfl) rfl hd_ref ?_
    refine g_pop (xs := (t :: r).map .str) (by simp [lexP]) ?_
    repeat none_booked
    refine c_popAt (xs := (t :: r).map .str) (j := 0) (x := .str t) (by simp [seqIndex?]) rfl (.tail (.tail .head)) rfl (by simp at hp ⊢; omega) ?_
    repeat none_booked
    exact ⟨Imp.pak (A := []) (B := R) (l := lexP X r signs ln), q⟩
  | nil =>
    refine iteF (by simp) ?_
    refine Wp.imp (Imp.pak (A := []) (B := R) (l := lexP X [] signs ln)) ?_
    simp only [List.nil_append]
    obtain ⟨RES, hRES⟩ : ∃ RES, RES = (tok, signs', ln') := ⟨_, rfl⟩
    have hT : lexT signs ln = RES ∧ pend' = [] := by
      simp only [getT, Prod.mk.injEq] at hT
      obtain ⟨rfl, rfl, rfl, rfl⟩ := hT
      exact ⟨hRES.symm, rfl⟩
    obtain ⟨hT1, rfl⟩ := hT
    repeat none_booked
    refine Ev.boundH ?_ rfl
    repeat none_booked
    refine ⟨X.x, 240, X.d, [("lineno", .int ln), ("instream", .ref X.F), ("whitespace", .str ws4), ("pushback", .ref X.pb)], 223, rfl, Has.pak (.head _) (by simp [lexP]), bnd_readc O, rfl, fun b => ?_⟩
    repeat none_booked
    refine c_iter2 (.head _) fun it => ?_
    repeat none_booked
    focus ((refine Ex.forC ?_ ?_); rotate_left; (next => (intro _; rfl)))
    repeat none_booked
    refine ⟨it, fun k m' P' => ∃ (ch : Option AVal) (tk : List Nat), m' = [some (.ref X.x), some (.str tk), some (.ref it), ch, none] ∧ ((tk = [] ∧ ∃ s l, P' = cit it b [] :: mtd b 223 X.x :: lexC X [] s l :: R ∧ lexT s l = RES ∧ s.length ≤ 100000 ∧ s.length + 1 ≤ k) ∨ (∃ l, P' = cie it :: mtd b 223 X.x :: lexC X [] [] l :: R ∧ RES = (tk, [], l))), signs.length + 1, rfl, .live (.head _), ⟨_, [], rfl, .inl ⟨rfl, signs, ln, rfl, hT1, hz, Nat.le_refl _⟩⟩, ?_⟩
    rintro k m' P'' ⟨ch, tk, rfl, ⟨rfl, s, l, rfl, hs, hsz, hk⟩ | ⟨l, rfl, hs⟩⟩
    case inr =>
      refine Nx.over O.hd (.head _) ?_
      repeat none_booked
      subst hs
      simp only [Prod.mk.injEq] at hRES
      obtain ⟨rfl, rfl, rfl⟩ := hRES
      exact ⟨Imp.sub (.cons _ (.cons _ (.refl _))), q⟩
    refine nx_readc O L hsz ?_
    cases s with
    | nil =>
      dsimp only
      repeat none_booked
      have hs : ([], [], l) = RES := hs
      subst hs
      simp only [Prod.mk.injEq] at hRES
      obtain ⟨rfl, rfl, rfl⟩ := hRES
      exact ⟨Imp.sub (.cons _ (.cons _ (.refl _))), q⟩
    | cons c r =>
      dsimp only
      refine ⟨.live (.head _), ?_⟩
      rw [lexT_cons] at hs
      simp only [List.length_cons] at hsz hk
      repeat none_booked
      refine Ev.attrH ?_ rfl
      repeat none_booked
      refine attr240 O (fs := [("lineno", .int (bp c l)), ("instream", .ref X.F), ("whitespace", .str ws4), ("pushback", .ref X.pb)]) (d := X.d) (b := .str ws4) (Has.pak (.tail _ (.tail _ (.head _))) (by simp [lexP])) (by rw [O.K]; rfl) rfl hd_str ?_
      refine o_inW ?_
      repeat none_booked
      by_cases hw : isW c = true
      · rw [if_pos hw] at hs
        refine iteT hw ?_
        repeat none_booked
        exact ⟨r.length + 1, by omega, _, [], rfl, .inl ⟨rfl, r, _, rfl, hs, by omega, Nat.le_refl _⟩⟩
      rw [if_neg hw] at hs
      refine iteF hw ?_
      repeat none_booked
      by_cases hc : (c == 34) = true
      · have hc' : ([c] == [34]) = true := by simpa using hc
        rw [if_pos hc] at hs
        refine iteT hc' ?_
        repeat none_booked
        focus ((refine Ex.forC ?_ ?_); rotate_left; (next => (intro _; rfl)))
        repeat none_booked
        refine ⟨it, fun k1 m' P' => ∃ (ch : AVal) (tk : List Nat), m' = [some (.ref X.x), some (.str tk), some (.ref it), some ch, none] ∧ ∃ s l, P' = cit it b [] :: mtd b 223 X.x :: lexC X [] s l :: R ∧ lexQ s tk l = RES ∧ tk.length + s.length ≤ 100000 ∧ s.length + 1 ≤ k1, r.length + 1, rfl, .live (.head _), ⟨_, [], rfl, r, _, rfl, hs, by simp; omega, Nat.le_refl _⟩, ?_⟩
        rintro k1 m' P'' ⟨ch, tk, rfl, s, l2, rfl, hs, hsz1, hk1⟩
        refine nx_readc O L (by omega) ?_
        cases s with
        | nil =>
          dsimp only
          repeat none_booked
          exact ⟨0, by omega, _, tk, rfl, .inr ⟨l2, rfl, hs.symm⟩⟩
        | cons c r =>
          dsimp only
          refine ⟨.live (.head _), ?_⟩
          rw [lexQ_cons] at hs
          simp only [List.length_cons] at hsz1 hk1
          repeat none_booked
          by_cases hc : (c == 34) = true
          · have hc' : ([c] == [34]) = true := by simpa using hc
            rw [if_pos hc] at hs
            refine iteT hc' ?_
            repeat none_booked
            rw [← hs] at hRES
            simp only [Prod.mk.injEq] at hRES
            obtain ⟨rfl, rfl, rfl⟩ := hRES
            exact ⟨Imp.sub (.cons _ (.cons _ (.refl _))), q⟩
          have hc' : ¬ ([c] == [34]) = true := by simpa using hc
          rw [if_neg hc] at hs
          refine iteF hc' ?_
          repeat none_booked
          by_cases hc2 : (c == 92) = true
          · have hc2' : ([c] == [92]) = true := by simpa using hc2
            rw [if_pos hc2] at hs
            refine iteT hc2' ?_
            repeat none_booked
            refine Gm.iH (d := X.d) (fs := [("lineno", .int (bp c l2)), ("instream", .ref X.F), ("whitespace", .str ws4), ("pushback", .ref X.pb)]) (Has.pak (.tail _ (.tail _ (.head _))) (by simp [lexP])) (meth223 O) rfl ?_
            repeat none_booked
            refine f_readc O L (by omega) (.tail (.tail .head)) ?_
            repeat none_booked
            refine o_iaddS (by have := List.length_take_le 1 r; omega) ?_
            refine ⟨_, by one_sign, ?_⟩
            repeat none_booked
            exact ⟨r.tail.length + 1, by have := tail_le r; omega, _, _, rfl, _, _, rfl, hs, by have h1 := List.length_take (i := 1) (l := r); have h2 := List.length_tail (l := r); rw [List.length_append, h1, h2]; omega, Nat.le_refl _⟩
          · have hc2' : ¬ ([c] == [92]) = true := by simpa using hc2
            rw [if_neg hc2] at hs
            refine iteF hc2' ?_
            repeat none_booked
            refine o_iaddS (by simp; omega) ?_
            refine ⟨_, by one_sign, ?_⟩
            repeat none_booked
            exact ⟨r.length + 1, by omega, _, _, rfl, _, _, rfl, hs, by simp; omega, Nat.le_refl _⟩
      have hc' : ¬ ([c] == [34]) = true := by simpa using hc
      rw [if_neg hc] at hs
      refine iteF hc' ?_
      repeat none_booked
      refine iteCutJ (fun m' P' => ∃ (ch s : List Nat) (l : Nat), m' = [some (.ref X.x), some (.str []), some (.ref it), some (.str ch), none] ∧ P' = cit it b [] :: mtd b 223 X.x :: lexC X [] s l :: R ∧ lexB s ch l = RES ∧ ch.length ≤ 1 ∧ ch.length + s.length ≤ r.length + 1 ∧ s.length ≤ r.length) (fun hc2 => ?_) (fun hc2 => ?_) ?_
      · have hc2 : (c == 92) = true := by simpa using hc2
        rw [if_pos hc2] at hs
        repeat none_booked
        refine Gm.iH (d := X.d) (fs := [("lineno", .int (bp c l)), ("instream", .ref X.F), ("whitespace", .str ws4), ("pushback", .ref X.pb)]) (Has.pak (.tail _ (.tail _ (.head _))) (by simp [lexP])) (meth223 O) rfl ?_
        repeat none_booked
        refine f_readc O L (by omega) (.tail (.tail .head)) ?_
        repeat none_booked
        exact ⟨_, _, _, rfl, rfl, hs, List.length_take_le 1 r, by have h1 := List.length_take (i := 1) (l := r); have h2 := List.length_tail (l := r); rw [h1, h2]; omega, tail_le r⟩
      · have hc2 : ¬ (c == 92) = true := by simpa using hc2
        rw [if_neg hc2] at hs
        repeat none_booked
        exact ⟨_, _, _, rfl, rfl, hs, Nat.le_refl _, by simp; omega, Nat.le_refl _⟩
      clear hs
      rintro m' P'' ⟨ch0, s, l0, rfl, rfl, hs, hch, hlen, hsl⟩
      repeat none_booked
      refine o_iaddS (by simp; omega) ?_
      refine ⟨_, by one_sign, ?_⟩
      repeat none_booked
      focus ((refine Ex.forC ?_ ?_); rotate_left; (next => (intro _; rfl)))
      repeat none_booked
      refine ⟨it, fun k1 m' P' => ∃ (ch : AVal) (tk : List Nat), m' = [some (.ref X.x), some (.str tk), some (.ref it), some ch, none] ∧ ∃ s l, P' = cit it b [] :: mtd b 223 X.x :: lexC X [] s l :: R ∧ lexB s tk l = RES ∧ tk.length + s.length ≤ 100000 ∧ s.length + 1 ≤ k1, s.length + 1, rfl, .live (.head _), ⟨_, ch0, rfl, s, _, rfl, hs, by omega, Nat.le_refl _⟩, ?_⟩
      clear hs hch hlen hsl
      rintro k1 m' P'' ⟨ch, tk, rfl, s, l2, rfl, hs, hsz1, hk1⟩
      refine nx_readc O L (by omega) ?_
      cases s with
      | nil =>
        dsimp only
        repeat none_booked
        exact ⟨0, by omega, _, tk, rfl, .inr ⟨l2, rfl, hs.symm⟩⟩
      | cons c r =>
        dsimp only
        refine ⟨.live (.head _), ?_⟩
        rw [lexB_cons] at hs
        simp only [List.length_cons] at hsz1 hk1
        repeat none_booked
        refine Ev.attrH ?_ rfl
        repeat none_booked
        refine attr240 O (fs := [("lineno", .int (bp c l2)), ("instream", .ref X.F), ("whitespace", .str ws4), ("pushback", .ref X.pb)]) (d := X.d) (b := .str ws4) (Has.pak (.tail _ (.tail _ (.head _))) (by simp [lexP])) (by rw [O.K]; rfl) rfl hd_str ?_
        refine o_inW ?_
        repeat none_booked
        by_cases hc : isW c = true
        · rw [if_pos hc] at hs
          refine iteT hc ?_
          repeat none_booked
          rw [← hs] at hRES
          simp only [Prod.mk.injEq] at hRES
          obtain ⟨rfl, rfl, rfl⟩ := hRES
          exact ⟨Imp.sub (.cons _ (.cons _ (.refl _))), q⟩
        rw [if_neg hc] at hs
        refine iteF hc ?_
        repeat none_booked
        by_cases hc2 : (c == 92) = true
        · have hc2' : ([c] == [92]) = true := by simpa using hc2
          rw [if_pos hc2] at hs
          refine iteT hc2' ?_
          repeat none_booked
          refine Gm.iH (d := X.d) (fs := [("lineno", .int (bp c l2)), ("instream", .ref X.F), ("whitespace", .str ws4), ("pushback", .ref X.pb)]) (Has.pak (.tail _ (.tail _ (.head _))) (by simp [lexP])) (meth223 O) rfl ?_
          repeat none_booked
          refine f_readc O L (by omega) (.tail (.tail .head)) ?_
          repeat none_booked
          refine o_iaddS (by have := List.length_take_le 1 r; omega) ?_
          refine ⟨_, by one_sign, ?_⟩
          repeat none_booked
          exact ⟨r.tail.length + 1, by have := tail_le r; omega, _, _, rfl, _, _, rfl, hs, by have h1 := List.length_take (i := 1) (l := r); have h2 := List.length_tail (l := r); rw [List.length_append, h1, h2]; omega, Nat.le_refl _⟩
        · have hc2' : ¬ ([c] == [92]) = true := by simpa using hc2
          rw [if_neg hc2] at hs
          refine iteF hc2' ?_
          repeat none_booked
          refine o_iaddS (by simp; omega) ?_
          refine ⟨_, by one_sign, ?_⟩
          repeat none_booked
          exact ⟨r.length + 1, by omega, _, _, rfl, _, _, rfl, hs, by simp; omega, Nat.le_refl _⟩
end

-- HJ

section
variable {D : WD} {n : Nat} {f : Fm} {ns : Nms} {m : Loc} {P : List Ck} {Q : AVal → Loc → List Ck → Prop}
theorem f_gettok (O : Ok D) {X : LexA} (L : LexOk D X) {pend pend' : List (List Nat)} {signs signs' tok : List Nat} {ln ln' : Nat} {P' : List Ck} (hz : signs.length ≤ 100000) (hp : pend.length ≤ 100000) (w : Sw P (lexC X pend signs ln) (lexC X pend' signs' ln') P')
    (hT : getT pend signs ln = (tok, pend', signs', ln')) (q : Q (.str tok) m P') : Cal D (n + 5) f ns (.ref 230) [.ref X.x] [] [] m P Q := CodeC.wp (f_gettokC O L hz hp w hT q)
theorem meth230 (O : Ok D) : MethIn D.K (.ref 240) "get_token" (.ref 230) := methIn_ (by rw [O.K]; kernel_rfl)
theorem meth237 (O : Ok D) : MethIn D.K (.ref 240) "push_token" (.ref 237) := methIn_ (by rw [O.K]; kernel_rfl)
/-- push_token -/
theorem f_push (O : Ok D) {X : LexA} {pend : List (List Nat)} {signs t : List Nat} {ln : Nat} {P' : List Ck} (hp : pend.length ≤ 100000) (w : Sw P (lexC X pend signs ln) (lexC X (pend ++ [t]) signs ln) P') (q : Q .none m P') :
    Cal D (n + 1) f ns (.ref 237) [.ref X.x, .str t] [] [] m P Q := by
  refine Wp.pak w fun R => ?_
  apply Wp.fn (a := 237) (mk := fun vs => ⟨vs.take 2, [].zip (vs.drop 2)⟩)
  case F => wrow_raised
  dsimp only
  refine Bd.two (x := "self") (y := "token") (fun v w => rfl) ?_
  w_left
  intro f' hM
  repeat none_booked
  refine Ev.attrH ?_ rfl
  repeat none_booked
  refine attr240 O (fs := [("lineno", .int ln), ("instream", .ref X.F), ("whitespace", .str ws4), ("pushback", .ref X.pb)]) (d := X.d) (b := .ref X.pb) (Has.mem (by simp [lexP])) (by rw [O.K]; rfl) rfl hd_ref ?_
  refine g_append (xs := pend.map .str) (by simp [lexP]) ?_
  repeat none_booked
  refine c_appendL (xs := pend.map .str) (.tail (.tail .head)) (by simp; omega) ?_
  repeat none_booked
  refine ⟨?_, q⟩
  simp [lexP]

/-- _netrclex(stream) -/
theorem f_lexinit (O : Ok D) {F : Addr} (q : ∀ x d pb, Q (.ref x) m (lst pb [] :: inst x 240 d [("lineno", .int (1 : Nat)), ("instream", .ref F), ("whitespace", .str ws4), ("pushback", .ref pb)] :: P)) : Cal D (n + 3) f ns (.ref 240) [.ref F] [] [] m P Q := by
  refine Cal.mk (fI := 216) (by rw [O.K]; rfl) (by rw [O.K]; rfl) (by rw [O.K]; rfl) fun x d => ?_
  apply Wp.fnC (a := 216) (mk := fun vs => ⟨vs.head?.getD .none :: vs.tail.take 1, [].zip (vs.tail.drop 1)⟩)
  case F => wrow_raised
  dsimp only
  refine Bd.two (x := "self") (y := "fp") (fun v w => rfl) ?_
  w_left
  intro f' hM
  repeat none_booked
  refine Ex.assignA ?_ rfl
  repeat none_booked
  refine ⟨x, 240, d, _, _, rfl, cls240 O, by rw [O.K]; rfl, .head, by decide, ?_⟩
  repeat none_booked
  refine Ex.assignA ?_ rfl
  repeat none_booked
  refine ⟨x, 240, d, _, _, rfl, cls240 O, by rw [O.K]; rfl, .head, Nat.le_of_ble_eq_true rfl, ?_⟩
  repeat none_booked
  refine Ex.assignA ?_ rfl
  repeat none_booked
  refine ⟨x, 240, d, _, _, rfl, cls240 O, by rw [O.K]; rfl, .head, Nat.le_of_ble_eq_true rfl, ?_⟩
  repeat none_booked
  refine Ex.assignA ?_ rfl
  repeat none_booked
  intro pb
  repeat none_booked
  refine ⟨x, 240, d, _, _, rfl, cls240 O, by rw [O.K]; rfl, .tail .head, Nat.le_of_ble_eq_true rfl, ?_⟩
  repeat none_booked
  refine ⟨rfl, ?_⟩
  exact q x d pb

theorem f_lexer (O : Ok D) {page : List Nat} (hz : page.length ≤ 100000) (q : ∀ X ps, LexOk D X → Q (.ref X.x) m (lexC X [] page 1 :: tab 251 ps :: P)) : Cal D (n + 4) f ns (.ref 256) [.str page] [] [] m (tab 251 #[] :: P) Q := by
  refine Wp.imp' ?_
  apply Wp.fnX (a := 256) (mk := fun vs => ⟨vs.take 1, [].zip (vs.drop 1)⟩)
  case F => wrow_raised
  dsimp only
  refine Bd.one (x := "page") (fun v => rfl) ?_
  w_left
  intro f' hM hcode
  repeat none_booked
  refine c_listS O.hd (by omega) fun sl => ?_
  repeat none_booked
  refine Ev.lambda (T := 251) (c := 255) (ps := #[]) hcode (by rw [O.K]; rfl) (fun c' => .tail .head) trivial rfl (fun x hx => by simp at hx) rfl fun F c qF pmF ctF => ?_
  repeat none_booked
  refine Ex.assignF ?_ rfl
  have hcs : (f'.env.cells.lookup ("signs" : Str)).isSome = true := (hM "signs" (by simp)).1
  refine Ev.lambda (T := 251) (c := 255) hcode (by rw [O.K]; rfl) (fun c' => .tail (.tail .head)) (by exact trivial) rfl (fun x hx => ?_) rfl fun G cG qG pmG ctG => ?_
  · simp at hx; subst hx; exact hcs
  repeat none_booked
  refine ⟨F, c, _, _, rfl, fn_read_none, fun dF => .tail .head, fun dF => ?_⟩
  repeat none_booked
  refine ⟨KeepOk.cls (by rw [O.K]; rfl) (by rw [O.K]; rfl), ?_⟩
  refine f_lexinit O fun x d pb => ?_
  repeat none_booked
  refine ⟨"signs", .ref sl, .tail (.tail .head), ?_⟩
  generalize hcc : (f'.env.cells.lookup ("signs" : Str)).getD 0 = cc
  have hclos : closOf f'.env.cells [("size", NameKind.local), ("signs", NameKind.free)] [] = [(("signs" : Str), cc)] := by
    rw [← hcc]; rfl
  dsimp only
  rw [hclos]
  generalize hfG : kla_fn "<lambda>" qG _ _ _ [(("signs" : Str), cc)] pmG (.ref cG) ctG = fdG
  generalize kla_fn "<lambda>" qF _ _ _ _ pmF (.ref c) ctF = fdF
  generalize htb : tab 251 _ = tb
  obtain ⟨tps, rfl⟩ : ∃ ps, tb = tab 251 ps := ⟨_, htb.symm⟩
  clear htb
  refine ⟨_, Imp.trans (.perm (List.perm_append_singleton ..)) (Imp.trans (.perm ?_) (Imp.pak (A := []) (l := lexP ⟨x, d, pb, F, c, dF, fdF, G, cG, fdG, cc, sl⟩ [] page 1))), q ⟨x, d, pb, F, c, dF, fdF, G, cG, fdG, cc, sl⟩ tps ?_⟩
  · simp only [lexP, List.nil_append, List.cons_append]
    refine Pk.perm (.tail (.tail (.tail (.tail (.tail .head))))) ?_
    refine Pk.perm (.tail (.tail .head)) ?_
    refine Pk.perm (.tail .head) ?_
    refine Pk.perm (.tail (.tail .head)) ?_
    refine Pk.perm (.tail .head) ?_
    exact .refl _
  subst hfG
  clear q hcs
  refine ⟨fun {n f ns m signs R Q} hG hC hz q => ?_⟩
  apply Wp.lam (names := [("size", NameKind.local), ("signs", NameKind.free)]) (P0 := [sgn sl signs]) (R := R) (mk := fun vs => ⟨vs.take 1, [].zip (vs.drop 1)⟩) (hco := ?hco) (hgen := ?hgen) (hk := ?hk)
  case hm => exact List.mem_append_right _ hG
  case H => exact fno_here rfl
  case hco => rfl
  case hgen => rfl
  case hk => rfl
  case hbody => rfl
  case hgl => rfl
  case hbl => rfl
  case hnm => rfl
  case hnd => decide +kernel
  case hnc => decide +kernel
  case hc2 => simp
  case hcf => intro y hy; simp at hy; subst hy; simp [List.lookup]
  case hcR =>
    intro y c' hy
    have hy : List.lookup y [(("signs" : Str), cc)] = some c' := hy
    rw [List.lookup_cons] at hy
    split at hy
    · cases hy; exact ⟨_, hC⟩
    · cases hy
  case hb =>
    refine Bd.one (x := "size") (fun v => rfl) ?_
    refine ⟨rfl, by decide +kernel, by simp, .hit rfl (.free rfl hC .nil), fun f' => ?_⟩
    repeat none_booked
    dsimp only at q hG hC ⊢
    clear hG hC hclos hcc
    refine t_list (a := sl) (xs := signs.map fun c => .str [c]) (.head _) (by simp; omega) ?_
    cases signs with
    | nil =>
      refine iteF (by simp) ?_
      repeat none_booked
      all_goals exact q
    | cons c0 r =>
      refine iteT rfl ?_
      repeat none_booked
      refine c_popAt (xs := (c0 :: r).map fun c => .str [c]) (j := 0) (x := .str [c0]) (by simp [seqIndex?]) rfl .head rfl (by simp at hz ⊢; omega) ?_
      exact q
end

end Mine
-- XE
namespace Mine
open PySem PySem.W PySem.Calls PyProof.Rows PySem.SeqAt

section
variable {D : WD} {n : Nat} {f : Fm} {ns : Nms} {m : Loc} {P : List Ck}

theorem cit_no_len : typeLookup (.type "callable_iterator") "__len__" = pure none := by rw [typeLookup_type, builtinLookup_eq_fast]; kernel_rfl
theorem cit_no_hint : typeLookup (.type "callable_iterator") "__length_hint__" = pure none := by rw [typeLookup_type, builtinLookup_eq_fast]; kernel_rfl

theorem Itr.more {it : Addr} {d : Ck} (i : Itr it P) : Itr it (d :: P) := by
  cases i with
  | live h => exact .live (.tail _ h)
  | over h => exact .over (.tail _ h)
/-- what a list takes from an iterator that calls: J between the steps -/
structure TakeC (D : WD) (n : Nat) (f : Fm) (ns : Nms) (it : Addr) (m : Loc) (J : Nat → List AVal → List Ck → Prop) (Qe : List AVal → List Ck → Prop) : Prop where
  itr : ∀ k acc P, J k acc P → Itr it P
  step : ∀ k acc P, J k acc P → ∀ S, Nx D n f ns it m (lst S acc :: P) fun r m2 P2 => m2 = m ∧ match r with
    | some v => acc.length < 100000 ∧ ∃ k' P3, k' < k ∧ P2 = lst S acc :: P3 ∧ J k' (acc ++ [v]) P3
    | Option.none => ∃ P3, P2 = lst S acc :: P3 ∧ Qe acc P3

theorem takeC_loop {it S : Addr} {J : Nat → List AVal → List Ck → Prop} {Qe : List AVal → List Ck → Prop} (T : TakeC D n f ns it m J Qe) {A : Around} {g : Heap} {s0 : Shared} {R : Result → Shared → Prop} (r : Room D (n + 1) A) (p : PF D g)
    (hR : ∀ acc P s', TK s0.heap s'.heap → St D g f ns m (lst S acc :: P) s' → Qe acc P → R (.ok (.ret .none)) s') :
    ∀ (k : Nat) (acc : List AVal) (P : List Ck) (s : Shared), J k acc P → TK s0.heap s.heap → St D g f ns m (lst S acc :: P) s → codeAny (model D.prog D.w) A (.builtin "list.extend.loop" ⟨[.ref S, .ref it, .none], []⟩) R s := by
  intro k
  induction k using Nat.strongRecOn with
  | ind k ih =>
    intro acc P s hJ T0 St0
    refine codeAny_builtin F.entry_extend_loop ?_
    rw [Around.under_plainId F.plain_extend_loop _]
    show wpAny _ A.in1 (pyNext (.ref it) >>= _) _ _ s
    refine wpAny_bind (wpAny_mono ((T.step k acc P hJ S).run (Q' := fun x s2 => ∃ b m2 P2, TK s.heap s2.heap ∧ OptR s2.heap b x ∧ St D g f ns m2 P2 s2 ∧ _) r.in1 p St0 .nil fun b m2 P2 x s2 T2 hx S2 q => ⟨b, m2, P2, T2, hx, S2, q⟩) (fun x s2 => ?_) fun _ _ e => e.elim)
    rintro ⟨b, m2, P2, T2, hx, S2, q⟩
    obtain ⟨rfl, q⟩ := q
    cases b with
    | none =>
      cases hx
      obtain ⟨P3, rfl, q⟩ := q
      exact wpAny_pure (hR acc P3 s2 (T0.trans T2) S2 q)
    | some v =>
      obtain ⟨w, rfl, hw⟩ := hx
      obtain ⟨hlen, k', P3, hk, rfl, hJ'⟩ := q
      obtain ⟨vs, ⟨cn, hl⟩, hvs⟩ := S2.holds _ (List.mem_cons_self ..)
      show wpAny _ A.in1 (updateSeq S (·.push w) >>= _) _ _ _
      refine wpAny_bind ?_
      have hL := hvs.length
      obtain ⟨S3, T3⟩ := S2.listUpd (tk := s2.toks) (ys := acc ++ [v]) (P' := lst S (acc ++ [v]) :: P3) (fn := (·.push w)) (vs := vs) .head hl (by simp) (hvs.append (Vs1 hw))
      refine wpAny_updateSeq hl rfl (wpAny_pure ⟨plainId_quiet F.plain_extend_loop _, ih k' hk (acc ++ [v]) P3 _ hJ' ((T0.trans T2).trans T3) S3⟩) (by rw [sizeLine_eq, List.size_toArray]; omega) (by rw [sizeLine_eq, Array.size_push, List.size_toArray]; omega)

/-- list(it) -/
theorem c_listC {it : Addr} {J : Nat → List AVal → List Ck → Prop} {Qe : List AVal → List Ck → Prop} {k0 : Nat} {Q : AVal → Loc → List Ck → Prop} (T : TakeC D n f ns it m J Qe) (h0 : J k0 [] P) (q : ∀ acc P2 S, Qe acc P2 → Q (.ref S) m (lst S acc :: P2)) :
    Cal D (n + 4) f ns (.typ "list") [.ref it] [] [] m P Q := .t fun A g s vs r p S hv => by
  obtain ⟨v, rfl, h1⟩ := Vs.one hv
  simp only [V] at h1; subst h1
  have hI := (T.itr k0 [] P h0).typeIs S
  refine callType_codes (Q₁ := fun obj s₁ => obj = .ref s.heap.objs.size ∧ s₁ = { s with heap := s.heap.push { cls := .type "list", data := .seq #[] } }) F.called_list (F.typeCall_list_1 _) F.entry_list_init
    (code_list_new _ ⟨rfl, rfl⟩) fun obj s₁ h₁ => ?_
  obtain ⟨rfl, rfl⟩ := h₁
  have hS : (s.heap.push { cls := .type "list", data := .seq #[] }).get? s.heap.objs.size = some { cls := .type "list", data := .seq #[] } := Heap.get?_push_size _ rfl
  refine ⟨⟨_, hS, rfl⟩, F.args_list_init_2 _ _, ?_⟩
  have hne : s.heap.objs.size ≠ it := by
    obtain ⟨o, ho, _⟩ := hI
    exact Nat.ne_of_gt (Heap.lt_size ho)
  show wpAny _ A.in1.in1 (do let old ← Builtin.List.listItems (.ref _); Builtin.List.listUpdate (.ref _) (fun _ => #[]); letGo old.toList.reverse; Builtin.List.listExtendWith (.ref _) (.ref it) .none) _ _ _
  have S0 := S.newc (c' := lst s.heap.objs.size []) (tk := s.toks) (h' := s.heap.push { cls := .type "list", data := .seq #[] }) (fun b o e => Heap.get?_push_of_some _ e) ⟨[], ⟨0, hS⟩, .nil⟩ (fun y hy => by simp [lst] at hy; subst hy; exact Heap.get?_none_of_le (Nat.le_refl _)) (by simp [lst])
  have T0 : TK s.heap (s.heap.push { cls := .type "list", data := .seq #[] }) := TK.keeps fun b o e => Heap.get?_push_of_some _ e
  refine wpAny_bind ?_
  unfold Builtin.List.listItems
  refine wpAny_bind (wpAny_seqItems hS rfl (wpAny_pure ?_))
  show wpAny _ _ (updateSeq _ (fun _ => #[]) >>= fun _ => letGo (#[] : Array Value).toList.reverse >>= fun _ => Builtin.List.listExtendWith (.ref _) (.ref it) .none) _ _ _
  refine wpAny_bind (wpAny_updateSeq hS rfl ?_)
  obtain ⟨S1, T1⟩ := S0.listUpd (tk := s.toks) (vs := []) (ws := []) (fn := fun _ => #[]) .head hS rfl .nil
  refine wpAny_bind (wpAny_letGo ?_)
  have hS1 := Heap.get?_update_self (Obj.mapSeq (fun _ => (#[] : Array Value))) hS rfl
  have hI1 := (T.itr k0 [] P h0).more (d := lst s.heap.objs.size []) |>.typeIs S1
  unfold Builtin.List.listExtendWith
  refine wpAny_bind (wpAny_typeOf hI1 ?_)
  have h1 : Builtin.List.listSameRef (.ref s.heap.objs.size) (.ref it) = false := by simp [Builtin.List.listSameRef, hne]
  have h2 : (Value.type "callable_iterator" == Value.type "list") = false := by decide
  have h3 : (Value.type "callable_iterator" == Value.type "tuple") = false := by decide
  simp only [h1, h2, h3, Bool.or_false, Bool.false_eq_true, if_false]
  refine wpAny_bind (iter_cit hI1 ?_)
  refine wpAny_bind (wpAny_holding ?_)
  unfold Builtin.List.listLengthHint
  refine wpAny_bind (wpAny_specialOf hI1 cit_no_len ?_)
  show wpAny _ _ (specialOf (Value.ref it) (Str.ofString "__length_hint__") >>= _) _ _ _
  refine wpAny_bind (wpAny_specialOf hI1 cit_no_hint ?_)
  refine wpAny_pure ?_
  show wpAny _ _ (rule "list.extend.makes-room" >>= fun _ => Builtin.List.listTouch (.ref _) >>= fun _ =>
    again (.builtin "list.extend.loop" ⟨[.ref _, .ref it, .none], []⟩)) _ _ _
  refine wpAny_bind (wpAny_rule ?_)
  refine wpAny_bind ?_
  show wpAny _ _ (updateSeq _ (·.push .none) >>= fun _ => updateSeq _ (·.pop)) _ _ _
  refine wpAny_bind (wpAny_updateSeq hS1 rfl ?_)
  obtain ⟨S2, T2⟩ := S1.listUpd (tk := s.toks) (ys := [.none]) (P' := lst s.heap.objs.size [.none] :: P) (vs := []) (ws := [.none]) (fn := (·.push Value.none)) .head hS1 rfl (Vs1 rfl)
  have hS2 := Heap.get?_update_self (Obj.mapSeq (·.push Value.none)) hS1 rfl
  refine wpAny_updateSeq (hz := by seq_fits) hS2 rfl ?_
  obtain ⟨S3, T3⟩ := S2.listUpd (tk := s.toks) (ys := []) (P' := lst s.heap.objs.size [] :: P) (vs := [.none]) (ws := []) (fn := (·.pop)) .head hS2 rfl .nil
  refine wpAny_pure ⟨plainId_quiet F.plain_extend_loop _, takeC_loop T (s0 := s) (n := n) (A := A.in1) ?_ p (fun acc P2 s' Ts Ss q' => ⟨rfl, .ref s.heap.objs.size, m, _, Ts, rfl, Ss, q acc P2 _ q'⟩) k0 [] P _ h0 (((T0.trans T1).trans T2).trans T3) S3⟩
  exact (r.mono (by omega : n + 2 ≤ n + 4)).in1
end
end Mine

-- XF
namespace Mine
open PySem PySem.W PySem.Calls PyProof.Rows PySem.SeqAt

section
variable {D : WD} {n : Nat} {f : Fm} {ns : Nms} {m : Loc} {P : List Ck} {Q : AVal → Loc → List Ck → Prop}

/-! numbers -/
theorem pylong_small {a : Int} {b : Nat} (h : b < 10 ^ 10) : Builtin.divisionGoesByPylong a (b : Int) = false := by
  unfold Builtin.divisionGoesByPylong
  have : ¬ (300 < (if ((b : Int) == 0) = true then 0 else (b : Int).natAbs.log2 / 30 + 1)) := by
    split
    · omega
    · have h2 : (b : Int).natAbs.log2 < 64 := by
        rw [Int.natAbs_natCast]
        by_cases hb : b = 0
        · subst hb; decide
        · rw [Nat.log2_lt hb]; exact Nat.lt_trans h (by decide)
      omega
  simp only [gt_iff_lt, Bool.and_eq_false_imp, decide_eq_true_eq]
  intro h3; exact absurd h3 this
theorem o_fdivN {a b : Nat} (h0 : 0 < b) (h : b < 10 ^ 10) (q : Q (.int (a / b : Nat)) m P) : Wp D n f ns V [.int a, .int b] (Op2 (binaryOp .FloorDiv)) m P Q :=
  o_fdivI (by omega) (pylong_small h) (by rw [Int.fdiv_eq_ediv_of_nonneg _ (by omega)]; exact_mod_cast q)
theorem o_modN {a b : Nat} (h0 : 0 < b) (q : Q (.int (a % b : Nat)) m P) : Wp D n f ns V [.int a, .int b] (Op2 (binaryOp .Mod)) m P Q :=
  o_modI (by omega) (by rw [Int.fmod_eq_emod_of_nonneg _ (by omega)]; exact_mod_cast q)
theorem o_modZ {a : Int} {b : Nat} (h0 : 0 < b) (q : Q (.int ((a % b).toNat : Nat)) m P) : Wp D n f ns V [.int a, .int b] (Op2 (binaryOp .Mod)) m P Q :=
  o_modI (by omega) (by rw [Int.fmod_eq_emod_of_nonneg _ (by omega), ← Int.toNat_of_nonneg (Int.emod_nonneg a (by omega : (b : Int) ≠ 0))]; exact q)
theorem o_powN {a k : Nat} (ha : 2 ≤ a) (ha2 : a < 1024) (hk : k ≤ 20) (q : Q (.int (a ^ k : Nat)) m P) : Wp D n f ns V [.int a, .int k] (Op2 (binaryOp .Pow)) m P Q := by
  cases k with
  | zero => exact .i2 (fun A s t u Q' kk => AutoIntOps.pow_0 (by decide) (by decide) (kk _ _ V.int)) q
  | succ k =>
    refine .i2 (fun A s t u Q' kk => AutoIntOps.pow_4 (by omega) (by simp; try omega) (by simp; try omega) (by simp; try omega) ?_ (kk _ _ V.int)) (by rw [Int.toNat_natCast]; exact_mod_cast q)
    unfold Builtin.Int.intTooBig Builtin.Int.intBits
    have h2 : (a : Int).natAbs.log2 < 10 := by
      rw [Int.natAbs_natCast, Nat.log2_lt (by omega)]; exact ha2
    have hb : bitsLine ≥ 1000 := by decide
    simp only [decide_eq_true_eq]
    split
    · intro h; simp at h; omega
    · intro h
      have : (((a : Int).natAbs.log2 + 1 : Nat) : Int) * ((k + 1 : Nat) : Int) ≤ 10 * 21 := Int.mul_le_mul (by omega) (by omega) (by omega) (by omega)
      omega

/-! lists -/
theorem o_addL {a b : Addr} {xs ys : List AVal} (ha : lst a xs ∈ P) (hb : lst b ys ∈ P) (hz : xs.length + ys.length ≤ 1000000) (q : ∀ c, Q (.ref c) m (lst c (xs ++ ys) :: P)) : Wp D n f ns V [.ref a, .ref b] (Op2 (binaryOp .Add)) m P Q := fun A g s vs r p S hv => by
  obtain ⟨v, w, rfl, h1, h2⟩ := Vs.two hv
  simp only [V] at h1 h2
  subst h1 h2
  obtain ⟨us, ⟨nu, hu⟩, hus⟩ := S.holds _ ha
  obtain ⟨ws, ⟨nw, hw⟩, hws⟩ := S.holds _ hb
  refine PySem.P.add_list hu hw ?_ (by rw [sizeLine_eq]; simp [hus.length, hws.length]; omega)
  have T : TK s.heap (s.heap.push { cls := .type "list", data := .seq (us.toArray ++ ws.toArray) }) := TK.keeps fun b o e => Heap.get?_push_of_some _ e
  exact ⟨.ref s.heap.objs.size, m, _, T, rfl, S.newc (c' := lst s.heap.objs.size (xs ++ ys)) (tk := s.toks) (fun b o e => Heap.get?_push_of_some _ e) ⟨us ++ ws, ⟨0, by rw [List.append_toArray] <;> exact Heap.get?_push_size _ rfl⟩, (hus.mono T).append (hws.mono T)⟩ (fun x hx => fresh_size x hx) (by simp [lst]), q _⟩
theorem vs_ints {h : Heap} : ∀ {xs : List Int} {vs : List Value}, Vs h (xs.map .int) vs → ∃ l : List (Int × Tok), vs = l.map (fun p => Value.int p.1 p.2) ∧ l.map (·.1) = xs
  | [], vs, e => ⟨[], by simpa [Vs] using e, rfl⟩
  | x :: xs, vs, e => by
    simp only [List.map_cons, Vs] at e
    obtain ⟨v, r, rfl, ⟨t, rfl⟩, z⟩ := e
    obtain ⟨l, rfl, rfl⟩ := vs_ints z
    exact ⟨(x, t) :: l, rfl, rfl⟩
theorem c_sumL {a : Addr} {xs : List Int} (hh : D.hd = Option.none) (ha : lst a (xs.map .int) ∈ P) (q : Q (.int xs.sum) m P) : Cal D n f ns (.blt "sum") [.ref a] [] [] m P Q := .b fun A g s vs r p S hv => by
  obtain ⟨v, rfl, h1⟩ := Vs.one hv
  simp only [V] at h1; subst h1
  obtain ⟨us, hu, hus⟩ := S.holds _ ha
  obtain ⟨l, rfl, rfl⟩ := vs_ints hus
  refine sum_intListG (xs := l.toArray) (r.handled.trans hh) (by simpa [intItems] using hu.isList) fun h' tk t' hk => ?_
  rw [preSum_eq, List.take_of_length_le (by simp)]
  exact ⟨.int _, m, P, TK.keeps hk, V.int, S.junk hk, q⟩

/-! dicts -/
theorem vs_len_keys {kvs : List (Str × Value)} {ps : List (List Nat × AVal)} (h : kvs.map (·.1) = ps.map (fun p => mkS p.1)) : kvs.length = ps.length := by
  have := congrArg List.length h; simpa using this
theorem stored_dct {h : Heap} : ∀ {kvs : List (Str × Value)} {ps : List (List Nat × AVal)} (x : List Nat) (b : AVal) (v : Value), kvs.map (·.1) = ps.map (fun p => mkS p.1) → Vs h (ps.map (·.2)) (kvs.map (·.2)) → V h b v → (ps.map (·.1)).Nodup →
    (stored kvs (mkS x) v).map (·.1) = (setD x b ps).map (fun p => mkS p.1) ∧ Vs h ((setD x b ps).map (·.2)) ((stored kvs (mkS x) v).map (·.2))
  | [], [], x, b, v, _, _, hb, _ => by simp only [stored, setD]; exact ⟨rfl, Vs1 hb⟩
  | [], _ :: _, _, _, _, e, _, _, _ => by simp at e
  | _ :: _, [], _, _, _, e, _, _, _ => by simp at e
  | (k, u) :: kvs, (y, c) :: ps, x, b, v, e, hv, hb, nd => by
    simp only [List.map_cons, List.cons.injEq] at e
    obtain ⟨rfl, e⟩ := e
    simp only [List.map_cons, Vs] at hv
    obtain ⟨u', r', e2, hu, hv⟩ := hv
    cases e2
    rw [List.map_cons, List.nodup_cons] at nd
    by_cases hxy : x = y
    · subst hxy
      have hno : ∀ kv ∈ kvs, kv.1 ≠ mkS x := fun kv hkv q => by
        have : mkS x ∈ ps.map (fun p => mkS p.1) := by rw [← e, ← q]; exact List.mem_map_of_mem hkv
        obtain ⟨p, hp, e3⟩ := List.mem_map.mp this
        exact nd.1 (List.mem_map.mpr ⟨p, hp, mkS_inj e3⟩)
      have hmap : kvs.map (fun kv => if kv.1 = mkS x then (kv.1, v) else kv) = kvs := by
        conv => rhs; rw [← List.map_id kvs]
        exact List.map_congr_left fun kv hkv => by rw [if_neg (hno kv hkv)]; rfl
      have hs : stored ((mkS x, u) :: kvs) (mkS x) v = (mkS x, v) :: kvs := by
        unfold stored
        rw [if_pos (by simp)]
        rw [List.map_cons, if_pos rfl, hmap]
      rw [hs]
      simp only [setD, if_true, List.map_cons]
      exact ⟨by rw [e], .cons hb hv⟩
    · have hne : mkS y ≠ mkS x := fun q => hxy (mkS_inj q).symm
      obtain ⟨i1, i2⟩ := stored_dct x b v e hv hb nd.2
      have hs : stored ((mkS y, u) :: kvs) (mkS x) v = (mkS y, u) :: stored kvs (mkS x) v := by
        unfold stored
        by_cases hany : kvs.any (fun kv => decide (kv.1 = mkS x)) = true
        · rw [if_pos (by simp only [List.any_cons, hany, Bool.or_true]), if_pos hany, List.map_cons, if_neg hne]
        · rw [if_neg (by simp only [List.any_cons, Bool.or_eq_true, decide_eq_true_eq]; rintro (q | q); exact hne q; exact hany q), if_neg hany]; rfl
      rw [hs]
      simp only [setD, if_neg hxy, List.map_cons]
      exact ⟨by rw [i1], .cons hu i2⟩
theorem setD_keys {x : List Nat} {b : AVal} : ∀ {ps : List (List Nat × AVal)}, (setD x b ps).map (·.1) = if x ∈ ps.map (·.1) then ps.map (·.1) else ps.map (·.1) ++ [x]
  | [] => by simp [setD]
  | (y, c) :: r => by
    by_cases h : x = y
    · subst h; simp [setD]
    · rw [setD, if_neg h, List.map_cons, setD_keys]
      by_cases h2 : x ∈ r.map (·.1)
      · rw [if_pos h2, if_pos (by simp only [List.map_cons, List.mem_cons]; exact .inr h2)]; rfl
      · rw [if_neg h2, if_neg (by simp only [List.map_cons, List.mem_cons, not_or]; exact ⟨h, h2⟩)]; rfl
theorem o_setD {A : Around} {g : Heap} {s : Shared} {d : Addr} {ps : List (List Nat × AVal)} {x : List Nat} {t : Tok} {b : AVal} {v : Value} {P' : List Ck} {Q : Unit → Shared → Prop} (S : St D g f ns m P s) (w : Sw P (dct D.prog D.w d ps) (dct D.prog D.w d (setD x b ps)) P') (hz : ps.length ≤ 100000) (nd : (ps.map (·.1)).Nodup) (hv : V s.heap b v)
    (h : ∀ h' tk, TK s.heap h' → St D g f ns m P' { s with heap := h', toks := tk } → Q () { s with heap := h', toks := tk }) : wpAny (model D.prog D.w) A (setItem (.ref d) (.str (mkS x) t) v) Q NoE s := by
  obtain ⟨hs, kvs, hd, hk, hvs⟩ := S.holds _ w.mem
  refine wpAny_setItem_pairs (knd := PySem.strKind D.prog D.w) (k := mkS x) (isStr_self x t) hd (fun h' hd' hsb => ?_) (by rw [sizeLine_eq, vs_len_keys hk]; omega)
  have hnt : ∀ o, s.heap.get? d = some o → NT o := fun o e => by
    obtain ⟨o', es, ep, e1, _, hdat, _⟩ := hd
    rw [e1] at e; cases e; exact .dict hdat
  have T := TK.sameBut hsb hnt
  obtain ⟨i1, i2⟩ := stored_dct x b v hk hvs hv nd
  exact h h' _ T (S.upd w (fun y o hy e => (hsb.2 y (by simpa [dct] using hy)).trans e) ⟨hs, _, hd', i1, i2.mono T⟩ (fun y hy => .inl (by simpa [dct] using hy)) (by simp [dct]))
theorem Sb.dct {d : Addr} {ps : List (List Nat × AVal)} (hm : Mine.dct D.prog D.w d ps ∈ P) : Sb (.ref d) P :=
  .own (T := "dict") (id := "dict.__getitem__") hm (fun h ⟨_, kvs, ⟨o, es, ep, e, hc, _⟩, _⟩ => ⟨o, e, hc.1⟩) slot_dict_getitem.lookup
theorem Ex.assignK {o i value : Expr} {pos' pos : Pos} {Q : AFlow → Loc → List Ck → Prop}
    (h : Ev D n f ns value m P fun b m1 P1 => Ev D n f ns o m1 P1 fun a m2 P2 => Ev D n f ns i m2 P2 fun k m3 P3 => ∃ d ps x P4, a = .ref d ∧ k = .str x ∧ Sw P3 (dct D.prog D.w d ps) (dct D.prog D.w d (setD x b ps)) P4 ∧ ps.length ≤ 100000 ∧ (ps.map (·.1)).Nodup ∧ Q .next m3 P4)
    (hs : swapsWith value (some (.Subscript o i pos')) pos.line f.env = pure false := by rfl) : Ex D n f ns (.Assign [.Subscript o i pos'] value pos) m P Q := fun A g s vs r p S _ => by
  refine wpAny_Assign_Subscript (h.run r p S .nil fun b m1 P1 v s1 T1 hv S1 h1 => h1.run r p S1 .nil fun a m2 P2 w s2 T2 hw S2 h2 => h2.run r p S2 .nil fun k m3 P3 u s3 T3 hu S3 q => ?_) hs
  obtain ⟨d, ps, x, P4, rfl, rfl, sw, hz, nd, q⟩ := q
  simp only [V] at hw hu
  subst hw
  obtain ⟨t, rfl⟩ := hu
  exact o_setD S3 sw hz nd ((hv.mono T2).mono T3) fun h' tk T S' => ⟨.next, m3, P4, ((T1.trans T2).trans T3).trans T, rfl, S', q⟩
/-- {k: v} -/
theorem Ev.dict1 {ke ve : Expr} {pos : Pos} (h : ∀ d, Ev D n f ns ke m (dct D.prog D.w d [] :: P) fun k m1 P1 => Ev D n f ns ve m1 P1 fun b m2 P2 => ∃ x P3, k = .str x ∧ Sw P2 (dct D.prog D.w d []) (dct D.prog D.w d [(x, b)]) P3 ∧ Q (.ref d) m2 P3) : Ev D n f ns (.Dict [some ke] [ve] pos) m P Q := fun A g s vs r p S _ => by
  refine wpAny_Dict_pairs (knd := PySem.strKind D.prog D.w) (pairs := [(eval ke f.env, do let x ← eval ve f.env; standAt pos; pure x)]) (by rfl) (by simp) (by simp) ?_
  have hk : ∀ b o, s.heap.get? b = some o → (s.heap.push { cls := .type "dict", data := .dict #[] }).get? b = some o := fun b o e => Heap.get?_push_of_some _ e
  have S0 := S.newDict p (tk := s.toks)
  refine evalPairs_cons ?_
  refine (h s.heap.objs.size).run r p S0 .nil fun k m1 P1 v s1 T1 hv S1 q => ?_
  refine wpAny_bind (q.run r p S1 .nil fun b m2 P2 w s2 T2 hw S2 q => wpAny_bind (wpAny_standAt (wpAny_pure (evalPairs_nil ?_))))
  obtain ⟨x, P3, rfl, sw, q⟩ := q
  obtain ⟨t, rfl⟩ := hv
  obtain ⟨hs, kvs, hd, hkk, hvs⟩ := S2.holds _ sw.mem
  obtain rfl : kvs = [] := by simpa using hkk
  refine ⟨[(mkS x, w)], ⟨isStr_self x t, rfl, trivial⟩, hd, fun h' hd' hsb => ?_⟩
  have hnt : ∀ o, s2.heap.get? s.heap.objs.size = some o → NT o := fun o e => by
    obtain ⟨o', es, ep, e1, _, hdat, _⟩ := hd
    rw [e1] at e; cases e; exact .dict hdat
  have T := TK.sameBut hsb hnt
  refine ⟨.ref s.heap.objs.size, m2, P3, (((TK.keeps hk).trans T1).trans T2).trans T, rfl, S2.upd sw (fun y o hy e => (hsb.2 y (by simpa [dct] using hy)).trans e) ⟨hs, [(mkS x, w)], ?_, rfl, (Vs1 hw).mono T⟩ (fun y hy => .inl (by simpa [dct] using hy)) (by simp [dct]), q⟩
  simpa [merged, stored] using hd'
end
end Mine

-- HK
namespace Mine
open PySem PySem.W PySem.Calls PyProof.Rows PySem.SeqAt

local macro_rules | `(tactic| leaf_len) => `(tactic| ((repeat (first | with_reducible exact NmAt.head | with_reducible apply NmAt.tail)); done))
local macro_rules | `(tactic| one_sign) => `(tactic| ((repeat (first | with_reducible exact NmUp.head | with_reducible apply NmUp.tail)); done))
local macro_rules | `(tactic| o_reads) => `(tactic| ((repeat (first | with_reducible exact In1.head | with_reducible apply In1.tail)); done))
local macro_rules | `(tactic| o_fieldsN) => `(tactic| ((repeat (first | with_reducible assumption | with_reducible exact Sw.head | with_reducible apply Sw.tail)); done))
local macro_rules | `(tactic| o_readsAll) => `(tactic| ((repeat (first | with_reducible assumption | with_reducible exact List.mem_cons_self .. | with_reducible apply List.mem_cons_of_mem)); done))
local macro_rules | `(tactic| o_shape) => `(tactic| ((repeat (first | with_reducible exact .nil | (apply Init.hit; (next => rfl)) | (apply Init.miss; (next => rfl)))); done))
local macro_rules | `(tactic| wrow_none_raised) => `(tactic| (simp only [List.map]; decide +kernel))
local macro_rules | `(tactic| wrow_raised) => `(tactic| (constructor; (next => (constructor; constructor; constructor; (rw [Ok.K ‹Ok _›]); rfl)); (next => rfl); (next => (rw [Ok.K ‹Ok _›]; rfl)); (next => rfl); (next => rfl); (next => rfl); (next => rfl); (next => decide +kernel); (next => decide +kernel); (next => rfl); (next => rfl); (next => rfl)))
local macro_rules | `(tactic| w_left) => `(tactic| (constructor; (next => wrow_none_raised); constructor; constructor; (next => o_shape)))
local macro_rules | `(tactic| w_means) => `(tactic| first
  | focus ((apply c_lenL); (next => o_readsAll))
  | (apply c_lenS)
  | (apply c_find)
  | (apply c_startswith)
  | (apply c_endswith)
  | (apply c_find4)
  | (apply c_rfind4)
  | (apply c_count)
  | (apply c_upper)
  | (apply c_lower)
  | (apply c_strI)
  | (apply c_strS)
  | (apply c_intS)
  | (apply c_split)
  | (apply c_range)
  | (apply c_listS)
  | focus ((apply c_enum); (next => o_readsAll))
  )
local macro_rules | `(tactic| wrow_close) => `(tactic| ((repeat (first | with_reducible exact Capt.nil | focus ((apply Capt.other); (next => decide)) | focus ((with_reducible apply Capt.cell); (next => leaf_len)) | focus ((with_reducible apply Capt.free); (next => leaf_len)))); done))
local macro_rules | `(tactic| close_w) => `(tactic| first
  | focus ((with_reducible apply Ev.comp1); (next => rfl); (next => decide +kernel); (next => decide +kernel); rotate_left; (next => (intro _; rfl)); dsimp only)
  | focus ((with_reducible apply Ex.assignD); (next => rfl); (next => decide +kernel); (next => decide +kernel); (next => rfl); (next => (intro _; rfl)); dsimp only)
  | focus ((with_reducible apply Ev.dcomp1); (next => rfl); (next => decide +kernel); (next => decide +kernel); (next => (intro _; rfl)); dsimp only)
  | focus ((with_reducible apply Ex.assignDC); (next => rfl); (next => decide +kernel); (next => decide +kernel); (next => rfl); (next => (intro _; rfl)); dsimp only)
  | focus ((with_reducible apply Ex.assignC2); (next => rfl); (next => decide +kernel); (next => decide +kernel); (next => rfl); (next => (intro _; rfl)); dsimp only))
local macro_rules | `(tactic| kd_mem) => `(tactic| ((repeat (first | with_reducible exact Pk.head | with_reducible apply Pk.tail)); done))
local macro_rules | `(tactic| kd_subs) => `(tactic| ((repeat (refine Pk.perm (by kd_mem) ?_)); exact List.Perm.refl _))
local macro_rules | `(tactic| none_booked) => `(tactic| first
  | (with_reducible refine Exs.cons ?_)
  | (with_reducible refine Exs.nil ?_)
  | ((with_reducible show Ev _ _ _ _ _ _ _ _); first
    | ((with_reducible show Ev _ _ _ _ (Expr.Name _ _) _ _ _); first
      | focus ((with_reducible apply Ev.local); (next => leaf_len); rotate_left; (next => decide +kernel))
      | focus ((with_reducible apply Ev.cell); (next => leaf_len); rotate_left; (next => decide +kernel))
      | focus ((with_reducible apply Ev.free); (next => leaf_len); rotate_left; (next => decide +kernel); (next => decide +kernel))
      | focus ((with_reducible apply Ev.gRef); (next => o_reads); (next => (rw [Ok.K ‹Ok _›]; eq_refl)); rotate_left; (next => decide +kernel))
      | focus ((with_reducible apply Ev.bBlt); (next => o_reads); (next => (rw [Ok.K ‹Ok _›]; eq_refl)); (next => eq_refl); rotate_left; (next => decide +kernel); (next => decide +kernel))
      | focus ((with_reducible apply Ev.bTyp); (next => o_reads); (next => (rw [Ok.K ‹Ok _›]; eq_refl)); (next => eq_refl); rotate_left; (next => decide +kernel); (next => decide +kernel))
      | focus ((with_reducible apply Ev.gStr); (next => o_reads); (next => (rw [Ok.K ‹Ok _›]; eq_refl)); rotate_left; (next => decide +kernel)))
    | ((with_reducible show Ev _ _ _ _ (Expr.Constant _ _ _) _ _ _); first
      | (with_reducible refine Ev.int ?_)
      | focus ((with_reducible apply Ev.strL); (next => (first | with_reducible exact cs_k0 | with_reducible exact cs_k1 | with_reducible exact cs_k2 | with_reducible exact cs_k3 | with_reducible exact cs_dots | with_reducible exact cs_k5 | with_reducible exact cs_k6 | with_reducible exact cs_k7 | with_reducible exact cs_k8 | with_reducible exact cs_k9 | with_reducible exact cs_dot | with_reducible exact cs_k11 | with_reducible exact cs_k12 | with_reducible exact cs_k13 | with_reducible exact cs_k14 | with_reducible exact cs_k15 | with_reducible exact cs_k16 | with_reducible exact cs_k17 | with_reducible exact cs_k18 | with_reducible exact cs_k19 | with_reducible exact cs_k20 | with_reducible exact cs_k21 | with_reducible exact cs_k22 | with_reducible exact cs_k23 | with_reducible exact cs_k24 | with_reducible exact cs_k25 | with_reducible exact cs_nl | with_reducible exact cs_k27 | with_reducible exact cs_colon | with_reducible exact cs_k29 | with_reducible exact cs_k30 | with_reducible exact cs_k31 | with_reducible exact cs_k32 | with_reducible exact cs_k33 | with_reducible exact cs_k34 | with_reducible exact cs_k35 | with_reducible exact cs_k36 | with_reducible exact cs_k37 | with_reducible exact cs_k38 | with_reducible exact cs_k39 | with_reducible exact cs_k40 | with_reducible exact cs_k41 | with_reducible exact cs_k42 | with_reducible exact cs_k43 | with_reducible exact cs_k44 | exact rfl)))
      | (with_reducible refine Ev.bool ?_)
      | (with_reducible refine Ev.none ?_))
    | ((with_reducible show Ev _ _ _ _ (Expr.Call _ _ _ _) _ _ _); first
      | ((with_reducible show Ev _ _ _ _ (Expr.Call (Expr.Attribute _ _ _) _ _ _) _ _ _); focus ((with_reducible apply Ev.meth); rotate_left; (next => eq_refl); (next => eq_refl); (next => eq_refl)))
      | focus ((with_reducible refine Ev.call ?_ ?_ ?_ ?_); rotate_left; (next => eq_refl); (next => eq_refl); (next => eq_refl)))
    | focus ((with_reducible refine Ev.cmp ?_ ?_); rotate_left; (next => with_unfolding_all eq_refl))
    | (with_reducible refine Ev.binop ?_)
    | (with_reducible refine Ev.slice ?_)
    | focus ((with_reducible refine Ev.item ?_ ?_); rotate_left; (next => (intros; eq_refl)))
    | (with_reducible refine Ev.tup ?_)
    | (with_reducible refine Ev.list ?_)
    | (with_reducible refine Ev.unop ?_)
    | (with_reducible refine Ev.ifexp ?_)
    | (with_reducible refine Ev.one ?_)
    | (with_reducible refine Ev.and ?_)
    | (with_reducible refine Ev.or ?_))
  | ((with_reducible show Ex _ _ _ _ _ _ _ _); first
    | (with_reducible refine Ex.ite ?_)
    | (with_reducible refine Ex.ret ?_)
    | focus ((with_reducible refine Ex.assignN ?_ ?_); rotate_left; (next => eq_refl))
    | focus ((with_reducible refine Ex.exprE ?_ ?_); rotate_left; (next => eq_refl))
    | ((with_reducible show Ex _ _ _ _ (Stmt.AugAssign (Expr.Name _ _) _ _ _) _ _ _); focus ((with_reducible apply Ex.aug); (next => leaf_len)))
    | focus ((with_reducible refine Ex.assignW2 (Ok.hd ‹Ok _›) ?_ ?_ ?_); rotate_left; (next => eq_refl); (next => eq_refl))
    | focus ((with_reducible refine Ex.assignW3 (Ok.hd ‹Ok _›) ?_ ?_ ?_); rotate_left; (next => eq_refl); (next => eq_refl))
    | (with_reducible refine Ex.assert (Ok.hd ‹Ok _›) ?_)
    | (with_reducible refine Ex.delItem ?_)
    | (with_reducible refine Ex.ret0 ?_)
    | (with_reducible refine Ex.cont ?_)
    | (with_reducible refine Ex.brk ?_)
    | (with_reducible refine Ex.pass ?_))
  | ((with_reducible show Tr _ _ _ _ _ _ _ _); first
    | focus ((with_reducible refine Tr.cmp ?_ ?_); rotate_left; (next => with_unfolding_all eq_refl))
    | (with_reducible refine Tr.not ?_)
    | (with_reducible refine Tr.and_nil ?_)
    | (with_reducible refine Tr.or_nil ?_)
    | (with_reducible refine Tr.and ?_)
    | (with_reducible refine Tr.or ?_)
    | focus ((with_reducible refine Tr.ev ?_ ?_); rotate_left; (next => eq_refl)))
  | ((with_reducible show Wp _ _ _ _ _ _ _ _ _ _); first
    | (with_reducible refine Ar.nil ?_)
    | focus ((with_reducible refine Ar.cons ?_ ?_); rotate_left; (next => eq_refl))
    | (with_reducible refine Ks.nil ?_)
    | (with_reducible refine Ks.cons ?_)
    | ((with_reducible show As _ _ _ _ _ _ _ _ _); first
      | ((with_reducible show As _ _ _ _ (Expr.Name _ _) _ _ _ _); first
        | focus ((with_reducible apply As.local); (next => one_sign))
        | focus ((with_reducible apply As.cellM); (next => assumption); (next => one_sign)))
      | focus ((with_reducible refine As.tup (Ok.hd ‹Ok _›) ?_ ?_ ?_); rotate_left; (next => eq_refl); (next => eq_refl)))
    | (with_reducible refine Eo.none ?_)
    | (with_reducible refine Eo.some ?_)
    | ((with_reducible show AsNm _ _ _ _ (_ :: _) _ _ _ _); focus ((with_reducible apply AsNm.cons); (next => one_sign)))
    | (with_reducible refine AsNm.nil ?_)
    | focus ((with_reducible refine AsIn.cons ?_ ?_); rotate_left; (next => eq_refl))
    | (with_reducible refine AsIn.nil ?_)
    | (with_reducible refine Cd.nil ?_)
    | (with_reducible refine Cd.cons ?_)
    | (with_reducible refine o_addI ?_)
    | (with_reducible refine o_subI ?_)
    | (with_reducible refine o_ltI ?_)
    | (with_reducible refine o_gtI ?_)
    | (with_reducible refine o_leI ?_)
    | (with_reducible refine o_geI ?_)
    | (with_reducible refine o_eqI ?_)
    | (with_reducible refine o_neI ?_)
    | (with_reducible refine o_eqS ?_)
    | (with_reducible refine o_neS ?_)
    | (with_reducible refine o_inS ?_)
    | (with_reducible refine o_notInS ?_)
    | ((with_reducible show Wp _ _ _ _ _ _ (Op2 (compareOp CmpOp.Is)) _ _ _); focus ((with_reducible apply o_is); (next => eq_refl)))
    | ((with_reducible show Wp _ _ _ _ _ _ (Op2 (compareOp CmpOp.IsNot)) _ _ _); focus ((with_reducible apply o_isNot); (next => eq_refl)))
    | (with_reducible refine o_iaddI ?_)
    | (with_reducible refine o_isubI ?_)
    | (with_reducible refine o_negI ?_)
    | (with_reducible refine o_ltS ?_)
    | (with_reducible refine o_gtS ?_)
    | (with_reducible refine t_bool ?_)
    | (with_reducible refine t_none ?_)
    | (with_reducible refine t_int ?_))
  | (with_reducible refine sq_next ?_)
  | (with_reducible refine sq_ret ?_)
  | (with_reducible refine lq_next ?_)
  | (with_reducible refine lq_cont ?_)
  | (with_reducible refine lq_brk ?_)
  | (with_reducible refine lq_ret ?_)
  | (with_reducible refine sq_brk ?_)
  | (with_reducible refine sq_cont ?_)
  | ((with_reducible show ∀ pl, Wp _ _ _ _ _ _ _ _ _ _); first
    | ((with_reducible show Gm _ _ _ _ (AVal.str _) _ _ _ _); first
      | (with_reducible refine g_find ?_)
      | (with_reducible refine g_rfind ?_)
      | (with_reducible refine g_split ?_)
      | (with_reducible refine g_join ?_)
      | (with_reducible refine g_startswith ?_)
      | (with_reducible refine g_endswith ?_)
      | (with_reducible refine g_lower ?_)
      | (with_reducible refine g_upper ?_)
      | (with_reducible refine g_count ?_))
    | ((with_reducible show Gm _ _ _ _ (AVal.ref _) _ _ _ _); first
      | focus ((with_reducible apply g_append); (next => o_readsAll))
      | focus ((with_reducible apply g_pop); (next => o_readsAll))
      | focus ((with_reducible apply g_insert); (next => o_readsAll))
      | focus ((with_reducible apply g_extend); (next => o_readsAll))))
  | focus ((refine ⟨?_, ?_⟩); (next => (first | ((with_reducible show isFn _ = true); exact rfl) | ((with_reducible show KeepOk _ _ _); (first | exact KeepOk.blt | exact KeepOk.typ | (exact KeepOk.fn (by rw [Ok.K ‹Ok _›]; rfl)))) | ((with_reducible show Sb _ _); (first | exact Sb.str | exact Sb.tup | exact Sb.lst (by o_readsAll))) | ((with_reducible show _ ≤ _); exact Nat.le_of_ble_eq_true rfl) | ((with_reducible show _ = _); with_reducible exact rfl))))
  | (refine ⟨_, rfl, ?_⟩)
  | (refine ⟨_, _, rfl, ?_⟩)
  | (refine ⟨_, _, _, rfl, ?_⟩)
  | (refine iteT (by first | with_reducible assumption | decide | (with_reducible_and_instances exact rfl)) ?_)
  | (refine iteF (by first | with_reducible assumption | decide) ?_)
  | (with_reducible refine opn (by with_reducible assumption) ?_)
  | (with_reducible refine opn2 (by with_reducible assumption) ?_)
  )

/-- how an item is written -/
def pieceP (item : List Nat) (style : Nat) : List Nat :=
  (if style % 3 = 0 then [34] ++ item ++ [34] else if style % 3 = 1 then jn [] (item.map fun c => [92] ++ [c]) else item) ++ [[10, 32, 9, 13].getD (style / 3) 0]
def pageP : List (List Nat) → Nat → Nat → List Nat
  | [], _, _ => []
  | x :: r, k, number => pieceP x (number / 12 ^ k % 12) ++ pageP r (k + 1) number

theorem enum_at {xs : List AVal} {j : Nat} {w : AVal} (h : (List.map (fun p => AVal.tup [AVal.int (p.2 : Nat), p.1]) xs.zipIdx)[j]? = some w) : ∃ x, xs[j]? = some x ∧ w = .tup [.int (j : Nat), x] := by
  rw [List.getElem?_map, List.getElem?_zipIdx] at h
  cases hx : xs[j]? with
  | none => rw [hx] at h; simp at h
  | some x => rw [hx] at h; simp at h; exact ⟨x, rfl, h.symm⟩
theorem map_at {α : Type} {g : α → AVal} {xs : List α} {j : Nat} {w : AVal} (h : (xs.map g)[j]? = some w) : ∃ x, xs[j]? = some x ∧ w = g x := by
  rw [List.getElem?_map] at h
  cases hx : xs[j]? with
  | none => rw [hx] at h; simp at h
  | some x => rw [hx] at h; simp at h; exact ⟨x, rfl, h.symm⟩
theorem drop_at {α : Type} {xs : List α} {j : Nat} {x : α} (h : xs[j]? = some x) : xs.drop j = x :: xs.drop (j + 1) := by
  obtain ⟨h1, h2⟩ := List.getElem?_eq_some_iff.mp h
  rw [List.drop_eq_getElem_cons h1, h2]
theorem take_at {α : Type} {xs : List α} {j : Nat} {x : α} (h : xs[j]? = some x) : xs.take (j + 1) = xs.take j ++ [x] := by
  rw [List.take_add_one, h]; rfl
theorem lt_at {α : Type} {xs : List α} {j : Nat} {x : α} (h : xs[j]? = some x) : j < xs.length := (List.getElem?_eq_some_iff.mp h).1

theorem seqIndex_nat {i k : Nat} (h : i < k) : seqIndex? (i : Int) k = some i := by
  unfold seqIndex?
  simp; omega
theorem sum_const {α : Type} (k : Nat) (l : List α) : (l.map fun _ => k).sum = l.length * k := by
  induction l with
  | nil => simp
  | cons a l ih => simp only [List.map_cons, List.sum_cons, ih, List.length_cons]; rw [Nat.add_mul, Nat.one_mul, Nat.add_comm]
theorem jn_nil_len : ∀ (l : List (List Nat)), (jn [] l).length = (l.map List.length).sum
  | [] => rfl
  | [a] => by simp [jn]
  | a :: b :: r => by
    have := jn_nil_len (b :: r)
    simp only [jn, List.append_nil, List.length_append, this, List.map_cons, List.sum_cons]

section
variable {D : WD} {n : Nat} {f : Fm} {ns : Nms} {m : Loc} {P : List Ck} {Q : AVal → Loc → List Ck → Prop}

theorem f_page (O : Ok D) {a : Addr} {items : List (List Nat)} {number : Nat} (hm : lst a (items.map .str) ∈ P) (hz : items.length ≤ 8) (hs : ∀ x ∈ items, x.length ≤ 100) (q : Q (.str (pageP items 0 number)) m P) : Cal D (n + 1) f ns (.ref 249) [.ref a, .int number] [] [] m P Q := by
  refine Wp.sub' ?_
  apply Wp.fn (a := 249) (mk := fun vs => ⟨vs.take 2, [].zip (vs.drop 2)⟩)
  case F => wrow_raised
  dsimp only
  refine Bd.two (x := "items") (y := "number") (fun v w => rfl) ?_
  w_left
  intro f' hM
  repeat none_booked
  focus ((refine Ex.for_ ?_ ?_); rotate_left; (next => (intro _; rfl)))
  repeat none_booked
  refine c_enum hm fun e it => ?_
  refine ⟨_, _, P, fun j m' P' => ∃ G, P' = G ++ P ∧ ∃ (pg : List Nat) (x1 x2 x3 : Option AVal), m' = [some (.ref a), some (.int number), some (.str pg), x1, x2, x3, none] ∧ pg ++ pageP (items.drop j) j number = pageP items 0 number ∧ pg.length ≤ j * 1000, iter_enum O.hd (.refl _) hm, ⟨[], rfl, [], none, none, none, rfl, rfl, by simp⟩, ?_, ?_, ?_⟩
  · rintro j m' P' ⟨G, rfl, _⟩ c hc
    simp at hc; subst hc; exact List.mem_append_right _ hm
  · rintro j w' m' P' hj ⟨G, rfl, pg, x1, x2, x3, rfl, hpg, hlen⟩
    obtain ⟨y, hy, rfl⟩ := enum_at hj
    obtain ⟨x, hx, rfl⟩ := map_at hy
    have hlt := lt_at hx
    have hxl := hs x (List.mem_of_getElem? hx)
    rw [drop_at hx] at hpg
    simp only [pageP] at hpg
    repeat none_booked
    refine o_powN (a := 12) (by decide) (by decide) (by omega) ?_
    repeat none_booked
    refine o_fdivN (b := 12 ^ j) (Nat.pow_pos (by decide)) (Nat.lt_of_le_of_lt (Nat.pow_le_pow_right (by decide) (by omega : j ≤ 8)) (by decide)) ?_
    repeat none_booked
    refine o_modN (b := 12) (by decide) ?_
    have hst : number / 12 ^ j % 12 < 12 := Nat.mod_lt _ (by decide)
    generalize number / 12 ^ j % 12 = style at *
    repeat none_booked
    refine o_addS (by simp; omega) ?_
    repeat none_booked
    refine o_addS (by simp; omega) ?_
    repeat none_booked
    close_w
    repeat none_booked
    refine ⟨_, _, _, _, _, iter_str O.hd, by wrow_close, fun acc L => ?_⟩
    generalize compFm f' _ L = f2
    refine ⟨fun j m' P' => P' = lst acc (((x.take j).map fun c => [92] ++ [c]).map .str) :: (G ++ P) ∧ ∃ sg : Option AVal, m' = [none, sg], ⟨rfl, none, rfl⟩, ?_, ?_, ?_⟩
    · rintro j m' P' _ c hc; cases hc
    · rintro j1 w' m' P' hj1 ⟨rfl, sg, rfl⟩
      obtain ⟨c, hc, rfl⟩ := map_at hj1
      have hl1 := lt_at hc
      repeat none_booked
      refine ins_append ?_
      repeat none_booked
      refine o_addS (by simp) ?_
      refine ⟨_, _, .head, by simp; omega, ?_⟩
      dsimp only
      rw [take_at hc]
      simp only [List.map_append, List.map_cons, List.map_nil]
      exact ⟨trivial, _, rfl⟩
    rintro m' P' ⟨rfl, sg, rfl⟩
    rw [List.length_map, List.take_length]
    repeat none_booked
    refine c_join (ls := x.map fun c => [92] ++ [c]) (.head _) (by simp [Function.comp_def]; rw [sum_const]; omega) ?_
    repeat none_booked
    refine o_modN (b := 3) (by decide) ?_
    refine ⟨.tup, ?_⟩
    refine o_itemT (j := style % 3) (x := .str (if style % 3 = 0 then [34] ++ x ++ [34] else if style % 3 = 1 then jn [] (x.map fun c => [92] ++ [c]) else x)) (seqIndex_nat (Nat.mod_lt _ (by decide))) ?_ (by omega) (by omega) ?_
    · have : style % 3 = 0 ∨ style % 3 = 1 ∨ style % 3 = 2 := by omega
      rcases this with e | e | e <;> rw [e] <;> rfl
    repeat none_booked
    refine o_fdivN (b := 3) (by decide) (by decide) ?_
    refine ⟨.str, ?_⟩
    refine o_itemS (c := [10, 32, 9, 13].getD (style / 3) 0) ?_ ?_ ?_
    · rw [seqIndex_nat (by simp; omega)]
      have : style / 3 = 0 ∨ style / 3 = 1 ∨ style / 3 = 2 ∨ style / 3 = 3 := by omega
      rcases this with e | e | e | e <;> rw [e] <;> rfl
    · simp; omega
    have hjl : (jn [] (x.map fun c => [92] ++ [c])).length ≤ 400 := by
      have := jn_nil_len (x.map fun c => [92] ++ [c])
      rw [this]; simp [Function.comp_def]; rw [sum_const]; omega
    have hpl : (if style % 3 = 0 then [34] ++ x ++ [34] else if style % 3 = 1 then jn [] (x.map fun c => [92] ++ [c]) else x).length ≤ 400 := by
      split
      · simp; omega
      · split <;> omega
    refine o_addS (by simp only [List.length_singleton]; omega) ?_
    refine o_iaddS (by rw [List.length_append, List.length_singleton]; omega) ?_
    refine ⟨_, by one_sign, ?_⟩
    repeat none_booked
    refine ⟨_ :: G, rfl, _, _, _, _, rfl, ?_, ?_⟩
    · rw [← hpg]; simp only [pieceP, List.append_assoc]
    · rw [List.length_append, List.length_append, List.length_singleton]; omega
  · rintro m' P' ⟨G, rfl, pg, x1, x2, x3, rfl, hpg, hlen⟩
    rw [List.length_map, List.length_zipIdx, List.length_map, List.drop_length] at hpg
    simp only [pageP, List.append_nil] at hpg
    subst hpg
    repeat none_booked
    exact ⟨P, List.sublist_append_right .., q⟩
end

-- HL

/-- a way of a machine: its letter (b or a), whence, where to -/
abbrev Way := Bool × Nat × Nat
def ltr (b : Bool) : List Nat := if b then [98] else [97]
abbrev wayA (w : Way) : AVal := .tup [.str (ltr w.1), .str (dec w.2.1), .str (dec w.2.2)]
/-- an item: a letter, or three dots -/
def itm : Option Bool → List Nat
  | some b => ltr b
  | none => [46, 46, 46]
/-- the machine of a pattern -/
def mach : List (Option Bool) → Nat → List Way × Nat
  | [], k => ([], k)
  | none :: r, k => let x := mach r k; ((false, k, k) :: (true, k, k) :: x.1, x.2)
  | some b :: r, k => let x := mach r (k + 1); ((b, k, k + 1) :: x.1, x.2)

theorem Sw.app {α : Type} {l l' : List α} {c c' : α} (h : Sw l c c' l') : ∀ G : List α, Sw (G ++ l) c c' (G ++ l')
  | [] => h
  | _ :: G => .tail (Sw.app h G)

section
variable {D : WD} {n : Nat} {f : Fm} {ns : Nms} {m : Loc} {P : List Ck} {Q : AVal → Loc → List Ck → Prop}

theorem f_machine (O : Ok D) {a : Addr} {items : List (Option Bool)} (hm : lst a (items.map fun i => .str (itm i)) ∈ P) (hz : items.length ≤ 20)
    (q : ∀ w e, Q (.tup [.ref w, .ref e]) m (lst e [.str (dec (mach items 0).2)] :: lst w ((mach items 0).1.map wayA) :: P)) : Cal D (n + 1) f ns (.ref 263) [.ref a] [] [] m P Q := by
  refine Wp.sub' ?_
  apply Wp.fn (a := 263) (mk := fun vs => ⟨vs.take 1, [].zip (vs.drop 1)⟩)
  case F => wrow_raised
  dsimp only
  refine Bd.one (x := "items") (fun v => rfl) ?_
  w_left
  intro f' hM
  repeat none_booked
  intro w
  repeat none_booked
  focus ((refine Ex.for_ ?_ ?_); rotate_left; (next => (intro _; rfl)))
  repeat none_booked
  refine ⟨_, _, _, fun j m' P' => ∃ (G : List Ck) (W : List Way) (k : Nat) (x1 : Option AVal), P' = G ++ lst w (W.map wayA) :: P ∧ m' = [some (.ref a), some (.ref w), some (.int k), x1, none] ∧ (W ++ (mach (items.drop j) k).1 = (mach items 0).1) ∧ (mach (items.drop j) k).2 = (mach items 0).2 ∧ W.length ≤ 2 * j ∧ k ≤ j, iter_list O.hd (.tail _ hm), ⟨[], [], 0, none, rfl, rfl, rfl, rfl, by simp, by simp⟩, ?_, ?_, ?_⟩
  · rintro j m' P' ⟨G, W, k, x1, rfl, _⟩ c hc
    simp at hc; subst hc; simp [hm]
  · rintro j w' m' P' hj ⟨G, W, k, x1, rfl, rfl, h1, h2, h3, h4⟩
    obtain ⟨i, hi, rfl⟩ := map_at hj
    have hlt := lt_at hi
    rw [drop_at hi] at h1 h2
    repeat none_booked
    cases i with
    | none =>
      refine iteT rfl ?_
      repeat none_booked
      refine g_extend (xs := W.map wayA) (by simp) ?_
      repeat none_booked
      refine c_strI (by omega) ?_
      repeat none_booked
      refine c_strI (by omega) ?_
      repeat none_booked
      refine c_strI (by omega) ?_
      repeat none_booked
      refine c_strI (by omega) ?_
      repeat none_booked
      intro b
      repeat none_booked
      refine c_extend (ys := [wayA (false, k, k), wayA (true, k, k)]) (xs := W.map wayA) (.head _) (.tail (Sw.app .head G)) (by simp; omega) ?_
      repeat none_booked
      refine ⟨lst b [wayA (false, k, k), wayA (true, k, k)] :: G, W ++ [(false, k, k), (true, k, k)], k, _, ?_, rfl, ?_, ?_, by simp; omega, by omega⟩
      · rw [List.map_append]; rfl
      · rw [← h1]; simp [mach]
      · rw [← h2]; simp [mach]
    | some b =>
      refine iteF (by cases b <;> decide) ?_
      repeat none_booked
      refine g_append (xs := W.map wayA) (by simp) ?_
      repeat none_booked
      refine c_strI (by omega) ?_
      repeat none_booked
      refine c_strI (k := k + 1) (by omega) ?_
      repeat none_booked
      refine c_appendL (b := wayA (b, k, k + 1)) (xs := W.map wayA) (Sw.app .head G) (by simp; omega) ?_
      repeat none_booked
      refine ⟨_, by one_sign, ?_⟩
      repeat none_booked
      refine ⟨G, W ++ [(b, k, k + 1)], k + 1, _, ?_, rfl, ?_, ?_, by simp; omega, by omega⟩
      · rw [List.map_append]; rfl
      · rw [← h1]; simp [mach]
      · rw [← h2]; simp [mach]
  · rintro m' P' ⟨G, W, k, x1, rfl, rfl, h1, h2, h3, h4⟩
    rw [List.length_map, List.drop_length] at h1 h2
    simp only [mach, List.append_nil] at h1 h2
    rw [← h1, ← h2] at q
    repeat none_booked
    refine c_strI (by rw [List.length_map] at h4; omega) ?_
    repeat none_booked
    intro e
    repeat none_booked
    exact ⟨_, .cons₂ _ (List.sublist_append_right ..), q w e⟩
end

-- HM

theorem char_inj {a b : Char} (h : a.toNat = b.toNat) : a = b := Char.ext (UInt32.toNat_inj.mp h)
theorem map_char_inj : ∀ {a b : List Char}, a.map Char.toNat = b.map Char.toNat → a = b
  | [], [], _ => rfl
  | [], _ :: _, h => by simp at h
  | _ :: _, [], h => by simp at h
  | x :: a, y :: b, h => by
    simp only [List.map_cons, List.cons.injEq] at h
    rw [char_inj h.1, map_char_inj h.2]
theorem dec_inj {a b : Nat} (h : dec a = dec b) : a = b := by
  have := map_char_inj h
  have h1 := Nat.ofDigitChars_toDigits (b := 10) (n := a) (by decide) (by decide)
  have h2 := Nat.ofDigitChars_toDigits (b := 10) (n := b) (by decide) (by decide)
  rw [← h1, ← h2, this]
theorem dec_digit {k c : Nat} (h : c ∈ dec k) : 48 ≤ c ∧ c ≤ 57 := by
  unfold dec at h
  obtain ⟨ch, hc, rfl⟩ := List.mem_map.mp h
  have := Nat.isDigit_of_mem_toDigits (by decide) (by decide) hc
  unfold Char.isDigit at this
  simp only [ge_iff_le, Bool.and_eq_true, decide_eq_true_eq] at this
  exact ⟨this.1, this.2⟩
theorem dec_ne (k : Nat) : dec k ≠ [] := by
  unfold dec
  intro h
  exact Nat.toDigits_ne_nil (List.map_eq_nil_iff.mp h)
theorem dec_len {k : Nat} (h : k < 1000) : (dec k).length ≤ 3 := by
  unfold dec
  rw [List.length_map]
  exact (Nat.length_toDigits_le_iff (by decide) (by decide)).mpr h

/-- the first text that leads to each place -/
def txts : List Way → List (Nat × List Nat) → Option (List (Nat × List Nat))
  | [], t => some t
  | (b, h, th) :: r, t => if (t.lookup th).isSome then txts r t else match t.lookup h with
    | none => none
    | some x => if x.length < 1000 then txts r (t ++ [(th, x ++ ltr b)]) else none
abbrev txA (p : Nat × List Nat) : List Nat × AVal := (dec p.1, .str p.2)
theorem lookup_txA (k : Nat) : ∀ t : List (Nat × List Nat), (t.map txA).lookup (dec k) = (t.lookup k).map .str
  | [] => rfl
  | (j, x) :: r => by
    rw [List.map_cons, List.lookup_cons, List.lookup_cons]
    by_cases h : k = j
    · subst h; simp
    · have h1 : (dec k == dec j) = false := beq_eq_false_iff_ne.mpr fun q => h (dec_inj q)
      have h2 : (k == j) = false := beq_eq_false_iff_ne.mpr h
      simp only [h1, h2]
      exact lookup_txA k r
theorem setD_new {x : List Nat} {b : AVal} : ∀ {ps : List (List Nat × AVal)}, ps.lookup x = none → setD x b ps = ps ++ [(x, b)]
  | [], _ => rfl
  | (y, c) :: r, h => by
    rw [List.lookup_cons] at h
    by_cases hxy : x = y
    · subst hxy; simp at h
    · have : (x == y) = false := beq_eq_false_iff_ne.mpr hxy
      rw [this] at h
      rw [setD, if_neg hxy, setD_new h]; rfl
theorem nodup_snoc {t : List (Nat × List Nat)} {k : Nat} {x : List Nat} (nd : (t.map (·.1)).Nodup) (h : t.lookup k = none) : ((t ++ [(k, x)]).map (·.1)).Nodup := by
  rw [List.map_append, List.nodup_append]
  refine ⟨nd, by simp, fun a ha b hb => ?_⟩
  simp at hb; subst hb
  rintro rfl
  obtain ⟨p, hp, e⟩ := List.mem_map.mp ha
  have : (t.lookup p.1).isSome = true := by
    clear nd h ha
    induction t with
    | nil => cases hp
    | cons y r ih =>
      rw [List.lookup_cons]
      by_cases q : p.1 = y.1
      · simp [q]
      · have : (p.1 == y.1) = false := beq_eq_false_iff_ne.mpr q
        rw [this]
        cases hp with
        | head => exact absurd rfl q
        | tail _ hp => exact ih hp
  rw [e, h] at this; cases this
theorem nodup_txA {t : List (Nat × List Nat)} (nd : (t.map (·.1)).Nodup) : ((t.map txA).map (·.1)).Nodup := by
  rw [List.map_map]
  have : ((fun x : List Nat × AVal => x.1) ∘ txA) = dec ∘ fun p : Nat × List Nat => p.1 := rfl
  rw [this, ← List.map_map]
  exact List.Pairwise.map _ (fun a b h q => h (dec_inj q)) nd

section
variable {D : WD} {n : Nat} {f : Fm} {ns : Nms} {m : Loc} {P : List Ck} {Q : AVal → Loc → List Ck → Prop}
theorem f_texts (O : Ok D) {a : Addr} {W : List Way} {T : List (Nat × List Nat)} (hm : lst a (W.map wayA) ∈ P) (hz : W.length ≤ 1000) (hT : txts W [(0, [])] = some T)
    (q : ∀ d, Q (.ref d) m (dct D.prog D.w d (T.map txA) :: P)) : Cal D (n + 1) f ns (.ref 282) [.ref a] [] [] m P Q := by
  apply Wp.fn (a := 282) (mk := fun vs => ⟨vs.take 1, [].zip (vs.drop 1)⟩)
  case F => wrow_raised
  dsimp only
  refine Bd.one (x := "steps") (fun v => rfl) ?_
  w_left
  intro f' hM
  repeat none_booked
  refine Ev.dict1 fun d => ?_
  repeat none_booked
  refine ⟨_, _, rfl, .head, ?_⟩
  repeat none_booked
  have h0 : dec 0 = [48] := by decide
  focus ((refine Ex.for_ ?_ ?_); rotate_left; (next => (intro _; rfl)))
  repeat none_booked
  refine ⟨_, _, _, fun j m' P' => ∃ (t : List (Nat × List Nat)) (x1 x2 x3 : Option AVal), P' = dct D.prog D.w d (t.map txA) :: P ∧ m' = [some (.ref a), some (.ref d), x1, x2, x3] ∧ txts (W.drop j) t = some T ∧ (t.map (·.1)).Nodup ∧ t.length ≤ j + 1, iter_list O.hd (.tail _ hm), ⟨[(0, [])], none, none, none, by rw [← h0]; rfl, rfl, hT, by simp, by simp⟩, ?_, ?_, ?_⟩
  · rintro j m' P' ⟨t, x1, x2, x3, rfl, _⟩ c hc
    simp at hc; subst hc; exact .tail _ hm
  · rintro j w' m' P' hj ⟨t, x1, x2, x3, rfl, rfl, ht, nd, hl⟩
    obtain ⟨⟨b, h, th⟩, hi, rfl⟩ := map_at hj
    have hlt := lt_at hi
    rw [drop_at hi] at ht
    simp only [txts] at ht
    repeat none_booked
    refine o_notInD (.head _) ?_
    repeat none_booked
    rw [lookup_txA, Option.isSome_map]
    by_cases hs : (t.lookup th).isSome = true
    · rw [if_pos hs] at ht
      refine iteF (by simp [hs]) ?_
      repeat none_booked
      exact ⟨t, _, _, _, rfl, rfl, ht, nd, by omega⟩
    · rw [if_neg hs] at ht
      have hs : t.lookup th = none := Option.not_isSome_iff_eq_none.mp hs
      refine iteT (by rw [hs]; rfl) ?_
      cases hh : t.lookup h with
      | none => rw [hh] at ht; cases ht
      | some x =>
        rw [hh] at ht
        dsimp only at ht
        split at ht
        · rename_i hxl
          repeat none_booked
          refine Ex.assignK ?_ rfl
          repeat none_booked
          refine ⟨Sb.dct (.head _), ?_⟩
          refine o_itemD (b := .str x) (.head _) (by rw [lookup_txA, hh]; rfl) ?_
          repeat none_booked
          refine o_addS (by cases b <;> simp [ltr] <;> omega) ?_
          repeat none_booked
          refine ⟨d, _, _, _, rfl, rfl, .head, by simp; omega, nodup_txA nd, ?_⟩
          repeat none_booked
          refine ⟨t ++ [(th, x ++ ltr b)], _, _, _, ?_, rfl, ht, nodup_snoc nd hs, by simp; omega⟩
          rw [setD_new (by rw [lookup_txA, hs]; rfl), List.map_append]; rfl
        · cases ht
  · rintro m' P' ⟨t, x1, x2, x3, rfl, rfl, ht, nd, hl⟩
    rw [List.length_map, List.drop_length] at ht
    simp only [txts, Option.some.injEq] at ht
    subst ht
    repeat none_booked
    exact q d
end

end Mine
-- XG
namespace Mine
open PySem PySem.W PySem.Calls PyProof.Rows PySem.SeqAt

abbrev insDict (k v : Expr) : Value → Env → Sem Unit := fun acc env => do
  let kv ← eval k env
  let vv ← holding [kv] (eval v env)
  match acc with
  | .ref d => do
    standAt { k.pos with endLine := v.pos.endLine, endCol := v.pos.endCol }
    holding [kv, vv] (dictSet d kv vv)
  | _ => unsupported "internal:dictcomp"
theorem turn_dict1 {k v target iter : Expr} {ifs : List Expr} {scope : Scope} {pos : Pos} : TurnIs (.DictComp k v [⟨target, iter, ifs, 0⟩] scope pos) 0 target ifs (insDict k v) := fun it acc env => ⟨iter.pos, turn_ite (α := Unit) rfl⟩

section
variable {D : WD} {n : Nat} {f : Fm} {ns : Nms} {m : Loc} {P : List Ck} {Q : AVal → Loc → List Ck → Prop}
theorem newAcc_dict : NewAcc newDict fun a => dct D.prog D.w a [] := fun M A E s Q hf h =>
  wpAny_newObj_type (h _ _ (fun b o e => Heap.get?_push_of_some _ e) ⟨hf, [], Heap.DictOf.new _, rfl, Vs.nil⟩) (by size_fits)
theorem ins_dict {k v : Expr} {d : Addr} {Q : Loc → List Ck → Prop} (h : Ev D n f ns k m P fun a m1 P1 => Ev D n f ns v m1 P1 fun b m2 P2 => ∃ x ps P3, a = .str x ∧ Sw P2 (dct D.prog D.w d ps) (dct D.prog D.w d (setD x b ps)) P3 ∧ ps.length ≤ 100000 ∧ (ps.map (·.1)).Nodup ∧ Q m2 P3) :
    Wp D n f ns Eqv [] (fun _ => insDict k v (.ref d) f.env) m P (fun (_ : Unit) => Q) := fun A g s vs r p S _ => by
  refine wpAny_bind (h.run r p S .nil fun a m1 P1 u s1 T1 hu S1 q1 => wpAny_bind (wpAny_holding (q1.run r p S1 .nil fun b m2 P2 w s2 T2 hw S2 q => ?_)))
  obtain ⟨x, ps, P3, rfl, sw, hz, nd, q⟩ := q
  obtain ⟨t, rfl⟩ := hu
  refine wpAny_bind (wpAny_standAt (wpAny_holding ?_))
  obtain ⟨hs, kvs, hd, hk, hvs⟩ := S2.holds _ sw.mem
  refine wpAny_dictSet_pairs (knd := PySem.strKind D.prog D.w) (k := mkS x) (isStr_self x t) hd (fun h' hd' hsb => ?_) (by rw [sizeLine_eq, vs_len_keys hk]; omega)
  have hnt : ∀ o, s2.heap.get? d = some o → NT o := fun o e => by
    obtain ⟨o', es, ep, e1, _, hdat, _⟩ := hd
    rw [e1] at e; cases e; exact .dict hdat
  have T := TK.sameBut hsb hnt
  obtain ⟨i1, i2⟩ := stored_dct x b w hk hvs hw nd
  exact ⟨(), m2, P3, (T1.trans T2).trans T, rfl, S2.upd sw (fun y o hy e => (hsb.2 y (by simpa [dct] using hy)).trans e) ⟨hs, _, hd', i1, i2.mono T⟩ (fun y hy => .inl (by simpa [dct] using hy)) (by simp [dct]), q⟩
theorem Ev.dcomp1 {ke ve target iter : Expr} {ifs : List Expr} {scope : Scope} {pos : Pos} {Q : AVal → Loc → List Ck → Prop} (hsc : scope.kind = .function) (hnd : (scope.names.map (·.1)).Nodup) (htk : takes ns scope.names = true)
    (hs : ∀ x, foldedSetIterable iter f.env x = pure x)
    (h : Ev D n f ns iter m P fun a m1 P1 => ∃ xs need P2 ns' m0, IterW D n f ns target a xs need m1 P1 P2 ∧ Capt ns m1 scope.names ns' m0 ∧ ∀ acc L, CompL D n (compFm f scope L) ns' target ifs (insDict ke ve) (.ref acc) xs need m0 (dct D.prog D.w acc [] :: P2) fun _ P3 => Q (.ref acc) m1 P3) : Ev D n f ns (.DictComp ke ve [⟨target, iter, ifs, 0⟩] scope pos) m P Q :=
  Wp.comp (use := Option.none) rfl turn_dict1 (fun _ _ _ => rfl) (fun _ _ _ => rfl) newAcc_dict (fun _ => rfl) hsc hnd htk h hs
/-- a dict comprehension that is stored -/
theorem Ex.assignDC {x : Str} {pos' : Pos} {ke ve target iter : Expr} {ifs : List Expr} {scope : Scope} {cpos pos : Pos} {Q : AFlow → Loc → List Ck → Prop} (hsc : scope.kind = .function) (hnd : (scope.names.map (·.1)).Nodup) (htk : takes ns scope.names = true)
    (hsw : swapsWith (.DictComp ke ve [⟨target, iter, ifs, 0⟩] scope cpos) (some (.Name x pos')) pos.line (envN ns) = pure true)
    (hs : ∀ x, foldedSetIterable iter f.env x = pure x)
    (h : Ev D n f ns iter m P fun a m1 P1 => ∃ xs need P2 ns' m0, IterW D n f ns target a xs need m1 P1 P2 ∧ Capt ns m1 scope.names ns' m0 ∧ ∀ acc L, CompL D n (compFm f scope L) ns' target ifs (insDict ke ve) (.ref acc) xs need m0 (dct D.prog D.w acc [] :: P2) fun _ P3 => As D n f ns (.Name x pos') (.ref acc) m1 P3 fun m2 P4 => Q .next m2 P4) :
    Ex D n f ns (.Assign [.Name x pos'] (.DictComp ke ve [⟨target, iter, ifs, 0⟩] scope cpos) pos) m P Q := fun A g s vs r p S _ => by
  rw [exec_Assign_Name_used x pos' _ pos ((swaps_eq S.ok.kind S.ok.names).trans hsw)]
  have W : Wp D n f ns V [] (fun _ => comprehension (.DictComp ke ve [⟨target, iter, ifs, 0⟩] scope cpos) scope f.env (firstIterPos [⟨target, iter, ifs, 0⟩] cpos) newDict false (eval iter f.env) (some (PySem.assign (.Name x pos') f.env))) m P fun _ m2 P2 => Q .next m2 P2 :=
    Wp.comp rfl turn_dict1 (fun _ _ _ => rfl) (fun _ _ _ => rfl) newAcc_dict (fun _ => rfl) hsc hnd htk h hs
  refine wpAny_bind (wpAny_standAt (wpAny_bind ?_))
  show wpAny _ _ (comprehension _ _ _ _ _ _ _ _ >>= fun _ => pure ()) _ _ _
  exact wpAny_bind (W.run r p S .nil fun a m1 P1 v s1 T1 hv S1 q => wpAny_pure (wpAny_pure ⟨.next, m1, P1, T1, rfl, S1, q⟩))
/-- two loops in a list comprehension that is stored -/
theorem Ex.assignC2 {x : Str} {pos' : Pos} {elt target iter t2 i2 : Expr} {ifs ifs2 : List Expr} {scope : Scope} {cpos pos : Pos} {Q : AFlow → Loc → List Ck → Prop} (hsc : scope.kind = .function) (hnd : (scope.names.map (·.1)).Nodup) (htk : takes ns scope.names = true)
    (hsw : swapsWith (.ListComp elt [⟨target, iter, ifs, 0⟩, ⟨t2, i2, ifs2, 0⟩] scope cpos) (some (.Name x pos')) pos.line (envN ns) = pure true)
    (hs : ∀ x, foldedSetIterable iter f.env x = pure x)
    (h : Ev D n f ns iter m P fun a m1 P1 => ∃ xs need P2 ns' m0, IterW D n f ns target a xs need m1 P1 P2 ∧ Capt ns m1 scope.names ns' m0 ∧ ∀ acc L, CompL D n (compFm f scope L) ns' target ifs (insNest (.ListComp elt [⟨target, iter, ifs, 0⟩, ⟨t2, i2, ifs2, 0⟩] scope cpos) i2 1) (.ref acc) xs need m0 (lst acc [] :: P2) fun _ P3 => As D n f ns (.Name x pos') (.ref acc) m1 P3 fun m2 P4 => Q .next m2 P4) :
    Ex D n f ns (.Assign [.Name x pos'] (.ListComp elt [⟨target, iter, ifs, 0⟩, ⟨t2, i2, ifs2, 0⟩] scope cpos) pos) m P Q := fun A g s vs r p S _ => by
  rw [exec_Assign_Name_used x pos' _ pos ((swaps_eq S.ok.kind S.ok.names).trans hsw)]
  have W : Wp D n f ns V [] (fun _ => comprehension (.ListComp elt [⟨target, iter, ifs, 0⟩, ⟨t2, i2, ifs2, 0⟩] scope cpos) scope f.env (firstIterPos [⟨target, iter, ifs, 0⟩, ⟨t2, i2, ifs2, 0⟩] cpos) (newList []) false (eval iter f.env) (some (PySem.assign (.Name x pos') f.env))) m P fun _ m2 P2 => Q .next m2 P2 :=
    Wp.comp rfl turn_list2a (fun _ _ _ => rfl) (fun _ _ _ => rfl) newAcc_list (fun _ => rfl) hsc hnd htk h hs
  refine wpAny_bind (wpAny_standAt (wpAny_bind ?_))
  show wpAny _ _ (comprehension _ _ _ _ _ _ _ _ >>= fun _ => pure ()) _ _ _
  exact wpAny_bind (W.run r p S .nil fun a m1 P1 v s1 T1 hv S1 q => wpAny_pure (wpAny_pure ⟨.next, m1, P1, T1, rfl, S1, q⟩))
theorem ins_nest2 {elt target iter t2 i2 : Expr} {ifs ifs2 : List Expr} {scope : Scope} {cpos : Pos} {acc : Value} {Q : Loc → List Ck → Prop}
    (h : Ev D n f ns i2 m P fun a m1 P1 => ∃ xs need P2, IterW D n f ns t2 a xs need m1 P1 P2 ∧ CompL D n f ns t2 ifs2 (insList elt) acc xs need m1 P2 Q)
    (hs : ∀ x, foldedSetIterable i2 f.env x = pure x) : Wp D n f ns Eqv [] (fun _ => insNest (.ListComp elt [⟨target, iter, ifs, 0⟩, ⟨t2, i2, ifs2, 0⟩] scope cpos) i2 1 acc f.env) m P (fun (_ : Unit) => Q) :=
  ins_nest (iter := i2) rfl turn_list2b (fun _ _ _ => rfl) (fun _ _ _ => rfl) h hs

/-- len of an own object -/
theorem c_lenI {x C d fn : Addr} {fs : List (Str × AVal)} {k : Nat} (hm : Has P (inst x C d fs)) (hs : findIn D.K (.ref C) "__len__" = some (some (.ref fn))) (hf : PySem.W.isFn D.K (.ref fn) = true) (hk : k < 2 ^ 62)
    (h : Cal D n f ns (.ref fn) [.ref x] [] [] m P fun r m1 P1 => r = .int k ∧ Q (.int k) m1 P1) : Cal D (n + 1) f ns (.blt "len") [.ref x] [] [] m P Q := .b fun A g s vs r p S hv => by
  obtain ⟨v, rfl, h1⟩ := Vs.one hv
  simp only [V] at h1; subst h1
  obtain ⟨ox, od, mm, I, _⟩ := inst_at (hm.holds S) "__len__"
  refine Calls.call_function_entry kind_len plain_len entry_len (args_len1 _) ?_
  unfold Builtin.«len»
  refine wpAny_bind (m := oneArg "len" _) (wpAny_pure ?_)
  refine wpAny_bind (m := callSpecial? (.ref x) (Str.ofString "__len__")) (special_fn (p.K.keeps S.keep) I hs (beq_iff_eq.mp hf) ?_)
  refine h.run r.in1 p S (Vs1 (a := .ref x) rfl) fun c m1 P1 w s1 T1 hw S1 q => ?_
  obtain ⟨rfl, q⟩ := q
  obtain ⟨t, rfl⟩ := hw
  refine wpAny_bind (wpAny_holding (wpAny_pure ?_))
  refine wpAny_bind (wpAny_letGo ?_)
  show wpAny _ _ (if (k : Int) < 0 then _ else _) _ _ _
  rw [if_neg (by omega)]
  show wpAny _ _ (if (k : Int) ≥ 2 ^ 63 then _ else _) _ _ _
  rw [if_neg (by omega)]
  exact wpAny_bind (wpAny_mkInt (wpAny_pure ⟨_, rfl, .int k, m1, P1, T1, V.int, S1.toks, q⟩))
end
end Mine

-- HN
namespace Mine
open PySem PySem.W PySem.Calls PyProof.Rows PySem.SeqAt

/-! names: signs that may stand in them -/
def okC (c : Nat) : Bool := c == 46 || (decide (48 ≤ c) && decide (c ≤ 57)) || c == 65 || c == 66 || c == 83 || c == 97 || c == 98 || c == 115
theorem okC_lt {c : Nat} (h : okC c = true) : c < 116 := by
  unfold okC at h
  simp only [Bool.or_eq_true, beq_iff_eq, Bool.and_eq_true, decide_eq_true_eq] at h
  omega
theorem okC_all {c : Nat} (h : okC c = true) : (decide (c < 128)) = true ∧ (decide (31 < c) && c != 127) = true ∧ (decide (31 < lo1 c) && lo1 c != 127) = true ∧ (decide (c < 128) && !(code46.getD (6 + c / 32) 0).testBit (c % 32)) = true := by
  have hlt := okC_lt h
  have key : ∀ c : Fin 116, okC c.1 = true → (decide (c.1 < 128)) = true ∧ (decide (31 < c.1) && c.1 != 127) = true ∧ (decide (31 < lo1 c.1) && lo1 c.1 != 127) = true ∧ (decide (c.1 < 128) && !(code46.getD (6 + c.1 / 32) 0).testBit (c.1 % 32)) = true := by decide +kernel
  exact key ⟨c, hlt⟩ h
def okL (x : List Nat) : Bool := x.all okC
theorem okH_of {x : List Nat} (h : okL x = true) (hz : x.length ≤ 1000) : okH x = true := by
  unfold okL at h
  rw [List.all_eq_true] at h
  unfold okH asc okN
  simp only [Bool.and_eq_true, decide_eq_true_eq]
  refine ⟨⟨⟨?_, ?_⟩, ?_⟩, hz⟩
  · rw [List.all_eq_true]; exact fun c hc => (okC_all (h c hc)).1
  · rw [List.all_eq_true]; exact fun c hc => (okC_all (h c hc)).2.1
  · rw [List.all_eq_true]
    intro c hc
    unfold loL at hc
    obtain ⟨d, hd, rfl⟩ := List.mem_map.mp hc
    exact (okC_all (h d hd)).2.2.1
theorem okV_of {x : List Nat} (h : okL x = true) : okV x = true := by
  unfold okL at h
  rw [List.all_eq_true] at h
  unfold okV
  rw [List.all_eq_true]; exact fun c hc => (okC_all (h c hc)).2.2.2
theorem okL_app {x y : List Nat} (h : okL x = true) (k : okL y = true) : okL (x ++ y) = true := by
  unfold okL at *; rw [List.all_append, h, k]; rfl
theorem okL_dec (k : Nat) : okL (dec k) = true := by
  unfold okL; rw [List.all_eq_true]; intro c hc
  have := dec_digit hc
  unfold okC; simp; omega
theorem okL_ltr (b : Bool) : okL (ltr b) = true := by cases b <;> decide
theorem okL_jn : ∀ l : List Nat, okL (jn [46] (l.map dec)) = true
  | [] => rfl
  | [a] => okL_dec a
  | a :: b :: r => okL_app (okL_app (okL_dec a) (by decide)) (okL_jn (b :: r))
theorem jn_len : ∀ l : List Nat, (∀ k ∈ l, k < 1000) → (jn [46] (l.map dec)).length ≤ 4 * l.length
  | [], _ => by simp [jn]
  | [a], h => by have := dec_len (h a (by simp)); simp only [List.map, jn, List.length_singleton]; omega
  | a :: b :: r, h => by
    have h1 := dec_len (h a (by simp))
    have h2 := jn_len (b :: r) fun k hk => h k (by simp [hk])
    simp only [List.map_cons, jn, List.length_append, List.length_cons, List.length_nil] at h2 ⊢
    omega
/-- the head of a name: s. or S. -/
def hdS (b : Bool) : List Nat := if b then [83, 46] else [115, 46]
def nameS (p : Bool × List Nat) : List Nat := hdS p.1 ++ jn [46] (p.2.map dec)
theorem okL_name (p : Bool × List Nat) : okL (nameS p) = true := okL_app (by cases p.1 <;> decide) (okL_jn p.2)
theorem name_len {p : Bool × List Nat} (h : ∀ k ∈ p.2, k < 1000) : (nameS p).length ≤ 2 + 4 * p.2.length := by
  have := jn_len p.2 h
  unfold nameS; rw [List.length_append]
  have : (hdS p.1).length = 2 := by cases p.1 <;> rfl
  omega
theorem lo_digit {c : Nat} (h : 48 ≤ c) (k : c ≤ 57) : lo1 c = c := by
  have key : ∀ c : Fin 58, 48 ≤ c.1 → lo1 c.1 = c.1 := by decide +kernel
  exact key ⟨c, by omega⟩ h
theorem loL_dec (k : Nat) : loL (dec k) = dec k := by
  unfold loL
  conv => rhs; rw [← List.map_id (dec k)]
  exact List.map_congr_left fun c hc => lo_digit (dec_digit hc).1 (dec_digit hc).2
theorem loL_app (x y : List Nat) : loL (x ++ y) = loL x ++ loL y := by simp [loL]
theorem loL_jn : ∀ l : List Nat, loL (jn [46] (l.map dec)) = jn [46] (l.map dec)
  | [] => rfl
  | [a] => loL_dec a
  | a :: b :: r => by
    show loL (dec a ++ [46] ++ jn [46] ((b :: r).map dec)) = _
    rw [loL_app, loL_app, loL_dec, loL_jn (b :: r)]; rfl
theorem loL_name (p : Bool × List Nat) : loL (nameS p) = [115, 46] ++ jn [46] (p.2.map dec) := by
  unfold nameS; rw [loL_app, loL_jn]
  cases p.1 <;> rfl

/-! a join is parted where it was joined -/
theorem nodot (k : Nat) : (46 : Nat) ∉ dec k := fun h => by have := dec_digit h; omega
theorem pos_one (x : List Nat) (c hi i : Nat) (hh : hi = x.length) : pos x [c] hi i = (x[i]? == some c) := by
  subst hh
  unfold pos
  by_cases h : i < x.length
  · have e : (x.drop i).take 1 = [x[i]] := by rw [List.drop_eq_getElem_cons h]; rfl
    simp only [List.length_singleton, e, List.getElem?_eq_getElem h]
    have : decide (i + 1 ≤ x.length) = true := decide_eq_true h
    rw [this, Bool.true_and]
    by_cases hc : x[i] = c
    · simp [hc]
    · rw [beq_eq_false_iff_ne.mpr (by simpa using hc), beq_eq_false_iff_ne.mpr (by simpa using hc)]
  · rw [List.getElem?_eq_none (by omega)]
    have : decide (i + [c].length ≤ x.length) = false := decide_eq_false (by simp; omega)
    rw [this, Bool.false_and]; rfl
theorem splF_last {p y : List Nat} {k lo : Nat} (hlo : lo ≤ p.length) (hn : (46 : Nat) ∉ p.drop lo) : splF p [46] k lo = [p.drop lo] := by
  cases k with
  | zero => rfl
  | succ k =>
    have : fnd p [46] lo p.length = none := fnd_none fun i hi h => by
      rw [pos_one _ _ _ _ rfl, beq_iff_eq] at h
      apply hn
      have := List.mem_of_getElem? (l := p.drop lo) (i := i - lo) (a := 46) (by rw [List.getElem?_drop, show lo + (i - lo) = i by omega]; exact h)
      exact this
    rw [splF, this]
theorem splF_jn : ∀ (l : List Nat) (a : Nat) (pre : List Nat) (k : Nat), l.length ≤ k → splF (pre ++ jn [46] ((a :: l).map dec)) [46] k pre.length = (a :: l).map dec
  | [], a, pre, k, _ => by
    simp only [List.map, jn]
    rw [splF_last (y := []) (by simp) (by rw [List.drop_left]; exact nodot a), List.drop_left]
  | b :: l, a, pre, k, hk => by
    obtain ⟨k, rfl⟩ : ∃ j, k = j + 1 := ⟨k - 1, by simp at hk; omega⟩
    have e : pre ++ jn [46] ((a :: b :: l).map dec) = pre ++ dec a ++ [46] ++ jn [46] ((b :: l).map dec) := by
      show pre ++ (dec a ++ [46] ++ jn [46] ((b :: l).map dec)) = _
      simp only [List.append_assoc]
    have hf : fnd (pre ++ dec a ++ [46] ++ jn [46] ((b :: l).map dec)) [46] pre.length (pre ++ dec a ++ [46] ++ jn [46] ((b :: l).map dec)).length = some (pre.length + (dec a).length) := by
      refine fnd_some ?_ (by omega) fun i h1 h2 h3 => ?_
      · rw [pos_one _ _ _ _ rfl, beq_iff_eq, List.append_assoc (pre ++ dec a), List.getElem?_append_right (by simp)]
        simp
      · rw [pos_one _ _ _ _ rfl, beq_iff_eq, List.append_assoc (pre ++ dec a), List.getElem?_append_left (by simp; omega), List.getElem?_append_right h1] at h3
        exact nodot a (List.mem_of_getElem? h3)
    rw [e, splF, hf]
    dsimp only
    rw [show pre.length + (dec a).length + [46].length = (pre ++ dec a ++ [46]).length by simp; omega]
    have ih := splF_jn l b (pre ++ dec a ++ [46]) k (by simpa using hk)
    rw [ih]
    have e1 : ((pre ++ dec a ++ [46] ++ jn [46] ((b :: l).map dec)).drop pre.length).take (pre.length + (dec a).length - pre.length) = dec a := by
      rw [List.append_assoc, List.append_assoc, List.drop_left, show pre.length + (dec a).length - pre.length = (dec a).length by omega, List.take_left]
    rw [e1]; rfl
theorem jn_len_ge : ∀ (l : List Nat) , l.length ≤ (jn [46] (l.map dec)).length + 1
  | [] => by simp
  | [a] => by simp
  | a :: b :: r => by
    have := jn_len_ge (b :: r)
    simp only [List.map_cons, jn, List.length_append, List.length_cons, List.length_nil] at this ⊢
    omega
/-- the parts of a name behind its head -/
def partsS (l : List Nat) : List (List Nat) := if l.isEmpty then [[]] else l.map dec
theorem spl_jn (l : List Nat) : spl (jn [46] (l.map dec)) [46] = partsS l := by
  cases l with
  | nil => rfl
  | cons a l =>
    have := splF_jn l a [] ((jn [46] ((a :: l).map dec)).length + 1) (by have := jn_len_ge (a :: l); simp at this ⊢; omega)
    simpa [spl, partsS] using this
theorem map_dec_inj : ∀ {l l' : List Nat}, l.map dec = l'.map dec → l = l'
  | [], [], _ => rfl
  | [], _ :: _, h => by simp at h
  | _ :: _, [], h => by simp at h
  | a :: r, b :: r', h => by
    simp only [List.map_cons, List.cons.injEq] at h
    rw [dec_inj h.1, map_dec_inj h.2]
theorem jn_inj {l l' : List Nat} (h : jn [46] (l.map dec) = jn [46] (l'.map dec)) : l = l' := by
  have := congrArg (fun x => spl x [46]) h
  simp only [spl_jn] at this
  unfold partsS at this
  cases l with
  | nil => cases l' with
    | nil => rfl
    | cons b r => simp at this; exact absurd this.1 (dec_ne b)
  | cons a r => cases l' with
    | nil => simp at this; exact absurd this.1 (dec_ne a)
    | cons b r' =>
      simp only [List.isEmpty_cons, Bool.false_eq_true, if_false] at this
      exact map_dec_inj this
end Mine

-- HB
namespace Mine
open PySem PySem.W PySem.Calls PyProof.Rows PySem.SeqAt

local macro_rules | `(tactic| leaf_len) => `(tactic| ((repeat (first | with_reducible exact NmAt.head | with_reducible apply NmAt.tail)); done))
local macro_rules | `(tactic| one_sign) => `(tactic| ((repeat (first | with_reducible exact NmUp.head | with_reducible apply NmUp.tail)); done))
local macro_rules | `(tactic| o_reads) => `(tactic| ((repeat (first | with_reducible exact In1.head | with_reducible apply In1.tail)); done))
local macro_rules | `(tactic| o_fieldsN) => `(tactic| ((repeat (first | with_reducible assumption | with_reducible exact Sw.head | with_reducible apply Sw.tail)); done))
local macro_rules | `(tactic| o_readsAll) => `(tactic| ((repeat (first | with_reducible assumption | with_reducible exact List.mem_cons_self .. | with_reducible apply List.mem_cons_of_mem)); done))
local macro_rules | `(tactic| o_shape) => `(tactic| ((repeat (first | with_reducible exact .nil | (apply Init.hit; (next => rfl)) | (apply Init.miss; (next => rfl)))); done))
local macro_rules | `(tactic| wrow_none_raised) => `(tactic| (simp only [List.map]; decide +kernel))
local macro_rules | `(tactic| wrow_raised) => `(tactic| (constructor; (next => (constructor; constructor; constructor; (rw [Ok.K ‹Ok _›]); rfl)); (next => rfl); (next => (rw [Ok.K ‹Ok _›]; rfl)); (next => rfl); (next => rfl); (next => rfl); (next => rfl); (next => decide +kernel); (next => decide +kernel); (next => rfl); (next => rfl); (next => rfl)))
local macro_rules | `(tactic| w_left) => `(tactic| (constructor; (next => wrow_none_raised); constructor; constructor; (next => o_shape)))
local macro_rules | `(tactic| w_means) => `(tactic| first
  | focus ((apply c_lenL); (next => o_readsAll))
  | (apply c_lenS)
  | (apply c_find)
  | (apply c_startswith)
  | (apply c_endswith)
  | (apply c_find4)
  | (apply c_rfind4)
  | (apply c_count)
  | (apply c_upper)
  | (apply c_lower)
  | (apply c_strI)
  | (apply c_strS)
  | (apply c_intS)
  | (apply c_split)
  | (apply c_range)
  | (apply c_listS)
  | focus ((apply c_enum); (next => o_readsAll))
  )
local macro_rules | `(tactic| wrow_close) => `(tactic| ((repeat (first | with_reducible exact Capt.nil | focus ((apply Capt.other); (next => decide)) | focus ((with_reducible apply Capt.cell); (next => leaf_len)) | focus ((with_reducible apply Capt.free); (next => leaf_len)))); done))
local macro_rules | `(tactic| close_w) => `(tactic| first
  | focus ((with_reducible apply Ev.comp1); (next => rfl); (next => decide +kernel); (next => decide +kernel); rotate_left; (next => (intro _; rfl)); dsimp only)
  | focus ((with_reducible apply Ex.assignD); (next => rfl); (next => decide +kernel); (next => decide +kernel); (next => rfl); (next => (intro _; rfl)); dsimp only)
  | focus ((with_reducible apply Ev.dcomp1); (next => rfl); (next => decide +kernel); (next => decide +kernel); (next => (intro _; rfl)); dsimp only)
  | focus ((with_reducible apply Ex.assignDC); (next => rfl); (next => decide +kernel); (next => decide +kernel); (next => rfl); (next => (intro _; rfl)); dsimp only)
  | focus ((with_reducible apply Ex.assignC2); (next => rfl); (next => decide +kernel); (next => decide +kernel); (next => rfl); (next => (intro _; rfl)); dsimp only))
local macro_rules | `(tactic| kd_mem) => `(tactic| ((repeat (first | with_reducible exact Pk.head | with_reducible apply Pk.tail)); done))
local macro_rules | `(tactic| kd_subs) => `(tactic| ((repeat (refine Pk.perm (by kd_mem) ?_)); exact List.Perm.refl _))
local macro_rules | `(tactic| none_booked) => `(tactic| first
  | (with_reducible refine Exs.cons ?_)
  | (with_reducible refine Exs.nil ?_)
  | ((with_reducible show Ev _ _ _ _ _ _ _ _); first
    | ((with_reducible show Ev _ _ _ _ (Expr.Name _ _) _ _ _); first
      | focus ((with_reducible apply Ev.local); (next => leaf_len); rotate_left; (next => decide +kernel))
      | focus ((with_reducible apply Ev.cell); (next => leaf_len); rotate_left; (next => decide +kernel))
      | focus ((with_reducible apply Ev.free); (next => leaf_len); rotate_left; (next => decide +kernel); (next => decide +kernel))
      | focus ((with_reducible apply Ev.gRef); (next => o_reads); (next => (rw [Ok.K ‹Ok _›]; eq_refl)); rotate_left; (next => decide +kernel))
      | focus ((with_reducible apply Ev.bBlt); (next => o_reads); (next => (rw [Ok.K ‹Ok _›]; eq_refl)); (next => eq_refl); rotate_left; (next => decide +kernel); (next => decide +kernel))
      | focus ((with_reducible apply Ev.bTyp); (next => o_reads); (next => (rw [Ok.K ‹Ok _›]; eq_refl)); (next => eq_refl); rotate_left; (next => decide +kernel); (next => decide +kernel))
      | focus ((with_reducible apply Ev.gStr); (next => o_reads); (next => (rw [Ok.K ‹Ok _›]; eq_refl)); rotate_left; (next => decide +kernel)))
    | ((with_reducible show Ev _ _ _ _ (Expr.Constant _ _ _) _ _ _); first
      | (with_reducible refine Ev.int ?_)
      | focus ((with_reducible apply Ev.strL); (next => (first | with_reducible exact cs_k0 | with_reducible exact cs_k1 | with_reducible exact cs_k2 | with_reducible exact cs_k3 | with_reducible exact cs_dots | with_reducible exact cs_k5 | with_reducible exact cs_k6 | with_reducible exact cs_k7 | with_reducible exact cs_k8 | with_reducible exact cs_k9 | with_reducible exact cs_dot | with_reducible exact cs_k11 | with_reducible exact cs_k12 | with_reducible exact cs_k13 | with_reducible exact cs_k14 | with_reducible exact cs_k15 | with_reducible exact cs_k16 | with_reducible exact cs_k17 | with_reducible exact cs_k18 | with_reducible exact cs_k19 | with_reducible exact cs_k20 | with_reducible exact cs_k21 | with_reducible exact cs_k22 | with_reducible exact cs_k23 | with_reducible exact cs_k24 | with_reducible exact cs_k25 | with_reducible exact cs_nl | with_reducible exact cs_k27 | with_reducible exact cs_colon | with_reducible exact cs_k29 | with_reducible exact cs_k30 | with_reducible exact cs_k31 | with_reducible exact cs_k32 | with_reducible exact cs_k33 | with_reducible exact cs_k34 | with_reducible exact cs_k35 | with_reducible exact cs_k36 | with_reducible exact cs_k37 | with_reducible exact cs_k38 | with_reducible exact cs_k39 | with_reducible exact cs_k40 | with_reducible exact cs_k41 | with_reducible exact cs_k42 | with_reducible exact cs_k43 | with_reducible exact cs_k44 | exact rfl)))
      | (with_reducible refine Ev.bool ?_)
      | (with_reducible refine Ev.none ?_))
    | ((with_reducible show Ev _ _ _ _ (Expr.Call _ _ _ _) _ _ _); first
      | ((with_reducible show Ev _ _ _ _ (Expr.Call (Expr.Attribute _ _ _) _ _ _) _ _ _); focus ((with_reducible apply Ev.meth); rotate_left; (next => eq_refl); (next => eq_refl); (next => eq_refl)))
      | focus ((with_reducible refine Ev.call ?_ ?_ ?_ ?_); rotate_left; (next => eq_refl); (next => eq_refl); (next => eq_refl)))
    | focus ((with_reducible refine Ev.cmp ?_ ?_); rotate_left; (next => with_unfolding_all eq_refl))
    | (with_reducible refine Ev.binop ?_)
    | (with_reducible refine Ev.slice ?_)
    | focus ((with_reducible refine Ev.item ?_ ?_); rotate_left; (next => (intros; eq_refl)))
    | (with_reducible refine Ev.tup ?_)
    | (with_reducible refine Ev.list ?_)
    | (with_reducible refine Ev.unop ?_)
    | (with_reducible refine Ev.ifexp ?_)
    | (with_reducible refine Ev.one ?_)
    | (with_reducible refine Ev.and ?_)
    | (with_reducible refine Ev.or ?_))
  | ((with_reducible show Ex _ _ _ _ _ _ _ _); first
    | (with_reducible refine Ex.ite ?_)
    | (with_reducible refine Ex.ret ?_)
    | focus ((with_reducible refine Ex.assignN ?_ ?_); rotate_left; (next => eq_refl))
    | focus ((with_reducible refine Ex.exprE ?_ ?_); rotate_left; (next => eq_refl))
    | ((with_reducible show Ex _ _ _ _ (Stmt.AugAssign (Expr.Name _ _) _ _ _) _ _ _); focus ((with_reducible apply Ex.aug); (next => leaf_len)))
    | focus ((with_reducible refine Ex.assignW2 (Ok.hd ‹Ok _›) ?_ ?_ ?_); rotate_left; (next => eq_refl); (next => eq_refl))
    | focus ((with_reducible refine Ex.assignW3 (Ok.hd ‹Ok _›) ?_ ?_ ?_); rotate_left; (next => eq_refl); (next => eq_refl))
    | (with_reducible refine Ex.assert (Ok.hd ‹Ok _›) ?_)
    | (with_reducible refine Ex.delItem ?_)
    | (with_reducible refine Ex.ret0 ?_)
    | (with_reducible refine Ex.cont ?_)
    | (with_reducible refine Ex.brk ?_)
    | (with_reducible refine Ex.pass ?_))
  | ((with_reducible show Tr _ _ _ _ _ _ _ _); first
    | focus ((with_reducible refine Tr.cmp ?_ ?_); rotate_left; (next => with_unfolding_all eq_refl))
    | (with_reducible refine Tr.not ?_)
    | (with_reducible refine Tr.and_nil ?_)
    | (with_reducible refine Tr.or_nil ?_)
    | (with_reducible refine Tr.and ?_)
    | (with_reducible refine Tr.or ?_)
    | focus ((with_reducible refine Tr.ev ?_ ?_); rotate_left; (next => eq_refl)))
  | ((with_reducible show Wp _ _ _ _ _ _ _ _ _ _); first
    | (with_reducible refine Ar.nil ?_)
    | focus ((with_reducible refine Ar.cons ?_ ?_); rotate_left; (next => eq_refl))
    | (with_reducible refine Ks.nil ?_)
    | (with_reducible refine Ks.cons ?_)
    | ((with_reducible show As _ _ _ _ _ _ _ _ _); first
      | ((with_reducible show As _ _ _ _ (Expr.Name _ _) _ _ _ _); first
        | focus ((with_reducible apply As.local); (next => one_sign))
        | focus ((with_reducible apply As.cellM); (next => assumption); (next => one_sign)))
      | focus ((with_reducible refine As.tup (Ok.hd ‹Ok _›) ?_ ?_ ?_); rotate_left; (next => eq_refl); (next => eq_refl)))
    | (with_reducible refine Eo.none ?_)
    | (with_reducible refine Eo.some ?_)
    | ((with_reducible show AsNm _ _ _ _ (_ :: _) _ _ _ _); focus ((with_reducible apply AsNm.cons); (next => one_sign)))
    | (with_reducible refine AsNm.nil ?_)
    | focus ((with_reducible refine AsIn.cons ?_ ?_); rotate_left; (next => eq_refl))
    | (with_reducible refine AsIn.nil ?_)
    | (with_reducible refine Cd.nil ?_)
    | (with_reducible refine Cd.cons ?_)
    | (with_reducible refine o_addI ?_)
    | (with_reducible refine o_subI ?_)
    | (with_reducible refine o_ltI ?_)
    | (with_reducible refine o_gtI ?_)
    | (with_reducible refine o_leI ?_)
    | (with_reducible refine o_geI ?_)
    | (with_reducible refine o_eqI ?_)
    | (with_reducible refine o_neI ?_)
    | (with_reducible refine o_eqS ?_)
    | (with_reducible refine o_neS ?_)
    | (with_reducible refine o_inS ?_)
    | (with_reducible refine o_notInS ?_)
    | ((with_reducible show Wp _ _ _ _ _ _ (Op2 (compareOp CmpOp.Is)) _ _ _); focus ((with_reducible apply o_is); (next => eq_refl)))
    | ((with_reducible show Wp _ _ _ _ _ _ (Op2 (compareOp CmpOp.IsNot)) _ _ _); focus ((with_reducible apply o_isNot); (next => eq_refl)))
    | (with_reducible refine o_iaddI ?_)
    | (with_reducible refine o_isubI ?_)
    | (with_reducible refine o_negI ?_)
    | (with_reducible refine o_ltS ?_)
    | (with_reducible refine o_gtS ?_)
    | (with_reducible refine t_bool ?_)
    | (with_reducible refine t_none ?_)
    | (with_reducible refine t_int ?_))
  | (with_reducible refine sq_next ?_)
  | (with_reducible refine sq_ret ?_)
  | (with_reducible refine lq_next ?_)
  | (with_reducible refine lq_cont ?_)
  | (with_reducible refine lq_brk ?_)
  | (with_reducible refine lq_ret ?_)
  | (with_reducible refine sq_brk ?_)
  | (with_reducible refine sq_cont ?_)
  | ((with_reducible show ∀ pl, Wp _ _ _ _ _ _ _ _ _ _); first
    | ((with_reducible show Gm _ _ _ _ (AVal.str _) _ _ _ _); first
      | (with_reducible refine g_find ?_)
      | (with_reducible refine g_rfind ?_)
      | (with_reducible refine g_split ?_)
      | (with_reducible refine g_join ?_)
      | (with_reducible refine g_startswith ?_)
      | (with_reducible refine g_endswith ?_)
      | (with_reducible refine g_lower ?_)
      | (with_reducible refine g_upper ?_)
      | (with_reducible refine g_count ?_))
    | ((with_reducible show Gm _ _ _ _ (AVal.ref _) _ _ _ _); first
      | focus ((with_reducible apply g_append); (next => o_readsAll))
      | focus ((with_reducible apply g_pop); (next => o_readsAll))
      | focus ((with_reducible apply g_insert); (next => o_readsAll))
      | focus ((with_reducible apply g_extend); (next => o_readsAll))))
  | focus ((refine ⟨?_, ?_⟩); (next => (first | ((with_reducible show isFn _ = true); exact rfl) | ((with_reducible show KeepOk _ _ _); (first | exact KeepOk.blt | exact KeepOk.typ | (exact KeepOk.fn (by rw [Ok.K ‹Ok _›]; rfl)))) | ((with_reducible show Sb _ _); (first | exact Sb.str | exact Sb.tup | exact Sb.lst (by o_readsAll))) | ((with_reducible show _ ≤ _); exact Nat.le_of_ble_eq_true rfl) | ((with_reducible show _ = _); with_reducible exact rfl))))
  | (refine ⟨_, rfl, ?_⟩)
  | (refine ⟨_, _, rfl, ?_⟩)
  | (refine ⟨_, _, _, rfl, ?_⟩)
  | (refine iteT (by first | with_reducible assumption | decide | (with_reducible_and_instances exact rfl)) ?_)
  | (refine iteF (by first | with_reducible assumption | decide) ?_)
  | (with_reducible refine opn (by with_reducible assumption) ?_)
  | (with_reducible refine opn2 (by with_reducible assumption) ?_)
  )

/-- halving -/
def bis (xs : List Int) (x : Int) : Nat → Nat → Nat → Nat
  | 0, lo, _ => lo
  | k + 1, lo, hi => if lo < hi then (if xs.getD ((lo + hi) / 2) 0 < x then bis xs x k ((lo + hi) / 2 + 1) hi else bis xs x k lo ((lo + hi) / 2)) else lo

section
variable {D : WD} {n : Nat} {f : Fm} {ns : Nms} {m : Loc} {P : List Ck} {Q : AVal → Loc → List Ck → Prop}

theorem f_bisect (O : Ok D) {a : Addr} {xs : List Int} {x : Int} (hm : lst a (xs.map .int) ∈ P) (hz : xs.length ≤ 1000) (q : Q (.int (bis xs x xs.length 0 xs.length)) m P) : Cal D (n + 1) f ns (.ref 188) [.ref a, .int x] [] [] m P Q := by
  apply Wp.fn (a := 188) (mk := fun vs => ⟨vs.take 2, [].zip (vs.drop 2)⟩)
  case F => wrow_raised
  dsimp only
  intro A g s vs r p S hv
  obtain ⟨va, vx, rfl, h1, h2⟩ := Vs.two hv
  refine bd_bisect2 (T := 180) (K := 181) rfl rfl rfl rfl rfl rfl (fun Q' q => wpAny_seqItems (S.keep _ _ (p.K _ _ (by rw [O.K]; rfl))) rfl q) rfl (fun Q' q => (looks_nsIn (p.K.keeps S.keep) (by rw [O.K]; rfl)).here q) ?_
  refine ⟨[("a", .ref a), ("x", .int x), ("lo", .int 0), ("hi", .none), ("key", .none)], m, P, TK.refl _, ?_, S, ?_⟩
  · exact ⟨_, _, rfl, h1, _, _, rfl, h2, _, _, rfl, V.int, _, _, rfl, rfl, _, _, rfl, rfl, rfl⟩
  w_left
  intro f' hM
  clear hv h1 h2 S p r
  repeat none_booked
  w_means
  next => simp; omega
  repeat none_booked
  rw [List.length_map]
  generalize hR : bis xs x xs.length 0 xs.length = R at q
  refine Ex.while_ (fun k m' P' => P' = P ∧ ∃ (lo hi : Nat) (mo : Option AVal), m' = [some (.ref a), some (.int x), some (.int lo), some (.int hi), some .none, mo, none, none] ∧ lo ≤ hi ∧ hi ≤ xs.length ∧ hi - lo ≤ k ∧ bis xs x k lo hi = R) xs.length ⟨rfl, 0, xs.length, none, rfl, by omega, by omega, by omega, hR⟩ ?_
  rintro k m1 P1 ⟨rfl, lo, hi, mo, rfl, h1, h2, h3, h4⟩
  repeat none_booked
  cases k with
  | zero =>
    have hc : ¬ lo < hi := by omega
    refine iteF (by simpa using hc) ?_
    repeat none_booked
    have h4 : lo = R := h4
    rw [← h4] at q
    exact q
  | succ k =>
    unfold bis at h4
    by_cases hc : lo < hi
    · rw [if_pos hc] at h4
      refine iteT (by simpa using hc) ?_
      repeat none_booked
      refine o_fdivI (by decide) (by rfl) ?_
      have e : ((lo : Int) + (hi : Int)).fdiv 2 = (((lo + hi) / 2 : Nat) : Int) := by
        rw [Int.fdiv_eq_ediv_of_nonneg _ (by omega)]; omega
      rw [e]
      have hlt : (lo + hi) / 2 < xs.length := by omega
      repeat none_booked
      refine o_itemL (j := (lo + hi) / 2) (x := .int xs[(lo + hi) / 2]) hm ?_ ?_ (by omega) (by omega) ?_
      · unfold seqIndex?; simp; omega
      · simp [hlt]
      repeat none_booked
      have hg : xs.getD ((lo + hi) / 2) 0 = xs[(lo + hi) / 2] := by simp [List.getD, hlt]
      rw [hg] at h4
      by_cases hx : xs[(lo + hi) / 2] < x
      · rw [if_pos hx] at h4
        refine iteT (by simpa using hx) ?_
        repeat none_booked
        exact ⟨k, by omega, rfl, (lo + hi) / 2 + 1, hi, _, rfl, by omega, by omega, by omega, h4⟩
      · rw [if_neg hx] at h4
        refine iteF (by simpa using hx) ?_
        repeat none_booked
        exact ⟨k, by omega, rfl, lo, (lo + hi) / 2, _, rfl, by omega, by omega, by omega, h4⟩
    · rw [if_neg hc] at h4
      refine iteF (by simpa using hc) ?_
      repeat none_booked
      rw [← h4] at q
      exact q
end

-- HC

def stp (x : List Nat) : List Nat :=
  let e1 := match fnd x [10] 0 x.length with | some i => i | none => x.length
  let e2 := match fnd x [58] 0 e1 with | some i => i | none => e1
  let s := match rfnd x [46] 0 e2 with | some i => i + 1 | none => 0
  (x.take e2).drop s

theorem fnd_le {x y : List Nat} {lo hi i : Nat} (h : fnd x y lo hi = some i) : i ≤ hi := by
  unfold fnd at h
  have := List.find?_some h
  unfold pos at this
  simp at this
  omega
theorem rfnd_lt {x y : List Nat} {lo hi i : Nat} (h : rfnd x y lo hi = some i) : i + y.length ≤ hi := by
  unfold rfnd at h
  have := List.find?_some h
  unfold pos at this
  simp at this
  exact this.1
section
variable {D : WD} {n : Nat} {f : Fm} {ns : Nms} {m : Loc} {P : List Ck} {Q : AVal → Loc → List Ck → Prop}

theorem f_strip (O : Ok D) {x : List Nat} (hz : x.length ≤ 1000) (q : Q (.str (stp x)) m P) : Cal D (n + 1) f ns (.ref 202) [.str x] [] [] m P Q := by
  apply Wp.fn (a := 202) (mk := fun vs => ⟨vs.take 1, [].zip (vs.drop 1)⟩)
  case F => wrow_raised
  dsimp only
  refine Bd.one (x := "msg") (fun v => rfl) ?_
  w_left
  intro f' hM
  none_booked
  repeat none_booked
  w_means
  next => omega
  repeat none_booked
  w_means
  repeat none_booked
  have b1 : (match fnd x [10] 0 x.length with | some i => i | none => x.length) ≤ x.length := by
    cases h : fnd x [10] 0 x.length with
    | none => exact Nat.le_refl _
    | some i => exact fnd_le h
  generalize he1 : (match fnd x [10] 0 x.length with | some i => i | none => x.length) = e1 at b1
  refine iteCut [some (.str x), some (.int 0), some (.int e1), some (.int (toI (fnd x [10] 0 x.length))), none] P (fun hc => ?_) (fun hc => ?_) ?_
  · cases h : fnd x [10] 0 x.length with
    | none => rw [h] at hc; simp [toI] at hc
    | some i =>
      rw [h] at he1
      subst he1
      repeat none_booked
      all_goals simp [toI]
  · cases h : fnd x [10] 0 x.length with
    | some i => rw [h] at hc; simp [toI] at hc; try omega
    | none =>
      rw [h] at he1
      subst he1
      repeat none_booked
      all_goals simp [toI]
  repeat none_booked
  refine c_find4 b1 ?_
  repeat none_booked
  have b2 : (match fnd x [58] 0 e1 with | some i => i | none => e1) ≤ x.length := by
    cases h : fnd x [58] 0 e1 with
    | none => exact b1
    | some i => exact Nat.le_trans (fnd_le h) b1
  generalize he2 : (match fnd x [58] 0 e1 with | some i => i | none => e1) = e2 at b2
  refine iteCut [some (.str x), some (.int 0), some (.int e2), some (.int (toI (fnd x [58] 0 e1))), none] P (fun hc => ?_) (fun hc => ?_) ?_
  · cases h : fnd x [58] 0 e1 with
    | none => rw [h] at hc; simp [toI] at hc
    | some i =>
      rw [h] at he2
      subst he2
      repeat none_booked
      all_goals simp [toI]
  · cases h : fnd x [58] 0 e1 with
    | some i => rw [h] at hc; simp [toI] at hc; try omega
    | none =>
      rw [h] at he2
      subst he2
      repeat none_booked
      all_goals simp [toI]
  repeat none_booked
  refine c_rfind4 b2 ?_
  repeat none_booked
  have b3 : (match rfnd x [46] 0 e2 with | some i => i + 1 | none => 0) ≤ e2 := by
    cases h : rfnd x [46] 0 e2 with
    | none => exact Nat.zero_le _
    | some i => exact rfnd_lt h
  generalize he3 : (match rfnd x [46] 0 e2 with | some i => i + 1 | none => 0) = e3 at b3
  refine iteCut [some (.str x), some (.int e3), some (.int e2), some (.int (toI (rfnd x [46] 0 e2))), none] P (fun hc => ?_) (fun hc => ?_) ?_
  · cases h : rfnd x [46] 0 e2 with
    | none => rw [h] at hc; simp [toI] at hc
    | some i =>
      rw [h] at he3
      subst he3
      repeat none_booked
      all_goals simp [toI]
  · cases h : rfnd x [46] 0 e2 with
    | some i => rw [h] at hc; simp [toI] at hc; try omega
    | none =>
      rw [h] at he3
      subst he3
      repeat none_booked
      all_goals simp [toI]
  repeat none_booked
  refine ⟨_, _, _, .int, .int, .none, by simp, .str (by omega) ?_⟩
  have e : slc x (some (e3 : Int)) (some (e2 : Int)) Option.none = stp x := by
    rw [slc_ab x b3 b2]
    unfold stp
    simp only [he1, he2, he3]
  rw [e]
  exact q
end

-- HF

section
variable {D : WD} {n : Nat} {f : Fm} {ns : Nms} {m : Loc} {P : List Ck} {Q : AVal → Loc → List Ck → Prop}

def getAll (ps : List (List Nat × List Nat)) (x : List Nat) : List (List Nat) := (ps.filter fun p => loL p.1 == loL x).map (·.2)

theorem f_getall (O : Ok D) {h d l : Addr} {ps : List (List Nat × List Nat)} {x : List Nat} (hm : hdrs h d l ∈ P) (hl : prs l ps ∈ P) (hx : okH x = true) (hps : ∀ p ∈ ps, okH p.1 = true) (hz : ps.length ≤ 1000) (q : ∀ a, Q (.ref a) m (lst a ((getAll ps x).map .str) :: P)) :
    Cal D (n + 2) f ns (.ref 114) [.ref h, .str x] [] [] m P Q := by
  obtain ⟨hx1, hx2, hx3, hx4⟩ := okH_ hx
  apply Wp.fn (a := 114) (mk := fun vs => ⟨vs.take 2, [].zip (vs.drop 2)⟩)
  case F => wrow_raised
  dsimp only
  refine Bd.two (x := "self") (y := "name") (fun v w => rfl) ?_
  w_left
  intro f' hM
  repeat none_booked
  refine Gm.i hm (meth76 O) rfl ?_
  repeat none_booked
  refine c_lower hx1 (by omega) ?_
  repeat none_booked
  refine f_conv O (by simpa using hx3) (by rw [loL_len]; omega) ?_
  repeat none_booked
  close_w
  refine Ev.attr ?_ rfl
  repeat none_booked
  refine at_hdr O hm ?_
  refine ⟨_, _, _, _, _, iter_list O.hd hl, by wrow_close, fun acc L => ?_⟩
  generalize compFm f' _ L = f2
  refine ⟨fun j m' P' => P' = lst acc ((getAll (ps.take j) x).map .str) :: P ∧ ∃ kv : Option AVal, m' = [none, kv, some (.str (loL x))], ⟨rfl, none, rfl⟩, ?_, ?_, ?_⟩
  · rintro j m' P' ⟨rfl, _⟩ c hc
    simp at hc; subst hc; exact List.mem_cons_of_mem _ hl
  · rintro j w' m' P' hj ⟨rfl, kv, rfl⟩
    rw [List.getElem?_map] at hj
    cases hw : ps[j]? with
    | none => rw [hw] at hj; simp at hj
    | some w =>
      rw [hw] at hj
      simp only [Option.map_some, Option.some.injEq] at hj
      subst hj
      obtain ⟨w1, w2⟩ := w
      obtain ⟨ha, _, _, hlen⟩ := okH_ (hps _ (List.mem_of_getElem? hw))
      dsimp only at ha hlen
      have ht : getAll (ps.take (j + 1)) x = getAll (ps.take j) x ++ (if loL w1 == loL x then [w2] else []) := by
        unfold getAll
        rw [List.take_add_one, hw, List.filter_append, List.map_append]
        congr 1
        simp only [Option.toList, List.filter_cons, List.filter_nil]
        split <;> simp
      have hle : (getAll (ps.take j) x).length ≤ 1000 := by
        unfold getAll
        rw [List.length_map]
        exact Nat.le_trans (List.length_filter_le ..) (by simp; omega)
      dsimp only
      rw [ht]
      repeat none_booked
      refine o_itemT (j := 0) rfl rfl (by decide) (by decide) ?_
      repeat none_booked
      refine c_lower ha (by omega) ?_
      repeat none_booked
      by_cases he : (loL w1 == loL x) = true
      · simp only [he, if_true]
        repeat none_booked
        refine ins_append ?_
        repeat none_booked
        refine o_itemT (j := 1) rfl rfl (by decide) (by decide) ?_
        refine ⟨_, _, .head, by rw [List.length_map]; omega, ?_⟩
        rw [List.map_append]
        exact ⟨rfl, _, rfl⟩
      · simp only [he, Bool.false_eq_true, if_false, List.append_nil]
        repeat none_booked
        exact ⟨trivial, _, rfl⟩
  · rintro m' P' ⟨rfl, kv, rfl⟩
    rw [List.length_map, List.take_length]
    repeat none_booked
    all_goals exact q _

theorem iter_prs (O : Ok D) {tgt : Expr} {l : Addr} {ps : List (List Nat × List Nat)} (hl : prs l ps ∈ P) : IterW D n f ns tgt (.ref l) (ps.map fun p => AVal.tup [.str p.1, .str p.2]) [prs l ps] m P P := iter_list O.hd hl

theorem f_keys (O : Ok D) {h d l : Addr} {ps : List (List Nat × List Nat)} (hm : hdrs h d l ∈ P) (hl : prs l ps ∈ P) (hz : ps.length ≤ 1000) (q : ∀ a, Q (.ref a) m (lst a (ps.map fun p => .str p.1) :: P)) :
    Cal D (n + 1) f ns (.ref 127) [.ref h] [] [] m P Q := by
  apply Wp.fn (a := 127) (mk := fun vs => ⟨vs.take 1, [].zip (vs.drop 1)⟩)
  case F => wrow_raised
  dsimp only
  refine Bd.one (x := "self") (fun v => rfl) ?_
  w_left
  intro f' hM
  repeat none_booked
  close_w
  refine Ev.attr ?_ rfl
  repeat none_booked
  refine at_hdr O hm ?_
  refine ⟨_, _, _, _, _, iter_list O.hd hl, by wrow_close, fun acc L => ?_⟩
  generalize compFm f' _ L = f2
  refine ⟨fun j m' P' => P' = lst acc ((ps.take j).map fun p => .str p.1) :: P ∧ ∃ k v : Option AVal, m' = [none, k, v], ⟨rfl, none, none, rfl⟩, ?_, ?_, ?_⟩
  · rintro j m' P' ⟨rfl, _⟩ c hc
    simp at hc; subst hc; exact List.mem_cons_of_mem _ hl
  · rintro j w' m' P' hj ⟨rfl, k, v, rfl⟩
    rw [List.getElem?_map] at hj
    cases hw : ps[j]? with
    | none => rw [hw] at hj; simp at hj
    | some w =>
      rw [hw] at hj
      simp only [Option.map_some, Option.some.injEq] at hj
      subst hj
      have ht : ps.take (j + 1) = ps.take j ++ [w] := by rw [List.take_add_one, hw]; rfl
      dsimp only
      rw [ht]
      repeat none_booked
      refine ins_append ?_
      repeat none_booked
      refine ⟨_, _, .head, by simp; omega, ?_⟩
      rw [List.map_append]
      exact ⟨rfl, _, _, rfl⟩
  · rintro m' P' ⟨rfl, k, v, rfl⟩
    rw [List.length_map, List.take_length]
    repeat none_booked
    all_goals exact q _

theorem f_items (O : Ok D) {h d l : Addr} {ps : List (List Nat × List Nat)} (hm : hdrs h d l ∈ P) (hl : prs l ps ∈ P) (hz : ps.length ≤ 1000) (q : ∀ a, Q (.ref a) m (prs a ps :: P)) :
    Cal D (n + 1) f ns (.ref 139) [.ref h] [] [] m P Q := by
  apply Wp.fn (a := 139) (mk := fun vs => ⟨vs.take 1, [].zip (vs.drop 1)⟩)
  case F => wrow_raised
  dsimp only
  refine Bd.one (x := "self") (fun v => rfl) ?_
  w_left
  intro f' hM
  repeat none_booked
  refine Ev.attr ?_ rfl
  repeat none_booked
  refine at_hdr O hm ?_
  repeat none_booked
  refine ⟨_, _, _, .none, .none, .none, by simp, .lst hl (by simp; omega) fun b => ?_⟩
  rw [slc_all]
  exact q b

/-- one more at the end, what is named so already stays -/
theorem f_setNew (O : Ok D) {h d l : Addr} {ps : List (List Nat × List Nat)} {x y : List Nat} {P' : List Ck} (hm : hdrs h d l ∈ P) (hl : prs l ps ∈ P) (w : Sw P (prs l ps) (prs l (ps ++ [(x, y)])) P') (hx : okH x = true) (hy : okV y = true) (hyz : y.length ≤ 1000) (hps : ∀ p ∈ ps, okH p.1 = true) (hz : ps.length ≤ 1000) (hg : getH ps x = none)
    (q : Q (.str y) m P') : Cal D (n + 3) f ns (.ref 165) [.ref h, .str x, .str y] [] [] m P Q := by
  obtain ⟨hx1, hx2, hx3, hx4⟩ := okH_ hx
  apply Wp.fn (a := 165) (mk := fun vs => ⟨vs.take 3, [].zip (vs.drop 3)⟩)
  case F => wrow_raised
  dsimp only
  refine Bd.three (x := "self") (y := "name") (z := "value") (fun u v w => rfl) ?_
  w_left
  intro f' hM
  repeat none_booked
  refine Gm.i hm (meth122 O) rfl ?_
  repeat none_booked
  refine f_get O hm hl hx hps hz ?_
  rw [hg]
  repeat none_booked
  refine Ev.attr ?_ rfl
  repeat none_booked
  refine at_hdr O hm ?_
  refine g_append hl ?_
  repeat none_booked
  refine Gm.i hm (meth76 O) rfl ?_
  repeat none_booked
  refine f_conv O (by simpa using hx2) (by omega) ?_
  repeat none_booked
  refine Gm.i hm (meth76 O) rfl ?_
  repeat none_booked
  refine f_conv O (by simpa using hy) (by omega) ?_
  repeat none_booked
  have w2 := w
  simp only [prs, List.map_append, List.map_cons, List.map_nil] at w2
  refine c_appendL w2 (by simp; omega) ?_
  repeat none_booked
  all_goals exact q
theorem f_setOld (O : Ok D) {h d l : Addr} {ps : List (List Nat × List Nat)} {x v : List Nat} {y : AVal} (hm : hdrs h d l ∈ P) (hl : prs l ps ∈ P) (hx : okH x = true) (hps : ∀ p ∈ ps, okH p.1 = true) (hz : ps.length ≤ 1000) (hg : getH ps x = some v)
    (q : Q (.str v) m P) : Cal D (n + 3) f ns (.ref 165) [.ref h, .str x, y] [] [] m P Q := by
  apply Wp.fn (a := 165) (mk := fun vs => ⟨vs.take 3, [].zip (vs.drop 3)⟩)
  case F => wrow_raised
  dsimp only
  refine Bd.three (x := "self") (y := "name") (z := "value") (fun u v w => rfl) ?_
  w_left
  intro f' hM
  repeat none_booked
  refine Gm.i hm (meth122 O) rfl ?_
  repeat none_booked
  refine f_get O hm hl hx hps hz ?_
  rw [hg]
  repeat none_booked
  all_goals exact q

/-- len of a Headers -/
theorem f_len (O : Ok D) {h d l : Addr} {ps : List (List Nat × List Nat)} (hm : hdrs h d l ∈ P) (hl : prs l ps ∈ P) (hz : ps.length ≤ 1000) (q : Q (.int ps.length) m P) : Cal D (n + 1) f ns (.ref 83) [.ref h] [] [] m P Q := by
  apply Wp.fn (a := 83) (mk := fun vs => ⟨vs.take 1, [].zip (vs.drop 1)⟩)
  case F => wrow_raised
  dsimp only
  refine Bd.one (x := "self") (fun v => rfl) ?_
  w_left
  intro f' hM
  repeat none_booked
  refine Ev.attr ?_ rfl
  repeat none_booked
  refine at_hdr O hm ?_
  repeat none_booked
  refine c_lenL hl (by simp; omega) ?_
  rw [List.length_map]
  repeat none_booked
  all_goals exact q

theorem f_addh (O : Ok D) {h d l : Addr} {ps : List (List Nat × List Nat)} {x y : List Nat} {P' : List Ck} (hm : hdrs h d l ∈ P) (w : Sw P (prs l ps) (prs l (ps ++ [(x, y)])) P') (hx : okH x = true) (hy : okV y = true) (hyz : y.length ≤ 1000) (hz : ps.length ≤ 1000)
    (q : Q .none m P') : Cal D (n + 3) f ns (.ref 172) [.ref h, .str x, .str y] [] [] m P Q := by
  obtain ⟨hx1, hx2, hx3, hx4⟩ := okH_ hx
  refine Wp.sub' ?_
  apply Wp.fn (a := 172) (mk := fun vs => ⟨vs.take 3, [].zip (vs.drop 3)⟩)
  case F => wrow_raised
  dsimp only
  intro A g s vs r p S hv
  obtain ⟨v0, v1, v2, rfl, h0, h1, h2⟩ := Vs.three hv
  refine bd_addh rfl rfl rfl rfl rfl rfl rfl ?_
  have hk : ∀ b o, s.heap.get? b = some o → (s.heap.push { cls := .type "dict", data := .dict #[] }).get? b = some o := fun b o e => Heap.get?_push_of_some _ e
  have T := TK.keeps hk
  refine ⟨[("self", .ref h), ("_name", .str x), ("_value", .str y), ("_params", .ref s.heap.objs.size)], m, _, T, ⟨_, _, rfl, h0.mono T, _, _, rfl, h1.mono T, _, _, rfl, h2.mono T, _, _, rfl, rfl, rfl⟩, S.newDict (tk := s.toks) p, ?_⟩
  w_left
  intro f' hM
  generalize s.heap.objs.size = dp
  clear hv h0 h1 h2 S p r T hk
  repeat none_booked
  intro a
  have hm' : hdrs h d l ∈ lst a [] :: dct D.prog D.w dp [] :: P := List.mem_cons_of_mem _ (List.mem_cons_of_mem _ hm)
  repeat none_booked
  refine Gm.i hm' (meth76 O) rfl ?_
  repeat none_booked
  refine f_conv O (by simpa using hy) (by omega) ?_
  repeat none_booked
  refine c_appendL (xs := []) .head (by simp) ?_
  repeat none_booked
  focus ((refine Ex.forNone O.hd ?_ ?_); rotate_left; (next => (intro _; rfl)))
  repeat none_booked
  refine g_items (ps := []) (by simp) ?_
  repeat none_booked
  refine c_items (ps := []) (by simp) fun v => ?_
  refine ⟨v, dp, lst a ([] ++ [.str y]) :: P, rfl, .cons _ (.swap ..), ?_⟩
  have hm2 : hdrs h d l ∈ lst a ([] ++ [.str y]) :: P := List.mem_cons_of_mem _ hm
  have w2 := w
  simp only [prs, List.map_append, List.map_cons, List.map_nil] at w2
  repeat none_booked
  refine Ev.attr ?_ rfl
  repeat none_booked
  refine at_hdr O hm2 ?_
  refine g_append (List.mem_cons_of_mem _ w.mem) ?_
  repeat none_booked
  refine Gm.i hm2 (meth76 O) rfl ?_
  repeat none_booked
  refine f_conv O (by simpa using hx2) (by omega) ?_
  repeat none_booked
  refine c_join (ls := [y]) (by simp) (by simp; omega) ?_
  repeat none_booked
  refine c_appendL (.tail w2) (by simp; omega) ?_
  repeat none_booked
  all_goals exact ⟨P', List.sublist_cons_self .., q⟩
end

-- HG

section
variable {D : WD} {n : Nat} {f : Fm} {ns : Nms} {m : Loc} {P : List Ck} {Q : AVal → Loc → List Ck → Prop}
theorem Ev.debug {pos : Pos} (q : Q (.bool true) m P) : Ev D n f ns (.Name ("__debug__" : Str) pos) m P Q := fun A g s vs r p S _ => by
  show wpAny _ _ (standAt pos >>= fun _ => debugConstant) _ _ _
  refine wpAny_bind (wpAny_standAt ?_)
  unfold debugConstant
  exact wpAny_bind (wpAny_rule (wpAny_pure ⟨.bool true, m, P, TK.refl _, rfl, S, q⟩))
theorem c_typeL {a : Addr} {xs : List AVal} (hm : lst a xs ∈ P) (q : Q (.typ "list") m P) : Cal D n f ns (.typ "type") [.ref a] [] [] m P Q := .t fun A g s vs r p S hv => by
  obtain ⟨v, rfl, h1⟩ := Vs.one hv
  simp only [V] at h1; subst h1
  obtain ⟨ws, hl, _⟩ := S.holds _ hm
  exact call_type_of hl.isList.typeIs (by decide) (ok1 S (c := .typ "list") rfl q)
theorem f_headers (O : Ok D) (q : ∀ h d l, Q (.ref h) m (prs l [] :: hdrs h d l :: P)) : Cal D (n + 3) f ns (.ref 175) [] [] [] m P Q := by
  refine Cal.mk (fI := 69) (by rw [O.K]; rfl) (by rw [O.K]; rfl) (by rw [O.K]; rfl) fun x d => ?_
  apply Wp.fnC (a := 69) (mk := fun vs => ⟨vs.head?.getD .none :: vs.tail.take 0, [].zip (vs.tail.drop 0)⟩)
  case F => wrow_raised
  dsimp only
  intro A g s vs r p S hv
  obtain ⟨v0, rfl, h0⟩ := Vs.one hv
  refine bd_init1 rfl rfl rfl rfl rfl rfl (fun Q' q => wpAny_seqItems (S.keep _ _ (p.K _ _ (by rw [O.K]; rfl))) rfl q) ?_
  refine ⟨[("self", .ref x), ("headers", .none)], m, _, TK.refl _, ⟨_, _, rfl, h0, _, _, rfl, rfl, rfl⟩, S, ?_⟩
  w_left
  intro f' hM
  clear hv h0 S p r
  repeat none_booked
  intro a
  repeat none_booked
  refine c_typeL (xs := []) (by simp) ?_
  repeat none_booked
  refine Ex.assignA ?_ rfl
  repeat none_booked
  refine ⟨x, 175, d, [], lst a [] :: inst x 175 d [("_headers", .ref a)] :: P, rfl, cls175 O, by rw [O.K]; rfl, .tail .head, by decide, ?_⟩
  repeat none_booked
  focus ((refine Ex.for_ ?_ ?_); rotate_left; (next => (intro _; rfl)))
  repeat none_booked
  refine ⟨[], _, _, fun j m' P' => P' = lst a [] :: inst x 175 d [("_headers", .ref a)] :: P, iter_list O.hd (by simp), rfl, ?_, ?_, ?_⟩
  · rintro j m' P' rfl c hc
    simp at hc; subst hc; simp
  · rintro j w' m' P' hj
    simp at hj
  · rintro m' P' rfl
    repeat none_booked
    all_goals exact ⟨rfl, q _ _ _⟩
end

-- HO

/-! what a machine turned about is -/
def insP (row : List Nat) (p : Nat) : List Nat :=
  let k := bis (row.map fun (x : Nat) => (x : Int)) (p : Int) row.length 0 row.length
  if ((row.take (k + 1)).drop k).map (fun (x : Nat) => (x : Int)) == [(p : Int)] then row else insL row k p
/-- whence a letter leads to a place -/
def whence (W : List Way) (b : Bool) (t : Nat) : List Nat := (W.filter fun w => w.1 == b && w.2.2 == t).map (·.2.1)
def goalR (W : List Way) (b : Bool) (st : List Nat) : List Nat := st.foldl (fun row t => (whence W b t).foldl insP row) []
abbrev Shelf := List (Bool × List Nat)
def idxS (SH : Shelf) (st : List Nat) : Option Nat := SH.findIdx? fun p => p.2 == st
structure TS where
  SH : Shelf
  pend : Shelf
  ST : List Way
/-- a letter's turn -/
def turnL (W : List Way) (st : List Nat) (here : Nat) (x : TS) (b : Bool) : Option TS :=
  let g := (goalR W b st).reverse
  if g.length ≤ 50 then (if g.all (fun k => decide (k < 100)) then (match idxS x.SH g with
    | some k => some ⟨x.SH, x.pend, x.ST ++ [(b, here, k)]⟩
    | none => some ⟨x.SH ++ [(b, g)], x.pend ++ [(b, g)], x.ST ++ [(b, here, x.SH.length)]⟩) else none) else none
def runT (W : List Way) : Nat → TS → Option TS
  | 0, _ => none
  | n + 1, x => match x.pend with
    | [] => some x
    | (_, st) :: r => match idxS x.SH st with
      | none => none
      | some here => match turnL W st here ⟨x.SH, r, x.ST⟩ false with
        | none => none
        | some y => match turnL W st here y true with
          | none => none
          | some z => runT W n z
/-- the places where a machine turned about ends -/
def endsT (SH : Shelf) : List Nat := ((SH.zipIdx.filter fun p => p.1.2.getLast? == some 0).map (·.2)).reverse
def turnT (W : List Way) (E : List Nat) : Option TS := runT W 100 ⟨[(false, E)], [(true, E)], []⟩
def okW (W : List Way) : Bool := W.all fun w => decide (w.2.1 < 100) && decide (w.2.2 < 100)

/-! the names stand for what they name -/
abbrev tblH (W : List Way) : List (List Nat × List Nat) := W.map fun w => (ltr w.1 ++ dec w.2.2, dec w.2.1)
abbrev shH (SH : Shelf) : List (List Nat × List Nat) := SH.zipIdx.map fun p => (nameS p.1, dec p.2)
theorem lo_ltr (b : Bool) : loL (ltr b) = ltr b := by cases b <;> rfl
theorem lo_up_ltr (b : Bool) : loL (upL (ltr b)) = ltr b := by cases b <;> rfl
theorem key_eq {b c : Bool} {t u : Nat} : (loL (ltr c ++ dec u) == loL (upL (ltr b) ++ dec t)) = (c == b && u == t) := by
  rw [loL_app, loL_app, lo_ltr, lo_up_ltr, loL_dec, loL_dec]
  cases c <;> cases b <;> simp [ltr]
  all_goals
    by_cases h : u = t
    · simp [h]
    · rw [beq_eq_false_iff_ne.mpr h, beq_eq_false_iff_ne.mpr fun q => h (dec_inj q)]
theorem getAll_tbl (W : List Way) (b : Bool) (t : Nat) : getAll (tblH W) (upL (ltr b) ++ dec t) = (whence W b t).map dec := by
  unfold getAll whence
  rw [List.filter_map, List.map_map, List.map_map]
  congr 1
  exact List.filter_congr fun w _ => key_eq
theorem getAll_none (W : List Way) (b : Bool) : getAll (tblH W) (upL (ltr b) ++ []) = [] := by
  unfold getAll
  rw [List.map_eq_nil_iff, List.filter_eq_nil_iff]
  intro p hp
  obtain ⟨w, _, rfl⟩ := List.mem_map.mp hp
  rw [loL_app, loL_app, lo_ltr, lo_up_ltr, loL_dec]
  intro h
  rw [beq_iff_eq] at h
  have := congrArg List.length h
  have h1 : (dec w.2.2).length ≠ 0 := fun q => dec_ne _ (List.length_eq_zero_iff.mp q)
  have h2 : ∀ b, (ltr b).length = 1 := fun b => by cases b <;> rfl
  simp only [List.length_append, h2, loL, List.map_nil, List.length_nil] at this
  omega
theorem name_eq {p q : Bool × List Nat} : (loL (nameS p) == loL (nameS q)) = (p.2 == q.2) := by
  rw [loL_name, loL_name]
  by_cases h : p.2 = q.2
  · simp [h]
  · rw [beq_eq_false_iff_ne.mpr h, beq_eq_false_iff_ne]
    intro e
    exact h (jn_inj (List.append_cancel_left e))
theorem getH_shelf_ (q : Bool × List Nat) : ∀ (SH : Shelf) (k : Nat), getH ((SH.zipIdx k).map fun p => (nameS p.1, dec p.2)) (nameS q) = ((SH.findIdx? fun p => p.2 == q.2).map (· + k)).map dec
  | [], k => rfl
  | p :: r, k => by
    rw [List.zipIdx_cons, List.map_cons, getH_cons, List.findIdx?_cons, name_eq]
    by_cases h : (p.2 == q.2) = true
    · rw [if_pos h, h]; simp
    · rw [if_neg h, getH_shelf_ q r (k + 1)]
      have : (p.2 == q.2) = false := by simpa using h
      rw [this]
      simp only [Bool.false_eq_true, if_false, Option.map_map]
      congr 1
      funext i; show dec (i + (k + 1)) = dec (i + 1 + k); congr 1; omega
theorem getH_shelf (SH : Shelf) (q : Bool × List Nat) : getH (shH SH) (nameS q) = (idxS SH q.2).map dec := by
  have := getH_shelf_ q SH 0
  simpa [idxS] using this
theorem beq0_int (x y : Int) : beqA (.int x) (.int y) = (x == y) := rfl
theorem all2_ints : ∀ (xs ys : List Int), xs.length = ys.length → all2 beqA (xs.map .int) (ys.map .int) = (xs == ys)
  | [], [], _ => rfl
  | [], _ :: _, h => by simp at h
  | _ :: _, [], h => by simp at h
  | x :: xs, y :: ys, h => by
    have ih := all2_ints xs ys (by simpa using h)
    rw [List.map_cons, List.map_cons, all2, ih, beq0_int]; rfl
theorem beqL_ints (xs ys : List Int) : beqL (xs.map .int) (ys.map .int) = (xs == ys) := by
  unfold beqL
  rw [List.length_map, List.length_map]
  by_cases h : xs.length = ys.length
  · rw [all2_ints xs ys h, h, beq_self_eq_true, Bool.true_and]
  · rw [beq_eq_false_iff_ne.mpr h, Bool.false_and, beq_eq_false_iff_ne.mpr fun q => h (by rw [q])]
theorem okA_ints : ∀ (xs ys : List Int), all2 okA (xs.map .int) (ys.map .int) = true
  | [], _ => rfl
  | _ :: _, [] => rfl
  | _ :: xs, _ :: ys => by rw [List.map_cons, List.map_cons, all2, okA_ints xs ys]; rfl
theorem insP_len (row : List Nat) (p : Nat) : (insP row p).length ≤ row.length + 1 := by
  unfold insP
  dsimp only
  split
  · omega
  · unfold insL; simp only [List.length_append, List.length_cons, List.length_take, List.length_drop]; omega
theorem foldl_insP_len : ∀ (l row : List Nat), (l.foldl insP row).length ≤ row.length + l.length
  | [], row => by simp
  | p :: l, row => by
    have h1 := foldl_insP_len l (insP row p)
    have h2 := insP_len row p
    simp only [List.foldl_cons, List.length_cons]; omega
theorem insL_map {α β : Type} (g : α → β) (xs : List α) (k : Nat) (x : α) : (insL xs k x).map g = insL (xs.map g) k (g x) := by
  unfold insL; simp [List.map_take, List.map_drop]
theorem bis_le (xs : List Int) (x : Int) : ∀ (k lo hi : Nat), lo ≤ hi → bis xs x k lo hi ≤ hi
  | 0, lo, hi, h => h
  | k + 1, lo, hi, h => by
    unfold bis
    split
    · split
      · exact bis_le xs x k _ hi (by omega)
      · exact Nat.le_trans (bis_le xs x k lo _ (by omega)) (by omega)
    · exact h
theorem okW_at {W : List Way} (h : okW W = true) {w : Way} (hw : w ∈ W) : w.2.1 < 100 ∧ w.2.2 < 100 := by
  have := List.all_eq_true.mp h w hw
  simpa using this
theorem whence_lt {W : List Way} (h : okW W = true) {b : Bool} {t p : Nat} (hp : p ∈ whence W b t) : p < 100 := by
  unfold whence at hp
  obtain ⟨w, hw, rfl⟩ := List.mem_map.mp hp
  exact (okW_at h (List.mem_filter.mp hw).1).1
theorem whence_len (W : List Way) (b : Bool) (t : Nat) : (whence W b t).length ≤ W.length := by
  unfold whence; rw [List.length_map]; exact List.length_filter_le ..
/-- what is good in a shelf -/
def okP (p : Bool × List Nat) : Prop := p.2.length ≤ 50 ∧ ∀ k ∈ p.2, k < 100
theorem okP_H {p : Bool × List Nat} (h : okP p) : okH (nameS p) = true :=
  okH_of (okL_name p) (by have := name_len (p := p) (fun k hk => by have := h.2 k hk; omega); have := h.1; omega)
theorem okH_shelf {SH : Shelf} (h : ∀ p ∈ SH, okP p) : ∀ q ∈ shH SH, okH q.1 = true := by
  intro q hq
  obtain ⟨⟨p, k⟩, hp, rfl⟩ := List.mem_map.mp hq
  exact okP_H (h p (List.mem_of_getElem? (List.mk_mem_zipIdx_iff_getElem?.mp hp)))
theorem shH_snoc (SH : Shelf) (p : Bool × List Nat) : shH (SH ++ [p]) = shH SH ++ [(nameS p, dec SH.length)] := by
  unfold shH; rw [List.zipIdx_append, List.map_append]; simp
theorem shH_len (SH : Shelf) : (shH SH).length = SH.length := by simp [shH]
theorem getT_cons (t : List Nat) (r : List (List Nat)) (ln : Nat) : getT (t :: r) [] ln = (t, r, [], ln) := rfl
theorem getT_nil (ln : Nat) : getT [] [] ln = ([], [], [], ln) := rfl
theorem nameS_ne (p : Bool × List Nat) : ([] == nameS p) = false := by
  unfold nameS; cases p.1 <;> rfl
theorem drop_name (p : Bool × List Nat) : (nameS p).drop 2 = jn [46] (p.2.map dec) := by
  unfold nameS; cases p.1 <;> rfl
theorem sum_dec : ∀ l : List Nat, (∀ k ∈ l, k < 100) → ((l.map dec).map List.length).sum ≤ 3 * l.length
  | [], _ => by simp
  | a :: r, h => by
    have h1 := dec_len (k := a) (by have := h a (by simp); omega)
    have h2 := sum_dec r fun k hk => h k (by simp [hk])
    simp only [List.map_cons, List.sum_cons, List.length_cons]; omega
theorem okP_join {p : Bool × List Nat} (h : okP p) : ((p.2.map dec).map List.length).sum + (p.2.map dec).length * 1 ≤ 1000000 := by
  have h1 := sum_dec p.2 h.2
  have h2 := h.1
  rw [List.length_map]; omega
theorem okP_jn {p : Bool × List Nat} (h : okP p) : (jn [46] (p.2.map dec)).length ≤ 200 := by
  have := jn_len p.2 fun k hk => by have := h.2 k hk; omega
  have := h.1; omega
theorem rfnd_some {x y : List Nat} {hi c : Nat} (h : pos x y hi c = true) (hc : c ≤ hi) (hn : ∀ i, c < i → ¬ pos x y hi i = true) : rfnd x y 0 hi = some c := by
  unfold rfnd
  have e : List.range' 0 (hi + 1 - 0) = List.range' 0 c ++ c :: List.range' (c + 1) (hi - c) := by
    rw [show hi + 1 - 0 = c + (1 + (hi - c)) by omega, ← List.range'_append_1 (s := 0) (m := c), Nat.zero_add, Nat.add_comm 1, List.range'_succ]
  rw [e, List.reverse_append, List.reverse_cons, List.append_assoc]
  exact find_pre h fun i hi' => by
    rw [List.mem_reverse, List.mem_range'_1] at hi'
    exact hn i (by omega)
theorem fnd_not {x : List Nat} {c : Nat} (h : c ∉ x) : fnd x [c] 0 x.length = none := fnd_none fun i _ q => by
  rw [pos_one _ _ _ _ rfl, beq_iff_eq] at q
  exact h (List.mem_of_getElem? q)
theorem stp_dot {pre suf : List Nat} (h1 : (10 : Nat) ∉ pre ++ [46] ++ suf) (h2 : (58 : Nat) ∉ pre ++ [46] ++ suf) (h3 : (46 : Nat) ∉ suf) : stp (pre ++ [46] ++ suf) = suf := by
  unfold stp
  rw [fnd_not h1]
  dsimp only
  rw [fnd_not h2]
  dsimp only
  have hr : rfnd (pre ++ [46] ++ suf) [46] 0 (pre ++ [46] ++ suf).length = some pre.length := by
    refine rfnd_some ?_ (by simp) fun i hi q => ?_
    · rw [pos_one _ _ _ _ rfl, beq_iff_eq, List.append_assoc, List.getElem?_append_right (Nat.le_refl _)]; simp
    · rw [pos_one _ _ _ _ rfl, beq_iff_eq, List.getElem?_append_right (by simp; omega)] at q
      exact h3 (List.mem_of_getElem? q)
  rw [hr]
  dsimp only
  rw [List.take_length, show pre.length + 1 = (pre ++ [46]).length by simp, List.drop_left]
theorem okL_no {x : List Nat} (h : okL x = true) {c : Nat} (hc : okC c = false) : c ∉ x := fun q => by
  have := List.all_eq_true.mp h c q
  rw [hc] at this; cases this
theorem jn_snoc : ∀ (l : List Nat) (k : Nat), ∃ pre, jn [46] ((l ++ [k]).map dec) = pre ++ dec k ∧ (l ≠ [] → ∃ p, pre = p ++ [46]) ∧ (l = [] → pre = [])
  | [], k => ⟨[], rfl, fun h => absurd rfl h, fun _ => rfl⟩
  | [a], k => ⟨dec a ++ [46], rfl, fun _ => ⟨_, rfl⟩, fun h => by cases h⟩
  | a :: b :: r, k => by
    obtain ⟨pre, e, h1, _⟩ := jn_snoc (b :: r) k
    refine ⟨dec a ++ [46] ++ pre, ?_, fun _ => ?_, fun h => by cases h⟩
    · show dec a ++ [46] ++ jn [46] (((b :: r) ++ [k]).map dec) = _
      rw [e]; simp only [List.append_assoc]
    · obtain ⟨p, rfl⟩ := h1 (by simp)
      exact ⟨dec a ++ [46] ++ p, by simp⟩
theorem stp_name (p : Bool × List Nat) : (stp (nameS p) == [48]) = (p.2.getLast? == some 0) := by
  have h0 : dec 0 = [48] := by decide
  have hok := okL_name p
  have n1 : (10 : Nat) ∉ nameS p := okL_no hok (by decide)
  have n2 : (58 : Nat) ∉ nameS p := okL_no hok (by decide)
  obtain ⟨b, st⟩ := p
  have hh : ∃ c, hdS b = [c] ++ [46] := by cases b; exact ⟨115, rfl⟩; exact ⟨83, rfl⟩
  obtain ⟨c, hc⟩ := hh
  rcases List.eq_nil_or_concat st with rfl | ⟨l, k, rfl⟩
  · have e : nameS (b, []) = [c] ++ [46] ++ [] := by unfold nameS; rw [hc]; rfl
    rw [e] at n1 n2 ⊢
    rw [stp_dot n1 n2 (by simp)]; rfl
  · rw [List.concat_eq_append] at *
    obtain ⟨pre, e1, h1, h2⟩ := jn_snoc l k
    have e : ∃ p, nameS (b, l ++ [k]) = p ++ [46] ++ dec k := by
      unfold nameS
      rw [hc, e1]
      by_cases hl : l = []
      · rw [h2 hl]; exact ⟨[c], by simp⟩
      · obtain ⟨p, rfl⟩ := h1 hl; exact ⟨[c] ++ [46] ++ p, by simp⟩
    obtain ⟨p, e⟩ := e
    rw [e] at n1 n2 ⊢
    rw [stp_dot n1 n2 (nodot k)]
    simp only [List.getLast?_append, List.getLast?_singleton, Option.some_or]
    by_cases hk : k = 0
    · subst hk; rw [h0]; rfl
    · rw [beq_eq_false_iff_ne.mpr, beq_eq_false_iff_ne.mpr]
      · intro q; exact hk (Option.some.inj q)
      · intro q; rw [← h0] at q; exact hk (dec_inj q)
abbrev endsU (SH : Shelf) (j : Nat) : List Nat := ((SH.zipIdx.take j).filter fun p => p.1.2.getLast? == some 0).map (·.2)
theorem endsU_all (SH : Shelf) : endsU SH SH.length = (endsT SH).reverse := by
  unfold endsU endsT
  rw [List.reverse_reverse, List.take_of_length_le (by simp)]
theorem shH_at {SH : Shelf} {j : Nat} {q : List Nat × List Nat} (h : (shH SH)[j]? = some q) : ∃ p, SH[j]? = some p ∧ q = (nameS p, dec j) ∧ SH.zipIdx[j]? = some (p, j) := by
  unfold shH at h
  rw [List.getElem?_map, List.getElem?_zipIdx] at h
  cases hp : SH[j]? with
  | none => rw [hp] at h; simp at h
  | some p => rw [hp] at h; simp at h; exact ⟨p, rfl, h.symm, by rw [List.getElem?_zipIdx, hp]; simp⟩
theorem endsU_succ {SH : Shelf} {j : Nat} {p : Bool × List Nat} (h : SH.zipIdx[j]? = some (p, j)) : endsU SH (j + 1) = endsU SH j ++ if p.2.getLast? == some 0 then [j] else [] := by
  unfold endsU
  rw [take_at h, List.filter_append, List.map_append]
  congr 1
  rw [List.filter_cons, List.filter_nil]
  split <;> simp
theorem endsU_len (SH : Shelf) (j : Nat) : (endsU SH j).length ≤ SH.length := by
  unfold endsU
  rw [List.length_map]
  exact Nat.le_trans (List.length_filter_le ..) (by simp; omega)
theorem turnL_some {W : List Way} {st : List Nat} {here : Nat} {x y : TS} {b : Bool} (h : turnL W st here x b = some y) : okP (b, (goalR W b st).reverse) ∧ ((∃ k, idxS x.SH (goalR W b st).reverse = some k ∧ y = ⟨x.SH, x.pend, x.ST ++ [(b, here, k)]⟩) ∨
    (idxS x.SH (goalR W b st).reverse = none ∧ y = ⟨x.SH ++ [(b, (goalR W b st).reverse)], x.pend ++ [(b, (goalR W b st).reverse)], x.ST ++ [(b, here, x.SH.length)]⟩)) := by
  unfold turnL at h
  dsimp only at h
  split at h
  · rename_i h1
    split at h
    · rename_i h2
      refine ⟨⟨h1, fun k hk => by simpa using List.all_eq_true.mp h2 k hk⟩, ?_⟩
      split at h
      · rename_i k hk
        cases h; exact .inl ⟨k, hk, rfl⟩
      · rename_i hk
        cases h; exact .inr ⟨hk, rfl⟩
    · cases h
  · cases h
structure InvT (y : TS) (B : Nat) : Prop where
  sh : ∀ p ∈ y.SH, okP p
  pe : ∀ p ∈ y.pend, okP p
  l1 : y.SH.length ≤ B
  l2 : y.pend.length ≤ B
  l3 : y.ST.length ≤ B
theorem InvT.turn {W : List Way} {st : List Nat} {here : Nat} {x y : TS} {b : Bool} {B : Nat} (i : InvT x B) (h : turnL W st here x b = some y) : InvT y (B + 1) := by
  obtain ⟨hg, ⟨k, _, rfl⟩ | ⟨_, rfl⟩⟩ := turnL_some h
  · exact ⟨i.sh, i.pe, by have := i.l1; simp only; omega, by have := i.l2; simp only; omega, by have := i.l3; simp; omega⟩
  · refine ⟨fun p hp => ?_, fun p hp => ?_, by have := i.l1; simp; omega, by have := i.l2; simp; omega, by have := i.l3; simp; omega⟩
    · rcases List.mem_append.mp hp with hp | hp
      · exact i.sh p hp
      · simp at hp; subst hp; exact hg
    · rcases List.mem_append.mp hp with hp | hp
      · exact i.pe p hp
      · simp at hp; subst hp; exact hg
theorem InvT.more {y : TS} {B C : Nat} (i : InvT y B) (h : B ≤ C) : InvT y C := ⟨i.sh, i.pe, Nat.le_trans i.l1 h, Nat.le_trans i.l2 h, Nat.le_trans i.l3 h⟩
abbrev zi (row : List Nat) : List Int := row.map fun (x : Nat) => (x : Int)
abbrev rowAt (W : List Way) (b : Bool) (st : List Nat) (j : Nat) : List Nat := (st.take j).foldl (fun row t => (whence W b t).foldl insP row) []
theorem foldl_rows_len (W : List Way) (b : Bool) : ∀ (st row : List Nat), (st.foldl (fun row t => (whence W b t).foldl insP row) row).length ≤ row.length + st.length * W.length
  | [], row => by simp
  | t :: st, row => by
    have h1 := foldl_rows_len W b st ((whence W b t).foldl insP row)
    have h2 := foldl_insP_len (whence W b t) row
    have h3 := whence_len W b t
    rw [List.foldl_cons, List.length_cons, Nat.add_mul, Nat.one_mul]; omega
theorem part_at {W : List Way} (hW : okW W = true) (hWl : W.length ≤ 18) {b : Bool} {st : List Nat} (hst : ∀ t ∈ st, t < 100) {j : Nat} {part : List Nat} (h : (partsS st)[j]? = some part) :
    ∃ vals : List Nat, getAll (tblH W) (upL (ltr b) ++ part) = vals.map dec ∧ rowAt W b st (j + 1) = vals.foldl insP (rowAt W b st j) ∧ okL part = true ∧ part.length ≤ 3 ∧ (∀ v ∈ vals, v < 100) ∧ vals.length ≤ 18 := by
  unfold partsS at h
  cases st with
  | nil =>
    simp only [List.isEmpty_nil, if_true] at h
    have : part ∈ [([] : List Nat)] := List.mem_of_getElem? h
    simp at this; subst this
    exact ⟨[], getAll_none W b, by simp [rowAt], rfl, by simp, by simp, by simp⟩
  | cons a r =>
    simp only [List.isEmpty_cons, Bool.false_eq_true, if_false] at h
    rw [List.getElem?_map] at h
    cases ht : (a :: r)[j]? with
    | none => rw [ht] at h; cases h
    | some t =>
      rw [ht] at h
      simp only [Option.map_some, Option.some.injEq] at h
      subst h
      refine ⟨whence W b t, getAll_tbl W b t, ?_, okL_dec t, dec_len (by have := hst t (List.mem_of_getElem? ht); omega), fun v hv => whence_lt hW hv, Nat.le_trans (whence_len ..) hWl⟩
      unfold rowAt
      rw [take_at ht, List.foldl_append]; rfl

-- HP

section
variable {D : WD} {n : Nat} {f : Fm} {ns : Nms} {m : Loc} {P : List Ck} {Q : AVal → Loc → List Ck → Prop}
theorem bnd_gettok (O : Ok D) : BndIn D.K 240 "get_token" 230 := by
  constructor <;> first | (rw [O.K]; rfl) | decide +kernel
/-- a step of the iterator over the words -/
theorem nx_gettok (O : Ok D) {X : LexA} (L : LexOk D X) {it b : Addr} {pend pend' : List (List Nat)} {signs signs' tok : List Nat} {ln ln' : Nat} {P1 : List Ck} {Q : Option AVal → Loc → List Ck → Prop} (hz : signs.length ≤ 100000) (hp : pend.length ≤ 100000)
    (hi : cit it b [] ∈ P) (hb : mtd b 230 X.x ∈ P) (w : Sw P (lexC X pend signs ln) (lexC X pend' signs' ln') P1) (hT : getT pend signs ln = (tok, pend', signs', ln')) (hi1 : cit it b [] ∈ P1) (hb1 : mtd b 230 X.x ∈ P1)
    (q : if ([] == tok) = true then ∃ P2, Sw P1 (cit it b []) (cie it) P2 ∧ Q none m P2 else Q (some (.str tok)) m P1) : Nx D (n + 7) f ns it m P Q := by
  obtain ⟨fd, names, body, F⟩ : ∃ fd names body, Fn D 230 fd names body := ⟨_, _, _, by wrow_raised⟩
  obtain ⟨oc, od, osl, ho⟩ := F.at'
  refine Nx.call O.hd (fn := 230) (b := b) (x := X.x) (l := []) hi hb ho ?_
  exact f_gettokC O L hz hp w hT ⟨_, rfl, hi1, hb1, q⟩
theorem f_lenS (O : Ok D) {h d l : Addr} {ps : List (List Nat × List Nat)} (hm : hdrs h d l ∈ P) (hl : prs l ps ∈ P) (hz : ps.length ≤ 1000) (q : Q (.int ps.length) m P) : Cal D (n + 2) f ns (.blt "len") [.ref h] [] [] m P Q :=
  c_lenI (.mem hm) (by rw [O.K]; rfl) (by rw [O.K]; rfl) (by omega) (f_len O hm hl hz ⟨rfl, q⟩)

theorem f_turned (O : Ok D) {X : LexA} (L : LexOk D X) {w e : Addr} {W : List Way} {E : List Nat} {ln : Nat} {x : TS} (hw : lst w (W.map wayA) ∈ P) (he : lst e ((E.map dec).map .str) ∈ P) (hW : okW W = true) (hE : okP (false, E)) (hWl : W.length ≤ 18) (hT : turnT W E = some x)
    (q : ∀ st en h d l, Q (.tup [.ref st, .ref en, .ref h]) m (lst st (x.ST.map wayA) :: lst en (((endsT x.SH).map dec).map .str) :: hdrs h d l :: prs l (shH x.SH) :: lexC X [] [] ln :: P)) :
    Cal D (n + 10) f ns (.ref 268) [.ref X.x, .ref w, .ref e] [] [] m (lexC X [] [] ln :: P) Q := by
  refine Wp.imp' ?_
  apply Wp.fn (a := 268) (mk := fun vs => ⟨vs.take 3, [].zip (vs.drop 3)⟩)
  case F => wrow_raised
  dsimp only
  refine Bd.three (x := "lexer") (y := "ways") (z := "ends") (fun u v w => rfl) ?_
  w_left
  intro f' hM
  repeat none_booked
  refine ⟨KeepOk.cls (by rw [O.K]; rfl) (by rw [O.K]; rfl), ?_⟩
  refine f_headers O fun h1 d1 l1 => ?_
  repeat none_booked
  refine ⟨KeepOk.cls (by rw [O.K]; rfl) (by rw [O.K]; rfl), ?_⟩
  refine f_headers O fun h2 d2 l2 => ?_
  repeat none_booked
  intro s
  repeat none_booked
  focus ((refine Ex.forO ?_ ?_); rotate_left; (next => (intro _; rfl)))
  repeat none_booked
  refine ⟨_, _, _, fun j m' P' => ∃ (x1 x2 x3 : Option AVal), P' = lst s [] :: prs l2 [] :: hdrs h2 d2 l2 :: prs l1 (tblH (W.take j)) :: hdrs h1 d1 l1 :: lexC X [] [] ln :: P ∧ m' = [some (.ref X.x), some (.ref w), some (.ref e), some (.ref h1), some (.ref h2), some (.ref s), x1, x2, x3, none, none, none, none, none, none, none, none, none, none, none, none, none], iter_list (xs := W.map wayA) O.hd (by simp [hw]), ⟨none, none, none, rfl, rfl⟩, ?_, ?_, ?_⟩
  · rintro j m' P' ⟨x1, x2, x3, rfl, _⟩ c hc
    simp at hc; subst hc; simp [hw]
  · rintro j w' m' P' hj ⟨x1, x2, x3, rfl, rfl⟩ Qb hQb
    obtain ⟨⟨b, hr, th⟩, hi, rfl⟩ := map_at hj
    have hlt := lt_at hi
    have hlt2 := okW_at hW (List.mem_of_getElem? hi)
    dsimp only at hlt2
    rw [show wayA (b, hr, th) = .tup [.str (ltr b), .str (dec hr), .str (dec th)] from rfl]
    have e1 := dec_len (k := hr) (by omega)
    have e2 := dec_len (k := th) (by omega)
    have e3 : (ltr b).length = 1 := by cases b <;> rfl
    repeat none_booked
    refine Gm.i (x := h1) (C := 175) (d := d1) (fs := [("_headers", .ref l1)]) (by simp) (meth172 O) rfl ?_
    repeat none_booked
    refine o_addS (by omega) ?_
    repeat none_booked
    refine f_addh O (d := d1) (l := l1) (ps := tblH (W.take j)) (by simp) (.tail (.tail (.tail .head))) (okH_of (okL_app (okL_ltr b) (okL_dec th)) (by rw [List.length_append]; omega)) (okV_of (okL_dec hr)) (by omega) (by simp; omega) ?_
    repeat none_booked
    refine ⟨_, _, _, ?_, rfl⟩
    rw [take_at hi, tblH, tblH, List.map_append]; rfl
  rintro m' P' ⟨x1, x2, x3, rfl, rfl⟩
  rw [List.length_map, List.take_length]
  repeat none_booked
  refine Gm.i (x := h2) (C := 175) (d := d2) (fs := [("_headers", .ref l2)]) (by simp) (meth165 O) rfl ?_
  repeat none_booked
  refine c_join (ls := E.map dec) (by o_readsAll) (okP_join hE) ?_
  repeat none_booked
  refine o_addS (by have := okP_jn hE; dsimp only at this; simp only [List.length_cons, List.length_nil]; omega) ?_
  repeat none_booked
  refine f_setNew O (d := d2) (l := l2) (ps := []) (x := nameS (false, E)) (y := [48]) (by simp) (by simp) (.tail .head) (okP_H hE) (by decide) (by decide) (by simp) (by simp) rfl ?_
  repeat none_booked
  refine Gm.iH (x := X.x) (C := 240) (d := X.d) (fs := [("lineno", .int ln), ("instream", .ref X.F), ("whitespace", .str ws4), ("pushback", .ref X.pb)]) (Has.pak (l := lexP X [] [] ln) (by o_readsAll) (by simp [lexP])) (meth237 O) rfl ?_
  repeat none_booked
  refine c_join (ls := E.map dec) (by o_readsAll) (okP_join hE) ?_
  repeat none_booked
  refine o_addS (by have := okP_jn hE; dsimp only at this; simp only [List.length_cons, List.length_nil]; omega) ?_
  repeat none_booked
  refine f_push O (t := nameS (true, E)) (pend := []) (signs := []) (ln := ln) (by simp) (.tail (.tail (.tail (.tail (.tail .head))))) ?_
  repeat none_booked
  focus ((refine Ex.forC ?_ ?_); rotate_left; (next => (intro _; rfl)))
  repeat none_booked
  refine Ev.boundH ?_ rfl
  repeat none_booked
  refine ⟨X.x, 240, X.d, [("lineno", .int ln), ("instream", .ref X.F), ("whitespace", .str ws4), ("pushback", .ref X.pb)], 230, rfl, Has.pak (l := lexP X ([] ++ [nameS (true, E)]) [] ln) (by o_readsAll) (by simp [lexP]), bnd_gettok O, rfl, fun bm => ?_⟩
  repeat none_booked
  refine c_iter2 (.head _) fun it => ?_
  refine ⟨it, fun k m' P' => ∃ (y : TS) (G : List Ck) (x1 x2 x3 x4 x5 x6 x7 x8 x9 x10 : Option AVal), P' = G ++ (cit it bm [] :: mtd bm 230 X.x :: lst s (y.ST.map wayA) :: prs l2 (shH y.SH) :: hdrs h2 d2 l2 :: prs l1 (tblH W) :: hdrs h1 d1 l1 :: lexC X (y.pend.map nameS) [] ln :: P) ∧
    m' = [some (.ref X.x), some (.ref w), some (.ref e), some (.ref h1), some (.ref h2), some (.ref s), x1, x2, x3, x4, x5, x6, x7, x8, x9, x10, none, none, none, none, none, none] ∧ runT W k y = some x ∧ k ≤ 100 ∧ InvT y (1 + 2 * (100 - k)), 100, rfl, .live (.head _), ⟨⟨[(false, E)], [(true, E)], []⟩, [], x1, x2, x3, none, none, none, none, none, none, none, ?_, rfl, hT, by omega, ⟨by simpa using hE, by simpa using (show okP (true, E) from hE), by simp, by simp, by simp⟩⟩, ?_⟩
  · have h0 : dec 0 = [48] := by decide
    rw [← h0]; rfl
  clear hT
  rintro k m' P' ⟨y, G, x1, x2, x3, x4, x5, x6, x7, x8, x9, x10, rfl, rfl, hrun, hk, hI⟩
  cases k with
  | zero => cases hrun
  | succ k =>
  obtain ⟨SH, pend, ST⟩ := y
  obtain ⟨hSH, hpe, hl1, hl2, hl3⟩ := id hI
  dsimp only at hSH hpe hl1 hl2 hl3
  cases pend with
  | nil =>
    simp only [runT, Option.some.injEq] at hrun
    subst hrun
    refine nx_gettok O L (it := it) (b := bm) (by simp) (by simp) (by simp) (by simp) (Sw.app (.tail (.tail (.tail (.tail (.tail (.tail (.tail .head))))))) G) (getT_nil ln) (by simp) (by simp) ?_
    refine iteT rfl ⟨_, Sw.app .head G, ?_⟩
    dsimp only at q ⊢
    repeat none_booked
    close_w
    repeat none_booked
    refine Gm.i (x := h2) (C := 175) (d := d2) (fs := [("_headers", .ref l2)]) (by simp) (meth139 O) rfl ?_
    repeat none_booked
    refine f_items O (d := d2) (l := l2) (ps := shH SH) (by simp) (by simp) (by rw [shH_len]; omega) fun li => ?_
    refine ⟨_, _, _, _, _, iter_prs O (ps := shH SH) (.head _), by wrow_close, fun acc L2 => ?_⟩
    refine CompL.opq ?_
    generalize compFm f' _ L2 = f2
    refine ⟨fun j m' P' => ∃ n1 n2 : Option AVal, P' = lst acc (((endsU SH j).map dec).map .str) :: prs li (shH SH) :: (G ++ (cie it :: mtd bm 230 X.x :: lst s (ST.map wayA) :: prs l2 (shH SH) :: hdrs h2 d2 l2 :: prs l1 (tblH W) :: hdrs h1 d1 l1 :: lexC X [] [] ln :: P)) ∧ m' = [none, n1, n2, none], ⟨none, none, rfl, rfl⟩, ?_, ?_, ?_⟩
    · rintro j m' P' ⟨n1, n2, rfl, _⟩ c hc
      simp at hc; subst hc; simp
    · rintro j w' m' P' hj ⟨n1, n2, rfl, rfl⟩ Qb hQb
      obtain ⟨q1, hq, rfl⟩ := map_at hj
      obtain ⟨p, hp, rfl, hz⟩ := shH_at hq
      have hok := hSH p (List.mem_of_getElem? hp)
      have hlen := name_len (p := p) fun t ht => by have := hok.2 t ht; omega
      have hlt := lt_at hp
      have hul := endsU_len SH j
      dsimp only at hQb ⊢
      repeat none_booked
      refine f_strip O (by have := hok.1; omega) ?_
      repeat none_booked
      rw [stp_name]
      rw [endsU_succ hz] at hQb
      by_cases hc : (p.2.getLast? == some 0) = true
      · simp only [hc, if_true] at hQb ⊢
        repeat none_booked
        refine ins_append ?_
        repeat none_booked
        refine ⟨_, _, .head, by rw [List.length_map, List.length_map]; omega, ?_⟩
        refine opn2 hQb ?_
        refine ⟨_, _, ?_, rfl⟩
        rw [List.map_append, List.map_append]; rfl
      · simp only [hc, Bool.false_eq_true, if_false, List.append_nil] at hQb ⊢
        repeat none_booked
        exact ⟨_, _, rfl, rfl⟩
    rintro m' P' ⟨n1, n2, rfl, rfl⟩
    rw [List.length_map, shH_len, endsU_all]
    repeat none_booked
    have hel : (endsT SH).length ≤ 300 := by have := endsU_len SH SH.length; rw [endsU_all, List.length_reverse] at this; omega
    refine ⟨_, _, _, .none, .none, .int, by decide, .lst (a := acc) (xs := (((endsT SH).reverse.map dec).map .str)) (.head _) (by rw [List.length_map, List.length_map, List.length_reverse]; omega) fun en => ?_⟩
    rw [slc_rev, ← List.map_reverse, ← List.map_reverse, List.reverse_reverse]
    repeat none_booked
    refine ⟨_, Imp.trans (.sub (P' := lst en _ :: lst s _ :: prs l2 _ :: hdrs h2 d2 l2 :: lexC X [] [] ln :: P) ?_) (.perm (Pk.perm (.tail .head) (Pk.perm .head (Pk.perm (.tail .head) (.refl _))))), q s en h2 d2 l2⟩
    exact .cons_cons _ (.cons _ (.cons _ (List.Sublist.trans (.cons _ (.cons _ (.cons_cons _ (.cons_cons _ (.cons_cons _ (.cons _ (.cons _ (.refl _)))))))) (List.sublist_append_right G _))))
  | cons p r =>
    obtain ⟨hd, st⟩ := p
    simp only [runT] at hrun
    cases hidx : idxS SH st with
    | none => rw [hidx] at hrun; cases hrun
    | some hr =>
    rw [hidx] at hrun
    dsimp only at hrun
    cases ht1 : turnL W st hr ⟨SH, r, ST⟩ false with
    | none => rw [ht1] at hrun; cases hrun
    | some y1 =>
    rw [ht1] at hrun
    dsimp only at hrun
    cases ht2 : turnL W st hr y1 true with
    | none => rw [ht2] at hrun; cases hrun
    | some y2 =>
    rw [ht2] at hrun
    dsimp only at hrun
    have hokp := hpe _ (List.mem_cons_self ..)
    simp only [List.length_cons] at hl2
    have hpr : ∀ p ∈ r, okP p := fun p hp => hpe p (.tail _ hp)
    refine nx_gettok O L (it := it) (b := bm) (pend := ((hd, st) :: r).map nameS) (tok := nameS (hd, st)) (pend' := r.map nameS) (signs' := []) (ln' := ln) (by simp) (by rw [List.length_map, List.length_cons]; omega) (by simp) (by simp) (Sw.app (.tail (.tail (.tail (.tail (.tail (.tail (.tail .head))))))) G) rfl (by simp) (by simp) ?_
    refine iteF (by rw [nameS_ne]; simp) ?_
    dsimp only
    refine ⟨.live (b := bm) (l := []) (by simp), ?_⟩
    repeat none_booked
    refine Gm.i (x := h2) (C := 175) (d := d2) (fs := [("_headers", .ref l2)]) (by simp) (meth122 O) rfl ?_
    repeat none_booked
    refine f_get O (d := d2) (l := l2) (ps := shH SH) (by simp) (by simp) (okP_H hokp) (okH_shelf hSH) (by rw [shH_len]; omega) ?_
    rw [getH_shelf, hidx]
    simp only [Option.map_some, optS]
    repeat none_booked
    clear hI hpe
    focus ((refine Ex.forO ?_ ?_); rotate_left; (next => (intro _; rfl)))
    repeat none_booked
    generalize hY : (fun j : Nat => match j with | 0 => (⟨SH, r, ST⟩ : TS) | 1 => y1 | _ => y2) = Y
    have hY0 : Y 0 = ⟨SH, r, ST⟩ := by subst hY; rfl
    have hY1 : Y 1 = y1 := by subst hY; rfl
    have hY2 : Y 2 = y2 := by subst hY; rfl
    clear hY
    refine ⟨[.tup [.str [97], .str [115, 46]], .tup [.str [98], .str [83, 46]]], _, _, fun j m' P' => ∃ (G : List Ck) (x1 x3 x5 x6 x7 x8 x9 x10 : Option AVal), P' = G ++ (cit it bm [] :: mtd bm 230 X.x :: lst s ((Y j).ST.map wayA) :: prs l2 (shH (Y j).SH) :: hdrs h2 d2 l2 :: prs l1 (tblH W) :: hdrs h1 d1 l1 :: lexC X ((Y j).pend.map nameS) [] ln :: P) ∧
      m' = [some (.ref X.x), some (.ref w), some (.ref e), some (.ref h1), some (.ref h2), some (.ref s), x1, some (.str (dec hr)), x3, some (.str (nameS (hd, st))), x5, x6, x7, x8, x9, x10, none, none, none, none, none, none] ∧ InvT (Y j) (1 + 2 * (100 - (k + 1)) + j), iter_tup O.hd, ⟨G, _, _, _, _, _, _, _, _, by rw [hY0], rfl, by rw [hY0]; exact ⟨hSH, hpr, hl1, by simp only; omega, hl3⟩⟩, ?_, ?_, ?_⟩
    · rintro j m' P' _ c hc; cases hc
    · clear hSH hl1 hl2 hl3 hpr
      rintro j w' m' P' hj ⟨G, x1, x3, x5, x6, x7, x8, x9, x10, rfl, rfl, hI⟩ Qb hQb
      obtain ⟨b, y, y', rfl, hy, hy', hturn⟩ : ∃ b y y', w' = .tup [.str (ltr b), .str (hdS b)] ∧ Y j = y ∧ Y (j + 1) = y' ∧ turnL W st hr y b = some y' := by
        match j, hj with
        | 0, hj => cases hj; exact ⟨false, _, _, rfl, hY0, hY1, ht1⟩
        | 1, hj => cases hj; exact ⟨true, _, _, rfl, hY1, hY2, ht2⟩
        | j + 2, hj => simp at hj
      rw [hy] at hI ⊢
      have hI2 := hI.turn hturn
      obtain ⟨SH, pe, ST⟩ := y
      dsimp only at hI ⊢
      have hj2 : j < 2 := lt_at hj
      clear hy ht1 ht2 hY0 hY1 hY2 hrun hj
      generalize hB : G ++ (cit it bm [] :: mtd bm 230 X.x :: lst s (ST.map wayA) :: prs l2 (shH SH) :: hdrs h2 d2 l2 :: prs l1 (tblH W) :: hdrs h1 d1 l1 :: lexC X (pe.map nameS) [] ln :: P) = B
      have hB1 : hdrs h1 d1 l1 ∈ B := by rw [← hB]; simp
      have hB2 : prs l1 (tblH W) ∈ B := by rw [← hB]; simp
      repeat none_booked
      intro rw_
      repeat none_booked
      focus ((refine Ex.forO ?_ ?_); rotate_left; (next => (intro _; rfl)))
      repeat none_booked
      have hnl := name_len (p := (hd, st)) fun t ht => by have := hokp.2 t ht; omega
      have hsl := hokp.1
      dsimp only at hnl hsl
      refine ⟨_, _, _, .int, .none, .none, by simp, .str (by omega) ?_⟩
      rw [show slc (nameS (hd, st)) (some 2) none none = jn [46] (st.map dec) from (slc_from _ 2).trans (drop_name _)]
      repeat none_booked
      refine c_split (by decide) (by decide) (by have := okP_jn hokp; dsimp only at this; omega) fun a2 => ?_
      rw [spl_jn]
      refine ⟨_, _, _, fun j3 m' P' => ∃ (G' : List Ck) (x3 x7 x8 : Option AVal), P' = G' ++ (lst a2 ((partsS st).map .str) :: lst rw_ ((zi (rowAt W b st j3)).map .int) :: B) ∧
        m' = [some (.ref X.x), some (.ref w), some (.ref e), some (.ref h1), some (.ref h2), some (.ref s), some (.str (ltr b)), some (.str (dec hr)), x3, some (.str (nameS (hd, st))), some (.str (hdS b)), some (.ref rw_), x7, x8, x9, x10, none, none, none, none, none, none], iter_list (xs := (partsS st).map .str) O.hd (.head _), ⟨[], _, _, _, rfl, rfl⟩, ?_, ?_, ?_⟩
      · rintro j m' P' ⟨G', x3, x7, x8, rfl, _⟩ c hc
        simp at hc; subst hc; simp
      · rintro j3 w' m' P' hj ⟨G', x3, x7, x8, rfl, rfl⟩ Qb hQb
        obtain ⟨part, hpa, rfl⟩ := map_at hj
        obtain ⟨vals, hga, hrow, hok, hpl, hv, hvl⟩ := part_at (st := st) hW hWl hokp.2 hpa (b := b)
        have hj3 := lt_at hpa
        have hpl2 : (partsS st).length ≤ 51 := by unfold partsS; split <;> simp <;> omega
        have hrl : (rowAt W b st j3).length ≤ 900 := by
          have h := foldl_rows_len W b (st.take j3) []
          have h2 : (st.take j3).length * W.length ≤ 50 * 18 := Nat.mul_le_mul (by simp; omega) hWl
          unfold rowAt; simp only [List.length_nil] at h; omega
        dsimp only at hQb
        rw [hrow] at hQb
        generalize rowAt W b st j3 = row0 at hrl hQb ⊢
        repeat none_booked
        focus ((refine Ex.forO ?_ ?_); rotate_left; (next => (intro _; rfl)))
        repeat none_booked
        refine Gm.i (x := h1) (C := 175) (d := d1) (fs := [("_headers", .ref l1)]) (by simp [hB1]) (meth114 O) rfl ?_
        repeat none_booked
        refine c_upper (by cases b <;> decide) (by cases b <;> decide) ?_
        repeat none_booked
        have hul : (upL (ltr b)).length = 1 := by cases b <;> rfl
        refine o_addS (by omega) ?_
        repeat none_booked
        refine f_getall O (d := d1) (l := l1) (ps := tblH W) (x := upL (ltr b) ++ part) (by simp [hB1]) (by simp [hB2]) (okH_of (okL_app (by cases b <;> decide) hok) (by rw [List.length_append]; omega)) (fun q hq => ?_) (by simp; omega) fun a3 => ?_
        · obtain ⟨v, hv, rfl⟩ := List.mem_map.mp hq
          have h1 := dec_len (k := v.2.2) (by have := (okW_at hW hv).2; omega)
          have h2 : (ltr v.1).length = 1 := by cases v.1 <;> rfl
          exact okH_of (okL_app (okL_ltr _) (okL_dec _)) (by rw [List.length_append]; omega)
        rw [hga]
        clear hga
        refine ⟨_, _, _, fun j4 m' P' => ∃ (G2 : List Ck) (x7 x8 : Option AVal), P' = G2 ++ (lst a3 ((vals.map dec).map .str) :: (G' ++ (lst a2 ((partsS st).map .str) :: lst rw_ ((zi ((vals.take j4).foldl insP row0)).map .int) :: B))) ∧
          m' = [some (.ref X.x), some (.ref w), some (.ref e), some (.ref h1), some (.ref h2), some (.ref s), some (.str (ltr b)), some (.str (dec hr)), some (.str part), some (.str (nameS (hd, st))), some (.str (hdS b)), some (.ref rw_), x7, x8, x9, x10, none, none, none, none, none, none], iter_list (xs := (vals.map dec).map .str) O.hd (.head _), ⟨[], _, _, rfl, rfl⟩, ?_, ?_, ?_⟩
        · rintro j m' P' ⟨G2, x7, x8, rfl, _⟩ c hc
          simp at hc; subst hc; simp
        · rintro j4 w' m' P' hj ⟨G2, x7, x8, rfl, rfl⟩ Qb hQb
          obtain ⟨dv, hdv, rfl⟩ := map_at hj
          rw [List.getElem?_map] at hdv
          cases hvj : vals[j4]? with
          | none => rw [hvj] at hdv; cases hdv
          | some v =>
          rw [hvj] at hdv
          simp only [Option.map_some, Option.some.injEq] at hdv
          subst hdv
          have hvlt := hv v (List.mem_of_getElem? hvj)
          have hj4 := lt_at hvj
          dsimp only at hQb
          rw [take_at hvj, List.foldl_append] at hQb
          simp only [List.foldl_cons, List.foldl_nil] at hQb
          have hrl2 : ((vals.take j4).foldl insP row0).length ≤ 920 := by
            have := foldl_insP_len (vals.take j4) row0
            simp at this; omega
          generalize (vals.take j4).foldl insP row0 = row at hrl2 hQb ⊢
          repeat none_booked
          refine c_intS (by omega) ?_
          repeat none_booked
          refine f_bisect O (xs := zi row) (by simp) (by simp; omega) ?_
          repeat none_booked
          rw [List.length_map]
          generalize hk : bis (zi row) (v : Int) row.length 0 row.length = kk
          have hkl : kk ≤ row.length := by rw [← hk]; exact bis_le _ _ _ _ _ (Nat.zero_le _)
          repeat none_booked
          have es : slc ((zi row).map AVal.int) (some (kk : Int)) (some ((kk : Int) + 1)) none = (zi ((row.take (kk + 1)).drop kk)).map .int := by
            rw [show (kk : Int) + 1 = ((kk + 1 : Nat) : Int) from rfl, slc_cut]
            simp [List.map_take, List.map_drop]
          refine ⟨_, _, _, .int, .int, .none, by simp, .lst (a := rw_) (xs := (zi row).map .int) (by simp) (by simp; omega) fun sb => ?_⟩
          rw [es]
          repeat none_booked
          refine c_intS (by omega) ?_
          repeat none_booked
          intro pb
          refine o_neL (xs := (zi ((row.take (kk + 1)).drop kk)).map .int) (ys := [.int (v : Nat)]) (by simp) (by simp) (fun _ => okA_ints _ [(v : Int)]) ?_
          rw [show beqL ((zi ((row.take (kk + 1)).drop kk)).map .int) [.int (v : Nat)] = (zi ((row.take (kk + 1)).drop kk) == [(v : Int)]) from beqL_ints _ [(v : Int)]]
          refine ⟨_, rfl, ?_⟩
          by_cases hc : (zi ((row.take (kk + 1)).drop kk) == [(v : Int)]) = true
          · have hins : insP row v = row := by unfold insP; rw [hk]; exact if_pos hc
            refine iteF (by rw [hc]; simp) ?_
            repeat none_booked
            rw [hins]
            exact ⟨[lst pb [.int (v : Nat)], lst sb ((zi ((row.take (kk + 1)).drop kk)).map .int)] ++ G2, _, _, rfl, rfl⟩
          · have hins : insP row v = insL row kk v := by unfold insP; rw [hk]; exact if_neg hc
            refine iteT (by simpa using hc) ?_
            repeat none_booked
            refine g_insert (xs := (zi row).map .int) (by simp) ?_
            repeat none_booked
            refine c_intS (by omega) ?_
            repeat none_booked
            refine c_insert_ (k := kk) (xs := (zi row).map .int) rfl (by simpa using hkl) (.tail (.tail (Sw.app (.tail (Sw.app (.tail .head) G')) G2))) (by simp; omega) ?_
            repeat none_booked
            rw [hins]
            refine ⟨[lst pb [.int (v : Nat)], lst sb ((zi ((row.take (kk + 1)).drop kk)).map .int)] ++ G2, _, _, ?_, rfl⟩
            rw [show (zi (insL row kk v)).map AVal.int = insL ((zi row).map AVal.int) kk (.int (v : Nat)) from by rw [zi, insL_map, insL_map]]; rfl
        · rintro m' P' ⟨G2, x7, x8, rfl, rfl⟩
          rw [List.length_map, List.length_map, List.take_length]
          repeat none_booked
          refine ⟨G2 ++ (lst a3 ((vals.map dec).map .str) :: G'), _, _, _, ?_, rfl⟩
          simp
      · rintro m' P' ⟨G', x3, x7, x8, rfl, rfl⟩
        have hfull : rowAt W b st ((partsS st).map AVal.str).length = goalR W b st := by
          unfold rowAt goalR
          rw [List.take_of_length_le]
          rw [List.length_map]; unfold partsS; cases st <;> simp
        rw [hfull]
        obtain ⟨hgo, hgc⟩ := turnL_some hturn
        dsimp only at hgc
        generalize goalR W b st = row at hgo hgc
        have hrl : row.length ≤ 50 := by have := hgo.1; simpa using this
        have hrv : ∀ t ∈ row.reverse, t < 100 := hgo.2
        repeat none_booked
        close_w
        repeat none_booked
        refine ⟨_, _, _, .none, .none, .int, by decide, .lst (a := rw_) (xs := (zi row).map .int) (by simp) (by simp; omega) fun sr => ?_⟩
        rw [slc_rev, ← List.map_reverse, ← List.map_reverse]
        refine ⟨_, _, _, _, _, iter_list (xs := (zi row.reverse).map .int) O.hd (.head _), by wrow_close, fun acc L2 => ?_⟩
        refine CompL.opq ?_
        generalize compFm f' _ L2 = f2
        refine ⟨fun j m' P' => ∃ n1 : Option AVal, P' = lst acc (((row.reverse.take j).map dec).map .str) :: lst sr ((zi row.reverse).map .int) :: (G' ++ (lst a2 ((partsS st).map .str) :: lst rw_ ((zi row).map .int) :: B)) ∧ m' = [none, n1, none], ⟨none, rfl, rfl⟩, ?_, ?_, ?_⟩
        · rintro j m' P' ⟨n1, rfl, _⟩ c hc
          simp at hc; subst hc; simp
        · rintro j w' m' P' hj ⟨n1, rfl, rfl⟩ Qb hQb
          obtain ⟨pi, hpi, rfl⟩ := map_at hj
          rw [List.getElem?_map] at hpi
          cases hpj : row.reverse[j]? with
          | none => rw [hpj] at hpi; cases hpi
          | some pl =>
          rw [hpj] at hpi
          simp only [Option.map_some, Option.some.injEq] at hpi
          subst hpi
          have h1 := hrv pl (List.mem_of_getElem? hpj)
          have h2 := lt_at hpj
          simp only [List.length_reverse] at h2
          dsimp only at hQb
          rw [take_at hpj] at hQb
          repeat none_booked
          refine ins_append ?_
          repeat none_booked
          refine c_strI (by omega) ?_
          refine ⟨_, _, .head, by simp; omega, ?_⟩
          refine opn2 hQb ?_
          refine ⟨_, ?_, rfl⟩
          simp only [List.map_append]; rfl
        rintro m' P' ⟨n1, rfl, rfl⟩
        rw [List.length_map, List.length_map, List.take_length]
        repeat none_booked
        refine c_join (ls := row.reverse.map dec) (.head _) (okP_join hgo) ?_
        repeat none_booked
        refine o_addS (by have h1 := okP_jn hgo; have h2 : (hdS b).length = 2 := by cases b <;> rfl
                          dsimp only at h1; omega) ?_
        rw [show hdS b ++ jn [46] (row.reverse.map dec) = nameS (b, row.reverse) from rfl]
        subst hB
        have hG3 : ∃ G3, lst acc ((row.reverse.map dec).map .str) :: lst sr ((zi row.reverse).map .int) :: (G' ++ (lst a2 ((partsS st).map .str) :: lst rw_ ((zi row).map .int) :: (G ++ (cit it bm [] :: mtd bm 230 X.x :: lst s (ST.map wayA) :: prs l2 (shH SH) :: hdrs h2 d2 l2 :: prs l1 (tblH W) :: hdrs h1 d1 l1 :: lexC X (pe.map nameS) [] ln :: P)))) =
            G3 ++ (cit it bm [] :: mtd bm 230 X.x :: lst s (ST.map wayA) :: prs l2 (shH SH) :: hdrs h2 d2 l2 :: prs l1 (tblH W) :: hdrs h1 d1 l1 :: lexC X (pe.map nameS) [] ln :: P) :=
          ⟨[lst acc ((row.reverse.map dec).map .str), lst sr ((zi row.reverse).map .int)] ++ G' ++ [lst a2 ((partsS st).map .str), lst rw_ ((zi row).map .int)] ++ G, by simp⟩
        obtain ⟨G3, hG3⟩ := hG3
        rw [hG3]
        clear hG3 hB1 hB2 hrv
        have hSHl := hI.l1
        have hpel := hI.l2
        have hSTl := hI.l3
        dsimp only at hSHl hpel hSTl
        have hkb : 1 + 2 * (100 - (k + 1)) + j ≤ 300 := by omega
        repeat none_booked
        refine f_lenS O (d := d2) (l := l2) (ps := shH SH) (by simp) (by simp) (by rw [shH_len]; omega) ?_
        rw [shH_len]
        repeat none_booked
        refine g_append (xs := ST.map wayA) (by simp) ?_
        repeat none_booked
        refine Gm.i (x := h2) (C := 175) (d := d2) (fs := [("_headers", .ref l2)]) (by simp) (meth165 O) rfl ?_
        repeat none_booked
        refine c_strI (by omega) ?_
        repeat none_booked
        rcases hgc with ⟨kx, hkx, rfl⟩ | ⟨hkx, rfl⟩
        · refine f_setOld O (d := d2) (l := l2) (ps := shH SH) (v := dec kx) (by simp) (by simp) (okP_H hgo) (okH_shelf hI.sh) (by rw [shH_len]; omega) (by rw [getH_shelf, hkx]; rfl) ?_
          repeat none_booked
          refine c_appendL (b := wayA (b, hr, kx)) (xs := ST.map wayA) (Sw.app (.tail (.tail .head)) G3) (by simp; omega) ?_
          repeat none_booked
          refine f_lenS O (d := d2) (l := l2) (ps := shH SH) (by simp) (by simp) (by rw [shH_len]; omega) ?_
          rw [shH_len]
          repeat none_booked
          refine iteF (by simp) ?_
          repeat none_booked
          refine ⟨G3, _, _, _, _, _, _, _, _, ?_, rfl, ?_⟩
          · rw [hy', List.map_append]; rfl
          · rw [hy']; exact hI2
        · refine f_setNew O (d := d2) (l := l2) (ps := shH SH) (by simp) (by simp) (Sw.app (.tail (.tail (.tail .head))) G3) (okP_H hgo) (okV_of (okL_dec SH.length)) (by have := dec_len (k := SH.length) (by omega); omega) (okH_shelf hI.sh) (by rw [shH_len]; omega) (by rw [getH_shelf, hkx]; rfl) ?_
          repeat none_booked
          refine c_appendL (b := wayA (b, hr, SH.length)) (xs := ST.map wayA) (Sw.app (.tail (.tail .head)) G3) (by simp; omega) ?_
          repeat none_booked
          refine f_lenS O (d := d2) (l := l2) (ps := shH SH ++ [(nameS (b, row.reverse), dec SH.length)]) (by simp) (by simp) (by simp; omega) ?_
          rw [List.length_append, shH_len]
          repeat none_booked
          refine iteT (by simp; omega) ?_
          repeat none_booked
          refine Gm.iH (x := X.x) (C := 240) (d := X.d) (fs := [("lineno", .int ln), ("instream", .ref X.F), ("whitespace", .str ws4), ("pushback", .ref X.pb)]) (Has.pak (l := lexP X (pe.map nameS) [] ln) (by simp) (by simp [lexP])) (meth237 O) rfl ?_
          repeat none_booked
          refine f_push O (t := nameS (b, row.reverse)) (pend := pe.map nameS) (signs := []) (ln := ln) (by simp; omega) (Sw.app (.tail (.tail (.tail (.tail (.tail (.tail (.tail .head))))))) G3) ?_
          repeat none_booked
          refine ⟨G3, _, _, _, _, _, _, _, _, ?_, rfl, ?_⟩
          · rw [hy']; simp only [List.map_append, shH_snoc]; rfl
          · rw [hy']; exact hI2
    · rintro m' P' ⟨G, x1, x3, x5, x6, x7, x8, x9, x10, rfl, rfl, hI⟩
      rw [show [AVal.tup [.str [97], .str [115, 46]], .tup [.str [98], .str [83, 46]]].length = 2 from rfl, hY2] at hI ⊢
      repeat none_booked
      exact ⟨k, by omega, y2, G, _, _, _, _, _, _, _, _, _, _, rfl, rfl, hrun, by omega, hI.more (by omega)⟩
end

-- HD

/-- the words behind the first, each as far ahead as may be -/
def ellL (got : List Nat) (hi : Nat) : List (List Nat) → Nat → Bool
  | [], _ => true
  | w :: r, lo => match fnd got w lo hi with
    | none => false
    | some k => ellL got hi r (k + w.length)
def ellB (got : List Nat) (ws : List (List Nat)) (lo : Nat) : Bool :=
  let w := ws.getLastD []
  if w.isEmpty then (if lo > got.length then false else ellL got got.length ws lo)
  else if endsL got w then (if lo > got.length - w.length then false else ellL got (got.length - w.length) ws.dropLast lo) else false
def ellA (got : List Nat) (ws : List (List Nat)) : Bool :=
  let w := ws.headD []
  if w.isEmpty then ellB got ws 0 else if startsL got w then ellB got ws.tail w.length else false
def ell (want got : List Nat) : Bool :=
  if (fnd want [46, 46, 46] 0 want.length).isSome then ellA got (spl want [46, 46, 46]) else want == got

section
variable {D : WD} {n : Nat} {f : Fm} {ns : Nms} {m : Loc} {P : List Ck} {Q : AVal → Loc → List Ck → Prop}

theorem f_ell (O : Ok D) {x y : List Nat} (hz : x.length ≤ 1000) (hy : y.length ≤ 1000) (q : Q (.bool (ell x y)) m P) : Cal D (n + 1) f ns (.ref 195) [.str x, .str y] [] [] m P Q := by
  refine Wp.sub' ?_
  apply Wp.fn (a := 195) (mk := fun vs => ⟨vs.take 2, [].zip (vs.drop 2)⟩)
  case F => wrow_raised
  dsimp only
  refine Bd.two (x := "want") (y := "got") (fun v w => rfl) ?_
  w_left
  intro f' hM
  repeat none_booked
  simp only [cs_dots]
  by_cases hin : (fnd x [46, 46, 46] 0 x.length).isSome = true
  case neg =>
    refine iteT (by simpa using hin) ?_
    repeat none_booked
    refine ⟨P, List.Sublist.refl _, ?_⟩
    have e : ell x y = (x == y) := by unfold ell; rw [if_neg hin]
    rw [e] at q
    exact q
  refine iteF (by simp [hin]) ?_
  have hR : ell x y = ellA y (spl x [46, 46, 46]) := by unfold ell; rw [if_pos hin]
  generalize ell x y = R at q hR
  have hws := spl_two hin
  have hsm : ∀ w ∈ spl x [46, 46, 46], w.length ≤ 1000 := fun w hw => Nat.le_trans (splF_small x _ _ _ w hw) hz
  have hwl : (spl x [46, 46, 46]).length ≤ 1002 := Nat.le_trans (splF_length ..) (by omega)
  repeat none_booked
  simp only [cs_dots]
  refine c_split (by decide) (by decide) (by omega) fun a => ?_
  generalize spl x [46, 46, 46] = ws at *
  repeat none_booked
  w_means
  next => simp; omega
  repeat none_booked
  refine ⟨by simp; omega, ?_⟩
  repeat none_booked
  w_means
  next => omega
  repeat none_booked
  obtain ⟨w0, ws', rfl⟩ : ∃ w0 ws', ws = w0 :: ws' := by
    cases ws with
    | nil => simp at hws
    | cons a b => exact ⟨a, b, rfl⟩
  have hw0 := hsm w0 (List.mem_cons_self ..)
  have hsm' : ∀ w ∈ ws', w.length ≤ 1000 := fun w hw => hsm w (List.mem_cons_of_mem _ hw)
  simp only [List.length_cons] at hws hwl
  refine o_itemL (j := 0) (x := .str w0) (by o_readsAll) (by simp [seqIndex?]) rfl (by omega) (by omega) ?_
  repeat none_booked
  refine t_str (by omega) ?_
  refine iteCutJ (fun m' P' => ∃ (ws : List (List Nat)) (lo : Nat), m' = [some (.str x), some (.str y), some (.ref a), some (.int lo), some (.int y.length), some (.str w0), none, none] ∧ P' = lst a (ws.map .str) :: P ∧ R = ellB y ws lo ∧ 1 ≤ ws.length ∧ ws.length ≤ 1002 ∧ ∀ w ∈ ws, w.length ≤ 1000) (fun hc => ?_) (fun hc => ?_) ?_
  · have he : w0.isEmpty = false := by simpa using hc
    unfold ellA at hR
    simp only [List.headD_cons, he, List.tail_cons] at hR
    repeat none_booked
    refine c_startswith ?_
    repeat none_booked
    by_cases hs : startsL y w0 = true
    · simp only [hs, if_true, Bool.false_eq_true, if_false] at hR
      refine iteT hs ?_
      repeat none_booked
      w_means
      next => omega
      repeat none_booked
      refine ⟨a, _, 0, 0, lst a (ws'.map .str) :: P, rfl, rfl, by simp [seqIndex?], .head, by decide, by simp; omega, ?_⟩
      repeat none_booked
      exact ⟨ws', w0.length, rfl, rfl, hR, by omega, by omega, hsm'⟩
    · simp only [hs, if_false, Bool.false_eq_true] at hR
      refine iteF hs ?_
      repeat none_booked
      refine ⟨P, List.sublist_cons_self .., ?_⟩
      rw [hR] at q
      exact q
  · have he : w0.isEmpty = true := by simpa using hc
    unfold ellA at hR
    simp only [List.headD_cons, he, if_true] at hR
    repeat none_booked
    exact ⟨w0 :: ws', 0, rfl, rfl, hR, by simp, by simpa using hwl, hsm⟩
  clear hR hsm hsm' hws hwl
  rintro m' P' ⟨ws, lo, rfl, rfl, hR, hws, hwl, hsm⟩
  repeat none_booked
  obtain ⟨wi, wl, rfl⟩ : ∃ wi wl, ws = wi ++ [wl] := by
    have hne : ws ≠ [] := by intro e; simp [e] at hws
    exact ⟨ws.dropLast, ws.getLast hne, (List.dropLast_concat_getLast hne).symm⟩
  have hwl1 := hsm wl (by simp)
  simp only [List.length_append, List.length_singleton] at hws hwl
  refine o_itemL (j := wi.length) (x := .str wl) (by o_readsAll) (by simp [seqIndex?]; omega) (by simp) (by omega) (by omega) ?_
  repeat none_booked
  refine t_str (by omega) ?_
  refine iteCutJ (fun m' P' => ∃ (ws : List (List Nat)) (hi : Nat) (v : AVal), m' = [some (.str x), some (.str y), some (.ref a), some (.int lo), some (.int hi), some v, none, none] ∧ P' = lst a (ws.map .str) :: P ∧ R = (if lo > hi then false else ellL y hi ws lo) ∧ ws.length ≤ 1002 ∧ hi ≤ y.length ∧ ∀ w ∈ ws, w.length ≤ 1000) (fun hc => ?_) (fun hc => ?_) ?_
  · have he : wl.isEmpty = false := by simpa using hc
    unfold ellB at hR
    simp only [List.getLastD_concat, he, List.dropLast_concat] at hR
    repeat none_booked
    refine c_endswith ?_
    repeat none_booked
    by_cases hs : endsL y wl = true
    · simp only [hs, if_true, Bool.false_eq_true, if_false] at hR
      have hle : wl.length ≤ y.length := by unfold endsL at hs; simp at hs; exact hs.1
      refine iteT hs ?_
      repeat none_booked
      w_means
      next => omega
      repeat none_booked
      have e : (y.length : Int) - (wl.length : Int) = ((y.length - wl.length : Nat) : Int) := by omega
      simp only [e]
      refine ⟨_, by one_sign, ?_⟩
      repeat none_booked
      have hsi : seqIndex? (-1) ((wi ++ [wl]).map AVal.str).length = some wi.length := by simp [seqIndex?]; omega
      refine ⟨a, (wi ++ [wl]).map AVal.str, -1, wi.length, lst a (wi.map .str) :: P, rfl, rfl, hsi, ?_, by decide, by simp; omega, ?_⟩
      · have : (List.map AVal.str (wi ++ [wl])).eraseIdx wi.length = wi.map AVal.str := by simp [List.eraseIdx_append_of_length_le]
        rw [this]; exact .head
      repeat none_booked
      exact ⟨wi, y.length - wl.length, _, rfl, rfl, hR, by omega, by omega, fun w hw => hsm w (by simp [hw])⟩
    · simp only [hs, if_false, Bool.false_eq_true] at hR
      refine iteF hs ?_
      repeat none_booked
      refine ⟨P, List.sublist_cons_self .., ?_⟩
      rw [hR] at q
      exact q
  · have he : wl.isEmpty = true := by simpa using hc
    unfold ellB at hR
    simp only [List.getLastD_concat, he, if_true] at hR
    repeat none_booked
    exact ⟨wi ++ [wl], y.length, _, rfl, rfl, hR, by simp; omega, by omega, hsm⟩
  clear hR hsm hws hwl hwl1
  rintro m' P' ⟨ws, hi, v, rfl, rfl, hR, hwl, hhi, hsm⟩
  repeat none_booked
  by_cases hlo : lo > hi
  · rw [if_pos hlo] at hR
    refine iteT (by simp; omega) ?_
    repeat none_booked
    refine ⟨P, List.sublist_cons_self .., ?_⟩
    rw [hR] at q
    exact q
  rw [if_neg hlo] at hR
  refine iteF (by simp; omega) ?_
  repeat none_booked
  focus ((refine Ex.for_ ?_ ?_); rotate_left; (next => (intro _; rfl)))
  repeat none_booked
  refine ⟨_, _, _, fun j m' P' => P' = lst a (ws.map .str) :: P ∧ ∃ (lo : Nat) (v : AVal), m' = [some (.str x), some (.str y), some (.ref a), some (.int lo), some (.int hi), some v, none, none] ∧ R = ellL y hi (ws.drop j) lo, iter_list O.hd (by o_readsAll), ⟨rfl, lo, v, rfl, hR⟩, ?_, ?_, ?_⟩
  · rintro j m' P' ⟨rfl, _⟩ c hc
    simp at hc; subst hc; simp
  · rintro j w' m' P' hj ⟨rfl, lo, v, rfl, hR⟩
    rw [List.getElem?_map] at hj
    cases hw : ws[j]? with
    | none => rw [hw] at hj; simp at hj
    | some w =>
      rw [hw] at hj
      simp only [Option.map_some, Option.some.injEq] at hj
      subst hj
      have hwm : w ∈ ws := List.mem_of_getElem? hw
      have hd : ws.drop j = w :: ws.drop (j + 1) := by
        obtain ⟨h1, h2⟩ := List.getElem?_eq_some_iff.mp hw
        rw [List.drop_eq_getElem_cons h1, h2]
      have hws := hsm w hwm
      rw [hd] at hR
      simp only [ellL] at hR
      repeat none_booked
      refine c_find4 hhi ?_
      repeat none_booked
      cases hf : fnd y w lo hi with
      | none =>
        rw [hf] at hR
        refine iteT (by simp [toI]) ?_
        repeat none_booked
        refine ⟨P, List.sublist_cons_self .., ?_⟩
        have hR : R = false := hR
        rw [hR] at q
        exact q
      | some k =>
        rw [hf] at hR
        have hR : R = ellL y hi (ws.drop (j + 1)) (k + w.length) := hR
        refine iteF (fun h => absurd (of_decide_eq_true h) (by show ¬ ((k : Int) < 0); omega)) ?_
        repeat none_booked
        w_means
        next => omega
        repeat none_booked
        refine ⟨_, by one_sign, ?_⟩
        repeat none_booked
        all_goals exact hR
  · rintro m' P' ⟨rfl, lo, v, rfl, hR⟩
    rw [List.length_map, List.drop_length] at hR
    have hR : R = true := hR
    repeat none_booked
    refine ⟨P, List.sublist_cons_self .., ?_⟩
    rw [hR] at q
    exact q
end

-- HQ

def bitS (r : List Bool) : List Nat := r.map fun b => if b then 49 else 48
/-- what one place's text is taken with, for each place of the other machine -/
def rowP (pat h : List Nat) (T : List (Nat × List Nat)) (st : List Nat) : List Nat → Option (List Bool)
  | [] => some []
  | p :: r => match T.lookup p with
    | none => none
    | some t => if h.length + t.length ≤ 1000 ∧ ell pat (h ++ t.reverse) = st.contains p then (match rowP pat h T st r with | none => none | some l => some (st.contains p :: l)) else none
def rowsP (pat : List Nat) (H T : List (Nat × List Nat)) (n1 : Nat) : List (List Nat × Nat) → Option (List (List Bool))
  | [] => some []
  | (st, k) :: r => match H.lookup k with
    | none => none
    | some h => match rowP pat h T st (List.range n1) with
      | none => none
      | some l => match rowsP pat H T n1 r with
        | none => none
        | some ls => some (l :: ls)
theorem parts_any (st : List Nat) (p : Nat) : (partsS st).any (· == dec p) = st.contains p := by
  unfold partsS
  cases st with
  | nil =>
    have := dec_ne p
    simp
    first | exact this | exact fun h => this h.symm
  | cons a r =>
    simp only [List.isEmpty_cons, Bool.false_eq_true, if_false, List.any_map]
    rw [List.contains_eq_any_beq]
    congr 1
    funext x
    simp only [Function.comp]
    by_cases h : x = p
    · subst h; simp
    · rw [beq_eq_false_iff_ne.mpr fun q => h (dec_inj q), beq_eq_false_iff_ne.mpr (Ne.symm h)]

section
variable {D : WD} {n : Nat} {f : Fm} {ns : Nms} {m : Loc} {P : List Ck} {Q : AVal → Loc → List Ck → Prop}
theorem f_rows (O : Ok D) {pat : List Nat} {st1 en1 h1 d1 l1 st2 en2 h2 d2 l2 : Addr} {x1 x2 : TS} {T1 T2 : List (Nat × List Nat)} {R : List (List Bool)} (hp : pat.length ≤ 1000)
    (hs1 : lst st1 (x1.ST.map wayA) ∈ P) (hh1 : hdrs h1 d1 l1 ∈ P) (hl1 : prs l1 (shH x1.SH) ∈ P) (hs2 : lst st2 (x2.ST.map wayA) ∈ P) (hh2 : hdrs h2 d2 l2 ∈ P) (hl2 : prs l2 (shH x2.SH) ∈ P)
    (hz1 : x1.ST.length ≤ 500) (hz2 : x2.ST.length ≤ 500) (hz3 : x1.SH.length ≤ 500) (hz4 : x2.SH.length ≤ 500) (hok : ∀ p ∈ x2.SH, okP p)
    (hT1 : txts x1.ST [(0, [])] = some T1) (hT2 : txts x2.ST [(0, [])] = some T2) (hR : rowsP pat T2 T1 x1.SH.length (x2.SH.map (·.2)).zipIdx = some R)
    (q : ∀ a, Q (.ref a) m (lst a ((R.map bitS).map .str) :: P)) :
    Cal D (n + 5) f ns (.ref 289) [.str pat, .tup [.ref st1, .ref en1, .ref h1], .tup [.ref st2, .ref en2, .ref h2]] [] [] m P Q := by
  refine Wp.sub' ?_
  apply Wp.fn (a := 289) (mk := fun vs => ⟨vs.take 3, [].zip (vs.drop 3)⟩)
  case F => wrow_raised
  dsimp only
  refine Bd.three (x := "pattern") (y := "once") (z := "twice") (fun u v w => rfl) ?_
  w_left
  intro f' hM
  repeat none_booked
  refine o_itemT (j := 0) rfl rfl (by decide) (by decide) ?_
  repeat none_booked
  refine f_texts O (W := x2.ST) hs2 (by omega) hT2 fun dH => ?_
  repeat none_booked
  refine o_itemT (j := 0) rfl rfl (by decide) (by decide) ?_
  repeat none_booked
  refine f_texts O (W := x1.ST) (.tail _ hs1) (by omega) hT1 fun dT => ?_
  repeat none_booked
  intro rs
  repeat none_booked
  focus ((refine Ex.for_ ?_ ?_); rotate_left; (next => (intro _; rfl)))
  repeat none_booked
  refine o_itemT (j := 2) rfl rfl (by decide) (by decide) ?_
  refine Gm.i (x := h2) (C := 175) (d := d2) (fs := [("_headers", .ref l2)]) (by o_readsAll) (meth127 O) rfl ?_
  repeat none_booked
  refine f_keys O (d := d2) (l := l2) (ps := shH x2.SH) (by o_readsAll) (by o_readsAll) (by rw [shH_len]; omega) fun kl => ?_
  have hkeys : ((shH x2.SH).map fun p => AVal.str p.1) = (x2.SH.map nameS).map AVal.str := by
    unfold shH
    rw [List.map_map, List.map_map]
    have : x2.SH = (x2.SH.zipIdx).map (·.1) := by simp
    conv => rhs; rw [this, List.map_map]
    rfl
  rw [hkeys]
  repeat none_booked
  refine c_enum (.head _) fun e it => ?_
  refine ⟨_, _, _, fun j m' P' => ∃ (G : List Ck) (R0 R1 : List (List Bool)) (y1 y2 y3 y4 y5 : Option AVal), P' = G ++ (lst kl ((x2.SH.map nameS).map AVal.str) :: lst rs ((R0.map bitS).map .str) :: dct D.prog D.w dT (T1.map txA) :: dct D.prog D.w dH (T2.map txA) :: P) ∧
    m' = [some (.str pat), some (.tup [.ref st1, .ref en1, .ref h1]), some (.tup [.ref st2, .ref en2, .ref h2]), some (.ref dH), some (.ref dT), some (.ref rs), y1, y2, y3, y4, y5, none, none, none, none, none, none] ∧
    rowsP pat T2 T1 x1.SH.length ((x2.SH.map (·.2)).zipIdx.drop j) = some R1 ∧ R0 ++ R1 = R ∧ R0.length ≤ j, iter_enum (xs := (x2.SH.map nameS).map AVal.str) O.hd (.refl _) (.head _), ⟨[], [], R, _, _, _, _, _, rfl, rfl, hR, rfl, by simp⟩, ?_, ?_, ?_⟩
  · rintro j m' P' ⟨G, R0, R1, y1, y2, y3, y4, y5, rfl, _⟩ c hc
    simp only [List.mem_singleton] at hc; subst hc; simp
  · rintro j w' m' P' hj ⟨G, R0, R1, y1, y2, y3, y4, y5, rfl, rfl, hR1, hR, hlen⟩
    obtain ⟨nm, hnm, rfl⟩ := enum_at hj
    obtain ⟨nm2, hnm2, rfl⟩ := map_at hnm
    rw [List.getElem?_map] at hnm2
    cases hpj : x2.SH[j]? with
    | none => rw [hpj] at hnm2; cases hnm2
    | some p =>
    rw [hpj] at hnm2
    simp only [Option.map_some, Option.some.injEq] at hnm2
    subst hnm2
    have hlt := lt_at hpj
    have hokp := hok p (List.mem_of_getElem? hpj)
    have hz : (x2.SH.map (·.2)).zipIdx[j]? = some (p.2, j) := by rw [List.getElem?_zipIdx, List.getElem?_map, hpj]; simp
    rw [drop_at hz] at hR1
    simp only [rowsP] at hR1
    cases hH : T2.lookup j with
    | none => rw [hH] at hR1; cases hR1
    | some h =>
    rw [hH] at hR1
    dsimp only at hR1
    cases hrow : rowP pat h T1 p.2 (List.range x1.SH.length) with
    | none => rw [hrow] at hR1; cases hR1
    | some row =>
    rw [hrow] at hR1
    dsimp only at hR1
    cases hrest : rowsP pat T2 T1 x1.SH.length ((x2.SH.map (·.2)).zipIdx.drop (j + 1)) with
    | none => rw [hrest] at hR1; cases hR1
    | some R2 =>
    rw [hrest] at hR1
    simp only [Option.some.injEq] at hR1
    subst hR1
    repeat none_booked
    focus ((refine Ex.for_ ?_ ?_); rotate_left; (next => (intro _; rfl)))
    repeat none_booked
    refine o_itemT (j := 2) rfl rfl (by decide) (by decide) ?_
    repeat none_booked
    refine f_lenS O (d := d1) (l := l1) (ps := shH x1.SH) (by simp [hh1]) (by simp [hl1]) (by rw [shH_len]; omega) ?_
    rw [shH_len]
    repeat none_booked
    refine c_range (by omega) fun ra => ?_
    generalize hC : G ++ (lst kl ((x2.SH.map nameS).map AVal.str) :: lst rs ((R0.map bitS).map .str) :: dct D.prog D.w dT (T1.map txA) :: dct D.prog D.w dH (T2.map txA) :: P) = C
    have hC1 : dct D.prog D.w dT (T1.map txA) ∈ C := by rw [← hC]; simp
    have hC2 : dct D.prog D.w dH (T2.map txA) ∈ C := by rw [← hC]; simp
    refine ⟨_, _, _, fun j2 m' P' => ∃ (G2 : List Ck) (B0 B1 : List Bool) (y4 y5 : Option AVal), P' = G2 ++ (rng ra x1.SH.length :: C) ∧
      m' = [some (.str pat), some (.tup [.ref st1, .ref en1, .ref h1]), some (.tup [.ref st2, .ref en2, .ref h2]), some (.ref dH), some (.ref dT), some (.ref rs), some (.int (j : Nat)), some (.str (nameS p)), some (.str (bitS B0)), y4, y5, none, none, none, none, none, none] ∧
      rowP pat h T1 p.2 ((List.range x1.SH.length).drop j2) = some B1 ∧ B0 ++ B1 = row ∧ B0.length ≤ j2, iter_range O.hd (.head _) (by omega), ⟨[], [], row, _, _, rfl, rfl, hrow, rfl, by simp⟩, ?_, ?_, ?_⟩
    · rintro j m' P' _ c hc; cases hc
    · rintro j2 w' m' P' hj2 ⟨G2, B0, B1, y4, y5, rfl, rfl, hB1, hB, hl2⟩
      obtain ⟨jx, hjx, rfl⟩ := map_at hj2
      have hj2l := lt_at hjx
      rw [drop_at hjx] at hB1
      obtain rfl : jx = j2 := by
        have := (List.getElem?_eq_some_iff.mp hjx).2; simpa using this.symm
      rw [List.length_range] at hj2l
      simp only [rowP] at hB1
      cases hT : T1.lookup jx with
      | none => rw [hT] at hB1; cases hB1
      | some t =>
      rw [hT] at hB1
      dsimp only at hB1
      split at hB1
      case isFalse => cases hB1
      rename_i hcond
      obtain ⟨hlen2, hell⟩ := hcond
      cases hrest2 : rowP pat h T1 p.2 ((List.range x1.SH.length).drop (jx + 1)) with
      | none => rw [hrest2] at hB1; cases hB1
      | some B2 =>
      rw [hrest2] at hB1
      simp only [Option.some.injEq] at hB1
      subst hB1
      have hnl := name_len (p := p) fun t ht => by have := hokp.2 t ht; omega
      have hsl := hokp.1
      repeat none_booked
      refine c_strI (by omega) ?_
      refine ⟨Sb.dct (D := D) (ps := T2.map txA) (by simp [hC2]), ?_⟩
      refine o_itemD (ps := T2.map txA) (b := .str h) (by simp [hC2]) (by rw [lookup_txA, hH]; rfl) ?_
      repeat none_booked
      refine c_strI (by omega) ?_
      refine ⟨Sb.dct (D := D) (ps := T1.map txA) (by simp [hC1]), ?_⟩
      refine o_itemD (ps := T1.map txA) (b := .str t) (by simp [hC1]) (by rw [lookup_txA, hT]; rfl) ?_
      repeat none_booked
      refine ⟨_, _, _, .none, .none, .int, by decide, .str (by omega) ?_⟩
      rw [slc_rev]
      repeat none_booked
      refine o_addS (by rw [List.length_reverse]; omega) ?_
      repeat none_booked
      refine f_ell O hp (by rw [List.length_append, List.length_reverse]; omega) ?_
      rw [hell]
      repeat none_booked
      refine c_strI (by omega) ?_
      repeat none_booked
      refine ⟨_, _, _, .int, .none, .none, by simp, .str (by omega) ?_⟩
      rw [show slc (nameS p) (some 2) none none = jn [46] (p.2.map dec) from (slc_from _ 2).trans (drop_name _)]
      repeat none_booked
      refine c_split (by decide) (by decide) (by have := okP_jn hokp; omega) fun a2 => ?_
      rw [spl_jn]
      refine o_inL (ys := partsS p.2) (.head _) ?_
      rw [parts_any]
      repeat none_booked
      refine iteF (by simp) ?_
      repeat none_booked
      have hfin : ∀ c, c = p.2.contains jx → bitS B0 ++ [if c = true then 49 else 48] = bitS (B0 ++ [c]) := fun c _ => by simp [bitS]
      by_cases hc : p.2.contains jx = true
      · refine iteT hc ?_
        repeat none_booked
        refine o_iaddS (by simp [bitS]; omega) ?_
        refine ⟨_, by one_sign, ?_⟩
        repeat none_booked
        rw [show bitS B0 ++ [49] = bitS (B0 ++ [true]) from hfin true hc.symm]
        refine ⟨lst a2 ((partsS p.2).map .str) :: G2, B0 ++ [true], B2, _, _, rfl, rfl, hrest2, ?_, by simp; omega⟩
        rw [← hB, hc]; simp
      · refine iteF hc ?_
        repeat none_booked
        refine o_iaddS (by simp [bitS]; omega) ?_
        refine ⟨_, by one_sign, ?_⟩
        repeat none_booked
        have hc' : p.2.contains jx = false := by simpa using hc
        rw [show bitS B0 ++ [48] = bitS (B0 ++ [false]) from hfin false hc'.symm]
        refine ⟨lst a2 ((partsS p.2).map .str) :: G2, B0 ++ [false], B2, _, _, rfl, rfl, hrest2, ?_, by simp; omega⟩
        rw [← hB, hc']; simp
    · rintro m' P' ⟨G2, B0, B1, y4, y5, rfl, rfl, hB1, hB, hl2⟩
      rw [List.length_map, List.length_range, List.drop_of_length_le (by simp)] at hB1
      simp only [rowP, Option.some.injEq] at hB1
      subst hB1
      rw [List.append_nil] at hB
      subst hB
      subst hC
      repeat none_booked
      refine g_append (xs := (R0.map bitS).map .str) (by simp) ?_
      repeat none_booked
      refine c_appendL (xs := (R0.map bitS).map .str) (Sw.app (.tail (Sw.app (.tail .head) G)) G2) (by simp; omega) ?_
      repeat none_booked
      refine ⟨G2 ++ (rng ra x1.SH.length :: G), R0 ++ [B0], R2, _, _, _, _, _, ?_, rfl, hrest, ?_, by simp; omega⟩
      · simp
      · rw [← hR]; simp
  · rintro m' P' ⟨G, R0, R1, y1, y2, y3, y4, y5, rfl, rfl, hR1, hR, hlen⟩
    rw [List.length_map, List.length_zipIdx, List.length_map, List.length_map, List.drop_of_length_le (by simp)] at hR1
    simp only [rowsP, Option.some.injEq] at hR1
    subst hR1
    rw [List.append_nil] at hR
    subst hR
    repeat none_booked
    exact ⟨_, List.Sublist.trans (.cons _ (.cons_cons _ (.cons _ (.cons _ (.refl _))))) (List.sublist_append_right G _), q rs⟩
end

-- HR

def txt (t : List Bool) : List Nat := t.map fun b => if b then 98 else 97
def nextP (W : List Way) (b : Bool) (p : Nat) : Option Nat := (W.find? fun w => w.1 == b && w.2.1 == p).map (·.2.2)
abbrev Wk := List (List Bool × Nat)
def stepW (W : List Way) : Wk → Option Wk
  | [] => some []
  | (t, p) :: r => match nextP W false p with
    | none => none
    | some x => match nextP W true p with
      | none => none
      | some y => match stepW W r with
        | none => none
        | some l => some ((t ++ [false], x) :: (t ++ [true], y) :: l)
def chkW (pat : List Nat) (E : List Nat) (l : Wk) : Bool := l.all fun tp => ell pat (txt tp.1) == E.contains tp.2
def walkN (W : List Way) (pat : List Nat) (E : List Nat) : Nat → Wk → Bool
  | 0, _ => true
  | n + 1, l => chkW pat E l && match stepW W l with
    | none => false
    | some l' => walkN W pat E n l'
def runD (W : List Way) : List Bool → Nat → Option Nat
  | [], p => some p
  | b :: r, p => match nextP W b p with
    | none => none
    | some x => runD W r x

abbrev mvA (w : Way) : List Nat × AVal := (ltr w.1 ++ dec w.2.1, .str (dec w.2.2))
theorem mkey_inj {b c : Bool} {p k : Nat} (h : ltr b ++ dec p = ltr c ++ dec k) : b = c ∧ p = k := by
  cases b <;> cases c <;> simp [ltr] at h
  · exact ⟨rfl, dec_inj h⟩
  · exact ⟨rfl, dec_inj h⟩
theorem lookup_mv (b : Bool) (p : Nat) : ∀ W : List Way, (W.map mvA).lookup (ltr b ++ dec p) = (nextP W b p).map fun k => .str (dec k)
  | [] => rfl
  | w :: r => by
    rw [List.map_cons, List.lookup_cons]
    unfold nextP
    rw [List.find?_cons]
    by_cases h : w.1 = b ∧ w.2.1 = p
    · obtain ⟨rfl, rfl⟩ := h
      simp
    · have h1 : (ltr b ++ dec p == ltr w.1 ++ dec w.2.1) = false := beq_eq_false_iff_ne.mpr fun q => h (by obtain ⟨a, c⟩ := mkey_inj q; exact ⟨a.symm, c.symm⟩)
      have h2 : (w.1 == b && w.2.1 == p) = false := by
        rw [Bool.and_eq_false_iff]
        by_cases hb : w.1 = b
        · right; rw [beq_eq_false_iff_ne]; exact fun q => h ⟨hb, q⟩
        · left; rw [beq_eq_false_iff_ne]; exact hb
      rw [h1, h2]
      exact lookup_mv b p r
def keyW (w : Way) : Bool × Nat := (w.1, w.2.1)
theorem nodup_mv {W : List Way} (nd : (W.map keyW).Nodup) : ((W.map mvA).map (·.1)).Nodup := by
  have e1 : (W.map mvA).map (·.1) = (W.map keyW).map fun q => ltr q.1 ++ dec q.2 := by rw [List.map_map, List.map_map]; rfl
  rw [e1]
  exact List.Pairwise.map _ (fun a b h q => h (by obtain ⟨x, y⟩ := mkey_inj q; exact Prod.ext x y)) nd
theorem lookup_no {ps : List (List Nat × AVal)} {x : List Nat} (h : x ∉ ps.map (·.1)) : ps.lookup x = none := by
  induction ps with
  | nil => rfl
  | cons a r ih =>
    rw [List.map_cons, List.mem_cons, not_or] at h
    rw [List.lookup_cons, beq_eq_false_iff_ne.mpr h.1]
    exact ih h.2
theorem setD_mv {W : List Way} {j : Nat} {w : Way} (nd : (W.map keyW).Nodup) (h : W[j]? = some w) : setD (ltr w.1 ++ dec w.2.1) (.str (dec w.2.2)) ((W.take j).map mvA) = (W.take (j + 1)).map mvA := by
  rw [take_at h, List.map_append]
  refine setD_new (lookup_no ?_)
  have := nodup_mv nd
  have e : W = W.take j ++ w :: W.drop (j + 1) := by rw [← drop_at h, List.take_append_drop]
  rw [e, List.map_append, List.map_append, List.nodup_append] at this
  intro q
  exact this.2.2 _ q _ (by simp) rfl
theorem ends_any (E : List Nat) (p : Nat) : (E.map dec).any (· == dec p) = E.contains p := by
  rw [List.any_map, List.contains_eq_any_beq]
  congr 1
  funext x
  simp only [Function.comp]
  by_cases h : x = p
  · subst h; simp
  · rw [beq_eq_false_iff_ne.mpr fun q => h (dec_inj q), beq_eq_false_iff_ne.mpr (Ne.symm h)]
abbrev wkA (tp : List Bool × Nat) : AVal := .tup [.str (txt tp.1), .str (dec tp.2)]
theorem txt_snoc (t : List Bool) (b : Bool) : txt (t ++ [b]) = txt t ++ ltr b := by cases b <;> simp [txt, ltr]
theorem stepW_len {W : List Way} : ∀ {l l' : Wk}, stepW W l = some l' → l'.length = 2 * l.length
  | [], l', h => by simp only [stepW, Option.some.injEq] at h; subst h; rfl
  | (t, p) :: r, l', h => by
    simp only [stepW] at h
    split at h
    · cases h
    · split at h
      · cases h
      · split at h
        · cases h
        · rename_i l2 h3
          cases h
          simp only [List.length_cons, stepW_len h3]; omega
theorem stepW_txt {W : List Way} {N : Nat} : ∀ {l l' : Wk}, stepW W l = some l' → (∀ tp ∈ l, tp.1.length ≤ N) → ∀ tp ∈ l', tp.1.length ≤ N + 1
  | [], l', h, _ => by simp only [stepW, Option.some.injEq] at h; subst h; simp
  | (t, p) :: r, l', h, hN => by
    simp only [stepW] at h
    split at h
    · cases h
    · split at h
      · cases h
      · split at h
        · cases h
        · rename_i l2 h3
          cases h
          have ht := hN (t, p) (by simp)
          have ih := stepW_txt h3 fun tp htp => hN tp (.tail _ htp)
          intro tp htp
          simp only [List.mem_cons] at htp
          rcases htp with rfl | rfl | htp
          · simpa using ht
          · simpa using ht
          · exact ih tp htp
theorem nextP_lt {W : List Way} (h : okW W = true) {b : Bool} {p x : Nat} (e : nextP W b p = some x) : x < 100 := by
  unfold nextP at e
  cases hf : W.find? fun w => w.1 == b && w.2.1 == p with
  | none => rw [hf] at e; cases e
  | some w =>
    rw [hf] at e
    simp only [Option.map_some, Option.some.injEq] at e
    subst e
    exact (okW_at h (List.mem_of_find?_eq_some hf)).2
theorem stepW_at {W : List Way} : ∀ {l l' : Wk} {j : Nat} {t : List Bool} {p : Nat}, stepW W l = some l' → l[j]? = some (t, p) → ∃ x y, nextP W false p = some x ∧ nextP W true p = some y ∧ l'.take (2 * (j + 1)) = l'.take (2 * j) ++ [(t ++ [false], x), (t ++ [true], y)]
  | [], l', j, t, p, h, hj => by simp at hj
  | (u, k) :: r, l', j, t, p, h, hj => by
    simp only [stepW] at h
    cases hx : nextP W false k with
    | none => rw [hx] at h; cases h
    | some x =>
    rw [hx] at h
    dsimp only at h
    cases hy : nextP W true k with
    | none => rw [hy] at h; cases h
    | some y =>
    rw [hy] at h
    dsimp only at h
    cases hr : stepW W r with
    | none => rw [hr] at h; cases h
    | some l2 =>
    rw [hr] at h
    simp only [Option.some.injEq] at h
    subst h
    cases j with
    | zero =>
      simp only [List.getElem?_cons_zero, Option.some.injEq, Prod.mk.injEq] at hj
      obtain ⟨rfl, rfl⟩ := hj
      exact ⟨x, y, hx, hy, rfl⟩
    | succ j =>
      obtain ⟨x2, y2, h1, h2, h3⟩ := stepW_at hr (by simpa using hj)
      refine ⟨x2, y2, h1, h2, ?_⟩
      rw [show 2 * (j + 1 + 1) = 2 * (j + 1) + 1 + 1 by omega, show 2 * (j + 1) = 2 * j + 1 + 1 by omega] at *
      simp only [List.take_succ_cons, List.cons_append]
      rw [show 2 * j + 1 + 1 = 2 * (j + 1) by omega] at *
      rw [h3]
theorem stepW_lt {W : List Way} (hW : okW W = true) : ∀ {l l' : Wk}, stepW W l = some l' → ∀ tp ∈ l', tp.2 < 100
  | [], l', h => by simp only [stepW, Option.some.injEq] at h; subst h; simp
  | (t, p) :: r, l', h => by
    simp only [stepW] at h
    split at h
    · cases h
    · rename_i x hx
      split at h
      · cases h
      · rename_i y hy
        split at h
        · cases h
        · rename_i l2 h3
          cases h
          intro tp htp
          simp only [List.mem_cons] at htp
          rcases htp with rfl | rfl | htp
          · exact nextP_lt hW hx
          · exact nextP_lt hW hy
          · exact stepW_lt hW h3 tp htp
theorem dec_len2 (k : Nat) (h : k < 1000) : (dec k).length ≤ 3 := dec_len h

section
variable {D : WD} {n : Nat} {f : Fm} {ns : Nms} {m : Loc} {P : List Ck} {Q : AVal → Loc → List Ck → Prop}
theorem f_walked (O : Ok D) {pat : List Nat} {st en : Addr} {W : List Way} {E : List Nat} {ds : List Bool} {pd : Nat} (hp : pat.length ≤ 1000) (hst : lst st (W.map wayA) ∈ P) (hen : lst en ((E.map dec).map .str) ∈ P) (hz : W.length ≤ 500) (hd : ds.length ≤ 900) (hW : okW W = true)
    (nd : (W.map keyW).Nodup) (hwk : walkN W pat E 4 [([], 0)] = true) (hr : runD W ds 0 = some pd) (he : ell pat (txt ds) = E.contains pd)
    (q : Q (.bool true) m P) : Cal D (n + 5) f ns (.ref 294) [.str pat, .ref st, .ref en, .str (txt ds)] [] [] m P Q := by
  refine Wp.sub' ?_
  apply Wp.fn (a := 294) (mk := fun vs => ⟨vs.take 4, [].zip (vs.drop 4)⟩)
  case F => wrow_raised
  dsimp only
  refine Bd.four (x := "pattern") (y := "steps") (z := "ends") (z' := "drawn") (fun u v w x => rfl) ?_
  w_left
  intro f' hM
  repeat none_booked
  close_w
  repeat none_booked
  refine ⟨_, _, _, _, _, iter_list (xs := W.map wayA) O.hd hst, by wrow_close, fun d L2 => ?_⟩
  generalize compFm f' _ L2 = f2
  refine ⟨fun j m' P' => ∃ n1 n2 n3 : Option AVal, P' = dct D.prog D.w d ((W.take j).map mvA) :: P ∧ m' = [none, n1, n2, n3], ⟨none, none, none, rfl, rfl⟩, ?_, ?_, ?_⟩
  · rintro j m' P' ⟨n1, n2, n3, rfl, _⟩ c hc
    simp only [List.mem_singleton] at hc; subst hc; exact .tail _ hst
  · rintro j w' m' P' hj ⟨n1, n2, n3, rfl, rfl⟩
    obtain ⟨w, hw, rfl⟩ := map_at hj
    have hlt := lt_at hw
    have hwl := okW_at hW (List.mem_of_getElem? hw)
    have e1 := dec_len (k := w.2.1) (by omega)
    have e3 : (ltr w.1).length = 1 := by cases w.1 <;> rfl
    rw [show wayA w = .tup [.str (ltr w.1), .str (dec w.2.1), .str (dec w.2.2)] from rfl]
    repeat none_booked
    refine ins_dict ?_
    repeat none_booked
    refine o_addS (by omega) ?_
    repeat none_booked
    refine ⟨_, _, _, rfl, .head, by simp; omega, ?_, ?_⟩
    · have : (W.take j).map keyW = (W.map keyW).take j := by rw [List.map_take]
      exact nodup_mv (by rw [this]; exact nd.sublist (List.take_sublist ..))
    · refine ⟨_, _, _, ?_, rfl⟩
      rw [setD_mv nd hw]
  rintro m' P' ⟨n1, n2, n3, rfl, rfl⟩
  rw [List.length_map, List.take_length]
  repeat none_booked
  intro wl
  repeat none_booked
  focus ((refine Ex.for_ ?_ ?_); rotate_left; (next => (intro _; rfl)))
  repeat none_booked
  refine c_range (k := 4) (by decide) fun ra => ?_
  have h0 : dec 0 = [48] := by decide
  refine ⟨_, _, _, fun j m' P' => ∃ (G : List Ck) (a : Addr) (l : Wk) (y4 y5 y9 y10 : Option AVal), P' = G ++ (dct D.prog D.w d (W.map mvA) :: P) ∧ lst a (l.map wkA) ∈ G ∧
    m' = [some (.str pat), some (.ref st), some (.ref en), some (.str (txt ds)), y4, y5, some (.ref d), some (.ref a), some (.str [48]), y9, y10, none, none] ∧ walkN W pat E (4 - j) l = true ∧ l.length ≤ 2 ^ j ∧ (∀ tp ∈ l, tp.1.length ≤ j) ∧ ∀ tp ∈ l, tp.2 < 100, iter_range O.hd (.head _) (by decide), ⟨[rng ra 4, lst wl [.tup [.str [], .str [48]]]], wl, [([], 0)], _, _, _, _, rfl, by rw [← h0]; exact .tail _ (.head _), rfl, hwk, by simp, by simp, by simp⟩, ?_, ?_, ?_⟩
  · rintro j m' P' _ c hc; cases hc
  · rintro j w' m' P' hj ⟨G, a, l, y4, y5, y9, y10, rfl, hin, rfl, hwl, hll, hlt, hl100⟩
    obtain ⟨jx, hjx, rfl⟩ := map_at hj
    have hj4 := lt_at hj
    rw [List.length_map, List.length_range] at hj4
    obtain ⟨k4, hk4⟩ : ∃ k4, 4 - j = k4 + 1 := ⟨3 - j, by omega⟩
    rw [hk4] at hwl
    simp only [walkN, Bool.and_eq_true] at hwl
    obtain ⟨hchk, hwl⟩ := hwl
    have hl16 : l.length ≤ 16 := Nat.le_trans hll (Nat.pow_le_pow_right (n := 2) (by decide) (by omega : j ≤ 4))
    cases hstep : stepW W l with
    | none => rw [hstep] at hwl; cases hwl
    | some l' =>
    rw [hstep] at hwl
    dsimp only at hwl
    repeat none_booked
    focus ((refine Ex.for_ ?_ ?_); rotate_left; (next => (intro _; rfl)))
    repeat none_booked
    refine ⟨_, _, _, fun j1 m' P' => ∃ (y5 y10 : Option AVal), P' = G ++ (dct D.prog D.w d (W.map mvA) :: P) ∧
      m' = [some (.str pat), some (.ref st), some (.ref en), some (.str (txt ds)), y4, y5, some (.ref d), some (.ref a), some (.str [48]), some (.int (jx : Nat)), y10, none, none], iter_list (xs := l.map wkA) O.hd (List.mem_append_left _ hin), ⟨_, _, rfl, rfl⟩, ?_, ?_, ?_⟩
    · rintro j m' P' ⟨y5, y10, rfl, _⟩ c hc
      simp only [List.mem_singleton] at hc; subst hc; exact List.mem_append_left _ hin
    · rintro j1 w' m' P' hj1 ⟨y5, y10, rfl, rfl⟩
      obtain ⟨⟨t, p⟩, htp, rfl⟩ := map_at hj1
      have hm := List.mem_of_getElem? htp
      have htl := hlt _ hm
      have hce : ell pat (txt t) = E.contains p := by
        have := List.all_eq_true.mp hchk _ hm
        simpa using this
      rw [show wkA (t, p) = .tup [.str (txt t), .str (dec p)] from rfl]
      dsimp only at htl
      repeat none_booked
      refine f_ell O hp (by simp [txt]; omega) ?_
      repeat none_booked
      refine o_inL (ys := E.map dec) (by simp only [List.mem_append, List.mem_cons]; exact .inr (.inr hen)) ?_
      rw [ends_any, hce]
      repeat none_booked
      refine iteF (by simp) ?_
      repeat none_booked
      exact ⟨_, _, rfl, rfl⟩
    rintro m' P' ⟨y5, y10, rfl, rfl⟩
    repeat none_booked
    close_w
    repeat none_booked
    refine ⟨_, _, _, _, _, iter_list (xs := l.map wkA) O.hd (List.mem_append_left _ hin), by wrow_close, fun acc L2 => ?_⟩
    generalize compFm f' _ L2 = f2
    refine ⟨fun j m' P' => ∃ (G2 : List Ck) (n1 n2 n3 : Option AVal), P' = G2 ++ (lst acc ((l'.take (2 * j)).map wkA) :: (G ++ (dct D.prog D.w d (W.map mvA) :: P))) ∧ m' = [none, n1, n2, n3, some (.ref d)], ⟨[], _, _, _, rfl, rfl⟩, ?_, ?_, ?_⟩
    · rintro j m' P' ⟨G2, n1, n2, n3, rfl, _⟩ c hc
      simp only [List.mem_singleton] at hc; subst hc; simp [hin]
    · rintro j1 w' m' P' hj1 ⟨G2, n1, n2, n3, rfl, rfl⟩
      obtain ⟨⟨t, p⟩, htp, rfl⟩ := map_at hj1
      have hm := List.mem_of_getElem? htp
      have htl := hlt _ hm
      have hpl := hl100 _ hm
      have hdl := dec_len (k := p) (by dsimp only at hpl; omega)
      obtain ⟨x, y, hx, hy, htake⟩ := stepW_at hstep htp
      have hl'len := stepW_len hstep
      rw [show wkA (t, p) = .tup [.str (txt t), .str (dec p)] from rfl]
      dsimp only at htl ⊢
      rw [htake]
      repeat none_booked
      focus ((refine ins_nest2 ?_ ?_); rotate_left; (next => (intro _; rfl)))
      repeat none_booked
      refine ⟨_, _, _, iter_str (l := [97, 98]) O.hd, ?_⟩
      refine ⟨fun j2 m' P' => ∃ (n3 : Option AVal), P' = G2 ++ (lst acc ((l'.take (2 * j1) ++ [(t ++ [false], x), (t ++ [true], y)].take j2).map wkA) :: (G ++ (dct D.prog D.w d (W.map mvA) :: P))) ∧ m' = [none, some (.str (txt t)), some (.str (dec p)), n3, some (.ref d)], ⟨_, by simp, rfl⟩, ?_, ?_, ?_⟩
      · rintro j m' P' _ c hc; cases hc
      · rintro j2 w' m' P' hj2 ⟨n3, rfl, rfl⟩
        obtain ⟨b, z, rfl, hz, htk⟩ : ∃ b z, w' = .str (ltr b) ∧ nextP W b p = some z ∧ [(t ++ [false], x), (t ++ [true], y)].take (j2 + 1) = [(t ++ [false], x), (t ++ [true], y)].take j2 ++ [(t ++ [b], z)] := by
          match j2, hj2 with
          | 0, hj2 => cases hj2; exact ⟨false, x, rfl, hx, rfl⟩
          | 1, hj2 => cases hj2; exact ⟨true, y, rfl, hy, rfl⟩
          | j2 + 2, hj2 => simp at hj2
        have hbl : (ltr b).length = 1 := by cases b <;> rfl
        have hj2l := lt_at hj2
        have htxl : (txt t).length = t.length := by simp [txt]
        dsimp only
        rw [htk]
        repeat none_booked
        refine ins_append ?_
        repeat none_booked
        refine o_addS (by omega) ?_
        repeat none_booked
        refine o_addS (by omega) ?_
        refine ⟨Sb.dct (D := D) (ps := W.map mvA) (by simp), ?_⟩
        refine o_itemD (ps := W.map mvA) (b := .str (dec z)) (by simp) (by rw [lookup_mv, hz]; rfl) ?_
        repeat none_booked
        refine ⟨_, _, Sw.app .head G2, by simp; omega, ?_⟩
        refine ⟨_, ?_, rfl⟩
        have ew : wkA (t ++ [b], z) = .tup [.str (txt t ++ ltr b), .str (dec z)] := by rw [wkA, txt_snoc]
        rw [← List.append_assoc]
        simp only [List.map_append, List.map_cons, List.map_nil, ew]
      · rintro m' P' ⟨n3, rfl, rfl⟩
        exact ⟨G2, _, _, _, rfl, rfl⟩
    rintro m' P' ⟨G2, n1, n2, n3, rfl, rfl⟩
    rw [List.length_map, ← stepW_len hstep, List.take_length]
    repeat none_booked
    refine ⟨G2 ++ (lst acc (l'.map wkA) :: G), acc, l', _, _, _, _, by simp, by simp, rfl, ?_, ?_, ?_, stepW_lt hW hstep⟩
    · rw [show 4 - (j + 1) = k4 by omega]; exact hwl
    · rw [stepW_len hstep, Nat.pow_succ]; omega
    · exact stepW_txt hstep hlt
  · rintro m' P' ⟨G, a, l, y4, y5, y9, y10, rfl, _, rfl, _⟩
    repeat none_booked
    focus ((refine Ex.for_ ?_ ?_); rotate_left; (next => (intro _; rfl)))
    repeat none_booked
    refine ⟨_, _, _, fun j m' P' => ∃ (p : Nat) (y4 : Option AVal), P' = G ++ (dct D.prog D.w d (W.map mvA) :: P) ∧
      m' = [some (.str pat), some (.ref st), some (.ref en), some (.str (txt ds)), y4, y5, some (.ref d), some (.ref a), some (.str (dec p)), y9, y10, none, none] ∧ runD W (ds.drop j) p = some pd ∧ p < 100, iter_str O.hd, ⟨0, _, rfl, by rw [h0], hr, by decide⟩, ?_, ?_, ?_⟩
    · rintro j m' P' _ c hc; cases hc
    · rintro j w' m' P' hj ⟨p, y4, rfl, rfl, hrd, hpl⟩
      obtain ⟨c, hc, rfl⟩ := map_at hj
      unfold txt at hc
      rw [List.getElem?_map] at hc
      cases hb : ds[j]? with
      | none => rw [hb] at hc; cases hc
      | some b =>
      rw [hb] at hc
      simp only [Option.map_some, Option.some.injEq] at hc
      have hcl : [c] = ltr b := by rw [← hc]; cases b <;> rfl
      rw [drop_at hb] at hrd
      simp only [runD] at hrd
      cases hx : nextP W b p with
      | none => rw [hx] at hrd; cases hrd
      | some x =>
      rw [hx] at hrd
      dsimp only at hrd
      have hdl := dec_len (k := p) (by omega)
      have hbl : (ltr b).length = 1 := by cases b <;> rfl
      rw [hcl]
      repeat none_booked
      refine o_addS (by omega) ?_
      refine ⟨Sb.dct (D := D) (ps := W.map mvA) (by simp), ?_⟩
      refine o_itemD (ps := W.map mvA) (b := .str (dec x)) (by simp) (by rw [lookup_mv, hx]; rfl) ?_
      repeat none_booked
      exact ⟨x, _, rfl, rfl, hrd, nextP_lt hW hx⟩
    · rintro m' P' ⟨p, y4, rfl, rfl, hrd, hpl⟩
      rw [List.length_map, List.drop_of_length_le (by simp [txt])] at hrd
      simp only [runD, Option.some.injEq] at hrd
      subst hrd
      repeat none_booked
      refine f_ell O hp (by simp [txt]; omega) ?_
      repeat none_booked
      refine o_inL (ys := E.map dec) (by simp only [List.mem_append, List.mem_cons]; exact .inr (.inr hen)) ?_
      rw [ends_any, he]
      repeat none_booked
      rw [beq_self_eq_true]
      exact ⟨P, List.Sublist.trans (.cons _ (.refl _)) (List.sublist_append_right G _), q⟩
end

end Mine
-- PU
namespace Mine
/-! three dots take what they may -/
def anyT (f : List Bool → Bool) : List Bool → Bool
  | [] => f []
  | c :: y => f (c :: y) || anyT f y
def glob : List (Option Bool) → List Bool → Bool
  | [] => fun x => x.isEmpty
  | some b :: r => fun x => match x with
    | [] => false
    | c :: y => (b == c) && glob r y
  | none :: r => fun x => anyT (glob r) x
/-- the same for parts -/
def anyN (f : List Nat → Bool) : List Nat → Bool
  | [] => f []
  | c :: y => f (c :: y) || anyN f y
def mtc : List (List Nat) → List Nat → Bool
  | [] => fun _ => false
  | [w] => fun x => x == w
  | w :: v :: r => fun x => startsL x w && anyN (mtc (v :: r)) (x.drop w.length)
def segs : List (Option Bool) → List (List Nat)
  | [] => [[]]
  | none :: r => [] :: segs r
  | some b :: r => match segs r with
    | [] => []
    | w :: ws => (ltr b ++ w) :: ws
theorem segs_ne : ∀ its, segs its ≠ []
  | [] => by simp [segs]
  | none :: r => by simp [segs]
  | some b :: r => by
    have := segs_ne r
    unfold segs
    cases h : segs r with
    | nil => exact absurd h this
    | cons w ws => simp
theorem segs_cons (its) : ∃ w ws, segs its = w :: ws := by
  cases h : segs its with
  | nil => exact absurd h (segs_ne its)
  | cons w ws => exact ⟨w, ws, rfl⟩
theorem anyN_txt (f : List Nat → Bool) : ∀ x : List Bool, anyN f (txt x) = anyT (fun y => f (txt y)) x
  | [] => rfl
  | c :: y => by
    show (f (txt (c :: y)) || anyN f (txt y)) = (f (txt (c :: y)) || anyT (fun y => f (txt y)) y)
    rw [anyN_txt f y]
theorem txt_cons (b : Bool) (y : List Bool) : txt (b :: y) = ltr b ++ txt y := by cases b <;> rfl
theorem txt_append (x y : List Bool) : txt (x ++ y) = txt x ++ txt y := by simp [txt]
theorem starts_ltr (b c : Bool) (w y : List Nat) : startsL (ltr c ++ y) (ltr b ++ w) = ((b == c) && startsL y w) := by
  unfold startsL
  cases b <;> cases c <;> simp [ltr]
theorem glob_mtc : ∀ (its : List (Option Bool)) (x : List Bool), glob its x = mtc (segs its) (txt x)
  | [], x => by
    show x.isEmpty = (txt x == [])
    cases x <;> rfl
  | none :: r, x => by
    obtain ⟨w, ws, e⟩ := segs_cons r
    show anyT (glob r) x = mtc ([] :: segs r) (txt x)
    rw [e]
    show anyT (glob r) x = (startsL (txt x) [] && anyN (mtc (w :: ws)) (txt x))
    rw [anyN_txt, ← e]
    have : (fun y => mtc (segs r) (txt y)) = glob r := funext fun y => (glob_mtc r y).symm
    rw [this]
    simp [startsL]
  | some b :: r, x => by
    obtain ⟨w, ws, e⟩ := segs_cons r
    have hs : segs (some b :: r) = (ltr b ++ w) :: ws := by unfold segs; rw [e]
    rw [hs]
    cases x with
    | nil =>
      show false = _
      cases ws with
      | nil => cases b <;> rfl
      | cons v vs => cases b <;> rfl
    | cons c y =>
      show ((b == c) && glob r y) = _
      rw [glob_mtc r y, e, txt_cons]
      cases ws with
      | nil =>
        show ((b == c) && (txt y == w)) = (ltr c ++ txt y == ltr b ++ w)
        cases b <;> cases c <;> simp [ltr]
      | cons v vs =>
        show ((b == c) && (startsL (txt y) w && anyN (mtc (v :: vs)) ((txt y).drop w.length))) = (startsL (ltr c ++ txt y) (ltr b ++ w) && anyN (mtc (v :: vs)) ((ltr c ++ txt y).drop (ltr b ++ w).length))
        rw [starts_ltr]
        have : (ltr c ++ txt y).drop (ltr b ++ w).length = (txt y).drop w.length := by
          rw [List.length_append, ← List.drop_drop]
          congr 1
          cases b <;> cases c <;> rfl
        rw [this]
        cases (b == c) <;> simp

theorem anyN_iff (f : List Nat → Bool) : ∀ x : List Nat, anyN f x = true ↔ ∃ i, i ≤ x.length ∧ f (x.drop i) = true
  | [] => by
    show f [] = true ↔ _
    constructor
    · exact fun h => ⟨0, by simp, h⟩
    · rintro ⟨i, hi, h⟩; simpa using h
  | c :: y => by
    show (f (c :: y) || anyN f y) = true ↔ _
    rw [Bool.or_eq_true, anyN_iff f y]
    constructor
    · rintro (h | ⟨i, hi, h⟩)
      · exact ⟨0, by simp, h⟩
      · exact ⟨i + 1, by simpa using hi, h⟩
    · rintro ⟨i, hi, h⟩
      cases i with
      | zero => exact .inl h
      | succ i => exact .inr ⟨i, by simpa using hi, h⟩

/-- words one behind the other between two places -/
def Fit (x : List Nat) (hi : Nat) : List (List Nat) → Nat → Prop
  | [], lo => lo ≤ hi
  | w :: r, lo => ∃ c, lo ≤ c ∧ pos x w hi c = true ∧ Fit x hi r (c + w.length)
theorem Fit.mono {x : List Nat} {hi : Nat} : ∀ {ws : List (List Nat)} {lo lo' : Nat}, lo' ≤ lo → Fit x hi ws lo → Fit x hi ws lo'
  | [], _, _, h, f => Nat.le_trans h f
  | w :: r, _, _, h, ⟨c, h1, h2, h3⟩ => ⟨c, Nat.le_trans h h1, h2, h3⟩
theorem Fit.le {x : List Nat} {hi : Nat} : ∀ {ws : List (List Nat)} {lo : Nat}, Fit x hi ws lo → lo ≤ hi
  | [], _, f => f
  | w :: r, lo, ⟨c, h1, h2, h3⟩ => by have := Fit.le h3; omega
theorem fnd_least {x y : List Nat} {lo hi c : Nat} (h : fnd x y lo hi = some c) : lo ≤ c ∧ pos x y hi c = true := by
  unfold fnd at h
  have h1 := List.find?_some h
  have h2 := List.mem_of_find?_eq_some h
  rw [List.mem_range'_1] at h2
  exact ⟨h2.1, h1⟩
theorem fnd_first {x y : List Nat} {lo hi c : Nat} (hlo : lo ≤ c) (h : pos x y hi c = true) : ∃ c', fnd x y lo hi = some c' ∧ c' ≤ c := by
  induction hk : c - lo using Nat.strongRecOn generalizing c with
  | _ k ih =>
    by_cases q : ∃ d, lo ≤ d ∧ d < c ∧ pos x y hi d = true
    · obtain ⟨d, h1, h2, h3⟩ := q
      obtain ⟨c', e, h4⟩ := ih (d - lo) (by omega) h1 h3 rfl
      exact ⟨c', e, by omega⟩
    · exact ⟨c, fnd_some h hlo fun d h1 h2 h3 => q ⟨d, h1, h2, h3⟩, Nat.le_refl _⟩
theorem ellL_fit {x : List Nat} {hi : Nat} : ∀ {ws : List (List Nat)} {lo : Nat}, lo ≤ hi → (ellL x hi ws lo = true ↔ Fit x hi ws lo)
  | [], lo, h => ⟨fun _ => h, fun _ => rfl⟩
  | w :: r, lo, h => by
    unfold ellL
    constructor
    · intro q
      cases hf : fnd x w lo hi with
      | none => rw [hf] at q; cases q
      | some c =>
        rw [hf] at q
        obtain ⟨h1, h2⟩ := fnd_least hf
        have : c + w.length ≤ hi := by unfold pos at h2; simp at h2; exact h2.1
        exact ⟨c, h1, h2, (ellL_fit this).mp q⟩
    · rintro ⟨c, h1, h2, h3⟩
      obtain ⟨c', e, h4⟩ := fnd_first h1 h2
      rw [e]
      obtain ⟨_, h5⟩ := fnd_least e
      have : c' + w.length ≤ hi := by unfold pos at h5; simp at h5; exact h5.1
      exact (ellL_fit this).mpr (h3.mono (by omega))
theorem fit_nil_head {x : List Nat} {hi : Nat} {ws : List (List Nat)} {lo : Nat} : Fit x hi ([] :: ws) lo ↔ Fit x hi ws lo := by
  constructor
  · rintro ⟨c, h1, h2, h3⟩; exact Fit.mono h1 h3
  · intro h
    refine ⟨lo, Nat.le_refl _, ?_, h⟩
    have := h.le
    unfold pos; simp; exact this
theorem fit_nil_last {x : List Nat} {hi : Nat} : ∀ {ws : List (List Nat)} {lo : Nat}, Fit x hi (ws ++ [[]]) lo ↔ Fit x hi ws lo
  | [], lo => fit_nil_head
  | w :: r, lo => by
    show (∃ c, lo ≤ c ∧ pos x w hi c = true ∧ Fit x hi (r ++ [[]]) (c + w.length)) ↔ ∃ c, lo ≤ c ∧ pos x w hi c = true ∧ Fit x hi r (c + w.length)
    constructor
    · rintro ⟨c, h1, h2, h3⟩; exact ⟨c, h1, h2, fit_nil_last.mp h3⟩
    · rintro ⟨c, h1, h2, h3⟩; exact ⟨c, h1, h2, fit_nil_last.mpr h3⟩
theorem ends_iff {x w : List Nat} : endsL x w = true ↔ w.length ≤ x.length ∧ x.drop (x.length - w.length) = w := by
  unfold endsL; simp
/-- what stands behind the first word -/
theorem anyN_fit {x w : List Nat} : ∀ {ws : List (List Nat)} {lo : Nat}, lo ≤ x.length → (anyN (mtc (ws ++ [w])) (x.drop lo) = true ↔ endsL x w = true ∧ Fit x (x.length - w.length) ws lo)
  | [], lo, hlo => by
    rw [anyN_iff, ends_iff]
    show (∃ i, i ≤ (x.drop lo).length ∧ ((x.drop lo).drop i == w) = true) ↔ _
    simp only [List.length_drop, List.drop_drop, beq_iff_eq]
    constructor
    · rintro ⟨i, hi, e⟩
      have hl := congrArg List.length e
      rw [List.length_drop] at hl
      refine ⟨⟨by omega, ?_⟩, ?_⟩
      · rw [show x.length - w.length = lo + i by omega]; exact e
      · show lo ≤ x.length - w.length; omega
    · rintro ⟨⟨h1, h2⟩, h3⟩
      have h3 : lo ≤ x.length - w.length := h3
      exact ⟨x.length - w.length - lo, by omega, by rw [show lo + (x.length - w.length - lo) = x.length - w.length by omega]; exact h2⟩
  | v :: r, lo, hlo => by
    rw [anyN_iff]
    have key : ∀ c, c ≤ x.length → (mtc (v :: (r ++ [w])) (x.drop c) = true ↔ startsL (x.drop c) v = true ∧ endsL x w = true ∧ Fit x (x.length - w.length) r (c + v.length)) := fun c hc => by
      obtain ⟨a, as, e⟩ : ∃ a as, r ++ [w] = a :: as := by cases r <;> simp
      rw [e]
      show (startsL (x.drop c) v && anyN (mtc (a :: as)) ((x.drop c).drop v.length)) = true ↔ _
      rw [Bool.and_eq_true, List.drop_drop, ← e]
      constructor
      · rintro ⟨h1, h2⟩
        have hl : c + v.length ≤ x.length := by
          unfold startsL at h1
          have := congrArg List.length (beq_iff_eq.mp h1)
          rw [List.length_take, List.length_drop] at this; omega
        exact ⟨h1, (anyN_fit hl).mp h2⟩
      · rintro ⟨h1, h2⟩
        have hl : c + v.length ≤ x.length := by
          unfold startsL at h1
          have := congrArg List.length (beq_iff_eq.mp h1)
          rw [List.length_take, List.length_drop] at this; omega
        exact ⟨h1, (anyN_fit hl).mpr h2⟩
    simp only [List.length_drop, List.drop_drop]
    constructor
    · rintro ⟨i, hi, h⟩
      obtain ⟨h1, h2, h3⟩ := (key (lo + i) (by omega)).mp h
      refine ⟨h2, lo + i, by omega, ?_, h3⟩
      have := h3.le
      unfold pos
      unfold startsL at h1
      rw [Bool.and_eq_true, decide_eq_true_eq]
      exact ⟨this, h1⟩
    · rintro ⟨h2, c, h1, h3, h4⟩
      unfold pos at h3
      rw [Bool.and_eq_true, decide_eq_true_eq] at h3
      refine ⟨c - lo, by omega, ?_⟩
      rw [show lo + (c - lo) = c by omega]
      exact (key c (by omega)).mpr ⟨h3.2, h2, h4⟩
theorem ellB_fit {x w : List Nat} {ws : List (List Nat)} {lo : Nat} (hlo : lo ≤ x.length) : ellB x (ws ++ [w]) lo = true ↔ endsL x w = true ∧ Fit x (x.length - w.length) ws lo := by
  unfold ellB
  simp only [List.getLastD_concat]
  cases w with
  | nil =>
    rw [if_pos (by rfl), if_neg (by omega), ellL_fit hlo, fit_nil_last]
    simp [ends_iff]
  | cons a r =>
    rw [if_neg (by simp)]
    by_cases he : endsL x (a :: r) = true
    · rw [if_pos he, List.dropLast_concat]
      by_cases hl : lo > x.length - (a :: r).length
      · rw [if_pos hl]
        constructor
        · intro h; cases h
        · rintro ⟨_, f⟩; have := f.le; omega
      · rw [if_neg hl, ellL_fit (by omega)]
        exact ⟨fun h => ⟨he, h⟩, fun h => h.2⟩
    · rw [if_neg he]
      constructor
      · intro h; cases h
      · rintro ⟨h, _⟩; exact absurd h he
theorem ellA_cons {x v : List Nat} {t : List (List Nat)} : ellA x (v :: t) = if v.isEmpty = true then ellB x (v :: t) 0 else if startsL x v = true then ellB x t v.length else false := rfl
theorem ellA_mtc {x v w : List Nat} {ws : List (List Nat)} : ellA x (v :: (ws ++ [w])) = mtc (v :: (ws ++ [w])) x := by
  rw [Bool.eq_iff_iff]
  obtain ⟨a, as, e⟩ : ∃ a as, ws ++ [w] = a :: as := by cases ws <;> simp
  have hm : mtc (v :: (ws ++ [w])) x = (startsL x v && anyN (mtc (ws ++ [w])) (x.drop v.length)) := by rw [e]; rfl
  rw [hm, ellA_cons]
  cases v with
  | nil =>
    rw [if_pos (by rfl), ← List.cons_append, ellB_fit (by omega), fit_nil_head, Bool.and_eq_true, List.length_nil, anyN_fit (by omega)]
    simp [startsL]
  | cons b r =>
    rw [if_neg (by simp)]
    by_cases hs : startsL x (b :: r) = true
    · have hl : (b :: r).length ≤ x.length := by
        have h1 := hs
        unfold startsL at h1
        have := congrArg List.length (beq_iff_eq.mp h1)
        rw [List.length_take] at this; omega
      rw [if_pos hs, ellB_fit hl, Bool.and_eq_true, anyN_fit hl]
      exact ⟨fun h => ⟨hs, h⟩, fun h => h.2⟩
    · rw [if_neg hs]
      constructor
      · intro h; cases h
      · intro h; rw [Bool.and_eq_true] at h; exact absurd h.1 hs

/-! the parts of a pattern -/
theorem pos_len (x y : List Nat) (hi i : Nat) (h : pos x y hi i = true) (hy : y ≠ []) : x[i]? = y[0]? := by
  unfold pos at h
  rw [Bool.and_eq_true, beq_iff_eq] at h
  cases y with
  | nil => exact absurd rfl hy
  | cons a r =>
    have := congrArg (·[0]?) h.2
    simpa using this
theorem pos_here {pre y post : List Nat} : pos (pre ++ y ++ post) y (pre ++ y ++ post).length pre.length = true := by
  unfold pos
  rw [Bool.and_eq_true, decide_eq_true_eq]
  refine ⟨by simp, ?_⟩
  rw [List.append_assoc, List.drop_left]
  simp
abbrev dots : List Nat := [46, 46, 46]
theorem splD_last {p : List Nat} {k lo : Nat} (hlo : lo ≤ p.length) (hn : (46 : Nat) ∉ p.drop lo) : splF p dots k lo = [p.drop lo] := by
  cases k with
  | zero => rfl
  | succ k =>
    have : fnd p dots lo p.length = none := fnd_none fun i hi h => by
      have h1 := pos_len _ _ _ _ h (by simp)
      apply hn
      exact List.mem_of_getElem? (l := p.drop lo) (i := i - lo) (a := 46) (by rw [List.getElem?_drop, show lo + (i - lo) = i by omega]; exact h1)
    rw [splF, this]
theorem splD_jn : ∀ (l : List (List Nat)) (a pre : List Nat) (k : Nat), l.length ≤ k → (∀ w ∈ a :: l, (46 : Nat) ∉ w) → splF (pre ++ jn dots (a :: l)) dots k pre.length = a :: l
  | [], a, pre, k, _, hn => by
    simp only [jn]
    rw [splD_last (by simp) (by rw [List.drop_left]; exact hn a (by simp)), List.drop_left]
  | b :: l, a, pre, k, hk, hn => by
    obtain ⟨k, rfl⟩ : ∃ j, k = j + 1 := ⟨k - 1, by simp at hk; omega⟩
    have e : pre ++ jn dots (a :: b :: l) = pre ++ a ++ dots ++ jn dots (b :: l) := by
      show pre ++ (a ++ dots ++ jn dots (b :: l)) = _
      simp only [List.append_assoc]
    have hf : fnd (pre ++ a ++ dots ++ jn dots (b :: l)) dots pre.length (pre ++ a ++ dots ++ jn dots (b :: l)).length = some (pre.length + a.length) := by
      refine fnd_some ?_ (by omega) fun i h1 h2 h3 => ?_
      · have := pos_here (pre := pre ++ a) (y := dots) (post := jn dots (b :: l))
        have e1 : (pre ++ a).length = pre.length + a.length := List.length_append
        rw [← e1]; exact this
      · have h4 := pos_len _ _ _ _ h3 (by simp)
        rw [List.append_assoc (pre ++ a), List.getElem?_append_left (by simp; omega), List.getElem?_append_right h1] at h4
        exact hn a (by simp) (List.mem_of_getElem? h4)
    rw [e, splF, hf]
    dsimp only
    rw [show pre.length + a.length + dots.length = (pre ++ a ++ dots).length by simp; omega]
    have ih := splD_jn l b (pre ++ a ++ dots) k (by simpa using hk) (fun w hw => hn w (.tail _ hw))
    rw [ih]
    have e1 : ((pre ++ a ++ dots ++ jn dots (b :: l)).drop pre.length).take (pre.length + a.length - pre.length) = a := by
      rw [List.append_assoc, List.append_assoc, List.drop_left, show pre.length + a.length - pre.length = a.length by omega, List.take_left]
    rw [e1]
theorem jnD_len : ∀ l : List (List Nat), l.length ≤ (jn dots l).length + 1
  | [] => by simp
  | [a] => by simp
  | a :: b :: r => by
    have := jnD_len (b :: r)
    simp only [jn, List.length_append, List.length_cons, List.length_nil] at this ⊢
    omega
theorem splD (a : List Nat) (l : List (List Nat)) (hn : ∀ w ∈ a :: l, (46 : Nat) ∉ w) : spl (jn dots (a :: l)) dots = a :: l := by
  have := splD_jn l a [] ((jn dots (a :: l)).length + 1) (by have := jnD_len (a :: l); simp at this ⊢; omega) hn
  simpa [spl] using this
abbrev patI (its : List (Option Bool)) : List Nat := (its.map itm).flatten
theorem segs_no : ∀ (its : List (Option Bool)), ∀ w ∈ segs its, (46 : Nat) ∉ w
  | [] => by simp [segs]
  | none :: r => by
    intro w hw
    simp only [segs, List.mem_cons] at hw
    rcases hw with rfl | hw
    · simp
    · exact segs_no r w hw
  | some b :: r => by
    intro w hw
    obtain ⟨v, vs, e⟩ := segs_cons r
    have hs : segs (some b :: r) = (ltr b ++ v) :: vs := by unfold segs; rw [e]
    rw [hs] at hw
    rcases List.mem_cons.mp hw with rfl | hw
    · have := segs_no r v (by rw [e]; simp)
      cases b <;> simp [ltr, this]
    · exact segs_no r w (by rw [e]; exact .tail _ hw)
theorem jn_segs : ∀ its, patI its = jn dots (segs its)
  | [] => rfl
  | none :: r => by
    obtain ⟨v, vs, e⟩ := segs_cons r
    show [46, 46, 46] ++ patI r = jn dots ([] :: segs r)
    rw [jn_segs r, e]; rfl
  | some b :: r => by
    obtain ⟨v, vs, e⟩ := segs_cons r
    have hs : segs (some b :: r) = (ltr b ++ v) :: vs := by unfold segs; rw [e]
    rw [hs]
    show ltr b ++ patI r = _
    rw [jn_segs r, e]
    cases vs with
    | nil => rfl
    | cons a as => simp [jn]
theorem jn_dots {a b : List Nat} {l : List (List Nat)} : (fnd (jn dots (a :: b :: l)) dots 0 (jn dots (a :: b :: l)).length).isSome = true := by
  obtain ⟨c, e, _⟩ := fnd_first (x := jn dots (a :: b :: l)) (y := dots) (lo := 0) (hi := (jn dots (a :: b :: l)).length) (c := a.length) (by omega) (pos_here (pre := a) (y := dots) (post := jn dots (b :: l)))
  rw [e]; rfl
theorem ell_glob (its : List (Option Bool)) (x : List Bool) : ell (patI its) (txt x) = glob its x := by
  rw [glob_mtc, jn_segs]
  have hn := segs_no its
  obtain ⟨v, vs, e⟩ := segs_cons its
  rw [e] at hn ⊢
  rcases List.eq_nil_or_concat vs with rfl | ⟨ws, w, rfl⟩
  · have : fnd (jn dots [v]) dots 0 (jn dots [v]).length = none := fnd_none fun i _ h => hn v (by simp) (List.mem_of_getElem? (pos_len _ _ _ _ h (by simp)))
    unfold ell
    rw [this, if_neg (by simp)]
    show (v == txt x) = (txt x == v)
    rw [Bool.eq_iff_iff, beq_iff_eq, beq_iff_eq]; exact eq_comm
  · rw [List.concat_eq_append] at *
    unfold ell
    have hs : (fnd (jn dots (v :: (ws ++ [w]))) dots 0 (jn dots (v :: (ws ++ [w]))).length).isSome = true := by
      obtain ⟨a, as, e⟩ : ∃ a as, ws ++ [w] = a :: as := by cases ws <;> simp
      rw [e]; exact jn_dots
    rw [if_pos hs, splD _ _ hn]
    exact ellA_mtc
end Mine

-- PV
namespace Mine
/-! a machine without choices that does what a pattern does -/
def isN (it : Option Bool) : Bool := it.isNone
def isB (it : Option Bool) (b : Bool) : Bool := match it with
  | none => false
  | some c => c == b
def stepA : List (Option Bool) → List Bool → Bool → Bool → Bool → List Bool
  | _, [], _, _, _ => []
  | [], _ :: _, _, c, _ => [c]
  | it :: r, a :: al, e, c, b => (c || ((a || e) && isN it)) :: stepA r al ((a || e) && isN it) (((a || e) && isB it b) || ((c || ((a || e) && isN it)) && isN it)) b
def initA : List (Option Bool) → Bool → List Bool
  | [], c => [c]
  | it :: r, c => c :: initA r (c && isN it)
def anyA : List (Option Bool) → List Bool → Bool → List Bool → Bool
  | _, [], _, _ => false
  | [], a :: _, e, x => (a || e) && x.isEmpty
  | it :: r, a :: al, e, x => ((a || e) && glob (it :: r) x) || anyA r al ((a || e) && isN it) x
theorem initA_len : ∀ (its : List (Option Bool)) (c : Bool), (initA its c).length = its.length + 1
  | [], c => rfl
  | it :: r, c => by simp [initA, initA_len r]
theorem stepA_len : ∀ (its : List (Option Bool)) (al : List Bool) (e c b : Bool), al.length = its.length + 1 → (stepA its al e c b).length = its.length + 1
  | its, [], e, c, b, h => by simp at h
  | [], a :: al, e, c, b, h => rfl
  | it :: r, a :: al, e, c, b, h => by
    simp only [stepA, List.length_cons]
    rw [stepA_len r al _ _ _ (by simpa using h)]
theorem glob_none_cons (r : List (Option Bool)) (b : Bool) (x : List Bool) : glob (none :: r) (b :: x) = (glob r (b :: x) || glob (none :: r) x) := rfl
theorem glob_none_ge (r : List (Option Bool)) (x : List Bool) (h : glob r x = true) : glob (none :: r) x = true := by
  show anyT (glob r) x = true
  cases x with
  | nil => exact h
  | cons c y => show (glob r (c :: y) || anyT (glob r) y) = true; rw [h]; rfl
theorem anyA_ge : ∀ (r : List (Option Bool)) (al : List Bool) (e : Bool) (x : List Bool), al.length = r.length + 1 → e = true → glob r x = true → anyA r al e x = true
  | r, [], e, x, h, _, _ => by simp at h
  | [], a :: al, e, x, h, he, hg => by subst he; show ((a || true) && x.isEmpty) = true; rw [show x.isEmpty = true from hg]; simp
  | it :: r, a :: al, e, x, h, he, hg => by subst he; show (((a || true) && glob (it :: r) x) || _) = true; rw [hg]; simp
theorem anyA_init : ∀ (its : List (Option Bool)) (c e : Bool) (x : List Bool), (e = true → c = true) → anyA its (initA its c) e x = (c && glob its x)
  | [], c, e, x, h => by
    show ((c || e) && x.isEmpty) = (c && x.isEmpty)
    cases c <;> cases e <;> simp_all
  | it :: r, c, e, x, h => by
    show (((c || e) && glob (it :: r) x) || anyA r (initA r (c && isN it)) ((c || e) && isN it) x) = _
    have hce : (c || e) = c := by cases c <;> cases e <;> simp_all
    rw [hce, anyA_init r _ _ _ (fun h => h)]
    cases c
    · simp
    · cases it with
      | some d => simp [isN]
      | none =>
        simp only [isN, Option.isNone_none, Bool.true_and]
        cases hg : glob r x
        · simp
        · rw [glob_none_ge r x hg]; rfl
theorem anyA_step : ∀ (its : List (Option Bool)) (al : List Bool) (e c e' b : Bool) (x : List Bool), al.length = its.length + 1 → (e' = true → c = true) → anyA its (stepA its al e c b) e' x = ((c && glob its x) || anyA its al e (b :: x))
  | its, [], e, c, e', b, x, h, _ => by simp at h
  | [], a :: al, e, c, e', b, x, h, hc => by
    show ((c || e') && x.isEmpty) = ((c && x.isEmpty) || ((a || e) && false))
    cases c <;> cases e' <;> simp_all
  | it :: r, a :: al, e, c, e', b, x, h, hc => by
    have hl : al.length = r.length + 1 := by simpa using h
    cases it with
    | some d =>
      show (((c || ((a || e) && false)) || e') && glob (some d :: r) x || anyA r (stepA r al ((a || e) && false) (((a || e) && (d == b)) || ((c || ((a || e) && false)) && false)) b) (((c || ((a || e) && false)) || e') && false) x) = _
      simp only [Bool.and_false, Bool.or_false]
      rw [anyA_step r al _ _ _ b x hl (by simp)]
      show _ = ((c && glob (some d :: r) x) || (((a || e) && glob (some d :: r) (b :: x)) || anyA r al ((a || e) && false) (b :: x)))
      have hce : (c || e') = c := by cases c <;> cases e' <;> simp_all
      rw [hce, Bool.and_false]
      have : glob (some d :: r) (b :: x) = ((d == b) && glob r x) := rfl
      rw [this, Bool.and_assoc]
    | none =>
      show (((c || ((a || e) && true)) || e') && glob (none :: r) x || anyA r (stepA r al ((a || e) && true) (((a || e) && false) || ((c || ((a || e) && true)) && true)) b) (((c || ((a || e) && true)) || e') && true) x) = _
      simp only [Bool.and_true, Bool.and_false, Bool.false_or]
      have hce : ((c || (a || e)) || e') = (c || (a || e)) := by cases c <;> cases e' <;> simp_all
      rw [hce, anyA_step r al _ _ _ b x hl (fun h => h)]
      show _ = ((c && glob (none :: r) x) || (((a || e) && glob (none :: r) (b :: x)) || anyA r al ((a || e) && true) (b :: x)))
      rw [glob_none_cons, Bool.and_true]
      have h1 := anyA_ge r al (a || e) (b :: x) hl
      have h2 := glob_none_ge r x
      revert h1 h2
      generalize glob (none :: r) x = G
      generalize glob r x = g
      generalize glob r (b :: x) = k
      generalize anyA r al (a || e) (b :: x) = z
      generalize (a || e) = u
      cases c <;> cases u <;> cases G <;> cases g <;> cases k <;> cases z <;> simp

/-- the pattern's own places, at the places of a machine without choices -/
structure Like (its : List (Option Bool)) (W : List Way) (E : List Nat) (L : List (Nat × List Bool)) : Prop where
  zero : (0, initA its true) ∈ L
  len : ∀ x ∈ L, x.2.length = its.length + 1
  step : ∀ p al b, (p, al) ∈ L → ∃ q, nextP W b p = some q ∧ (q, stepA its al false false b) ∈ L
  fin : ∀ p al, (p, al) ∈ L → anyA its al false [] = E.contains p
def likeB (its : List (Option Bool)) (W : List Way) (E : List Nat) (L : List (Nat × List Bool)) : Bool :=
  (L.any fun y => y.1 == 0 && y.2 == initA its true) && (L.all fun x => Nat.beq x.2.length (its.length + 1)) &&
  (L.all fun x => ([false, true].all fun b => match nextP W b x.1 with
    | none => false
    | some q => L.any fun y => y.1 == q && y.2 == stepA its x.2 false false b) && (anyA its x.2 false [] == E.contains x.1))
theorem mem_any {L : List (Nat × List Bool)} {q : Nat} {al : List Bool} (h : (L.any fun y => y.1 == q && y.2 == al) = true) : (q, al) ∈ L := by
  obtain ⟨⟨a, b⟩, hm, e⟩ := List.any_eq_true.mp h
  rw [Bool.and_eq_true, beq_iff_eq, beq_iff_eq] at e
  obtain ⟨rfl, rfl⟩ := e
  exact hm
theorem like_of {its : List (Option Bool)} {W : List Way} {E : List Nat} {L : List (Nat × List Bool)} (h : likeB its W E L = true) : Like its W E L := by
  unfold likeB at h
  rw [Bool.and_eq_true, Bool.and_eq_true] at h
  obtain ⟨⟨h1, h2⟩, h3⟩ := h
  have h3 := List.all_eq_true.mp h3
  refine ⟨mem_any h1, fun x hx => Nat.eq_of_beq_eq_true (List.all_eq_true.mp h2 x hx), fun p al b e => ?_, fun p al e => ?_⟩
  · have := h3 _ e
    rw [Bool.and_eq_true] at this
    have := List.all_eq_true.mp this.1 b (by cases b <;> simp)
    dsimp only at this
    cases hq : nextP W b p with
    | none => rw [hq] at this; cases this
    | some q => rw [hq] at this; exact ⟨q, rfl, mem_any this⟩
  · have := h3 _ e
    rw [Bool.and_eq_true] at this
    exact beq_iff_eq.mp this.2
theorem Like.run {its : List (Option Bool)} {W : List Way} {E : List Nat} {L : List (Nat × List Bool)} (k : Like its W E L) : ∀ (ds : List Bool) (p : Nat) (al : List Bool), (p, al) ∈ L → ∃ pd al', runD W ds p = some pd ∧ (pd, al') ∈ L ∧ anyA its al false ds = E.contains pd
  | [], p, al, e => ⟨p, al, rfl, e, k.fin p al e⟩
  | b :: r, p, al, e => by
    obtain ⟨q, h1, h2⟩ := k.step p al b e
    obtain ⟨pd, al', h3, h4, h5⟩ := k.run r q _ h2
    refine ⟨pd, al', by simp only [runD, h1]; exact h3, h4, ?_⟩
    rw [← h5, anyA_step its al false false false b r (k.len _ e) (fun h => h)]
    simp
theorem Like.ell {its : List (Option Bool)} {W : List Way} {E : List Nat} {L : List (Nat × List Bool)} (k : Like its W E L) (ds : List Bool) : ∃ pd al, runD W ds 0 = some pd ∧ (pd, al) ∈ L ∧ ell (patI its) (txt ds) = E.contains pd := by
  obtain ⟨pd, al, h1, h2, h3⟩ := k.run ds 0 _ k.zero
  refine ⟨pd, al, h1, h2, ?_⟩
  rw [ell_glob, ← h3, anyA_init its true false ds (by simp)]; rfl
theorem runD_snoc {W : List Way} : ∀ (ds : List Bool) (b : Bool) (p : Nat), runD W (ds ++ [b]) p = (runD W ds p).bind fun q => nextP W b q
  | [], b, p => by
    simp only [List.nil_append, runD, Option.bind_some]
    cases nextP W b p <;> rfl
  | c :: r, b, p => by
    simp only [List.cons_append, runD]
    cases nextP W c p with
    | none => rfl
    | some q => exact runD_snoc r b q
theorem Like.step_ok {its : List (Option Bool)} {W : List Way} {E : List Nat} {L : List (Nat × List Bool)} (k : Like its W E L) : ∀ (l : Wk), (∀ tp ∈ l, runD W tp.1 0 = some tp.2) → ∃ l', stepW W l = some l' ∧ ∀ tp ∈ l', runD W tp.1 0 = some tp.2
  | [], _ => ⟨[], rfl, by simp⟩
  | (t, p) :: r, h => by
    obtain ⟨l2, e2, h2⟩ := k.step_ok r fun tp htp => h tp (.tail _ htp)
    have hr := h (t, p) (.head _)
    obtain ⟨pd, al, h3, h4, _⟩ := k.run t 0 _ k.zero
    rw [hr] at h3; cases h3
    obtain ⟨x, hx, _⟩ := k.step p al false h4
    obtain ⟨y, hy, _⟩ := k.step p al true h4
    refine ⟨(t ++ [false], x) :: (t ++ [true], y) :: l2, by simp only [stepW, hx, hy, e2], fun tp htp => ?_⟩
    simp only [List.mem_cons] at htp
    rcases htp with rfl | rfl | htp
    · dsimp only at hr ⊢; rw [runD_snoc, hr]; exact hx
    · dsimp only at hr ⊢; rw [runD_snoc, hr]; exact hy
    · exact h2 tp htp
theorem Like.walk {its : List (Option Bool)} {W : List Way} {E : List Nat} {L : List (Nat × List Bool)} (k : Like its W E L) : ∀ (n : Nat) (l : Wk), (∀ tp ∈ l, runD W tp.1 0 = some tp.2) → walkN W (patI its) E n l = true
  | 0, l, _ => rfl
  | n + 1, l, h => by
    obtain ⟨l', e, h'⟩ := k.step_ok l h
    unfold walkN
    rw [e, Bool.and_eq_true]
    refine ⟨?_, k.walk n l' h'⟩
    unfold chkW
    rw [List.all_eq_true]
    intro tp htp
    obtain ⟨pd, al, h3, h4, h5⟩ := k.ell tp.1
    rw [h tp htp] at h3; cases h3
    rw [h5]; exact beq_self_eq_true _
end Mine

-- XH
namespace Mine
open PySem PySem.W PySem.Calls PyProof.Rows

/-! frames that wait, exceptions on their way -/
abbrev Stk := List (Env × Obj)
def frm (e : Env) (o : Obj) (h : Heap) : Prop := e.scope.kind ≠ .module ∧ e.frame = some e.locals ∧ (∃ es n, o.data = .dict es n) ∧ ∃ sl, h.get? e.locals = some { o with slots := sl }
def stk (k : Stk) : Ck where
  foot := k.map (·.1.locals)
  holds h := ∀ p ∈ k, frm p.1 p.2 h
  stable h h' s _ x p hp := by
    obtain ⟨a, b, c, sl, e⟩ := x p hp
    exact ⟨a, b, c, sl, s _ (List.mem_map_of_mem hp) _ e⟩
  live h x a ha := by
    obtain ⟨p, hp, rfl⟩ := List.mem_map.mp ha
    obtain ⟨_, _, ⟨es, n, c⟩, sl, e⟩ := x p hp
    exact ⟨_, e, .dict c⟩
theorem upTo_tk {h h' : Heap} (x : h.UpToSlots h') : TK h h' := fun a vs ⟨o, e, c, n, r⟩ => by
  obtain ⟨sl, e'⟩ := x a o e (fun ws q => by rw [r] at q; cases q)
  exact ⟨_, e', c, n, r⟩
theorem frm.up {e : Env} {o : Obj} {h h' : Heap} (f : frm e o h) (x : h.UpToSlots h') : frm e o h' := by
  obtain ⟨a, b, ⟨es, n, c⟩, sl, g⟩ := f
  obtain ⟨sl', g'⟩ := x _ _ g (fun ws q => by rw [show ({ o with slots := sl } : Obj).data = o.data from rfl, c] at q; cases q)
  exact ⟨a, b, ⟨es, n, c⟩, sl', g'⟩
theorem funFrames_of {h B : Heap} : ∀ {k : Stk}, (∀ p ∈ k, frm p.1 p.2 h) → (∀ p ∈ k, B.get? p.1.locals = none) → h.FunFrames B (k.map (·.1))
  | [], _, _ => trivial
  | p :: r, x, y => by
    obtain ⟨a, b, ⟨es, n, c⟩, sl, g⟩ := x p (.head _)
    exact ⟨a, ⟨_, _, b, y p (.head _), g, fun vs q => by rw [show ({ p.2 with slots := sl } : Obj).data = p.2.data from rfl, c] at q; cases q⟩, funFrames_of (fun q hq => x q (.tail _ hq)) fun q hq => y q (.tail _ hq)⟩

theorem foot_apart {P : List Ck} (h : (feet P).Nodup) {c d : Ck} (hc : c ∈ P) (hd : d ∈ P) (n : c ≠ d) {x : Addr} (a : x ∈ c.foot) (b : x ∈ d.foot) : False := by
  induction P with
  | nil => cases hc
  | cons y r ih =>
    have h' : (y.foot ++ feet r).Nodup := h
    rw [List.nodup_append] at h'
    rcases List.mem_cons.mp hc with rfl | hc'
    · rcases List.mem_cons.mp hd with rfl | hd'
      · exact n rfl
      · exact h'.2.2 x a x (mem_feet hd' b) rfl
    · rcases List.mem_cons.mp hd with rfl | hd'
      · exact h'.2.2 x b x (mem_feet hc' a) rfl
      · exact ih h'.2.1 hc' hd'

section
variable {D : WD} {n : Nat} {g B : Heap} {f : Fm} {ns : Nms} {m : Loc} {P : List Ck} {s : Shared} {k : Stk}

/-- what lies still while an exception is on its way -/
structure Cov (B g : Heap) (f : Fm) (k : Stk) (P : List Ck) : Prop where
  base : g.StaysIn B
  own : ∀ x ∈ f.own, ∃ o, B.get? x = some o
  pcs : ∀ c ∈ P, c ≠ stk k → ∀ x ∈ c.foot, ∃ o, B.get? x = some o

theorem St.slots {h' : Heap} (S : St D g f ns m P s) (C : Cov B g f k P) (b1 : B.StaysIn s.heap) (b2 : B.StaysIn h') (u : s.heap.UpToSlots h') : St D g f ns m P { s with heap := h' } := by
  have T := upTo_tk u
  have st : ∀ x o, (∃ o', B.get? x = some o') → s.heap.get? x = some o → h'.get? x = some o := fun x o ⟨o', e⟩ e' => by
    rw [b1 _ _ e] at e'; cases e'; exact b2 _ _ e
  refine ⟨S.ok, fun b o e => b2 _ _ (C.base _ _ e), ?_, fun x kd a na hk => ?_, S.cap, fun c hc => ?_, S.fresh, S.apart, fun c hc => ?_, S.gens, S.hos, S.hdr⟩
  · obtain ⟨M, hM, hq⟩ := S.lcl
    exact ⟨M, u.ns hM, fun x a na => let ⟨v, e, z⟩ := hq x a na; ⟨v, e, z.mono T⟩⟩
  · obtain ⟨c, v, hc, ⟨o, ho, hd⟩, hv⟩ := S.cell x kd a na hk
    refine ⟨c, v, hc, ⟨o, st c o ?_ ho, hd⟩, hv.mono T⟩
    rcases S.cap x c hc with q | ⟨o', q⟩
    · exact C.own c q
    · exact ⟨_, C.base _ _ q⟩
  · obtain ⟨v, o, ho, hd⟩ := S.owns c hc
    exact ⟨v, o, st c o (C.own c hc) ho, hd⟩
  · by_cases q : c = stk k
    · subst q
      exact fun p hp => (S.holds _ hc p hp).up u
    · exact c.stable _ _ (fun x hx o e => st x o (C.pcs c hc q x hx) e) T (S.holds c hc)

/-- an exception was made here, or came up to here -/
structure Made (D : WD) (g : Heap) (f : Fm) (ns : Nms) (k : Stk) (cls : String) (msg : AVal) (e : Addr) (m : Loc) (P : List Ck) (s : Shared) : Prop where
  mem : stk k ∈ P
  ex : ∃ h w, St D g f ns m P { s with heap := h } ∧ Heap.MadeExc h s.heap e cls [w] ∧ V h msg w
structure Fly (D : WD) (g : Heap) (f : Fm) (ns : Nms) (k : Stk) (l : List Env) (cls : String) (msg : AVal) (e : Addr) (m : Loc) (P : List Ck) (s : Shared) : Prop where
  mem : stk k ∈ P
  st : St D g f ns m P s
  ex : ∃ B t w, Cov B g f k P ∧ Heap.FlyingW B l e (.type cls) (.ref t) s.heap ∧ s.heap.TupAt t [w] ∧ V s.heap msg w ∧ B.get? t = none

theorem Made.st {cls : String} {msg : AVal} {e : Addr} (x : Made D g f ns k cls msg e m P s) : St D g f ns m P s := by
  obtain ⟨h, w, S, hm, _⟩ := x.ex
  exact S.junk hm.keeps

theorem St.lclObj (S : St D g f ns m P s) : ∃ o, s.heap.get? f.env.locals = some o ∧ ∃ es n, o.data = .dict es n := by
  obtain ⟨M, ⟨o, es, ep, ho, hd, _⟩, _⟩ := S.lcl
  exact ⟨o, ho, es, _, hd⟩
theorem St.frm (S : St D g f ns m P s) (hf : f.env.frame = some f.env.locals) {o : Obj} (ho : s.heap.get? f.env.locals = some o) : frm f.env o s.heap := by
  obtain ⟨o', ho', hd⟩ := S.lclObj
  rw [ho] at ho'; cases ho'
  exact ⟨by rw [S.ok.kind]; decide, hf, hd, o.slots, ho⟩

theorem Made.leave {A : Around} {cls : String} {msg : AVal} {e : Addr} (x : Made D g f ns k cls msg e m P s) (hf : f.env.frame = some f.env.locals) (hfr : A.frames = some (f.env :: k.map (·.1))) :
    wpAny (model D.prog D.w) A (leaving f.env (.ref e)) (fun _ s' => TK s.heap s'.heap ∧ Fly D g f ns k (k.map (·.1)) cls msg e m P s') NoE s := by
  obtain ⟨h, w, S, hm, hv⟩ := x.ex
  have apP : (feet P).Nodup := by
    have := S.apart
    rw [List.nodup_cons, List.nodup_append] at this
    exact this.2.2.1
  have nl : f.env.locals ∉ feet P := fun q => by
    have := S.apart
    rw [List.nodup_cons] at this
    exact this.1 (List.mem_append_right _ q)
  let l := f.env.locals :: (stk k).foot
  have hl : ∀ b o, g.get? b = some o → b ∉ l := fun b o e q => by
    rcases List.mem_cons.mp q with rfl | q
    · rw [S.fresh _ (.head _)] at e; cases e
    · rw [S.fresh b (.tail _ (List.mem_append_right _ (mem_feet x.mem q)))] at e; cases e
  have ownl : ∀ b ∈ f.own, b ∉ l := fun b hb q => by
    have ap := S.apart
    rw [List.nodup_cons, List.nodup_append] at ap
    rcases List.mem_cons.mp q with rfl | q
    · exact ap.1 (List.mem_append_left _ hb)
    · exact ap.2.2.2 b hb b (mem_feet x.mem q) rfl
  have C : Cov (hideAll h l) g f k P := by
    refine ⟨fun b o e => hideAll_get _ (S.keep _ _ e) (hl b o e), fun b hb => ?_, fun c hc n b hb => ?_⟩
    · obtain ⟨v, o, ho, _⟩ := S.owns b hb
      exact ⟨o, hideAll_get _ ho (ownl b hb)⟩
    · obtain ⟨o, ho, _⟩ := c.live _ (S.holds c hc) b hb
      refine ⟨o, hideAll_get _ ho fun q => ?_⟩
      rcases List.mem_cons.mp q with rfl | q
      · exact nl (mem_feet hc hb)
      · exact foot_apart apP hc x.mem n hb q
  have K := S.holds _ x.mem
  obtain ⟨oL, hoL, hdL⟩ := S.lclObj
  have FF : h.FunFrames (hideAll h l) (f.env :: k.map (·.1)) := funFrames_of (k := (f.env, oL) :: k) (fun p hp => by
    rcases List.mem_cons.mp hp with rfl | hp
    · exact S.frm hf hoL
    · exact K p hp) fun p hp => hideAll_none _ (by
    rcases List.mem_cons.mp hp with rfl | hp
    · exact .head _
    · exact .tail _ (List.mem_map_of_mem (f := fun p : Env × Obj => p.1.locals) hp))
  refine wpAny_leaves_madeW hfr hf (fun b o e => of_hideAll _ e) FF (Heap.MadeExc.of hm) fun h' t x1 x2 x3 x4 => ?_
  have S1 : St D g f ns m P s := x.st
  have T1 := upTo_tk x4
  exact ⟨T1, x.mem, S1.slots C (fun b o e => hm.keeps _ _ (of_hideAll _ e)) x1.1 x4, _, t, w, C, x1, x2, (hv.mono (.keeps hm.keeps)).mono T1, x3⟩

theorem Fly.leave {A : Around} {cls : String} {msg : AVal} {e : Addr} {l : List Env} (x : Fly D g f ns k (f.env :: l) cls msg e m P s) (hf : f.env.frame = some f.env.locals) (hfr : A.frames = some (f.env :: l)) :
    wpAny (model D.prog D.w) A (leaving f.env (.ref e)) (fun _ s' => TK s.heap s'.heap ∧ Fly D g f ns k l cls msg e m P s') NoE s := by
  obtain ⟨B, t, w, C, x1, x2, x3, x4⟩ := x.ex
  refine wpAny_leaves_onW hfr hf x1 fun h' y1 y2 => ?_
  have T1 := upTo_tk y2
  exact ⟨T1, x.mem, x.st.slots C x1.1 y1.1 y2, B, t, w, C, y1, x2.of_slots y2, x3.mono T1, x4⟩

/-- back in the frame that waited -/
theorem St.backF {f' : Fm} {ns' : Nms} {m' : Loc} {P' P'' : List Ck} {s' : Shared} {o : Obj} (S : St D g f ns m P s) (ho : s.heap.get? f.env.locals = some o)
    (S' : St D (hideAll s.heap (f.env.locals :: feet P)) f' ns' m' P' s') (w : Sw P' (stk ((f.env, o) :: k)) (stk k) P'') : St D g f ns m P'' s' ∧ TK s.heap s'.heap := by
  have ap := S.apart
  rw [List.nodup_cons, List.nodup_append] at ap
  have n1 : ∀ b o, g.get? b = some o → b ∉ f.env.locals :: feet P := fun b o e q => by
    rcases List.mem_cons.mp q with rfl | q
    · rw [S.fresh _ (.head _)] at e; cases e
    · rw [S.fresh b (.tail _ (List.mem_append_right _ q))] at e; cases e
  have n2 : ∀ c ∈ f.own, c ∉ f.env.locals :: feet P := fun c hc q => by
    rcases List.mem_cons.mp q with rfl | q
    · exact ap.1 (List.mem_append_left _ hc)
    · exact ap.2.2.2 c hc c q rfl
  have keep : ∀ b o, b ∉ f.env.locals :: feet P → s.heap.get? b = some o → s'.heap.get? b = some o := fun b o n e => S'.keep b o (hideAll_get _ e n)
  have T : TK s.heap s'.heap := tk_of keep fun b hb => S.liveF (by
    rcases List.mem_cons.mp hb with rfl | hb
    · exact .head _
    · exact .tail _ (List.mem_append_right _ hb))
  obtain ⟨X, Y, rfl, rfl⟩ := w.split
  have hfe : ∀ c : Ck, feet (X ++ c :: Y) = feet X ++ (c.foot ++ feet Y) := fun c => by rw [feet_append]; rfl
  have hfo : (stk ((f.env, o) :: k)).foot = f.env.locals :: (stk k).foot := rfl
  have ap' := S'.apart
  rw [hfe, hfo, List.nodup_cons, List.nodup_append] at ap'
  have nd' := ap'.2.2.1
  have perm : (feet X ++ ((f.env.locals :: (stk k).foot) ++ feet Y)).Perm (f.env.locals :: feet (X ++ stk k :: Y)) := by
    rw [hfe, List.cons_append]; exact List.perm_middle
  have nd2 := perm.nodup_iff.mp nd'
  rw [List.nodup_cons] at nd2
  have sub : ∀ x ∈ feet (X ++ stk k :: Y), x ∈ feet (X ++ stk ((f.env, o) :: k) :: Y) := fun x hx => by
    rw [hfe]; exact perm.mem_iff.mpr (.tail _ hx)
  have out : ∀ x ∈ feet (X ++ stk k :: Y), ∀ o, s.heap.get? x = some o → x ∈ f.env.locals :: feet P := fun x hx o e => by
    by_cases q : x ∈ f.env.locals :: feet P
    · exact q
    · have := S'.fresh x (.tail _ (List.mem_append_right _ (sub x hx)))
      rw [hideAll_get _ e q] at this; cases this
  refine ⟨⟨S.ok, fun b o e => keep b o (n1 b o e) (S.keep b o e), ?_, fun y kd b na hkd => ?_, S.cap, fun c hc => ?_, fun x hx => ?_, ?_, fun c hc => ?_, S'.gens, S'.hos, S'.hdr⟩, T⟩
  · obtain ⟨M, ⟨o', es, ep, ho', hd, r⟩, hq⟩ := S.lcl
    rw [ho] at ho'; cases ho'
    obtain ⟨_, _, _, sl, e⟩ := S'.holds (stk ((f.env, o) :: k)) (by simp) (f.env, o) (.head _)
    exact ⟨M, ⟨_, es, ep, e, hd, r⟩, fun y b na => let ⟨w, e, z⟩ := hq y b na; ⟨w, e, z.mono T⟩⟩
  · obtain ⟨c, w, h1, ⟨o, h2, h3⟩, h4⟩ := S.cell y kd b na hkd
    refine ⟨c, w, h1, ⟨o, keep c o ?_ h2, h3⟩, h4.mono T⟩
    rcases S.cap y c h1 with h5 | ⟨o', h5⟩
    · exact n2 c h5
    · exact n1 c o' h5
  · obtain ⟨w, o, h1, h2⟩ := S.owns c hc
    exact ⟨w, o, keep c o (n2 c hc) h1, h2⟩
  · rcases List.mem_cons.mp hx with rfl | hx
    · exact S.fresh _ (.head _)
    · rcases List.mem_append.mp hx with hx | hx
      · exact S.fresh x (.tail _ (List.mem_append_left _ hx))
      · cases q : g.get? x with
        | none => rfl
        | some o => exact absurd (out x hx o (S.keep x o q)) (n1 x o q)
  · rw [List.nodup_cons, List.nodup_append]
    refine ⟨fun q => ?_, ap.2.1, nd2.2, fun c hc y hy e => ?_⟩
    · rcases List.mem_append.mp q with q | q
      · exact ap.1 (List.mem_append_left _ q)
      · exact nd2.1 q
    · subst e
      obtain ⟨w, o, h1, h2⟩ := S.owns c hc
      exact n2 c hc (out c hy o h1)
  · rcases List.mem_append.mp hc with hc | hc
    · exact S'.holds c (List.mem_append_left _ hc)
    · rcases List.mem_cons.mp hc with rfl | hc
      · exact fun p hp => S'.holds (stk ((f.env, o) :: k)) (by simp) p (.tail _ hp)
      · exact S'.holds c (List.mem_append_right _ (.tail _ hc))

theorem Cov.back {f' : Fm} {P' P'' : List Ck} {o : Obj} (S : St D g f ns m P s) (C : Cov B (hideAll s.heap (f.env.locals :: feet P)) f' ((f.env, o) :: k) P') (w : Sw P' (stk ((f.env, o) :: k)) (stk k) P'')
    (nd : (feet P').Nodup) : Cov B g f k P'' := by
  have ap := S.apart
  rw [List.nodup_cons, List.nodup_append] at ap
  refine ⟨fun b o e => C.base b o (hideAll_get _ (S.keep _ _ e) fun q => ?_), fun b hb => ?_, fun c hc n x hx => ?_⟩
  · rcases List.mem_cons.mp q with rfl | q
    · rw [S.fresh _ (.head _)] at e; cases e
    · rw [S.fresh b (.tail _ (List.mem_append_right _ q))] at e; cases e
  · obtain ⟨v, o, ho, _⟩ := S.owns b hb
    refine ⟨o, C.base b o (hideAll_get _ ho fun q => ?_)⟩
    rcases List.mem_cons.mp q with rfl | q
    · exact ap.1 (List.mem_append_left _ hb)
    · exact ap.2.2.2 b hb b q rfl
  · obtain ⟨X, Y, rfl, rfl⟩ := w.split
    have hcP : c ∈ X ++ stk ((f.env, o) :: k) :: Y := by
      rcases List.mem_append.mp hc with hc | hc
      · exact List.mem_append_left _ hc
      · rcases List.mem_cons.mp hc with rfl | hc
        · exact absurd rfl n
        · exact List.mem_append_right _ (.tail _ hc)
    refine C.pcs c hcP (fun q => ?_) x hx
    -- the lent piece stands but once
    subst q
    rw [feet_append] at nd
    have h1 : f.env.locals ∈ (stk ((f.env, o) :: k)).foot := .head _
    rw [List.nodup_append] at nd
    have nd2 : ((stk ((f.env, o) :: k)).foot ++ feet Y).Nodup := nd.2.1
    rw [List.nodup_append] at nd2
    rcases List.mem_append.mp hc with hc | hc
    · exact nd.2.2 _ (mem_feet hc h1) _ (List.mem_append_left _ h1) rfl
    · rcases List.mem_cons.mp hc with q | hc
      · exact n q
      · exact nd2.2.2 _ h1 _ (mem_feet hc h1) rfl
end
end Mine

-- XI
namespace Mine
open PySem PySem.W PySem.Calls PyProof.Rows

abbrev XQ := Bool → String → AVal → Loc → List Ck → Prop
def RPost (D : WD) (g : Heap) (f : Fm) (ns : Nms) (k : Stk) (s0 : Shared) (X : XQ) : Value → Shared → Prop := fun v s' =>
  ∃ mk e cls msg m' P', v = .ref e ∧ TK s0.heap s'.heap ∧ (if mk = true then Made D g f ns k cls msg e m' P' s' else Fly D g f ns k (f.env :: k.map (·.1)) cls msg e m' P' s') ∧ X mk cls msg m' P'
theorem RPost.pre {D : WD} {g : Heap} {f : Fm} {ns : Nms} {k : Stk} {s0 s1 : Shared} {X : XQ} {v : Value} {s' : Shared} (x : RPost D g f ns k s1 X v s') (T : TK s0.heap s1.heap) : RPost D g f ns k s0 X v s' :=
  let ⟨mk, e, cls, msg, m', P', a, b, c, d⟩ := x; ⟨mk, e, cls, msg, m', P', a, T.trans b, c, d⟩

/-- what a tree that may raise makes of a state -/
def Wz {α β : Type} (D : WD) (n : Nat) (f : Fm) (k : Stk) (ns : Nms) (R : Heap → β → α → Prop) (as : List AVal) (t : List Value → Sem α) (m : Loc) (P : List Ck) (Q : β → Loc → List Ck → Prop) (X : XQ) : Prop :=
  ∀ A g s vs, A.frames = some (f.env :: k.map (·.1)) → Room D n A → PF D g → St D g f ns m P s → Vs s.heap as vs →
    wpAny (model D.prog D.w) A (t vs) (Post D g f ns R s Q) (RPost D g f ns k s X) s

abbrev EvZ (D : WD) (n : Nat) (f : Fm) (k : Stk) (ns : Nms) (e : Expr) (m : Loc) (P : List Ck) (Q : AVal → Loc → List Ck → Prop) (X : XQ) : Prop := Wz D n f k ns V [] (fun _ => eval e f.env) m P Q X
abbrev ExZ (D : WD) (n : Nat) (f : Fm) (k : Stk) (ns : Nms) (st : Stmt) (m : Loc) (P : List Ck) (Q : AFlow → Loc → List Ck → Prop) (X : XQ) : Prop := Wz D n f k ns F [] (fun _ => exec st f.env) m P Q X
abbrev ExsZ (D : WD) (n : Nat) (f : Fm) (k : Stk) (ns : Nms) (ss : List Stmt) (m : Loc) (P : List Ck) (Q : AFlow → Loc → List Ck → Prop) (X : XQ) : Prop := Wz D n f k ns F [] (fun _ => execs ss f.env) m P Q X
abbrev TrZ (D : WD) (n : Nat) (f : Fm) (k : Stk) (ns : Nms) (e : Expr) (m : Loc) (P : List Ck) (Q : Bool → Loc → List Ck → Prop) (X : XQ) : Prop := Wz D n f k ns Eqv [] (fun _ => isTrue e f.env (eval e f.env)) m P Q X
abbrev ArZ (D : WD) (n : Nat) (f : Fm) (k : Stk) (ns : Nms) (es : List Expr) (pos : Pos) (m : Loc) (P : List Ck) (Q : List AVal → Loc → List Ck → Prop) (X : XQ) : Prop :=
  Wz D n f k ns Vs [] (fun _ => spliced (backTo pos (starEach es f.env))) m P Q X
abbrev CalZ (D : WD) (n : Nat) (f : Fm) (k : Stk) (ns : Nms) (fa : AVal) (as ks : List AVal) (kn : List Str) (m : Loc) (P : List Ck) (Q : AVal → Loc → List Ck → Prop) (X : XQ) : Prop :=
  Wz D n f k ns V (as ++ ks) (fun vs => call (valOf fa) (vs.take as.length) (kn.zip (vs.drop as.length))) m P Q X

section
variable {D : WD} {n : Nat} {f : Fm} {k : Stk} {ns : Nms} {m : Loc} {P : List Ck} {X : XQ}

theorem Wz.of {α β : Type} {R : Heap → β → α → Prop} {as : List AVal} {t : List Value → Sem α} {Q : β → Loc → List Ck → Prop} (h : Wp D n f ns R as t m P Q) : Wz D n f k ns R as t m P Q X := fun A g s vs _ r p S hv =>
  wpAny_mono (h A g s vs r p S hv) (fun _ _ x => x) fun _ _ e => e.elim
theorem Wz.run {α β : Type} {R : Heap → β → α → Prop} {as : List AVal} {t : List Value → Sem α} {Q : β → Loc → List Ck → Prop} (h : Wz D n f k ns R as t m P Q X)
    {A : Around} {g : Heap} {s : Shared} {vs : List Value} {Q' : α → Shared → Prop} {E' : Value → Shared → Prop} (hfr : A.frames = some (f.env :: k.map (·.1))) (r : Room D n A) (p : PF D g) (S : St D g f ns m P s) (hv : Vs s.heap as vs)
    (hq : ∀ b m' P' x s', TK s.heap s'.heap → R s'.heap b x → St D g f ns m' P' s' → Q b m' P' → Q' x s') (hx : ∀ v s', RPost D g f ns k s X v s' → E' v s') : wpAny (model D.prog D.w) A (t vs) Q' E' s :=
  wpAny_mono (h A g s vs hfr r p S hv) (fun x s' ⟨b, m', P', T, rb, S', q⟩ => hq b m' P' x s' T rb S' q) hx
theorem Wz.mono {α β : Type} {R : Heap → β → α → Prop} {as : List AVal} {t : List Value → Sem α} {Q Q' : β → Loc → List Ck → Prop} {X' : XQ} (h : Wz D n f k ns R as t m P Q X)
    (hq : ∀ b m' P', Q b m' P' → Q' b m' P') (hx : ∀ mk cls msg m' P', X mk cls msg m' P' → X' mk cls msg m' P') : Wz D n f k ns R as t m P Q' X' := fun A g s vs hfr r p S hv =>
  wpAny_mono (h A g s vs hfr r p S hv) (fun x s' ⟨b, m', P', T, rb, S', q⟩ => ⟨b, m', P', T, rb, S', hq _ _ _ q⟩) fun v s' ⟨mk, e, cls, msg, m', P', a, b, c, d⟩ => ⟨mk, e, cls, msg, m', P', a, b, c, hx _ _ _ _ _ d⟩
theorem Wz.perm {α β : Type} {R : Heap → β → α → Prop} {as : List AVal} {t : List Value → Sem α} {Q : β → Loc → List Ck → Prop} {P' : List Ck}
    (hp : P.Perm P') (h : Wz D n f k ns R as t m P' Q X) : Wz D n f k ns R as t m P Q X := fun A g s vs hfr r p S hv => h A g s vs hfr r p (S.perm hp) hv
theorem Wz.room {α β : Type} {n' : Nat} {R : Heap → β → α → Prop} {as : List AVal} {t : List Value → Sem α} {Q : β → Loc → List Ck → Prop}
    (hp : n' ≤ n) (h : Wz D n' f k ns R as t m P Q X) : Wz D n f k ns R as t m P Q X := fun A g s vs hfr r p S hv => h A g s vs hfr (r.mono hp) p S hv

/-- the states at the start of a body -/
theorem St.enter {s : Shared} {fd : FuncData} {a : Addr} {h₂ : Heap} {tk : Nat} {ab : List (Str × AVal)} {bs : List (Str × Value)} {P' : List Ck} (hos : s.os = D.os) (hdr : s.drawn = D.dr) (hge : s.gens = #[]) (hh : ∀ c ∈ P', c.holds s.heap) (nd : (feet P').Nodup)
    (hgl : fd.globals = mainGlobals) (hbl : fd.builtins = builtinsNs) (hk : fd.scope.kind = .function) (hnd : (fd.scope.names.map (·.1)).Nodup) (hfree : (fd.scope.names.all fun p => p.2 != .free) = true) (hbr : BR s.heap ab bs) (ndb : (bs.map (·.1)).Nodup)
    (kind : ∀ x ∈ bs, (x.1, NameKind.local) ∈ fd.scope.names ∨ (x.1, NameKind.cell) ∈ fd.scope.names)
    (hkp : ∀ b o, s.heap.get? b = some o → h₂.get? b = some o) (hns : h₂.Ns s.heap.objs.size (bindL (callEnvC fd s.heap.objs.size a).kindOf bs fun _ => none))
    (hcell : ∀ x c, (callEnvC fd s.heap.objs.size a).cells.lookup x = some c → h₂.IsCell c (bindC (callEnvC fd s.heap.objs.size a).kindOf bs (fun _ => none) x))
    (habove : ∀ x c, (x, c) ∈ (callEnvC fd s.heap.objs.size a).cells → s.heap.objs.size < c)
    (hcs : ((callEnvC fd s.heap.objs.size a).cells.map (·.2)).Nodup) :
    St D (hideAll s.heap (feet P')) (frameOf fd s.heap.objs.size a) fd.scope.names (initL fd.scope.names ab) P' { s with heap := h₂, toks := tk } := by
  have above : ∀ c ∈ ownOf fd.scope.names (callEnvC fd s.heap.objs.size a).cells, s.heap.objs.size < c := fun c hc => by
    obtain ⟨x, _, e⟩ := mem_ownOf hc
    exact habove x c (mem_of_lookup e)
  have big' : ∀ x, s.heap.objs.size ≤ x → (hideAll s.heap (feet P')).get? x = none := fun x hx => by
    cases q : (hideAll s.heap (feet P')).get? x with
    | none => rfl
    | some o => exact absurd (Heap.lt_size (of_hideAll _ q)) (Nat.not_lt.mpr hx)
  have small : ∀ x ∈ feet P', x < s.heap.objs.size := fun x hx => by
    obtain ⟨c, hc, hx⟩ := List.mem_flatMap.mp hx
    obtain ⟨o, e, _⟩ := c.live _ (hh c hc) x hx
    exact Heap.lt_size e
  have T2 : TK s.heap h₂ := .keeps hkp
  have kd : ∀ x, (callEnvC fd s.heap.objs.size a).kindOf x = fd.scope.names.lookup x := fun _ => rfl
  refine ⟨⟨hk, rfl, hnd, hgl, hbl, hcs, fun x hx => ?_⟩, fun b o e => hkp b o (of_hideAll _ e), ⟨_, hns, fun x b na => ?_⟩, fun x k b na hkk => ?_, fun x c hc => .inl ?_, fun c hc => ?_, fun x hx => ?_, ?_, fun c hc => ?_, hge, hos, hdr⟩
  · rcases hx with hx | hx
    · exact cellsFrom_some (.inr hx)
    · have := List.all_eq_true.mp hfree _ hx
      simp at this
  · obtain ⟨v, hm, hv⟩ := hbr.get (initL_at na)
    exact ⟨v, bindL_get ndb hm (by rw [kd]; exact lookup_of_mem hnd na.mem), hv.mono T2⟩
  · obtain ⟨v, hm, hv⟩ := hbr.get (initL_at na)
    rcases hkk with rfl | rfl
    · obtain ⟨c, hc⟩ := Option.isSome_iff_exists.mp (cellsFrom_some (k := s.heap.objs.size + 1) (acc := []) (.inr na.mem))
      refine ⟨c, v, hc, ?_, hv.mono T2⟩
      have := hcell x c hc
      rw [bindC_get ndb hm (by rw [kd, lookup_of_mem hnd na.mem]; decide)] at this
      exact this
    · rcases kind (x, v) hm with h | h
      · cases nodup_fst hnd h na.mem
      · cases nodup_fst hnd h na.mem
  · have := cellsFrom_mem (mem_of_lookup hc)
    rcases this with h | h
    · cases h
    · exact ownOf_mem h hc
  · obtain ⟨x, _, e⟩ := mem_ownOf hc
    exact ⟨_, hcell x c e⟩
  · cases hx with
    | head => exact big' _ (Nat.le_refl _)
    | tail _ hx =>
      rcases List.mem_append.mp hx with hx | hx
      · exact big' _ (Nat.le_of_lt (above x hx))
      · exact hideAll_none _ hx
  · rw [List.nodup_cons, List.nodup_append]
    refine ⟨fun q => ?_, ownOf_nodup hnd hcs, nd, fun c hc y hy e => ?_⟩
    · rcases List.mem_append.mp q with q | q
      · exact Nat.lt_irrefl _ (above _ q)
      · exact Nat.lt_irrefl _ (small _ q)
    · subst e
      exact Nat.lt_irrefl _ (Nat.lt_trans (small c hy) (above c hc))
  · exact c.stable _ _ (fun x hx o e => hkp x o e) T2 (hh c hc)

theorem hideAll_congr {h : Heap} {l l' : List Addr} (e : ∀ x, x ∈ l ↔ x ∈ l') : ∀ b, (hideAll h l).get? b = (hideAll h l').get? b := fun b => by
  by_cases q : b ∈ l
  · rw [hideAll_none _ q, hideAll_none _ ((e b).mp q)]
  · cases hb : h.get? b with
    | none =>
      cases h1 : (hideAll h l).get? b with
      | none =>
        cases h2 : (hideAll h l').get? b with
        | none => rfl
        | some o => have := of_hideAll _ h2; rw [hb] at this; cases this
      | some o => have := of_hideAll _ h1; rw [hb] at this; cases this
    | some o => rw [hideAll_get _ hb q, hideAll_get _ hb fun q' => q ((e b).mpr q')]
theorem St.base {g g' : Heap} {s : Shared} (S : St D g f ns m P s) (e : ∀ b, g.get? b = g'.get? b) : St D g' f ns m P s :=
  ⟨S.ok, fun b o x => S.keep b o ((e b).trans x), S.lcl, S.cell, fun x c h => (S.cap x c h).imp id fun ⟨o, q⟩ => ⟨o, (e c).symm.trans q⟩, S.owns, fun x hx => (e x).symm.trans (S.fresh x hx), S.apart, S.holds, S.gens, S.hos, S.hdr⟩

def CodeZ (D : WD) (n : Nat) (f : Fm) (k : Stk) (ns : Nms) (as : List AVal) (c : List Value → Code) (m : Loc) (P : List Ck) (Q : AVal → Loc → List Ck → Prop) (X : XQ) : Prop :=
  ∀ A g s vs, A.frames = some (f.env :: k.map (·.1)) → Room D n A → PF D g → St D g f ns m P s → Vs s.heap as vs → codeAny (model D.prog D.w) A (c vs) (fun r s' => match r with
    | .ok (.ret x) => ∃ b m' P', TK s.heap s'.heap ∧ V s'.heap b x ∧ St D g f ns m' P' s' ∧ Q b m' P'
    | .ok _ => False
    | .error e => RPost D g f ns k s X e s') s

theorem Wz.codeC {as : List AVal} {Q : AVal → Loc → List Ck → Prop} {a : Addr} {oc : Value} {od : Option Addr} {fd : FuncData} {osl : Array (Option Value)} {body : List Stmt} {mk : List Value → Args} (hf : f.env.frame = some f.env.locals)
    (ho : D.K.lookup a = some ⟨oc, od, .func fd, osl⟩) (hbody : fd.body = .stmts body) (hcd : codeIn D.K fd.code fd.qualname = true) (hclo : fd.closure = []) (hgl : fd.globals = mainGlobals) (hbl : fd.builtins = builtinsNs)
    (hnd : (fd.scope.names.map (·.1)).Nodup) (hfree : (fd.scope.names.all fun p => p.2 != .free) = true)
    (hb : Wp D n f ns BR as (fun vs => bindArgs fd (mk vs)) m P fun ab m1 P1 => (ab.map (·.1)).Nodup ∧ (∀ p ∈ ab, (p.1, NameKind.local) ∈ fd.scope.names ∨ (p.1, NameKind.cell) ∈ fd.scope.names) ∧
      ∀ L o, ∃ P1', Sw P1 (stk k) (stk ((f.env, o) :: k)) P1' ∧ Wz D n (frameOf fd L a) ((f.env, o) :: k) fd.scope.names F [] (fun _ => execs body (callEnvC fd L a)) (initL fd.scope.names ab) P1'
        (fun fl _ P2 => ∃ P2', Sw P2 (stk ((f.env, o) :: k)) (stk k) P2' ∧ Q (retOf fl) m1 P2') (fun mk cls msg _ P2 => ∃ P2', Sw P2 (stk ((f.env, o) :: k)) (stk k) P2' ∧ X false cls msg m1 P2'))
    (hco : fd.scope.isCoroutine = false := by rfl) (hgen : fd.scope.isGenerator = false := by rfl) (hk : fd.scope.kind = .function := by rfl) :
    CodeZ D (n + 1) f k ns as (fun vs => .call (.ref a) (mk vs)) m P Q X := fun A g s vs hfr r p S hv => by
  refine codeAny_call_function r.lt (S.keep _ _ (p.K _ _ ho)) rfl hco hgen hbody (codeRec_of (p.K.keeps S.keep) hcd) ?_
  refine wpAny_mono (hb A.in1 g s vs r.in1 p S hv) (fun bs s₁ => ?_) fun _ _ e => e.elim
  rintro ⟨ab, m1, P1, T1, hbr, S1, nda, hin, hW⟩
  rw [hclo, hgl, hbl]
  have kind : ∀ x ∈ bs, (x.1, NameKind.local) ∈ fd.scope.names ∨ (x.1, NameKind.cell) ∈ fd.scope.names := fun x hx => by
    have : x.1 ∈ ab.map (·.1) := hbr.names ▸ List.mem_map_of_mem hx
    obtain ⟨p, hp, e⟩ := List.mem_map.mp this
    exact e ▸ hin p hp
  have ndb : (bs.map (·.1)).Nodup := by rw [hbr.names]; exact nda
  refine wpAny_newFunctionEnv_cells hk (fun x hx => ?_) fun env he s₂ Y => ?_
  · rcases kind x hx with h | h
    · exact .inl (lookup_of_mem hnd h)
    · exact .inr ⟨lookup_of_mem hnd h, cellsFrom_some (.inr h)⟩
  obtain rfl : env = callEnvC fd s₁.heap.objs.size a := by rw [he]; unfold callEnvC; rw [hgl, hbl]
  obtain ⟨h₂, tk, rfl, hkp⟩ := Y.done
  refine ⟨(p.nolimit.keeps S1.keep).keeps hkp, ?_⟩
  refine codeAny_func ?_
  have hcs : ((callEnvC fd s₁.heap.objs.size a).cells.map (·.2)).Nodup := List.pairwise_map.mpr Y.apart
  obtain ⟨o, hoL, _⟩ := S1.lclObj
  obtain ⟨P1', hsw, hW⟩ := hW s₁.heap.objs.size o
  have hfm := S1.frm hf hoL
  obtain ⟨U, W, hU, hU'⟩ := hsw.split
  have hfe : ∀ (c : Ck) (U W : List Ck), feet (U ++ c :: W) = feet U ++ (c.foot ++ feet W) := fun c U W => by rw [feet_append]; rfl
  have perm : (feet P1').Perm (f.env.locals :: feet P1) := by
    rw [hU, hU', hfe, hfe]
    show (feet U ++ (f.env.locals :: ((stk k).foot ++ feet W))).Perm _
    exact List.perm_middle
  have apP := S1.apart
  rw [List.nodup_cons, List.nodup_append] at apP
  have nd' : (feet P1').Nodup := by
    rw [perm.nodup_iff, List.nodup_cons]
    exact ⟨fun q => apP.1 (List.mem_append_right _ q), apP.2.2.1⟩
  have hh' : ∀ c ∈ P1', c.holds s₁.heap := fun c hc => by
    have hs : (stk k).holds s₁.heap := S1.holds _ (by rw [hU]; simp)
    rw [hU'] at hc
    rcases List.mem_append.mp hc with h | h
    · exact S1.holds c (by rw [hU]; exact List.mem_append_left _ h)
    · rcases List.mem_cons.mp h with rfl | h
      · intro p hp
        rcases List.mem_cons.mp hp with rfl | hp
        · exact hfm
        · exact hs p hp
      · exact S1.holds c (by rw [hU]; exact List.mem_append_right _ (.tail _ h))
  have S2 := St.enter (D := D) (tk := tk) S1.hos S1.hdr S1.gens hh' nd' hgl hbl hk hnd hfree hbr ndb kind hkp Y.toInCall.ns Y.cell Y.above hcs
  have S2 := S2.base (hideAll_congr fun x => perm.mem_iff)
  have hfr2 : (A.deeper (callEnvC fd s₁.heap.objs.size a)).frames = some ((frameOf fd s₁.heap.objs.size a).env :: ((f.env, o) :: k).map (·.1)) := Around.frames_deeper hfr
  refine wpAny_mono (hW _ _ { s₁ with heap := h₂, toks := tk } [] hfr2 r.deeper (p.keeps fun b o e => hideAll_get _ (S1.keep b o e) fun q => by
    rcases List.mem_cons.mp q with rfl | q
    · rw [S1.fresh _ (.head _)] at e; cases e
    · exact S1.notBase e (.tail _ (List.mem_append_right _ q))) S2 Vs.nil) (fun fl s₃ => ?_) fun v s₃ => ?_
  · rintro ⟨afl, m2, P2, T3, hF, S3, P2', hsw2, q⟩
    obtain ⟨Sb, Tb⟩ := S1.backF hoL S3 hsw2
    refine ⟨retOf afl, m1, P2', T1.trans Tb, ?_, Sb, q⟩
    cases afl with
    | ret b => obtain ⟨v, rfl, hv⟩ := hF; exact hv
    | _ => subst hF; simp [retOf, V]
  · rintro ⟨mk, e, cls, msg, m2, P2, rfl, T3, hM, P2', hsw2, q⟩
    have lv : wpAny (model D.prog D.w) (A.deeper (callEnvC fd s₁.heap.objs.size a)) (leaving (callEnvC fd s₁.heap.objs.size a) (.ref e)) (fun _ s' => TK s₃.heap s'.heap ∧ Fly D (hideAll s₁.heap (f.env.locals :: feet P1)) (frameOf fd s₁.heap.objs.size a) fd.scope.names ((f.env, o) :: k) (((f.env, o) :: k).map (·.1)) cls msg e m2 P2 s') NoE s₃ := by
      cases mk with
      | true =>
        rw [if_pos rfl] at hM
        exact hM.leave rfl hfr2
      | false =>
        rw [if_neg Bool.false_ne_true] at hM
        exact hM.leave rfl hfr2
    refine wpAny_mono lv (fun _ s₄ => ?_) fun _ _ e => e.elim
    rintro ⟨T4, hF⟩
    obtain ⟨Sb, Tb⟩ := S1.backF hoL hF.st hsw2
    obtain ⟨B, t, w, C, x1, x2, x3, x4⟩ := hF.ex
    have nd2 : (feet P2).Nodup := by
      have := hF.st.apart
      rw [List.nodup_cons, List.nodup_append] at this
      exact this.2.2.1
    refine ⟨false, e, cls, msg, m1, P2', rfl, T1.trans Tb, ?_, q⟩
    rw [if_neg Bool.false_ne_true]
    exact ⟨by obtain ⟨U, W, _, rfl⟩ := hsw2.split; simp, Sb, B, t, w, C.back S1 hsw2 nd2, x1, x2, x3, x4⟩
theorem CodeZ.wz {as : List AVal} {Q : AVal → Loc → List Ck → Prop} {fv : Value} {mk : List Value → Args} (h : CodeZ D n f k ns as (fun vs => .call fv (mk vs)) m P Q X) : Wz D n f k ns V as (fun vs => call fv (mk vs).pos (mk vs).kw) m P Q X :=
  fun A g s vs hfr r p S hv => wpAny_call (h A g s vs hfr r p S hv)

/-- the frame's own face -/
def Own (f : Fm) : Prop := f.env.frame = some f.env.locals
theorem Wz.fn {as : List AVal} {Q : AVal → Loc → List Ck → Prop} {a : Addr} {fd : FuncData} {names : Nms} {body : List Stmt} {mk : List Value → Args} (F : Fn D a fd names body) (hf : Own f)
    (hb : Wp D n f ns BR as (fun vs => bindArgs fd (mk vs)) m P fun ab m1 P1 => xsOk (ab.map (·.1)) names = true ∧ ∃ m0, Init names ab m0 ∧
      ∀ f' o, MineC f' names → Own f' → ∃ P1', Sw P1 (stk k) (stk ((f.env, o) :: k)) P1' ∧ ExsZ D n f' ((f.env, o) :: k) names body m0 P1' (fun fl _ P2 => ∃ P2', Sw P2 (stk ((f.env, o) :: k)) (stk k) P2' ∧ Q (retOf fl) m1 P2') (fun mk cls msg _ P2 => ∃ P2', Sw P2 (stk ((f.env, o) :: k)) (stk k) P2' ∧ X false cls msg m1 P2')) :
    Wz D (n + 1) f k ns V as (fun vs => call (.ref a) (mk vs).pos (mk vs).kw) m P Q X := by
  obtain ⟨oc, od, osl, ho⟩ := F.at'
  have hn := F.nm
  subst hn
  refine CodeZ.wz (mk := mk) (Wz.codeC hf ho F.body F.code F.clo F.gl F.bl F.nd F.free (hb.mono fun ab m1 P1 ⟨h2, m0, h3, h4⟩ => ?_) F.co F.gen F.kind)
  unfold xsOk at h2
  rw [Bool.and_eq_true, decide_eq_true_eq, List.all_eq_true] at h2
  refine ⟨h2.1, fun p hp => ?_, fun L o => ?_⟩
  · have := h2.2 p.1 (List.mem_map_of_mem (f := (·.1)) hp)
    rw [Bool.or_eq_true] at this
    exact this.imp (fun h => by simpa using h) fun h => by simpa using h
  · rw [h3.eq]
    exact h4 _ o frame_mine rfl
end
end Mine

-- XJ
namespace Mine
open PySem PySem.W PySem.Calls PyProof.Rows

section
variable {D : WD} {n : Nat} {f : Fm} {k : Stk} {ns : Nms} {m : Loc} {P : List Ck} {X : XQ}

/-! trees that may raise -/
theorem ExsZ.cons {st : Stmt} {rest : List Stmt} {Q : AFlow → Loc → List Ck → Prop} (h : ExZ D n f k ns st m P (seqQ (fun m1 P1 => ExsZ D n f k ns rest m1 P1 Q X) Q) X) : ExsZ D n f k ns (st :: rest) m P Q X := fun A g s vs hf r p S hv =>
  wpAny_execs_cons (h.run hf r p S .nil (fun fl m1 P1 x s1 T1 hx S1 q => by
    cases fl with
    | next =>
      cases hx
      exact Wz.run (q : ExsZ D n f k ns rest m1 P1 Q X) hf r p S1 .nil (fun c m3 P3 x s3 T3 hx S3 q => ⟨c, m3, P3, T1.trans T3, hx, S3, q⟩) fun _ _ x => x.pre T1
    | brk => cases hx; exact ⟨.brk, m1, P1, T1, rfl, S1, q⟩
    | cont => cases hx; exact ⟨.cont, m1, P1, T1, rfl, S1, q⟩
    | ret a => obtain ⟨v, rfl, hv⟩ := hx; exact ⟨.ret a, m1, P1, T1, ⟨v, rfl, hv⟩, S1, q⟩) fun _ _ x => x)
theorem ExZ.ret {e : Expr} {pos : Pos} {Q : AFlow → Loc → List Ck → Prop} (h : EvZ D n f k ns e m P (fun a m1 P1 => Q (.ret a) m1 P1) X) : ExZ D n f k ns (.Return (some e) pos) m P Q X := fun A g s vs hf r p S hv =>
  wpAny_Return_some (h.run hf r p S .nil (fun a m1 P1 x s1 T1 hx S1 q => ⟨.ret a, m1, P1, T1, ⟨x, rfl, hx⟩, S1, q⟩) fun _ _ x => x)
theorem ExZ.ite {t : Expr} {b o : List Stmt} {pos : Pos} {Q : AFlow → Loc → List Ck → Prop} (h : Tr D n f ns t m P fun c m1 P1 => if c = true then ExsZ D n f k ns b m1 P1 Q X else ExsZ D n f k ns o m1 P1 Q X) :
    ExZ D n f k ns (.If t b o pos) m P Q X := fun A g s vs hf r p S hv =>
  wpAny_If (wpAny_mono (h A g s vs r p S hv) (fun v s1 ⟨c, m1, P1, T1, hv1, S1, h1⟩ => by
    cases hv1
    cases v with
    | true => rw [if_pos rfl] at h1 ⊢; exact Wz.run h1 hf r p S1 .nil (fun c m3 P3 x s3 T3 hx S3 q => ⟨c, m3, P3, T1.trans T3, hx, S3, q⟩) fun _ _ x => x.pre T1
    | false => rw [if_neg Bool.false_ne_true] at h1 ⊢; exact Wz.run h1 hf r p S1 .nil (fun c m3 P3 x s3 T3 hx S3 q => ⟨c, m3, P3, T1.trans T3, hx, S3, q⟩) fun _ _ x => x.pre T1) fun _ _ e => e.elim)
theorem ExZ.iteZ {t : Expr} {b o : List Stmt} {pos : Pos} {Q : AFlow → Loc → List Ck → Prop} (h : TrZ D n f k ns t m P (fun c m1 P1 => if c = true then ExsZ D n f k ns b m1 P1 Q X else ExsZ D n f k ns o m1 P1 Q X) X) :
    ExZ D n f k ns (.If t b o pos) m P Q X := fun A g s vs hf r p S hv =>
  wpAny_If (h.run hf r p S .nil (fun c m1 P1 v s1 T1 hv1 S1 h1 => by
    cases hv1
    cases c with
    | true => rw [if_pos rfl] at h1 ⊢; exact Wz.run h1 hf r p S1 .nil (fun c m3 P3 x s3 T3 hx S3 q => ⟨c, m3, P3, T1.trans T3, hx, S3, q⟩) fun _ _ x => x.pre T1
    | false => rw [if_neg Bool.false_ne_true] at h1 ⊢; exact Wz.run h1 hf r p S1 .nil (fun c m3 P3 x s3 T3 hx S3 q => ⟨c, m3, P3, T1.trans T3, hx, S3, q⟩) fun _ _ x => x.pre T1) fun _ _ x => x)
theorem TrZ.not {x : Expr} {pos : Pos} {Q : Bool → Loc → List Ck → Prop} (h : TrZ D n f k ns x m P (fun b => Q (!b)) X) : TrZ D n f k ns (.UnaryOp .Not x pos) m P Q X := fun A g s vs hf r p S hv =>
  wpAny_isTrue_Not (h.run hf r p S .nil (fun b m1 P1 v s1 T1 hv1 S1 h1 => ⟨!b, m1, P1, T1, by cases hv1; rfl, S1, h1⟩) fun _ _ x => x)
theorem TrZ.or {x : Expr} {rest : List Expr} {pos : Pos} {Q : Bool → Loc → List Ck → Prop} (h : TrZ D n f k ns x m P (fun b m1 P1 => if b = true then Q true m1 P1 else TrZ D n f k ns (.BoolOp .Or rest pos) m1 P1 Q X) X) : TrZ D n f k ns (.BoolOp .Or (x :: rest) pos) m P Q X := fun A g s vs hf r p S _ =>
  isTrue_or (h.run hf r p S .nil (fun b m1 P1 x s1 T1 hx S1 q => by
    cases hx
    cases b with
    | true => rw [if_pos rfl] at q; exact ⟨true, m1, P1, T1, rfl, S1, q⟩
    | false =>
      rw [if_neg Bool.false_ne_true] at q
      exact q.run hf r p S1 .nil (fun c m3 P3 x s3 T3 hx S3 q => ⟨c, m3, P3, T1.trans T3, hx, S3, q⟩) fun _ _ x => x.pre T1) fun _ _ x => x)
theorem TrZ.ev {e : Expr} {Q : Bool → Loc → List Ck → Prop} (h : EvZ D n f k ns e m P (fun a m1 P1 => Wp D n f ns Eqv [a] (Op1 truthy) m1 P1 Q) X)
    (he : isTrue e f.env (eval e f.env) = (do let v ← eval e f.env; standAt e.pos; holding [v] (truthy v)) := by rfl) : TrZ D n f k ns e m P Q X := fun A g s vs hf r p S _ => by
  show wpAny _ _ (isTrue e f.env (eval e f.env)) _ _ _
  rw [he]
  refine wpAny_bind (h.run hf r p S .nil (fun a m1 P1 v s1 T1 hv1 S1 q => wpAny_bind (wpAny_standAt (wpAny_holding ?_))) fun _ _ x => x)
  exact wpAny_mono (q A g s1 [v] r p S1 (Vs1 hv1)) (fun x s3 ⟨c, m3, P3, T3, hx, S3, q⟩ => ⟨c, m3, P3, T1.trans T3, hx, S3, q⟩) fun _ _ e => e.elim
theorem EvZ.and {e1 e2 : Expr} {rest : List Expr} {pos : Pos} {Q : AVal → Loc → List Ck → Prop} (h : Ev D n f ns e1 m P fun a m1 P1 => Wp D n f ns Eqv [a] (Op1 truthy) m1 P1 fun b m2 P2 => if b = true then EvZ D n f k ns (.BoolOp .And (e2 :: rest) pos) m2 P2 Q X else Q a m2 P2) :
    EvZ D n f k ns (.BoolOp .And (e1 :: e2 :: rest) pos) m P Q X := fun A g s vs hf r p S _ =>
  BoolOp_and (wpAny_mono (h A g s [] r p S .nil) (fun v s1 ⟨a, m1, P1, T1, hv, S1, h1⟩ => wpAny_mono (h1 A g s1 [v] r p S1 (Vs1 hv)) (fun x s2 ⟨b, m2, P2, T2, hx, S2, q⟩ => by
    cases hx
    cases x with
    | true =>
      rw [if_pos rfl] at q ⊢
      exact q.run hf r p S2 .nil (fun c m3 P3 x s3 T3 hx S3 q => ⟨c, m3, P3, (T1.trans T2).trans T3, hx, S3, q⟩) fun _ _ x => x.pre (T1.trans T2)
    | false => rw [if_neg Bool.false_ne_true] at q ⊢; exact ⟨a, m2, P2, T1.trans T2, hv.mono T2, S2, q⟩) fun _ _ e => e.elim) fun _ _ e => e.elim)
theorem EvZ.one {op : BoolOp} {e : Expr} {pos : Pos} {Q : AVal → Loc → List Ck → Prop} (h : EvZ D n f k ns e m P Q X) : EvZ D n f k ns (.BoolOp op [e] pos) m P Q X := fun A g s vs hf r p S hv => BoolOp_one (h A g s vs hf r p S hv)
theorem ExZ.exprE {e : Expr} {pos : Pos} {Q : AFlow → Loc → List Ck → Prop} (h : EvZ D n f k ns e m P (fun _ m1 P1 => Q .next m1 P1) X) (hs : swapsWith e Option.none pos.line (envN ns) = pure false) :
    ExZ D n f k ns (.Expr e pos) m P Q X := fun A g s vs hf r p S hv =>
  wpAny_Expr_any (h.run hf r p S .nil (fun a m1 P1 x s1 T1 hx S1 q => ⟨.next, m1, P1, T1, rfl, S1, q⟩) fun _ _ x => x) (by unfold interactive; rw [S.ok.kind]; rfl) ((swaps_eq S.ok.kind S.ok.names).trans hs)
theorem ExZ.assignN {x : Str} {pos' : Pos} {value : Expr} {pos : Pos} {Q : AFlow → Loc → List Ck → Prop}
    (h : EvZ D n f k ns value m P (fun a m1 P1 => As D n f ns (.Name x pos') a m1 P1 fun m2 P2 => Q .next m2 P2) X)
    (hs : swapsWith value (some (.Name x pos')) pos.line (envN ns) = pure false) : ExZ D n f k ns (.Assign [.Name x pos'] value pos) m P Q X := fun A g s vs hf r p S hv => by
  rw [exec_Assign_Name f.env x pos' value pos ((swaps_eq S.ok.kind S.ok.names).trans hs)]
  refine wpAny_bind (wpAny_standAt (wpAny_bind (h.run hf r p S .nil (fun a m1 P1 v s1 T1 hv S1 q => ?_) fun _ _ x => x)))
  have q2 := q A g s1 [v] r p S1 (Vs1 hv)
  show wpAny (model D.prog D.w) A (PySem.assign (.Name x pos') f.env v >>= fun _ => pure Flow.next) _ _ _
  refine wpAny_bind (wpAny_mono q2 (fun u s2 => ?_) fun _ _ e => e.elim)
  rintro ⟨_, m2, P2, T2, _, S2, q⟩
  exact wpAny_pure ⟨.next, m2, P2, T1.trans T2, rfl, S2, q⟩
theorem ArZ.cons {e : Expr} {es : List Expr} {pos : Pos} {Q : List AVal → Loc → List Ck → Prop}
    (h : EvZ D n f k ns e m P (fun a m1 P1 => ArZ D n f k ns es pos m1 P1 (fun as m2 P2 => Q (a :: as) m2 P2) X) X) (he : starEach (e :: es) f.env = (false, eval e f.env) :: starEach es f.env := by rfl) : ArZ D n f k ns (e :: es) pos m P Q X := fun A g s vs hf r p S _ =>
  args_cons (h.run hf r p S .nil (fun a m1 P1 v s1 T1 hv S1 q => q.run hf r p S1 .nil (fun as m2 P2 vs s2 T2 hvs S2 q2 => ⟨a :: as, m2, P2, T1.trans T2, .cons (hv.mono T2) hvs, S2, q2⟩) fun _ _ x => x.pre T1) fun _ _ x => x) he
theorem ArZ.nil {pos : Pos} {Q : List AVal → Loc → List Ck → Prop} (h : Q [] m P) : ArZ D n f k ns [] pos m P Q X := Wz.of (Ar.nil h)
theorem EvZ.tup {es : List Expr} {c : Nat} {pos : Pos} {Q : AVal → Loc → List Ck → Prop} (h : ArZ D n f k ns es pos m P (fun as m1 P1 => as.length ≤ 1000000 ∧ Q (.tup as) m1 P1) X) : EvZ D n f k ns (.Tuple es c pos) m P Q X := fun A g s vs hf r p S _ =>
  wpAny_Tuple (h.run hf r p S .nil (fun as m1 P1 vs s1 T1 hv S1 q => ⟨Nat.le_trans (by rw [hv.length]; exact q.1) (by decide), by
    have hk : ∀ b o, s1.heap.get? b = some o → (s1.heap.push { cls := .type "tuple", data := .seq vs.toArray }).get? b = some o := fun b o e => Heap.get?_push_of_some _ e
    refine ⟨.tup as, m1, P1, T1.trans (.keeps hk), ?_, S1.junk (tk := s1.toks) hk, q.2⟩
    simp only [V]
    exact ⟨_, vs, rfl, ⟨_, Heap.get?_push_size _ rfl, rfl, _, rfl⟩, hv.mono (.keeps hk)⟩⟩) fun _ _ x => x)

theorem args_genZ {fv : Value} {es : List Expr} {kws : List Keyword} {pos : Pos} {A : Around} {g : Heap} {s : Shared} {Q' : Args → Shared → Prop} {E' : Value → Shared → Prop} (hf : A.frames = some (f.env :: k.map (·.1))) (r : Room D n A) (p : PF D g) (S : St D g f ns m P s) (hp : plainArgs es = true) (hk : namedKw kws = true)
    {Q : List AVal → List AVal → Loc → List Ck → Prop} (h : ArZ D n f k ns es pos m P (fun as m1 P1 => Ks D n f ns kws pos m1 P1 fun ks m2 P2 => Q as ks m2 P2) X)
    (kk : ∀ as ks m2 P2 vs ws s2, TK s.heap s2.heap → Vs s2.heap as vs → Vs s2.heap ks ws → St D g f ns m2 P2 s2 → Q as ks m2 P2 → Q' ⟨vs, (kws.filterMap (·.arg)).zip ws⟩ s2) (kx : ∀ v s', RPost D g f ns k s X v s' → E' v s') :
    wpAny (model D.prog D.w) A (evalArgs fv true (backTo pos (starEach es f.env)) (backToKw pos (keywordEach kws f.env))) Q' E' s := by
  obtain ⟨k1, k2, k3⟩ := keywordEach_named (env := f.env) (pos := pos) hk
  have body : wpAny (model D.prog D.w) A (spliced (backTo pos (starEach es f.env))) (fun vs s₁ => wpAny (model D.prog D.w) A (evalAll ((backToKw pos (keywordEach kws f.env)).map (·.2))) (fun ks s₂ => Q' ⟨vs, ((backToKw pos (keywordEach kws f.env)).filterMap (·.1)).zip ks⟩ s₂) E' s₁) E' s := by
    refine h.run hf r p S .nil (fun as m1 P1 vs s1 T1 hv S1 q => ?_) kx
    refine wpAny_mono (q A g s1 [] r p S1 .nil) (fun ws s2 ⟨ks, m2, P2, T2, hw, S2, q2⟩ => ?_) fun _ _ e => e.elim
    rw [k3]
    exact kk as ks m2 P2 vs ws s2 (T1.trans T2) (hv.mono T2) hw S2 q2
  cases hes : backTo pos (starEach es f.env) with
  | nil =>
    rw [hes] at body
    refine evalArgs_kw_nil k2 ?_
    exact fun Γ q hΓ => by
      have := body Γ q hΓ
      have t : wpAny (model D.prog D.w) A (evalAll ((backToKw pos (keywordEach kws f.env)).map (·.2))) (fun ks s₂ => Q' ⟨[], ((backToKw pos (keywordEach kws f.env)).filterMap (·.1)).zip ks⟩ s₂) E' s := this
      exact t Γ q hΓ
  | cons x rest =>
    obtain ⟨b, t⟩ := x
    have hb : b = false := by
      have := starEach_plain (env := f.env) (pos := pos) hp
      rw [hes] at this
      simp only [List.any_cons, Bool.or_eq_false_iff] at this
      exact this.1
    subst hb
    rw [hes] at body
    exact evalArgs_kw k2 body

theorem EvZ.call {fe : Expr} {es : List Expr} {kws : List Keyword} {pos : Pos} {Q : AVal → Loc → List Ck → Prop}
    (h : Ev D n f ns fe m P fun fa m1 P1 => isFn fa = true ∧ ArZ D n f k ns es pos m1 P1 (fun as m2 P2 => Ks D n f ns kws pos m2 P2 fun ks m3 P3 => KeepOk D.K P3 fa ∧ CalZ D n f k ns fa as ks (kws.filterMap (·.arg)) m3 P3 Q X) X)
    (hp : plainArgs es = true := by rfl) (hk : namedKw kws = true := by rfl)
    (he : eval (.Call fe es kws pos) f.env = (do callWith pos (← eval fe f.env) [] (backTo pos (starEach es f.env)) (backToKw pos (keywordEach kws f.env))) := by rfl) :
    EvZ D n f k ns (.Call fe es kws pos) m P Q X := fun A g s vs hf r p S _ => by
  rw [he]
  refine wpAny_bind (wpAny_mono (h A g s [] r p S .nil) (fun v s1 ⟨fa, m1, P1, T1, hv, S1, q⟩ => ?_) fun _ _ e => e.elim)
  obtain ⟨q0, q⟩ := q
  rw [V.fn q0 hv]
  refine callWith_gen (starEach_plain hp) (keywordEach_named hk).1 ?_
  refine args_genZ hf r p S1 hp hk q (fun as ks m3 P3 vs ws s3 T3 hvs hws S3 q3 => ⟨q3.1.looks (p.K.keeps S3.keep) S3.holds, ?_⟩) fun _ _ x => x.pre T1
  have hlen := hvs.length
  have := q3.2.run (Q' := Post D g f ns V s Q) (E' := RPost D g f ns k s X) hf r p S3 (hvs.append hws) (fun c m4 P4 x s4 T4 hx S4 q4 => ⟨c, m4, P4, (T1.trans T3).trans T4, hx, S4, q4⟩) fun _ _ x => x.pre (T1.trans T3)
  rw [← hlen, List.take_left, List.drop_left] at this
  exact this
theorem EvZ.meth {o : Expr} {name : Str} {apos : Pos} {es : List Expr} {kws : List Keyword} {pos : Pos} {pl : Sem Bool} {Q : AVal → Loc → List Ck → Prop}
    (h : Ev D n f ns o m P fun a m1 P1 => Gm D n f ns a name m1 P1 fun fx m2 P2 => ArZ D n f k ns es pos m2 P2 (fun as m3 P3 => Ks D n f ns kws pos m3 P3 fun ks m4 P4 => KeepOk D.K P4 fx.1 ∧ CalZ D n f k ns fx.1 (fx.2 ++ as) ks (kws.filterMap (·.arg)) m4 P4 Q X) X)
    (hp : plainArgs es = true := by rfl) (hk : namedKw kws = true := by rfl)
    (he : eval (.Call (.Attribute o name apos) es kws pos) f.env = (do
      let ov ← eval o f.env
      standAt apos.atName
      let (f', first) ← holding [ov] (getMethod ov name pl)
      callWith pos f' first (backTo pos (starEach es f.env)) (backToKw pos (keywordEach kws f.env))) := by rfl) :
    EvZ D n f k ns (.Call (.Attribute o name apos) es kws pos) m P Q X := fun A g s vs hf r p S _ => by
  rw [he]
  refine wpAny_bind (wpAny_mono (h A g s [] r p S .nil) (fun v s1 ⟨a, m1, P1, T1, hv, S1, q⟩ => wpAny_bind (wpAny_standAt (wpAny_bind (wpAny_holding ?_)))) fun _ _ e => e.elim)
  refine wpAny_mono ((q pl) A g s1 [v] r p S1 (Vs1 hv)) (fun y s2 ⟨fx, m2, P2, T2, hy, S2, q2⟩ => ?_) fun _ _ e => e.elim
  obtain ⟨fv, first⟩ := y
  obtain ⟨rfl, hfirst⟩ := hy
  refine callWith_gen (starEach_plain hp) (keywordEach_named hk).1 ?_
  refine args_genZ hf r p S2 hp hk q2 (fun as ks m3 P3 vs ws s3 T3 hvs hws S3 q3 => ⟨q3.1.looks (p.K.keeps S3.keep) S3.holds, ?_⟩) fun _ _ x => x.pre (T1.trans T2)
  have hlen : (first ++ vs).length = (fx.2 ++ as).length := by rw [List.length_append, List.length_append, hfirst.length, hvs.length]
  have := q3.2.run (Q' := Post D g f ns V s Q) (E' := RPost D g f ns k s X) hf r p S3 (((hfirst.mono T3).append hvs).append hws) (fun c m4 P4 x s4 T4 hx S4 q4 => ⟨c, m4, P4, ((T1.trans T2).trans T3).trans T4, hx, S4, q4⟩) fun _ _ x => x.pre ((T1.trans T2).trans T3)
  rw [← hlen, List.take_left, List.drop_left] at this
  exact this

/-- what raises in its own frame -/
theorem ExZ.raise {cls newId initId : String} {x : Str} {np cpos pos : Pos} {e0 : Expr} {Q : AFlow → Loc → List Ck → Prop} (FC : ExcCallFacts cls newId initId) (FR : ExcRaiseFacts cls) (hh : D.hd = Option.none)
    (h : Ev D n f ns (.Name x np) m P fun a m1 P1 => a = .typ cls ∧ Ar D n f ns [e0] cpos m1 P1 fun as m2 P2 => ∃ msg, as = [msg] ∧ stk k ∈ P2 ∧ X true cls msg m2 P2)
    (he : starEach [e0] f.env = (false, eval e0 f.env) :: starEach [] f.env := by rfl) :
    ExZ D n f k ns (.Raise (some (.Call (.Name x np) [e0] [] cpos)) Option.none pos) m P Q X := fun A g s vs hf r p S _ => by
  refine Raise_madeB FC FR (r.handled.trans hh) (wpAny_mono (h A g s [] r p S .nil) (fun v s1 ⟨a, m1, P1, T1, hv, S1, q⟩ => ?_) fun _ _ e => e.elim) he
  obtain ⟨rfl, q⟩ := q
  refine ⟨hv, wpAny_mono (q A g s1 [] r p S1 .nil) (fun ws s2 ⟨as, m2, P2, T2, hws, S2, q2⟩ => ?_) fun _ _ e => e.elim⟩
  obtain ⟨msg, rfl, hm, hx⟩ := q2
  obtain ⟨w, rfl, hw⟩ := hws.one
  refine ⟨by show 1 ≤ sizeLine; decide, fun h' e hme => ⟨true, e, cls, msg, m2, P2, rfl, (T1.trans T2).trans (.keeps hme.keeps), ?_, hx⟩⟩
  rw [if_pos rfl]
  exact ⟨hm, s2.heap, w, S2, hme, hw⟩

/-- a loop whose turns look at the frames -/
theorem ExZ.for_ {target iter : Expr} {body orelse : List Stmt} {pos : Pos} {Q : AFlow → Loc → List Ck → Prop}
    (h : Ev D n f ns iter m P fun a m1 P1 => ∃ (xs : List AVal) (need : List Ck) (P2 : List Ck) (J : Nat → Loc → List Ck → Prop), IterW D n f ns target a xs need m1 P1 P2 ∧ J 0 m1 P2 ∧ (∀ j m P, J j m P → ∀ c ∈ need, c ∈ P) ∧
      (∀ j x m P, xs[j]? = some x → J j m P → As D n f ns target x m P fun m2 P2 => ExsZ D n f k ns body m2 P2 (loopQ (J (j + 1)) Q) fun _ _ _ _ _ => False) ∧
      (∀ m P, J xs.length m P → Exs D n f ns orelse m P Q))
    (hs : ∀ x, foldedSetIterable iter f.env x = pure x := by intro _; rfl) : ExZ D n f k ns (.For target iter body orelse pos) m P Q X := fun A g s vs hfr r p S _ => by
  refine wpAny_mono (E := NoE) ?_ (fun _ _ x => x) fun _ _ e => e.elim
  refine wpAny_For (h.run r p S .nil fun a m1 P1 v s1 T1 hv S1 q => ?_) hs
  obtain ⟨xs, need, P2, J, hI, hJ0, hneed, hturn, hend⟩ := q
  refine wpAny_mono (hI A g s1 v r p S1 hv) (fun it s2 => ?_) fun _ _ e => e
  rintro ⟨fi, K, T2, S2, hfi, hK, IO⟩
  refine codeAny_forLoopG (fun k s' => ∃ j, j + k = xs.length ∧ LoopI D f ns g s fi K J j s') (fun c s' => ?_) xs.length ⟨0, by omega, T1.trans T2, hK, ⟨m1, P2, hJ0, S2, fun b hb => (hfi b hb).1⟩, fun b hb => (hfi b hb).2⟩
  rintro ⟨j, hj, L⟩
  obtain ⟨mj, Pj, hJ, Sj, nfj⟩ := L.st
  have lives := IO.live j s'.heap L.k
  refine wpAny_mono (IO.next A s' j r L.k fun c hc => Sj.holds c (hneed j mj Pj hJ c hc)) (fun rr s3 hr => ?_) fun _ _ e => e
  have oth : ∀ b ∈ fi, b ∉ f.env.locals :: (f.own ++ feet Pj) ∧ g.get? b = Option.none ∧ ∀ o, s'.heap.get? b = some o → NT o := fun b hb => ⟨nfj b hb, (hfi b hb).2, fun o e => by
    obtain ⟨o', e', nt⟩ := lives b hb; rw [e'] at e; cases e; exact nt⟩
  cases hx : xs[j]? with
  | none =>
    rw [hx] at hr
    obtain ⟨rfl, h3, tk3, rfl, hk3⟩ := hr
    obtain ⟨S3, T3⟩ := Sj.others (tk := tk3) hk3 oth
    have hjl : j = xs.length := by
      have := List.getElem?_eq_none_iff.mp hx
      omega
    subst hjl
    exact (hend mj Pj hJ).run r p S3 .nil fun c m4 P4 x s4 T4 hx4 S4 q4 => ⟨c, m4, P4, (L.tk.trans T3).trans T4, hx4, S4, q4⟩
  | some x =>
    rw [hx] at hr
    obtain ⟨v', rfl, hr⟩ := hr
    refine wpAny_mono hr (fun _ s4 => ?_) fun _ _ e => e
    rintro ⟨⟨h4, tk4, rfl, hk4⟩, hv4, hK4⟩
    obtain ⟨S4, T4⟩ := Sj.others (tk := tk4) hk4 oth
    have nf4 := nfj
    have SR : St D g f ns mj (Pj ++ []) { s' with heap := h4, toks := tk4 } := by simpa using S4
    have hbase : ∀ b ∈ fi, ∃ o, (hideAll h4 (f.env.locals :: (f.own ++ feet Pj))).get? b = some o := fun b hb => by
      obtain ⟨o, e, _⟩ := IO.live (j + 1) h4 hK4 b hb
      exact ⟨o, hideAll_get _ e (nfj b hb)⟩
    refine (hturn j x mj Pj hx hJ).run r (p.rebase S4) SR.rebase (Vs1 hv4) fun _ m5 P5 _ s5 T5 _ S5 q5 => ?_
    refine q5.run hfr r (p.rebase S4) S5 .nil (fun fl m6 P6 y s6 T6 hy S6 q6 => ?_) fun _ _ ⟨_, _, _, _, _, _, _, _, _, e⟩ => e.elim
    obtain ⟨S6', T6'⟩ := SR.unbase S6
    rw [List.append_nil] at S6'
    have hK6 : K (j + 1) s6.heap := IO.stable (j + 1) h4 s6.heap hK4 (fun b hb o e => S6.keep b o (hideAll_get _ e (nfj b hb))) (T5.trans T6)
    have nf6 : ∀ b ∈ fi, b ∉ f.env.locals :: (f.own ++ feet P6) := fun b hb q => by
      obtain ⟨o, e⟩ := hbase b hb
      have e2 := S6.fresh b q
      have e3 : (hideAll h4 (f.env.locals :: (f.own ++ feet Pj))).get? b = Option.none := e2
      rw [e3] at e; cases e
    have TT : TK s.heap s6.heap := (L.tk.trans T4).trans T6'
    have hlt : j < xs.length := (List.getElem?_eq_some_iff.mp hx).1
    cases fl with
    | next => cases hy; exact ⟨c - 1, by omega, j + 1, by omega, TT, hK6, ⟨m6, P6, q6, S6', nf6⟩, fun b hb => (hfi b hb).2⟩
    | cont => cases hy; exact ⟨c - 1, by omega, j + 1, by omega, TT, hK6, ⟨m6, P6, q6, S6', nf6⟩, fun b hb => (hfi b hb).2⟩
    | brk => cases hy; exact ⟨.next, m6, P6, TT, rfl, S6', q6⟩
    | ret a => obtain ⟨w, rfl, hw⟩ := hy; exact ⟨.ret a, m6, P6, TT, ⟨w, rfl, hw⟩, S6', q6⟩
end
end Mine

-- XK
namespace Mine
open PySem PySem.W PySem.Calls PyProof.Rows

/-- an exception that was caught -/
def exo (e : Addr) (cls : String) (l : List Nat) : Ck where
  foot := [e]
  holds h := cls ≠ "tuple" ∧ ∃ t u, h.ExcAt e cls (.ref t) ∧ h.IsTuple t (List.toArray [.str (mkS l) u])
  stable h h' s T := fun ⟨q, t, u, ⟨o, vs, a, b⟩, c⟩ => ⟨q, t, u, ⟨o, vs, s _ (.head _) _ a, b⟩, T _ _ c⟩
  live h := fun ⟨q, t, u, ⟨o, vs, a, b, _⟩, c⟩ x hx => by
    simp at hx; subst hx
    exact ⟨o, a, .ty b q⟩

inductive NmDn : Nms → Loc → Str → NameKind → Loc → Prop
  | head {x k ns o ms} : NmDn ((x, k) :: ns) (o :: ms) x k (none :: ms)
  | tail {ns ms x k y z ms'} : NmDn ns ms x k ms' → NmDn (y :: ns) (z :: ms) x k (z :: ms')
theorem NmDn.mem {ns : Nms} {m m' : Loc} {x k} (h : NmDn ns m x k m') : (x, k) ∈ ns := by
  induction h with
  | head => exact .head _
  | tail _ ih => exact .tail _ ih
theorem NmDn.back {ns : Nms} {m m' : Loc} {x k} (h : NmDn ns m x k m') : ∀ {y kd b}, NmAt ns m' y kd b → NmAt ns m y kd b := by
  induction h with
  | head =>
    intro y kd b q
    cases q with
    | tail q => exact .tail q
  | tail _ ih =>
    intro y kd b q
    cases q with
    | head => exact .head
    | tail q => exact .tail (ih q)
theorem NmDn.ne {ns : Nms} {m m' : Loc} {x k} (h : NmDn ns m x k m') : (ns.map (·.1)).Nodup → ∀ {y kd b}, NmAt ns m' y kd b → y ≠ x := by
  induction h with
  | head =>
    intro nd y kd b q
    rw [List.map_cons, List.nodup_cons] at nd
    cases q with
    | tail q => exact fun e => nd.1 (e ▸ List.mem_map_of_mem (f := (·.1)) q.mem)
  | tail d ih =>
    intro nd y kd b q
    rw [List.map_cons, List.nodup_cons] at nd
    cases q with
    | head => exact fun e => nd.1 (e ▸ List.mem_map_of_mem (f := (·.1)) d.mem)
    | tail q => exact ih nd.2 q

abbrev WD.on (D : WD) (v : Option Value) : WD := { D with hd := v }

section
variable {D : WD} {n : Nat} {g B : Heap} {f : Fm} {ns : Nms} {m : Loc} {P : List Ck} {s : Shared} {k : Stk} {v : Option Value}

theorem St.on (S : St D g f ns m P s) : St (D.on v) g f ns m P s := ⟨S.ok, S.keep, S.lcl, S.cell, S.cap, S.owns, S.fresh, S.apart, S.holds, S.gens, S.hos, S.hdr⟩
theorem St.off (S : St (D.on v) g f ns m P s) : St D g f ns m P s := ⟨S.ok, S.keep, S.lcl, S.cell, S.cap, S.owns, S.fresh, S.apart, S.holds, S.gens, S.hos, S.hdr⟩
theorem PF.on (p : PF D g) : PF (D.on v) g := ⟨p.K, p.bns, p.blt, p.nolimit, p.nodigits, p.main⟩

theorem St.claim {c : Ck} (S : St D g f ns m P s) (hh : c.holds s.heap) (hf : ∀ x ∈ c.foot, g.get? x = none ∧ x ∉ f.env.locals :: (f.own ++ feet P)) (nd : c.foot.Nodup) : St D g f ns m (c :: P) s := by
  refine ⟨S.ok, S.keep, S.lcl, S.cell, S.cap, S.owns, fun x hx => ?_, ?_, fun d hd => ?_, S.gens, S.hos, S.hdr⟩
  · have e : feet (c :: P) = c.foot ++ feet P := rfl
    rw [e] at hx
    simp only [List.mem_cons, List.mem_append] at hx
    rcases hx with h | h | h | h
    · exact S.fresh x (by simp [h])
    · exact S.fresh x (by simp [h])
    · exact (hf x h).1
    · exact S.fresh x (by simp [h])
  · have ap := S.apart
    have e : feet (c :: P) = c.foot ++ feet P := rfl
    rw [e]
    simp only [List.nodup_cons, List.nodup_append, List.mem_append, List.mem_cons] at ap hf ⊢
    obtain ⟨a1, a2, a3, a4⟩ := ap
    refine ⟨?_, a2, ⟨nd, a3, ?_⟩, ?_⟩
    · rintro (h | h | h)
      · exact a1 (.inl h)
      · exact (hf _ h).2 (.inl rfl)
      · exact a1 (.inr h)
    · rintro x hx y hy rfl
      exact (hf x hx).2 (.inr (.inr hy))
    · rintro x hx y (hy | hy) rfl
      · exact (hf x hy).2 (.inr (.inl hx))
      · exact a4 x hx x hy rfl
  · rcases List.mem_cons.mp hd with rfl | hd
    · exact hh
    · exact S.holds d hd

theorem St.dropL {x : Str} {w : Option Value} {m' : Loc} {h' : Heap} {M : Str → Option Value} {tk : Nat} (S : St D g f ns m P s) (u : NmDn ns m x .local m')
    (hM : s.heap.Ns f.env.locals M) (hq : ∀ x a, NmAt ns m x .local a → ∃ v, M x = some v ∧ V s.heap a v)
    (hn : h'.Ns f.env.locals (fun y => if y = x then w else M y)) (hs : Heap.SameBut f.env.locals s.heap h') : St D g f ns m' P { s with heap := h', toks := tk } ∧ TK s.heap h' := by
  have T : TK s.heap h' := TK.sameBut hs fun o e => by obtain ⟨o', es, ep, ho, hd, _⟩ := hM; rw [ho] at e; cases e; exact .dict hd
  have ap := S.apart
  rw [List.nodup_cons] at ap
  have ne : ∀ y ∈ f.own ++ feet P, y ≠ f.env.locals := fun y hy e => ap.1 (e ▸ hy)
  have gn : ∀ b o, g.get? b = some o → b ≠ f.env.locals := fun b o e q => by
    have := S.fresh f.env.locals (.head _); rw [← q, e] at this; cases this
  refine ⟨⟨S.ok, fun b o e => (hs.2 b (gn b o e)).trans (S.keep b o e), ⟨_, hn, fun y b na => ?_⟩, fun y kd b na hkd => ?_, S.cap, fun c hc' => ?_, S.fresh, S.apart, fun c hc' => ?_, S.gens, S.hos, S.hdr⟩, T⟩
  · obtain ⟨w, e, z⟩ := hq y b (u.back na)
    exact ⟨w, by simp [u.ne S.ok.nodup na, e], z.mono T⟩
  · obtain ⟨c, w, h1, ⟨o, h2, h3⟩, h4⟩ := S.cell y kd b (u.back na) hkd
    have hne : c ≠ f.env.locals := by
      rcases S.cap y c h1 with h5 | ⟨o', h5⟩
      · exact ne c (List.mem_append_left _ h5)
      · exact gn c o' h5
    exact ⟨c, w, h1, ⟨o, (hs.2 c hne).trans h2, h3⟩, h4.mono T⟩
  · obtain ⟨w, o, h1, h2⟩ := S.owns c hc'
    exact ⟨w, o, (hs.2 c (ne c (List.mem_append_left _ hc'))).trans h1, h2⟩
  · refine c.stable s.heap h' (fun y hy o e => (hs.2 y (ne y (List.mem_append_right _ (mem_feet hc' hy)))).trans e) T (S.holds c hc')

theorem eval_btyp {A : Around} {x : Str} {T : String} {np : Pos} {Q : Value → Shared → Prop} {E : Value → Shared → Prop} (p : PF D g) (S : St D g f ns m P s) (e : In1 ns x .globalImplicit) (hx : nsIn D.K mainGlobals x = some Option.none) (hb : bootBuiltins x = some (.type T)) (hd : notDebug x = true) (hn : x ≠ "__name__")
    (q : Q (.type T) s) : wpAny (model D.prog D.w) A (eval (.Name x np) f.env) Q E s := by
  refine Name_function_global S.ok.kind (S.ok.kindOf e.mem) ?_ (notDebug_ hd)
  unfold loadGlobal
  rw [S.ok.globals, S.ok.blt]
  refine wpAny_bind ((looks_nsIn (p.K.keeps S.keep) hx).here ?_)
  refine wpAny_bind (wpAny_nsGet (p.bns.keeps S.keep) ?_)
  rw [p.blt x hn, hb]
  exact wpAny_pure q

/-- what the clauses make of an exception -/
def Hd (D : WD) (n : Nat) (f : Fm) (k : Stk) (ns : Nms) (hs : List ExceptHandler) (cls : String) (msg : AVal) (m : Loc) (P : List Ck) (Q : AFlow → Loc → List Ck → Prop) : Prop :=
  ∀ A g s e, A.frames = some (f.env :: k.map (·.1)) → Room D n A → PF D g → Fly D g f ns k (f.env :: k.map (·.1)) cls msg e m P s → wpAny (model D.prog D.w) A (handleBy (.ref e) f.env hs) (Post D g f ns F s Q) NoE s

theorem Fly.slots {h' : Heap} {l : List Env} {cls : String} {msg : AVal} {e : Addr} {B : Heap} {t : Addr} {w : Value} (S : St D g f ns m P s) (mem : stk k ∈ P) (C : Cov B g f k P) (ht : s.heap.TupAt t [w]) (hv : V s.heap msg w) (hn : B.get? t = none)
    (b1 : B.StaysIn s.heap) (u : s.heap.UpToSlots h') (x : Heap.FlyingW B l e (.type cls) (.ref t) h') : Fly D g f ns k l cls msg e m P { s with heap := h' } :=
  ⟨mem, S.slots C b1 x.1 u, B, t, w, C, x, ht.of_slots u, hv.mono (upTo_tk u), hn⟩

theorem ExZ.try_ {body : List Stmt} {h0 : ExceptHandler} {hs : List ExceptHandler} {pos : Pos} {Q : AFlow → Loc → List Ck → Prop} {X : XQ} (hO : Own f)
    (h : ExsZ D n f k ns body m P Q fun mk cls msg m1 P1 => mk = false ∧ Hd D n f k ns (h0 :: hs) cls msg m1 P1 Q) : ExZ D n f k ns (.Try body (h0 :: hs) [] [] pos) m P Q X := fun A g s vs hf r p S _ => by
  refine wpAny_mono (E := NoE) ?_ (fun _ _ x => x) fun _ _ e => e.elim
  refine wpAny_Try_except (h.run hf r p S .nil (fun fl m1 P1 x s1 T1 hx S1 q => ?_) fun v s1 hx => ?_)
  · cases fl with
    | next => cases hx; exact wpAny_execs_nil ⟨.next, m1, P1, T1, rfl, S1, q⟩
    | brk => cases hx; exact ⟨.brk, m1, P1, T1, rfl, S1, q⟩
    | cont => cases hx; exact ⟨.cont, m1, P1, T1, rfl, S1, q⟩
    | ret a => obtain ⟨v, rfl, hv⟩ := hx; exact ⟨.ret a, m1, P1, T1, ⟨v, rfl, hv⟩, S1, q⟩
  · obtain ⟨mk, e, cls, msg, m1, P1, rfl, T1, hM, rfl, hq⟩ := hx
    rw [if_neg Bool.false_ne_true] at hM
    obtain ⟨B, t, w, C, x1, x2, x3, x4⟩ := hM.ex
    refine wpAny_looks_onW hf hO x1 fun h₂ y1 y2 => ?_
    refine wpAny_landsW y1 fun h₃ z1 z2 => ?_
    have u := y2.trans z2
    have F3 := Fly.slots (f := f) (ns := ns) (m := m1) (k := k) hM.st hM.mem C x2 x3 x4 x1.1 u z1
    refine wpAny_mono (hq A g _ e hf r p F3) (fun x s' => ?_) fun _ _ e => e
    rintro ⟨b, m', P', T, rb, S', q⟩
    exact ⟨b, m', P', (T1.trans (upTo_tk u)).trans T, rb, S', q⟩

theorem Hd.miss {cls T : String} {msg : AVal} {x : Str} {np : Pos} {nm : Str} {b₀ : Stmt} {suite : List Stmt} {pos : Pos} {rest : List ExceptHandler} {Q : AFlow → Loc → List Ck → Prop} (e : In1 ns x .globalImplicit) (hx : nsIn D.K mainGlobals x = some Option.none) (hb : bootBuiltins x = some (.type T))
    (hexc : isSubtype (.type T) (.type "BaseException") = pure true) (hnt : isSubtype (.type ((Manifest.find? T).elim "type" fun y => y.metatype)) (.type "tuple") = pure false) (hsub : isSubtype (.type cls) (.type T) = pure false)
    (h : Hd D n f k ns rest cls msg m P Q) (hd : notDebug x = true := by decide +kernel) (hn : x ≠ "__name__" := by decide +kernel) :
    Hd D n f k ns (.ExceptHandler (some (.Name x np)) (some nm) (b₀ :: suite) pos :: rest) cls msg m P Q := fun A g s ea hf r p Fl => by
  obtain ⟨B, t, w, C, x1, x2, x3, x4⟩ := Fl.ex
  refine wpAny_handleBy_builtin_as (X := cls) (T := T) (b := false) hexc hnt hsub (eval_btyp p Fl.st e hx hb hd hn ⟨rfl, x1.there, ?_⟩)
  rw [if_neg Bool.false_ne_true]
  exact h A g s ea hf r p Fl

theorem Hd.hit {cls T : String} {l : List Nat} {x : Str} {np : Pos} {nm : Str} {b₀ : Stmt} {suite : List Stmt} {pos : Pos} {rest : List ExceptHandler} {Q : AFlow → Loc → List Ck → Prop} (e : In1 ns x .globalImplicit) (hx : nsIn D.K mainGlobals x = some Option.none) (hb : bootBuiltins x = some (.type T))
    (hexc : isSubtype (.type T) (.type "BaseException") = pure true) (hnt : isSubtype (.type ((Manifest.find? T).elim "type" fun y => y.metatype)) (.type "tuple") = pure false) (hsub : isSubtype (.type cls) (.type T) = pure true) (htup : cls ≠ "tuple")
    (h : ∀ ea, ∃ m1, NmUp ns m nm .local (.ref ea) m1 ∧ Exs (D.on (some (.ref ea))) n f ns (b₀ :: suite) m1 (exo ea cls l :: P) fun fl m2 P2 => ∃ m3, NmDn ns m2 nm .local m3 ∧ Q fl m3 P2)
    (hd : notDebug x = true := by decide +kernel) (hn : x ≠ "__name__" := by decide +kernel) :
    Hd D n f k ns (.ExceptHandler (some (.Name x np)) (some nm) (b₀ :: suite) pos :: rest) cls (.str l) m P Q := fun A g s ea hf r p Fl => by
  obtain ⟨B, t, w, C, x1, x2, x3, x4⟩ := Fl.ex
  have hp : (f.env.scope.kind == .class || (f.env.scope.kind == .module && f.env.locals != f.env.globals)) = false := by rw [Fl.st.ok.kind]; rfl
  refine wpAny_handleBy_builtin_as (X := cls) (T := T) (b := true) hexc hnt hsub (eval_btyp p Fl.st e hx hb hd hn ⟨rfl, x1.there, ?_⟩)
  rw [if_pos rfl]
  refine wpAny_mono (E := NoE) ?_ (fun _ _ x => x) fun _ _ e => e.elim
  refine lands_againW x1 fun h₂ z1 u => ?_
  have F2 := Fly.slots (f := f) (ns := ns) (m := m) (k := k) Fl.st Fl.mem C x2 x3 x4 x1.1 u z1
  obtain ⟨ud, rfl⟩ := x3
  obtain ⟨oe, vs, hoe, hoec, hoed, hoe0⟩ := z1.first
  have ht2 := x2.of_slots u
  have S2 : St D g f ns m (exo ea cls l :: P) { s with heap := h₂ } := F2.st.claim ⟨htup, t, ud, ⟨oe, vs, hoe, hoec, hoed, hoe0⟩, by obtain ⟨o, n', a, b, c⟩ := ht2; exact ⟨o, a, b, n', c⟩⟩ (fun y hy => by
    simp [exo] at hy; subst hy
    have hB := z1.2.1
    refine ⟨?_, fun q => ?_⟩
    · cases q : g.get? y with
      | none => rfl
      | some o => rw [C.base _ _ q] at hB; cases hB
    · rcases List.mem_cons.mp q with rfl | q
      · obtain ⟨o', ho', es, n', hd'⟩ := F2.st.lclObj
        rw [show ({ s with heap := h₂ } : Shared).heap = h₂ from rfl, hoe] at ho'; cases ho'
        rw [hoed] at hd'; cases hd'
      · rcases List.mem_append.mp q with q | q
        · obtain ⟨o', e'⟩ := C.own _ q
          rw [hB] at e'; cases e'
        · obtain ⟨c, hc, hy⟩ := List.mem_flatMap.mp q
          by_cases hk : c = stk k
          · subst hk
            obtain ⟨pp, hpp, rfl⟩ := List.mem_map.mp hy
            obtain ⟨_, _, ⟨es, n', hd'⟩, sl, e'⟩ := F2.st.holds _ hc pp hpp
            rw [show ({ s with heap := h₂ } : Shared).heap = h₂ from rfl, hoe] at e'; cases e'
            rw [show ({ pp.2 with slots := sl } : Obj).data = pp.2.data from rfl, hd'] at hoed; cases hoed
          · obtain ⟨o', e'⟩ := C.pcs c hc hk _ hy
            rw [hB] at e'; cases e') (by simp [exo])
  have T2 := upTo_tk u
  obtain ⟨m1, hup, hex⟩ := h ea
  obtain ⟨M, hM, hq⟩ := S2.lcl
  refine wpAny_storeName_local (S2.ok.kindOf hup.mem) hM (fun h₃ hn₃ hs₃ => ?_) hp
  have S3 := S2.setL (tk := s.toks + 1) (v := .ref ea) hup rfl hM hq hn₃ hs₃
  have T3 : TK h₂ h₃ := TK.sameBut hs₃ fun o e => by obtain ⟨o', es, ep, ho, hd, _⟩ := hM; rw [ho] at e; cases e; exact .dict hd
  have r2 : Room (D.on (some (.ref ea))) n (A.mark (some (.ref ea))) := ⟨r.depth, r.units, rfl⟩
  refine wpAny_mono (hex (A.mark (some (.ref ea))) g _ [] r2 p.on S3.on .nil) (fun fl s₄ => ?_) fun _ _ e => e.elim
  rintro ⟨afl, m2, P2, T4, hF, S4, m3, hdn, q⟩
  obtain ⟨M4, hM4, hq4⟩ := S4.lcl
  refine wpAny_nameGoes_keeps (S4.ok.kindOf hdn.mem) hM4 hp fun h₅ v₅ hn₅ hs₅ => ?_
  obtain ⟨S5, T5⟩ := S4.off.dropL (tk := s₄.toks + 1) hdn hM4 hq4 hn₅ hs₅
  exact ⟨afl, m3, P2, ((T2.trans T3).trans T4).trans T5, hF.mono T5, S5, q⟩

theorem c_strE {e : Addr} {cls nme : String} {l : List Nat} {Q : AVal → Loc → List Ck → Prop} (FX : ExcStrFacts cls nme) (hm : exo e cls l ∈ P) (q : Q (.str l) m P) : Cal D n f ns (.typ "str") [.ref e] [] [] m P Q := .t fun A g s vs r p S hv => by
  obtain ⟨v, rfl, h1⟩ := Vs.one hv
  simp only [V] at h1; subst h1
  obtain ⟨_, t, u, hx, ⟨o, a, b, c, d⟩⟩ := S.holds _ hm
  have := r.units
  exact PySem.P.str_of_exc_one FX (by show A.units + 2 < 9900; omega) hx ⟨o, c, a, b, d⟩ ⟨.str l, m, _, TK.refl _, V.str, S, q⟩
end
end Mine

-- XL
namespace Mine
open PySem PySem.W PySem.Calls PyProof.Rows PySem.SeqAt

/-- a match that was found -/
def mch (a : Addr) : Ck where
  foot := [a]
  holds h := ∃ o, h.get? a = some o ∧ o.cls = .type "re.Match"
  stable h h' s _ := fun ⟨o, e, c⟩ => ⟨o, s _ (.head _) _ e, c⟩
  live h := fun ⟨o, e, c⟩ x hx => by
    simp at hx; subst hx
    exact ⟨o, e, .ty c⟩

theorem runToEnd_hit {M : Model} {A : Around} {E : Value → Shared → Prop} {s : Shared} {m : Sre.M} {Q : Option Sre.M → Shared → Prop} (h1 : (m.runFor 4).outcome = some .matched) (h : Q (some (m.runFor 4)) s) : wpAny M A (Builtin.Re.reRunToEnd m) Q E s := by
  have e : Builtin.Re.reDrive (2 ^ 64) m = pure (m.runFor 4) := by
    have : (2 : Nat) ^ 64 = (2 ^ 64 - 1) + 1 := by decide
    rw [this]
    unfold Builtin.Re.reDrive
    show (if (m.runFor 4).outcome.isSome then pure (m.runFor 4) else _) = _
    rw [h1]
    rfl
  unfold Builtin.Re.reRunToEnd
  rw [e]
  refine wpAny_bind (wpAny_pure ?_)
  refine wpAny_bind (wpAny_mono (wp_rules (Q := fun _ s' => s' = s) rfl _) (fun _ s' hs => ?_) fun _ _ e => e)
  subst hs
  rw [h1]
  exact wpAny_pure h

section
variable {D : WD} {n : Nat} {f : Fm} {ns : Nms} {m : Loc} {P : List Ck}
/-- what lies at a pattern's place, without groups -/
structure Pat0 (D : WD) (p : Addr) (code : Array Nat) : Prop where
  at' : ∃ op T oT fs items k, D.K.lookup p = some op ∧ op.cls = .type "re.Pattern" ∧ op.dict = none ∧ op.data = .fields fs ∧ Builtin.Re.reRawNat (fs.getD 6 .none) = 0 ∧ fs.getD 5 .none = .ref T ∧ Builtin.Re.reRawNat (fs.getD 2 .none) = 0 ∧ D.K.lookup T = some oT ∧ oT.data = .seq items k ∧
    (items.map Builtin.Re.reRawOf).map (·.toNat) = code
theorem c_searchHit {p : Addr} {code : Array Nat} {x : List Nat} {Q : AVal → Loc → List Ck → Prop} (h : Pat0 D p code) (hh : ((Sre.forSearch code x.toArray 0 0 x.length false).runFor 4).outcome = some .matched) (hz : x.length ≤ 1000000) (q : ∀ a, Q (.ref a) m (mch a :: P)) :
    Cal D n f ns (.blt "re.Pattern.search") [.ref p, .str x] [] [] m P Q := .b fun A g s vs r pf S hv => by
  obtain ⟨v, w, rfl, h1, h2⟩ := Vs.two hv
  simp only [V] at h1 h2
  subst h1
  obtain ⟨t, rfl⟩ := h2
  obtain ⟨op, T, oT, fs, items, k, a1, a2, a3, hfs, hw, hc, hg, a7, hit, hcode⟩ := h.at'
  have hp := S.keep _ _ (pf.K _ _ a1)
  have hT := S.keep _ _ (pf.K _ _ a7)
  have body : wpAny (model D.prog D.w) A.in1 (Builtin.«re.Pattern.search» ⟨[.ref p, .str (mkS x) t], []⟩) (fun fin s' => ∃ r, fin = .done (.ret r) ∧ Post D g f ns V s Q r s') NoE s := by
    unfold Builtin.«re.Pattern.search»
    refine wpAny_bind ?_
    unfold Builtin.Re.reTarget
    show wpAny _ _ (Builtin.Re.reNamed _ _ _ _ _ _ >>= _) _ _ _
    refine wpAny_bind (wpAny_of_eq (a := [some (Value.str (mkS x) t), none, none]) rfl ?_)
    dsimp only
    refine wpAny_bind (wpAny_pure ?_)
    refine wpAny_bind (wpAny_pure ?_)
    refine wpAny_bind (wpAny_fieldsOf hp hfs ?_)
    refine wpAny_bind (m := Builtin.Re.reTextOf (.str (mkS x) t)) (wpAny_of_eq (a := (x.toArray, 0)) rfl ?_)
    rw [hw, hc]
    show wpAny _ _ (Builtin.Re.reRawItems (.ref T) >>= _) _ _ _
    unfold Builtin.Re.reRawItems
    refine wpAny_bind (wpAny_bind (wpAny_seqItems hT hit (wpAny_pure ?_)))
    refine wpAny_pure ?_
    dsimp only
    simp only [Option.getD_some, hcode]
    have e1 : min (Int.toNat 0) x.toArray.size = 0 := by simp
    have e2 : min (2 ^ 63 - 1 : Int).toNat x.toArray.size = x.length := by simp; omega
    rw [e1, e2, hg]
    unfold Builtin.Re.reAnswer
    refine wpAny_bind (runToEnd_hit hh ?_)
    refine wpAny_bind ?_
    unfold Builtin.Re.reNewMatch
    dsimp only
    simp only [List.range_zero, List.any_nil, Bool.false_eq_true, if_false, List.flatMap_nil]
    unfold newTuple newFields
    generalize Sre.M.runFor 4 _ = M'
    refine wpAny_bind (wpAny_newObj_type ?_ (by size_fits))
    refine wpAny_newObj_type ?_ (by size_fits)
    refine wpAny_pure ⟨_, rfl, ?_⟩
    refine ⟨.ref _, m, _, TK.keeps fun b o e => Heap.get?_push_of_some _ (Heap.get?_push_of_some _ e), rfl, S.newc (tk := s.toks) (c' := mch _) (fun b o e => Heap.get?_push_of_some _ (Heap.get?_push_of_some _ e)) ⟨_, Heap.get?_push_size _ rfl, rfl⟩ (fun y hy => ?_) (by simp [mch]), q _⟩
    simp [mch] at hy; subst hy
    exact Heap.get?_none_of_le (by simp)
  exact wpAny_call_entry slot_search ⟨op, hp, a2⟩ entry_search body (args_search _ _)

theorem mch_bool : typeLookup (.type "re.Match") "__bool__" = pure none := by rw [typeLookup_type, builtinLookup_eq_fast]; kernel_rfl
theorem mch_len : typeLookup (.type "re.Match") "__len__" = pure none := by rw [typeLookup_type, builtinLookup_eq_fast]; kernel_rfl
theorem t_mch {a : Addr} {Q : Bool → Loc → List Ck → Prop} (hm : mch a ∈ P) (q : Q true m P) : Wp D n f ns Eqv [.ref a] (Op1 truthy) m P Q := fun A g s vs r p S hv => by
  obtain ⟨v, rfl, h1⟩ := Vs.one hv
  simp only [V] at h1; subst h1
  obtain ⟨o, ho, hc⟩ := S.holds _ hm
  have hT : s.TypeIs (.ref a) "re.Match" := ⟨o, ho, hc⟩
  show wpAny _ _ (truthy (.ref a)) _ _ _
  unfold truthy
  first
    | refine wpAny_bind (wpAny_callSpecial?_none (name := Str.ofString "__bool__") hT mch_bool ?_)
    | refine wpAny_bind (wpAny_pure (wpAny_bind (wpAny_callSpecial?_none (name := Str.ofString "__bool__") hT mch_bool ?_)))
  first
    | refine wpAny_bind (wpAny_specialOf (name := Str.ofString "__len__") hT mch_len ?_)
    | refine wpAny_bind (wpAny_pure (wpAny_bind (wpAny_specialOf (name := Str.ofString "__len__") hT mch_len ?_)))
  exact wpAny_pure ⟨true, m, P, TK.refl _, rfl, S, q⟩

theorem c_typeI {i : Int} {Q : AVal → Loc → List Ck → Prop} (q : Q (.typ "int") m P) : Cal D n f ns (.typ "type") [.int i] [] [] m P Q := .t (.ci (c := .typ "int") (fun A s t Q' K => call_type_of (typeIs_int _ _ _) (by decide) (K (.type "int") s.toks rfl)) q)
theorem c_reprI {k : Nat} {Q : AVal → Loc → List Ck → Prop} (hk : k < 10 ^ 10) (q : Q (.str (dec k)) m P) : Cal D n f ns (.blt "repr") [.int k] [] [] m P Q := .b (.ci (fun A s t Q' K => PySem.P.repr_of_int (dec_small hk) (by rw [dec_str]; exact K _ _ V.str)) q)

def tmpl : List Nat := "Header names/values must be of type str (got {0})".toList.map Char.toNat
def byN0 (k : Str) : Sem Value := match ([] : List (Str × Value)).lookup k with
    | some v => pure v
    | none => do rule "str.format.no-such-keyword"; raiseNew (← newExc (.type "KeyError") [← mkStr k])
def resW (l : List Nat) : Builtin.Str.Writer := { pieces := [⟨#[41]⟩, ⟨l.toArray⟩, ⟨(tmpl.take 45).toArray⟩], total := 46 + l.length, whole := none }
theorem fmt1 (a : Nat) (t u : Tok) : Builtin.«str.format» ⟨[.str (mkS tmpl) t, .str (mkS [a]) u], []⟩ = Builtin.Str.Writer.finish "str.format" (resW [a]) := by kernel_rfl
theorem fmt2 (a b : Nat) (t u : Tok) : Builtin.«str.format» ⟨[.str (mkS tmpl) t, .str (mkS [a, b]) u], []⟩ = Builtin.Str.Writer.finish "str.format" (resW [a, b]) := by kernel_rfl
def said (l : List Nat) : List Nat := tmpl.take 45 ++ l ++ [41]
theorem resW_text (l : List Nat) : (resW l).text = mkS (said l) := by
  unfold Builtin.Str.Writer.text resW said mkS
  simp
theorem g_format {x : List Nat} {Q : AVal × List AVal → Loc → List Ck → Prop} (q : Q (.blt "str.format", [.str x]) m P) : Gm D n f ns (.str x) "format" m P Q := .s (fun {A s t pl Q} h => getMethod_builtin (typeIs_str _ _ _) F.plainAttrs_str F.slot_str_format_m F.type_str_format_m (fun a e => by cases e) h) q
theorem said_len (l : List Nat) : (said l).length = 46 + l.length := by
  unfold said
  rw [List.length_append, List.length_append, show (tmpl.take 45).length = 45 by decide +kernel, List.length_singleton]; omega
theorem fin_res {A : Around} {s : Shared} {l : List Nat} {Q : Value → Shared → Prop} {E : Value → Shared → Prop} (hl : l.length ≤ 2) (h : ∀ t tk, Q (.str (mkS (said l)) t) { s with toks := tk }) :
    wpAny (model D.prog D.w) A (Builtin.Str.Writer.finish "str.format" (resW l)) (fun fin s' => ∃ r, fin = .done (.ret r) ∧ Q r s') E s := by
  unfold Builtin.Str.Writer.finish
  rw [resW_text]
  have hlen : (resW l).total = 46 + l.length := rfl
  have hw : (resW l).whole = none := rfl
  rw [hw, hlen]
  dsimp only
  have hn : ¬ (Builtin.Str.tooLong (46 + l.length) = true) := by
    unfold Builtin.Str.tooLong sizeLine; simp; omega
  rw [if_neg hn]
  unfold retStr
  refine wpAny_bind (wpAny_mkStr (wpAny_pure ⟨_, rfl, h _ _⟩) (hx := ?_))
  rw [mkS_len, said_len]
  unfold sizeLine
  omega
theorem c_format {l : List Nat} (hl : l.length = 1 ∨ l.length = 2) {Q : AVal → Loc → List Ck → Prop} (q : Q (.str (said l)) m P) : Cal D n f ns (.blt "str.format") [.str tmpl, .str l] [] [] m P Q := .b (.c2 (fun A s t u Q' K => by
  refine wpAny_call_entry F.slot_str_format_m (typeIs_str _ _ _) F.entry_str_format_m ?_ (F.args_str_format_m_2 _ _)
  have hb : Builtin.«str.format» ⟨[.str (mkS tmpl) t, .str (mkS l) u], []⟩ = Builtin.Str.Writer.finish "str.format" (resW l) := by
    match l, hl with
    | [a], _ => exact fmt1 a t u
    | [a, b], _ => exact fmt2 a b t u
    | [], h => simp at h
    | _ :: _ :: _ :: _, h => simp at h
  rw [hb]
  exact fin_res (by omega) fun t tk => K _ _ V.str) q)
end
end Mine

-- XM
namespace Mine
open PySem PySem.W PySem.Calls PyProof.Rows PySem.SeqAt

/-- each but once -/
def dd1 (σ : List (List Nat)) (k : List Nat) : List (List Nat) := if σ.any (· == k) then σ else σ ++ [k]
def dd (xs : List (List Nat)) : List (List Nat) := xs.foldl dd1 []
theorem dd_snoc (xs : List (List Nat)) (k : List Nat) : dd (xs ++ [k]) = dd1 (dd xs) k := by unfold dd; rw [List.foldl_append]; rfl
theorem dd1_len (σ : List (List Nat)) (k : List Nat) : (dd1 σ k).length = if σ.any (· == k) then σ.length else σ.length + 1 := by unfold dd1; split <;> simp
theorem dd_le : ∀ xs : List (List Nat), (dd xs).length ≤ xs.length := fun xs => by
  have key : ∀ (l σ : List (List Nat)), (l.foldl dd1 σ).length ≤ σ.length + l.length := fun l => by
    induction l with
    | nil => intro σ; simp
    | cons k l ih =>
      intro σ
      have h1 := ih (dd1 σ k)
      have h2 := dd1_len σ k
      rw [List.foldl_cons, List.length_cons]
      split at h2 <;> omega
  simpa [dd] using key xs []
def hasS (L : List (List Nat)) (k : Str) : Bool := L.any fun y => mkS y == k
theorem hasS_mk (L : List (List Nat)) (x : List Nat) : hasS L (mkS x) = L.any (· == x) := by
  unfold hasS
  congr 1
  funext y
  by_cases h : y = x
  · subst h; simp
  · rw [beq_eq_false_iff_ne.mpr h, beq_eq_false_iff_ne.mpr fun q => h (mkS_inj q)]
theorem hasS_dd1 (σ : List (List Nat)) (x : List Nat) (k : Str) : hasS (dd1 σ x) k = (hasS σ k || decide (k = mkS x)) := by
  unfold dd1
  by_cases h : σ.any (· == x) = true
  · rw [if_pos h]
    by_cases e : k = mkS x
    · subst e; rw [hasS_mk, h]; rfl
    · simp [e]
  · rw [if_neg h]
    unfold hasS
    rw [List.any_append]
    by_cases e : k = mkS x
    · subst e; simp
    · have : (mkS x == k) = false := beq_eq_false_iff_ne.mpr fun q => e q.symm
      simp [this, e]

section
variable {prog : Program} {w : World} {A : Around} {I : Addr} {fp wr : List Addr} {G : Array GenState → Array GenState → Prop} {N : Nat} {Pv : Nat → Value → Prop} {St : Nat → Shared → Prop} {R : Result → Shared → Prop}
theorem setOf_cast {h : Heap} {a : Addr} {σ σ' : Str → Bool} {n n' : Nat} (x : h.SetOf (strKind prog w) a σ n) (e1 : σ = σ') (e2 : n = n') : h.SetOf (strKind prog w) a σ' n' := by subst e1; subst e2; exact x
/-- the words of a row go into a set -/
theorem fill_set (W : WalksS prog w A.in1 I fp wr G N Pv St) {S : Addr} (hS : S ∉ fp) {xs : List (List Nat)} (hN : N = xs.length) (hv : ∀ i v, Pv i v → ∃ x t, xs[i]? = some x ∧ v = Value.str (mkS x) t) (hb : xs.length + 1 < scanBound) :
    ∀ (c i : Nat) (s : Shared), i + c = N → St i s → s.heap.SetOf (strKind prog w) S (hasS (dd (xs.take i))) (dd (xs.take i)).length →
      (∀ s', Moved (S :: wr) G s s' → s'.heap.SetOf (strKind prog w) S (hasS (dd xs)) (dd xs).length → R (.ok (.ret .none)) s') →
      codeAny (model prog w) A (.builtin "set.update.loop" ⟨[.ref S, .ref I], []⟩) R s := by
  have hw : S ∉ wr := fun h => hS (W.sub _ h)
  have up : ∀ b ∈ wr, b ∈ S :: wr := fun b => List.mem_cons_of_mem _
  have keepS : ∀ {s s' : Shared} {σ : Str → Bool} {n : Nat}, Moved wr G s s' → s.heap.SetOf (strKind prog w) S σ n → Heap.SetOf (strKind prog w) s'.heap S σ n := fun hm ⟨o, es, ep, t, ho, r⟩ => ⟨o, es, ep, t, hm.heap S _ hw ho, r⟩
  intro c
  induction c with
  | zero =>
    intro i s hi st h k
    obtain rfl : i = N := by omega
    refine codeAny_builtin F.entry_set_update_loop ?_
    rw [Around.under_plainId F.plain_set_update_loop _]
    refine wpAny_bind (W.done s _ _ st fun s' hm => ?_)
    rw [hN, List.take_length] at h
    exact wpAny_pure (k s' (hm.mono up) (keepS hm h))
  | succ c ih =>
    intro i s hi st h k
    refine codeAny_builtin F.entry_set_update_loop ?_
    rw [Around.under_plainId F.plain_set_update_loop _]
    refine wpAny_bind (W.item i s _ _ (by omega) st fun v s' hp st' hm => ?_)
    obtain ⟨x, t, hx, rfl⟩ := hv i v hp
    show wpAny _ A.in1 (holding [Value.str (mkS x) t] (setAdd S (.str (mkS x) t)) >>= _) _ _ s'
    refine wpAny_bind (wpAny_holding ?_)
    unfold setAdd
    refine wpAny_holding (wpAny_bind ((strKind prog w).pyHash (k := mkS x) (strKind_is _ _ _ _) ?_))
    have hlt := (List.getElem?_eq_some_iff.mp hx).1
    have hle := dd_le (xs.take i)
    rw [List.length_take] at hle
    refine wpAny_setAddHashed_of (knd := strKind prog w) (s := { s' with toks := s'.toks + 1 }) (strKind_is _ _ _ _) rfl (show Heap.SetOf (strKind prog w) s'.heap S _ _ from keepS hm h) (by omega) fun h' hsb h2 => ?_
    have e : xs.take (i + 1) = xs.take i ++ [x] := by rw [List.take_add_one, hx]; rfl
    have h3 : h'.SetOf (strKind prog w) S (hasS (dd (xs.take (i + 1)))) (dd (xs.take (i + 1))).length :=
      setOf_cast h2 (funext fun k => by rw [e, dd_snoc, hasS_dd1]) (by rw [e, dd_snoc, dd1_len, hasS_mk])
    refine wpAny_pure ⟨plainId_quiet F.plain_set_update_loop _, ih (i + 1) _ (by omega) (W.frame _ s' _ _ st' (Nat.le_succ _) fun b hb o e => ?_) h3 fun s2 hm2 h4 => ?_⟩
    · rw [hsb.2 b fun q => hS (q ▸ hb)]; exact e
    · refine k s2 (Moved.trans W.gtrans ((hm.mono up).then_heap (Nat.le_succ _) fun b o hb e => ?_) hm2) h4
      rw [hsb.2 b fun q => hb (by rw [q]; exact .head _)]; exact e
end

section
variable {prog : Program} {w : World} {A : Around} {E : Value → Shared → Prop} {s : Shared}
open PySem
abbrev setO (led : Bool) : Obj := { cls := .type "set", dict := none, data := .set #[] 0 (.fresh 0 0 led) }
/-- a set of the words of a row -/
theorem set_words {l : Addr} {items : Array Value} {xs : List (List Nat)} {Q : Value → Shared → Prop} (hh : A.handled = none) (hl : s.heap.IsList l items) (hi : ∀ (i : Nat) (v : Value), items[i]? = some v → ∃ (x : List Nat) (t : Tok), xs[i]? = some x ∧ v = Value.str (mkS x) t) (hn : items.size = xs.length) (hb : xs.length + 1 < scanBound)
    (h : ∀ (h' : Heap) (tk : Nat), h'.SetOf (strKind prog w) s.heap.objs.size (hasS (dd xs)) (dd xs).length → (∀ b o, b < s.heap.objs.size → s.heap.get? b = some o → h'.get? b = some o) → Q (.ref s.heap.objs.size) { s with heap := h', toks := tk }) :
    wpAny (model prog w) A (call (.type "set") [.ref l]) Q E s := by
  obtain ⟨c, tl, hmro⟩ := F.called_set.mro
  have hmade := F.called_set.made
  have hsub := F.called_set.sub
  refine wpAny_call (codeAny_of_tree ?_)
  show wpAny _ _ (callAny (.type "set") _) _ _ _
  refine wpAny_pure ⟨Code.quiet_builtin _ (by decide +kernel), codeAny_builtin F.entry_type_call ?_⟩
  rw [Around.under_plain (weight_type_call_type "set" [.ref l] []) rfl]
  have h1 := F.called_set.notType
  have h2 := F.called_set.canCreate
  have hct := F.typeCall_set_1 (.ref l)
  repeat (any_goals (first | assumption | wp_step))
  refine codeAny_mono (code_set_new_1 (.ref l) (E := E) (Q₁ := fun obj s₁ => ∃ led : Bool, obj = .ref s.heap.objs.size ∧ s₁ = { s with heap := s.heap.push { cls := .type "set", dict := none, data := .set #[] 0 (.fresh 0 0 led) } }) fun led => ⟨led, rfl, rfl⟩) fun r s₁ hr => ?_
  cases r with
  | error e => exact hr
  | ok fl =>
    cases fl with
    | ret obj =>
      obtain ⟨led, rfl, rfl⟩ := hr
      have hS : (s.heap.push (setO led)).get? s.heap.objs.size = some (setO led) := Heap.get?_push_size _ rfl
      have hT : Shared.TypeIs { s with heap := s.heap.push (setO led) } (.ref s.heap.objs.size) "set" := ⟨_, hS, rfl⟩
      have hli := F.called_set.init.lookup
      have hbi := F.called_set.init.bind (.ref s.heap.objs.size)
      repeat (any_goals (first | assumption | wp_step))
      refine codeAny_mono (codeAny_call_builtin (R := wants (fun r s₂ => r = .none ∧ ∃ h' tk, s₂ = { s with heap := h', toks := tk } ∧ h'.SetOf (strKind prog w) s.heap.objs.size (hasS (dd xs)) (dd xs).length ∧
          (∀ b o, b < s.heap.objs.size → s.heap.get? b = some o → h'.get? b = some o)) E) F.called_set.init.plain F.entry_set_init (check_set_init_1 hT ?_)) fun r₂ s₂ hr₂ => ?_
      · obtain ⟨ol, hol, hcl, nl, hdl⟩ := hl
        obtain ⟨ocls, odict, odata, oslots⟩ := ol
        simp only at hcl hdl
        subst hcl; subst hdl
        have hol' : (s.heap.push (setO led)).get? l = some { cls := .type "list", dict := odict, data := .seq items nl, slots := oslots } := Heap.get?_push_of_some _ hol
        have hsls := F.sub_list_set
        have hslf := F.sub_list_frozenset
        have hne : (Value.type "list" == Value.type "dict") = false := by decide
        have hl1 : (s.heap.push (setO led)).IsList l items := ⟨_, hol', rfl, nl, rfl⟩
        unfold Builtin.«set.__init__» noKeywords Builtin.Frozenset.updateFrom
        generalize hPI : pyIter = PI
        wp_walk
        subst hPI
        refine wpAny_pyIter_list hl1 ?_
        refine wpAny_bind (wpAny_runValue ?_)
        have hlS : l < s.heap.objs.size := Heap.lt_size hol
        have hneI : l ≠ (s.heap.push (setO led)).objs.size := by rw [Heap.size_push]; exact Nat.ne_of_lt (Nat.lt_succ_of_lt hlS)
        have hSf : s.heap.objs.size ∉ [(s.heap.push (setO led)).objs.size, l] := by
          rw [Heap.size_push]
          simp only [List.mem_cons, List.not_mem_nil, or_false, not_or]
          exact ⟨Nat.ne_of_lt (Nat.lt_succ_self _), Nat.ne_of_gt hlS⟩
        refine fill_set ((Walks.list (by simp [hh]) _ l hneI items).toS) hSf hn hi hb items.size 0 _ (by omega) ⟨⟨_, Heap.get?_push_size _ rfl, rfl, rfl⟩, hl1.push _⟩ ?_ fun s' hm hS' => ?_
        · have hget : ((s.heap.push (setO led)).push { cls := .type "list_iterator", data := .fields #[.ref l, .int 0 0] }).get? s.heap.objs.size = some (setO led) := Heap.get?_push_of_some _ hS
          exact setOf_cast ((setObjOf_fresh (knd := strKind prog w) led).setOf hget (by unfold scanBound; omega)) (funext fun _ => rfl) rfl
        · obtain ⟨h', g', d', tk', os'⟩ := s'
          have eg : g' = s.gens := hm.gens
          have ed : d' = s.drawn := hm.drawn
          have eo : os' = s.os := hm.os
          subst eg; subst ed; subst eo
          show wpAny _ _ _ _ _ _
          refine wpAny_pure ?_
          show wpAny _ _ (ret Value.none) _ _ _
          refine wpAny_pure ⟨rfl, h', tk', rfl, hS', fun b o hb e => ?_⟩
          refine hm.heap b o ?_ (Heap.get?_push_of_some _ (Heap.get?_push_of_some _ e))
          rw [Heap.size_push]
          simp only [List.mem_cons, List.not_mem_nil, or_false, not_or]
          exact ⟨Nat.ne_of_lt hb, Nat.ne_of_lt (Nat.lt_succ_of_lt hb)⟩
      · cases r₂ with
        | error e => exact hr₂
        | ok fl₂ =>
          cases fl₂ with
          | ret r =>
            obtain ⟨rfl, h', tk, rfl, hS', hk'⟩ := hr₂
            repeat (any_goals (first | assumption | wp_step))
            exact h _ _ hS' hk'
          | _ => exact False.elim hr₂
    | _ => exact False.elim hr
end

section
variable {D : WD} {n : Nat} {f : Fm} {ns : Nms} {m : Loc} {P : List Ck}
/-- a set of words: how many -/
def stn (D : WD) (S : Addr) (j : Nat) : Ck where
  foot := [S]
  holds h := ∃ σ, h.SetOf (strKind D.prog D.w) S σ j
  stable h h' s _ := fun ⟨σ, o, es, ep, t, ho, r⟩ => ⟨σ, o, es, ep, t, s _ (.head _) _ ho, r⟩
  live h := fun ⟨σ, o, es, ep, t, ho, hx, r⟩ x hm => by
    simp at hm; subst hm
    exact ⟨o, ho, .ty hx.1⟩
theorem c_setL {a : Addr} {xs : List (List Nat)} {Q : AVal → Loc → List Ck → Prop} (hh : D.hd = Option.none) (ha : lst a (xs.map .str) ∈ P) (hz : xs.length ≤ 1000) (q : ∀ S, Q (.ref S) m (stn D S (dd xs).length :: P)) : Cal D n f ns (.typ "set") [.ref a] [] [] m P Q := .t fun A g s vs r p S hv => by
  obtain ⟨v, rfl, h1⟩ := Vs.one hv
  simp only [V] at h1; subst h1
  obtain ⟨us, hu, hus⟩ := S.holds _ ha
  have hlen := hus.length
  rw [List.length_map] at hlen
  refine set_words (xs := xs) (r.handled.trans hh) hu.isList (fun i v hv => ?_) (by simp [hlen]) (by unfold scanBound; omega) fun h' tk hS hk => ?_
  · have hv : us[i]? = some v := by simpa using hv
    have hlt : i < xs.length := by rw [← hlen]; exact (List.getElem?_eq_some_iff.mp hv).1
    obtain ⟨w, hw, hV⟩ := hus.get (i := i) (a := .str xs[i]) (by rw [List.getElem?_map, List.getElem?_eq_getElem hlt]; rfl)
    rw [hv] at hw; cases hw
    obtain ⟨t, rfl⟩ := hV
    exact ⟨xs[i], t, List.getElem?_eq_getElem hlt, rfl⟩
  · have hk2 : ∀ b o, s.heap.get? b = some o → h'.get? b = some o := fun b o e => hk b o (Heap.lt_size e) e
    refine ⟨.ref _, m, _, TK.keeps hk2, rfl, S.newc (c' := stn D s.heap.objs.size (dd xs).length) hk2 ⟨_, hS⟩ (fun y hy => ?_) (by simp [stn]), q _⟩
    simp [stn] at hy; subst hy
    exact Heap.get?_none_of_le (by simp)
theorem c_lenSet {a : Addr} {j : Nat} {Q : AVal → Loc → List Ck → Prop} (ha : stn D a j ∈ P) (hz : j ≤ 1000) (q : Q (.int j) m P) : Cal D n f ns (.blt "len") [.ref a] [] [] m P Q := .b fun A g s vs r p S hv => by
  obtain ⟨v, rfl, h1⟩ := Vs.one hv
  simp only [V] at h1; subst h1
  obtain ⟨σ, o, es, ep, t, ho, hex, hd, h1, h2, h3, h4, rfl⟩ := S.holds _ ha
  exact call_len_set ho hex hd h4 (by omega) ⟨.int es.size, m, P, TK.refl _, V.int, S.toks, q⟩
end
end Mine

-- XN
namespace Mine
open PySem PySem.W PySem.Calls PyProof.Rows PySem.SeqAt

/-- an object that stays as it is -/
def fix (a : Addr) (o : Obj) : Ck where
  foot := [a]
  holds h := h.get? a = some o ∧ NT o
  stable h h' k _ := fun ⟨e, n⟩ => ⟨k a (.head _) _ e, n⟩
  live h := fun ⟨e, n⟩ x hx => by simp at hx; subst hx; exact ⟨_, e, n⟩
/-- such a list of numbers -/
structure IntsO (o : Obj) (xs : List Int) : Prop where
  cls : o.cls = .type "list"
  vals : ∃ (vs : List Value) (k : Nat), o.data = .seq (List.toArray vs) k ∧ ∀ h, Vs h (xs.map .int) vs

section
variable {D : WD} {n : Nat} {f : Fm} {ns : Nms} {m : Loc} {P : List Ck}
theorem Ev.sliceF {value : Expr} {lo hi st : Option Expr} {sp pos : Pos} {Q : AVal → Loc → List Ck → Prop}
    (h : Ev D n f ns value m P fun a m1 P1 => Eo D n f ns lo m1 P1 fun l m2 P2 => Eo D n f ns hi m2 P2 fun u m3 P3 => Eo D n f ns st m3 P3 fun k m4 P4 => ∃ l' u' k' y o xs, a = .ref y ∧ Pt l l' ∧ Pt u u' ∧ Pt k k' ∧ k' ≠ some 0 ∧ fix y o ∈ P4 ∧ IntsO o xs ∧ xs.length ≤ 1000000 ∧ ∀ b, Q (.ref b) m4 (lst b ((slc xs l' u' k').map .int) :: P4)) :
    Ev D n f ns (.Subscript value (.Slice lo hi st sp) pos) m P Q := fun A g s vs r p S _ => by
  refine Subscript_ (h.run r p S .nil fun a m1 P1 v s1 T1 hv S1 h1 => wpAny_Slice (h1.run r p S1 .nil fun l m2 P2 vl s2 T2 hvl S2 h2 => h2.run r p S2 .nil fun u m3 P3 vu s3 T3 hvu S3 h3 => h3.run r p S3 .nil fun k m4 P4 vk s4 T4 hvk S4 q => ?_))
  obtain ⟨l', u', k', y, o, xs, rfl, pl, pu, pk, h0, hm, hI, hz, q⟩ := q
  have pl := pl.part (hvl.mono (T3.trans T4))
  have pu := pu.part (hvu.mono T4)
  have pk := pk.part hvk
  simp only [V] at hv
  subst hv
  have hk : ∀ b o, s4.heap.get? b = some o → (s4.heap.push { cls := .type "slice", data := .fields #[vl, vu, vk] }).get? b = some o := fun b o e => Heap.get?_push_of_some _ e
  have S5 := S4.junk (tk := s4.toks) hk
  have T5 : TK s4.heap (s4.heap.push { cls := .type "slice", data := .fields #[vl, vu, vk] }) := .keeps hk
  have TT := (((T1.trans T2).trans T3).trans T4).trans T5
  obtain ⟨ops, ho⟩ := subscripted_slice (lo := lo) (hi := hi) (st := st) (p := sp) (o := .ref y) (i := .ref s4.heap.objs.size)
  obtain ⟨e, nt⟩ := S5.holds _ hm
  obtain ⟨ws, nk, hd, hws⟩ := hI.vals
  have hl : Heap.IsList (s4.heap.push { cls := .type "slice", data := .fields #[vl, vu, vk] }) y (List.toArray ws) := ⟨o, e, hI.cls, nk, hd⟩
  have hwl := (hws s4.heap).length
  rw [List.length_map] at hwl
  refine subTail hl.typeIs list_getitem_lookup ?_ ho
  refine wpAny_getItem_list_slice hl (Heap.IsSliceOf.new ..) pl pu pk h0 ?_ (by rw [List.size_toArray, hwl]; exact Nat.le_trans hz (by decide))
  have hk2 : ∀ b o, (s4.heap.push { cls := .type "slice", data := .fields #[vl, vu, vk] }).get? b = some o → ((s4.heap.push { cls := .type "slice", data := .fields #[vl, vu, vk] }).push { cls := .type "list", data := .seq (slicePick (List.toArray ws) l' u' k') }).get? b = some o := fun b o e => Heap.get?_push_of_some _ e
  have T6 := TK.keeps hk2
  refine ⟨.ref _, m4, _, TT.trans T6, rfl, S5.newc (tk := s4.toks) (c' := lst _ ((slc xs l' u' k').map .int)) hk2 ⟨slc ws l' u' k', ⟨0, ?_⟩, ?_⟩ (fun x hx => fresh_size x hx) (by simp [lst]), q _⟩
  · rw [← slicePick_slc]
    exact Heap.get?_push_size _ rfl
  · have := (hws ((s4.heap.push { cls := .type "slice", data := .fields #[vl, vu, vk] }).push { cls := .type "list", data := .seq (slicePick (List.toArray ws) l' u' k') })).slc l' u' k'
    have e2 : (slc xs l' u' k').map AVal.int = slc (xs.map AVal.int) l' u' k' := by
      unfold slc
      rw [List.length_map, List.map_filterMap]
      congr 1
      funext i
      rw [List.getElem?_map]
    rw [e2]; exact this

/-- a comprehension's own cells -/
theorem comp_mine {scope : Scope} {L : Addr} {x : Str} (hx : (x, NameKind.cell) ∈ scope.names) : ((compFm f scope L).env.cells.lookup x).isSome = true ∧ ∀ c, (compFm f scope L).env.cells.lookup x = some c → c ∈ (compFm f scope L).own := by
  have h : ((compFm f scope L).env.cells.lookup x).isSome = true := cellsFrom_some (.inr hx)
  exact ⟨h, fun c hc => ownOf_mem hx hc⟩

/-- a def called by no frame -/
theorem top_fn {A : Around} {s : Shared} {a : Addr} {fd : FuncData} {names : Nms} {body : List Stmt} {v : Value} {b : AVal} {x : Str} {m0 : Loc} {P0 : List Ck} {Q : AVal → List Ck → Prop}
    (F : Fn D a fd names body) (hfr : A.frames = some []) (r : Room D (n + 1) A) (p : PF D (hideAll s.heap (feet P0))) (hh : ∀ c ∈ P0, c.holds s.heap) (nd : (feet P0).Nodup) (hge : s.gens = #[]) (hos : s.os = D.os) (hdr : s.drawn = D.dr)
    (hbind : bindArgs fd ⟨[v], []⟩ = pure [(x, v)]) (hv : V s.heap b v) (hx : xsOk [x] names = true) (hi : Init names [(x, b)] m0)
    (hW : ∀ f', MineC f' names → Own f' → ExsZ D n f' [] names body m0 P0 (fun fl _ P2 => Q (retOf fl) P2) fun _ _ _ _ _ => False) :
    wpAny (model D.prog D.w) A (call (.ref a) [v]) (fun y s' => ∃ c P', V s'.heap c y ∧ (∀ b o, (hideAll s.heap (feet P0)).get? b = some o → s'.heap.get? b = some o) ∧ (∀ c ∈ P', c.holds s'.heap) ∧ s'.gens = #[] ∧ s'.os = s.os ∧ Q c P') NoE s := by
  obtain ⟨oc, od, osl, ho⟩ := F.at'
  have hn := F.nm
  subst hn
  have K : D.K.In s.heap := p.K.keeps fun b o e => of_hideAll _ e
  refine wpAny_call (codeAny_call_function r.lt (K _ _ ho) rfl F.co F.gen F.body (codeRec_of K F.code) ?_)
  show wpAny _ _ (bindArgs fd ⟨[v], []⟩) _ _ _
  rw [hbind]
  refine wpAny_pure ?_
  rw [F.clo, F.gl, F.bl]
  unfold xsOk at hx
  rw [Bool.and_eq_true, decide_eq_true_eq, List.all_eq_true] at hx
  have kind : ∀ y ∈ [(x, v)], (y.1, NameKind.local) ∈ fd.scope.names ∨ (y.1, NameKind.cell) ∈ fd.scope.names := fun y hy => by
    simp at hy; subst hy
    have := hx.2 x (.head _)
    rw [Bool.or_eq_true] at this
    exact this.imp (fun h => by simpa using h) fun h => by simpa using h
  refine wpAny_newFunctionEnv_cells F.kind (fun y hy => ?_) fun env he s₂ Y => ?_
  · rcases kind y hy with h | h
    · exact .inl (lookup_of_mem F.nd h)
    · exact .inr ⟨lookup_of_mem F.nd h, cellsFrom_some (.inr h)⟩
  obtain rfl : env = callEnvC fd s.heap.objs.size a := by rw [he]; unfold callEnvC; rw [F.gl, F.bl]
  obtain ⟨h₂, tk, rfl, hkp⟩ := Y.done
  refine ⟨(p.nolimit.keeps fun b o e => of_hideAll _ e).keeps hkp, ?_⟩
  refine codeAny_func ?_
  have hcs : ((callEnvC fd s.heap.objs.size a).cells.map (·.2)).Nodup := List.pairwise_map.mpr Y.apart
  have S2 := St.enter (D := D) (s := s) (tk := tk) (ab := [(x, b)]) hos hdr hge hh nd F.gl F.bl F.kind F.nd F.free ⟨v, [], rfl, hv, rfl⟩ (by simp) kind hkp Y.toInCall.ns Y.cell Y.above hcs
  rw [hi.eq] at S2
  have hfr2 : (A.deeper (callEnvC fd s.heap.objs.size a)).frames = some ((frameOf fd s.heap.objs.size a).env :: ([] : Stk).map (·.1)) := Around.frames_deeper hfr
  refine wpAny_mono (hW _ frame_mine rfl _ _ { s with heap := h₂, toks := tk } [] hfr2 r.deeper p S2 Vs.nil) (fun fl s₃ => ?_) fun w s₃ => ?_
  · rintro ⟨afl, m2, P2, T3, hF, S3, q⟩
    refine ⟨retOf afl, P2, ?_, S3.keep, S3.holds, S3.gens, S3.hos.trans hos.symm, q⟩
    cases afl with
    | ret b => obtain ⟨v, rfl, hv⟩ := hF; exact hv
    | _ => subst hF; simp [retOf, V]
  · rintro ⟨_, _, _, _, _, _, _, _, _, e⟩
    exact e.elim
end
end Mine

-- HS
namespace Mine
open PySem PySem.W PySem.Calls PyProof.Rows PySem.SeqAt

local macro_rules | `(tactic| leaf_len) => `(tactic| ((repeat (first | with_reducible exact NmAt.head | with_reducible apply NmAt.tail)); done))
local macro_rules | `(tactic| one_sign) => `(tactic| ((repeat (first | with_reducible exact NmUp.head | with_reducible apply NmUp.tail)); done))
local macro_rules | `(tactic| o_reads) => `(tactic| ((repeat (first | with_reducible exact In1.head | with_reducible apply In1.tail)); done))
local macro_rules | `(tactic| o_fieldsN) => `(tactic| ((repeat (first | with_reducible assumption | with_reducible exact Sw.head | with_reducible apply Sw.tail)); done))
local macro_rules | `(tactic| o_readsAll) => `(tactic| ((repeat (first | with_reducible assumption | with_reducible exact List.mem_cons_self .. | with_reducible apply List.mem_cons_of_mem)); done))
local macro_rules | `(tactic| o_shape) => `(tactic| ((repeat (first | with_reducible exact .nil | (apply Init.hit; (next => rfl)) | (apply Init.miss; (next => rfl)))); done))
local macro_rules | `(tactic| wrow_none_raised) => `(tactic| (simp only [List.map]; decide +kernel))
local macro_rules | `(tactic| wrow_raised) => `(tactic| (constructor; (next => (constructor; constructor; constructor; (rw [Ok.K ‹Ok _›]); rfl)); (next => rfl); (next => (rw [Ok.K ‹Ok _›]; rfl)); (next => rfl); (next => rfl); (next => rfl); (next => rfl); (next => decide +kernel); (next => decide +kernel); (next => rfl); (next => rfl); (next => rfl)))
local macro_rules | `(tactic| w_left) => `(tactic| (constructor; (next => wrow_none_raised); constructor; constructor; (next => o_shape)))
local macro_rules | `(tactic| w_means) => `(tactic| first
  | focus ((apply c_lenL); (next => o_readsAll))
  | (apply c_lenS)
  | (apply c_find)
  | (apply c_startswith)
  | (apply c_endswith)
  | (apply c_find4)
  | (apply c_rfind4)
  | (apply c_count)
  | (apply c_upper)
  | (apply c_lower)
  | (apply c_strI)
  | (apply c_strS)
  | (apply c_intS)
  | (apply c_split)
  | (apply c_range)
  | (apply c_listS)
  | focus ((apply c_enum); (next => o_readsAll))
  )
local macro_rules | `(tactic| wrow_close) => `(tactic| ((repeat (first | with_reducible exact Capt.nil | focus ((apply Capt.other); (next => decide)) | focus ((with_reducible apply Capt.cell); (next => leaf_len)) | focus ((with_reducible apply Capt.free); (next => leaf_len)))); done))
local macro_rules | `(tactic| close_w) => `(tactic| first
  | focus ((with_reducible apply Ev.comp1); (next => rfl); (next => decide +kernel); (next => decide +kernel); rotate_left; (next => (intro _; rfl)); dsimp only)
  | focus ((with_reducible apply Ex.assignD); (next => rfl); (next => decide +kernel); (next => decide +kernel); (next => rfl); (next => (intro _; rfl)); dsimp only)
  | focus ((with_reducible apply Ev.dcomp1); (next => rfl); (next => decide +kernel); (next => decide +kernel); (next => (intro _; rfl)); dsimp only)
  | focus ((with_reducible apply Ex.assignDC); (next => rfl); (next => decide +kernel); (next => decide +kernel); (next => rfl); (next => (intro _; rfl)); dsimp only)
  | focus ((with_reducible apply Ex.assignC2); (next => rfl); (next => decide +kernel); (next => decide +kernel); (next => rfl); (next => (intro _; rfl)); dsimp only))
local macro_rules | `(tactic| kd_mem) => `(tactic| ((repeat (first | with_reducible exact Pk.head | with_reducible apply Pk.tail)); done))
local macro_rules | `(tactic| kd_subs) => `(tactic| ((repeat (refine Pk.perm (by kd_mem) ?_)); exact List.Perm.refl _))
local macro_rules | `(tactic| none_booked) => `(tactic| first
  | (with_reducible refine Exs.cons ?_)
  | (with_reducible refine Exs.nil ?_)
  | ((with_reducible show Ev _ _ _ _ _ _ _ _); first
    | ((with_reducible show Ev _ _ _ _ (Expr.Name _ _) _ _ _); first
      | focus ((with_reducible apply Ev.local); (next => leaf_len); rotate_left; (next => decide +kernel))
      | focus ((with_reducible apply Ev.cell); (next => leaf_len); rotate_left; (next => decide +kernel))
      | focus ((with_reducible apply Ev.free); (next => leaf_len); rotate_left; (next => decide +kernel); (next => decide +kernel))
      | focus ((with_reducible apply Ev.gRef); (next => o_reads); (next => (rw [Ok.K ‹Ok _›]; eq_refl)); rotate_left; (next => decide +kernel))
      | focus ((with_reducible apply Ev.bBlt); (next => o_reads); (next => (rw [Ok.K ‹Ok _›]; eq_refl)); (next => eq_refl); rotate_left; (next => decide +kernel); (next => decide +kernel))
      | focus ((with_reducible apply Ev.bTyp); (next => o_reads); (next => (rw [Ok.K ‹Ok _›]; eq_refl)); (next => eq_refl); rotate_left; (next => decide +kernel); (next => decide +kernel))
      | focus ((with_reducible apply Ev.gStr); (next => o_reads); (next => (rw [Ok.K ‹Ok _›]; eq_refl)); rotate_left; (next => decide +kernel)))
    | ((with_reducible show Ev _ _ _ _ (Expr.Constant _ _ _) _ _ _); first
      | (with_reducible refine Ev.int ?_)
      | focus ((with_reducible apply Ev.strL); (next => (first | with_reducible exact cs_k0 | with_reducible exact cs_k1 | with_reducible exact cs_k2 | with_reducible exact cs_k3 | with_reducible exact cs_dots | with_reducible exact cs_k5 | with_reducible exact cs_k6 | with_reducible exact cs_k7 | with_reducible exact cs_k8 | with_reducible exact cs_k9 | with_reducible exact cs_dot | with_reducible exact cs_k11 | with_reducible exact cs_k12 | with_reducible exact cs_k13 | with_reducible exact cs_k14 | with_reducible exact cs_k15 | with_reducible exact cs_k16 | with_reducible exact cs_k17 | with_reducible exact cs_k18 | with_reducible exact cs_k19 | with_reducible exact cs_k20 | with_reducible exact cs_k21 | with_reducible exact cs_k22 | with_reducible exact cs_k23 | with_reducible exact cs_k24 | with_reducible exact cs_k25 | with_reducible exact cs_nl | with_reducible exact cs_k27 | with_reducible exact cs_colon | with_reducible exact cs_k29 | with_reducible exact cs_k30 | with_reducible exact cs_k31 | with_reducible exact cs_k32 | with_reducible exact cs_k33 | with_reducible exact cs_k34 | with_reducible exact cs_k35 | with_reducible exact cs_k36 | with_reducible exact cs_k37 | with_reducible exact cs_k38 | with_reducible exact cs_k39 | with_reducible exact cs_k40 | with_reducible exact cs_k41 | with_reducible exact cs_k42 | with_reducible exact cs_k43 | with_reducible exact cs_k44 | exact rfl)))
      | (with_reducible refine Ev.bool ?_)
      | (with_reducible refine Ev.none ?_))
    | ((with_reducible show Ev _ _ _ _ (Expr.Call _ _ _ _) _ _ _); first
      | ((with_reducible show Ev _ _ _ _ (Expr.Call (Expr.Attribute _ _ _) _ _ _) _ _ _); focus ((with_reducible apply Ev.meth); rotate_left; (next => eq_refl); (next => eq_refl); (next => eq_refl)))
      | focus ((with_reducible refine Ev.call ?_ ?_ ?_ ?_); rotate_left; (next => eq_refl); (next => eq_refl); (next => eq_refl)))
    | focus ((with_reducible refine Ev.cmp ?_ ?_); rotate_left; (next => with_unfolding_all eq_refl))
    | (with_reducible refine Ev.binop ?_)
    | (with_reducible refine Ev.slice ?_)
    | focus ((with_reducible refine Ev.item ?_ ?_); rotate_left; (next => (intros; eq_refl)))
    | (with_reducible refine Ev.tup ?_)
    | (with_reducible refine Ev.list ?_)
    | (with_reducible refine Ev.unop ?_)
    | (with_reducible refine Ev.ifexp ?_)
    | (with_reducible refine Ev.one ?_)
    | (with_reducible refine Ev.and ?_)
    | (with_reducible refine Ev.or ?_))
  | ((with_reducible show Ex _ _ _ _ _ _ _ _); first
    | (with_reducible refine Ex.ite ?_)
    | (with_reducible refine Ex.ret ?_)
    | focus ((with_reducible refine Ex.assignN ?_ ?_); rotate_left; (next => eq_refl))
    | focus ((with_reducible refine Ex.exprE ?_ ?_); rotate_left; (next => eq_refl))
    | ((with_reducible show Ex _ _ _ _ (Stmt.AugAssign (Expr.Name _ _) _ _ _) _ _ _); focus ((with_reducible apply Ex.aug); (next => leaf_len)))
    | focus ((with_reducible refine Ex.assignW2 (Ok.hd ‹Ok _›) ?_ ?_ ?_); rotate_left; (next => eq_refl); (next => eq_refl))
    | focus ((with_reducible refine Ex.assignW3 (Ok.hd ‹Ok _›) ?_ ?_ ?_); rotate_left; (next => eq_refl); (next => eq_refl))
    | (with_reducible refine Ex.assert (Ok.hd ‹Ok _›) ?_)
    | (with_reducible refine Ex.delItem ?_)
    | (with_reducible refine Ex.ret0 ?_)
    | (with_reducible refine Ex.cont ?_)
    | (with_reducible refine Ex.brk ?_)
    | (with_reducible refine Ex.pass ?_))
  | ((with_reducible show Tr _ _ _ _ _ _ _ _); first
    | focus ((with_reducible refine Tr.cmp ?_ ?_); rotate_left; (next => with_unfolding_all eq_refl))
    | (with_reducible refine Tr.not ?_)
    | (with_reducible refine Tr.and_nil ?_)
    | (with_reducible refine Tr.or_nil ?_)
    | (with_reducible refine Tr.and ?_)
    | (with_reducible refine Tr.or ?_)
    | focus ((with_reducible refine Tr.ev ?_ ?_); rotate_left; (next => eq_refl)))
  | ((with_reducible show Wp _ _ _ _ _ _ _ _ _ _); first
    | (with_reducible refine Ar.nil ?_)
    | focus ((with_reducible refine Ar.cons ?_ ?_); rotate_left; (next => eq_refl))
    | (with_reducible refine Ks.nil ?_)
    | (with_reducible refine Ks.cons ?_)
    | ((with_reducible show As _ _ _ _ _ _ _ _ _); first
      | ((with_reducible show As _ _ _ _ (Expr.Name _ _) _ _ _ _); first
        | focus ((with_reducible apply As.local); (next => one_sign))
        | focus ((with_reducible apply As.cellM); (next => assumption); (next => one_sign)))
      | focus ((with_reducible refine As.tup (Ok.hd ‹Ok _›) ?_ ?_ ?_); rotate_left; (next => eq_refl); (next => eq_refl)))
    | (with_reducible refine Eo.none ?_)
    | (with_reducible refine Eo.some ?_)
    | ((with_reducible show AsNm _ _ _ _ (_ :: _) _ _ _ _); focus ((with_reducible apply AsNm.cons); (next => one_sign)))
    | (with_reducible refine AsNm.nil ?_)
    | focus ((with_reducible refine AsIn.cons ?_ ?_); rotate_left; (next => eq_refl))
    | (with_reducible refine AsIn.nil ?_)
    | (with_reducible refine Cd.nil ?_)
    | (with_reducible refine Cd.cons ?_)
    | (with_reducible refine o_addI ?_)
    | (with_reducible refine o_subI ?_)
    | (with_reducible refine o_ltI ?_)
    | (with_reducible refine o_gtI ?_)
    | (with_reducible refine o_leI ?_)
    | (with_reducible refine o_geI ?_)
    | (with_reducible refine o_eqI ?_)
    | (with_reducible refine o_neI ?_)
    | (with_reducible refine o_eqS ?_)
    | (with_reducible refine o_neS ?_)
    | (with_reducible refine o_inS ?_)
    | (with_reducible refine o_notInS ?_)
    | ((with_reducible show Wp _ _ _ _ _ _ (Op2 (compareOp CmpOp.Is)) _ _ _); focus ((with_reducible apply o_is); (next => eq_refl)))
    | ((with_reducible show Wp _ _ _ _ _ _ (Op2 (compareOp CmpOp.IsNot)) _ _ _); focus ((with_reducible apply o_isNot); (next => eq_refl)))
    | (with_reducible refine o_iaddI ?_)
    | (with_reducible refine o_isubI ?_)
    | (with_reducible refine o_negI ?_)
    | (with_reducible refine o_ltS ?_)
    | (with_reducible refine o_gtS ?_)
    | (with_reducible refine t_bool ?_)
    | (with_reducible refine t_none ?_)
    | (with_reducible refine t_int ?_))
  | (with_reducible refine sq_next ?_)
  | (with_reducible refine sq_ret ?_)
  | (with_reducible refine lq_next ?_)
  | (with_reducible refine lq_cont ?_)
  | (with_reducible refine lq_brk ?_)
  | (with_reducible refine lq_ret ?_)
  | (with_reducible refine sq_brk ?_)
  | (with_reducible refine sq_cont ?_)
  | ((with_reducible show ∀ pl, Wp _ _ _ _ _ _ _ _ _ _); first
    | ((with_reducible show Gm _ _ _ _ (AVal.str _) _ _ _ _); first
      | (with_reducible refine g_find ?_)
      | (with_reducible refine g_rfind ?_)
      | (with_reducible refine g_split ?_)
      | (with_reducible refine g_join ?_)
      | (with_reducible refine g_startswith ?_)
      | (with_reducible refine g_endswith ?_)
      | (with_reducible refine g_lower ?_)
      | (with_reducible refine g_upper ?_)
      | (with_reducible refine g_count ?_))
    | ((with_reducible show Gm _ _ _ _ (AVal.ref _) _ _ _ _); first
      | focus ((with_reducible apply g_append); (next => o_readsAll))
      | focus ((with_reducible apply g_pop); (next => o_readsAll))
      | focus ((with_reducible apply g_insert); (next => o_readsAll))
      | focus ((with_reducible apply g_extend); (next => o_readsAll))))
  | focus ((refine ⟨?_, ?_⟩); (next => (first | ((with_reducible show isFn _ = true); exact rfl) | ((with_reducible show KeepOk _ _ _); (first | exact KeepOk.blt | exact KeepOk.typ | (exact KeepOk.fn (by rw [Ok.K ‹Ok _›]; rfl)))) | ((with_reducible show Sb _ _); (first | exact Sb.str | exact Sb.tup | exact Sb.lst (by o_readsAll))) | ((with_reducible show _ ≤ _); exact Nat.le_of_ble_eq_true rfl) | ((with_reducible show _ = _); with_reducible exact rfl))))
  | (refine ⟨_, rfl, ?_⟩)
  | (refine ⟨_, _, rfl, ?_⟩)
  | (refine ⟨_, _, _, rfl, ?_⟩)
  | (refine iteT (by first | with_reducible assumption | decide | (with_reducible_and_instances exact rfl)) ?_)
  | (refine iteF (by first | with_reducible assumption | decide) ?_)
  | (with_reducible refine opn (by with_reducible assumption) ?_)
  | (with_reducible refine opn2 (by with_reducible assumption) ?_)
  )


section
variable {D : WD} {n : Nat} {f : Fm} {k : Stk} {ns : Nms} {m : Loc} {P : List Ck} {Q : AVal → Loc → List Ck → Prop} {X : XQ}
def msgC : List Nat := [67, 111, 110, 116, 114, 111, 108, 32, 99, 104, 97, 114, 97, 99, 116, 101, 114, 115, 32, 110, 111, 116, 32, 97, 108, 108, 111, 119, 101, 100, 32, 105, 110, 32, 104, 101, 97, 100, 101, 114, 115]
theorem pat41Z (O : Ok D) : Pat0 D 41 code41 := by
  refine ⟨_, 40, _, _, _, _, by rw [O.K]; rfl, rfl, rfl, rfl, rfl, rfl, rfl, by rw [O.K]; rfl, rfl, ?_⟩
  decide +kernel
theorem pat46Z (O : Ok D) : Pat0 D 46 code46 := by
  refine ⟨_, 45, _, _, _, _, by rw [O.K]; rfl, rfl, rfl, rfl, rfl, rfl, rfl, by rw [O.K]; rfl, rfl, ?_⟩
  decide +kernel
abbrev Hit (b : Bool) (x : List Nat) : Prop := ((Sre.forSearch (if b = true then code41 else code46) x.toArray 0 0 x.length false).runFor 4).outcome = some .matched
theorem hit1 : Hit true [122, 9] := by kernel_rfl
theorem hit2 : Hit false [56, 10] := by kernel_rfl
theorem f_convV (O : Ok D) (hf : Own f) {h : AVal} {x : List Nat} {b : Bool} (hh : Hit b x) (hz : x.length ≤ 1000) (A B : List Ck) (q : ∀ G, X false "ValueError" (.str msgC) m (G ++ (A ++ stk k :: B))) :
    CalZ D (n + 1) f k ns (.ref 76) [h, .str x] [.bool b] ["name"] m (A ++ stk k :: B) Q X := by
  apply Wz.fn (a := 76) (mk := fun vs => ⟨vs.take 2, [("name" : Str)].zip (vs.drop 2)⟩)
  case F => wrow_raised
  case hf => exact hf
  dsimp only
  intro A' g s vs r p S hv
  obtain ⟨v0, v1, k0, rfl, h0, h1, h2⟩ := Vs.three hv
  refine bd_conv rfl rfl rfl rfl rfl rfl ?_
  refine ⟨[("self", h), ("value", .str x), ("name", .bool b)], m, _, TK.refl _, ⟨_, _, rfl, h0, _, _, rfl, h1, _, _, rfl, h2, rfl⟩, S, ?_⟩
  w_left
  intro f' o hM hO
  clear hv h0 h1 h2 S p r
  refine ⟨_, Sw.app .head A, ?_⟩
  cases b with
  | true =>
    refine ExsZ.cons ?_
    refine ExZ.ite ?_
    repeat none_booked
    refine c_typeS ?_
    repeat none_booked
    refine ExsZ.cons ?_
    refine Wz.of ?_
    repeat none_booked
    refine ExsZ.cons ?_
    refine ExZ.ite ?_
    repeat none_booked
    refine g_search (pat41 O) ?_
    repeat none_booked
    refine c_searchHit (pat41Z O) hh (by omega) fun a => ?_
    refine t_mch (.head _) ?_
    repeat none_booked
    refine ExsZ.cons ?_
    refine ExZ.raise F.excCall_ValueError F.excRaise_ValueError O.hd ?_ rfl
    repeat none_booked
    exact ⟨by simp, _, Sw.app .head (mch a :: A), q [mch a]⟩
  | false =>
    refine ExsZ.cons ?_
    refine ExZ.ite ?_
    repeat none_booked
    refine c_typeS ?_
    repeat none_booked
    refine ExsZ.cons ?_
    refine Wz.of ?_
    repeat none_booked
    refine ExsZ.cons ?_
    refine ExZ.ite ?_
    repeat none_booked
    refine g_search (pat46 O) ?_
    repeat none_booked
    refine c_searchHit (pat46Z O) hh (by omega) fun a => ?_
    refine t_mch (.head _) ?_
    repeat none_booked
    refine ExsZ.cons ?_
    refine ExZ.raise F.excCall_ValueError F.excRaise_ValueError O.hd ?_ rfl
    repeat none_booked
    exact ⟨by simp, _, Sw.app .head (mch a :: A), q [mch a]⟩

theorem dec_12 {j : Nat} (hj : j < 100) : (dec j).length = 1 ∨ (dec j).length = 2 := by
  have h1 : (dec j).length ≤ 2 := by
    unfold dec
    rw [List.length_map]
    exact (Nat.length_toDigits_le_iff (by decide) (by decide)).mpr hj
  have h2 : (dec j).length ≠ 0 := fun h => dec_ne j (List.length_eq_zero_iff.mp h)
  omega
/-- a number is no text -/
theorem f_convA (O : Ok D) (hf : Own f) {h : AVal} {j : Nat} {b : Bool} (hj : j < 100) (A B : List Ck) (q : X false "AssertionError" (.str (said (dec j))) m (A ++ stk k :: B)) :
    CalZ D (n + 1) f k ns (.ref 76) [h, .int j] [.bool b] ["name"] m (A ++ stk k :: B) Q X := by
  apply Wz.fn (a := 76) (mk := fun vs => ⟨vs.take 2, [("name" : Str)].zip (vs.drop 2)⟩)
  case F => wrow_raised
  case hf => exact hf
  dsimp only
  intro A' g s vs r p S hv
  obtain ⟨v0, v1, k0, rfl, h0, h1, h2⟩ := Vs.three hv
  refine bd_conv rfl rfl rfl rfl rfl rfl ?_
  refine ⟨[("self", h), ("value", .int j), ("name", .bool b)], m, _, TK.refl _, ⟨_, _, rfl, h0, _, _, rfl, h1, _, _, rfl, h2, rfl⟩, S, ?_⟩
  w_left
  intro f' o hM hO
  clear hv h0 h1 h2 S p r
  refine ⟨_, Sw.app .head A, ?_⟩
  refine ExsZ.cons ?_
  refine ExZ.ite ?_
  repeat none_booked
  refine c_typeI ?_
  repeat none_booked
  refine Wz.of (Exs.nil ?_)
  refine sq_next ?_
  refine ExsZ.cons ?_
  refine ExZ.raise F.excCall_AssertionError F.excRaise_AssertionError O.hd ?_ rfl
  repeat none_booked
  refine g_format ?_
  repeat none_booked
  refine c_reprI (by omega) ?_
  repeat none_booked
  refine c_format (dec_12 hj) ?_
  repeat none_booked
  exact ⟨by simp, _, Sw.app .head A, q⟩

/-- get of a name that may not be one -/
theorem f_getV (O : Ok D) (hf : Own f) {h d l : Addr} {x : List Nat} (A B : List Ck) (hm : hdrs h d l ∈ A ++ B) (hx1 : asc x = true) (hh : Hit true (loL x)) (hz : x.length ≤ 1000) (q : ∀ G, X false "ValueError" (.str msgC) m (G ++ (A ++ stk k :: B))) :
    CalZ D (n + 2) f k ns (.ref 122) [.ref h, .str x] [] [] m (A ++ stk k :: B) Q X := by
  apply Wz.fn (a := 122) (mk := fun vs => ⟨vs.take 2, [].zip (vs.drop 2)⟩)
  case F => wrow_raised
  case hf => exact hf
  dsimp only
  intro A' g s vs r p S hv
  obtain ⟨v0, v1, rfl, h0, h1⟩ := Vs.two hv
  refine bd_get2 (T := 115) rfl rfl rfl rfl rfl rfl (fun Q' q => wpAny_seqItems (S.keep _ _ (p.K _ _ (by rw [O.K]; rfl))) rfl q) ?_
  refine ⟨[("self", .ref h), ("name", .str x), ("default", .none)], m, _, TK.refl _, ⟨_, _, rfl, h0, _, _, rfl, h1, _, _, rfl, rfl, rfl⟩, S, ?_⟩
  w_left
  intro f' o hM hO
  clear hv h0 h1 S p r
  refine ⟨_, Sw.app .head A, ?_⟩
  refine ExsZ.cons ?_
  refine ExZ.assignN ?_ (by rfl)
  refine EvZ.meth ?_ (by rfl) (by rfl) (by rfl)
  repeat none_booked
  refine Gm.i (x := h) (C := 175) (d := d) (fs := [("_headers", .ref l)]) (by simp only [List.mem_append, List.mem_cons] at hm ⊢; exact hm.imp id .inr) (meth76 O) rfl ?_
  refine ArZ.cons ?_ (by rfl)
  refine Wz.of ?_
  repeat none_booked
  refine c_lower hx1 (by omega) ?_
  refine ArZ.nil ?_
  repeat none_booked
  refine f_convV O hO hh (by rw [loL_len]; omega) A B fun G => ?_
  exact ⟨_, by rw [← List.append_assoc]; exact Sw.app .head (G ++ A), by rw [List.append_assoc]; exact q G⟩

theorem f_setV1 (O : Ok D) (hf : Own f) {h d l : Addr} {x : List Nat} {y : AVal} (A B : List Ck) (hm : hdrs h d l ∈ A ++ B) (hx1 : asc x = true) (hh : Hit true (loL x)) (hz : x.length ≤ 1000) (q : ∀ G, X false "ValueError" (.str msgC) m (G ++ (A ++ stk k :: B))) :
    CalZ D (n + 3) f k ns (.ref 165) [.ref h, .str x, y] [] [] m (A ++ stk k :: B) Q X := by
  apply Wz.fn (a := 165) (mk := fun vs => ⟨vs.take 3, [].zip (vs.drop 3)⟩)
  case F => wrow_raised
  case hf => exact hf
  dsimp only
  refine Bd.three (x := "self") (y := "name") (z := "value") (fun u v w => rfl) ?_
  w_left
  intro f' o hM hO
  refine ⟨_, Sw.app .head A, ?_⟩
  refine ExsZ.cons ?_
  refine ExZ.assignN ?_ (by rfl)
  refine EvZ.meth ?_ (by rfl) (by rfl) (by rfl)
  repeat none_booked
  refine Gm.i (x := h) (C := 175) (d := d) (fs := [("_headers", .ref l)]) (by simp only [List.mem_append, List.mem_cons] at hm ⊢; exact hm.imp id .inr) (meth122 O) rfl ?_
  refine ArZ.cons ?_ (by rfl)
  refine Wz.of ?_
  repeat none_booked
  refine ArZ.nil ?_
  repeat none_booked
  refine f_getV O hO A B hm hx1 hh hz fun G => ?_
  exact ⟨_, by rw [← List.append_assoc]; exact Sw.app .head (G ++ A), by rw [List.append_assoc]; exact q G⟩

theorem f_setV2 (O : Ok D) (hf : Own f) {h d l : Addr} {ps : List (List Nat × List Nat)} {x y : List Nat} (A B : List Ck) (hm : hdrs h d l ∈ A ++ B) (hl : prs l ps ∈ A ++ B) (hx : okH x = true) (hh : Hit false y) (hyz : y.length ≤ 1000) (hps : ∀ p ∈ ps, okH p.1 = true) (hz : ps.length ≤ 1000) (hg : getH ps x = none)
    (q : ∀ G, X false "ValueError" (.str msgC) m (G ++ (A ++ stk k :: B))) :
    CalZ D (n + 3) f k ns (.ref 165) [.ref h, .str x, .str y] [] [] m (A ++ stk k :: B) Q X := by
  obtain ⟨hx1, hx2, hx3, hx4⟩ := okH_ hx
  have up : ∀ {c e : Ck}, c ∈ A ++ B → c ∈ A ++ e :: B := fun hc => by simp only [List.mem_append, List.mem_cons] at hc ⊢; exact hc.imp id .inr
  apply Wz.fn (a := 165) (mk := fun vs => ⟨vs.take 3, [].zip (vs.drop 3)⟩)
  case F => wrow_raised
  case hf => exact hf
  dsimp only
  refine Bd.three (x := "self") (y := "name") (z := "value") (fun u v w => rfl) ?_
  w_left
  intro f' o hM hO
  refine ⟨_, Sw.app .head A, ?_⟩
  refine ExsZ.cons ?_
  refine Wz.of ?_
  repeat none_booked
  refine Gm.i (x := h) (C := 175) (d := d) (fs := [("_headers", .ref l)]) (up hm) (meth122 O) rfl ?_
  repeat none_booked
  refine f_get O (up hm) (up hl) hx hps hz ?_
  rw [hg]
  repeat none_booked
  refine ExsZ.cons ?_
  refine ExZ.ite ?_
  repeat none_booked
  refine ExsZ.cons ?_
  refine ExZ.exprE ?_ (by rfl)
  refine EvZ.meth ?_ (by rfl) (by rfl) (by rfl)
  refine Ev.attr ?_ rfl
  repeat none_booked
  refine at_hdr O (d := d) (up hm) ?_
  refine g_append (up hl) ?_
  refine ArZ.cons ?_ (by rfl)
  refine EvZ.tup ?_
  refine ArZ.cons ?_ (by rfl)
  refine Wz.of ?_
  repeat none_booked
  refine Gm.i (x := h) (C := 175) (d := d) (fs := [("_headers", .ref l)]) (up hm) (meth76 O) rfl ?_
  repeat none_booked
  refine f_conv O (by simpa using hx2) (by omega) ?_
  refine ArZ.cons ?_ (by rfl)
  refine EvZ.meth ?_ (by rfl) (by rfl) (by rfl)
  repeat none_booked
  refine Gm.i (x := h) (C := 175) (d := d) (fs := [("_headers", .ref l)]) (up hm) (meth76 O) rfl ?_
  refine ArZ.cons ?_ (by rfl)
  refine Wz.of ?_
  repeat none_booked
  refine ArZ.nil ?_
  repeat none_booked
  refine f_convV O hO hh hyz A B fun G => ?_
  exact ⟨_, by rw [← List.append_assoc]; exact Sw.app .head (G ++ A), by rw [List.append_assoc]; exact q G⟩

theorem f_setA (O : Ok D) (hf : Own f) {h d l : Addr} {ps : List (List Nat × List Nat)} {x : List Nat} {j : Nat} (A B : List Ck) (hm : hdrs h d l ∈ A ++ B) (hl : prs l ps ∈ A ++ B) (hx : okH x = true) (hj : j < 100) (hps : ∀ p ∈ ps, okH p.1 = true) (hz : ps.length ≤ 1000) (hg : getH ps x = none)
    (q : X false "AssertionError" (.str (said (dec j))) m (A ++ stk k :: B)) :
    CalZ D (n + 3) f k ns (.ref 165) [.ref h, .str x, .int j] [] [] m (A ++ stk k :: B) Q X := by
  obtain ⟨hx1, hx2, hx3, hx4⟩ := okH_ hx
  have up : ∀ {c e : Ck}, c ∈ A ++ B → c ∈ A ++ e :: B := fun hc => by simp only [List.mem_append, List.mem_cons] at hc ⊢; exact hc.imp id .inr
  apply Wz.fn (a := 165) (mk := fun vs => ⟨vs.take 3, [].zip (vs.drop 3)⟩)
  case F => wrow_raised
  case hf => exact hf
  dsimp only
  refine Bd.three (x := "self") (y := "name") (z := "value") (fun u v w => rfl) ?_
  w_left
  intro f' o hM hO
  refine ⟨_, Sw.app .head A, ?_⟩
  refine ExsZ.cons ?_
  refine Wz.of ?_
  repeat none_booked
  refine Gm.i (x := h) (C := 175) (d := d) (fs := [("_headers", .ref l)]) (up hm) (meth122 O) rfl ?_
  repeat none_booked
  refine f_get O (up hm) (up hl) hx hps hz ?_
  rw [hg]
  repeat none_booked
  refine ExsZ.cons ?_
  refine ExZ.ite ?_
  repeat none_booked
  refine ExsZ.cons ?_
  refine ExZ.exprE ?_ (by rfl)
  refine EvZ.meth ?_ (by rfl) (by rfl) (by rfl)
  refine Ev.attr ?_ rfl
  repeat none_booked
  refine at_hdr O (d := d) (up hm) ?_
  refine g_append (up hl) ?_
  refine ArZ.cons ?_ (by rfl)
  refine EvZ.tup ?_
  refine ArZ.cons ?_ (by rfl)
  refine Wz.of ?_
  repeat none_booked
  refine Gm.i (x := h) (C := 175) (d := d) (fs := [("_headers", .ref l)]) (up hm) (meth76 O) rfl ?_
  repeat none_booked
  refine f_conv O (by simpa using hx2) (by omega) ?_
  refine ArZ.cons ?_ (by rfl)
  refine EvZ.meth ?_ (by rfl) (by rfl) (by rfl)
  repeat none_booked
  refine Gm.i (x := h) (C := 175) (d := d) (fs := [("_headers", .ref l)]) (up hm) (meth76 O) rfl ?_
  refine ArZ.cons ?_ (by rfl)
  refine Wz.of ?_
  repeat none_booked
  refine ArZ.nil ?_
  repeat none_booked
  refine f_convA O hO hj A B ?_
  exact ⟨_, Sw.app .head A, q⟩
end

-- HT

section
variable {D : WD} {n : Nat} {f : Fm} {k : Stk} {ns : Nms} {m : Loc} {P : List Ck} {Q : AVal → Loc → List Ck → Prop} {X : XQ}
abbrev pr2 (p : List Nat × List Nat) : AVal := .tup [.str p.1, .str p.2]
def e1L : List Nat := [86, 97, 108, 117, 101, 69, 114, 114, 111, 114, 32] ++ msgC
def e2L (j : Nat) : List Nat := [65, 115, 115, 101, 114, 116, 105, 111, 110, 69, 114, 114, 111, 114, 32] ++ said (dec j)
def saidL (j : Nat) : List (List Nat) := [[], e1L, e1L, e2L j, [9]]
abbrev ps2 (ps : List (List Nat × List Nat)) : List (List Nat × List Nat) := ps ++ [([89], [])] ++ [([121], [55])]
def psF (ps : List (List Nat × List Nat)) (j : Nat) : List (List Nat × List Nat) := if j ≤ 4 then ps2 ps else ps2 ps ++ [([122], [9])]
theorem getH_app {a b : List (List Nat × List Nat)} {x : List Nat} : getH (a ++ b) x = (getH a x).or (getH b x) := by
  unfold getH
  rw [List.find?_append]
  cases List.find? (fun p => loL p.1 == loL x) a <;> rfl
theorem getH_y {ps : List (List Nat × List Nat)} (hY : getH ps [89] = none) : getH (ps2 ps) [121] = some [] := by
  have h : getH ps [121] = none := by
    have e : loL [121] = loL [89] := rfl
    unfold getH at hY ⊢
    rw [e]; exact hY
  rw [getH_app, getH_app, h]; rfl
theorem getH_z {ps : List (List Nat × List Nat)} (hZ : getH ps [122] = none) : getH (ps2 ps) [122] = none := by
  rw [getH_app, getH_app, hZ]; rfl
theorem okH_ps2 {ps : List (List Nat × List Nat)} (hps : ∀ p ∈ ps, okH p.1 = true) : ∀ p ∈ ps2 ps, okH p.1 = true := fun p hp => by
  simp only [List.mem_append, List.mem_singleton] at hp
  rcases hp with (hp | rfl) | rfl
  · exact hps p hp
  · decide
  · decide
theorem beq_prs : ∀ ps : List (List Nat × List Nat), all2 beqA (ps.map pr2) (ps.map pr2) = true
  | [] => rfl
  | p :: r => by
    rw [List.map_cons, all2, beq_prs r]
    simp [beqA, all2, beq0]
theorem ok_prs : ∀ ps : List (List Nat × List Nat), all2 okA (ps.map pr2) (ps.map pr2) = true
  | [] => rfl
  | p :: r => by
    rw [List.map_cons, all2, ok_prs r]; rfl
theorem beqL_prs (ps : List (List Nat × List Nat)) : beqL (ps.map pr2) (ps.map pr2) = true := by
  unfold beqL; rw [beq_prs, beq_self_eq_true]; rfl

theorem beq_strs : ∀ L : List (List Nat), all2 beqA (L.map .str) (L.map .str) = true
  | [] => rfl
  | p :: r => by
    rw [List.map_cons, all2, beq_strs r]
    simp [beqA, beq0]
theorem ok_strs : ∀ L L' : List (List Nat), all2 okA (L.map .str) (L'.map .str) = true
  | [], _ => rfl
  | _ :: _, [] => rfl
  | p :: r, _ :: r' => by
    rw [List.map_cons, List.map_cons, all2, ok_strs r r']; rfl
theorem beqL_strs (L : List (List Nat)) : beqL (L.map .str) (L.map .str) = true := by
  unfold beqL; rw [beq_strs, beq_self_eq_true]; rfl
theorem sub_VB : isSubtype (.type "ValueError") (.type "BaseException") = pure true := by rw [isSubtype_type]; kernel_rfl
theorem sub_AB : isSubtype (.type "AssertionError") (.type "BaseException") = pure true := by rw [isSubtype_type]; kernel_rfl
theorem sub_Vt : isSubtype (.type ((Manifest.find? "ValueError").elim "type" fun y => y.metatype)) (.type "tuple") = pure false := by rw [isSubtype_type]; kernel_rfl
theorem sub_At : isSubtype (.type ((Manifest.find? "AssertionError").elim "type" fun y => y.metatype)) (.type "tuple") = pure false := by rw [isSubtype_type]; kernel_rfl
theorem sub_VV : isSubtype (.type "ValueError") (.type "ValueError") = pure true := by rw [isSubtype_type]; kernel_rfl
theorem sub_AA : isSubtype (.type "AssertionError") (.type "AssertionError") = pure true := by rw [isSubtype_type]; kernel_rfl
theorem sub_AV : isSubtype (.type "AssertionError") (.type "ValueError") = pure false := by rw [isSubtype_type]; kernel_rfl
theorem f_laid (O : Ok D) (hf : Own f) {h d l : Addr} {ps : List (List Nat × List Nat)} {R : List Ck} (hps : ∀ p ∈ ps, okH p.1 = true) (hz : ps.length ≤ 80) (hY : getH ps [89] = none) (hZ : getH ps [122] = none)
    (q : ∀ R', (∀ c ∈ R, c ∈ R') → Q (.bool true) m R') :
    CalZ D (n + 4) f k ns (.ref 275) [.ref h] [] [] m (stk k :: prs l ps :: hdrs h d l :: R) Q X := by
  apply Wz.fn (a := 275) (mk := fun vs => ⟨vs.take 1, [].zip (vs.drop 1)⟩)
  case F => wrow_raised
  case hf => exact hf
  dsimp only
  refine Bd.one (x := "shelf") (fun u => rfl) ?_
  w_left
  intro f' o hM hO
  refine ⟨_, .head, ?_⟩
  generalize hK : (f.env, o) :: k = K
  refine ExsZ.cons ?_
  refine Wz.of ?_
  repeat none_booked
  refine Gm.i (x := h) (C := 175) (d := d) (fs := [("_headers", .ref l)]) (by simp) (meth139 O) rfl ?_
  repeat none_booked
  refine f_items O (d := d) (l := l) (ps := ps) (by simp) (by simp) (by omega) fun a => ?_
  repeat none_booked
  intro b
  refine o_addL (xs := ps.map pr2) (ys := [pr2 ([89], []), pr2 ([121], [55]), pr2 ([122], [9])]) (by simp) (by simp) (by simp; omega) fun du => ?_
  repeat none_booked
  intro sd
  repeat none_booked
  refine ExsZ.cons ?_
  refine Wz.of ?_
  repeat none_booked
  refine Gm.i (x := h) (C := 175) (d := d) (fs := [("_headers", .ref l)]) (by simp) (meth172 O) rfl ?_
  repeat none_booked
  refine f_addh O (d := d) (l := l) (by simp) (.tail (.tail (.tail (.tail (.tail .head))))) (by decide) (by decide) (by decide) (by omega) ?_
  repeat none_booked
  refine ExsZ.cons ?_
  refine Wz.of ?_
  repeat none_booked
  refine Gm.i (x := h) (C := 175) (d := d) (fs := [("_headers", .ref l)]) (by simp) (meth172 O) rfl ?_
  repeat none_booked
  refine f_addh O (d := d) (l := l) (by simp) (.tail (.tail (.tail (.tail (.tail .head))))) (by decide) (by decide) (by decide) (by simp; omega) ?_
  repeat none_booked
  refine ExsZ.cons ?_
  focus ((refine ExZ.for_ ?_ ?_); rotate_left; (next => (intro _; rfl)))
  repeat none_booked
  refine c_lenL (xs := ps.map pr2 ++ [pr2 ([89], []), pr2 ([121], [55]), pr2 ([122], [9])]) (by simp) (by simp; omega) ?_
  repeat none_booked
  have hlen : (List.map pr2 ps ++ [pr2 ([89], []), pr2 ([121], [55]), pr2 ([122], [9])]).length = ps.length + 3 := by simp
  rw [hlen]
  refine ⟨_, [], _, fun j m' P' => ∃ (G : List Ck) (y3 y4 : Option AVal), P' = G ++ (lst sd (((saidL (ps.length + 3)).take j).map .str) :: lst du (ps.map pr2 ++ [pr2 ([89], []), pr2 ([121], [55]), pr2 ([122], [9])]) :: lst b [pr2 ([89], []), pr2 ([121], [55]), pr2 ([122], [9])] :: prs a ps :: stk K :: prs l (psF ps j) :: hdrs h d l :: R) ∧
    m' = [some (.ref h), some (.ref du), some (.ref sd), y3, y4, none, none, none, none, none, none, none], iter_tup O.hd, ⟨[], none, none, rfl, rfl⟩, ?_, ?_, ?_⟩
  · rintro j m' P' _ c hc; cases hc
  · rintro j x m' P' hj ⟨G, y3, y4, rfl, rfl⟩
    match j, hj with
    | 0, hj =>
      cases hj
      rw [show psF ps 0 = ps2 ps from rfl]
      repeat none_booked
      refine ExsZ.cons ?_
      refine ExZ.try_ hO ?_
      refine ExsZ.cons ?_
      refine Wz.of ?_
      repeat none_booked
      refine g_append (xs := ((saidL (ps.length + 3)).take 0).map .str) (by simp) ?_
      repeat none_booked
      refine Gm.i (x := h) (C := 175) (d := d) (fs := [("_headers", .ref l)]) (by simp) (meth165 O) rfl ?_
      repeat none_booked
      refine f_setOld O (d := d) (l := l) (ps := ps2 ps) (v := []) (by simp) (by simp) (by decide) (okH_ps2 hps) (by simp; omega) (getH_y hY) ?_
      repeat none_booked
      refine c_appendL (xs := ((saidL (ps.length + 3)).take 0).map .str) (Sw.app .head G) (by simp) ?_
      repeat none_booked
      refine Wz.of (Exs.nil ?_)
      repeat none_booked
      refine Wz.of (Exs.nil ?_)
      repeat none_booked
      exact ⟨G, _, _, rfl, rfl⟩
    | 1, hj =>
      cases hj
      rw [show psF ps 1 = ps2 ps from rfl]
      repeat none_booked
      refine ExsZ.cons ?_
      refine ExZ.try_ hO ?_
      refine ExsZ.cons ?_
      refine ExZ.exprE ?_ (by rfl)
      refine EvZ.meth ?_ (by rfl) (by rfl) (by rfl)
      repeat none_booked
      refine g_append (xs := ((saidL (ps.length + 3)).take 1).map .str) (by simp) ?_
      refine ArZ.cons ?_ (by rfl)
      refine EvZ.meth ?_ (by rfl) (by rfl) (by rfl)
      repeat none_booked
      refine Gm.i (x := h) (C := 175) (d := d) (fs := [("_headers", .ref l)]) (by simp) (meth165 O) rfl ?_
      refine ArZ.cons ?_ (by rfl)
      refine Wz.of ?_
      repeat none_booked
      refine ArZ.cons ?_ (by rfl)
      refine Wz.of ?_
      repeat none_booked
      refine ArZ.nil ?_
      repeat none_booked
      refine Wz.perm (P' := (G ++ [lst sd (((saidL (ps.length + 3)).take 1).map .str), lst du (ps.map pr2 ++ [pr2 ([89], []), pr2 ([121], [55]), pr2 ([122], [9])]), lst b [pr2 ([89], []), pr2 ([121], [55]), pr2 ([122], [9])], prs a ps]) ++ stk K :: (prs l (ps2 ps) :: hdrs h d l :: R)) (by simp) ?_
      refine f_setV1 O hO (d := d) (l := l) _ _ (by simp) (by decide) hit1 (by decide) fun G2 => ?_
      refine ⟨rfl, ?_⟩
      refine Hd.hit (T := "ValueError") (by o_reads) (by rw [O.K]; eq_refl) rfl sub_VB sub_Vt sub_VV (by decide) (fun ea => ?_)
      refine ⟨_, by one_sign, ?_⟩
      refine Exs.cons ?_
      refine Ex.exprE ?_ (by rfl)
      refine Ev.meth ?_ (by rfl) (by rfl) (by rfl)
      refine Ev.local (by leaf_len) ?_
      refine g_append (xs := ((saidL (ps.length + 3)).take 1).map .str) (by simp) ?_
      repeat none_booked
      refine Ev.bTyp (id := "str") (by o_reads) (by show nsIn D.K _ _ = _; rw [O.K]; eq_refl) rfl ?_ (by decide +kernel) (by decide +kernel)
      repeat none_booked
      refine c_strE F.excStr_ValueError (.head _) ?_
      refine o_addS (by simp [msgC]) ?_
      repeat none_booked
      refine c_appendL (xs := ((saidL (ps.length + 3)).take 1).map .str) (.tail (by rw [List.append_assoc G, ← List.append_assoc G2]; exact Sw.app .head (G2 ++ G))) (by simp [saidL]) ?_
      repeat none_booked
      refine ⟨_, .tail (.tail (.tail (.tail (.tail .head)))), ?_⟩
      repeat none_booked
      refine Wz.of (Exs.nil ?_)
      repeat none_booked
      exact ⟨exo ea "ValueError" msgC :: (G2 ++ G), _, _, by simp [saidL, e1L, e2L, psF], rfl⟩
    | 2, hj =>
      cases hj
      rw [show psF ps 2 = ps2 ps from rfl]
      repeat none_booked
      refine ExsZ.cons ?_
      refine ExZ.try_ hO ?_
      refine ExsZ.cons ?_
      refine ExZ.exprE ?_ (by rfl)
      refine EvZ.meth ?_ (by rfl) (by rfl) (by rfl)
      repeat none_booked
      refine g_append (xs := ((saidL (ps.length + 3)).take 2).map .str) (by simp) ?_
      refine ArZ.cons ?_ (by rfl)
      refine EvZ.meth ?_ (by rfl) (by rfl) (by rfl)
      repeat none_booked
      refine Gm.i (x := h) (C := 175) (d := d) (fs := [("_headers", .ref l)]) (by simp) (meth165 O) rfl ?_
      refine ArZ.cons ?_ (by rfl)
      refine Wz.of ?_
      repeat none_booked
      refine ArZ.cons ?_ (by rfl)
      refine Wz.of ?_
      repeat none_booked
      refine ArZ.nil ?_
      repeat none_booked
      refine Wz.perm (P' := (G ++ [lst sd (((saidL (ps.length + 3)).take 2).map .str), lst du (ps.map pr2 ++ [pr2 ([89], []), pr2 ([121], [55]), pr2 ([122], [9])]), lst b [pr2 ([89], []), pr2 ([121], [55]), pr2 ([122], [9])], prs a ps]) ++ stk K :: (prs l (ps2 ps) :: hdrs h d l :: R)) (by simp) ?_
      refine f_setV2 O hO (d := d) (l := l) (ps := ps2 ps) _ _ (by simp) (by simp) (by decide) hit2 (by decide) (okH_ps2 hps) (by simp; omega) (getH_z hZ) fun G2 => ?_
      refine ⟨rfl, ?_⟩
      refine Hd.hit (T := "ValueError") (by o_reads) (by rw [O.K]; eq_refl) rfl sub_VB sub_Vt sub_VV (by decide) (fun ea => ?_)
      refine ⟨_, by one_sign, ?_⟩
      refine Exs.cons ?_
      refine Ex.exprE ?_ (by rfl)
      refine Ev.meth ?_ (by rfl) (by rfl) (by rfl)
      refine Ev.local (by leaf_len) ?_
      refine g_append (xs := ((saidL (ps.length + 3)).take 2).map .str) (by simp) ?_
      repeat none_booked
      refine Ev.bTyp (id := "str") (by o_reads) (by show nsIn D.K _ _ = _; rw [O.K]; eq_refl) rfl ?_ (by decide +kernel) (by decide +kernel)
      repeat none_booked
      refine c_strE F.excStr_ValueError (.head _) ?_
      refine o_addS (by simp [msgC]) ?_
      repeat none_booked
      refine c_appendL (xs := ((saidL (ps.length + 3)).take 2).map .str) (.tail (by rw [List.append_assoc G, ← List.append_assoc G2]; exact Sw.app .head (G2 ++ G))) (by simp [saidL]) ?_
      repeat none_booked
      refine ⟨_, .tail (.tail (.tail (.tail (.tail .head)))), ?_⟩
      repeat none_booked
      refine Wz.of (Exs.nil ?_)
      repeat none_booked
      exact ⟨exo ea "ValueError" msgC :: (G2 ++ G), _, _, by simp [saidL, e1L, e2L, psF], rfl⟩
    | 3, hj =>
      cases hj
      rw [show psF ps 3 = ps2 ps from rfl]
      repeat none_booked
      refine ExsZ.cons ?_
      refine ExZ.try_ hO ?_
      refine ExsZ.cons ?_
      refine ExZ.exprE ?_ (by rfl)
      refine EvZ.meth ?_ (by rfl) (by rfl) (by rfl)
      repeat none_booked
      refine g_append (xs := ((saidL (ps.length + 3)).take 3).map .str) (by simp) ?_
      refine ArZ.cons ?_ (by rfl)
      refine EvZ.meth ?_ (by rfl) (by rfl) (by rfl)
      repeat none_booked
      refine Gm.i (x := h) (C := 175) (d := d) (fs := [("_headers", .ref l)]) (by simp) (meth165 O) rfl ?_
      refine ArZ.cons ?_ (by rfl)
      refine Wz.of ?_
      repeat none_booked
      refine ArZ.cons ?_ (by rfl)
      refine Wz.of ?_
      repeat none_booked
      refine ArZ.nil ?_
      repeat none_booked
      refine Wz.perm (P' := (G ++ [lst sd (((saidL (ps.length + 3)).take 3).map .str), lst du (ps.map pr2 ++ [pr2 ([89], []), pr2 ([121], [55]), pr2 ([122], [9])]), lst b [pr2 ([89], []), pr2 ([121], [55]), pr2 ([122], [9])], prs a ps]) ++ stk K :: (prs l (ps2 ps) :: hdrs h d l :: R)) (by simp) ?_
      refine f_setA O hO (d := d) (l := l) (ps := ps2 ps) (j := ps.length + 3) _ _ (by simp) (by simp) (by decide) (by omega) (okH_ps2 hps) (by simp; omega) (getH_z hZ) ?_
      refine ⟨rfl, ?_⟩
      refine Hd.miss (T := "ValueError") (by o_reads) (by rw [O.K]; eq_refl) rfl sub_VB sub_Vt sub_AV ?_
      refine Hd.hit (T := "AssertionError") (by o_reads) (by rw [O.K]; eq_refl) rfl sub_AB sub_At sub_AA (by decide) (fun ea => ?_)
      refine ⟨_, by one_sign, ?_⟩
      refine Exs.cons ?_
      refine Ex.exprE ?_ (by rfl)
      refine Ev.meth ?_ (by rfl) (by rfl) (by rfl)
      refine Ev.local (by leaf_len) ?_
      refine g_append (xs := ((saidL (ps.length + 3)).take 3).map .str) (by simp) ?_
      repeat none_booked
      refine Ev.bTyp (id := "str") (by o_reads) (by show nsIn D.K _ _ = _; rw [O.K]; eq_refl) rfl ?_ (by decide +kernel) (by decide +kernel)
      repeat none_booked
      refine c_strE F.excStr_AssertionError (.head _) ?_
      refine o_addS (by have := dec_12 (j := ps.length + 3) (by omega); simp [said_len]; omega) ?_
      repeat none_booked
      refine c_appendL (xs := ((saidL (ps.length + 3)).take 3).map .str) (.tail (by rw [List.append_assoc G]; exact Sw.app .head G)) (by simp [saidL]) ?_
      repeat none_booked
      refine ⟨_, .tail (.tail (.tail (.tail (.tail .head)))), ?_⟩
      repeat none_booked
      refine Wz.of (Exs.nil ?_)
      repeat none_booked
      exact ⟨exo ea "AssertionError" (said (dec (ps.length + 3))) :: G, _, _, by simp [saidL, e1L, e2L, psF], rfl⟩
    | 4, hj =>
      cases hj
      rw [show psF ps 4 = ps2 ps from rfl]
      repeat none_booked
      refine ExsZ.cons ?_
      refine ExZ.try_ hO ?_
      refine ExsZ.cons ?_
      refine Wz.of ?_
      repeat none_booked
      refine g_append (xs := ((saidL (ps.length + 3)).take 4).map .str) (by simp) ?_
      repeat none_booked
      refine Gm.i (x := h) (C := 175) (d := d) (fs := [("_headers", .ref l)]) (by simp) (meth165 O) rfl ?_
      repeat none_booked
      refine f_setNew O (d := d) (l := l) (ps := ps2 ps) (by simp) (by simp) (Sw.app (.tail (.tail (.tail (.tail (.tail .head))))) G) (by decide) (by decide) (by decide) (okH_ps2 hps) (by simp; omega) (getH_z hZ) ?_
      repeat none_booked
      refine c_appendL (xs := ((saidL (ps.length + 3)).take 4).map .str) (Sw.app .head G) (by simp [saidL]) ?_
      repeat none_booked
      refine Wz.of (Exs.nil ?_)
      repeat none_booked
      refine Wz.of (Exs.nil ?_)
      repeat none_booked
      exact ⟨G, _, _, rfl, rfl⟩
    | j + 5, hj => simp at hj
  · rintro m' P' ⟨G, y3, y4, rfl, rfl⟩
    have hf1 : psF ps [AVal.tup [AVal.str [121], AVal.int 8], AVal.tup [AVal.str [122, 9], AVal.str [56]], AVal.tup [AVal.str [122], AVal.str [56, 10]], AVal.tup [AVal.str [122], AVal.int ↑(ps.length + 3)], AVal.tup [AVal.str [122], AVal.str [9]]].length = ps2 ps ++ [([122], [9])] := rfl
    have hf2 : List.take [AVal.tup [AVal.str [121], AVal.int 8], AVal.tup [AVal.str [122, 9], AVal.str [56]], AVal.tup [AVal.str [122], AVal.str [56, 10]], AVal.tup [AVal.str [122], AVal.int ↑(ps.length + 3)], AVal.tup [AVal.str [122], AVal.str [9]]].length (saidL (ps.length + 3)) = saidL (ps.length + 3) := rfl
    rw [hf1, hf2]
    repeat none_booked
    refine ExsZ.cons ?_
    refine Wz.of ?_
    repeat none_booked
    refine ExsZ.cons ?_
    refine Wz.of ?_
    repeat none_booked
    refine c_lenL (xs := ps.map pr2 ++ [pr2 ([89], []), pr2 ([121], [55]), pr2 ([122], [9])]) (by simp) (by simp; omega) ?_
    rw [hlen]
    repeat none_booked
    refine c_strI (by omega) ?_
    have hd12 := dec_12 (j := ps.length + 3) (by omega)
    refine o_addS (by simp; omega) ?_
    repeat none_booked
    refine o_addS (by simp; omega) ?_
    repeat none_booked
    refine ExsZ.cons ?_
    refine Wz.of ?_
    repeat none_booked
    refine Gm.i (x := h) (C := 175) (d := d) (fs := [("_headers", .ref l)]) (by simp) (meth139 O) rfl ?_
    repeat none_booked
    refine f_items O (d := d) (l := l) (ps := ps2 ps ++ [([122], [9])]) (by simp) (by simp) (by simp; omega) fun a2 => ?_
    repeat none_booked
    refine o_eqL (xs := (ps2 ps ++ [([122], [9])]).map pr2) (ys := (ps2 ps ++ [([122], [9])]).map pr2) (.head _) (by simp) (fun _ => ok_prs _) ?_
    rw [beqL_prs]
    repeat none_booked
    intro c
    refine o_eqL (xs := (saidL (ps.length + 3)).map .str) (ys := (saidL (ps.length + 3)).map .str) (by simp) (.head _) (fun _ => ok_strs _ _) ?_
    rw [beqL_strs]
    repeat none_booked
    exact ⟨_, .tail (.tail (Sw.app (.tail (.tail (.tail (.tail .head)))) G)), q _ fun c hc => by simp [hc]⟩
end

end Mine
-- PW
namespace Mine
/-! the words of a page -/
def Lexes : List (List Nat) → List Nat → Nat → Nat → Prop
  | [], s, ln, fin => lexT s ln = ([], [], fin)
  | w :: r, s, ln, fin => w ≠ [] ∧ ∃ s' ln', lexT s ln = (w, s', ln') ∧ s'.length ≤ s.length ∧ Lexes r s' ln' fin
theorem Lexes.congr {its : List (List Nat)} {s s2 : List Nat} {ln ln2 fin : Nat} (h : lexT s ln = lexT s2 ln2) (hl : s2.length ≤ s.length) (x : Lexes its s2 ln2 fin) : Lexes its s ln fin := by
  cases its with
  | nil => exact h.trans x
  | cons w r =>
    obtain ⟨h1, s', ln', h2, h3, h4⟩ := x
    exact ⟨h1, s', ln', h.trans h2, by omega, h4⟩
def okI (c : Nat) : Bool := !(c == 34) && !(c == 92) && !(c == 10) && !isW c
theorem okI_ {c : Nat} (h : okI c = true) : (c == 34) = false ∧ (c == 92) = false ∧ (c == 10) = false ∧ isW c = false := by
  unfold okI at h
  simp only [Bool.and_eq_true, Bool.not_eq_true'] at h
  exact ⟨h.1.1.1, h.1.1.2, h.1.2, h.2⟩
theorem bp_no {c ln : Nat} (h : (c == 10) = false) : bp c ln = ln := by unfold bp; rw [h]; rfl
theorem bmp_no {c ln : Nat} {r : List Nat} (h : (c == 10) = false) : bmp (c :: r) ln = ln := by
  unfold bmp
  have : (List.take 1 (c :: r) == [10]) = false := by
    show ([c] == [10]) = false
    rw [beq_eq_false_iff_ne] at h ⊢
    intro q; exact h (List.cons.inj q).1
  rw [this]; rfl
theorem lexQ_item : ∀ (x rest acc : List Nat) (ln : Nat), x.all okI = true → lexQ (x ++ 34 :: rest) acc ln = (acc ++ x, rest, ln)
  | [], rest, acc, ln, _ => by
    rw [List.nil_append, lexQ_cons, if_pos (by decide), bp_no (by decide), List.append_nil]
  | c :: r, rest, acc, ln, h => by
    rw [List.all_cons, Bool.and_eq_true] at h
    obtain ⟨h1, h2, h3, h4⟩ := okI_ h.1
    rw [List.cons_append, lexQ_cons, h1, h2, bp_no h3, if_neg Bool.false_ne_true, if_neg Bool.false_ne_true, lexQ_item r rest _ ln h.2, List.append_assoc]; rfl
theorem lexB_bare {w : Nat} (hw : isW w = true) : ∀ (x rest acc : List Nat) (ln : Nat), x.all okI = true → lexB (x ++ w :: rest) acc ln = (acc ++ x, rest, bp w ln)
  | [], rest, acc, ln, _ => by
    rw [List.nil_append, lexB_cons, if_pos hw, List.append_nil]
  | c :: r, rest, acc, ln, h => by
    rw [List.all_cons, Bool.and_eq_true] at h
    obtain ⟨h1, h2, h3, h4⟩ := okI_ h.1
    rw [List.cons_append, lexB_cons, h4, h2, bp_no h3, if_neg Bool.false_ne_true, if_neg Bool.false_ne_true, lexB_bare hw r rest _ ln h.2, List.append_assoc]; rfl
theorem jn_nil_cons (a : List Nat) (l : List (List Nat)) : jn [] (a :: l) = a ++ jn [] l := by
  cases l with
  | nil => simp [jn]
  | cons b r => simp [jn]
abbrev escd (x : List Nat) : List Nat := jn [] (x.map fun c => [92] ++ [c])
theorem lexB_esc {w : Nat} (hw : isW w = true) : ∀ (x rest acc : List Nat) (ln : Nat), x.all okI = true → lexB (escd x ++ w :: rest) acc ln = (acc ++ x, rest, bp w ln)
  | [], rest, acc, ln, _ => by
    show lexB (w :: rest) acc ln = _
    rw [lexB_cons, if_pos hw, List.append_nil]
  | c :: r, rest, acc, ln, h => by
    rw [List.all_cons, Bool.and_eq_true] at h
    obtain ⟨h1, h2, h3, h4⟩ := okI_ h.1
    have e : escd (c :: r) ++ w :: rest = 92 :: c :: (escd r ++ w :: rest) := by
      show jn [] (([92] ++ [c]) :: r.map fun c => [92] ++ [c]) ++ w :: rest = _
      rw [jn_nil_cons]; simp [escd]
    rw [e, lexB_cons, if_neg (by decide), if_pos (by decide), bp_no (by decide), bmp_no h3]
    show lexB (escd r ++ w :: rest) (acc ++ [c]) ln = _
    rw [lexB_esc hw r rest _ ln h.2, List.append_assoc]; rfl
theorem ws_ok {s : Nat} (h : s < 4) : isW ([10, 32, 9, 13].getD s 0) = true := by
  have key : ∀ s : Fin 4, isW ([10, 32, 9, 13].getD s.1 0) = true := by decide
  exact key ⟨s, h⟩
theorem lexT_piece {x : List Nat} (hx : x ≠ []) (ok : x.all okI = true) {st : Nat} (hs : st < 12) (rest : List Nat) (ln : Nat) : ∃ s' ln', lexT (pieceP x st ++ rest) ln = (x, s', ln') ∧ s'.length ≤ (pieceP x st ++ rest).length ∧ rest.length ≤ s'.length ∧ lexT s' ln' = lexT rest (bp ([10, 32, 9, 13].getD (st / 3) 0) ln) := by
  have hw := ws_ok (s := st / 3) (by omega)
  unfold pieceP
  generalize [10, 32, 9, 13].getD (st / 3) 0 = w at *
  obtain ⟨c, r, rfl⟩ : ∃ c r, x = c :: r := by cases x with
    | nil => exact absurd rfl hx
    | cons c r => exact ⟨c, r, rfl⟩
  by_cases h0 : st % 3 = 0
  · rw [if_pos h0]
    refine ⟨w :: rest, ln, ?_, by simp; omega, by simp, ?_⟩
    · have e : [34] ++ c :: r ++ [34] ++ [w] ++ rest = 34 :: ((c :: r) ++ 34 :: (w :: rest)) := by simp
      rw [e, lexT_cons, if_neg (by decide), if_pos (by decide), bp_no (by decide), lexQ_item _ _ _ _ ok]; rfl
    · rw [lexT_cons, if_pos hw]
  · rw [if_neg h0]
    by_cases h1 : st % 3 = 1
    · rw [if_pos h1]
      refine ⟨rest, bp w ln, ?_, by simp; omega, Nat.le_refl _, rfl⟩
      have ok' := ok
      rw [List.all_cons, Bool.and_eq_true] at ok'
      obtain ⟨h2, h3, h4, h5⟩ := okI_ ok'.1
      have e : escd (c :: r) ++ [w] ++ rest = 92 :: c :: (escd r ++ w :: rest) := by
        show jn [] (([92] ++ [c]) :: r.map fun c => [92] ++ [c]) ++ [w] ++ rest = _
        rw [jn_nil_cons]; simp [escd]
      rw [e, lexT_cons, if_neg (by decide), if_neg (by decide), if_pos (by decide), bp_no (by decide), bmp_no h4]
      show lexB (escd r ++ w :: rest) [c] ln = _
      rw [lexB_esc hw _ _ _ _ ok'.2]; rfl
    · rw [if_neg h1]
      refine ⟨rest, bp w ln, ?_, by simp; omega, Nat.le_refl _, rfl⟩
      have ok' := ok
      rw [List.all_cons, Bool.and_eq_true] at ok'
      obtain ⟨h2, h3, h4, h5⟩ := okI_ ok'.1
      have e : c :: r ++ [w] ++ rest = c :: (r ++ w :: rest) := by simp
      rw [e, lexT_cons, h5, h2, h3, if_neg Bool.false_ne_true, if_neg Bool.false_ne_true, if_neg Bool.false_ne_true, bp_no h4, lexB_bare hw _ _ _ _ ok'.2]; rfl
theorem count_no {x : List Nat} (ok : x.all okI = true) : x.count 10 = 0 := by
  rw [List.count_eq_zero]
  intro h
  have := (okI_ (List.all_eq_true.mp ok 10 h)).2.2.1
  simp at this
theorem count_esc : ∀ {x : List Nat}, x.all okI = true → (escd x).count 10 = 0
  | [], _ => rfl
  | c :: r, ok => by
    rw [List.all_cons, Bool.and_eq_true] at ok
    have h := (okI_ ok.1).2.2.1
    rw [beq_eq_false_iff_ne] at h
    show (jn [] (([92] ++ [c]) :: r.map fun c => [92] ++ [c])).count 10 = 0
    rw [jn_nil_cons, List.count_append, count_esc ok.2]
    simp [List.count_cons, h]
theorem count_piece {x : List Nat} (ok : x.all okI = true) (st ln : Nat) : bp ([10, 32, 9, 13].getD (st / 3) 0) ln = ln + (pieceP x st).count 10 := by
  unfold pieceP
  generalize [10, 32, 9, 13].getD (st / 3) 0 = w
  have h1 : ((if st % 3 = 0 then [34] ++ x ++ [34] else if st % 3 = 1 then escd x else x) : List Nat).count 10 = 0 := by
    split
    · simp [count_no ok]
    · split
      · exact count_esc ok
      · exact count_no ok
  rw [List.count_append]
  have h2 : ([w] : List Nat).count 10 = if w == 10 then 1 else 0 := by simp [List.count_cons]
  rw [h2]
  show (if w == 10 then ln + 1 else ln) = ln + (_ + _)
  rw [h1]
  split <;> omega
theorem page_lexes (number : Nat) : ∀ (its : List (List Nat)) (k ln : Nat), (∀ x ∈ its, x ≠ [] ∧ x.all okI = true) → Lexes its (pageP its k number) ln (ln + (pageP its k number).count 10)
  | [], k, ln, _ => rfl
  | x :: r, k, ln, h => by
    obtain ⟨hx, ok⟩ := h x (.head _)
    obtain ⟨s', ln', h1, h2, h3, h4⟩ := lexT_piece hx ok (st := number / 12 ^ k % 12) (Nat.mod_lt _ (by decide)) (pageP r (k + 1) number) ln
    refine ⟨hx, s', ln', h1, h2, ?_⟩
    refine Lexes.congr h4 h3 ?_
    have := page_lexes number r (k + 1) (bp ([10, 32, 9, 13].getD (number / 12 ^ k % 12 / 3) 0) ln) fun y hy => h y (.tail _ hy)
    rw [count_piece ok] at this ⊢
    rw [show pageP (x :: r) k number = pieceP x (number / 12 ^ k % 12) ++ pageP r (k + 1) number from rfl, List.count_append, ← Nat.add_assoc]
    exact this
end Mine

-- PX
namespace Mine
def dig : Nat → Option Bool
  | 0 => some false
  | 1 => some true
  | _ => none
def itsOf (k : Nat) : List (Option Bool) := (List.range (5 - k / 243 % 6)).map fun i => dig (k / 3 ^ i % 3)
def dsOf (k : Nat) : List Bool := (List.range (k / 4096 % 13)).map fun i => k / 2 ^ i % 2 == 1
def colT (R : List (List Bool)) (p : Nat) : List Nat := R.map fun r => if r.getD p false then 49 else 48
/-- what the law asks of a pattern and a text -/
structure FineW (its : List (Option Bool)) (ds : List Bool) (x1 x2 x3 : TS) (T1 T2 : List (Nat × List Nat)) (R : List (List Bool)) (pd : Nat) : Prop where
  w0 : okW (mach its 0).1 = true
  l0 : (mach its 0).1.length ≤ 18
  e0 : okP (false, [(mach its 0).2])
  t1 : turnT (mach its 0).1 [(mach its 0).2] = some x1
  w1 : okW x1.ST = true
  l1 : x1.ST.length ≤ 18
  e1 : okP (false, endsT x1.SH)
  s1 : x1.SH.length ≤ 100
  t2 : turnT x1.ST (endsT x1.SH) = some x2
  w2 : okW x2.ST = true
  l2 : x2.ST.length ≤ 18
  e2 : okP (false, endsT x2.SH)
  s2 : x2.SH.length ≤ 100
  h2 : ∀ p ∈ x2.SH, okP p
  t3 : turnT x2.ST (endsT x2.SH) = some x3
  s3 : x3.SH.length ≤ 70
  h3 : ∀ p ∈ x3.SH, okP p
  nd : (x2.ST.map keyW).Nodup
  wk : walkN x2.ST (patI its) (endsT x2.SH) 4 [([], 0)] = true
  rd : runD x2.ST ds 0 = some pd
  el : ell (patI its) (txt ds) = (endsT x2.SH).contains pd
  tx1 : txts x1.ST [(0, [])] = some T1
  tx2 : txts x2.ST [(0, [])] = some T2
  rw : rowsP (patI its) T2 T1 x1.SH.length (x2.SH.map (·.2)).zipIdx = some R
  rn : R ≠ []
  rl : ∀ r ∈ R, r.length = x1.SH.length
  rz : R.length ≤ 100
  rs : (dd (R.map bitS)).length = R.length
  cs : (dd ((List.range x1.SH.length).map (colT R))).length = x3.SH.length
def numF (xs : List Int) (i : Nat) (b : Int) : Nat := ((b + (slc (slc xs none (some 60) none) (some (i : Int)) none (some 3)).sum) % ((1000000 : Nat) : Int)).toNat
end Mine

-- PY
namespace Mine
open PySem PySem.W PySem.Calls PyProof.Rows PySem.SeqAt
theorem two_toks {its : List (List Nat)} {s : List Nat} {ln fin : Nat} (h : Lexes its s ln fin) : ∃ t1 s1 l1 t2 s2 l2, lexT s ln = (t1, s1, l1) ∧ lexT s1 l1 = (t2, s2, l2) ∧ s1.length ≤ s.length ∧ s2.length ≤ s.length ∧ [t1, t2].take its.length = its.take 2 ∧ Lexes (its.drop 2) s2 l2 fin := by
  match its, h with
  | [], h => exact ⟨_, _, _, _, _, _, h, rfl, by simp, by simp, rfl, rfl⟩
  | [w], ⟨_, s1, l1, h1, h2, h3⟩ => exact ⟨_, _, _, _, _, _, h1, h3, h2, by simp, rfl, rfl⟩
  | w :: v :: r, ⟨_, s1, l1, h1, h2, _, s2, l2, h3, h4, h5⟩ => exact ⟨_, _, _, _, _, _, h1, h3, h2, Nat.le_trans h4 h2, by simp, h5⟩
theorem itm_ok (o : Option Bool) : itm o ≠ [] ∧ (itm o).all okI = true ∧ (itm o).length ≤ 3 := by
  rcases o with _ | _ | _ <;> decide
theorem esc_len : ∀ x : List Nat, (escd x).length = 2 * x.length
  | [] => rfl
  | c :: r => by
    show (jn [] (([92] ++ [c]) :: r.map fun c => [92] ++ [c])).length = _
    rw [jn_nil_cons, List.length_append]
    have := esc_len r
    simp only [escd] at this
    rw [this]; simp; omega
theorem piece_len (x : List Nat) (st : Nat) (h : x.length ≤ 3) : (pieceP x st).length ≤ 9 := by
  unfold pieceP
  rw [List.length_append]
  split
  · simp; omega
  · split
    · have := esc_len x; simp only [escd] at this; rw [this]; simp; omega
    · simp; omega
theorem page_len (number : Nat) : ∀ (its : List (List Nat)) (k : Nat), (∀ x ∈ its, x.length ≤ 3) → (pageP its k number).length ≤ 9 * its.length
  | [], k, _ => by simp [pageP]
  | x :: r, k, h => by
    rw [show pageP (x :: r) k number = pieceP x (number / 12 ^ k % 12) ++ pageP r (k + 1) number from rfl, List.length_append, List.length_cons]
    have := piece_len x (number / 12 ^ k % 12) (h x (.head _))
    have := page_len number r (k + 1) fun y hy => h y (.tail _ hy)
    omega
theorem itsOf_len (k : Nat) : (itsOf k).length ≤ 5 := by simp [itsOf]
theorem jn_nil : ∀ l : List (List Nat), jn [] l = l.flatten
  | [] => rfl
  | a :: r => by rw [jn_nil_cons, jn_nil r]; rfl
theorem patI_jn (its : List (Option Bool)) : jn [] (its.map itm) = patI its := jn_nil _
theorem patI_len : ∀ its : List (Option Bool), (patI its).length ≤ 3 * its.length
  | [] => by simp [patI]
  | o :: r => by
    have h1 := (itm_ok o).2.2
    have h2 := patI_len r
    simp only [patI, List.map_cons, List.flatten_cons, List.length_append, List.length_cons] at h2 ⊢
    omega
theorem seqI {k n : Nat} (h : k < n) : seqIndex? (k : Int) n = some k := by
  unfold seqIndex?
  have h1 : ¬ ((k : Int) < 0) := by omega
  have h2 : (decide (0 ≤ (k : Int)) && decide ((k : Int) < n)) = true := by simp; omega
  simp only [if_neg h1]
  rw [if_pos h2]; simp
theorem ltr_txt (ds : List Bool) : (ds.map ltr).flatten = txt ds := by
  induction ds with
  | nil => rfl
  | cons b r ih => rw [List.map_cons, List.flatten_cons, ih]; cases b <;> rfl
theorem jn_ltr (ds : List Bool) : jn [] (ds.map ltr) = txt ds := (jn_nil _).trans (ltr_txt ds)
theorem ltr_sum : ∀ ds : List Bool, ((ds.map ltr).map (·.length)).sum = ds.length
  | [] => rfl
  | b :: r => by
    have e : (ltr b).length = 1 := by cases b <;> rfl
    rw [List.map_cons, List.map_cons, List.sum_cons, ltr_sum r, e, List.length_cons]; omega
theorem itm_sum (its : List (Option Bool)) : ((its.map itm).map (·.length)).sum ≤ 3 * its.length := by
  have := patI_len its
  rwa [patI, List.length_flatten] at this
theorem itm_at {r : Nat} (h : r < 3) : [AVal.str [97], .str [98], .str [46, 46, 46]][r]? = some (.str (itm (dig r))) := by
  match r, h with
  | 0, _ => rfl
  | 1, _ => rfl
  | 2, _ => rfl
theorem bit_at {r : Nat} (h : r < 2) : ([97, 98] : List Nat)[r]? = some (if (r == 1) = true then 98 else 97) := by
  match r, h with
  | 0, _ => rfl
  | 1, _ => rfl
theorem bitS_at {r : List Bool} {j : Nat} (h : j < r.length) : (bitS r)[j]? = some (if r.getD j false then 49 else 48) := by
  rw [bitS, List.getElem?_map, List.getD_eq_getElem?_getD, List.getElem?_eq_getElem h]; rfl
theorem one_sum : ∀ l : List Nat, ((l.map fun c => [c]).map (·.length)).sum = l.length
  | [] => rfl
  | c :: r => by rw [List.map_cons, List.map_cons, List.sum_cons, one_sum r, List.length_cons]; simp; omega
theorem jn_one (l : List Nat) : jn [] (l.map fun c => [c]) = l := by
  rw [jn_nil]
  induction l with
  | nil => rfl
  | cons c r ih => rw [List.map_cons, List.flatten_cons, ih]; rfl
theorem colT_take {R : List (List Bool)} {i j : Nat} {r : List Bool} (h : R[i]? = some r) : (((colT R j).map fun c => [c]).take (i + 1)).map AVal.str = (((colT R j).map fun c => [c]).take i).map AVal.str ++ [.str [if r.getD j false then 49 else 48]] := by
  have h2 : ((colT R j).map fun c => [c])[i]? = some [if r.getD j false then 49 else 48] := by rw [colT, List.getElem?_map, List.getElem?_map, h]; rfl
  rw [take_at h2, List.map_append]; rfl
theorem ltr_if (b : Bool) : ltr b = [if b = true then 98 else 97] := by cases b <;> rfl
theorem beqL_nil {xs : List AVal} (h : xs ≠ []) : beqL xs [] = false := by
  cases xs with
  | nil => exact absurd rfl h
  | cons a r => rfl
theorem take_range_snoc {α : Type} (g : Nat → α) {k j : Nat} (h : j < k) : ((List.range k).map g).take (j + 1) = ((List.range k).map g).take j ++ [g j] := take_at (by rw [List.getElem?_map, List.getElem?_range h]; rfl)
theorem getH_one {SH : Shelf} {c : Nat} : getH (shH SH) [c] = none := by
  unfold getH
  rw [List.find?_eq_none.mpr fun p hp => ?_]; · rfl
  obtain ⟨q, _, rfl⟩ := List.mem_map.mp hp
  intro e
  have h := congrArg List.length (beq_iff_eq.mp e)
  have h2 : (hdS q.1.1).length = 2 := by cases q.1.1 <;> rfl
  simp only [nameS, loL, List.length_map, List.length_append, h2, List.length_cons, List.length_nil] at h
  omega
section
variable {D : WD} {n : Nat} {f : Fm} {ns : Nms} {m : Loc} {P : List Ck} {Q : AVal → Loc → List Ck → Prop}
theorem lexI_mem {X : LexA} {pend : List (List Nat)} {signs : List Nat} {ln : Nat} : inst X.x 240 X.d [("lineno", .int ((ln : Nat) : Int)), ("instream", .ref X.F), ("whitespace", .str ws4), ("pushback", .ref X.pb)] ∈ lexP X pend signs ln := .tail _ (.head _)
theorem o_pow106 (q : Q (.int ((1000000 : Nat) : Int)) m P) : Wp D n f ns V [.int 10, .int 6] (Op2 (binaryOp .Pow)) m P Q := by
  have h : (10 ^ 6 : Nat) = 1000000 := by decide
  exact o_powN (a := 10) (k := 6) (by decide) (by decide) (by decide) (by rw [h]; exact q)
theorem o_mod106 {a : Int} (q : Q (.int ((a % ((1000000 : Nat) : Int)).toNat : Nat)) m P) : Wp D n f ns V [.int a, .int ((1000000 : Nat) : Int)] (Op2 (binaryOp .Mod)) m P Q := o_modZ (b := 1000000) (by decide) q
end
end Mine

-- HV
namespace Mine
open PySem PySem.W PySem.Calls PyProof.Rows PySem.SeqAt

local macro_rules | `(tactic| leaf_len) => `(tactic| ((repeat (first | with_reducible exact NmAt.head | with_reducible apply NmAt.tail)); done))
local macro_rules | `(tactic| one_sign) => `(tactic| ((repeat (first | with_reducible exact NmUp.head | with_reducible apply NmUp.tail)); done))
local macro_rules | `(tactic| o_reads) => `(tactic| ((repeat (first | with_reducible exact In1.head | with_reducible apply In1.tail)); done))
local macro_rules | `(tactic| o_fieldsN) => `(tactic| ((repeat (first | with_reducible assumption | with_reducible exact Sw.head | with_reducible apply Sw.tail)); done))
local macro_rules | `(tactic| o_readsAll) => `(tactic| ((repeat (first | with_reducible assumption | with_reducible exact List.mem_cons_self .. | with_reducible apply List.mem_cons_of_mem)); done))
local macro_rules | `(tactic| o_shape) => `(tactic| ((repeat (first | with_reducible exact .nil | (apply Init.hit; (next => rfl)) | (apply Init.miss; (next => rfl)))); done))
local macro_rules | `(tactic| wrow_none_raised) => `(tactic| (simp only [List.map]; decide +kernel))
local macro_rules | `(tactic| wrow_raised) => `(tactic| (constructor; (next => (constructor; constructor; constructor; (rw [Ok.K ‹Ok _›]); rfl)); (next => rfl); (next => (rw [Ok.K ‹Ok _›]; rfl)); (next => rfl); (next => rfl); (next => rfl); (next => rfl); (next => decide +kernel); (next => decide +kernel); (next => rfl); (next => rfl); (next => rfl)))
local macro_rules | `(tactic| w_left) => `(tactic| (constructor; (next => wrow_none_raised); constructor; constructor; (next => o_shape)))
local macro_rules | `(tactic| w_means) => `(tactic| first
  | focus ((apply c_lenL); (next => o_readsAll))
  | (apply c_lenS)
  | (apply c_find)
  | (apply c_startswith)
  | (apply c_endswith)
  | (apply c_find4)
  | (apply c_rfind4)
  | (apply c_count)
  | (apply c_upper)
  | (apply c_lower)
  | (apply c_strI)
  | (apply c_strS)
  | (apply c_intS)
  | (apply c_split)
  | (apply c_range)
  | (apply c_listS)
  | focus ((apply c_enum); (next => o_readsAll))
  )
local macro_rules | `(tactic| wrow_close) => `(tactic| ((repeat (first | with_reducible exact Capt.nil | focus ((apply Capt.other); (next => decide)) | focus ((with_reducible apply Capt.cell); (next => leaf_len)) | focus ((with_reducible apply Capt.free); (next => leaf_len)))); done))
local macro_rules | `(tactic| close_w) => `(tactic| first
  | focus ((with_reducible apply Ev.comp1); (next => rfl); (next => decide +kernel); (next => decide +kernel); rotate_left; (next => (intro _; rfl)); dsimp only)
  | focus ((with_reducible apply Ex.assignD); (next => rfl); (next => decide +kernel); (next => decide +kernel); (next => rfl); (next => (intro _; rfl)); dsimp only)
  | focus ((with_reducible apply Ev.dcomp1); (next => rfl); (next => decide +kernel); (next => decide +kernel); (next => (intro _; rfl)); dsimp only)
  | focus ((with_reducible apply Ex.assignDC); (next => rfl); (next => decide +kernel); (next => decide +kernel); (next => rfl); (next => (intro _; rfl)); dsimp only)
  | focus ((with_reducible apply Ex.assignC2); (next => rfl); (next => decide +kernel); (next => decide +kernel); (next => rfl); (next => (intro _; rfl)); dsimp only))
local macro_rules | `(tactic| kd_mem) => `(tactic| ((repeat (first | with_reducible exact Pk.head | with_reducible apply Pk.tail)); done))
local macro_rules | `(tactic| kd_subs) => `(tactic| ((repeat (refine Pk.perm (by kd_mem) ?_)); exact List.Perm.refl _))
local macro_rules | `(tactic| none_booked) => `(tactic| first
  | (with_reducible refine Exs.cons ?_)
  | (with_reducible refine Exs.nil ?_)
  | ((with_reducible show Ev _ _ _ _ _ _ _ _); first
    | ((with_reducible show Ev _ _ _ _ (Expr.Name _ _) _ _ _); first
      | focus ((with_reducible apply Ev.local); (next => leaf_len); rotate_left; (next => decide +kernel))
      | focus ((with_reducible apply Ev.cell); (next => leaf_len); rotate_left; (next => decide +kernel))
      | focus ((with_reducible apply Ev.free); (next => leaf_len); rotate_left; (next => decide +kernel); (next => decide +kernel))
      | focus ((with_reducible apply Ev.gRef); (next => o_reads); (next => (rw [Ok.K ‹Ok _›]; eq_refl)); rotate_left; (next => decide +kernel))
      | focus ((with_reducible apply Ev.bBlt); (next => o_reads); (next => (rw [Ok.K ‹Ok _›]; eq_refl)); (next => eq_refl); rotate_left; (next => decide +kernel); (next => decide +kernel))
      | focus ((with_reducible apply Ev.bTyp); (next => o_reads); (next => (rw [Ok.K ‹Ok _›]; eq_refl)); (next => eq_refl); rotate_left; (next => decide +kernel); (next => decide +kernel))
      | focus ((with_reducible apply Ev.gStr); (next => o_reads); (next => (rw [Ok.K ‹Ok _›]; eq_refl)); rotate_left; (next => decide +kernel)))
    | ((with_reducible show Ev _ _ _ _ (Expr.Constant _ _ _) _ _ _); first
      | (with_reducible refine Ev.int ?_)
      | focus ((with_reducible apply Ev.strL); (next => (first | with_reducible exact cs_k0 | with_reducible exact cs_k1 | with_reducible exact cs_k2 | with_reducible exact cs_k3 | with_reducible exact cs_dots | with_reducible exact cs_k5 | with_reducible exact cs_k6 | with_reducible exact cs_k7 | with_reducible exact cs_k8 | with_reducible exact cs_k9 | with_reducible exact cs_dot | with_reducible exact cs_k11 | with_reducible exact cs_k12 | with_reducible exact cs_k13 | with_reducible exact cs_k14 | with_reducible exact cs_k15 | with_reducible exact cs_k16 | with_reducible exact cs_k17 | with_reducible exact cs_k18 | with_reducible exact cs_k19 | with_reducible exact cs_k20 | with_reducible exact cs_k21 | with_reducible exact cs_k22 | with_reducible exact cs_k23 | with_reducible exact cs_k24 | with_reducible exact cs_k25 | with_reducible exact cs_nl | with_reducible exact cs_k27 | with_reducible exact cs_colon | with_reducible exact cs_k29 | with_reducible exact cs_k30 | with_reducible exact cs_k31 | with_reducible exact cs_k32 | with_reducible exact cs_k33 | with_reducible exact cs_k34 | with_reducible exact cs_k35 | with_reducible exact cs_k36 | with_reducible exact cs_k37 | with_reducible exact cs_k38 | with_reducible exact cs_k39 | with_reducible exact cs_k40 | with_reducible exact cs_k41 | with_reducible exact cs_k42 | with_reducible exact cs_k43 | with_reducible exact cs_k44 | exact rfl)))
      | (with_reducible refine Ev.bool ?_)
      | (with_reducible refine Ev.none ?_))
    | ((with_reducible show Ev _ _ _ _ (Expr.Call _ _ _ _) _ _ _); first
      | ((with_reducible show Ev _ _ _ _ (Expr.Call (Expr.Attribute _ _ _) _ _ _) _ _ _); focus ((with_reducible apply Ev.meth); rotate_left; (next => eq_refl); (next => eq_refl); (next => eq_refl)))
      | focus ((with_reducible refine Ev.call ?_ ?_ ?_ ?_); rotate_left; (next => eq_refl); (next => eq_refl); (next => eq_refl)))
    | focus ((with_reducible refine Ev.cmp ?_ ?_); rotate_left; (next => with_unfolding_all eq_refl))
    | (with_reducible refine Ev.binop ?_)
    | (with_reducible refine Ev.slice ?_)
    | focus ((with_reducible refine Ev.item ?_ ?_); rotate_left; (next => (intros; eq_refl)))
    | (with_reducible refine Ev.tup ?_)
    | (with_reducible refine Ev.list ?_)
    | (with_reducible refine Ev.unop ?_)
    | (with_reducible refine Ev.ifexp ?_)
    | (with_reducible refine Ev.one ?_)
    | (with_reducible refine Ev.and ?_)
    | (with_reducible refine Ev.or ?_))
  | ((with_reducible show Ex _ _ _ _ _ _ _ _); first
    | (with_reducible refine Ex.ite ?_)
    | (with_reducible refine Ex.ret ?_)
    | focus ((with_reducible refine Ex.assignN ?_ ?_); rotate_left; (next => eq_refl))
    | focus ((with_reducible refine Ex.exprE ?_ ?_); rotate_left; (next => eq_refl))
    | ((with_reducible show Ex _ _ _ _ (Stmt.AugAssign (Expr.Name _ _) _ _ _) _ _ _); focus ((with_reducible apply Ex.aug); (next => leaf_len)))
    | focus ((with_reducible refine Ex.assignW2 (Ok.hd ‹Ok _›) ?_ ?_ ?_); rotate_left; (next => eq_refl); (next => eq_refl))
    | focus ((with_reducible refine Ex.assignW3 (Ok.hd ‹Ok _›) ?_ ?_ ?_); rotate_left; (next => eq_refl); (next => eq_refl))
    | (with_reducible refine Ex.assert (Ok.hd ‹Ok _›) ?_)
    | (with_reducible refine Ex.delItem ?_)
    | (with_reducible refine Ex.ret0 ?_)
    | (with_reducible refine Ex.cont ?_)
    | (with_reducible refine Ex.brk ?_)
    | (with_reducible refine Ex.pass ?_))
  | ((with_reducible show Tr _ _ _ _ _ _ _ _); first
    | focus ((with_reducible refine Tr.cmp ?_ ?_); rotate_left; (next => with_unfolding_all eq_refl))
    | (with_reducible refine Tr.not ?_)
    | (with_reducible refine Tr.and_nil ?_)
    | (with_reducible refine Tr.or_nil ?_)
    | (with_reducible refine Tr.and ?_)
    | (with_reducible refine Tr.or ?_)
    | focus ((with_reducible refine Tr.ev ?_ ?_); rotate_left; (next => eq_refl)))
  | ((with_reducible show Wp _ _ _ _ _ _ _ _ _ _); first
    | (with_reducible refine Ar.nil ?_)
    | focus ((with_reducible refine Ar.cons ?_ ?_); rotate_left; (next => eq_refl))
    | (with_reducible refine Ks.nil ?_)
    | (with_reducible refine Ks.cons ?_)
    | ((with_reducible show As _ _ _ _ _ _ _ _ _); first
      | ((with_reducible show As _ _ _ _ (Expr.Name _ _) _ _ _ _); first
        | focus ((with_reducible apply As.local); (next => one_sign))
        | focus ((with_reducible apply As.cellM); (next => assumption); (next => one_sign)))
      | focus ((with_reducible refine As.tup (Ok.hd ‹Ok _›) ?_ ?_ ?_); rotate_left; (next => eq_refl); (next => eq_refl)))
    | (with_reducible refine Eo.none ?_)
    | (with_reducible refine Eo.some ?_)
    | ((with_reducible show AsNm _ _ _ _ (_ :: _) _ _ _ _); focus ((with_reducible apply AsNm.cons); (next => one_sign)))
    | (with_reducible refine AsNm.nil ?_)
    | focus ((with_reducible refine AsIn.cons ?_ ?_); rotate_left; (next => eq_refl))
    | (with_reducible refine AsIn.nil ?_)
    | (with_reducible refine Cd.nil ?_)
    | (with_reducible refine Cd.cons ?_)
    | (with_reducible refine o_addI ?_)
    | (with_reducible refine o_subI ?_)
    | (with_reducible refine o_ltI ?_)
    | (with_reducible refine o_gtI ?_)
    | (with_reducible refine o_leI ?_)
    | (with_reducible refine o_geI ?_)
    | (with_reducible refine o_eqI ?_)
    | (with_reducible refine o_neI ?_)
    | (with_reducible refine o_eqS ?_)
    | (with_reducible refine o_neS ?_)
    | (with_reducible refine o_inS ?_)
    | (with_reducible refine o_notInS ?_)
    | ((with_reducible show Wp _ _ _ _ _ _ (Op2 (compareOp CmpOp.Is)) _ _ _); focus ((with_reducible apply o_is); (next => eq_refl)))
    | ((with_reducible show Wp _ _ _ _ _ _ (Op2 (compareOp CmpOp.IsNot)) _ _ _); focus ((with_reducible apply o_isNot); (next => eq_refl)))
    | (with_reducible refine o_iaddI ?_)
    | (with_reducible refine o_isubI ?_)
    | (with_reducible refine o_negI ?_)
    | (with_reducible refine o_ltS ?_)
    | (with_reducible refine o_gtS ?_)
    | (with_reducible refine t_bool ?_)
    | (with_reducible refine t_none ?_)
    | (with_reducible refine t_int ?_))
  | (with_reducible refine sq_next ?_)
  | (with_reducible refine sq_ret ?_)
  | (with_reducible refine lq_next ?_)
  | (with_reducible refine lq_cont ?_)
  | (with_reducible refine lq_brk ?_)
  | (with_reducible refine lq_ret ?_)
  | (with_reducible refine sq_brk ?_)
  | (with_reducible refine sq_cont ?_)
  | ((with_reducible show ∀ pl, Wp _ _ _ _ _ _ _ _ _ _); first
    | ((with_reducible show Gm _ _ _ _ (AVal.str _) _ _ _ _); first
      | (with_reducible refine g_find ?_)
      | (with_reducible refine g_rfind ?_)
      | (with_reducible refine g_split ?_)
      | (with_reducible refine g_join ?_)
      | (with_reducible refine g_startswith ?_)
      | (with_reducible refine g_endswith ?_)
      | (with_reducible refine g_lower ?_)
      | (with_reducible refine g_upper ?_)
      | (with_reducible refine g_count ?_))
    | ((with_reducible show Gm _ _ _ _ (AVal.ref _) _ _ _ _); first
      | focus ((with_reducible apply g_append); (next => o_readsAll))
      | focus ((with_reducible apply g_pop); (next => o_readsAll))
      | focus ((with_reducible apply g_insert); (next => o_readsAll))
      | focus ((with_reducible apply g_extend); (next => o_readsAll))))
  | focus ((refine ⟨?_, ?_⟩); (next => (first | ((with_reducible show isFn _ = true); exact rfl) | ((with_reducible show KeepOk _ _ _); (first | exact KeepOk.blt | exact KeepOk.typ | (exact KeepOk.fn (by rw [Ok.K ‹Ok _›]; rfl)))) | ((with_reducible show Sb _ _); (first | exact Sb.str | exact Sb.tup | exact Sb.lst (by o_readsAll))) | ((with_reducible show _ ≤ _); exact Nat.le_of_ble_eq_true rfl) | ((with_reducible show _ = _); with_reducible exact rfl))))
  | (refine ⟨_, rfl, ?_⟩)
  | (refine ⟨_, _, rfl, ?_⟩)
  | (refine ⟨_, _, _, rfl, ?_⟩)
  | (refine iteT (by first | with_reducible assumption | decide | (with_reducible_and_instances exact rfl)) ?_)
  | (refine iteF (by first | with_reducible assumption | decide) ?_)
  | (with_reducible refine opn (by with_reducible assumption) ?_)
  | (with_reducible refine opn2 (by with_reducible assumption) ?_)
  )

section
variable {D : WD} {n : Nat} {f : Fm} {k : Stk} {ns : Nms} {m : Loc} {P P' : List Ck} {Q : AVal → Loc → List Ck → Prop} {X : XQ}
theorem Wz.sub {α β : Type} {R : Heap → β → α → Prop} {as : List AVal} {t : List Value → Sem α} {Q : β → Loc → List Ck → Prop} (hp : P'.Sublist P) (h : Wz D n f k ns R as t m P' Q X) : Wz D n f k ns R as t m P Q X :=
  fun A g s vs hfr r p S hv => h A g s vs hfr r p (S.sub hp) hv

theorem law_call (O : Ok D) {A : Around} {s : Shared} {sc : Addr} {o : Obj} {xs : List Int} (hI : IntsO o xs) (hz : xs.length ≤ 1000) {x1 x2 x3 : TS} {T1 T2 : List (Nat × List Nat)} {R : List (List Bool)} {pd : Nat} {n0 n1 n2 : Nat}
    (e0 : numF xs 0 293 = n0) (e1 : numF xs 1 59952 = n1) (e2 : numF xs 2 37221 = n2) (W : FineW (itsOf n0) (dsOf n2) x1 x2 x3 T1 T2 R pd)
    (hfr : A.frames = some []) (r : Room D (n + 20) A) (p : PF D (hideAll s.heap (feet [stk [], tab 251 #[], fix sc o]))) (hh : ∀ c ∈ ([stk [], tab 251 #[], fix sc o] : List Ck), c.holds s.heap) (nd : (feet [stk [], tab 251 #[], fix sc o]).Nodup) (hge : s.gens = #[]) (hos : s.os = D.os) (hdr : s.drawn = D.dr) :
    wpAny (model D.prog D.w) A (call (.ref 299) [.ref sc]) (fun y s' => ∃ (c : AVal) (P' : List Ck), V s'.heap c y ∧ (∀ b o', (hideAll s.heap (feet [stk [], tab 251 #[], fix sc o])).get? b = some o' → s'.heap.get? b = some o') ∧ (∀ c : Ck, c ∈ P' → c.holds s'.heap) ∧ s'.gens = #[] ∧ s'.os = s.os ∧
      (c = .bool true ∧ fix sc o ∈ P' ∧ ∃ ps, tab 251 ps ∈ P')) NoE s := by
  apply top_fn (n := n + 19) (a := 299) (x := "script") (b := .ref sc) (Q := fun c P' => c = .bool true ∧ fix sc o ∈ P' ∧ ∃ ps, tab 251 ps ∈ P') (P0 := [stk [], tab 251 #[], fix sc o]) (hfr := hfr) (r := r) (p := p) (hh := hh) (nd := nd) (hge := hge) (hos := hos) (hdr := hdr)
  case F => wrow_raised
  case hbind => rfl
  case hv => simp only [V]
  case hx => decide +kernel
  case hi => o_shape
  dsimp only
  intro f' hM hO
  have hlF : (slc xs none (some 60) none).length ≤ 1000 := Nat.le_trans (slc_length_le ..) hz
  generalize hits : itsOf n0 = its at W
  generalize hds : dsOf n2 = ds at W
  have hil : its.length ≤ 5 := by rw [← hits]; exact itsOf_len n0
  obtain ⟨pg, hpg⟩ : ∃ pg, pg = pageP (its.map itm) 0 n1 := ⟨_, rfl⟩
  have hi3 : ∀ x ∈ its.map itm, x ≠ [] ∧ x.all okI = true ∧ x.length ≤ 3 := fun x hx => by
    obtain ⟨o, _, rfl⟩ := List.mem_map.mp hx
    exact itm_ok o
  have hpl : pg.length ≤ 100 := by
    rw [hpg]
    refine Nat.le_trans (page_len n1 _ 0 fun x hx => (hi3 x hx).2.2) ?_
    rw [List.length_map]; omega
  have hLex : Lexes (its.map itm) pg 1 (1 + pg.count 10) := by
    rw [hpg]
    exact page_lexes n1 _ 0 1 fun x hx => ⟨(hi3 x hx).1, (hi3 x hx).2.1⟩
  obtain ⟨t1, s1, z1, t2, s2, z2, hT1, hT2, hs1, hs2, ht12, hLex2⟩ := two_toks hLex
  have hdl : ds.length ≤ 12 := by rw [← hds, dsOf, List.length_map, List.length_range]; omega
  -- numbers
  refine ExsZ.cons ?_
  refine Wz.of ?_
  none_booked
  close_w
  repeat none_booked
  intro bl
  repeat none_booked
  refine c_enum (xs := [.int 293, .int 59952, .int 37221]) (.head _) fun e it => ?_
  refine ⟨_, _, _, _, _, iter_enum (xs := [.int 293, .int 59952, .int 37221]) O.hd (.refl _) (.head _), by wrow_close, fun nu L => ?_⟩
  generalize compFm f' _ L = f2
  refine ⟨fun j m' P' => ∃ (G : List Ck) (v1 v2 : Option AVal), P' = G ++ (lst nu (([n0, n1, n2].take j).map fun (k : Nat) => .int k) :: [lst bl [.int 293, .int 59952, .int 37221], stk [], tab 251 #[], fix sc o]) ∧ m' = [none, v1, v2, none, some (.ref sc)], ⟨[], none, none, rfl, rfl⟩, ?_, ?_, ?_⟩
  · rintro j m' P' ⟨G, v1, v2, rfl, rfl⟩ c hc
    simp only [List.mem_singleton] at hc; subst hc; simp
  · rintro j w' m' P' hj ⟨G, v1, v2, rfl, rfl⟩
    obtain ⟨x, hx, rfl⟩ := enum_at hj
    obtain ⟨b, kk, rfl, hk, hnum, hj3⟩ : ∃ (b : Int) (kk : Nat), x = .int b ∧ [n0, n1, n2][j]? = some kk ∧ numF xs j b = kk ∧ j < 3 := by
      match j, hx with
      | 0, hx => cases hx; exact ⟨_, _, rfl, rfl, e0, by decide⟩
      | 1, hx => cases hx; exact ⟨_, _, rfl, rfl, e1, by decide⟩
      | 2, hx => cases hx; exact ⟨_, _, rfl, rfl, e2, by decide⟩
      | j + 3, hx => simp at hx
    repeat none_booked
    refine ins_append ?_
    iterate 7 none_booked
    refine Ev.slice ?_
    refine Ev.sliceF ?_
    repeat none_booked
    refine ⟨_, _, _, sc, o, xs, rfl, .none, .int, .none, by simp, by simp, hI, by omega, fun b1 => ?_⟩
    repeat none_booked
    refine ⟨_, _, _, .int, .none, .int, by decide, .lst (xs := (slc xs none (some 60) none).map .int) (.head _) (by rw [List.length_map]; omega) fun b2 => ?_⟩
    rw [slc_map]
    repeat none_booked
    refine c_sumL O.hd (.head _) ?_
    repeat none_booked
    refine o_pow106 ?_
    refine o_mod106 ?_
    have hfin : ((b + (slc (slc xs none (some 60) none) (some ((j : Nat) : Int)) none (some 3)).sum) % ((1000000 : Nat) : Int)).toNat = kk := hnum
    rw [hfin]
    refine ⟨_, _, Sw.tail (Sw.tail (Sw.app .head G)), by simp; omega, ?_⟩
    refine ⟨lst b2 ((slc (slc xs none (some 60) none) (some ((j : Nat) : Int)) none (some 3)).map .int) :: lst b1 ((slc xs none (some 60) none).map .int) :: G, some (.int (j : Nat)), some (.int b), ?_, rfl⟩
    rw [take_at hk, List.map_append]; rfl
  rintro m' P' ⟨G, v1, v2, rfl, rfl⟩
  repeat none_booked
  refine Wz.sub (P' := [lst nu [.int (n0 : Nat), .int (n1 : Nat), .int (n2 : Nat)], stk [], tab 251 #[], fix sc o]) (List.sublist_append_of_sublist_right (.cons_cons _ (.cons _ (.refl _)))) ?_
  -- items
  refine ExsZ.cons ?_
  refine Wz.of ?_
  close_w
  repeat none_booked
  refine o_itemL (xs := [.int (n0 : Nat), .int (n1 : Nat), .int (n2 : Nat)]) (j := 0) (x := .int (n0 : Nat)) (.head _) rfl rfl (by decide) (by decide) ?_
  repeat none_booked
  refine o_fdivN (a := n0) (b := 243) (by decide) (by decide) ?_
  repeat none_booked
  refine o_modN (a := n0 / 243) (b := 6) (by decide) ?_
  have hm6 : n0 / 243 % 6 < 6 := Nat.mod_lt _ (by decide)
  repeat none_booked
  rw [show (5 : Int) - ((n0 / 243 % 6 : Nat) : Int) = ((5 - n0 / 243 % 6 : Nat) : Int) by omega]
  refine c_range (by omega) fun ra => ?_
  refine ⟨_, _, _, _, _, iter_range O.hd (.head _) (by omega), by wrow_close, fun it L => ?_⟩
  generalize compFm f' _ L = f2
  have hitm : its = (List.range (5 - n0 / 243 % 6)).map fun i => dig (n0 / 3 ^ i % 3) := hits.symm
  refine ⟨fun j m' P' => ∃ (G : List Ck) (v1 : Option AVal), P' = G ++ (lst it (((its.map itm).take j).map .str) :: rng ra (5 - n0 / 243 % 6) :: [lst nu [.int (n0 : Nat), .int (n1 : Nat), .int (n2 : Nat)], stk [], tab 251 #[], fix sc o]) ∧ m' = [none, v1, some (.ref nu)], ⟨[], none, rfl, rfl⟩, ?_, ?_, ?_⟩
  · rintro j m' P' _ c hc; cases hc
  · rintro j w' m' P' hj ⟨G, v1, rfl, rfl⟩
    obtain ⟨jx, hjx, rfl⟩ := map_at hj
    have hj5 := lt_at hj
    rw [List.length_map, List.length_range] at hj5
    obtain rfl : jx = j := by rw [List.getElem?_range hj5] at hjx; exact (Option.some.inj hjx).symm
    repeat none_booked
    refine ins_append ?_
    repeat none_booked
    refine ⟨Sb.lst (xs := [.int (n0 : Nat), .int (n1 : Nat), .int (n2 : Nat)]) (by simp), ?_⟩
    refine o_itemL (xs := [.int (n0 : Nat), .int (n1 : Nat), .int (n2 : Nat)]) (j := 0) (x := .int (n0 : Nat)) (by simp) rfl rfl (by decide) (by decide) ?_
    repeat none_booked
    refine o_powN (a := 3) (k := jx) (by decide) (by decide) (by omega) ?_
    refine o_fdivN (a := n0) (b := 3 ^ jx) (Nat.pow_pos (by decide)) (Nat.lt_of_le_of_lt (Nat.pow_le_pow_right (by decide) (by omega : jx ≤ 5)) (by decide)) ?_
    repeat none_booked
    refine o_modN (a := n0 / 3 ^ jx) (b := 3) (by decide) ?_
    have hm3 : n0 / 3 ^ jx % 3 < 3 := Nat.mod_lt _ (by decide)
    refine ⟨Sb.tup, ?_⟩
    refine o_itemT (xs := [.str [97], .str [98], .str [46, 46, 46]]) (j := n0 / 3 ^ jx % 3) (x := .str (itm (dig (n0 / 3 ^ jx % 3)))) (seqI hm3) (itm_at hm3) (by omega) (by omega) ?_
    refine ⟨_, _, Sw.app .head G, by simp; omega, ?_⟩
    refine ⟨G, _, ?_, rfl⟩
    have hk : (its.map itm).take (jx + 1) = (its.map itm).take jx ++ [itm (dig (n0 / 3 ^ jx % 3))] := take_at (by rw [hitm, List.getElem?_map, List.getElem?_map, List.getElem?_range hj5]; rfl)
    rw [hk, List.map_append]; rfl
  rintro m' P' ⟨G, v1, rfl, rfl⟩
  have hlen : (List.map (fun j => AVal.int (j : Nat)) (List.range (5 - n0 / 243 % 6))).length = (its.map itm).length := by rw [hitm]; simp
  rw [hlen, List.take_length]
  repeat none_booked
  refine Wz.sub (P' := [lst it ((its.map itm).map .str), lst nu [.int (n0 : Nat), .int (n1 : Nat), .int (n2 : Nat)], stk [], tab 251 #[], fix sc o]) (List.sublist_append_of_sublist_right (.cons_cons _ (.cons _ (.refl _)))) ?_
  -- drawn
  refine ExsZ.cons ?_
  refine Wz.of ?_
  repeat none_booked
  close_w
  repeat none_booked
  refine o_itemL (xs := [.int (n0 : Nat), .int (n1 : Nat), .int (n2 : Nat)]) (j := 2) (x := .int (n2 : Nat)) (by simp) rfl rfl (by decide) (by decide) ?_
  repeat none_booked
  refine o_fdivN (a := n2) (b := 4096) (by decide) (by decide) ?_
  repeat none_booked
  refine o_modN (a := n2 / 4096) (b := 13) (by decide) ?_
  have hm13 : n2 / 4096 % 13 < 13 := Nat.mod_lt _ (by decide)
  repeat none_booked
  refine c_range (k := n2 / 4096 % 13) (by omega) fun ra => ?_
  refine ⟨_, _, _, _, _, iter_range O.hd (.head _) (by omega), by wrow_close, fun dl L => ?_⟩
  generalize compFm f' _ L = f2
  have hdsm : ds = (List.range (n2 / 4096 % 13)).map fun i => n2 / 2 ^ i % 2 == 1 := hds.symm
  have hdl2 : ds.length = n2 / 4096 % 13 := by rw [hdsm]; simp
  refine ⟨fun j m' P' => ∃ (G : List Ck) (v1 : Option AVal), P' = G ++ (lst dl (((ds.map ltr).take j).map .str) :: rng ra (n2 / 4096 % 13) :: [lst it ((its.map itm).map .str), lst nu [.int (n0 : Nat), .int (n1 : Nat), .int (n2 : Nat)], stk [], tab 251 #[], fix sc o]) ∧ m' = [none, v1, some (.ref nu)], ⟨[], none, rfl, rfl⟩, ?_, ?_, ?_⟩
  · rintro j m' P' _ c hc; cases hc
  · rintro j w' m' P' hj ⟨G, v1, rfl, rfl⟩
    obtain ⟨jx, hjx, rfl⟩ := map_at hj
    have hj5 := lt_at hj
    rw [List.length_map, List.length_range] at hj5
    obtain rfl : jx = j := by rw [List.getElem?_range hj5] at hjx; exact (Option.some.inj hjx).symm
    repeat none_booked
    refine ins_append ?_
    repeat none_booked
    refine ⟨Sb.lst (xs := [.int (n0 : Nat), .int (n1 : Nat), .int (n2 : Nat)]) (by simp), ?_⟩
    refine o_itemL (xs := [.int (n0 : Nat), .int (n1 : Nat), .int (n2 : Nat)]) (j := 2) (x := .int (n2 : Nat)) (by simp) rfl rfl (by decide) (by decide) ?_
    repeat none_booked
    refine o_powN (a := 2) (k := jx) (by decide) (by decide) (by omega) ?_
    refine o_fdivN (a := n2) (b := 2 ^ jx) (Nat.pow_pos (by decide)) (Nat.lt_of_le_of_lt (Nat.pow_le_pow_right (by decide) (by omega : jx ≤ 13)) (by decide)) ?_
    repeat none_booked
    refine o_modN (a := n2 / 2 ^ jx) (b := 2) (by decide) ?_
    have hm2 : n2 / 2 ^ jx % 2 < 2 := Nat.mod_lt _ (by decide)
    refine ⟨Sb.str, ?_⟩
    refine o_itemS (c := if (n2 / 2 ^ jx % 2 == 1) = true then 98 else 97) (by rw [show ([97, 98] : List Nat).length = 2 from rfl, seqI hm2]; exact bit_at hm2) (by simp; omega) ?_
    refine ⟨_, _, Sw.app .head G, by simp; omega, ?_⟩
    refine ⟨G, _, ?_, rfl⟩
    have hk : (ds.map ltr).take (jx + 1) = (ds.map ltr).take jx ++ [[if (n2 / 2 ^ jx % 2 == 1) = true then 98 else 97]] := take_at (by rw [hdsm, List.getElem?_map, List.getElem?_map, List.getElem?_range hj5]; exact congrArg some (ltr_if _))
    rw [hk, List.map_append]; rfl
  rintro m' P' ⟨G, v1, rfl, rfl⟩
  have hlen : (List.map (fun j => AVal.int (j : Nat)) (List.range (n2 / 4096 % 13))).length = (ds.map ltr).length := by rw [List.length_map, List.length_range, List.length_map, hdl2]
  rw [hlen, List.take_length]
  have hltl := ltr_sum ds
  repeat none_booked
  refine c_join (x := []) (ls := ds.map ltr) (by simp) (by rw [hltl]; simp; omega) ?_
  rw [show jn [] (ds.map ltr) = txt ds from jn_ltr ds]
  repeat none_booked
  refine Wz.sub (P' := [lst it ((its.map itm).map .str), lst nu [.int (n0 : Nat), .int (n1 : Nat), .int (n2 : Nat)], stk [], tab 251 #[], fix sc o]) (List.sublist_append_of_sublist_right (.cons _ (.cons _ (.refl _)))) ?_
  -- page
  refine ExsZ.cons ?_
  refine Wz.of ?_
  repeat none_booked
  refine o_itemL (xs := [.int (n0 : Nat), .int (n1 : Nat), .int (n2 : Nat)]) (j := 1) (x := .int (n1 : Nat)) (by simp) rfl rfl (by decide) (by decide) ?_
  repeat none_booked
  refine f_page O (items := its.map itm) (by simp) (by rw [List.length_map]; omega) (fun x hx => by have := (hi3 x hx).2.2; omega) ?_
  rw [← hpg]
  repeat none_booked
  refine Wz.sub (P' := [lst it ((its.map itm).map .str), lst nu [.int (n0 : Nat), .int (n1 : Nat), .int (n2 : Nat)], stk [], tab 251 #[], fix sc o]) (.refl _) ?_
  -- lexer
  refine ExsZ.cons ?_
  refine Wz.of ?_
  repeat none_booked
  refine Wp.perm (P' := tab 251 #[] :: lst it ((its.map itm).map .str) :: lst nu [.int (n0 : Nat), .int (n1 : Nat), .int (n2 : Nat)] :: [stk [], fix sc o]) (by kd_subs) ?_
  refine f_lexer O (page := pg) (by omega) fun X tp L => ?_
  repeat none_booked
  refine Wz.sub (P' := [lexC X [] pg 1, tab 251 tp, lst it ((its.map itm).map .str), stk [], fix sc o]) (.cons_cons _ (.cons_cons _ (.cons_cons _ (.cons _ (.refl _))))) ?_
  -- the first two
  refine ExsZ.cons ?_
  refine Wz.of ?_
  focus ((refine Ex.for_ ?_ ?_); rotate_left; (next => (intro _; rfl)))
  repeat none_booked
  refine Gm.iH (x := X.x) (C := 240) (d := X.d) (fs := [("lineno", .int ((1 : Nat) : Int)), ("instream", .ref X.F), ("whitespace", .str ws4), ("pushback", .ref X.pb)]) (Has.pak (l := lexP X [] pg 1) (by o_readsAll) lexI_mem) (meth230 O) rfl ?_
  repeat none_booked
  refine f_gettok O L (pend := []) (signs := pg) (ln := 1) (by omega) (by simp) .head (show getT [] pg 1 = (t1, [], s1, z1) by rw [getT, hT1]) ?_
  repeat none_booked
  refine Gm.iH (x := X.x) (C := 240) (d := X.d) (fs := [("lineno", .int ((z1 : Nat) : Int)), ("instream", .ref X.F), ("whitespace", .str ws4), ("pushback", .ref X.pb)]) (Has.pak (l := lexP X [] s1 z1) (by o_readsAll) lexI_mem) (meth230 O) rfl ?_
  repeat none_booked
  refine f_gettok O L (pend := []) (signs := s1) (ln := z1) (by omega) (by simp) .head (show getT [] s1 z1 = (t2, [], s2, z2) by rw [getT, hT2]) ?_
  repeat none_booked
  intro bl
  repeat none_booked
  refine c_lenL (xs := (its.map itm).map .str) (by simp) (by simp; omega) ?_
  repeat none_booked
  refine ⟨_, _, _, .none, .int, .none, by decide, .lst (xs := [.str t1, .str t2]) (by simp) (by simp) fun b2 => ?_⟩
  rw [slc_to]
  have htw : [AVal.str t1, .str t2].take ((its.map itm).map AVal.str).length = ((its.map itm).take 2).map .str := by rw [List.length_map, ← ht12, List.map_take]; rfl
  rw [htw]
  refine ⟨_, _, _, fun j m' P' => ∃ (y6 : Option AVal), P' = lst b2 (((its.map itm).take 2).map .str) :: lst bl [.str t1, .str t2] :: lexC X (((its.map itm).take 2).take j) s2 z2 :: tab 251 tp :: lst it ((its.map itm).map .str) :: [stk [], fix sc o] ∧ m' = [some (.ref sc), some (.ref nu), some (.ref it), some (.str (txt ds)), some (.str pg), some (.ref X.x), y6, none, none, none, none, none, none, none, none, none, none, none, none, none, none, none, none, none, none, none, none], iter_list (xs := ((its.map itm).take 2).map .str) O.hd (.head _), ⟨none, rfl, rfl⟩, ?_, ?_, ?_⟩
  · rintro j m' P' ⟨y6, rfl, _⟩ c hc
    simp only [List.mem_singleton] at hc; subst hc; simp
  · rintro j w' m' P' hj ⟨y6, rfl, rfl⟩
    obtain ⟨x, hx, rfl⟩ := map_at hj
    repeat none_booked
    refine Gm.iH (x := X.x) (C := 240) (d := X.d) (fs := [("lineno", .int ((z2 : Nat) : Int)), ("instream", .ref X.F), ("whitespace", .str ws4), ("pushback", .ref X.pb)]) (Has.pak (l := lexP X (((its.map itm).take 2).take j) s2 z2) (by o_readsAll) lexI_mem) (meth237 O) rfl ?_
    repeat none_booked
    refine f_push O (t := x) (pend := ((its.map itm).take 2).take j) (signs := s2) (ln := z2) (by simp; omega) (.tail (.tail .head)) ?_
    repeat none_booked
    exact ⟨_, by rw [take_at hx], rfl⟩
  rintro m' P' ⟨y6, rfl, rfl⟩
  rw [List.length_map, List.take_length]
  repeat none_booked
  refine Wz.sub (P' := [lexC X (its.map itm |>.take 2) s2 z2, tab 251 tp, lst it ((its.map itm).map .str), stk [], fix sc o]) (.cons _ (.cons _ (.refl _))) ?_
  -- read
  refine ExsZ.cons ?_
  refine Wz.of ?_
  repeat none_booked
  refine Ev.boundH ?_ rfl
  repeat none_booked
  refine ⟨X.x, 240, X.d, [("lineno", .int ((z2 : Nat) : Int)), ("instream", .ref X.F), ("whitespace", .str ws4), ("pushback", .ref X.pb)], 230, rfl, Has.pak (l := lexP X ((its.map itm).take 2) s2 z2) (by o_readsAll) lexI_mem, bnd_gettok O, rfl, fun bm => ?_⟩
  repeat none_booked
  refine c_iter2 (.head _) fun itr => ?_
  repeat none_booked
  refine c_listC (it := itr) (J := fun kk acc P => ∃ (pend rest : List (List Nat)) (sg : List Nat) (z : Nat), P = cit itr bm [] :: mtd bm 230 X.x :: lexC X pend sg z :: tab 251 tp :: lst it ((its.map itm).map .str) :: [stk [], fix sc o] ∧ (pend ++ rest).length < kk ∧ acc ++ (pend ++ rest).map .str = (its.map itm).map .str ∧ (∀ x ∈ pend, x ≠ []) ∧ Lexes rest sg z (1 + pg.count 10) ∧ sg.length ≤ 1000)
    (Qe := fun acc P => acc = (its.map itm).map .str ∧ P = cie itr :: mtd bm 230 X.x :: lexC X [] [] (1 + pg.count 10) :: tab 251 tp :: lst it ((its.map itm).map .str) :: [stk [], fix sc o]) (k0 := its.length + 1) ?_ ⟨(its.map itm).take 2, (its.map itm).drop 2, s2, z2, rfl, by rw [List.take_append_drop, List.length_map]; omega, by rw [List.take_append_drop, List.nil_append], fun x hx => (hi3 x (List.mem_of_mem_take hx)).1, hLex2, by omega⟩ fun acc P2 rd hq => ?_
  · constructor
    · rintro kk acc P ⟨pend, rest, sg, z, rfl, _⟩
      exact .live (.head _)
    · rintro kk acc P ⟨pend, rest, sg, z, rfl, hk, hacc, hne, hlx, hsl⟩ S
      have hal : acc.length ≤ 5 := by
        have := congrArg List.length hacc
        simp only [List.length_append, List.length_map] at this
        omega
      cases pend with
      | cons t r =>
        refine nx_gettok O L (it := itr) (b := bm) (pend := t :: r) (signs := sg) (by omega) (by have := congrArg List.length hacc; simp only [List.length_append, List.length_map, List.length_cons] at this ⊢; omega) (by simp) (by simp) (.tail (.tail (.tail .head))) (show getT (t :: r) sg z = (t, r, sg, z) from rfl) (by simp) (by simp) ?_
        refine iteF (by have := hne t (.head _); cases t with | nil => exact absurd rfl this | cons a b => simp) ⟨rfl, by omega, kk - 1, _, by simp at hk; omega, rfl, r, rest, sg, z, rfl, by simp at hk ⊢; omega, by rw [← hacc]; simp, fun x hx => hne x (.tail _ hx), hlx, hsl⟩
      | nil =>
        cases rest with
        | nil =>
          have hl : lexT sg z = ([], [], 1 + pg.count 10) := hlx
          refine nx_gettok O L (it := itr) (b := bm) (pend := []) (signs := sg) (by omega) (by simp) (by simp) (by simp) (.tail (.tail (.tail .head))) (show getT [] sg z = ([], [], [], 1 + pg.count 10) by rw [getT, hl]) (by simp) (by simp) ?_
          exact iteT rfl ⟨_, .tail .head, rfl, _, rfl, by simpa using hacc, rfl⟩
        | cons v r =>
          obtain ⟨hv, sg', z', h1, h2, h3⟩ := hlx
          refine nx_gettok O L (it := itr) (b := bm) (pend := []) (signs := sg) (by omega) (by simp) (by simp) (by simp) (.tail (.tail (.tail .head))) (show getT [] sg z = (v, [], sg', z') by rw [getT, h1]) (by simp) (by simp) ?_
          refine iteF (by cases v with | nil => exact absurd rfl hv | cons a b => simp) ⟨rfl, by omega, kk - 1, _, by simp at hk; omega, rfl, [], r, sg', z', rfl, by simp at hk ⊢; omega, by rw [← hacc]; simp, by simp, h3, by omega⟩
  obtain ⟨rfl, rfl⟩ := hq
  repeat none_booked
  refine Wz.sub (P' := [lst rd ((its.map itm).map .str), lexC X [] [] (1 + pg.count 10), tab 251 tp, lst it ((its.map itm).map .str), stk [], fix sc o]) (.cons_cons _ (.cons _ (.cons _ (.refl _)))) ?_
  -- read as written
  refine ExsZ.cons ?_
  refine Wz.of ?_
  repeat none_booked
  refine o_neL (xs := (its.map itm).map .str) (ys := (its.map itm).map .str) (by simp) (by simp) (fun _ => ok_strs _ _) ?_
  rw [beqL_strs]
  repeat none_booked
  refine Ev.attrH ?_ rfl
  repeat none_booked
  refine attr240 O (fs := [("lineno", .int ((1 + pg.count 10 : Nat) : Int)), ("instream", .ref X.F), ("whitespace", .str ws4), ("pushback", .ref X.pb)]) (d := X.d) (b := .int ((1 + pg.count 10 : Nat) : Int)) (Has.pak (l := lexP X [] [] (1 + pg.count 10)) (by o_readsAll) lexI_mem) (by rw [O.K]; rfl) rfl hd_int ?_
  repeat none_booked
  refine c_count (c := 10) ?_
  repeat none_booked
  refine iteF (by simp; omega) ?_
  repeat none_booked
  refine Wz.sub (P' := [lst rd ((its.map itm).map .str), lexC X [] [] (1 + pg.count 10), tab 251 tp, stk [], fix sc o]) (.cons_cons _ (.cons_cons _ (.cons_cons _ (.cons _ (.refl _))))) ?_
  -- machine
  refine ExsZ.cons ?_
  refine Wz.of ?_
  repeat none_booked
  have hmm : (its.map itm).map AVal.str = its.map fun i => .str (itm i) := List.map_map
  refine f_machine O (items := its) (by rw [← hmm]; simp) (by omega) fun w e => ?_
  repeat none_booked
  refine Wz.perm (P' := [lexC X [] [] (1 + pg.count 10), tab 251 tp, lst e [.str (dec (mach its 0).2)], lst w ((mach its 0).1.map wayA), lst rd ((its.map itm).map .str), stk [], fix sc o]) (by kd_subs) ?_
  -- once
  refine ExsZ.cons ?_
  refine Wz.of ?_
  repeat none_booked
  refine o_itemT (xs := [.ref w, .ref e]) (j := 0) (x := .ref w) rfl rfl (by decide) (by decide) ?_
  repeat none_booked
  refine o_itemT (xs := [.ref w, .ref e]) (j := 1) (x := .ref e) rfl rfl (by decide) (by decide) ?_
  repeat none_booked
  refine f_turned O L (w := w) (e := e) (W := (mach its 0).1) (E := [(mach its 0).2]) (by simp) (by simp) W.w0 W.e0 W.l0 W.t1 fun st1 en1 h1 d1 l1 => ?_
  repeat none_booked
  refine Wz.sub (P' := lst st1 (x1.ST.map wayA) :: lst en1 (((endsT x1.SH).map dec).map .str) :: hdrs h1 d1 l1 :: prs l1 (shH x1.SH) :: lexC X [] [] (1 + pg.count 10) :: tab 251 tp :: lst rd ((its.map itm).map .str) :: [stk [], fix sc o]) (.cons_cons _ (.cons_cons _ (.cons_cons _ (.cons_cons _ (.cons_cons _ (.cons_cons _ (.cons _ (.cons _ (.refl _))))))))) ?_
  refine Wz.perm (P' := [lexC X [] [] (1 + pg.count 10), tab 251 tp, lst st1 (x1.ST.map wayA), lst en1 (((endsT x1.SH).map dec).map .str), hdrs h1 d1 l1, prs l1 (shH x1.SH), lst rd ((its.map itm).map .str), stk [], fix sc o]) (by kd_subs) ?_
  -- twice
  refine ExsZ.cons ?_
  refine Wz.of ?_
  repeat none_booked
  refine o_itemT (xs := [.ref st1, .ref en1, .ref h1]) (j := 0) (x := .ref st1) rfl rfl (by decide) (by decide) ?_
  repeat none_booked
  refine o_itemT (xs := [.ref st1, .ref en1, .ref h1]) (j := 1) (x := .ref en1) rfl rfl (by decide) (by decide) ?_
  repeat none_booked
  refine f_turned O L (w := st1) (e := en1) (W := x1.ST) (E := (endsT x1.SH)) (by simp) (by simp) W.w1 W.e1 W.l1 W.t2 fun st2 en2 h2 d2 l2 => ?_
  repeat none_booked
  refine Wz.perm (P' := [lexC X [] [] (1 + pg.count 10), tab 251 tp, lst st2 (x2.ST.map wayA), lst en2 (((endsT x2.SH).map dec).map .str), hdrs h2 d2 l2, prs l2 (shH x2.SH), lst st1 (x1.ST.map wayA), lst en1 (((endsT x1.SH).map dec).map .str), hdrs h1 d1 l1, prs l1 (shH x1.SH), lst rd ((its.map itm).map .str), stk [], fix sc o]) (by kd_subs) ?_
  -- thrice
  refine ExsZ.cons ?_
  refine Wz.of ?_
  repeat none_booked
  refine o_itemT (xs := [.ref st2, .ref en2, .ref h2]) (j := 0) (x := .ref st2) rfl rfl (by decide) (by decide) ?_
  repeat none_booked
  refine o_itemT (xs := [.ref st2, .ref en2, .ref h2]) (j := 1) (x := .ref en2) rfl rfl (by decide) (by decide) ?_
  repeat none_booked
  refine f_turned O L (w := st2) (e := en2) (W := x2.ST) (E := (endsT x2.SH)) (by simp) (by simp) W.w2 W.e2 W.l2 W.t3 fun st3 en3 h3 d3 l3 => ?_
  repeat none_booked
  refine Wz.perm (P' := [lexC X [] [] (1 + pg.count 10), tab 251 tp, lst st3 (x3.ST.map wayA), lst en3 (((endsT x3.SH).map dec).map .str), hdrs h3 d3 l3, prs l3 (shH x3.SH), lst st2 (x2.ST.map wayA), lst en2 (((endsT x2.SH).map dec).map .str), hdrs h2 d2 l2, prs l2 (shH x2.SH), lst st1 (x1.ST.map wayA), lst en1 (((endsT x1.SH).map dec).map .str), hdrs h1 d1 l1, prs l1 (shH x1.SH), lst rd ((its.map itm).map .str), stk [], fix sc o]) (by kd_subs) ?_
  -- walked
  refine ExsZ.cons ?_
  refine Wz.of ?_
  repeat none_booked
  refine c_join (x := []) (ls := its.map itm) (by simp) (by have := itm_sum its; simp at this ⊢; omega) ?_
  rw [patI_jn]
  repeat none_booked
  refine o_itemT (xs := [.ref st2, .ref en2, .ref h2]) (j := 0) (x := .ref st2) rfl rfl (by decide) (by decide) ?_
  repeat none_booked
  refine o_itemT (xs := [.ref st2, .ref en2, .ref h2]) (j := 1) (x := .ref en2) rfl rfl (by decide) (by decide) ?_
  repeat none_booked
  refine f_walked O (W := x2.ST) (E := endsT x2.SH) (ds := ds) (pd := pd) (by have := patI_len its; omega) (by simp) (by simp) (by have := W.l2; omega) (by omega) W.w2 W.nd W.wk W.rd W.el ?_
  repeat none_booked
  -- rows
  refine ExsZ.cons ?_
  refine Wz.of ?_
  repeat none_booked
  refine c_join (x := []) (ls := its.map itm) (by simp) (by have := itm_sum its; simp at this ⊢; omega) ?_
  rw [patI_jn]
  repeat none_booked
  refine f_rows O (st1 := st1) (en1 := en1) (h1 := h1) (d1 := d1) (l1 := l1) (st2 := st2) (en2 := en2) (h2 := h2) (d2 := d2) (l2 := l2) (x1 := x1) (x2 := x2) (T1 := T1) (T2 := T2) (R := R) (by have := patI_len its; omega) (by simp) (by simp) (by simp) (by simp) (by simp) (by simp) (by have := W.l1; omega) (by have := W.l2; omega) (by have := W.s1; omega) (by have := W.s2; omega) W.h2 W.tx1 W.tx2 W.rw fun rw => ?_
  repeat none_booked
  refine Wz.sub (P' := [lst rw ((R.map bitS).map .str), lexC X [] [] (1 + pg.count 10), tab 251 tp, lst st3 (x3.ST.map wayA), lst en3 (((endsT x3.SH).map dec).map .str), hdrs h3 d3 l3, prs l3 (shH x3.SH), lst st2 (x2.ST.map wayA), lst en2 (((endsT x2.SH).map dec).map .str), hdrs h2 d2 l2, prs l2 (shH x2.SH), lst st1 (x1.ST.map wayA), lst en1 (((endsT x1.SH).map dec).map .str), hdrs h1 d1 l1, prs l1 (shH x1.SH), stk [], fix sc o]) (.cons_cons _ (.cons_cons _ (.cons_cons _ (.cons_cons _ (.cons_cons _ (.cons_cons _ (.cons_cons _ (.cons_cons _ (.cons_cons _ (.cons_cons _ (.cons_cons _ (.cons_cons _ (.cons_cons _ (.cons_cons _ (.cons_cons _ (.cons _ (.refl _))))))))))))))))) ?_
  -- columns
  refine ExsZ.cons ?_
  refine Wz.of ?_
  close_w
  repeat none_booked
  refine o_itemT (xs := [.ref st1, .ref en1, .ref h1]) (j := 2) (x := .ref h1) rfl rfl (by decide) (by decide) ?_
  repeat none_booked
  refine f_lenS O (h := h1) (d := d1) (l := l1) (ps := shH x1.SH) (by simp) (by simp) (by rw [shH_len]; have := W.s1; omega) ?_
  rw [shH_len]
  repeat none_booked
  have hs1l := W.s1
  refine c_range (k := x1.SH.length) (by omega) fun ra => ?_
  refine ⟨_, _, _, _, _, iter_range O.hd (.head _) (by omega), by wrow_close, fun co L2 => ?_⟩
  obtain ⟨hpl1, hpl2⟩ := comp_mine (f := f') (scope := { kind := ScopeKind.function, names := [(Str.ofString ".0", NameKind.local), (Str.ofString "place", NameKind.cell), (Str.ofString "rows", NameKind.free)], isGenerator := false, isCoroutine := false }) (L := L2) (x := Str.ofString "place") (by simp)
  generalize compFm f' _ L2 = f2 at hpl1 hpl2 ⊢
  refine ⟨fun j m' P' => ∃ (G : List Ck) (v1 : Option AVal), P' = G ++ (lst co ((((List.range x1.SH.length).map (colT R)).take j).map .str) :: rng ra x1.SH.length :: [lst rw ((R.map bitS).map .str), lexC X [] [] (1 + pg.count 10), tab 251 tp, lst st3 (x3.ST.map wayA), lst en3 (((endsT x3.SH).map dec).map .str), hdrs h3 d3 l3, prs l3 (shH x3.SH), lst st2 (x2.ST.map wayA), lst en2 (((endsT x2.SH).map dec).map .str), hdrs h2 d2 l2, prs l2 (shH x2.SH), lst st1 (x1.ST.map wayA), lst en1 (((endsT x1.SH).map dec).map .str), hdrs h1 d1 l1, prs l1 (shH x1.SH), stk [], fix sc o]) ∧ m' = [none, v1, some (.ref rw)], ⟨[], none, rfl, rfl⟩, ?_, ?_, ?_⟩
  · rintro j m' P' _ c hc; cases hc
  · rintro j w' m' P' hj ⟨G, v1, rfl, rfl⟩
    obtain ⟨jx, hjx, rfl⟩ := map_at hj
    have hj5 := lt_at hj
    rw [List.length_map, List.length_range] at hj5
    obtain rfl : jx = j := by rw [List.getElem?_range hj5] at hjx; exact (Option.some.inj hjx).symm
    refine As.cell (by one_sign) hpl2 hpl1 ?_
    repeat none_booked
    refine ins_append ?_
    repeat none_booked
    close_w
    repeat none_booked
    refine ⟨_, _, _, _, _, iter_list (xs := (R.map bitS).map .str) O.hd (by simp), by wrow_close, fun cl L3 => ?_⟩
    generalize compFm f2 _ L3 = f3
    refine ⟨fun i m' P' => ∃ (G2 : List Ck) (v1 : Option AVal), P' = G2 ++ (lst cl ((((colT R jx).map fun c => [c]).take i).map .str) :: G ++ (lst co ((((List.range x1.SH.length).map (colT R)).take jx).map .str) :: rng ra x1.SH.length :: [lst rw ((R.map bitS).map .str), lexC X [] [] (1 + pg.count 10), tab 251 tp, lst st3 (x3.ST.map wayA), lst en3 (((endsT x3.SH).map dec).map .str), hdrs h3 d3 l3, prs l3 (shH x3.SH), lst st2 (x2.ST.map wayA), lst en2 (((endsT x2.SH).map dec).map .str), hdrs h2 d2 l2, prs l2 (shH x2.SH), lst st1 (x1.ST.map wayA), lst en1 (((endsT x1.SH).map dec).map .str), hdrs h1 d1 l1, prs l1 (shH x1.SH), stk [], fix sc o])) ∧ m' = [none, v1, some (.int (jx : Nat))], ⟨[], none, rfl, rfl⟩, ?_, ?_, ?_⟩
    · rintro i m' P' ⟨G2, v1, rfl, _⟩ c hc
      simp only [List.mem_singleton] at hc; subst hc; simp
    · rintro i w' m' P' hi ⟨G2, v1, rfl, rfl⟩
      obtain ⟨u, hu, rfl⟩ := map_at hi
      obtain ⟨r, hr, rfl⟩ : ∃ r, R[i]? = some r ∧ u = bitS r := by
        rw [List.getElem?_map] at hu
        cases hr : R[i]? with
        | none => rw [hr] at hu; cases hu
        | some r => rw [hr] at hu; exact ⟨r, rfl, (Option.some.inj hu).symm⟩
      have hrl := W.rl r (List.mem_of_getElem? hr)
      repeat none_booked
      refine ins_append ?_
      repeat none_booked
      refine o_itemS (c := if r.getD jx false then 49 else 48) (by rw [show (bitS r).length = x1.SH.length by rw [bitS, List.length_map, hrl], seqI hj5]; exact bitS_at (by omega)) (by simp; omega) ?_
      refine ⟨_, _, Sw.app .head G2, by simp [colT]; have := W.rz; omega, ?_⟩
      refine ⟨G2, _, ?_, rfl⟩
      rw [colT_take hr]; rfl
    rintro m' P' ⟨G2, v1, rfl, rfl⟩
    rw [List.length_map, List.length_map, show R.length = ((colT R jx).map fun c => [c]).length by simp [colT], List.take_length]
    repeat none_booked
    refine c_join (x := []) (ls := (colT R jx).map fun c => [c]) (by simp) (by have := W.rz; have h2 := one_sum (colT R jx); rw [h2]; simp [colT]; omega) ?_
    rw [jn_one]
    repeat none_booked
    refine ⟨_, _, Sw.app (.tail (Sw.app .head G)) G2, by simp; omega, ?_⟩
    refine ⟨G2 ++ (lst cl (((colT R jx).map fun c => [c]).map .str) :: G), _, ?_, rfl⟩
    rw [take_range_snoc _ hj5, List.map_append]; simp
  rintro m' P' ⟨G, v1, rfl, rfl⟩
  have hlen : (List.map (fun j => AVal.int (j : Nat)) (List.range x1.SH.length)).length = ((List.range x1.SH.length).map (colT R)).length := by simp
  rw [hlen, List.take_length]
  repeat none_booked
  refine Wz.sub (P' := [lst co (((List.range x1.SH.length).map (colT R)).map .str), lst rw ((R.map bitS).map .str), lexC X [] [] (1 + pg.count 10), tab 251 tp, lst st3 (x3.ST.map wayA), lst en3 (((endsT x3.SH).map dec).map .str), hdrs h3 d3 l3, prs l3 (shH x3.SH), lst st2 (x2.ST.map wayA), lst en2 (((endsT x2.SH).map dec).map .str), hdrs h2 d2 l2, prs l2 (shH x2.SH), lst st1 (x1.ST.map wayA), lst en1 (((endsT x1.SH).map dec).map .str), hdrs h1 d1 l1, prs l1 (shH x1.SH), stk [], fix sc o]) (List.sublist_append_of_sublist_right (.cons_cons _ (.cons _ (.refl _)))) ?_
  -- the answer
  refine ExsZ.cons ?_
  refine ExZ.ret ?_
  have hs3l := W.s3
  have hrz := W.rz
  refine EvZ.and ?_
  repeat none_booked
  intro bl
  refine o_neL (xs := (R.map bitS).map .str) (ys := []) (by simp) (by simp) (fun h => by simp at h; exact absurd h W.rn) ?_
  rw [beqL_nil (by simpa using W.rn)]
  repeat none_booked
  refine EvZ.and ?_
  repeat none_booked
  refine c_setL O.hd (xs := R.map bitS) (by simp) (by rw [List.length_map]; omega) fun S1 => ?_
  repeat none_booked
  refine c_lenSet (j := (dd (R.map bitS)).length) (.head _) (by rw [W.rs]; omega) ?_
  rw [W.rs]
  repeat none_booked
  refine c_lenL (xs := (R.map bitS).map .str) (by simp) (by simp; omega) ?_
  repeat none_booked
  refine iteT (by simp) ?_
  refine EvZ.and ?_
  repeat none_booked
  refine c_setL O.hd (xs := (List.range x1.SH.length).map (colT R)) (by simp) (by rw [List.length_map, List.length_range]; have := W.s1; omega) fun S2 => ?_
  repeat none_booked
  refine c_lenSet (j := (dd ((List.range x1.SH.length).map (colT R))).length) (.head _) (by rw [W.cs]; omega) ?_
  rw [W.cs]
  repeat none_booked
  refine o_itemT (xs := [.ref st3, .ref en3, .ref h3]) (j := 2) (x := .ref h3) rfl rfl (by decide) (by decide) ?_
  repeat none_booked
  refine f_lenS O (h := h3) (d := d3) (l := l3) (ps := shH x3.SH) (by simp) (by simp) (by rw [shH_len]; omega) ?_
  rw [shH_len]
  repeat none_booked
  refine iteT (by simp) ?_
  refine EvZ.one ?_
  refine EvZ.call ?_ (by rfl) (by rfl) (by rfl)
  repeat none_booked
  refine ArZ.cons ?_ (by rfl)
  refine Wz.of ?_
  repeat none_booked
  refine o_itemT (xs := [.ref st3, .ref en3, .ref h3]) (j := 2) (x := .ref h3) rfl rfl (by decide) (by decide) ?_
  refine ArZ.nil ?_
  repeat none_booked
  refine Wz.sub (P' := [lst co (((List.range x1.SH.length).map (colT R)).map .str), lst rw ((R.map bitS).map .str), lexC X [] [] (1 + pg.count 10), tab 251 tp, lst st3 (x3.ST.map wayA), lst en3 (((endsT x3.SH).map dec).map .str), hdrs h3 d3 l3, prs l3 (shH x3.SH), lst st2 (x2.ST.map wayA), lst en2 (((endsT x2.SH).map dec).map .str), hdrs h2 d2 l2, prs l2 (shH x2.SH), lst st1 (x1.ST.map wayA), lst en1 (((endsT x1.SH).map dec).map .str), hdrs h1 d1 l1, prs l1 (shH x1.SH), stk [], fix sc o]) (.cons _ (.cons _ (.cons _ (.refl _)))) ?_
  refine Wz.perm (P' := stk [] :: prs l3 (shH x3.SH) :: hdrs h3 d3 l3 :: [lst co (((List.range x1.SH.length).map (colT R)).map .str), lst rw ((R.map bitS).map .str), lexC X [] [] (1 + pg.count 10), tab 251 tp, lst st3 (x3.ST.map wayA), lst en3 (((endsT x3.SH).map dec).map .str), lst st2 (x2.ST.map wayA), lst en2 (((endsT x2.SH).map dec).map .str), hdrs h2 d2 l2, prs l2 (shH x2.SH), lst st1 (x1.ST.map wayA), lst en1 (((endsT x1.SH).map dec).map .str), hdrs h1 d1 l1, prs l1 (shH x1.SH), fix sc o]) (by kd_subs) ?_
  refine f_laid O hO (h := h3) (d := d3) (l := l3) (ps := shH x3.SH) (okH_shelf W.h3) (by rw [shH_len]; omega) getH_one getH_one fun R' hR' => ?_
  exact ⟨rfl, hR' _ (by simp), tp, hR' _ (by simp)⟩
end

end Mine
-- HX
namespace Mine
open PySem PySem.W PySem.Calls PyProof.Rows PySem.SeqAt
def noList (K : Frag) : Bool := K.all fun p => match p.2.cls with
  | .type n => !(n == "list")
  | _ => true
theorem noList_ {K : Frag} (h : noList K = true) {a : Addr} {o : Obj} (e : K.lookup a = some o) : o.cls ≠ .type "list" := by
  intro q
  have hm : (a, o) ∈ K := by
    clear h
    induction K with
    | nil => cases e
    | cons p r ih =>
      obtain ⟨b, o2⟩ := p
      rw [List.lookup_cons] at e
      cases hb : a == b with
      | true => rw [hb] at e; cases e; rw [beq_iff_eq.mp hb]; exact .head _
      | false => rw [hb] at e; exact .tail _ (ih e)
  have := List.all_eq_true.mp h (a, o) hm
  rw [q] at this
  exact Bool.noConfusion this
theorem ints_ok {vs : List Value} {xs : List Int} (h : IntsAre vs xs) (g : Heap) : Vs g (xs.map .int) vs := by
  induction h with
  | nil => exact .nil
  | cons n t _ ih => exact .cons ⟨t, rfl⟩ ih
theorem ints_len {vs : List Value} {xs : List Int} (h : IntsAre vs xs) : vs.length = xs.length := by
  induction h with
  | nil => rfl
  | cons n t _ ih => simp [ih]
theorem stk_nil {h : Heap} : (stk []).holds h := by
  intro p hp
  cases hp
theorem bridge (hp : ∀ n0 n2 : Nat, ∃ x1 x2 x3 T1 T2 R pd, FineW (itsOf n0) (dsOf n2) x1 x2 x3 T1 T2 R pd) : PySem.Challenge.rw_ux0034_01.Holds := by
  refine hd ?_
  intro w s₀ s₁ mg mb G Y fa o pm cd doc dV kV ho hd' hcd hD hmg hg args vals as hpre hlay hrd hwl hlo
  have KX := km_in_of Y
  have TX := km_tabs_of Y 251 (.head _)
  have TG := G.T.g
  have TB := G.T.b
  have TN := G.T.nolimit
  have TND := G.T.nodigits
  have TBI := G.T.builtins
  have TBM := G.T.bmain
  have hfa : fa = 299 := by
    have h1 := mg_of (n := Str.ofString "law") (v := .ref 299) KX TG (by kernel_rfl)
    exact Value.ref.inj (Option.some.inj (hmg.symm.trans h1))
  subst hfa
  have hcode : CodeHd s₁.heap 255 251 := codeHd_of_K KX (by kernel_rfl)
  have hno : noList (hd.heap_39 w.params) = true := by kernel_rfl
  have h251 : (hd.heap_39 w.params).lookup 251 = none := by kernel_rfl
  clear ho hd' hcd hD G Y hmg
  wrow_args hpre hlay hrd hwl hlo
  rename_i xs _ _ _ _ _ _ _ a vs _ hL _ _ _ hI _ hc _
  obtain ⟨oL, hoL, hcL, kL, hdL⟩ := hL
  have hz : xs.length ≤ 1000 := by omega
  have hne : ∀ b o', (hd.heap_39 w.params).lookup b = some o' → b ∉ [251, a] := fun b o' e q => by
    rcases List.mem_cons.mp q with rfl | q
    · rw [h251] at e; cases e
    · rcases List.mem_cons.mp q with rfl | q
      · have := KX _ _ e
        rw [hoL] at this; cases this
        exact noList_ hno e hcL
      · cases q
  have hnd : ∀ b o', s₁.heap.get? b = some o' → (∃ n, o'.cls = .type n ∧ n ≠ "list") ∨ (∃ es ep, o'.data = .dict es ep) → b ∉ [251, a] := fun b o' e h q => by
    rcases List.mem_cons.mp q with rfl | q
    · rw [TX] at e; cases e
      rcases h with ⟨n, h, _⟩ | ⟨es, ep, h⟩ <;> cases h
    · rcases List.mem_cons.mp q with rfl | q
      · rw [hoL] at e; cases e
        rcases h with ⟨n, h, h2⟩ | ⟨es, ep, h⟩
        · rw [hcL] at h; cases h; exact h2 rfl
        · rw [hdL] at h; cases h
      · cases q
  have hkeep : ∀ b o', s₁.heap.get? b = some o' → b ∉ [251, a] → (hideAll s₁.heap [251, a]).get? b = some o' := fun b o' e n => hideAll_get _ e n
  have hns : ∀ {N M}, s₁.heap.Ns N M → (hideAll s₁.heap [251, a]).Ns N M := fun {N M} ⟨o', es, ep, e, d, r⟩ => ⟨o', es, ep, hkeep _ _ e (hnd _ _ e (.inr ⟨es, ep, d⟩)), d, r⟩
  have pf : PF ⟨PySem.Challenge.rw_ux0034_01.row.prog, w, hd.heap_39 w.params, mb, s₁.os, s₁.drawn, none⟩ (hideAll s₁.heap [251, a]) :=
    ⟨fun b o' e => hkeep _ _ (KX _ _ e) (hne _ _ e), hns TB, TBI, let ⟨mc, h1, h2⟩ := TN; ⟨mc, hns h1, h2⟩, let ⟨mc, h1, h2⟩ := TND; ⟨mc, hns h1, h2⟩,
      let ⟨bm, ob, h1, h2, h3, h4, h5, h6⟩ := TBM; ⟨mg, bm, ob, hns TG, h1, hkeep _ _ h3 (hnd _ _ h3 (.inl ⟨_, h4, by decide⟩)), h4, h5, h6⟩⟩
  obtain ⟨n0, hn0⟩ : ∃ k, numF xs 0 293 = k := ⟨_, rfl⟩
  obtain ⟨n1, hn1⟩ : ∃ k, numF xs 1 59952 = k := ⟨_, rfl⟩
  obtain ⟨n2, hn2⟩ : ∃ k, numF xs 2 37221 = k := ⟨_, rfl⟩
  obtain ⟨x1, x2, x3, T1, T2, R, pd, W⟩ := hp n0 n2
  have hne2 : (251 : Addr) ≠ a := fun q => by subst q; rw [TX] at hoL; cases hoL; cases hcL
  have main := law_call (D := ⟨PySem.Challenge.rw_ux0034_01.row.prog, w, hd.heap_39 w.params, mb, s₁.os, s₁.drawn, none⟩) (n := 0) (A := callerA) (s := s₁) (sc := a) (o := oL) (xs := xs) ⟨rfl, rfl⟩
    ⟨hcL, vs, kL, hdL, ints_ok hI⟩ hz hn0 hn1 hn2 W rfl ⟨by decide, by decide, rfl⟩ pf
    (fun c hc => by
      rcases List.mem_cons.mp hc with rfl | hc
      · exact stk_nil
      rcases List.mem_cons.mp hc with rfl | hc
      · exact TX
      rcases List.mem_cons.mp hc with rfl | hc
      · exact ⟨hoL, NT.ty hcL⟩
      cases hc) (by simpa [feet, stk, tab, fix] using hne2) hg rfl rfl
  refine wpAny_mono main ?_ (fun _ _ e => e.elim)
  rintro v s' ⟨c, P', hv, hk, hh, hg', hos', rfl, hfix, ps, htab⟩
  have hv' : v = .bool true := hv
  subst hv'
  have h1 := hh _ htab
  have h2 := (hh _ hfix).1
  have old : ∀ b o', s₁.heap.get? b = some o' → b = 251 ∨ s'.heap.get? b = some o' := fun b o' e => by
    by_cases q : b ∈ [251, a]
    · rcases List.mem_cons.mp q with rfl | q
      · exact .inl rfl
      rcases List.mem_cons.mp q with rfl | q
      · rw [hoL] at e; cases e; exact .inr h2
      cases q
    · exact .inr (hk b o' (hkeep _ _ e q))
  refine ⟨.inl ⟨_, .bool true, [], rfl, fun _ => rfl, .bool true, ?_, fun _ => ⟨.nil, fun _ h => by cases h⟩⟩, ⟨fun b o' e => ?_, fun b o' e => ?_⟩, hos', .of_eq hg'⟩
  · show _ = true
    first | kernel_rfl | w_fin
  · rcases old b o' e with rfl | h
    · rw [TX] at e; cases e
      exact .inr (.inl ⟨(hcode.tab TX).isCodeTable, rfl, #[], ps, rfl, by rw [h1]; simp [tabObj]⟩)
    · exact .inl h
  · rcases old b o' e with rfl | h
    · exact ⟨_, h1⟩
    · exact ⟨_, h⟩
end Mine

-- PZ
namespace Mine
def bln (t : List Nat) : List Bool := t.map fun c => c == 98
def isT (t : List Nat) : Bool := t.all fun c => c == 97 || c == 98
theorem txt_bln : ∀ {t : List Nat}, isT t = true → txt (bln t) = t
  | [], _ => rfl
  | c :: r, h => by
    unfold isT at h
    rw [List.all_cons, Bool.and_eq_true] at h
    have ih := txt_bln (t := r) h.2
    unfold txt bln at ih ⊢
    rw [List.map_cons, List.map_cons, ih]
    rcases (Bool.or_eq_true _ _).mp h.1 with h1 | h1
    · rw [beq_iff_eq] at h1; subst h1; rfl
    · rw [h1]; rw [beq_iff_eq] at h1; subst h1; rfl
theorem txt_app (a b : List Bool) : txt (a ++ b) = txt a ++ txt b := by simp [txt]
theorem txt_rev (a : List Bool) : txt a.reverse = (txt a).reverse := by simp [txt]
/-- the same row by the pattern's own taking -/
def rowG (its : List (Option Bool)) (h : List Bool) (T : List (Nat × List Nat)) (st : List Nat) : List Nat → Option (List Bool)
  | [] => some []
  | p :: r => match T.lookup p with
    | none => none
    | some t => match Nat.ble t.length 500 && isT t && (glob its (h ++ (bln t).reverse) == st.contains p) with
      | false => none
      | true => match rowG its h T st r with | none => none | some l => some (st.contains p :: l)
theorem rowG_ok {its : List (Option Bool)} {h : List Bool} {T : List (Nat × List Nat)} {st : List Nat} (hh : h.length ≤ 500) : ∀ (ps : List Nat) {l : List Bool}, rowG its h T st ps = some l → rowP (patI its) (txt h) T st ps = some l ∧ l.length = ps.length
  | [], l, e => ⟨e, by cases e; rfl⟩
  | p :: r, l, e => by
    simp only [rowG] at e
    simp only [rowP]
    cases hT : T.lookup p with
    | none => rw [hT] at e; cases e
    | some t =>
      rw [hT] at e
      dsimp only at e ⊢
      split at e
      · cases e
      · rename_i hc
        simp only [Bool.and_eq_true, beq_iff_eq] at hc
        obtain ⟨⟨h1, h2⟩, h3⟩ := hc
        have h1 := Nat.le_of_ble_eq_true h1
        cases hr : rowG its h T st r with
        | none => rw [hr] at e; cases e
        | some l2 =>
          rw [hr] at e
          cases e
          have he : ell (patI its) (txt h ++ t.reverse) = st.contains p := by
            rw [← h3, ← ell_glob, txt_app, txt_rev, txt_bln h2]
          have hl : (txt h).length = h.length := by simp [txt]
          obtain ⟨i1, i2⟩ := rowG_ok hh r hr
          rw [if_pos ⟨by rw [hl]; omega, he⟩, i1]
          exact ⟨rfl, by rw [List.length_cons, i2, List.length_cons]⟩
def rowsG (its : List (Option Bool)) (H T : List (Nat × List Nat)) (n1 : Nat) : List (List Nat × Nat) → Option (List (List Bool))
  | [] => some []
  | (st, k) :: r => match H.lookup k with
    | none => none
    | some h => match Nat.ble h.length 500 && isT h with
      | false => none
      | true => match rowG its (bln h) T st (List.range n1) with
        | none => none
        | some l => match rowsG its H T n1 r with
          | none => none
          | some ls => some (l :: ls)
theorem rowsG_ok {its : List (Option Bool)} {H T : List (Nat × List Nat)} {n1 : Nat} : ∀ (ss : List (List Nat × Nat)) {R : List (List Bool)}, rowsG its H T n1 ss = some R → rowsP (patI its) H T n1 ss = some R ∧ ∀ r ∈ R, r.length = n1
  | [], R, e => by cases e; exact ⟨rfl, fun _ h => by cases h⟩
  | (st, k) :: r, R, e => by
    simp only [rowsG] at e
    simp only [rowsP]
    cases hH : H.lookup k with
    | none => rw [hH] at e; cases e
    | some h =>
      rw [hH] at e
      dsimp only at e ⊢
      split at e
      · cases e
      · rename_i hc
        simp only [Bool.and_eq_true] at hc
        have h1 := Nat.le_of_ble_eq_true hc.1
        cases hg : rowG its (bln h) T st (List.range n1) with
        | none => rw [hg] at e; cases e
        | some l =>
          rw [hg] at e
          dsimp only at e
          cases hr : rowsG its H T n1 r with
          | none => rw [hr] at e; cases e
          | some ls =>
            rw [hr] at e
            cases e
            obtain ⟨i1, i2⟩ := rowG_ok (by simpa [bln] using h1) _ hg
            rw [txt_bln hc.2] at i1
            obtain ⟨j1, j2⟩ := rowsG_ok r hr
            rw [i1]
            dsimp only
            rw [j1]
            refine ⟨rfl, fun x hx => ?_⟩
            rcases List.mem_cons.mp hx with rfl | hx
            · rw [i2, List.length_range]
            · exact j2 x hx
def okPb (p : Bool × List Nat) : Bool := Nat.ble p.2.length 50 && p.2.all fun k => Nat.blt k 100
theorem okPb_ {p : Bool × List Nat} (h : okPb p = true) : okP p := by
  unfold okPb at h
  rw [Bool.and_eq_true] at h
  exact ⟨Nat.le_of_ble_eq_true h.1, fun k hk => by have := List.all_eq_true.mp h.2 k hk; exact Nat.le_of_ble_eq_true this⟩
def closeL (its : List (Option Bool)) (W : List Way) : Nat → List (Nat × List Bool) → List (Nat × List Bool) → List (Nat × List Bool)
  | 0, _, L => L
  | _, [], L => L
  | n + 1, x :: r, L => match L.any fun y => Nat.beq y.1 x.1 && y.2 == x.2 with
    | true => closeL its W n r L
    | false => match nextP W false x.1 with
      | none => L
      | some p => match nextP W true x.1 with
        | none => L
        | some q => closeL its W n ((p, stepA its x.2 false false false) :: (q, stepA its x.2 false false true) :: r) (x :: L)
def Lof (its : List (Option Bool)) (W : List Way) : List (Nat × List Bool) := closeL its W 200 [(0, initA its true)] []
def nodB : List (Bool × Nat) → Bool
  | [] => true
  | a :: r => !(r.any fun b => a.1 == b.1 && a.2 == b.2) && nodB r
theorem nodB_ : ∀ {l : List (Bool × Nat)}, nodB l = true → l.Nodup
  | [], _ => .nil
  | a :: r, h => by
    unfold nodB at h
    rw [Bool.and_eq_true] at h
    refine List.nodup_cons.mpr ⟨fun q => ?_, nodB_ h.2⟩
    have h1 := h.1
    rw [Bool.not_eq_true', List.any_eq_false] at h1
    exact h1 a q (by simp)
def chk (its : List (Option Bool)) : Bool :=
  match turnT (mach its 0).1 [(mach its 0).2] with
  | none => false
  | some x1 => match turnT x1.ST (endsT x1.SH) with
    | none => false
    | some x2 => match turnT x2.ST (endsT x2.SH) with
      | none => false
      | some x3 => match txts x1.ST [(0, [])] with
        | none => false
        | some T1 => match txts x2.ST [(0, [])] with
          | none => false
          | some T2 => match rowsG its T2 T1 x1.SH.length (x2.SH.map (·.2)).zipIdx with
            | none => false
            | some R =>
              okW (mach its 0).1 && Nat.ble (mach its 0).1.length 18 && okPb (false, [(mach its 0).2]) &&
              okW x1.ST && Nat.ble x1.ST.length 18 && okPb (false, endsT x1.SH) && Nat.ble x1.SH.length 100 &&
              okW x2.ST && Nat.ble x2.ST.length 18 && okPb (false, endsT x2.SH) && Nat.ble x2.SH.length 100 && x2.SH.all okPb &&
              Nat.ble x3.SH.length 70 && x3.SH.all okPb && nodB (x2.ST.map keyW) &&
              likeB its x2.ST (endsT x2.SH) (Lof its x2.ST) &&
              !R.isEmpty && Nat.ble R.length 100 && Nat.beq (dd (R.map bitS)).length R.length && Nat.beq (dd ((List.range x1.SH.length).map (colT R))).length x3.SH.length
theorem chk_ok {its : List (Option Bool)} (h : chk its = true) (ds : List Bool) : ∃ x1 x2 x3 T1 T2 R pd, FineW its ds x1 x2 x3 T1 T2 R pd := by
  unfold chk at h
  split at h
  · cases h
  rename_i x1 t1
  split at h
  · cases h
  rename_i x2 t2
  split at h
  · cases h
  rename_i x3 t3
  split at h
  · cases h
  rename_i T1 tx1
  split at h
  · cases h
  rename_i T2 tx2
  split at h
  · cases h
  rename_i R hR
  simp only [Bool.and_eq_true] at h
  obtain ⟨⟨⟨⟨⟨⟨⟨⟨⟨⟨⟨⟨⟨⟨⟨⟨⟨⟨⟨w0, l0⟩, e0⟩, w1⟩, l1⟩, e1⟩, s1⟩, w2⟩, l2⟩, e2⟩, s2⟩, h2⟩, s3⟩, h3⟩, nd⟩, lk⟩, rn⟩, rz⟩, rs⟩, cs⟩ := h
  have k := like_of lk
  obtain ⟨pd, al, g1, g2, g3⟩ := k.ell ds
  obtain ⟨r1, r2⟩ := rowsG_ok _ hR
  exact ⟨x1, x2, x3, T1, T2, R, pd, {
    w0 := w0, l0 := Nat.le_of_ble_eq_true l0, e0 := okPb_ e0, t1 := t1
    w1 := w1, l1 := Nat.le_of_ble_eq_true l1, e1 := okPb_ e1, s1 := Nat.le_of_ble_eq_true s1, t2 := t2
    w2 := w2, l2 := Nat.le_of_ble_eq_true l2, e2 := okPb_ e2, s2 := Nat.le_of_ble_eq_true s2, h2 := fun p hp => okPb_ (List.all_eq_true.mp h2 p hp), t3 := t3
    s3 := Nat.le_of_ble_eq_true s3, h3 := fun p hp => okPb_ (List.all_eq_true.mp h3 p hp), nd := nodB_ nd
    wk := k.walk 4 _ (by simp [runD]), rd := g1, el := g3, tx1 := tx1, tx2 := tx2, rw := r1
    rn := by rintro rfl; simp at rn
    rl := r2, rz := Nat.le_of_ble_eq_true rz, rs := Nat.eq_of_beq_eq_true rs, cs := Nat.eq_of_beq_eq_true cs }⟩
end Mine

-- PK
namespace Mine
def itsC (m c : Nat) : List (Option Bool) := (List.range m).map fun i => dig (c / 3 ^ i % 3)
theorem ck_0_0 : ((List.range 1).all fun c => chk (itsC 0 (0 + c))) = true := by decide +kernel
theorem ck_1_0 : ((List.range 3).all fun c => chk (itsC 1 (0 + c))) = true := by decide +kernel
theorem ck_2_0 : ((List.range 9).all fun c => chk (itsC 2 (0 + c))) = true := by decide +kernel
theorem ck_3_0 : ((List.range 27).all fun c => chk (itsC 3 (0 + c))) = true := by decide +kernel
theorem ck_4_0 : ((List.range 27).all fun c => chk (itsC 4 (0 + c))) = true := by decide +kernel
theorem ck_4_27 : ((List.range 27).all fun c => chk (itsC 4 (27 + c))) = true := by decide +kernel
theorem ck_4_54 : ((List.range 27).all fun c => chk (itsC 4 (54 + c))) = true := by decide +kernel
theorem ck_5_0 : ((List.range 27).all fun c => chk (itsC 5 (0 + c))) = true := by decide +kernel
theorem ck_5_27 : ((List.range 27).all fun c => chk (itsC 5 (27 + c))) = true := by decide +kernel
theorem ck_5_54 : ((List.range 27).all fun c => chk (itsC 5 (54 + c))) = true := by decide +kernel
theorem ck_5_81 : ((List.range 27).all fun c => chk (itsC 5 (81 + c))) = true := by decide +kernel
theorem ck_5_108 : ((List.range 27).all fun c => chk (itsC 5 (108 + c))) = true := by decide +kernel
theorem ck_5_135 : ((List.range 27).all fun c => chk (itsC 5 (135 + c))) = true := by decide +kernel
theorem ck_5_162 : ((List.range 27).all fun c => chk (itsC 5 (162 + c))) = true := by decide +kernel
theorem ck_5_189 : ((List.range 27).all fun c => chk (itsC 5 (189 + c))) = true := by decide +kernel
theorem ck_5_216 : ((List.range 27).all fun c => chk (itsC 5 (216 + c))) = true := by decide +kernel
theorem all_at {f : Nat → Bool} {a n : Nat} (h : ((List.range n).all fun c => f (a + c)) = true) {c : Nat} (h1 : a ≤ c) (h2 : c < a + n) : f c = true := by
  have := List.all_eq_true.mp h (c - a) (List.mem_range.mpr (by omega))
  rwa [show a + (c - a) = c by omega] at this
theorem ck_0 {c : Nat} (h : c < 1) : chk (itsC 0 c) = true := by
  exact all_at (f := fun c => chk (itsC 0 c)) ck_0_0 (by omega) (by omega)
theorem ck_1 {c : Nat} (h : c < 3) : chk (itsC 1 c) = true := by
  exact all_at (f := fun c => chk (itsC 1 c)) ck_1_0 (by omega) (by omega)
theorem ck_2 {c : Nat} (h : c < 9) : chk (itsC 2 c) = true := by
  exact all_at (f := fun c => chk (itsC 2 c)) ck_2_0 (by omega) (by omega)
theorem ck_3 {c : Nat} (h : c < 27) : chk (itsC 3 c) = true := by
  exact all_at (f := fun c => chk (itsC 3 c)) ck_3_0 (by omega) (by omega)
theorem ck_4 {c : Nat} (h : c < 81) : chk (itsC 4 c) = true := by
  by_cases h0 : c < 27
  · exact all_at (f := fun c => chk (itsC 4 c)) ck_4_0 (by omega) (by omega)
  by_cases h27 : c < 54
  · exact all_at (f := fun c => chk (itsC 4 c)) ck_4_27 (by omega) (by omega)
  exact all_at (f := fun c => chk (itsC 4 c)) ck_4_54 (by omega) (by omega)
theorem ck_5 {c : Nat} (h : c < 243) : chk (itsC 5 c) = true := by
  by_cases h0 : c < 27
  · exact all_at (f := fun c => chk (itsC 5 c)) ck_5_0 (by omega) (by omega)
  by_cases h27 : c < 54
  · exact all_at (f := fun c => chk (itsC 5 c)) ck_5_27 (by omega) (by omega)
  by_cases h54 : c < 81
  · exact all_at (f := fun c => chk (itsC 5 c)) ck_5_54 (by omega) (by omega)
  by_cases h81 : c < 108
  · exact all_at (f := fun c => chk (itsC 5 c)) ck_5_81 (by omega) (by omega)
  by_cases h108 : c < 135
  · exact all_at (f := fun c => chk (itsC 5 c)) ck_5_108 (by omega) (by omega)
  by_cases h135 : c < 162
  · exact all_at (f := fun c => chk (itsC 5 c)) ck_5_135 (by omega) (by omega)
  by_cases h162 : c < 189
  · exact all_at (f := fun c => chk (itsC 5 c)) ck_5_162 (by omega) (by omega)
  by_cases h189 : c < 216
  · exact all_at (f := fun c => chk (itsC 5 c)) ck_5_189 (by omega) (by omega)
  exact all_at (f := fun c => chk (itsC 5 c)) ck_5_216 (by omega) (by omega)
theorem ck_all {m c : Nat} (hm : m ≤ 5) (h : c < 3 ^ m) : chk (itsC m c) = true := by
  match m, hm with
  | 0, _ => exact ck_0 h
  | 1, _ => exact ck_1 h
  | 2, _ => exact ck_2 h
  | 3, _ => exact ck_3 h
  | 4, _ => exact ck_4 h
  | 5, _ => exact ck_5 h
theorem its_code (k : Nat) : itsOf k = itsC (5 - k / 243 % 6) (k % 3 ^ (5 - k / 243 % 6)) := by
  unfold itsOf itsC
  refine List.map_congr_left fun i hi => ?_
  have hi := List.mem_range.mp hi
  generalize 5 - k / 243 % 6 = m at hi ⊢
  have e : k % 3 ^ m / 3 ^ i % 3 = k / 3 ^ i % 3 := by
    have h1 : 3 ^ m = 3 ^ i * 3 ^ (m - i) := by rw [← Nat.pow_add]; congr 1; omega
    rw [h1, Nat.mod_mul_right_div_self]
    have h2 : 3 ∣ 3 ^ (m - i) := by
      obtain ⟨d, hd⟩ : ∃ d, m - i = d + 1 := ⟨m - i - 1, by omega⟩
      rw [hd, Nat.pow_succ]; exact Nat.dvd_mul_left ..
    exact Nat.mod_mod_of_dvd _ h2
  rw [e]
theorem pure_all (n0 n2 : Nat) : ∃ x1 x2 x3 T1 T2 R pd, FineW (itsOf n0) (dsOf n2) x1 x2 x3 T1 T2 R pd := by
  rw [its_code]
  exact chk_ok (ck_all (by omega) (Nat.mod_lt _ (Nat.pow_pos (by decide)))) _
end Mine
theorem PySem.Challenge.cw_ux0034_01_holds : PySem.Challenge.rw_ux0034_01.Holds :=
  Mine.bridge Mine.pure_all
