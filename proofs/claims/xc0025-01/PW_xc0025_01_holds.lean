import PyProof.Rows.All
import Wide.All
import OpenK.AllK
import Wide.FinOn
import PySem.Challenge.RW_xc0025_01
set_option Elab.async false

section
open PySem
set_option linter.unusedVariables false
namespace Mine

inductive PV where
  | none
  | bool (b : Bool)
  | int (i : Int)
  | str (s : Str)
  | list (xs : List PV)
  | tup (xs : List PV)
  | dictS (kvs : List (Str × PV))
  | dictI (kvs : List (Int × PV))
  | ws (C : Addr) (n : PV)

mutual
inductive Rep (prog : Program) (w : World) (h : Heap) (X : Addr → Prop) : Value → PV → Prop
  | none : Rep prog w h X .none .none
  | bool (b : Bool) : Rep prog w h X (.bool b) (.bool b)
  | int (i : Int) (t : Tok) : Rep prog w h X (.int i t) (.int i)
  | str (x : Str) (t : Tok) : Rep prog w h X (.str x t) (.str x)
  | list {a vs xs} : h.PlainList a vs → ¬ X a → RepL prog w h X vs.toList xs → Rep prog w h X (.ref a) (.list xs)
  | tup {a vs xs} : h.IsTuple a vs → ¬ X a → RepL prog w h X vs.toList xs → Rep prog w h X (.ref a) (.tup xs)
  | dictS {a kvs xs} : (a == sysModules) = false → h.DictOf (strKind prog w) a kvs → ¬ X a → kvs.map (·.1) = xs.map (·.1) → RepL prog w h X (kvs.map (·.2)) (xs.map (·.2)) → Rep prog w h X (.ref a) (.dictS xs)
  | dictI {a kvs xs} : (a == sysModules) = false → h.DictOf (intKind prog w) a kvs → ¬ X a → kvs.map (·.1) = xs.map (·.1) → RepL prog w h X (kvs.map (·.2)) (xs.map (·.2)) → Rep prog w h X (.ref a) (.dictI xs)
  | ws {a C d o m v n} : h.get? a = some o → o.cls = .ref C → o.dict = some d → ¬ X a → ¬ X d → h.Ns1 d m → m "norm" = some v → Rep prog w h X v n → (∀ c, o.data ≠ .cls c) → d ≠ a → m "equal" = none → Rep prog w h X (.ref a) (.ws C n)
inductive RepL (prog : Program) (w : World) (h : Heap) (X : Addr → Prop) : List Value → List PV → Prop
  | nil : RepL prog w h X [] []
  | cons {v vs p ps} : Rep prog w h X v p → RepL prog w h X vs ps → RepL prog w h X (v :: vs) (p :: ps)
end

/-- what was there and is not among X stays; no place is lost -/
structure Kp (X : Addr → Prop) (h h' : Heap) : Prop where
  k : ∀ b o, ¬ X b → h.get? b = some o → h'.get? b = some o
  sz : h.objs.size ≤ h'.objs.size
theorem Kp.same {a : Addr} {h h' : Heap} (s : Heap.SameBut a h h') {X : Addr → Prop} (hx : X a) : Kp X h h' :=
  ⟨fun b o hb e => (s.2 b fun q => hb (q ▸ hx)).trans e, Nat.le_of_eq s.1.symm⟩
theorem Kp.push (X : Addr → Prop) (h : Heap) (o : Obj) : Kp X h (h.push o) := ⟨fun _ _ _ e => Heap.get?_push_of_some _ e, by rw [Heap.size_push]; exact Nat.le_succ _⟩
theorem none_of_le {h : Heap} {a : Addr} (ha : h.objs.size ≤ a) : h.get? a = none := by
  cases e : h.get? a with
  | none => rfl
  | some o => exact absurd (Heap.lt_size e) (Nat.not_lt.mpr ha)

section
variable {prog : Program} {w : World} {h h' : Heap} {X X' : Addr → Prop}

theorem list_keeps {a vs} (x : h.IsList a vs) (e : ∀ o, h.get? a = some o → h'.get? a = some o) : h'.IsList a vs := let ⟨o, ho, r⟩ := x; ⟨o, e _ ho, r⟩
theorem tup_keeps {a vs} (x : h.IsTuple a vs) (e : ∀ o, h.get? a = some o → h'.get? a = some o) : h'.IsTuple a vs := let ⟨o, ho, r⟩ := x; ⟨o, e _ ho, r⟩

mutual
theorem Rep.step (hk : Kp X h h') (hX : ∀ b, X' b → X b ∨ h.objs.size ≤ b) : ∀ {v : Value} {p : PV}, Rep prog w h X v p → Rep prog w h' X' v p
  | _, _, .none => .none
  | _, _, .bool b => .bool b
  | _, _, .int i t => .int i t
  | _, _, .str x t => .str x t
  | _, _, .list (a := a) hl hn r => .list (hl.at fun o e => hk.k _ o hn e)
      (fun q => (hX _ q).elim hn fun z => by obtain ⟨o, ho⟩ := hl; rw [none_of_le z] at ho; cases ho) (RepL.step hk hX r)
  | _, _, .tup (a := a) hl hn r => .tup (tup_keeps hl fun o e => hk.k _ o hn e)
      (fun q => (hX _ q).elim hn fun z => by obtain ⟨o, ho, _⟩ := hl; rw [none_of_le z] at ho; cases ho) (RepL.step hk hX r)
  | _, _, .dictS (a := a) hsm hl hn e r => .dictS hsm (hl.at fun o e => hk.k _ o hn e)
      (fun q => (hX _ q).elim hn fun z => by obtain ⟨o, _, _, ho, _⟩ := hl; rw [none_of_le z] at ho; cases ho) e (RepL.step hk hX r)
  | _, _, .dictI (a := a) hsm hl hn e r => .dictI hsm (hl.at fun o e => hk.k _ o hn e)
      (fun q => (hX _ q).elim hn fun z => by obtain ⟨o, _, _, ho, _⟩ := hl; rw [none_of_le z] at ho; cases ho) e (RepL.step hk hX r)
  | _, _, .ws (a := a) (d := d) ho hc hd hna hnd hn hm r e1 e2 e3 => .ws (hk.k _ _ hna ho) hc hd
      (fun q => (hX _ q).elim hna fun z => by rw [none_of_le z] at ho; cases ho)
      (fun q => (hX _ q).elim hnd fun z => by obtain ⟨o, _, _, ho, _⟩ := hn; rw [none_of_le z] at ho; cases ho)
      (hn.at fun o e => hk.k _ o hnd e) hm (Rep.step hk hX r) e1 e2 e3
theorem RepL.step (hk : Kp X h h') (hX : ∀ b, X' b → X b ∨ h.objs.size ≤ b) : ∀ {vs : List Value} {ps : List PV}, RepL prog w h X vs ps → RepL prog w h' X' vs ps
  | _, _, .nil => .nil
  | _, _, .cons r rs => .cons (Rep.step hk hX r) (RepL.step hk hX rs)
end

theorem RepL.length {vs ps} (r : RepL prog w h X vs ps) : vs.length = ps.length := by
  induction vs generalizing ps with
  | nil => cases r; rfl
  | cons v vs ih => cases r with | cons _ rs => simp [ih rs]
theorem RepL.append {vs ps us qs} (r : RepL prog w h X vs ps) (q : RepL prog w h X us qs) : RepL prog w h X (vs ++ us) (ps ++ qs) := by
  induction vs generalizing ps with
  | nil => cases r; exact q
  | cons v vs ih => cases r with | cons a rs => exact .cons a (ih rs)
theorem RepL.get {vs ps} (r : RepL prog w h X vs ps) {i : Nat} {v : Value} (hv : vs[i]? = some v) : ∃ p, ps[i]? = some p ∧ Rep prog w h X v p := by
  induction vs generalizing ps i with
  | nil => simp at hv
  | cons u vs ih =>
    cases r with
    | cons a rs =>
      cases i with
      | zero => simp at hv; subst hv; exact ⟨_, rfl, a⟩
      | succ i => simpa using ih rs (by simpa using hv)
theorem RepL.get' {vs ps} (r : RepL prog w h X vs ps) {i : Nat} {p : PV} (hp : ps[i]? = some p) : ∃ v, vs[i]? = some v ∧ Rep prog w h X v p := by
  induction vs generalizing ps i with
  | nil => cases r; simp at hp
  | cons u vs ih =>
    cases r with
    | cons a rs =>
      cases i with
      | zero => simp at hp; subst hp; exact ⟨_, rfl, a⟩
      | succ i => simpa using ih rs (by simpa using hp)
theorem RepL.drop {vs ps} (r : RepL prog w h X vs ps) (n : Nat) : RepL prog w h X (vs.drop n) (ps.drop n) := by
  induction vs generalizing ps n with
  | nil => cases r; simp; exact .nil
  | cons u vs ih =>
    cases r with
    | cons a rs =>
      cases n with
      | zero => exact .cons a rs
      | succ n => exact ih rs n
theorem RepL.take {vs ps} (r : RepL prog w h X vs ps) (n : Nat) : RepL prog w h X (vs.take n) (ps.take n) := by
  induction vs generalizing ps n with
  | nil => cases r; simp; exact .nil
  | cons u vs ih =>
    cases r with
    | cons a rs =>
      cases n with
      | zero => simp; exact .nil
      | succ n => exact .cons a (ih rs n)

theorem Kp.refl : Kp X h h := ⟨fun _ _ _ e => e, Nat.le_refl _⟩
theorem Kp.mono (k : Kp X h h') (hx : ∀ b, X b → X' b) : Kp X' h h' := ⟨fun b o hb e => k.k b o (fun q => hb (hx b q)) e, k.sz⟩
theorem Kp.any (k : Kp (fun _ => False) h h') : Kp X h h' := k.mono fun _ q => q.elim
theorem Rep.ext {v p} (r : Rep prog w h X v p) (hk : Kp (fun _ => False) h h') : Rep prog w h' X v p :=
  r.step hk.any fun _ q => .inl q
theorem RepL.ext {v p} (r : RepL prog w h X v p) (hk : Kp (fun _ => False) h h') : RepL prog w h' X v p :=
  r.step hk.any fun _ q => .inl q
theorem Rep.less {v p} (r : Rep prog w h X v p) (hX : ∀ b, X' b → X b) : Rep prog w h X' v p :=
  r.step .refl fun b q => .inl (hX b q)
theorem RepL.less {v p} (r : RepL prog w h X v p) (hX : ∀ b, X' b → X b) : RepL prog w h X' v p :=
  r.step .refl fun b q => .inl (hX b q)
end

/-- room for calls -/
structure Room (A : Around) (k : Nat) : Prop where
  hh : A.handled = none
  dp : A.depth + k ≤ 400
  un : A.units + 20 * k ≤ 9000

theorem Room.mono {A : Around} {k k' : Nat} (r : Room A k) (h : k' ≤ k) : Room A k' := ⟨r.hh, by have := r.dp; omega, by have := r.un; omega⟩
theorem Room.d {A : Around} {k : Nat} (r : Room A k) : A.depth < recursionLimit := by have := r.dp; unfold recursionLimit; omega
theorem Room.u {A : Around} {k : Nat} (r : Room A k) : A.units + 64 < cLine := by have := r.un; unfold cLine; omega
theorem Room.u0 {A : Around} {k : Nat} (r : Room A k) : A.units < cLine := by have := r.un; unfold cLine; omega
theorem Room.in1 {A : Around} {k : Nat} (r : Room A (k + 1)) : Room A.in1 k := ⟨r.hh, by have := r.dp; simp; omega, by have := r.un; simp; omega⟩
theorem Room.deeper {A : Around} {k : Nat} (r : Room A (k + 1)) (env : Env) : Room (A.deeper env) k := ⟨r.hh, by have := r.dp; simp [Around.deeper]; omega, by have := r.un; simp; omega⟩

/-- a step of the run: own addresses may change, own generators may move -/
structure Stp (oa : Addr → Prop) (og : Nat → Prop) (s s' : Shared) : Prop where
  os : s'.os = s.os
  keep : Kp oa s.heap s'.heap
  gsz : s.gens.size ≤ s'.gens.size
  gens : ∀ i, i < s.gens.size → ¬ og i → s'.gens[i]? = s.gens[i]?
  bare : ∀ y, y ∈ s'.gens → y ∈ s.gens ∨ y.bare = true

noncomputable abbrev Pas (s s' : Shared) : Prop := Stp (fun _ => False) (fun _ => False) s s'

section
variable {oa oa' ob : Addr → Prop} {og og' : Nat → Prop} {s s' s'' : Shared}
theorem Stp.refl : Stp oa og s s := ⟨rfl, .refl, Nat.le_refl _, fun _ _ _ => rfl, fun _ h => .inl h⟩
theorem Stp.trans (x : Stp oa og s s') (y : Stp ob og' s' s'') (hb : ∀ b, ob b → oa b ∨ s.heap.objs.size ≤ b) (hg : ∀ i, og' i → og i ∨ s.gens.size ≤ i) : Stp oa og s s'' where
  os := y.os.trans x.os
  keep := ⟨fun b o hb' e => y.keep.k b o (fun q => (hb b q).elim hb' fun z => by rw [none_of_le z] at e; cases e) (x.keep.k b o hb' e), Nat.le_trans x.keep.sz y.keep.sz⟩
  gsz := Nat.le_trans x.gsz y.gsz
  gens := fun i hi hn => (y.gens i (Nat.lt_of_lt_of_le hi x.gsz) fun q => (hg i q).elim hn fun z => by omega).trans (x.gens i hi hn)
  bare := fun y' hy => (y.bare y' hy).elim (fun z => x.bare y' z) .inr
theorem Stp.mono (x : Stp oa og s s') (hb : ∀ b, oa b → oa' b ∨ s.heap.objs.size ≤ b) (hg : ∀ i, og i → og' i ∨ s.gens.size ≤ i) : Stp oa' og' s s' where
  os := x.os
  keep := ⟨fun b o hb' e => x.keep.k b o (fun q => (hb b q).elim hb' fun z => by rw [none_of_le z] at e; cases e) e, x.keep.sz⟩
  gsz := x.gsz
  gens := fun i hi hn => x.gens i hi fun q => (hg i q).elim hn fun z => by omega
  bare := x.bare
theorem Stp.of_heap {h' : Heap} {tk : Nat} (hk : Kp oa s.heap h') : Stp oa og s { s with heap := h', toks := tk } :=
  ⟨rfl, hk, Nat.le_refl _, fun _ _ _ => rfl, fun _ h => .inl h⟩
theorem Stp.of_heap0 {h' : Heap} (hk : Kp oa s.heap h') : Stp oa og s { s with heap := h' } :=
  ⟨rfl, hk, Nat.le_refl _, fun _ _ _ => rfl, fun _ h => .inl h⟩
theorem Stp.tok {tk : Nat} : Stp oa og s { s with toks := tk } := ⟨rfl, .refl, Nat.le_refl _, fun _ _ _ => rfl, fun _ h => .inl h⟩
theorem Pas.trans (x : Pas s s') (y : Pas s' s'') : Pas s s'' := Stp.trans x y (fun _ h => h.elim) fun _ h => h.elim
theorem Pas.stp (x : Pas s s') : Stp oa og s s' := x.mono (fun _ h => h.elim) fun _ h => h.elim
theorem Stp.pas (x : Stp oa og s s') (y : Pas s' s'') : Stp oa og s s'' := x.trans y (fun _ h => h.elim) fun _ h => h.elim
end

/-- what a name of the frame is bound to -/
inductive Bd where
  | pv (p : PV)
  | lst (a : Addr) (xs : List PV)
  | dct (a : Addr) (xs : List (Int × PV))
  | raw (v : Value)
  | ob (x d C : Addr) (ps : List (Str × PV))

noncomputable def Bd.owns : Bd → Addr → Prop
  | .lst a _, b => b = a
  | .dct a _, b => b = a
  | .ob x d _ _, b => b = x ∨ b = d
  | _, _ => False

inductive BdRep (prog : Program) (w : World) (h : Heap) (X : Addr → Prop) : Value → Bd → Prop
  | pv {v p} : Rep prog w h X v p → BdRep prog w h X v (.pv p)
  | lst {a vs xs} : h.PlainList a vs → RepL prog w h X vs.toList xs → BdRep prog w h X (.ref a) (.lst a xs)
  | dct {a kvs xs} : (a == sysModules) = false → h.DictOf (intKind prog w) a kvs → kvs.map (·.1) = xs.map (·.1) → RepL prog w h X (kvs.map (·.2)) (xs.map (·.2)) → BdRep prog w h X (.ref a) (.dct a xs)
  | raw {v} : BdRep prog w h X v (.raw v)
  | ob {x d C o m ps} : h.get? x = some o → o.cls = .ref C → o.dict = some d → (∀ c, o.data ≠ .cls c) → d ≠ x → h.Ns1 d m → (∀ n p, (n, p) ∈ ps → ∃ v, m n = some v ∧ Rep prog w h X v p) → (∀ n, n ∉ ps.map (·.1) → m n = none) → BdRep prog w h X (.ref x) (.ob x d C ps)

noncomputable abbrev Sg := List (Str × Bd)
noncomputable def put : Sg → Str → Bd → Sg
  | [], x, b => [(x, b)]
  | (y, c) :: r, x, b => if y = x then (x, b) :: r else (y, c) :: put r x b

/-- a frame: its environment; the names whose cells are its own -/
structure FE where
  env : Env
  mine : List Str

noncomputable def own (F : FE) (σ : Sg) (b : Addr) : Prop := b = F.env.locals ∨ (∃ x ∈ F.mine, F.env.cells.lookup x = some b) ∨ ∃ p ∈ σ, p.2.owns b
noncomputable def Wx (Wo : Addr → Prop) (F : FE) (σ : Sg) (b : Addr) : Prop := Wo b ∨ own F σ b

noncomputable def place (F : FE) (h : Heap) (m : Str → Option Value) (x : Str) (v : Value) : Prop :=
  (F.env.kindOf x = some .local ∧ m x = some v) ∨ ((F.env.kindOf x = some .cell ∨ F.env.kindOf x = some .free) ∧ ∃ c, F.env.cells.lookup x = some c ∧ h.IsCell c (some v))

/-- what stands fixed: the program, the world, the heap when the law is called -/
structure Cx where
  prog : Program
  w : World
  h₀ : Heap
  mg : Str → Option Value
  mb : Str → Option Value
  g : h₀.Ns mainGlobals mg
  b : h₀.Ns builtinsNs mb
  lim : h₀.NoLimit

noncomputable abbrev Cx.M (C : Cx) : Model := model C.prog C.w
noncomputable abbrev Rp (C : Cx) := Rep C.prog C.w
noncomputable abbrev RpL (C : Cx) := RepL C.prog C.w
noncomputable abbrev BRp (C : Cx) := BdRep C.prog C.w

structure Fm (C : Cx) (Wo : Addr → Prop) (F : FE) (σ : Sg) (h : Heap) : Prop where
  kind : F.env.scope.kind = .function
  gl : F.env.globals = mainGlobals
  bi : F.env.builtins = builtinsNs
  base : ∀ b o, C.h₀.get? b = some o → h.get? b = some o
  names : ∃ m, h.Ns F.env.locals m ∧ ∀ x b, (x, b) ∈ σ → ∃ v, place F h m x v ∧ BRp C h (Wx Wo F σ) v b
  cells : ∀ x ∈ F.mine, ∃ c v, F.env.cells.lookup x = some c ∧ h.IsCell c v
  apart : ∀ x ∈ F.mine, ∀ y c, F.env.cells.lookup x = some c → F.env.cells.lookup y = some c → y = x
  cb : ∀ p ∈ F.env.cells, p.2 < h.objs.size
  keys : (σ.map (·.1)).Nodup
  new : ∀ b, own F σ b → C.h₀.get? b = none
  bnd : ∀ b, Wo b → b < h.objs.size
  one : ∀ x y a, x ∈ σ → y ∈ σ → x.2.owns a → y.2.owns a → x = y
  off : ∀ p ∈ σ, ∀ b, p.2.owns b → b ≠ F.env.locals ∧ (∀ c ∈ F.env.cells, c.2 ≠ b) ∧ ¬ Wo b

section
variable {σ : Sg} {x : Str} {b : Bd}
theorem put_keys (h : (σ.map (·.1)).Nodup) : ((put σ x b).map (·.1)).Nodup ∧ ∀ y, y ∈ (put σ x b).map (·.1) → y = x ∨ y ∈ σ.map (·.1) := by
  induction σ with
  | nil => exact ⟨by simp [put], fun y hy => by simp [put] at hy; exact .inl hy⟩
  | cons q r ih =>
    obtain ⟨y, c⟩ := q
    rw [List.map_cons, List.nodup_cons] at h
    unfold put
    by_cases e : y = x
    · subst e
      rw [if_pos rfl]
      exact ⟨by rw [List.map_cons, List.nodup_cons]; exact h, fun z hz => .inr hz⟩
    · rw [if_neg e]
      have i := ih h.2
      refine ⟨?_, fun z hz => ?_⟩
      · rw [List.map_cons, List.nodup_cons]
        exact ⟨fun q => (i.2 y q).elim e h.1, i.1⟩
      · rw [List.map_cons, List.mem_cons] at hz
        rcases hz with rfl | hz
        · exact .inr (by simp)
        · exact (i.2 z hz).imp id fun q => List.mem_cons_of_mem _ q
theorem mem_put (h : (σ.map (·.1)).Nodup) {y : Str} {c : Bd} (m : (y, c) ∈ put σ x b) : (y = x ∧ c = b) ∨ (y ≠ x ∧ (y, c) ∈ σ) := by
  induction σ with
  | nil => simp [put] at m; exact .inl m
  | cons q r ih =>
    obtain ⟨z, d⟩ := q
    rw [List.map_cons, List.nodup_cons] at h
    unfold put at m
    by_cases e : z = x
    · subst e
      rw [if_pos rfl] at m
      rcases List.mem_cons.mp m with m | m
      · cases m; exact .inl ⟨rfl, rfl⟩
      · refine .inr ⟨fun e => ?_, List.mem_cons_of_mem _ m⟩
        rw [← e] at h
        exact h.1 (List.mem_map.mpr ⟨_, m, rfl⟩)
    · rw [if_neg e] at m
      rcases List.mem_cons.mp m with m | m
      · cases m; exact .inr ⟨e, List.mem_cons_self⟩
      · exact (ih h.2 m).imp id fun q => ⟨q.1, List.mem_cons_of_mem _ q.2⟩
theorem put_self : (x, b) ∈ put σ x b := by
  induction σ with
  | nil => simp [put]
  | cons q r ih =>
    obtain ⟨z, d⟩ := q
    unfold put
    by_cases e : z = x
    · rw [if_pos e]; exact List.mem_cons_self
    · rw [if_neg e]; exact List.mem_cons_of_mem _ ih
end

section
variable {C : Cx} {Wo Wo' oa : Addr → Prop} {F : FE} {σ : Sg} {h h' : Heap}

theorem own_put (hk : (σ.map (·.1)).Nodup) {x : Str} {bd : Bd} {b : Addr} (q : own F (put σ x bd) b) : own F σ b ∨ bd.owns b := by
  rcases q with q | q | ⟨p, hp, q⟩
  · exact .inl (.inl q)
  · exact .inl (.inr (.inl q))
  · obtain ⟨y, c⟩ := p
    rcases mem_put hk hp with ⟨_, e⟩ | ⟨_, m⟩
    · subst e; exact .inr q
    · exact .inl (.inr (.inr ⟨_, m, q⟩))

theorem BdRep.step {prog : Program} {w : World} {X X' : Addr → Prop} (hk : Kp X h h') (hX : ∀ b, X' b → X b ∨ h.objs.size ≤ b) {v : Value} {bd : Bd}
    (ho : ∀ b, bd.owns b → ∀ o, h.get? b = some o → h'.get? b = some o) (r : BdRep prog w h X v bd) : BdRep prog w h' X' v bd := by
  cases r with
  | pv r => exact .pv (r.step hk hX)
  | lst hl r => exact .lst (hl.at fun o e => ho _ rfl o e) (r.step hk hX)
  | dct hsm hl e r => exact .dct hsm (hl.at fun o e => ho _ rfl o e) e (r.step hk hX)
  | raw => exact .raw
  | ob h1 h2 h3 h4 h5 h6 h7 h8 => exact .ob (ho _ (.inl rfl) _ h1) h2 h3 h4 h5 (h6.at fun o e => ho _ (.inr rfl) o e) (fun n p hp => let ⟨v, a, r⟩ := h7 n p hp; ⟨v, a, r.step hk hX⟩) h8

theorem place.step {m : Str → Option Value} {x : Str} {v : Value} (hc : ∀ p ∈ F.env.cells, ∀ o, h.get? p.2 = some o → h'.get? p.2 = some o) (p : place F h m x v) : place F h' m x v := by
  rcases p with p | ⟨k, c, hl, o, ho, hd⟩
  · exact .inl p
  · exact .inr ⟨k, c, hl, o, hc _ (mem_of_lookup hl) o ho, hd⟩

theorem Fm.wbnd (f : Fm C Wo F σ h) : ∀ b, Wx Wo F σ b → b < h.objs.size := fun b q => by
  obtain ⟨m, hn, hm⟩ := f.names
  rcases q with q | q | ⟨x, hx, hl⟩ | ⟨⟨x, bd⟩, hp, q⟩
  · exact f.bnd b q
  · exact q ▸ hn.lt
  · exact f.cb _ (mem_of_lookup hl)
  · obtain ⟨v, _, hr⟩ := hm _ _ hp
    cases hr with
    | pv _ => exact q.elim
    | raw => exact q.elim
    | ob h1 _ _ _ _ h6 _ _ =>
      rcases (show b = _ ∨ b = _ from q) with q | q
      · subst q; exact Heap.lt_size h1
      · obtain ⟨o, _, _, e, _⟩ := h6; subst q; exact Heap.lt_size e
    | lst hl _ => obtain ⟨n, e⟩ := hl; have : b = _ := q; subst this; exact Heap.lt_size e
    | dct _ hl _ _ => obtain ⟨o, _, _, e, _⟩ := hl; have : b = _ := q; subst this; exact Heap.lt_size e

/-- the heap moves outside of what the frame has -/
theorem Fm.move (f : Fm C Wo F σ h) (hk : Kp oa h h') (h1 : ∀ b, oa b → Wo b) (h2 : ∀ b, oa b → ¬ own F σ b) (h3 : ∀ p ∈ F.env.cells, ¬ oa p.2) (h4 : ∀ b, oa b → C.h₀.get? b = none)
    (h5 : ∀ b, Wo' b → Wo b ∨ h.objs.size ≤ b) (h6 : ∀ b, Wo' b → b < h'.objs.size) : Fm C Wo' F σ h' := by
  obtain ⟨m, hn, hm⟩ := f.names
  have hL : ¬ oa F.env.locals := fun q => h2 _ q (.inl rfl)
  refine ⟨f.kind, f.gl, f.bi, fun b o e => hk.k b o (fun q => by rw [h4 b q] at e; cases e) (f.base b o e), ⟨m, hn.at' fun o e => hk.k _ o hL e, fun x b hb => ?_⟩, fun x hx => ?_, f.apart, fun p hp => Nat.lt_of_lt_of_le (f.cb p hp) hk.sz, f.keys, f.new, h6, f.one, fun p hp b hb => ⟨(f.off p hp b hb).1, (f.off p hp b hb).2.1, fun q => (h5 b q).elim (f.off p hp b hb).2.2 fun z => Nat.lt_irrefl _ (Nat.lt_of_lt_of_le (f.wbnd b (.inr (.inr (.inr ⟨p, hp, hb⟩)))) z)⟩⟩
  · obtain ⟨v, hp, hr⟩ := hm x b hb
    refine ⟨v, hp.step fun p hp o e => hk.k _ o (h3 p hp) e, hr.step (hk.mono fun c q => .inl (h1 c q)) (fun c q => ?_) fun c hc o e => hk.k c o (fun q => h2 c q (.inr (.inr ⟨_, hb, hc⟩))) e⟩
    rcases q with q | q
    · exact (h5 c q).imp .inl id
    · exact .inl (.inr q)
  · obtain ⟨c, v, hl, o, ho, hd⟩ := f.cells x hx
    exact ⟨c, v, hl, o, hk.k _ o (h3 _ (mem_of_lookup hl)) ho, hd⟩

theorem Fm.ext (f : Fm C Wo F σ h) (hk : Kp (fun _ => False) h h') : Fm C Wo F σ h' :=
  f.move hk (fun _ q => q.elim) (fun _ q => q.elim) (fun _ _ q => q) (fun _ q => q.elim) (fun _ q => .inl q) fun b q => Nat.lt_of_lt_of_le (f.bnd b q) hk.sz
theorem Fm.wide (f : Fm C Wo F σ h) (hk : Kp (fun _ => False) h h') (h5 : ∀ b, Wo' b → Wo b ∨ h.objs.size ≤ b) (h6 : ∀ b, Wo' b → b < h'.objs.size) : Fm C Wo' F σ h' :=
  f.move hk (fun _ q => q.elim) (fun _ q => q.elim) (fun _ _ q => q) (fun _ q => q.elim) h5 h6
theorem Fm.less (f : Fm C Wo F σ h) (h5 : ∀ b, Wo' b → Wo b) : Fm C Wo' F σ h := f.wide .refl (fun b q => .inl (h5 b q)) fun b q => f.bnd b (h5 b q)
theorem Fm.pas {s s' : Shared} (f : Fm C Wo F σ s.heap) (p : Pas s s') : Fm C Wo F σ s'.heap := f.ext p.keep

/-- a local name is stored -/
theorem Fm.setL (f : Fm C Wo' F σ h) (hWo : ∀ b, Wo b → Wo' b) {m : Str → Option Value} {x : Str} {v : Value} {bd : Bd} (hx : F.env.kindOf x = some .local) (hn : h.Ns F.env.locals m)
    (hn' : h'.Ns F.env.locals (fun y => if y = x then some v else m y)) (hs : Heap.SameBut F.env.locals h h')
    (hb : BRp C h (Wx Wo F (put σ x bd)) v bd) (ho : ∀ b, bd.owns b → Wo' b ∧ C.h₀.get? b = none ∧ b ≠ F.env.locals ∧ (∀ y ∈ σ, ¬ y.2.owns b) ∧ (∀ c ∈ F.env.cells, c.2 ≠ b) ∧ ¬ Wo b) : Fm C Wo F (put σ x bd) h' := by
  have hL0 := f.new _ (.inl rfl)
  obtain ⟨m₀, hn₀, hm⟩ := f.names
  have em : ∀ y, m₀ y = m y := fun y => by
    obtain ⟨o, es, ep, e1, e2, _, e3⟩ := hn
    obtain ⟨o', es', ep', e1', e2', _, e3'⟩ := hn₀
    rw [e1] at e1'; cases e1'
    rw [e2] at e2'; cases e2'
    rw [← e3 y, ← e3' y]
  have hcL : ∀ p ∈ F.env.cells, ∀ o, h.get? p.2 = some o → o.data = .cell none ∨ (∃ v, o.data = .cell v) → h'.get? p.2 = some o := fun p hp o e hd => by
    refine (hs.2 p.2 fun q => ?_).trans e
    obtain ⟨oL, _, _, e1, e2, _⟩ := hn
    rw [q, e1] at e; cases e
    rcases hd with hd | ⟨_, hd⟩ <;> rw [e2] at hd <;> cases hd
  have ownP : ∀ b, own F (put σ x bd) b → own F σ b ∨ bd.owns b := fun b q => own_put f.keys q
  have hW : ∀ b, Wx Wo F (put σ x bd) b → Wx Wo' F σ b := fun b q => by
    rcases q with q | q
    · exact .inl (hWo b q)
    · exact (ownP b q).elim .inr fun z => .inl (ho b z).1
  refine ⟨f.kind, f.gl, f.bi, fun b o e => (hs.2 b fun q => by rw [q, hL0] at e; cases e).trans (f.base b o e), ⟨_, hn', fun y b hy => ?_⟩, fun z hz => ?_, f.apart, fun p hp => hs.1 ▸ f.cb p hp, (put_keys f.keys).1, fun b q => ?_, fun b q => hs.1 ▸ f.bnd b (hWo b q), ?_, fun p hp b hob => ?_⟩
  · have keepX : Kp (Wx Wo F (put σ x bd)) h h' := .same hs (.inr (.inl rfl))
    have keepX' : Kp (Wx Wo' F σ) h h' := .same hs (.inr (.inl rfl))
    rcases mem_put f.keys hy with ⟨e1, e2⟩ | ⟨hne, hy'⟩
    · subst e1 e2
      exact ⟨v, .inl ⟨hx, by simp⟩, hb.step keepX (fun _ q => .inl q) fun c hc o e => (hs.2 c (ho c hc).2.2.1).trans e⟩
    · obtain ⟨u, hp, hr⟩ := hm y b hy'
      refine ⟨u, ?_, hr.step keepX' (fun c q => .inl (hW c q)) fun c hc o e => ?_⟩
      · rcases hp with ⟨k, e⟩ | ⟨k, c, hl, o, ho', hd⟩
        · exact .inl ⟨k, by simp [hne, ← em, e]⟩
        · exact .inr ⟨k, c, hl, o, hcL _ (mem_of_lookup hl) o ho' (.inr ⟨_, hd⟩), hd⟩
      · exact (hs.2 c (f.off _ hy' c hc).1).trans e
  · obtain ⟨c, v', hl, o, ho', hd⟩ := f.cells z hz
    exact ⟨c, v', hl, o, hcL _ (mem_of_lookup hl) o ho' (.inr ⟨_, hd⟩), hd⟩
  · exact (ownP b q).elim (f.new b) fun z => (ho b z).2.1
  · intro p q a hp hq h1 h2
    obtain ⟨y, c⟩ := p
    obtain ⟨z, d⟩ := q
    rcases mem_put f.keys hp with ⟨e1, e2⟩ | ⟨_, hp'⟩ <;> rcases mem_put f.keys hq with ⟨e3, e4⟩ | ⟨_, hq'⟩
    · rw [e1, e2, e3, e4]
    · subst e2; exact absurd h2 ((ho a h1).2.2.2.1 _ hq')
    · subst e4; exact absurd h1 ((ho a h2).2.2.2.1 _ hp')
    · exact f.one _ _ a hp' hq' h1 h2
  · obtain ⟨y, c⟩ := p
    rcases mem_put f.keys hp with ⟨_, e⟩ | ⟨_, m⟩
    · subst e; exact ⟨(ho b hob).2.2.1, (ho b hob).2.2.2.2.1, (ho b hob).2.2.2.2.2⟩
    · exact ⟨(f.off _ m b hob).1, (f.off _ m b hob).2.1, fun q => (f.off _ m b hob).2.2 (hWo b q)⟩

theorem Fm.setPv (f : Fm C Wo F σ h) {m : Str → Option Value} {x : Str} {v : Value} {p : PV} (hx : F.env.kindOf x = some .local) (hn : h.Ns F.env.locals m)
    (hn' : h'.Ns F.env.locals (fun y => if y = x then some v else m y)) (hs : Heap.SameBut F.env.locals h h') (r : Rp C h (Wx Wo F σ) v p) : Fm C Wo F (put σ x (.pv p)) h' :=
  f.setL (fun _ q => q) hx hn hn' hs (.pv (r.less fun b q => by
    rcases q with q | q
    · exact .inl q
    · exact (own_put f.keys q).elim .inr fun z => z.elim)) fun _ z => z.elim

theorem Fm.setC (f : Fm C Wo F σ h) {x : Str} {c : Addr} {v : Value} {p : PV} (hoc : x ∈ F.mine) (hx : F.env.kindOf x = some .cell) (hl : F.env.cells.lookup x = some c)
    (hc : h'.IsCell c (some v)) (hs : Heap.SameBut c h h') (r : Rp C h (Wx Wo F σ) v p) : Fm C Wo F (put σ x (.pv p)) h' := by
  have hcm := mem_of_lookup hl
  have hW : ∀ b, Wx Wo F (put σ x (.pv p)) b → Wx Wo F σ b := fun b q => by
    rcases q with q | q
    · exact .inl q
    · exact (own_put f.keys q).elim .inr fun z => z.elim
  have hc0 := f.new c (.inr (.inl ⟨_, hoc, hl⟩))
  have keepX : Kp (Wx Wo F σ) h h' := .same hs (.inr (.inr (.inl ⟨_, hoc, hl⟩)))
  obtain ⟨m, hn, hm⟩ := f.names
  obtain ⟨c₁, v₀, hl₁, oc, hco, hcd⟩ := f.cells _ hoc
  rw [hl] at hl₁; cases hl₁
  have hLc : F.env.locals ≠ c := by
    rintro rfl
    obtain ⟨oL, _, _, e1, e2, _⟩ := hn
    rw [e1] at hco; cases hco
    rw [e2] at hcd; cases hcd
  refine ⟨f.kind, f.gl, f.bi, fun b o e => (hs.2 b fun q => by rw [q, hc0] at e; cases e).trans (f.base b o e), ⟨m, hn.sameBut hs hLc, fun y b hy => ?_⟩, fun z hz => ?_, f.apart, fun p hp => hs.1 ▸ f.cb p hp, (put_keys f.keys).1, fun b q => (own_put f.keys q).elim (f.new b) fun z => z.elim, fun b q => hs.1 ▸ f.bnd b q, ?_, fun q hq b hob => ?_⟩
  · rcases mem_put f.keys hy with ⟨e1, e2⟩ | ⟨hne, hy'⟩
    · subst e1 e2
      exact ⟨v, .inr ⟨.inl hx, c, hl, hc⟩, .pv (r.step keepX fun b q => .inl (hW b q))⟩
    · obtain ⟨u, hp, hr⟩ := hm y b hy'
      refine ⟨u, ?_, hr.step keepX (fun b q => .inl (hW b q)) fun b hb o e => (hs.2 b fun q => (f.off _ hy' b hb).2.1 _ hcm q.symm).trans e⟩
      rcases hp with hp | ⟨k, c', hl', hc'⟩
      · exact .inl hp
      · refine .inr ⟨k, c', hl', hc'.sameBut hs fun q => hne ?_⟩
        exact f.apart _ hoc _ _ hl (q ▸ hl')
  · obtain ⟨c', v', hl', hv'⟩ := f.cells z hz
    by_cases e : c' = c
    · exact ⟨c', _, hl', e ▸ hc⟩
    · exact ⟨c', v', hl', hv'.sameBut hs e⟩
  · intro p' q a hp hq h1 h2
    obtain ⟨y, c1⟩ := p'
    obtain ⟨z, d⟩ := q
    rcases mem_put f.keys hp with ⟨e1, e2⟩ | ⟨_, hp'⟩ <;> rcases mem_put f.keys hq with ⟨e3, e4⟩ | ⟨_, hq'⟩
    · rw [e1, e2, e3, e4]
    · subst e2; exact h1.elim
    · subst e4; exact h2.elim
    · exact f.one _ _ a hp' hq' h1 h2
  · obtain ⟨y, c1⟩ := q
    rcases mem_put f.keys hq with ⟨_, e⟩ | ⟨_, m⟩
    · subst e; exact hob.elim
    · exact f.off _ m b hob

noncomputable def storable (F : FE) (x : Str) : Bool := match F.env.kindOf x with
  | some .local => true
  | some .cell => F.mine.contains x
  | _ => false

theorem store_pv {A : Around} {E : Value → Shared → Prop} {s : Shared} {x : Str} {v : Value} {p : PV} {Q : Unit → Shared → Prop} (f : Fm C Wo F σ s.heap) (hx : storable F x = true)
    (r : Rp C s.heap (Wx Wo F σ) v p) (h : ∀ s', Fm C Wo F (put σ x (.pv p)) s'.heap → Stp (own F σ) (fun _ => False) s s' → Q () s') : wpAny C.M A (storeName F.env x v) Q E s := by
  unfold storable at hx
  split at hx
  · rename_i hk
    obtain ⟨m, hn, hm⟩ := f.names
    refine wpAny_storeName_local hk hn (fun h' hn' hs' => h _ (f.setPv hk hn hn' hs' r) ?_) (by rw [f.kind]; rfl)
    exact .of_heap (.same hs' (.inl rfl))
  · rename_i hk
    have hx' : x ∈ F.mine := by simpa using hx
    obtain ⟨c, v₀, hl, hv₀⟩ := f.cells x hx'
    refine wpAny_storeName_cell f.kind hk hl hv₀ fun h' hc' hs' => h _ (f.setC hx' hk hl hc' hs' r) ?_
    exact .of_heap0 (.same hs' (.inr (.inl ⟨_, hx', hl⟩)))
  · cases hx
end

section
theorem runs_size {M : Model} {Γ : Ctx} {p : Pos} {t : Sem Fin} {fs : List Frame} {s s' : Shared} {e : End} (h : Runs M Γ p t fs s e s') : s.heap.objs.size ≤ s'.heap.objs.size := by
  induction h <;> (try simp only [Shared.setGen, Heap.size_push, Heap.size_after_update] at *) <;> omega
theorem returns_size {M : Model} {Γ : Ctx} {p : Pos} {s s' : Shared} {r : Result} (h : Returns M Γ p s r s') : s.heap.objs.size ≤ s'.heap.objs.size := runs_size h
theorem wakes_size {M : Model} {Γ : Ctx} {p : Pos} {g : Nat} {r : Resume} {s s' : Shared} {res : GenResult} (h : Wakes M Γ p g r s res s') : s.heap.objs.size ≤ s'.heap.objs.size := by
  unfold Wakes at h
  split at h
  · exact h.elim
  · split at h
    · obtain ⟨e₁, s₁, hr, _, _, rfl⟩ := h; exact (runs_size hr : (s.setGen g .running).heap.objs.size ≤ s₁.heap.objs.size)
    · rw [h.2]; exact Nat.le_refl _
    · rw [h.2]; exact Nat.le_refl _
  · obtain ⟨e₁, s₁, hr, _, _, rfl⟩ := h; exact (runs_size hr : (s.setGen g .running).heap.objs.size ≤ s₁.heap.objs.size)
  · rw [h.2]; exact Nat.le_refl _
  · rw [h.2]; exact Nat.le_refl _

theorem wp_size {α : Type} (M : Model) (Γ : Ctx) (n : Nat) (t : Sem α) : ∀ (Q : α → Pos → Shared → Prop) (E : Value → Pos → Shared → Prop) (p : Pos) (s : Shared), n ≤ s.heap.objs.size → Sem.wp M Γ t Q E p s →
    Sem.wp M Γ t (fun a p' s' => n ≤ s'.heap.objs.size ∧ Q a p' s') (fun e p' s' => n ≤ s'.heap.objs.size ∧ E e p' s') p s := by
  induction t with
  | pure a => exact fun Q E p s hn h => ⟨hn, h⟩
  | raise e => exact fun Q E p s hn h => ⟨hn, h⟩
  | unsupported _ | finish _ | register _ _ | yield _ _ _ _ | fork _ _ | await _ _ _ _ _ => exact fun Q E p s _ h => h
  | rule _ k ih | point _ k ih => exact fun Q E p s hn h => ih () Q E p s hn h
  | «at» p' k ih => exact fun Q E p s hn h => ih () Q E p' s hn h
  | load a _ k ih | genState a k ih => exact fun Q E p s hn h => let ⟨o, ho, h⟩ := h; ⟨o, ho, ih _ Q E p s hn h⟩
  | update a _ f k ih => exact fun Q E p s hn h => ⟨h.1, ih () Q E p _ (by rw [Heap.size_after_update]; exact hn) h.2⟩
  | loadIfAlive a k ih | ask k ih | handled _ k ih | stack k ih | thread k ih => exact fun Q E p s hn h => ih _ Q E p s hn h
  | alloc o k ih => exact fun Q E p s hn h => ih _ Q E p _ (by rw [Heap.size_push]; exact Nat.le_succ_of_le hn) h
  | fresh k ih | os _ _ k ih | newGen _ k ih => exact fun Q E p s hn h => ih _ Q E p _ hn h
  | choose src m k ih => exact fun Q E p s hn h => ⟨h.1, ih _ Q E p _ hn h.2⟩
  | call c hd _ _ k ih => exact fun Q E p s hn h => let ⟨r, s', hr, h⟩ := h; ⟨r, s', hr, ih r Q E p s' (Nat.le_trans hn (returns_size hr)) h⟩
  | resume g r _ k ih => exact fun Q E p s hn h => let ⟨res, s', hw, h⟩ := h; ⟨res, s', hw, ih res Q E p s' (Nat.le_trans hn (wakes_size hw)) h⟩

theorem wpAny_size {α : Type} {M : Model} {A : Around} {s : Shared} {t : Sem α} {Q : α → Shared → Prop} {E : Value → Shared → Prop} (h : wpAny M A t Q E s) :
    wpAny M A t (fun a s' => s.heap.objs.size ≤ s'.heap.objs.size ∧ Q a s') (fun e s' => s.heap.objs.size ≤ s'.heap.objs.size ∧ E e s') s :=
  fun Γ p hΓ => wp_size M Γ _ t _ _ p s (Nat.le_refl _) (h Γ p hΓ)
/-- the heap's size never falls: to be used at any step -/
theorem with_size {α : Type} {M : Model} {A : Around} {s : Shared} {t : Sem α} {Q : α → Shared → Prop} {E : Value → Shared → Prop}
    (h : wpAny M A t (fun a s' => s.heap.objs.size ≤ s'.heap.objs.size → Q a s') E s) : wpAny M A t Q E s :=
  wpAny_mono (wpAny_size h) (fun _ _ x => x.2 x.1) fun _ _ x => x.2
theorem with_sizeC {M : Model} {A : Around} {s : Shared} {c : Code} {R : Result → Shared → Prop}
    (h : codeAny M A c (fun r s' => s.heap.objs.size ≤ s'.heap.objs.size → R r s') s) : codeAny M A c R s :=
  fun Γ p hc hΓ => by obtain ⟨r, s', hr, hR⟩ := h Γ p hc hΓ; exact ⟨r, s', hr, hR (returns_size hr)⟩
end
end Mine

end

section
open PySem
set_option linter.unusedVariables false
namespace Mine
open PySem.Builtin

noncomputable def Bdd (X : Addr → Prop) (h : Heap) : Prop := ∀ b, X b → b < h.objs.size
theorem Bdd.kp {X oa : Addr → Prop} {h h' : Heap} (b : Bdd X h) (k : Kp oa h h') : Bdd X h' := fun a q => Nat.lt_of_lt_of_le (b a q) k.sz
theorem Bdd.new {X : Addr → Prop} {h : Heap} (b : Bdd X h) : ¬ X h.objs.size := fun q => Nat.lt_irrefl _ (b _ q)

theorem Rep.newList {prog : Program} {w : World} {h : Heap} {X : Addr → Prop} {vs : List Value} {ps : List PV} (b : Bdd X h) (r : RepL prog w h X vs ps) (n : Nat := 0) :
    Rep prog w (h.push { cls := .type "list", data := .seq vs.toArray n }) X (.ref h.objs.size) (.list ps) :=
  .list (vs := vs.toArray) ⟨_, Heap.get?_push_size _ rfl⟩ b.new (r.ext (.push _ _ _))
theorem Rep.newTup {prog : Program} {w : World} {h : Heap} {X : Addr → Prop} {vs : List Value} {ps : List PV} (b : Bdd X h) (r : RepL prog w h X vs ps) (n : Nat := 0) :
    Rep prog w (h.push { cls := .type "tuple", data := .seq vs.toArray n }) X (.ref h.objs.size) (.tup ps) :=
  .tup (vs := vs.toArray) ⟨_, Heap.get?_push_size _ rfl, rfl, _, rfl⟩ b.new (r.ext (.push _ _ _))
theorem Pas.push {s : Shared} {o : Obj} {tk : Nat} : Pas s { s with heap := s.heap.push o, toks := tk } := .of_heap (.push _ _ _)

/-- an operator on two values -/
noncomputable def BinT (C : Cx) (k : Nat) (op : Operator) (p q r : PV) : Prop :=
  ∀ (A : Around) (E : Value → Shared → Prop) (s : Shared) (X : Addr → Prop) (u v : Value) (Q : Value → Shared → Prop), Room A k → Bdd X s.heap → Rp C s.heap X u p → Rp C s.heap X v q →
    (∀ z s', Rp C s'.heap X z r → Pas s s' → Q z s') → wpAny C.M A (binaryOp op u v) Q E s

section
variable {C : Cx} {k : Nat}
theorem BinT.addI {a b : Int} : BinT C k .Add (.int a) (.int b) (.int (a + b)) := fun A E s X u v Q hA hX hu hv h => by
  cases hu; cases hv; exact PyProof.Rows.add_int (h _ _ (.int _ _) .tok)
theorem BinT.subI {a b : Int} : BinT C k .Sub (.int a) (.int b) (.int (a - b)) := fun A E s X u v Q hA hX hu hv h => by
  cases hu; cases hv; exact PyProof.Rows.sub_int (h _ _ (.int _ _) .tok)
theorem BinT.mulI {a b : Int} (ha : -(2 ^ 64) < a) (hb : a < 2 ^ 64) : BinT C k .Mult (.int a) (.int b) (.int (a * b)) := fun A E s X u v Q hA hX hu hv h => by
  cases hu; cases hv; exact PyProof.Rows.mul_int (h _ _ (.int _ _) .tok) (.of_left (intBits_le_64 ha hb))
theorem BinT.divI {a b : Int} (h0 : b ≠ 0) (hb : b.natAbs < 1073741824) : BinT C k .FloorDiv (.int a) (.int b) (.int (a.fdiv b)) := fun A E s X u v Q hA hX hu hv h => by
  cases hu; cases hv; exact PyProof.Rows.floordiv_int h0 (h _ _ (.int _ _) .tok) (.inl (PyProof.noPylong_small hb))
theorem BinT.modI {a b : Int} (h0 : b ≠ 0) : BinT C k .Mod (.int a) (.int b) (.int (a.fmod b)) := fun A E s X u v Q hA hX hu hv h => by
  cases hu; cases hv; exact PyProof.Rows.mod_int' h0 (h _ _ (.int _ _) .tok)
theorem BinT.powI {a n : Int} (hn : 0 ≤ n) (hn2 : n ≤ 1000000) (ha : a.natAbs < 2 ^ 64) : BinT C k .Pow (.int a) (.int n) (.int (a ^ n.toNat)) := fun A E s X u v Q hA hX hu hv h => by
  cases hu; cases hv; exact PyProof.Rows.pow_int_small hn hn2 ha (h _ _ (.int _ _) .tok)
theorem BinT.shrI {a n : Int} (hn : 0 ≤ n) : BinT C k .RShift (.int a) (.int n) (.int (a.fdiv (2 ^ n.toNat))) := fun A E s X u v Q hA hX hu hv h => by
  cases hu; cases hv; exact PyProof.Rows.rshift_int hn (h _ _ (.int _ _) .tok)
theorem BinT.andI {a b : Int} : BinT C k .BitAnd (.int a) (.int b) (.int (Builtin.bitAnd a b)) := fun A E s X u v Q hA hX hu hv h => by
  cases hu; cases hv; exact PyProof.Rows.and_int (h _ _ (.int _ _) .tok)
theorem BinT.addS {x y : Str} (hsz : x.length + y.length ≤ sizeLine) : BinT C k .Add (.str x) (.str y) (.str (x ++ y)) := fun A E s X u v Q hA hX hu hv h => by
  cases hu; cases hv; exact PyProof.Rows.add_str (fun t tk => h _ _ (.str _ _) .tok) hsz
theorem BinT.mulS {x : Str} {n : Int} (hok : MulOk x n) : BinT C k .Mult (.str x) (.int n) (.str (Txt.mul x n)) := fun A E s X u v Q hA hX hu hv h => by
  cases hu; cases hv; exact SB.mul hok fun t tk => h _ _ (.str _ _) .tok
theorem BinT.addL {xs ys : List PV} (hsz : xs.length + ys.length ≤ sizeLine) : BinT C k .Add (.list xs) (.list ys) (.list (xs ++ ys)) := fun A E s X u v Q hA hX hu hv h => by
  cases hu with
  | list hl hn r =>
    cases hv with
    | list hl2 hn2 r2 =>
      rename_i a vs b ws
      obtain ⟨n, ho⟩ := id hl
      obtain ⟨n2, ho2⟩ := id hl2
      have e1 := r.length
      have e2 := r2.length
      rw [Array.length_toList] at e1 e2
      refine concat_meets ⟨_, ho, rfl⟩ ⟨_, ho2, rfl⟩ noFill_list_add seq_list_add PySem.F.slot_list_add PySem.F.entry_list_add (PySem.F.args_list_add_2 _ _)
        (PyProof.Rows.list_addW a b vs ws n n2 none none #[] #[] (by rw [e1, e2]; exact hsz)) ⟨ho, ho2, ?_⟩
      have q := Rep.newList hX (r.append r2)
      have e : (vs.toList ++ ws.toList).toArray = vs ++ ws := by simp
      rw [e] at q
      exact h _ _ q .push
end

/-- an expression has a value -/
structure EvT (C : Cx) (k : Nat) (F : FE) (σ : Sg) (e : Expr) (p : PV) : Prop where
  run : ∀ (Wo : Addr → Prop) (A : Around) (E : Value → Shared → Prop) (s : Shared) (Q : Value → Shared → Prop), Room A k → Fm C Wo F σ s.heap →
    (∀ v s', Rp C s'.heap (Wx Wo F σ) v p → Pas s s' → Q v s') → wpAny C.M A (eval e F.env) Q E s
/-- an expression has a value of the model's, whatever the frame -/
structure EvV (C : Cx) (k : Nat) (F : FE) (σ : Sg) (e : Expr) (v : Value) : Prop where
  run : ∀ (Wo : Addr → Prop) (A : Around) (E : Value → Shared → Prop) (s : Shared) (Q : Value → Shared → Prop), Room A k → Fm C Wo F σ s.heap →
    (∀ s', Pas s s' → Q v s') → wpAny C.M A (eval e F.env) Q E s
/-- a test comes out -/
structure TsT (C : Cx) (k : Nat) (F : FE) (σ : Sg) (e : Expr) (b : Bool) : Prop where
  run : ∀ (Wo : Addr → Prop) (A : Around) (E : Value → Shared → Prop) (s : Shared) (Q : Bool → Shared → Prop), Room A k → Fm C Wo F σ s.heap →
    (∀ s', Pas s s' → Q b s') → wpAny C.M A (isTrue e F.env (eval e F.env)) Q E s

section
variable {C : Cx} {k : Nat} {F : FE} {σ : Sg}

theorem EvT.intC {i kk pos} : EvT C k F σ (.Constant (.int i) kk pos) (.int i) := .mk fun Wo A E s Q hA f h => wpAny_Constant_int (h _ _ (.int _ _) .tok)
theorem EvT.strC {x kk pos} : EvT C k F σ (.Constant (.str x) kk pos) (.str x) := .mk fun Wo A E s Q hA f h => wpAny_Constant_str (h _ _ (.str _ _) .tok)
theorem EvT.boolC {b kk pos} : EvT C k F σ (.Constant (.bool b) kk pos) (.bool b) := .mk fun Wo A E s Q hA f h => wpAny_Constant_bool (h _ _ (.bool _) .refl)
theorem EvT.noneC {kk pos} : EvT C k F σ (.Constant .none kk pos) .none := .mk fun Wo A E s Q hA f h => wpAny_Constant_none (h _ _ .none .refl)

theorem loadName_bd {x : Str} {b : Bd} (hb : σ.lookup x = some b) {Wo : Addr → Prop} {A : Around} {E : Value → Shared → Prop} {s : Shared} {Q : Value → Shared → Prop} (f : Fm C Wo F σ s.heap)
    (hc : (x == ("__classdict__" : Str)) = false) (h : ∀ v, BRp C s.heap (Wx Wo F σ) v b → Q v s) : wpAny C.M A (loadName F.env x) Q E s := by
  obtain ⟨m, hn, hm⟩ := f.names
  obtain ⟨v, hp, hr⟩ := hm x b (mem_of_lookup hb)
  rcases hp with ⟨hk, e⟩ | ⟨hk | hk, c, hl, hv⟩
  · exact wpAny_loadName_local f.kind hk hn e (h v hr)
  · exact wpAny_loadName_cell f.kind hk hl hv (h v hr)
  · exact wpAny_loadName_free f.kind hk hl hv (h v hr) hc

theorem EvT.name {x pos p} (hb : σ.lookup x = some (.pv p)) (hd : (x == ("__debug__" : Str)) = false := by decide +kernel) (hc : (x == ("__classdict__" : Str)) = false := by decide +kernel) :
    EvT C k F σ (.Name x pos) p := .mk fun Wo A E s Q hA f h => by
  refine wpAny_Name (loadName_bd hb f hc fun v r => ?_) hd
  cases r with
  | pv r => exact h _ _ r .refl

theorem EvV.global {x pos v} (hk : F.env.kindOf x = some .globalImplicit) (hv : C.mg x = some v) (hd : (x == ("__debug__" : Str)) = false := by decide +kernel) : EvV C k F σ (.Name x pos) v :=
  .mk fun Wo A E s Q hA f h => Calls.Name_function_global f.kind hk (Calls.loadGlobal_global (by rw [f.gl]; exact C.g.keeps f.base) hv (h _ .refl)) hd
theorem EvV.builtin {x pos v} (hk : F.env.kindOf x = some .globalImplicit) (hg : C.mg x = none) (hv : C.mb x = some v) (hd : (x == ("__debug__" : Str)) = false := by decide +kernel) : EvV C k F σ (.Name x pos) v :=
  .mk fun Wo A E s Q hA f h => Calls.Name_function_global f.kind hk (Calls.loadGlobal_builtin (by rw [f.gl]; exact C.g.keeps f.base) hg (by rw [f.bi]; exact C.b.keeps f.base) hv (h _ .refl)) hd

theorem EvT.bin {l op r pos p q z} (hl : EvT C k F σ l p) (hr : EvT C k F σ r q) (hz : BinT C k op p q z) : EvT C k F σ (.BinOp l op r pos) z := .mk fun Wo A E s Q hA f h =>
  wpAny_BinOp (hl.run Wo A E s _ hA f fun u s₁ hu p₁ => hr.run Wo A E s₁ _ hA (f.pas p₁) fun v s₂ hv p₂ =>
    hz A E s₂ _ u v _ hA ((f.pas p₁).pas p₂).wbnd (hu.ext p₂.keep) hv fun z s₃ hz p₃ => h _ _ hz ((p₁.trans p₂).trans p₃))

theorem EvT.ifT {t b o pos p} (ht : TsT C k F σ t true) (hb : EvT C k F σ b p) : EvT C k F σ (.IfExp t b o pos) p := .mk fun Wo A E s Q hA f h =>
  wpAny_IfExp (ht.run Wo A E s _ hA f fun s₁ p₁ => by
    simp only [if_true]
    exact hb.run Wo A E s₁ _ hA (f.pas p₁) fun v s₂ hv p₂ => h _ _ hv (p₁.trans p₂))
theorem EvT.ifF {t b o pos p} (ht : TsT C k F σ t false) (hb : EvT C k F σ o p) : EvT C k F σ (.IfExp t b o pos) p := .mk fun Wo A E s Q hA f h =>
  wpAny_IfExp (ht.run Wo A E s _ hA f fun s₁ p₁ => by
    simp only [Bool.false_eq_true, if_false]
    exact hb.run Wo A E s₁ _ hA (f.pas p₁) fun v s₂ hv p₂ => h _ _ hv (p₁.trans p₂))
theorem EvT.ifB {t b o pos p q} {c : Bool} (ht : TsT C k F σ t c) (hb : c = true → EvT C k F σ b p) (ho : c = false → EvT C k F σ o q) : EvT C k F σ (.IfExp t b o pos) (if c = true then p else q) := by
  cases c
  · exact .ifF ht (ho rfl)
  · exact .ifT ht (hb rfl)
end

/-- a comparison of two values -/
noncomputable def CmpT (C : Cx) (k : Nat) (op : CmpOp) (p q : PV) (b : Bool) : Prop :=
  ∀ (A : Around) (E : Value → Shared → Prop) (s : Shared) (X : Addr → Prop) (u v : Value) (Q : Value → Shared → Prop), Room A k → Rp C s.heap X u p → Rp C s.heap X v q →
    (∀ s', Pas s s' → Q (.bool b) s') → wpAny C.M A (compareOp op u v) Q E s
noncomputable def TrT (C : Cx) (k : Nat) (p : PV) (b : Bool) : Prop :=
  ∀ (A : Around) (E : Value → Shared → Prop) (s : Shared) (X : Addr → Prop) (u : Value) (Q : Bool → Shared → Prop), Room A k → Rp C s.heap X u p → (∀ s', Pas s s' → Q b s') → wpAny C.M A (truthy u) Q E s

mutual
noncomputable def PV.py : PV → Option PyData
  | .none => some .none
  | .bool b => some (.bool b)
  | .int i => some (.int i)
  | .str x => some (.str x)
  | .list xs => (PV.pys xs).map .list
  | .tup xs => (PV.pys xs).map .tuple
  | .dictS _ | .dictI _ | .ws _ _ => Option.none
noncomputable def PV.pys : List PV → Option (List PyData)
  | [] => some []
  | x :: xs => match PV.py x, PV.pys xs with
    | some d, some ds => some (d :: ds)
    | _, _ => Option.none
end
section
variable {prog : Program} {w : World} {h : Heap} {X : Addr → Prop}
mutual
theorem Rep.py : ∀ {v : Value} {p : PV} {d : PyData}, Rep prog w h X v p → p.py = some d → ∃ as, Reads h v d as
  | _, _, _, .none, e => by simp [PV.py] at e; subst e; exact ⟨_, .none⟩
  | _, _, _, .bool b, e => by simp [PV.py] at e; subst e; exact ⟨_, .bool b⟩
  | _, _, _, .int i t, e => by simp [PV.py] at e; subst e; exact ⟨_, .int i t⟩
  | _, _, _, .str x t, e => by simp [PV.py] at e; subst e; exact ⟨_, .str x t⟩
  | _, _, _, .list hl hn r, e => by
    rw [PV.py, Option.map_eq_some_iff] at e
    obtain ⟨ds, e, rfl⟩ := e
    obtain ⟨as, q⟩ := RepL.py r e
    obtain ⟨n, ho⟩ := hl
    exact ⟨_, .list ho rfl rfl q⟩
  | _, _, _, .tup hl hn r, e => by
    rw [PV.py, Option.map_eq_some_iff] at e
    obtain ⟨ds, e, rfl⟩ := e
    obtain ⟨as, q⟩ := RepL.py r e
    obtain ⟨o, ho, hc, n, hd⟩ := hl
    exact ⟨_, .tuple ho hc hd q⟩
  | _, _, _, .dictS _ _ _ _ _, e => by simp [PV.py] at e
  | _, _, _, .dictI _ _ _ _ _, e => by simp [PV.py] at e
  | _, _, _, .ws _ _ _ _ _ _ _ _ _ _ _, e => by simp [PV.py] at e
theorem RepL.py : ∀ {vs : List Value} {ps : List PV} {ds : List PyData}, RepL prog w h X vs ps → PV.pys ps = some ds → ∃ as, ReadsAll h vs ds as
  | _, _, _, .nil, e => by simp [PV.pys] at e; subst e; exact ⟨_, .nil⟩
  | _, _, _, .cons a r, e => by
    rw [PV.pys] at e
    split at e
    · rename_i d ds e1 e2
      cases e
      obtain ⟨as, q1⟩ := Rep.py a e1
      obtain ⟨bs, q2⟩ := RepL.py r e2
      exact ⟨_, .cons q1 q2⟩
    · cases e
end
theorem RepL.strs {vs : List Value} {xs : List Str} (r : RepL prog w h X vs (xs.map PV.str)) : PyProof.Rows.StrsAre vs xs := by
  induction vs generalizing xs with
  | nil => cases xs with
    | nil => exact .nil
    | cons x xs => cases r
  | cons v vs ih => cases xs with
    | nil => cases r
    | cons x xs => cases r with | cons a r => cases a; exact .cons _ _ (ih r)
end

section
variable {C : Cx} {k : Nat}
theorem CmpT.eqI {a b : Int} : CmpT C k .Eq (.int a) (.int b) (a == b) := fun A E s X u v Q hA hu hv h => by
  cases hu; cases hv; exact PyProof.Rows.eq_int (h _ .refl)
theorem CmpT.neI {a b : Int} : CmpT C k .NotEq (.int a) (.int b) (a != b) := fun A E s X u v Q hA hu hv h => by
  cases hu; cases hv; exact PyProof.Rows.ne_int (h _ .refl)
theorem CmpT.ltI {a b : Int} : CmpT C k .Lt (.int a) (.int b) (decide (a < b)) := fun A E s X u v Q hA hu hv h => by
  cases hu; cases hv; exact PyProof.Rows.lt_int (h _ .refl)
theorem CmpT.leI {a b : Int} : CmpT C k .LtE (.int a) (.int b) (decide (a ≤ b)) := fun A E s X u v Q hA hu hv h => by
  cases hu; cases hv; exact PyProof.Rows.le_int (h _ .refl)
theorem CmpT.geI {a b : Int} : CmpT C k .GtE (.int a) (.int b) (decide (b ≤ a)) := fun A E s X u v Q hA hu hv h => by
  cases hu; cases hv; exact PyProof.Rows.ge_int (h _ .refl)
theorem CmpT.eqS {a b : Str} : CmpT C k .Eq (.str a) (.str b) (a == b) := fun A E s X u v Q hA hu hv h => by
  cases hu; cases hv; exact PyProof.Rows.eq_str (h _ .refl)
theorem CmpT.neS {a b : Str} : CmpT C k .NotEq (.str a) (.str b) (a != b) := fun A E s X u v Q hA hu hv h => by
  cases hu; cases hv; exact PyProof.Rows.ne_str (h _ .refl)
theorem CmpT.inSS {a b : Str} : CmpT C k .In (.str a) (.str b) (!(Builtin.Str.occurrences b a 0 b.length 1).isEmpty) := fun A E s X u v Q hA hu hv h => by
  cases hu; cases hv; exact PyProof.Rows.in_str (h _ .refl)
theorem CmpT.notInSS {a b : Str} : CmpT C k .NotIn (.str a) (.str b) (!(!(Builtin.Str.occurrences b a 0 b.length 1).isEmpty)) := fun A E s X u v Q hA hu hv h => by
  cases hu; cases hv; exact PyProof.Rows.notIn_str (h _ .refl)
theorem CmpT.inSL {a : Str} {ys : List Str} : CmpT C k .In (.str a) (.list (ys.map .str)) (ys.any (· == a)) := fun A E s X u v Q hA hu hv h => by
  cases hu; cases hv with | list hl hn r => exact PyProof.Rows.in_list_strs (vs := _) (by simpa using hl.isList) r.strs (h _ .refl)
theorem CmpT.isB {a b : Bool} : CmpT C k .Is (.bool a) (.bool b) (a == b) := fun A E s X u v Q hA hu hv h => by
  cases hu; cases hv; exact wpAny_is_plain rfl (by have : (Value.bool a == Value.bool b) = (a == b) := by cases a <;> cases b <;> rfl
                                                   rw [this]; exact h _ .refl)
theorem CmpT.isNotB {a b : Bool} : CmpT C k .IsNot (.bool a) (.bool b) (!(a == b)) := fun A E s X u v Q hA hu hv h => by
  cases hu; cases hv; exact wpAny_isNot_plain rfl (by have : (Value.bool a == Value.bool b) = (a == b) := by cases a <;> cases b <;> rfl
                                                      rw [this]; exact h _ .refl)
theorem CmpT.isNone {p : PV} (b : Bool) (hb : (∀ v X h, Rp C h X v p → (v == .none) = b)) : CmpT C k .Is p .none b := fun A E s X u v Q hA hu hv h => by
  cases hv; exact is_none (by rw [hb u X _ hu]; exact h _ .refl)
theorem CmpT.eqD {p q : PV} {d e : PyData} (hp : p.py = some d) (hq : q.py = some e) (hd : SeqAt.shaped d = true) (he : SeqAt.shaped e = true) : CmpT C k .Eq p q (PyData.eqv d e) := fun A E s X u v Q hA hu hv h => by
  obtain ⟨_, r1⟩ := hu.py hp
  obtain ⟨_, r2⟩ := hv.py hq
  exact SeqAt.compareEq_shaped r1 r2 hd he hA.u (h _ .refl)
theorem CmpT.neD {p q : PV} {d e : PyData} (hp : p.py = some d) (hq : q.py = some e) (hd : SeqAt.shaped d = true) (he : SeqAt.shaped e = true) : CmpT C k .NotEq p q (!PyData.eqv d e) := fun A E s X u v Q hA hu hv h => by
  obtain ⟨_, r1⟩ := hu.py hp
  obtain ⟨_, r2⟩ := hv.py hq
  exact SeqAt.compareNe_shaped r1 r2 hd he hA.u (h _ .refl)
theorem CmpT.eqNil {x : PV} {xs : List PV} : CmpT C k .Eq (.list (x :: xs)) (.list []) false := fun A E s X u v Q hA hu hv h => by
  cases hu with
  | list hl hn r =>
    cases hv with
    | list hl2 hn2 r2 =>
      have e1 := r.length
      have e2 := r2.length
      rw [Array.length_toList] at e1 e2
      exact SeqAt.eq_list_lengthsAt hl.isList hl2.isList (by rw [e1, e2]; rfl) hA.u0 (h _ .refl)

theorem TrT.bool {b} : TrT C k (.bool b) b := fun A E s X u Q hA hu h => by cases hu; exact wpAny_truthy_bool (h _ .refl)
theorem TrT.int {i} : TrT C k (.int i) (i != 0) := fun A E s X u Q hA hu h => by cases hu; exact PySem.P.truthy_int (h _ .refl)
theorem TrT.str {x : Str} (hx : x.length < 2 ^ 63) : TrT C k (.str x) ((x.length : Int) != 0) := fun A E s X u Q hA hu h => by
  cases hu; exact PySem.P.truthy_str (by omega) (h _ .tok)
theorem TrT.list {xs : List PV} (hx : xs.length < 2 ^ 63) : TrT C k (.list xs) (!xs.isEmpty) := fun A E s X u Q hA hu h => by
  cases hu with
  | list hl hn r =>
    have e := r.length
    rw [Array.length_toList] at e
    refine wpAny_truthy_list hl.isList (by omega) ?_
    rename_i a vs
    have : vs.isEmpty = xs.isEmpty := by
      rw [Bool.eq_iff_iff, Array.isEmpty_iff_size_eq_zero, List.isEmpty_iff_length_eq_zero, e]
    rw [this]; exact h _ .tok
end

section
variable {C : Cx} {k : Nat} {F : FE} {σ : Sg}
theorem EvT.cmp {l op r pos p q b} (hl : EvT C k F σ l p) (hr : EvT C k F σ r q) (hc : CmpT C k op p q b) (hm : behindInMarks op r = false := by first | kernel_rfl | with_unfolding_all rfl) :
    EvT C k F σ (.Compare l [op] [r] pos) (.bool b) := .mk fun Wo A E s Q hA f h =>
  wpAny_Compare1 (hl.run Wo A E s _ hA f fun u s₁ hu p₁ => hr.run Wo A E s₁ _ hA (f.pas p₁) fun v s₂ hv p₂ =>
    hc A E s₂ _ u v _ hA (hu.ext p₂.keep) hv fun s₃ p₃ => h _ _ (.bool _) ((p₁.trans p₂).trans p₃)) hm
theorem TsT.cmp {l op r pos p q b} (hl : EvT C k F σ l p) (hr : EvT C k F σ r q) (hc : CmpT C k op p q b) (hm : behindInMarks op r = false := by first | kernel_rfl | with_unfolding_all rfl) :
    TsT C k F σ (.Compare l [op] [r] pos) b := .mk fun Wo A E s Q hA f h =>
  wpAny_isTrue_Compare1 (hl.run Wo A E s _ hA f fun u s₁ hu p₁ => hr.run Wo A E s₁ _ hA (f.pas p₁) fun v s₂ hv p₂ =>
    hc A E s₂ _ u v _ hA (hu.ext p₂.keep) hv fun s₃ p₃ => wpAny_truthy_bool (h _ ((p₁.trans p₂).trans p₃))) hm
theorem TsT.val {e p b} (he : EvT C k F σ e p) (ht : TrT C k p b) (hs : ∀ whole, isTrue e F.env whole = (do let v ← whole; standAt e.pos; holding [v] (truthy v)) := by intro _; first | kernel_rfl | rfl) : TsT C k F σ e b := .mk fun Wo A E s Q hA f h =>
  wpAny_isTrue_value (he.run Wo A E s _ hA f fun u s₁ hu p₁ => ht A E s₁ _ u _ hA hu fun s₂ p₂ => h _ (p₁.trans p₂)) (hs _)
theorem TsT.not {e pos b} (he : TsT C k F σ e b) : TsT C k F σ (.UnaryOp .Not e pos) (!b) := .mk fun Wo A E s Q hA f h =>
  wpAny_isTrue_Not (he.run Wo A E s _ hA f fun s₁ p₁ => h _ p₁)
theorem TsT.and2 {x y pos a b} (hx : TsT C k F σ x a) (hy : a = true → TsT C k F σ y b) (hb : a = false → b = false) : TsT C k F σ (.BoolOp .And [x, y] pos) b := .mk fun Wo A E s Q hA f h => by
  refine wpAny_isTrue_BoolOp (wpAny_allTrue_And_cons (hx.run Wo A E s _ hA f fun s₁ p₁ => ?_))
  cases a
  · rw [hb rfl] at h; exact h _ p₁
  · refine wpAny_allTrue_And_cons ((hy rfl).run Wo A E s₁ _ hA (f.pas p₁) fun s₂ p₂ => ?_)
    cases b
    · exact h _ (p₁.trans p₂)
    · exact wpAny_allTrue_And_nil (h _ (p₁.trans p₂))
theorem TsT.or2 {x y pos a b} (hx : TsT C k F σ x a) (hy : a = false → TsT C k F σ y b) (hb : a = true → b = true) : TsT C k F σ (.BoolOp .Or [x, y] pos) b := .mk fun Wo A E s Q hA f h => by
  refine wpAny_isTrue_BoolOp (wpAny_allTrue_Or_cons (hx.run Wo A E s _ hA f fun s₁ p₁ => ?_))
  cases a
  · refine wpAny_allTrue_Or_cons ((hy rfl).run Wo A E s₁ _ hA (f.pas p₁) fun s₂ p₂ => ?_)
    cases b
    · exact wpAny_allTrue_Or_nil (h _ (p₁.trans p₂))
    · exact h _ (p₁.trans p₂)
  · rw [hb rfl] at h; exact h _ p₁
theorem TsT.and3 {x y z pos a b c} (hx : TsT C k F σ x a) (hy : TsT C k F σ y b) (hz : TsT C k F σ z c) : TsT C k F σ (.BoolOp .And [x, y, z] pos) (a && b && c) := .mk fun Wo A E s Q hA f h => by
  refine wpAny_isTrue_BoolOp (wpAny_allTrue_And_cons (hx.run Wo A E s _ hA f fun s₁ p₁ => ?_))
  cases a
  · exact h _ p₁
  · refine wpAny_allTrue_And_cons (hy.run Wo A E s₁ _ hA (f.pas p₁) fun s₂ p₂ => ?_)
    cases b
    · exact h _ (p₁.trans p₂)
    · refine wpAny_allTrue_And_cons (hz.run Wo A E s₂ _ hA ((f.pas p₁).pas p₂) fun s₃ p₃ => ?_)
      cases c
      · exact h _ ((p₁.trans p₂).trans p₃)
      · exact wpAny_allTrue_And_nil (h _ ((p₁.trans p₂).trans p₃))
theorem EvT.neg {e pos i} (he : EvT C k F σ e (.int i)) : EvT C k F σ (.UnaryOp .USub e pos) (.int (-i)) := .mk fun Wo A E s Q hA f h =>
  wpAny_UnaryOp (he.run Wo A E s _ hA f fun u s₁ hu p₁ => by cases hu; exact PySem.P.neg_int (h _ _ (.int _ _) (p₁.trans .tok)))

/-- several expressions, one behind the other -/
structure EvL (C : Cx) (k : Nat) (F : FE) (σ : Sg) (es : List Expr) (pos : Pos) (ps : List PV) : Prop where
  run : ∀ (Wo : Addr → Prop) (A : Around) (E : Value → Shared → Prop) (s : Shared) (Q : List Value → Shared → Prop), Room A k → Fm C Wo F σ s.heap →
    (∀ vs s', RpL C s'.heap (Wx Wo F σ) vs ps → Pas s s' → Q vs s') → wpAny C.M A (spliced (backTo pos (starEach es F.env))) Q E s
noncomputable def plainE : Expr → Bool
  | .Starred .. => false
  | _ => true
theorem starEach_plain {e : Expr} {r : List Expr} {env : Env} (h : plainE e = true) : starEach (e :: r) env = (false, eval e env) :: starEach r env := by
  cases e <;> first | rfl | cases h
theorem EvL.nil {pos} : EvL C k F σ [] pos [] := .mk fun Wo A E s Q hA f h => Calls.spliced_nil (h _ _ .nil .refl)
theorem EvL.cons {pos e es p ps} (he : EvT C k F σ e p) (hes : EvL C k F σ es pos ps) (hp : plainE e = true := by first | kernel_rfl | rfl) : EvL C k F σ (e :: es) pos (p :: ps) := .mk fun Wo A E s Q hA f h => by
  rw [starEach_plain hp]
  refine Calls.spliced_cons (he.run Wo A E s _ hA f fun u s₁ hu p₁ => ?_)
  exact hes.run Wo A E s₁ _ hA (f.pas p₁) fun vs s₂ hvs p₂ => h _ _ (.cons (hu.ext p₂.keep) hvs) (p₁.trans p₂)
theorem EvT.listD {pos es ps} (h : EvL C k F σ es pos ps) (hz : ps.length ≤ sizeLine := by simp [sizeLine]) : EvT C k F σ (.List es pos) (.list ps) := .mk fun Wo A E s Q hA f hQ => by
  rw [arm_eval_List]
  refine wpAny_bind (wpAny_standAt (wpAny_bind (h.run Wo A E s _ hA f fun vs s₁ hvs p₁ => ?_)))
  refine wpAny_newObj_type ?_ (by show vs.toArray.size ≤ sizeLine; rw [List.size_toArray, hvs.length]; exact hz)
  exact hQ _ _ (.newList (f.pas p₁).wbnd hvs) (p₁.trans .push)
theorem EvT.tupD {pos kk es ps} (h : EvL C k F σ es pos ps) (hz : ps.length ≤ sizeLine := by simp [sizeLine]) : EvT C k F σ (.Tuple es kk pos) (.tup ps) := .mk fun Wo A E s Q hA f hQ => by
  rw [arm_eval_Tuple]
  refine wpAny_bind (wpAny_standAt (wpAny_bind (h.run Wo A E s _ hA f fun vs s₁ hvs p₁ => ?_)))
  refine wpAny_newObj_type ?_ (by show vs.toArray.size ≤ sizeLine; rw [List.size_toArray, hvs.length]; exact hz)
  exact hQ _ _ (.newTup (f.pas p₁).wbnd hvs) (p₁.trans .push)
end
end Mine

end

section
open PySem
set_option linter.unusedVariables false
namespace Mine
open PySem.Builtin PySem.Calls

/-- an item read -/
structure SubT (C : Cx) (k : Nat) (p q r : PV) (T id : String) : Prop where
  lk : typeLookup (.type T) "__getitem__" = pure (some (.builtin id))
  ty : ∀ (s : Shared) (X : Addr → Prop) (u : Value), Rp C s.heap X u p → s.TypeIs u T
  get : ∀ (A : Around) (E : Value → Shared → Prop) (s : Shared) (X : Addr → Prop) (u v : Value) (Q : Value → Shared → Prop), Room A k → Bdd X s.heap → Rp C s.heap X u p → Rp C s.heap X v q →
    (∀ z s', Rp C s'.heap X z r → Pas s s' → Q z s') → wpAny C.M A (getItem u v) Q E s

theorem pyIndex_nat {n j : Nat} (h : j < n) : seqIndex? (j : Int) n = some j := by
  unfold seqIndex?
  have h1 : ¬ ((j : Int) < 0) := by omega
  simp only [h1, if_false]
  rw [if_pos (by simp; omega)]
  simp

section
variable {C : Cx} {k : Nat}
theorem SubT.listI {xs : List PV} {i : Int} {x : PV} (h0 : 0 ≤ i) (hi : i < 2 ^ 63) (hx : xs[i.toNat]? = some x) : SubT C k (.list xs) (.int i) x "list" "list.__getitem__" where
  lk := slot_list_getitem.lookup
  ty := fun s X u hu => by cases hu with | list hl _ _ => exact hl.isList.typeIs
  get := fun A E s X u v Q hA hX hu hv h => by
    cases hv
    cases hu with
    | list hl hn r =>
      obtain ⟨z, hz, rz⟩ := r.get' hx
      exact wpAny_getItem_list hl.isList h0 hi (by simpa using hz) (h _ _ rz .refl)
theorem SubT.tupI {xs : List PV} {i : Nat} {x : PV} (hi : (i : Int) < 2 ^ 63) (hx : xs[i]? = some x) : SubT C k (.tup xs) (.int i) x "tuple" "tuple.__getitem__" where
  lk := PyProof.Rows.slot_tuple_getitem.lookup
  ty := fun s X u hu => by cases hu with | tup hl _ _ => exact hl.typeIs
  get := fun A E s X u v Q hA hX hu hv h => by
    cases hv
    cases hu with
    | tup hl hn r =>
      obtain ⟨z, hz, rz⟩ := r.get' hx
      rename_i a vs
      have hlt : i < vs.size := by
        have := (List.getElem?_eq_some_iff.mp hz).1
        simpa using this
      exact PyProof.Rows.getItem_tuple (items := vs) (j := i) hl (by omega) hi (pyIndex_nat hlt) (by simpa using hz) (h _ _ rz .refl)
theorem SubT.dictS {xs : List (Str × PV)} {x : Str} {p : PV} (hx : xs.lookup x = some p) : SubT C k (.dictS xs) (.str x) p "dict" "dict.__getitem__" where
  lk := slot_dict_getitem.lookup
  ty := fun s X u hu => by cases hu with | dictS _ hl _ _ _ => exact hl.typeIs
  get := fun A E s X u v Q hA hX hu hv h => by
    cases hv
    cases hu with
    | dictS hs hl hn e r =>
      rename_i t a kvs
      have key : ∃ z, valueAt kvs x = some z ∧ Rp C s.heap X z p := by
        clear hl
        induction kvs generalizing xs with
        | nil => cases xs with
          | nil => cases hx
          | cons q xs => cases e
        | cons kv kvs ih => cases xs with
          | nil => cases e
          | cons q xs =>
            obtain ⟨k1, v1⟩ := kv
            obtain ⟨k2, p2⟩ := q
            simp only [List.map_cons, List.cons.injEq] at e
            cases r with
            | cons r1 r =>
              have e1 : k1 = k2 := e.1
              subst e1
              rw [List.lookup_cons] at hx
              by_cases hk : x = k1
              · subst hk
                simp at hx
                subst hx
                exact ⟨v1, by simp [valueAt], r1⟩
              · have hb : (x == k1) = false := by simpa using hk
                rw [hb] at hx
                obtain ⟨z, hz, rz⟩ := ih hx e.2 r
                refine ⟨z, ?_, rz⟩
                have hk' : ¬ k1 = x := fun q => hk q.symm
                simpa [valueAt, List.find?_cons, hk'] using hz
      obtain ⟨z, hz, rz⟩ := key
      exact wpAny_getItem_of (k := x) (strKind_is C.prog C.w x t) hl.mapOf hz (h _ _ rz .tok)
theorem SubT.dictI {xs : List (Int × PV)} {x : Int} {p : PV} (hx : xs.lookup x = some p) : SubT C k (.dictI xs) (.int x) p "dict" "dict.__getitem__" where
  lk := slot_dict_getitem.lookup
  ty := fun s X u hu => by cases hu with | dictI _ hl _ _ _ => exact hl.typeIs
  get := fun A E s X u v Q hA hX hu hv h => by
    cases hv
    cases hu with
    | dictI hs hl hn e r =>
      rename_i t a kvs
      have key : ∃ z, valueAt kvs x = some z ∧ Rp C s.heap X z p := by
        clear hl
        induction kvs generalizing xs with
        | nil => cases xs with
          | nil => cases hx
          | cons q xs => cases e
        | cons kv kvs ih => cases xs with
          | nil => cases e
          | cons q xs =>
            obtain ⟨k1, v1⟩ := kv
            obtain ⟨k2, p2⟩ := q
            simp only [List.map_cons, List.cons.injEq] at e
            cases r with
            | cons r1 r =>
              have e1 : k1 = k2 := e.1
              subst e1
              rw [List.lookup_cons] at hx
              by_cases hk : x = k1
              · subst hk
                simp at hx
                subst hx
                exact ⟨v1, by simp [valueAt], r1⟩
              · have hb : (x == k1) = false := by simpa using hk
                rw [hb] at hx
                obtain ⟨z, hz, rz⟩ := ih hx e.2 r
                refine ⟨z, ?_, rz⟩
                have hk' : ¬ k1 = x := fun q => hk q.symm
                simpa [valueAt, List.find?_cons, hk'] using hz
      obtain ⟨z, hz, rz⟩ := key
      exact wpAny_getItem_of (k := x) (intKind_is C.prog C.w x t) hl.mapOf hz (h _ _ rz .tok)
end

section
variable {C : Cx} {k : Nat} {F : FE} {σ : Sg}
theorem sub_tail {M : Model} {A : Around} {E : Value → Shared → Prop} {s : Shared} {prog : Program} {w : World} {value slice : Expr} {o i : Value} {T id : String} {Q : Value → Shared → Prop} (hT : s.TypeIs o T)
    (hl : typeLookup (.type T) "__getitem__" = pure (some (.builtin id))) (h : wpAny (model prog w) A (getItem o i) Q E s)
    (hs : subscripted slice false o i = operate [o, i] (getItem o i) ∨ subscripted slice false o i = operate [i, o] (getItem o i)) :
    wpAny (model prog w) A (PyProof.Rows.subscriptTail value slice o i) Q E s := by
  unfold PyProof.Rows.subscriptTail
  refine wpAny_bind ?_
  rw [getitemInPython_of_ne hT.not_modules]
  refine wpAny_bind (wpAny_specialOf hT hl ?_)
  have fin : wpAny (model prog w) A (subscripted slice false o i) (fun r s₃ => wpAny (model prog w) A (letTemporaryGo value o r >>= fun _ => pure r) Q E s₃) E s := by
    rcases hs with hs | hs <;> rw [hs] <;>
      exact wpAny_operating (wpAny_mono h (fun r s₃ h₃ => wpAny_bind (wpAny_letTemporaryGo (wpAny_pure h₃))) fun _ _ x => x)
  first
    | exact wpAny_pure (wpAny_bind fin)
    | exact wpAny_bind (wpAny_pure (wpAny_bind fin))
    | exact wpAny_bind fin

theorem EvT.sub {value slice pos p q r T id} (hv : EvT C k F σ value p) (hi : EvT C k F σ slice q) (hr : SubT C k p q r T id) (hs : ∀ o i, subscripted slice false o i = operate [o, i] (getItem o i) := by intro _ _; first | kernel_rfl | rfl) :
    EvT C k F σ (.Subscript value slice pos) r := .mk fun Wo A E s Q hA f h =>
  PyProof.Rows.Subscript_ (hv.run Wo A E s _ hA f fun o s₁ ho p₁ => hi.run Wo A E s₁ _ hA (f.pas p₁) fun i s₂ hi p₂ =>
    sub_tail (M := C.M) (hr.ty s₂ _ o (ho.ext p₂.keep)) hr.lk (hr.get A E s₂ _ o i _ hA ((f.pas p₁).pas p₂).wbnd (ho.ext p₂.keep) hi fun z s₃ hz p₃ => h _ _ hz ((p₁.trans p₂).trans p₃)) (.inl (hs o i)))

/-- a part of a text -/
noncomputable def cutS (x : Str) (a b : Nat) : Str := ⟨((x.cps.toList.drop a).take (b - a)).toArray⟩
theorem cutS_len (x : Str) (a b : Nat) : (cutS x a b).length ≤ x.length := by
  simp [cutS, Str.length]; omega
theorem cutS_all (x : Str) : cutS x 0 x.length = x := by
  obtain ⟨l⟩ := x
  simp [cutS, Str.length]
  rw [show l.size = l.toList.length by simp, List.take_length]
theorem picked_is (x : Str) (a b : Nat) (hb : b ≤ x.length) (ha : a ≤ x.length) (ta tb : Tok) :
    slicePicked x (some ((a : Int), ta)) (some ((b : Int), tb)) none = (List.range (b - a)).map (a + ·) := by
  unfold slicePicked Builtin.Str.strSliceIndices
  have hb' : (b : Int) ≤ x.length := by exact_mod_cast hb
  have h1 : ¬ ((a : Int) < 0) := by omega
  have h2 : ¬ ((b : Int) < 0) := by omega
  simp only [Option.map_some, Option.map_none, Option.getD_none, h1, h2, if_false]
  have e1 : max (0 : Int) (min (a : Int) (x.length : Int)) = (a : Int) := by omega
  have e2 : max (0 : Int) (min (b : Int) (x.length : Int)) = (b : Int) := by omega
  simp only [show (1 : Int) > 0 from by decide, if_true, e1, e2]
  exact sliceRange_one a b
theorem picked_is' (x : Str) (a : Nat) (ha : a ≤ x.length) (ta : Tok) :
    slicePicked x (some ((a : Int), ta)) none none = (List.range (x.length - a)).map (a + ·) := by
  unfold slicePicked Builtin.Str.strSliceIndices
  have h1 : ¬ ((a : Int) < 0) := by omega
  simp only [Option.map_some, Option.map_none, Option.getD_none, h1, if_false]
  have e1 : max (0 : Int) (min (a : Int) (x.length : Int)) = (a : Int) := by omega
  simp only [show (1 : Int) > 0 from by decide, if_true, e1]
  exact sliceRange_one a x.length
theorem made_cut {x : Str} {t : Tok} {l u : Option (Int × Tok)} {a b : Nat} (hb : b ≤ x.length) (hy : slicePicked x l u none = (List.range (b - a)).map (a + ·)) (hsz : x.length ≤ sizeLine)
    {Q : Value → Shared → Prop} {s : Shared} (h : ∀ t' tk, Q (.str (cutS x a b) t') { s with toks := tk }) : (sliceMade x t l u none).post Q s := by
  unfold sliceMade
  rw [hy]
  split
  · rename_i hc
    rw [Bool.and_eq_true, beq_iff_eq, beq_iff_eq, List.length_map, List.length_range] at hc
    by_cases h0 : x.length = 0
    · have e : cutS x a b = x := by
        obtain ⟨l⟩ := x
        have : l = #[] := Array.eq_empty_of_size_eq_zero h0
        subst this
        simp [cutS]
      have := h t s.toks
      rw [e] at this
      exact this
    · have ea : a = 0 := by omega
      have eb : b = x.length := by omega
      have := h t s.toks
      rw [ea, eb, cutS_all] at this
      exact this
  · have e : (⟨(((List.range (b - a)).map (a + ·)).filterMap (x.cps[·]?)).toArray⟩ : Str) = cutS x a b := by rw [pick_run]; rfl
    show _ ∧ _
    rw [e]
    exact ⟨Nat.le_trans (cutS_len x a b) hsz, h _ _⟩

theorem EvT.cut {value lo hi p pos x a b} (hv : EvT C k F σ value (.str x)) (hl : EvT C k F σ lo (.int (a : Nat))) (hh : EvT C k F σ hi (.int (b : Nat))) (ha : a ≤ x.length) (hb : b ≤ x.length) (hsz : x.length ≤ sizeLine) :
    EvT C k F σ (.Subscript value (.Slice (some lo) (some hi) none p) pos) (.str (cutS x a b)) := .mk fun Wo A E s Q hA f h => by
  refine PyProof.Rows.Subscript_ (hv.run Wo A E s _ hA f fun o s₁ ho p₁ => ?_)
  refine wpAny_Slice (hl.run Wo A E s₁ _ hA (f.pas p₁) fun u s₂ hu p₂ => hh.run Wo A E s₂ _ hA ((f.pas p₁).pas p₂) fun v s₃ hv p₃ => ?_)
  cases ho; cases hu; cases hv
  rename_i t ta tb
  rw [evalPart_none]
  refine wpAny_pure (sub_tail (M := C.M) (T := "str") (typeIs_str _ x t) PySem.F.slot_str_getitem.lookup (wpAny_getItem_str_slice (l := some ((a : Int), ta)) (u := some ((b : Int), tb)) (st := none)
    ⟨_, Heap.get?_push_size _ rfl, rfl, rfl⟩ rfl (made_cut hb (picked_is x a b hb ha ta tb) hsz fun t' tk => h _ _ (.str _ _) (((p₁.trans p₂).trans p₃).trans .push))) (.inr rfl))
theorem EvT.cutFrom {value lo p pos x a} (hv : EvT C k F σ value (.str x)) (hl : EvT C k F σ lo (.int (a : Nat))) (ha : a ≤ x.length) (hsz : x.length ≤ sizeLine) :
    EvT C k F σ (.Subscript value (.Slice (some lo) none none p) pos) (.str (cutS x a x.length)) := .mk fun Wo A E s Q hA f h => by
  refine PyProof.Rows.Subscript_ (hv.run Wo A E s _ hA f fun o s₁ ho p₁ => ?_)
  refine wpAny_Slice (hl.run Wo A E s₁ _ hA (f.pas p₁) fun u s₂ hu p₂ => ?_)
  cases ho; cases hu
  rename_i t ta
  rw [evalPart_none]
  refine wpAny_pure (wpAny_pure (sub_tail (M := C.M) (T := "str") (typeIs_str _ x t) PySem.F.slot_str_getitem.lookup (wpAny_getItem_str_slice (l := some ((a : Int), ta)) (u := none) (st := none)
    ⟨_, Heap.get?_push_size _ rfl, rfl, rfl⟩ rfl (made_cut (Nat.le_refl _) (picked_is' x a ha ta) hsz fun t' tk => h _ _ (.str _ _) ((p₁.trans p₂).trans .push))) (.inr rfl)))
theorem EvT.upTo {value hi p pos xs} {b : Nat} (hv : EvT C k F σ value (.list xs)) (hh : EvT C k F σ hi (.int b)) (hsz : xs.length ≤ sizeLine) :
    EvT C k F σ (.Subscript value (.Slice none (some hi) none p) pos) (.list (xs.take b)) := .mk fun Wo A E s Q hA f h => by
  refine PyProof.Rows.Subscript_ (hv.run Wo A E s _ hA f fun o s₁ ho p₁ => ?_)
  refine wpAny_Slice ?_
  rw [evalPart_none]
  refine wpAny_pure (hh.run Wo A E s₁ _ hA (f.pas p₁) fun u s₂ hu p₂ => ?_)
  cases hu
  cases ho with
  | list hl hn r =>
    rename_i tb a vs
    have hl2 := hl.at fun o e => p₂.keep.k _ o id e
    have er := r.length
    rw [Array.length_toList] at er
    have fb := ((f.pas p₁).pas p₂).wbnd
    refine wpAny_pure (sub_tail (M := C.M) (T := "list") ((hl2.isList.push _).typeIs) list_getitem_lookup (wpAny_getItem_list_slice (st := none) (hl2.isList.push _) (Heap.IsSliceOf.new ..) .none (.int _ _) .none (by simp) ?_ (by omega)) (.inr rfl))
    rw [slicePick_upto']
    refine h _ _ (Rep.newList (Bdd.kp fb (.push (fun _ => False) _ _)) (((r.ext p₂.keep).ext (.push _ _ _)).take b)) ((p₁.trans p₂).trans (Pas.trans .push .push))
end
end Mine

end

section
open PySem
set_option linter.unusedVariables false
namespace Mine
open PySem.Builtin PySem.Calls

/-- what a def of the text gives back -/
noncomputable def FnT (C : Cx) (k : Nat) (fa : Addr) (ps : List PV) (r : PV) : Prop :=
  ∀ (Wo : Addr → Prop) (A : Around) (s : Shared) (vs : List Value) (R : Result → Shared → Prop), Room A k → (∀ b o, C.h₀.get? b = some o → s.heap.get? b = some o) → Bdd Wo s.heap → RpL C s.heap Wo vs ps →
    (∀ v s', Rp C s'.heap Wo v r → Pas s s' → R (.ok (.ret v)) s') → codeAny C.M A (.call (.ref fa) ⟨vs, []⟩) R s

section
variable {C : Cx} {k : Nat} {F : FE} {σ : Sg}
theorem EvL.args {e es pos ps} (h : EvL C k F σ (e :: es) pos ps) (hp : plainE e = true) {fv : Value} {Wo : Addr → Prop} {A : Around} {E : Value → Shared → Prop} {s : Shared} {Q : Args → Shared → Prop} (hA : Room A k)
    (f : Fm C Wo F σ s.heap) (hQ : ∀ vs s', RpL C s'.heap (Wx Wo F σ) vs ps → Pas s s' → Q ⟨vs, []⟩ s') : wpAny C.M A (evalArgs fv true (backTo pos (starEach (e :: es) F.env)) []) Q E s := by
  have q := h.run Wo A E s (fun vs s' => Q ⟨vs, []⟩ s') hA f hQ
  rw [starEach_plain hp] at q ⊢
  exact evalArgs_plain q
theorem noStar {es : List Expr} {pos : Pos} {env : Env} (h : es.all plainE = true) : (backTo pos (starEach es env)).any (·.1) = false := by
  induction es with
  | nil => rfl
  | cons e es ih =>
    rw [List.all_cons, Bool.and_eq_true] at h
    rw [starEach_plain h.1]
    show (false || (backTo pos (starEach es env)).any (·.1)) = false
    rw [ih h.2]; rfl

/-- a call of a def of the text -/
theorem EvT.callF {x np e es pos ps r fa o fd} (hf : EvV C k F σ (.Name x np) (.ref fa)) (ho : C.h₀.get? fa = some o) (hd : o.data = .func fd) (ha : EvL C k F σ (e :: es) pos ps) (hp : plainE e = true) (hr : FnT C k fa ps r) :
    EvT C k F σ (.Call (.Name x np) (e :: es) [] pos) r := .mk fun Wo A E s Q hA f h => by
  refine wpAny_Call_ofName (hf.run Wo A E s _ hA f fun s₁ p₁ => ?_)
  refine callWith_function (o := o) (fd := fd) (ha.args hp hA (f.pas p₁) fun vs s₂ hvs p₂ => ?_)
  have f₂ := (f.pas p₁).pas p₂
  refine ⟨⟨f₂.base _ _ ho, hd⟩, wpAny_call (hr _ A s₂ vs _ hA f₂.base f₂.wbnd hvs fun v s₃ hv p₃ => ?_)⟩
  exact h _ _ hv ((p₁.trans p₂).trans p₃)

/-- a call of a built-in function or type on values -/
noncomputable def CallT (C : Cx) (k : Nat) (fv : Value) (ps : List PV) (r : PV) : Prop :=
  ∀ (A : Around) (E : Value → Shared → Prop) (s : Shared) (X : Addr → Prop) (vs : List Value) (Q : Value → Shared → Prop), Room A k → Bdd X s.heap → (∀ b o, C.h₀.get? b = some o → s.heap.get? b = some o) → RpL C s.heap X vs ps →
    (∀ z s', Rp C s'.heap X z r → Pas s s' → Q z s') → wpAny C.M A (call fv vs) Q E s
theorem EvT.callB {x np e es pos ps r id} (hf : EvV C k F σ (.Name x np) (.builtin id)) (ha : EvL C k F σ (e :: es) pos ps) (hp : (e :: es).all plainE = true) (hr : CallT C k (.builtin id) ps r) :
    EvT C k F σ (.Call (.Name x np) (e :: es) [] pos) r := .mk fun Wo A E s Q hA f h => by
  refine wpAny_Call_ofName (hf.run Wo A E s _ hA f fun s₁ p₁ => ?_)
  have hp1 : plainE e = true := by rw [List.all_cons, Bool.and_eq_true] at hp; exact hp.1
  refine callWith_builtin (noStar hp) (ha.args hp1 hA (f.pas p₁) fun vs s₂ hvs p₂ => ?_)
  have f₂ := (f.pas p₁).pas p₂
  exact hr A E s₂ _ vs _ hA f₂.wbnd f₂.base hvs fun v s₃ hv p₃ => h _ _ hv ((p₁.trans p₂).trans p₃)
theorem EvT.callTy {x np e es pos ps r T} (hf : EvV C k F σ (.Name x np) (.type T)) (ha : EvL C k F σ (e :: es) pos ps) (hp : (e :: es).all plainE = true) (hr : CallT C k (.type T) ps r) :
    EvT C k F σ (.Call (.Name x np) (e :: es) [] pos) r := .mk fun Wo A E s Q hA f h => by
  refine wpAny_Call_ofName (hf.run Wo A E s _ hA f fun s₁ p₁ => ?_)
  have hp1 : plainE e = true := by rw [List.all_cons, Bool.and_eq_true] at hp; exact hp.1
  refine callWith_type (noStar hp) (ha.args hp1 hA (f.pas p₁) fun vs s₂ hvs p₂ => ?_)
  have f₂ := (f.pas p₁).pas p₂
  exact hr A E s₂ _ vs _ hA f₂.wbnd f₂.base hvs fun v s₃ hv p₃ => h _ _ hv ((p₁.trans p₂).trans p₃)

/-- a call of a built-in type's method; the value it is called upon, then the arguments -/
theorem EvT.callM {o name apos pos e es p ps r T id} (hv : EvT C k F σ o p) (ha : EvL C k F σ (e :: es) pos ps) (hp : (e :: es).all plainE = true) (pa : PlainAttrs T) (slot : Slot T name id)
    (hty : typeOf (.builtin id) = pure (.type "method_descriptor"))
    (ht : ∀ (s : Shared) X u, Rp C s.heap X u p → s.TypeIs u T ∧ ∀ a, u = .ref a → ∃ ob, s.heap.get? a = some ob ∧ ob.dict = none)
    (hr : CallT C k (.builtin id) (p :: ps) r)
    (hbase : attributeBase o name F.env (eval o F.env) = eval o F.env := by first | kernel_rfl | rfl)
    (hfew : ((backTo pos (starEach (e :: es) F.env)).all (fun x => !x.1) && (backToKw pos (keywordEach [] F.env)).all (fun x => x.1.isSome)
      && decide ((e :: es).length + ([] : List Keyword).length + (if ([] : List Keyword).isEmpty then 0 else 1) < 30)) = true := by first | kernel_rfl | rfl)
    (hline : (apos.endLine == pos.line) = true := by first | kernel_rfl | rfl) :
    EvT C k F σ (.Call (.Attribute o name apos) (e :: es) [] pos) r := .mk fun Wo A E s Q hA f h => by
  refine wpAny_Call_method hbase hfew hline pa slot hty (hv.run Wo A E s _ hA f fun u s₁ hu p₁ => ?_)
  refine ⟨(ht s₁ _ u hu).1, (ht s₁ _ u hu).2, ?_⟩
  have hp1 : plainE e = true := by rw [List.all_cons, Bool.and_eq_true] at hp; exact hp.1
  refine callWith_builtin (noStar hp) (ha.args hp1 hA (f.pas p₁) fun vs s₂ hvs p₂ => ?_)
  have f₂ := (f.pas p₁).pas p₂
  exact hr A E s₂ _ (u :: vs) _ hA f₂.wbnd f₂.base (.cons (hu.ext p₂.keep) hvs) fun v s₃ hv p₃ => h _ _ hv ((p₁.trans p₂).trans p₃)
end

section
variable {C : Cx} {k : Nat}
theorem RepL.ints {prog : Program} {w : World} {h : Heap} {X : Addr → Prop} {vs : List Value} {xs : List Int} (r : RepL prog w h X vs (xs.map PV.int)) : PyProof.Rows.IntsAre vs xs := by
  induction vs generalizing xs with
  | nil => cases xs with
    | nil => exact .nil
    | cons x xs => cases r
  | cons v vs ih => cases xs with
    | nil => cases r
    | cons x xs => cases r with | cons a r => cases a; exact .cons _ _ (ih r)
theorem RepL.strVals {prog : Program} {w : World} {h : Heap} {X : Addr → Prop} {vs : List Value} {xs : List Str} (r : RepL prog w h X vs (xs.map PV.str)) : ∃ l : List (Str × Tok), vs = strValues l ∧ l.map (·.1) = xs := by
  induction vs generalizing xs with
  | nil => cases xs with
    | nil => exact ⟨[], rfl, rfl⟩
    | cons x xs => cases r
  | cons v vs ih => cases xs with
    | nil => cases r
    | cons x xs =>
      cases r with
      | cons a r =>
        cases a with
        | str _ t =>
        obtain ⟨l, rfl, rfl⟩ := ih r
        exact ⟨(x, t) :: l, rfl, rfl⟩

theorem CallT.lenL {xs : List PV} (hz : xs.length < 2 ^ 63) : CallT C k (.builtin "len") [.list xs] (.int xs.length) := fun A E s X vs Q hA hX hb hvs h => by
  cases hvs with
  | cons a r =>
    cases r
    cases a with
    | list hl hn r =>
      have er := r.length
      rw [Array.length_toList] at er
      have := h (.int xs.length (s.toks + 1)) { s with toks := s.toks + 1 + 1 } (.int _ _) .tok
      rw [← er] at this
      exact PyProof.Rows.len_list hl.isList (by rw [er]; omega) this
theorem CallT.lenT {xs : List PV} (hz : xs.length < 2 ^ 63) : CallT C k (.builtin "len") [.tup xs] (.int xs.length) := fun A E s X vs Q hA hX hb hvs h => by
  cases hvs with
  | cons a r =>
    cases r
    cases a with
    | tup hl hn r =>
      have er := r.length
      rw [Array.length_toList] at er
      have := h (.int xs.length (s.toks + 1)) { s with toks := s.toks + 1 + 1 } (.int _ _) .tok
      rw [← er] at this
      exact PyProof.Rows.len_tuple (items := _) hl (by rw [er]; omega) this
theorem CallT.lenS {x : Str} (hz : x.length < 2 ^ 63) : CallT C k (.builtin "len") [.str x] (.int x.length) := fun A E s X vs Q hA hX hb hvs h => by
  cases hvs with
  | cons a r => cases r; cases a; exact PySem.P.len_str (by omega) (h _ _ (.int _ _) .tok)

theorem preSum_list (xs : List Int) : preSum (fun i => xs.getD i 0) xs.length = xs.sum := by
  have gen : ∀ n, n ≤ xs.length → preSum (fun i => xs.getD i 0) n = (xs.take n).sum := by
    intro n
    induction n with
    | zero => intro _; simp [preSum]
    | succ n ih =>
      intro hn
      rw [preSum, ih (by omega), List.take_add_one, List.sum_append]
      simp [List.getD, List.getElem?_eq_getElem (show n < xs.length by omega)]
  rw [gen _ (Nat.le_refl _), List.take_length]
theorem CallT.sumL {xs : List Int} : CallT C k (.builtin "sum") [.list (xs.map .int)] (.int xs.sum) := fun A E s X vs Q hA hX hb hvs h => by
  cases hvs with
  | cons a r =>
    cases r
    cases a with
    | list hl hn r =>
      rename_i a vs
      have hi := r.ints
      have er := r.length
      rw [Array.length_toList, List.length_map] at er
      refine with_size (call_sum_walkG (wpAny_pyIter_list hl.isList ?_))
      have hne : a ≠ s.heap.objs.size := Nat.ne_of_lt (by obtain ⟨n, e⟩ := hl; exact Heap.lt_size e)
      refine ⟨_, _, _, _, _, _, fun i => xs.getD i 0, rfl, Walks.list (A := A.in1) hA.hh _ a hne vs, ⟨⟨_, Heap.get?_push_size _ rfl, rfl, rfl⟩, hl.isList.push _⟩, ?_, ?_, ?_⟩
      · intro b hb
        have ha : a < s.heap.objs.size := by obtain ⟨n, e⟩ := hl; exact Heap.lt_size e
        show b < (s.heap.push _).objs.size
        rw [Heap.size_push]
        rcases List.mem_cons.mp hb with rfl | hb
        · exact Nat.lt_succ_self _
        · rw [List.mem_singleton.mp hb]; exact Nat.lt_succ_of_lt ha
      · intro i v hv
        obtain ⟨p, hp, rp⟩ := r.get (i := i) (v := v) (by simpa using hv)
        rw [List.getElem?_map] at hp
        cases hx : xs[i]? with
        | none => rw [hx] at hp; cases hp
        | some x =>
          rw [hx] at hp
          cases hp
          cases rp with
          | int _ t => exact ⟨t, by simp [List.getD, hx]⟩
      · intro h' tk t' hk hsz
        rw [er, preSum_list]
        refine h _ _ (.int _ _) (.of_heap ⟨fun b o _ e => hk b o (fun q => ?_) (Heap.get?_push_of_some _ e), hsz⟩)
        rw [List.mem_singleton.mp q] at e
        exact absurd (Heap.lt_size e) (Nat.lt_irrefl _)
end
end Mine

end

section
open PySem
set_option linter.unusedVariables false
namespace Mine
open PySem.Builtin PySem.Calls

theorem RepL.of_get {prog : Program} {w : World} {h : Heap} {X : Addr → Prop} : ∀ {vs : List Value} {ps : List PV}, vs.length = ps.length →
    (∀ (i : Nat) v p, vs[i]? = some v → ps[i]? = some p → Rep prog w h X v p) → RepL prog w h X vs ps
  | [], [], _, _ => .nil
  | [], _ :: _, e, _ => by cases e
  | _ :: _, [], e, _ => by cases e
  | v :: vs, p :: ps, e, hp => .cons (hp 0 v p rfl rfl) (RepL.of_get (by simpa using e) fun i u q h1 h2 => hp (i + 1) u q (by simpa using h1) (by simpa using h2))
section
variable {C : Cx} {k : Nat}
theorem CallT.join {x : Str} {xs : List Str} (hok : JoinOk x xs = true) : CallT C k (.builtin "str.join") [.str x, .list (xs.map .str)] (.str (Txt.join x xs)) := fun A E s X vs Q hA hX hb hvs h => by
  cases hvs with
  | cons a r =>
    cases a
    cases r with
    | cons b r =>
      cases r
      cases b with
      | list hl hn r =>
        rename_i t a vs
        obtain ⟨l, e, el⟩ := r.strVals
        have e' : vs = (strValues l).toArray := by rw [← e]
        rw [e'] at hl
        exact SC.join hl.isList el hok fun t' tk => h _ _ (.str _ _) .tok
theorem strTy {p : PV} {x : Str} (hp : p = .str x) : ∀ (s : Shared) X u, Rp C s.heap X u p → s.TypeIs u "str" ∧ ∀ a, u = .ref a → ∃ ob, s.heap.get? a = some ob ∧ ob.dict = none := by
  subst hp
  intro s X u hu
  cases hu
  exact ⟨typeIs_str _ _ _, fun a e => nomatch e⟩
theorem listTy {p : PV} {xs : List PV} (hp : p = .list xs) : ∀ (s : Shared) X u, Rp C s.heap X u p → s.TypeIs u "list" ∧ ∀ a, u = .ref a → ∃ ob, s.heap.get? a = some ob ∧ ob.dict = none := by
  subst hp
  intro s X u hu
  cases hu with
  | list hl hn r =>
    obtain ⟨n, e⟩ := hl
    refine ⟨⟨_, e, rfl⟩, fun a q => ?_⟩
    cases q
    exact ⟨_, e, rfl⟩
theorem CallT.indexS {x y : Str} {i : Nat} {rest : List Nat} (ho : Builtin.Str.occurrences x y 0 x.length 1 = i :: rest) : CallT C k (.builtin "str.index") [.str x, .str y] (.int i) := fun A E s X vs Q hA hX hb hvs h => by
  cases hvs with
  | cons a r =>
    cases a
    cases r with
    | cons b r =>
      cases r; cases b
      exact SC.index ho (h _ _ (.int _ _) .tok)
theorem CallT.indexB {xs : List Bool} {j : Nat} (hj : xs[j]? = some true) (hno : ∀ m, m < j → xs[m]? ≠ some true) (hz : xs.length < 2 ^ 60) :
    CallT C (k + 1) (.builtin "list.index") [.list (xs.map .bool), .bool true] (.int j) := fun A E s X vs Q hA hX hb hvs h => by
  cases hvs with
  | cons a r =>
    cases r with
    | cons b r =>
      cases r
      cases b
      cases a with
      | list hl hn r =>
        rename_i a vs
        obtain ⟨n, ho⟩ := id hl
        have er := r.length
        rw [Array.length_toList, List.length_map] at er
        have hjl : j < xs.length := (List.getElem?_eq_some_iff.mp hj).1
        have hjv : j < vs.size := by omega
        have val : ∀ (m : Nat) (hm : m < vs.size), ∃ b, xs[m]? = some b ∧ vs[m] = .bool b := fun m hm => by
          obtain ⟨p, hp, rp⟩ := r.get (i := m) (v := vs[m]) (by simp [hm])
          rw [List.getElem?_map] at hp
          cases hx : xs[m]? with
          | none => rw [hx] at hp; cases hp
          | some b =>
            rw [hx] at hp
            cases hp
            refine ⟨b, rfl, ?_⟩
            generalize vs[m] = z at rp
            cases rp
            rfl
        refine call_meets PySem.F.slot_list_index ⟨_, ho, rfl⟩ PySem.F.entry_list_index (PySem.F.args_list_index_2 _ _)
          (SeqAt.list_indexAt a vs n none #[] (.bool true) (fun v => v == .bool true) j hjv (by omega) ?_ ?_) ⟨ho, ?_, h _ _ (.int _ _) .tok⟩
        · obtain ⟨b, hb1, hb2⟩ := val j hjv
          rw [hj] at hb1
          cases hb1
          rw [hb2]; rfl
        · intro m hm hlt
          obtain ⟨b, hb1, hb2⟩ := val m hm
          rw [hb2]
          cases b
          · rfl
          · exact absurd hb1 (hno m hlt)
        · intro y hy
          obtain ⟨m, hm, rfl⟩ := Array.mem_iff_getElem.mp hy
          obtain ⟨b, hb1, hb2⟩ := val m hm
          rw [hb2]
          have q := SeqAt.eqAt_reads (.bool b) (.bool true) A.in1 s (.bool b) (.bool true) [] [] (.bool b) (.bool true) rfl rfl (by
            have := hA.un
            show A.units + 1 + _ < cLine
            simp only [PyData.depth, cLine]; omega)
          have e : PyData.eqv (.bool b) (.bool true) = (Value.bool b == Value.bool true) := by cases b <;> rfl
          rw [e] at q
          exact q
theorem CallT.listD {xs : List (Str × PV)} (hz : xs.length ≤ sizeLine) : CallT C k (.type "list") [.dictS xs] (.list (xs.map fun q => .str q.1)) := fun A E s X vs Q hA hX hb hvs h => by
  cases hvs with
  | cons a r =>
    cases r
    cases a with
    | dictS hs hl hn e r =>
      rename_i d kvs
      have el : kvs.length = xs.length := by simpa using congrArg List.length e
      obtain ⟨o, es, ep, ho, hc, hd, hk, hp, hnd⟩ := hl
      have hat : s.heap.DictAt (strKind C.prog C.w) d kvs ep := ⟨o, es, ho, hc, hd, hk, hp, hnd⟩
      refine with_size (PySem.W.kdl_call (PySem.W.kdl_dict (knd := strKind C.prog C.w) (kvs := kvs) (ep := ep) hs) hA.hh hat (by rw [el]; exact hz) fun h' tk acc c hk' hS hacc hsz => ?_)
      refine h _ _ ?_ (.of_heap ⟨fun b o _ e => hk' b o e, hsz⟩)
      refine .list ⟨c, hS⟩ hX.new ?_
      obtain ⟨hlen, hit⟩ := hacc
      refine .of_get (by rw [Array.length_toList, hlen, el, List.length_map]) fun i v p hv hp => ?_
      obtain ⟨kk, x, hx, hkk⟩ := hit i v (by simpa using hv)
      rw [List.getElem?_map] at hp
      have e2 : (kvs.map (·.1))[i]? = (xs.map (·.1))[i]? := by rw [e]
      rw [List.getElem?_map, List.getElem?_map, hx] at e2
      cases hxi : xs[i]? with
      | none => rw [hxi] at hp; cases hp
      | some q =>
        rw [hxi] at hp e2
        cases hp
        obtain ⟨t, rfl⟩ := Value.isStrOf_shape hkk
        have : kk = q.1 := Option.some.inj e2
        subst this
        exact .str _ _

/-- isinstance of an int -/
theorem EvT.isiInt {x np e tn tp pos i} {F : FE} {σ : Sg} (hf : EvV C k F σ (.Name x np) (.builtin "isinstance")) (he : EvT C k F σ e (.int i)) (ht : EvV C k F σ (.Name tn tp) (.type "int")) (hp : plainE e = true) :
    EvT C k F σ (.Call (.Name x np) [e, .Name tn tp] [] pos) (.bool true) := .mk fun Wo A E s Q hA f h => by
  refine wpAny_Call_ofName (hf.run Wo A E s _ hA f fun s₁ p₁ => ?_)
  refine callWith_builtin (noStar (by rw [List.all_cons, hp]; rfl)) ?_
  rw [starEach_plain hp]
  refine evalArgs_plain (spliced_cons (he.run Wo A E s₁ _ hA (f.pas p₁) fun u s₂ hu p₂ => ?_))
  refine spliced_cons (ht.run Wo A E s₂ _ hA ((f.pas p₁).pas p₂) fun s₃ p₃ => spliced_nil ?_)
  cases hu
  exact PyProof.Rows.call_isinstance_yes (Tx := "int") (T := "int") (typeIs_int _ _ _) (by kernel_rfl) (by rw [isSubtype_type]; kernel_rfl) (h _ _ (.bool _) ((p₁.trans p₂).trans p₃))
theorem EvT.isiTup {x np e tn tp pos i} {F : FE} {σ : Sg} (hf : EvV C k F σ (.Name x np) (.builtin "isinstance")) (he : EvT C k F σ e (.int i)) (ht : EvV C k F σ (.Name tn tp) (.type "tuple")) (hp : plainE e = true) :
    EvT C k F σ (.Call (.Name x np) [e, .Name tn tp] [] pos) (.bool false) := .mk fun Wo A E s Q hA f h => by
  refine wpAny_Call_ofName (hf.run Wo A E s _ hA f fun s₁ p₁ => ?_)
  refine callWith_builtin (noStar (by rw [List.all_cons, hp]; rfl)) ?_
  rw [starEach_plain hp]
  refine evalArgs_plain (spliced_cons (he.run Wo A E s₁ _ hA (f.pas p₁) fun u s₂ hu p₂ => ?_))
  refine spliced_cons (ht.run Wo A E s₂ _ hA ((f.pas p₁).pas p₂) fun s₃ p₃ => spliced_nil ?_)
  cases hu
  exact call_isinstance (isinstance_false_int (by decide) (by kernel_rfl) (by rw [isSubtype_type]; kernel_rfl)) (h _ _ (.bool _) (((p₁.trans p₂).trans p₃).trans .tok))
end
end Mine

end

section
open PySem
set_option linter.unusedVariables false
namespace Mine
open PySem.Builtin PySem.Calls

inductive Out where
  | nx
  | br
  | rt (p : PV)

noncomputable def flowIs (C : Cx) (h : Heap) (Wo : Addr → Prop) : Flow → Out → Prop
  | .next, .nx => True
  | .brk, .br => True
  | .ret v, .rt p => Rp C h Wo v p
  | _, _ => False

/-- where a run of statements ends -/
structure Ends (C : Cx) (F : FE) (σ : Sg) (Wo : Addr → Prop) (s : Shared) (P : Out → Sg → Prop) (fl : Flow) (s' : Shared) : Prop where
  ex : ∃ o σ', P o σ' ∧ flowIs C s'.heap Wo fl o ∧ Fm C Wo F σ' s'.heap ∧ Stp (own F σ) (fun _ => False) s s' ∧ ∀ b, own F σ' b → own F σ b ∨ s.heap.objs.size ≤ b

structure SxT (C : Cx) (k : Nat) (F : FE) (σ : Sg) (st : Stmt) (P : Out → Sg → Prop) : Prop where
  run : ∀ (Wo : Addr → Prop) (A : Around) (E : Value → Shared → Prop) (s : Shared), Room A k → Fm C Wo F σ s.heap → wpAny C.M A (exec st F.env) (Ends C F σ Wo s P) E s
structure ExT (C : Cx) (k : Nat) (F : FE) (σ : Sg) (ss : List Stmt) (P : Out → Sg → Prop) : Prop where
  run : ∀ (Wo : Addr → Prop) (A : Around) (E : Value → Shared → Prop) (s : Shared), Room A k → Fm C Wo F σ s.heap → wpAny C.M A (execs ss F.env) (Ends C F σ Wo s P) E s
noncomputable abbrev one (σ' : Sg) : Out → Sg → Prop := fun o σ₁ => o = .nx ∧ σ₁ = σ'
noncomputable abbrev rets (σ' : Sg) (p : PV) : Out → Sg → Prop := fun o σ₁ => o = .rt p ∧ σ₁ = σ'

section
variable {C : Cx} {k : Nat} {F : FE} {σ : Sg}
theorem Ends.mono {Wo s P P' fl s'} (e : Ends C F σ Wo s P fl s') (h : ∀ o σ', P o σ' → P' o σ') : Ends C F σ Wo s P' fl s' :=
  let ⟨o, σ', p, r⟩ := e.ex; ⟨o, σ', h _ _ p, r⟩
theorem SxT.mono {st P P'} (x : SxT C k F σ st P) (h : ∀ o σ', P o σ' → P' o σ') : SxT C k F σ st P' := .mk fun Wo A E s hA f => wpAny_mono (x.run Wo A E s hA f) (fun _ _ e => e.mono h) fun _ _ e => e
theorem ExT.mono {st P P'} (x : ExT C k F σ st P) (h : ∀ o σ', P o σ' → P' o σ') : ExT C k F σ st P' := .mk fun Wo A E s hA f => wpAny_mono (x.run Wo A E s hA f) (fun _ _ e => e.mono h) fun _ _ e => e
theorem Ends.stay {Wo : Addr → Prop} {s s' : Shared} {σ' : Sg} {P : Out → Sg → Prop} (hP : P .nx σ') (f : Fm C Wo F σ' s'.heap) (st : Stp (own F σ) (fun _ => False) s s') (ho : ∀ b, own F σ' b → own F σ b ∨ s.heap.objs.size ≤ b) :
    Ends C F σ Wo s P .next s' := ⟨_, _, hP, trivial, f, st, ho⟩
theorem Ends.trans {Wo : Addr → Prop} {s s₁ s₂ : Shared} {σ₁ : Sg} {P : Out → Sg → Prop} {fl : Flow} (st : Stp (own F σ) (fun _ => False) s s₁) (ho : ∀ b, own F σ₁ b → own F σ b ∨ s.heap.objs.size ≤ b)
    (e : Ends C F σ₁ Wo s₁ P fl s₂) : Ends C F σ Wo s P fl s₂ := by
  obtain ⟨o, σ', p, q, f, st', ho'⟩ := e.ex
  refine ⟨o, σ', p, q, f, st.trans st' ho fun _ (z : False) => z.elim, fun b hb => ?_⟩
  rcases ho' b hb with z | z
  · exact ho b z
  · exact .inr (Nat.le_trans st.keep.sz z)
theorem ExT.nil {P : Out → Sg → Prop} (h : P .nx σ) : ExT C k F σ [] P := .mk fun Wo A E s hA f => wpAny_execs_nil (.stay h f .refl fun _ q => .inl q)
theorem ExT.seq {st rest P₁ P} (h₁ : SxT C k F σ st P₁) (h₂ : ∀ o σ', P₁ o σ' → match o with | .nx => ExT C k F σ' rest P | o => P o σ') : ExT C k F σ (st :: rest) P := .mk fun Wo A E s hA f => by
  refine wpAny_execs_cons (wpAny_mono (h₁.run Wo A E s hA f) (fun fl s₁ e => ?_) fun _ _ e => e)
  obtain ⟨o, σ', p, q, f', st', ho'⟩ := e.ex
  have h := h₂ o σ' p
  cases o with
  | nx =>
    cases fl <;> first | exact q.elim | skip
    exact wpAny_mono (h.run Wo A E s₁ hA f') (fun fl s₂ e => .trans st' ho' e) fun _ _ e => e
  | br =>
    cases fl <;> first | exact q.elim | skip
    exact ⟨_, _, h, q, f', st', ho'⟩
  | rt p' =>
    cases fl <;> first | exact q.elim | skip
    exact ⟨_, _, h, q, f', st', ho'⟩
theorem ExT.seq1 {st rest σ₁ P} (h₁ : SxT C k F σ st (one σ₁)) (h₂ : ExT C k F σ₁ rest P) : ExT C k F σ (st :: rest) P :=
  .seq h₁ fun o σ' h => by obtain ⟨rfl, rfl⟩ := h; exact h₂
theorem ExT.last {st P} (h : SxT C k F σ st P) : ExT C k F σ [st] P := .seq h fun o σ' p => by cases o <;> first | exact .nil p | exact p

/-- a target -/
noncomputable def TgT (C : Cx) (k : Nat) (F : FE) (tgt : Expr) (p : PV) (upd : Sg → Sg) : Prop :=
  ∀ (σ : Sg) (Wo : Addr → Prop) (A : Around) (E : Value → Shared → Prop) (s : Shared) (v : Value) (Q : Unit → Shared → Prop), Room A k → Fm C Wo F σ s.heap → Rp C s.heap (Wx Wo F σ) v p →
    (∀ s', Fm C Wo F (upd σ) s'.heap → Stp (own F σ) (fun _ => False) s s' → (∀ b, own F (upd σ) b → own F σ b) → Q () s') → wpAny C.M A (assign tgt F.env v) Q E s

theorem own_pv (hk : (σ.map (·.1)).Nodup) {x : Str} {p : PV} {b : Addr} (q : own F (put σ x (.pv p)) b) : own F σ b := (own_put hk q).elim id fun z => z.elim
theorem Wx_pv {Wo : Addr → Prop} (hk : (σ.map (·.1)).Nodup) {x : Str} {p : PV} {b : Addr} (q : Wx Wo F (put σ x (.pv p)) b) : Wx Wo F σ b := q.imp id (own_pv hk)
theorem TgT.name {x pos p} (hx : storable F x = true) : TgT C k F (.Name x pos) p (fun σ => put σ x (.pv p)) := fun σ Wo A E s v Q hA f r h =>
  wpAny_assign_Name (store_pv f hx r fun s' f' st => h s' f' st fun b q => own_pv f.keys q)
/-- what a step of the frame's own leaves of a value -/
theorem Rep.stp {Wo : Addr → Prop} {s s' : Shared} {v : Value} {p : PV} {og} (r : Rp C s.heap (Wx Wo F σ) v p) (st : Stp (own F σ) og s s') : Rp C s'.heap (Wx Wo F σ) v p :=
  r.step (st.keep.mono fun _ q => .inr q) fun _ q => .inl q
theorem RepL.stp {Wo : Addr → Prop} {s s' : Shared} {v : List Value} {p : List PV} {og} (r : RpL C s.heap (Wx Wo F σ) v p) (st : Stp (own F σ) og s s') : RpL C s'.heap (Wx Wo F σ) v p :=
  r.step (st.keep.mono fun _ q => .inr q) fun _ q => .inl q
theorem unpack_pair {A : Around} {E : Value → Shared → Prop} {s : Shared} {a : Addr} {v1 v2 : Value} {Q : List Value → Shared → Prop} (hA : Room A k) (ht : s.heap.IsTuple a #[v1, v2])
    (h : ∀ h', Kp (fun _ => False) s.heap h' → Q [v1, v2] { s with heap := h' }) : wpAny C.M A (unpackItems (.ref a) 2 none) Q E s := by
  refine with_size (wpAny_unpackItems_tuple (items := #[v1, v2]) hA.hh ht fun h' hx hsz => h h' ⟨fun b o _ e => hx b o (Nat.ne_of_lt (Heap.lt_size e)) e, hsz⟩)
theorem store_two {Wo : Addr → Prop} {A : Around} {E : Value → Shared → Prop} {s : Shared} {x y : Str} {v1 v2 : Value} {p q : PV} {Q : Unit → Shared → Prop} (hx : storable F x = true) (hy : storable F y = true) (f : Fm C Wo F σ s.heap)
    (r1 : Rp C s.heap (Wx Wo F σ) v1 p) (r2 : Rp C s.heap (Wx Wo F σ) v2 q)
    (h : ∀ s', Fm C Wo F (put (put σ x (.pv p)) y (.pv q)) s'.heap → Stp (own F σ) (fun _ => False) s s' → (∀ b, own F (put (put σ x (.pv p)) y (.pv q)) b → own F σ b) → Q () s') :
    wpAny C.M A (storeName F.env x v1) (fun _ s₁ => wpAny C.M A (storeName F.env y v2) Q E s₁) E s := by
  refine store_pv f hx r1 fun s₁ f₁ st₁ => store_pv f₁ hy ((r2.stp st₁).less fun b q => Wx_pv f.keys q) fun s₂ f₂ st₂ => ?_
  exact h s₂ f₂ (st₁.trans st₂ (fun b q => .inl (own_pv f.keys q)) fun _ (z : False) => z.elim) fun b q => own_pv f.keys (own_pv f₁.keys q)
theorem TgT.pair {x px y py kk pos p q} (hx : storable F x = true) (hy : storable F y = true) :
    TgT C k F (.Tuple [.Name x px, .Name y py] kk pos) (.tup [p, q]) (fun σ => put (put σ x (.pv p)) y (.pv q)) := fun σ Wo A E s v Q hA f r h => by
  cases r with
  | tup ht hn rl =>
    rename_i a vs
    obtain ⟨vl⟩ := vs
    cases rl with
    | cons r1 rl =>
      cases rl with
      | cons r2 rl =>
        cases rl
        rename_i v1 v2
        rw [arm_assign_Tuple]
        refine wpAny_bind (wpAny_standAt ?_)
        show wpAny _ A (holding [Value.ref a] (unpackItems (.ref a) 2 none) >>= fun items => assignInOrder [fun v => assign (.Name x px) F.env v, fun v => assign (.Name y py) F.env v] items) _ _ _
        refine wpAny_bind (wpAny_holding (unpack_pair hA ht fun h' hk => ?_))
        refine wpAny_assignInOrder_more (wpAny_assign_Name ?_)
        refine wpAny_mono (store_two (s := { s with heap := h' }) (Q := fun _ s' => wpAny C.M A (assignInOrder [] []) Q E s') (E := E) hx hy (f.ext hk) (r1.ext hk) (r2.ext hk) fun s' f' st ho => wpAny_assignInOrder_none (h s' f' (Stp.trans (.of_heap0 hk.any) st (fun _ q => .inl q) fun _ (z : False) => z.elim) ho)) (fun _ s₁ h₁ => ?_) fun _ _ e => e
        exact wpAny_assignInOrder_more (wpAny_assign_Name h₁)

theorem SxT.assign {x px e p pos} (he : EvT C k F σ e p) (hx : storable F x = true) (hs : swapsWith e (some (.Name x px)) pos.line F.env = pure false := by first | kernel_rfl | rfl) :
    SxT C k F σ (.Assign [.Name x px] e pos) (one (put σ x (.pv p))) := .mk fun Wo A E s hA f =>
  wpAny_Assign_Name (he.run Wo A E s _ hA f fun v s₁ hv p₁ => store_pv (f.pas p₁) hx hv fun s₂ f₂ st => .stay ⟨rfl, rfl⟩ f₂ (p₁.stp.trans st (fun _ q => .inl q) fun _ (z : False) => z.elim) fun b q => .inl (own_pv f.keys q)) hs
/-- a pair that is no display is taken apart -/
theorem SxT.assign2 {x px y py kk tp e p q pos} (he : EvT C k F σ e (.tup [p, q])) (hx : storable F x = true) (hy : storable F y = true)
    (hs : swapsWithSole [.Tuple [.Name x px, .Name y py] kk tp] e pos.line F.env = pure false := by first | kernel_rfl | rfl)
    (hw : swappedStores [.Tuple [.Name x px, .Name y py] kk tp] e F.env = pure none := by first | kernel_rfl | rfl) :
    SxT C k F σ (.Assign [.Tuple [.Name x px, .Name y py] kk tp] e pos) (one (put (put σ x (.pv p)) y (.pv q))) := .mk fun Wo A E s hA f =>
  PyProof.Rows.Assign_Tuple (he.run Wo A E s _ hA f fun v s₁ hv p₁ => TgT.pair hx hy σ Wo A E s₁ v _ hA (f.pas p₁) hv fun s₂ f₂ st ho => .stay ⟨rfl, rfl⟩ f₂ (p₁.stp.trans st (fun _ q => .inl q) fun _ (z : False) => z.elim) fun b q => .inl (ho b q)) hs hw
/-- a pair written out: the second name is stored first -/
theorem SxT.assignSw {x px y py kk tp e p q pos} (he : EvT C k F σ e (.tup [p, q])) (hx : storable F x = true) (hy : storable F y = true)
    (hs : swapsWithSole [.Tuple [.Name x px, .Name y py] kk tp] e pos.line F.env = pure false := by first | kernel_rfl | rfl)
    (hw : swappedStores [.Tuple [.Name x px, .Name y py] kk tp] e F.env = pure (some [x, y]) := by first | kernel_rfl | rfl) :
    SxT C k F σ (.Assign [.Tuple [.Name x px, .Name y py] kk tp] e pos) (one (put (put σ y (.pv q)) x (.pv p))) := .mk fun Wo A E s hA f => by
  refine PyProof.Rows.Assign_Tuple_swapped (names := [x, y]) (he.run Wo A E s _ hA f fun v s₁ hv p₁ => ?_) hs hw
  cases hv with
  | tup ht hn rl =>
    rename_i a vs
    obtain ⟨vl⟩ := vs
    cases rl with
    | cons r1 rl =>
      cases rl with
      | cons r2 rl =>
        cases rl
        rename_i v1 v2
        refine unpack_pair hA ht fun h' hk => ?_
        show wpAny _ A (assignInOrder [fun v => bindName F.env y v, fun v => bindName F.env x v] [v2, v1]) _ _ _
        refine wpAny_assignInOrder_more (wpAny_bindName ?_)
        refine wpAny_mono (store_two (s := { s₁ with heap := h' }) (Q := fun _ s' => wpAny C.M A (assignInOrder [] []) (fun _ => Ends C F σ Wo s (one (put (put σ y (.pv q)) x (.pv p))) .next) E s') (E := E) hy hx ((f.pas p₁).ext hk) (r2.ext hk) (r1.ext hk) fun s' f' st ho =>
          wpAny_assignInOrder_none (.stay ⟨rfl, rfl⟩ f' (p₁.stp.trans (Stp.trans (.of_heap0 hk.any) st (fun _ q => .inl q) fun _ (z : False) => z.elim) (fun _ q => .inl q) fun _ (z : False) => z.elim) fun b q => .inl (ho b q))) (fun _ s₂ h₂ => ?_) fun _ _ e => e
        exact wpAny_assignInOrder_more (wpAny_bindName h₂)
theorem SxT.ret {e p pos} (he : EvT C k F σ e p) : SxT C k F σ (.Return (some e) pos) (rets σ p) := .mk fun Wo A E s hA f =>
  wpAny_Return_some (he.run Wo A E s _ hA f fun v s₁ hv p₁ => ⟨_, _, ⟨rfl, rfl⟩, hv.less fun b q => .inl q, f.pas p₁, p₁.stp, fun _ q => .inl q⟩)
theorem SxT.brk {pos} : SxT C k F σ (.Break pos) (fun o σ' => o = .br ∧ σ' = σ) := .mk fun Wo A E s hA f =>
  wpAny_Break ⟨_, _, ⟨rfl, rfl⟩, trivial, f, .refl, fun _ q => .inl q⟩
theorem SxT.ifT {t b o pos P} (ht : TsT C k F σ t true) (hb : ExT C k F σ b P) : SxT C k F σ (.If t b o pos) P := .mk fun Wo A E s hA f =>
  wpAny_If (ht.run Wo A E s _ hA f fun s₁ p₁ => by
    simp only [if_true]
    exact wpAny_mono (hb.run Wo A E s₁ hA (f.pas p₁)) (fun _ _ e => .trans p₁.stp (fun _ q => .inl q) e) fun _ _ e => e)
theorem SxT.ifF {t b o pos P} (ht : TsT C k F σ t false) (hb : ExT C k F σ o P) : SxT C k F σ (.If t b o pos) P := .mk fun Wo A E s hA f =>
  wpAny_If (ht.run Wo A E s _ hA f fun s₁ p₁ => by
    simp only [Bool.false_eq_true, if_false]
    exact wpAny_mono (hb.run Wo A E s₁ hA (f.pas p₁)) (fun _ _ e => .trans p₁.stp (fun _ q => .inl q) e) fun _ _ e => e)
theorem SxT.ifB {t b o pos P} (c : Bool) (ht : TsT C k F σ t c) (hb : c = true → ExT C k F σ b P) (ho : c = false → ExT C k F σ o P) : SxT C k F σ (.If t b o pos) P := by
  cases c
  · exact .ifF ht (ho rfl)
  · exact .ifT ht (hb rfl)
theorem SxT.augI {x px e a b pos} (hx : σ.lookup x = some (.pv (.int a))) (he : EvT C k F σ e (.int b)) (hs : storable F x = true) (hc : (x == ("__classdict__" : Str)) = false := by decide +kernel) :
    SxT C k F σ (.AugAssign (.Name x px) .Add e pos) (one (put σ x (.pv (.int (a + b))))) := .mk fun Wo A E s hA f => by
  refine wpAny_AugAssign_Name (loadName_bd hx f hc fun u hu => ?_)
  cases hu with
  | pv hu =>
    cases hu
    refine he.run Wo A E s _ hA f fun v s₁ hv p₁ => ?_
    cases hv
    refine PyProof.Rows.iadd_int ?_
    have p₂ : Pas s₁ { s₁ with toks := s₁.toks + 1 } := .tok
    exact store_pv (f.pas p₁ |>.pas p₂) hs (.int _ _) fun s₂ f₂ st => .stay ⟨rfl, rfl⟩ f₂ ((p₁.trans p₂).stp.trans st (fun _ q => .inl q) fun _ (z : False) => z.elim) fun b q => .inl (own_pv f.keys q)
end
end Mine

end

section
open PySem
set_option linter.unusedVariables false
namespace Mine
open PySem.Builtin PySem.Calls

section
variable {C : Cx} {k : Nat} {F : FE} {σ : Sg} {Wo : Addr → Prop}

/-- an owned list has changed -/
theorem Fm.setLst {h h' : Heap} (f : Fm C Wo F σ h) {x : Str} {a : Addr} {xs xs' : List PV} {vs' : Array Value} (hx : F.env.kindOf x = some .local) (hm : (x, Bd.lst a xs) ∈ σ) (hs : Heap.SameBut a h h')
    (hl : h'.PlainList a vs') (r : RpL C h (Wx Wo F σ) vs'.toList xs') : Fm C Wo F (put σ x (.lst a xs')) h' := by
  have hoff := f.off _ hm a rfl
  have ha0 := f.new a (.inr (.inr ⟨_, hm, rfl⟩))
  have inW : Wx Wo F σ a := .inr (.inr (.inr ⟨_, hm, rfl⟩))
  have ownP : ∀ b, own F (put σ x (.lst a xs')) b → own F σ b := fun b q => (own_put f.keys q).elim id fun z => .inr (.inr ⟨_, hm, z⟩)
  have hW : ∀ b, Wx Wo F (put σ x (.lst a xs')) b → Wx Wo F σ b := fun b q => q.imp id (ownP b)
  have keep : Kp (Wx Wo F σ) h h' := .same hs inW
  obtain ⟨m, hn, hnm⟩ := f.names
  refine ⟨f.kind, f.gl, f.bi, fun b o e => (hs.2 b fun q => by rw [q, ha0] at e; cases e).trans (f.base b o e), ⟨m, hn.sameBut hs (Ne.symm hoff.1), fun y b hy => ?_⟩, fun z hz => ?_, f.apart, fun p hp => hs.1 ▸ f.cb p hp, (put_keys f.keys).1,
    fun b q => f.new b (ownP b q), fun b q => hs.1 ▸ f.bnd b q, ?_, fun p hp b hob => ?_⟩
  · rcases mem_put f.keys hy with ⟨e1, e2⟩ | ⟨hne, hy'⟩
    · subst e1 e2
      obtain ⟨v, hp, hr⟩ := hnm y _ hm
      refine ⟨v, ?_, ?_⟩
      · rcases hp with hp | ⟨q | q, _⟩
        · exact .inl hp
        · rw [hx] at q; cases q
        · rw [hx] at q; cases q
      · cases hr with
        | lst _ _ => exact .lst hl (r.step keep fun b q => .inl (hW b q))
    · obtain ⟨v, hp, hr⟩ := hnm y b hy'
      refine ⟨v, ?_, hr.step keep (fun b q => .inl (hW b q)) fun b hb o e => (hs.2 b fun q => ?_).trans e⟩
      · rcases hp with hp | ⟨q, c, hc, o, ho, hd⟩
        · exact .inl hp
        · exact .inr ⟨q, c, hc, o, (hs.2 c fun q => hoff.2.1 _ (mem_of_lookup hc) q).trans ho, hd⟩
      · subst q
        exact hne (congrArg Prod.fst (f.one _ _ b hy' hm hb rfl))
  · obtain ⟨c, v, hl, o, ho, hd⟩ := f.cells z hz
    exact ⟨c, v, hl, o, (hs.2 c fun q => hoff.2.1 _ (mem_of_lookup hl) q).trans ho, hd⟩
  · intro p q b hp hq h1 h2
    obtain ⟨y, c⟩ := p
    obtain ⟨z, d⟩ := q
    rcases mem_put f.keys hp with ⟨e1, e2⟩ | ⟨n1, hp'⟩ <;> rcases mem_put f.keys hq with ⟨e3, e4⟩ | ⟨n2, hq'⟩
    · rw [e1, e2, e3, e4]
    · subst e2
      exact absurd (congrArg Prod.fst (f.one _ _ b hq' hm h2 h1)) n2
    · subst e4
      exact absurd (congrArg Prod.fst (f.one _ _ b hp' hm h1 h2)) n1
    · exact f.one _ _ b hp' hq' h1 h2
  · obtain ⟨y, c⟩ := p
    rcases mem_put f.keys hp with ⟨_, e⟩ | ⟨_, m'⟩
    · subst e
      exact f.off _ hm b hob
    · exact f.off _ m' b hob

/-- a new list gets a name of the frame's own -/
theorem store_lst {Wo' : Addr → Prop} {A : Around} {E : Value → Shared → Prop} {s : Shared} {x : Str} {a : Addr} {vs : Array Value} {xs : List PV} {Q : Unit → Shared → Prop} (f : Fm C Wo' F σ s.heap) (hW : ∀ b, Wo b → Wo' b) (ha : Wo' a) (hna : ¬ Wo a)
    (h0 : C.h₀.get? a = none) (hx : F.env.kindOf x = some .local) (hl : s.heap.PlainList a vs) (r : RpL C s.heap (Wx Wo' F σ) vs.toList xs) (hno : ∀ y ∈ σ, ¬ y.2.owns a) (hc : ∀ c ∈ F.env.cells, c.2 ≠ a)
    (h : ∀ s', Fm C Wo F (put σ x (.lst a xs)) s'.heap → Stp (own F σ) (fun _ => False) s s' → Q () s') : wpAny C.M A (storeName F.env x (.ref a)) Q E s := by
  obtain ⟨m, hn, hm⟩ := f.names
  have hLa : a ≠ F.env.locals := by
    rintro rfl
    obtain ⟨o, _, _, e1, e2, _⟩ := hn
    obtain ⟨n, e3⟩ := hl
    rw [e1] at e3; cases e3; cases e2
  refine wpAny_storeName_local hx hn (fun h' hn' hs' => h _ (f.setL hW hx hn hn' hs' (.lst hl (r.less fun b q => ?_)) fun b q => ?_) (.of_heap (.same hs' (.inl rfl)))) (by rw [f.kind]; rfl)
  · rcases q with q | q
    · exact .inl (hW b q)
    · exact (own_put f.keys q).elim .inr fun z => .inl ((show b = a from z) ▸ ha)
  · have : b = a := q
    subst this
    exact ⟨ha, h0, hLa, hno, hc, hna⟩

theorem none_h0 {h : Heap} (f : Fm C Wo F σ h) {a : Addr} (ha : h.objs.size ≤ a) : C.h₀.get? a = none := by
  cases e : C.h₀.get? a with
  | none => rfl
  | some o => exact absurd (Heap.lt_size (f.base a o e)) (Nat.not_lt.mpr ha)
theorem fresh_own {h : Heap} (f : Fm C Wo F σ h) {a : Addr} (ha : h.objs.size ≤ a) : (∀ y ∈ σ, ¬ y.2.owns a) ∧ (∀ c ∈ F.env.cells, c.2 ≠ a) ∧ ¬ Wo a :=
  ⟨fun y hy q => Nat.lt_irrefl _ (Nat.lt_of_lt_of_le (f.wbnd a (.inr (.inr (.inr ⟨y, hy, q⟩)))) ha), fun c hc q => Nat.lt_irrefl _ (Nat.lt_of_lt_of_le (f.cb c hc) (q ▸ ha)),
    fun q => Nat.lt_irrefl _ (Nat.lt_of_lt_of_le (f.bnd a q) ha)⟩

theorem SxT.newList {x px lp pos} (hx : F.env.kindOf x = some .local) : SxT C k F σ (.Assign [.Name x px] (.List [] lp) pos) (fun o σ' => o = .nx ∧ ∃ a, σ' = put σ x (.lst a [])) := .mk fun Wo A E s hA f => by
  refine wpAny_Assign_Name ?_ rfl
  rw [arm_eval_List]
  refine wpAny_bind (wpAny_standAt (wpAny_bind (spliced_nil ?_)))
  refine wpAny_newObj_type ?_ (by show (0 : Nat) ≤ sizeLine; exact Nat.zero_le _)
  have fo := fresh_own f (Nat.le_refl _)
  have f₁ : Fm C (fun b => Wo b ∨ b = s.heap.objs.size) F σ (s.heap.push { cls := .type "list", data := .seq #[] }) := f.wide (.push _ _ _)
    (fun b q => q.imp id fun z => Nat.le_of_eq z.symm) fun b q => by
      rw [Heap.size_push]
      rcases q with q | q
      · exact Nat.lt_succ_of_lt (f.bnd b q)
      · rw [q]; exact Nat.lt_succ_self _
  refine store_lst (Wo := Wo) (vs := #[]) (xs := []) (s := { s with heap := s.heap.push { cls := .type "list", data := .seq #[] } }) f₁ (fun _ q => .inl q) (.inr rfl) fo.2.2 (none_h0 f (Nat.le_refl _)) hx ⟨_, Heap.get?_push_size _ rfl⟩ .nil fo.1 fo.2.1 fun s' f' st => ?_
  refine .stay ⟨rfl, _, rfl⟩ f' (Stp.trans (.of_heap0 (.push _ _ _)) st (fun _ q => .inl q) fun _ (z : False) => z.elim) fun b q => (own_put f.keys q).imp id fun z => Nat.le_of_eq (show b = _ from z).symm

theorem SxT.append {x px apos e pos epos a xs p} (hb : σ.lookup x = some (.lst a xs)) (hx : F.env.kindOf x = some .local) (he : EvT C k F σ e p) (hp : plainE e = true) (hz : xs.length ≤ sizeLine)
    (hd : (x == ("__debug__" : Str)) = false := by decide +kernel) (hc : (x == ("__classdict__" : Str)) = false := by decide +kernel)
    (hbase : attributeBase (.Name x px) "append" F.env (eval (.Name x px) F.env) = eval (.Name x px) F.env := by first | kernel_rfl | rfl)
    (hfew : ((backTo pos (starEach [e] F.env)).all (fun x => !x.1) && (backToKw pos (keywordEach [] F.env)).all (fun x => x.1.isSome)
      && decide (([e] : List Expr).length + ([] : List Keyword).length + (if ([] : List Keyword).isEmpty then 0 else 1) < 30)) = true := by first | kernel_rfl | rfl)
    (hline : (apos.endLine == pos.line) = true := by first | kernel_rfl | rfl) (hint : interactive F.env = false := by first | kernel_rfl | rfl)
    (hsw : swapsWith (.Call (.Attribute (.Name x px) "append" apos) [e] [] pos) none epos.line F.env = pure false := by first | kernel_rfl | rfl) :
    SxT C k F σ (.Expr (.Call (.Attribute (.Name x px) "append" apos) [e] [] pos) epos) (one (put σ x (.lst a (xs ++ [p])))) := .mk fun Wo A E s hA f => by
  refine wpAny_Expr_any (wpAny_Call_append hbase hfew hline (by rw [starEach_plain hp]; rfl) (wpAny_Name (loadName_bd hb f hc fun v hv => ?_) hd)) hint hsw
  cases hv with
  | lst hl r =>
    rename_i vs
    refine ⟨a, vs, rfl, by obtain ⟨n, e⟩ := hl; exact ⟨_, n, e, rfl, rfl, rfl⟩, he.run Wo A E s _ hA f fun y s₁ hy p₁ => ?_⟩
    have er := r.length
    rw [Array.length_toList] at er
    refine wpAny_list_append_plain (hl.at fun o e => p₁.keep.k _ o id e) (fun h' hl' hs' => ?_) (by omega)
    have f₁ := f.pas p₁
    refine .stay ⟨rfl, rfl⟩ (f₁.setLst hx (mem_of_lookup hb) hs' hl' ?_) (p₁.stp.trans (.of_heap0 (oa := own F σ) (.same hs' (.inr (.inr ⟨_, mem_of_lookup hb, rfl⟩)))) (fun _ q => .inl q) fun _ (z : False) => z.elim) fun b q => ?_
    · have : (vs.push y).toList = vs.toList ++ [y] := by simp
      rw [this]
      exact (r.ext p₁.keep).append (.cons hy .nil)
    · exact .inl ((own_put f.keys q).elim id fun z => .inr (.inr ⟨_, mem_of_lookup hb, z⟩))
/-- an owned list is handed back -/
theorem SxT.retL {x px pos a xs} (hb : σ.lookup x = some (.lst a xs)) (hd : (x == ("__debug__" : Str)) = false := by decide +kernel) (hc : (x == ("__classdict__" : Str)) = false := by decide +kernel) :
    SxT C k F σ (.Return (some (.Name x px)) pos) (rets σ (.list xs)) := .mk fun Wo A E s hA f => by
  refine wpAny_Return_some (wpAny_Name (loadName_bd hb f hc fun v hv => ?_) hd)
  cases hv with
  | lst hl r => exact ⟨_, _, ⟨rfl, rfl⟩, .list hl (f.off _ (mem_of_lookup hb) a rfl).2.2 (r.less fun b q => .inl q), f, .refl, fun _ q => .inl q⟩
end
end Mine

end

section
open PySem
set_option linter.unusedVariables false
namespace Mine
open PySem.Builtin PySem.Calls

noncomputable def tupT (tt : Bool) (tgt : Expr) : Prop := (tt = true → ∃ elts n pos, tgt = .Tuple elts n pos) ∧ ((∃ x pos, tgt = .Name x pos) ∨ ∃ elts n pos, tgt = .Tuple elts n pos)

/-- an iterator that stands in the heap: what it will give; wr: what its steps change; fp: what it stands on; both may grow by what is new -/
structure ItN (C : Cx) (A : Around) (I : Addr) (og : Nat → Prop) (xs : List PV) (tt : Bool) (St : (Addr → Prop) → (Addr → Prop) → (Addr → Prop) → Nat → Shared → Prop) (Md : (Addr → Prop) → (Addr → Prop) → (Addr → Prop) → Nat → Value → Shared → Prop) : Prop where
  sub : ∀ wr fp X i s, St wr fp X i s → ∀ b, wr b → fp b
  item : ∀ (wr fp X : Addr → Prop) (i : Nat) (s : Shared) (E : Value → Shared → Prop) (Q : Option Value → Shared → Prop) (x : PV), St wr fp X i s → xs[i]? = some x → Bdd X s.heap → (∀ b, wr b → X b) → Bdd fp s.heap → (∀ b o, C.h₀.get? b = some o → s.heap.get? b = some o) →
    (∀ v s' wr' fp', (∀ X' : Addr → Prop, (∀ b, X' b → X b ∨ wr' b) → Rp C s'.heap X' v x ∧ Md wr' fp' X' i v s') → Stp wr og s s' → (∀ b, wr' b → wr b ∨ s.heap.objs.size ≤ b) → (∀ b, fp' b → fp b ∨ s.heap.objs.size ≤ b) →
      Bdd fp' s'.heap → (∀ b, wr' b → fp' b) → Q (some v) s') → wpAny C.M A (pyNext (.ref I)) Q E s
  done : ∀ (wr fp X : Addr → Prop) (s : Shared) (E : Value → Shared → Prop) (Q : Option Value → Shared → Prop), St wr fp X xs.length s → (∀ b o, C.h₀.get? b = some o → s.heap.get? b = some o) → (∀ s', Stp wr og s s' → Q none s') → wpAny C.M A (pyNext (.ref I)) Q E s
  move : ∀ (wr fp X X' oa : Addr → Prop) (i : Nat) (s s' : Shared), St wr fp X i s → Stp oa (fun _ => False) s s' → (∀ b, oa b → X b ∧ ¬ fp b) → (∀ b, X' b → X b ∨ s.heap.objs.size ≤ b) → St wr fp X' i s'
  quiet : ∀ (wr fp X : Addr → Prop) (i : Nat) (s : Shared) (E : Value → Shared → Prop) (Q : Unit → Shared → Prop) (tgt : Expr) (v : Value), Md wr fp X i v s → tupT tt tgt → (∀ s', St wr fp X (i + 1) s' → Stp wr og s s' → Q () s') →
    wpAny C.M A (letOwnedTupleGo tgt (.ref I) v) Q E s
  self : ∀ (wr fp X : Addr → Prop) (i : Nat) (s : Shared) (E : Value → Shared → Prop) (Q : Value → Shared → Prop), St wr fp X i s → Q (.ref I) s → wpAny C.M A (pyIter (.ref I)) Q E s

/-- an expression that is iterated over -/
structure ItE (C : Cx) (k : Nat) (F : FE) (σ : Sg) (e : Expr) (xs : List PV) (tt sf : Bool) : Prop where
  run : ∀ (Wo : Addr → Prop) (A : Around) (E : Value → Shared → Prop) (s : Shared) (Q : Value → Shared → Prop), Room A k → Fm C Wo F σ s.heap →
    (∀ I wr fp og St Md s', ItN C A I og xs tt St Md → Pas s s' → (∀ b, fp b → b < s'.heap.objs.size ∧ (sf = true → ¬ own F σ b)) → (∀ b, wr b → s.heap.objs.size ≤ b) → (∀ g, og g → s.gens.size ≤ g) → St wr fp (Wx (fun b => Wo b ∨ wr b) F σ) 0 s' → Q (.ref I) s') →
    wpAny C.M A (eval e F.env) (fun x s₁ => wpAny C.M A (pyIter x) Q E s₁) E s

/-- a target that takes any of some values -/
structure TgU (C : Cx) (k : Nat) (F : FE) (tgt : Expr) (ok : PV → Prop) (upd : PV → Sg → Sg) : Prop where
  tg : ∀ x, ok x → TgT C k F tgt x (upd x)
  idem : ∀ σ x x', ok x → ok x' → upd x' (upd x σ) = upd x' σ
noncomputable def updN (x : Str) (v : PV) (σ : Sg) : Sg := put σ x (.pv v)
noncomputable def updP (x y : Str) (v : PV) (σ : Sg) : Sg := match v with
  | .tup [p, q] => put (put σ x (.pv p)) y (.pv q)
  | _ => σ
theorem put_put {σ : Sg} {x : Str} {b c : Bd} : put (put σ x b) x c = put σ x c := by
  induction σ with
  | nil => simp [put]
  | cons q r ih =>
    obtain ⟨y, d⟩ := q
    by_cases e : y = x
    · simp [put, e]
    · simp [put, e, ih]
theorem put_swap {σ : Sg} {x y : Str} {b c b' : Bd} (h : x ≠ y) : put (put (put σ x b) y c) x b' = put (put σ x b') y c := by
  induction σ with
  | nil => simp [put, h]
  | cons q r ih =>
    obtain ⟨z, d⟩ := q
    by_cases e : z = x
    · subst e; simp [put, h]
    · by_cases e2 : z = y
      · subst e2; simp [put, e, put_put]
      · simp [put, e, e2, ih]
theorem TgU.name {C : Cx} {k : Nat} {F : FE} {x : Str} {pos : Pos} (hx : storable F x = true) : TgU C k F (.Name x pos) (fun _ => True) (updN x) :=
  ⟨fun v _ => TgT.name hx, fun _ _ _ _ _ => put_put⟩
theorem TgU.pair {C : Cx} {k : Nat} {F : FE} {x y : Str} {px py : Pos} {kk : Nat} {pos : Pos} (hx : storable F x = true) (hy : storable F y = true) (hxy : x ≠ y) :
    TgU C k F (.Tuple [.Name x px, .Name y py] kk pos) (fun v => ∃ p q, v = .tup [p, q]) (updP x y) where
  tg := fun v hv => by obtain ⟨p, q, rfl⟩ := hv; exact TgT.pair hx hy
  idem := fun σ v v' hv hv' => by
    obtain ⟨p, q, rfl⟩ := hv
    obtain ⟨p', q', rfl⟩ := hv'
    show put (put (put (put σ x (.pv p)) y (.pv q)) x (.pv p')) y (.pv q') = put (put σ x (.pv p')) y (.pv q')
    rw [put_swap hxy, put_put]

section
variable {C : Cx} {k : Nat} {F : FE}

theorem SxT.forN {σ₀ : Sg} {tgt iter : Expr} {body : List Stmt} {pos : Pos} {xs : List PV} {tt : Bool} {P : Out → Sg → Prop} (Inv : Nat → Sg → Prop) (upd : Nat → Sg → Sg) (hi : ItE C k F σ₀ iter xs tt true) (htt : tupT tt tgt) (h0 : Inv 0 σ₀)
    (ht : ∀ i x, xs[i]? = some x → TgT C k F tgt x (upd i))
    (hb : ∀ i x σ, xs[i]? = some x → Inv i σ → ExT C k F (upd i σ) body (fun o σ' => match o with | .nx => Inv (i + 1) σ' | .br => P .nx σ' | .rt p => P (.rt p) σ'))
    (hend : ∀ σ, Inv xs.length σ → P .nx σ) (hs : ∀ x, foldedSetIterable iter F.env x = pure x := by intro _; first | kernel_rfl | rfl) : SxT C k F σ₀ (.For tgt iter body [] pos) P := .mk fun Wo A E s hA f => by
  refine wpAny_For (hi.run Wo A E s _ hA f fun I wr fp og St Md s₁ W p₁ hfp hwr hog hst => ?_) hs
  refine codeAny_forLoop_any (fun n s' => ∃ i σ wr fp, Inv i σ ∧ i ≤ xs.length ∧ n = xs.length + 1 - i ∧ Fm C (fun b => Wo b ∨ wr b) F σ s'.heap ∧ St wr fp (Wx (fun b => Wo b ∨ wr b) F σ) i s' ∧ Bdd fp s'.heap ∧ (∀ b, fp b → ¬ own F σ b) ∧
    (∀ b, wr b → s.heap.objs.size ≤ b) ∧ Stp (own F σ₀) og s s' ∧ ∀ b, own F σ b → own F σ₀ b ∨ s.heap.objs.size ≤ b) ?_ (xs.length + 1)
    ⟨0, σ₀, wr, fp, h0, Nat.zero_le _, rfl, f.wide p₁.keep (fun b q => q.imp id fun z => hwr b z) (fun b q => q.elim (fun z => Nat.lt_of_lt_of_le (f.bnd b z) p₁.keep.sz) fun z => (hfp b (W.sub _ _ _ _ _ hst b z)).1), hst, fun b q => (hfp b q).1, fun b q => (hfp b q).2 rfl, hwr, p₁.stp, fun _ q => .inl q⟩
  clear hfp hwr hst p₁
  rintro n s' ⟨i, σ, wr, fp, hI, hle, rfl, f', hst', hfb', hfo', hwr, stp, hown⟩
  have hsub := W.sub _ _ _ _ _ hst'
  have stpw : ∀ {sx : Shared}, Stp wr og s' sx → Stp (own F σ₀) og s sx := fun st => stp.trans st (fun b q => .inr (hwr b q)) fun _ q => .inl q
  have fw : ∀ {sx : Shared} (wr' : Addr → Prop), (∀ b, wr' b → wr b ∨ s'.heap.objs.size ≤ b) → Bdd wr' sx.heap → Stp wr og s' sx → Fm C (fun b => Wo b ∨ wr' b) F σ sx.heap := fun wr' h1 h2 st => f'.move st.keep (fun b q => .inr q) (fun b q => hfo' b (hsub b q))
    (fun p hp q => Nat.lt_irrefl _ (Nat.lt_of_lt_of_le (f.cb p hp) (hwr _ q))) (fun b q => none_h0 f (hwr b q)) (fun b q => q.elim (fun z => .inl (.inl z)) fun z => (h1 b z).imp .inr id) fun b q => q.elim (fun z => Nat.lt_of_lt_of_le (f'.bnd b (.inl z)) st.keep.sz) (h2 b)
  have back : ∀ {sx : Shared} {σ' : Sg} {og' : Nat → Prop} {wr' : Addr → Prop}, (∀ g, og' g → s.gens.size ≤ g) → Fm C (fun b => Wo b ∨ wr' b) F σ' sx.heap → Stp (own F σ₀) og' s sx → Fm C Wo F σ' sx.heap ∧ Stp (own F σ₀) (fun _ => False) s sx := fun hg fx st =>
    ⟨fx.less fun b q => .inl q, st.mono (fun _ q => .inl q) fun g q => .inr (hg g q)⟩
  cases hx : xs[i]? with
  | none =>
    have hin : i = xs.length := Nat.le_antisymm hle (by simpa using hx)
    subst hin
    refine W.done _ _ _ s' _ _ hst' f'.base fun s₂ st => wpAny_execs_nil ?_
    have b := back (wr' := wr) hog (fw wr (fun b q => .inl q) (fun b q => Nat.lt_of_lt_of_le (hfb' b (hsub b q)) st.keep.sz) st) (stpw st)
    exact .stay (hend σ hI) b.1 b.2 hown
  | some x =>
    have hlt : i < xs.length := (List.getElem?_eq_some_iff.mp hx).1
    refine W.item _ _ _ i s' _ _ x hst' hx f'.wbnd (fun b q => .inl (.inr q)) hfb' f'.base fun v s₂ wr' fp' hvm st₂ hw2 hf2 hfb2 hsub2 => ?_
    obtain ⟨hv, hmd⟩ := hvm (Wx (fun b => Wo b ∨ wr' b) F σ) fun b q => by
      rcases q with (q | q) | q
      · exact .inl (.inl (.inl q))
      · exact .inr q
      · exact .inl (.inr q)
    have f₂ := fw wr' hw2 (fun b q => hfb2 b (hsub2 b q)) st₂
    have hfo2 : ∀ b, fp' b → ¬ own F σ b := fun b q z => (hf2 b q).elim (fun y => hfo' b y z) fun y => Nat.lt_irrefl _ (Nat.lt_of_lt_of_le (f'.wbnd b (.inr z)) y)
    have hwr2 : ∀ b, wr' b → s.heap.objs.size ≤ b := fun b q => (hw2 b q).elim (hwr b) fun z => Nat.le_trans stp.keep.sz z
    refine W.quiet _ _ _ _ s₂ _ _ tgt v hmd htt fun s₂' hst₂ st₂' => ?_
    have f₂' : Fm C (fun b => Wo b ∨ wr' b) F σ s₂'.heap := f₂.move st₂'.keep (fun b q => .inr q) (fun b q => hfo2 b (hsub2 b q))
      (fun p hp q => Nat.lt_irrefl _ (Nat.lt_of_lt_of_le (f.cb p hp) (hwr2 _ q))) (fun b q => none_h0 f (hwr2 b q)) (fun b q => .inl q) fun b q => Nat.lt_of_lt_of_le (f₂.bnd b q) st₂'.keep.sz
    have stp₂ : Stp (own F σ₀) og s s₂' := (stpw st₂).trans st₂' (fun b q => .inr (hwr2 b q)) fun _ q => .inl q
    refine ht i x hx σ _ A _ s₂' v _ hA f₂' (hv.step (st₂'.keep.mono fun b q => .inl (.inr q)) fun b q => .inl q) fun s₃ f₃ st₃ ho₃ => ?_
    have hst₃ := W.move _ _ _ (Wx (fun b => Wo b ∨ wr' b) F (upd i σ)) _ _ _ _ hst₂ st₃ (fun b q => ⟨.inr q, fun z => hfo2 b z q⟩) fun b q => .inl (q.imp id (ho₃ b))
    refine wpAny_mono ((hb i x σ hx hI).run _ A _ s₃ hA f₃) (fun fl s₄ e => ?_) fun _ _ e => e
    obtain ⟨o, σ', p, q, f₄, st₄, ho₄⟩ := e.ex
    have st₃' : Stp (own F σ₀) og s s₃ := stp₂.trans st₃ (fun b q => (hown b q).imp id fun z => z) fun _ (z : False) => z.elim
    have st₄' : Stp (own F σ₀) og s s₄ := st₃'.trans st₄ (fun b q => hown b (ho₃ b q)) fun _ (z : False) => z.elim
    have ho₄' : ∀ b, own F σ' b → own F σ₀ b ∨ s.heap.objs.size ≤ b := fun b q => (ho₄ b q).elim (fun z => hown b (ho₃ b z)) fun z => .inr (Nat.le_trans st₃'.keep.sz z)
    cases o with
    | nx =>
      cases fl <;> first | exact q.elim | skip
      refine ⟨xs.length + 1 - (i + 1), by omega, i + 1, σ', wr', fp', p, hlt, rfl, f₄, ?_, fun b z => ?_, fun b z y => ?_, hwr2, st₄', ho₄'⟩
      · refine W.move _ _ _ _ _ _ _ _ hst₃ st₄ (fun b q => ⟨.inr q, fun z => hfo2 b z (ho₃ b q)⟩) fun b q => ?_
        rcases q with q | q
        · exact .inl (.inl q)
        · exact (ho₄ b q).imp .inr id
      · exact Nat.lt_of_lt_of_le (hfb2 b z) (Nat.le_trans st₂'.keep.sz (Nat.le_trans st₃.keep.sz st₄.keep.sz))
      · rcases ho₄ b y with y | y
        · exact hfo2 b z (ho₃ b y)
        · exact absurd (Nat.lt_of_lt_of_le (hfb2 b z) (Nat.le_trans st₂'.keep.sz st₃.keep.sz)) (Nat.not_lt.mpr y)
    | br =>
      cases fl <;> first | exact q.elim | skip
      have b := back hog f₄ st₄'
      exact .stay p b.1 b.2 ho₄'
    | rt r =>
      cases fl <;> first | exact q.elim | skip
      have b := back hog f₄ st₄'
      exact ⟨_, _, p, Rep.less q fun b z => .inl z, b.1, b.2, ho₄'⟩
end
end Mine

end

section
open PySem
set_option linter.unusedVariables false
namespace Mine
open PySem.Builtin PySem.Calls

noncomputable def mineOf (scope : Scope) : List Str := (scope.names.filter fun x => x.2 == .cell).map (·.1)
noncomputable abbrev compF (scope : Scope) (env : Env) (L : Addr) (cs : List (Str × Addr)) : FE := ⟨compEnvC scope cs L env, mineOf scope⟩
noncomputable def isPv : Bd → Bool
  | .pv _ => true
  | _ => false
noncomputable def capd (scope : Scope) (σ : Sg) : Sg := σ.filter fun p => isPv p.2 && scope.names.contains (p.1, .free)
noncomputable def capOk (scope : Scope) (env : Env) (σ : Sg) : Bool :=
  scope.names.all fun x => scope.names.lookup x.1 == some x.2 && (x.2 != .free || ((σ.any fun p => p.1 == x.1 && isPv p.2) && (env.kindOf x.1 == some .cell || env.kindOf x.1 == some .free)))

section
theorem lookup_of_mem {α : Type} {a : List (Str × α)} {x : Str} {c : α} (h : (x, c) ∈ a) : ∃ d, a.lookup x = some d := by
  induction a with
  | nil => cases h
  | cons q r ih =>
    rw [List.lookup_cons]
    cases hb : x == q.1 with
    | true => exact ⟨_, rfl⟩
    | false =>
      rcases List.mem_cons.mp h with e | e
      · rw [← e] at hb; simp at hb
      · exact ih e
theorem closure_ok {env : Env} {scope : Scope} (h : ∀ x, (x, NameKind.free) ∈ scope.names → ∃ c, env.cells.lookup x = some c) :
    ∃ cl, closureFor scope env = pure cl ∧ (∀ x, (x, NameKind.free) ∈ scope.names → cl.lookup x = env.cells.lookup x) ∧ ∀ p ∈ cl, p ∈ env.cells := by
  suffices key : ∀ (names : List (Str × NameKind)) (acc : List (Str × Addr)), (∀ x, (x, NameKind.free) ∈ names → ∃ c, env.cells.lookup x = some c) → (∀ p ∈ acc, p ∈ env.cells) → (∀ p ∈ acc, env.cells.lookup p.1 = some p.2) →
      ∃ cl, (forIn names acc fun x r => if x.2 == NameKind.free then (do let c ← cellOf env x.1; pure (ForInStep.yield ((x.1, c) :: r))) else pure (ForInStep.yield r) : Sem (List (Str × Addr))) = pure cl ∧
        (∀ p ∈ cl, p ∈ env.cells) ∧ (∀ p ∈ cl, env.cells.lookup p.1 = some p.2) ∧ (∀ x, (x, NameKind.free) ∈ names → ∃ c, (x, c) ∈ cl) ∧ ∀ p ∈ acc, p ∈ cl by
    obtain ⟨cl, e, h1, h2, h3, _⟩ := key scope.names [] h (fun _ q => by cases q) (fun _ q => by cases q)
    refine ⟨cl, ?_, fun x hx => ?_, h1⟩
    · unfold closureFor
      have : (forIn scope.names ([] : List (Str × Addr)) fun x r => (match x with | (name, kind) => do
          if (kind == NameKind.free) = true then (do let c ← cellOf env name; pure (ForInStep.yield ((name, c) :: r))) else pure (ForInStep.yield r)) : Sem (List (Str × Addr))) = pure cl := e
      exact (bind_pure _).trans this
    · obtain ⟨c, hc⟩ := h3 x hx
      have e1 := h2 _ hc
      obtain ⟨c', hl⟩ := lookup_of_mem hc
      rw [hl]; exact (h2 _ (mem_of_lookup hl)).symm
  intro names
  induction names with
  | nil => exact fun acc _ h1 h2 => ⟨acc, rfl, h1, h2, fun x q => (List.not_mem_nil q).elim, fun _ q => q⟩
  | cons q r ih =>
    intro acc hn h1 h2
    obtain ⟨y, kd⟩ := q
    rw [List.forIn_cons]
    by_cases hk : kd = .free
    · subst hk
      obtain ⟨c, hc⟩ := hn y List.mem_cons_self
      obtain ⟨cl, e, g1, g2, g3, g4⟩ := ih ((y, c) :: acc) (fun x hx => hn x (List.mem_cons_of_mem _ hx)) (fun p hp => (List.mem_cons.mp hp).elim (fun z => z ▸ mem_of_lookup hc) (h1 p))
        (fun p hp => (List.mem_cons.mp hp).elim (fun z => by rw [z]; exact hc) (h2 p))
      refine ⟨cl, ?_, g1, g2, fun x hx => ?_, fun p hp => g4 p (List.mem_cons_of_mem _ hp)⟩
      · have : cellOf env y = pure c := by unfold cellOf; rw [hc]
        simp only [beq_self_eq_true, if_true, this, pure_bind]
        exact e
      · rcases List.mem_cons.mp hx with z | z
        · cases z; exact ⟨c, g4 _ List.mem_cons_self⟩
        · exact g3 x z
    · have hb : (kd == NameKind.free) = false := by simpa using hk
      obtain ⟨cl, e, g1, g2, g3, g4⟩ := ih acc (fun x hx => hn x (List.mem_cons_of_mem _ hx)) h1 h2
      refine ⟨cl, ?_, g1, g2, fun x hx => ?_, g4⟩
      · simp only [hb, Bool.false_eq_true, if_false, pure_bind]
        exact e
      · rcases List.mem_cons.mp hx with z | z
        · cases z; exact absurd rfl hk
        · exact g3 x z

theorem cellsFrom_append : ∀ (names : List (Str × NameKind)) (n : Nat) (acc : List (Str × Addr)), cellsFrom n names acc = cellsFrom n names [] ++ acc
  | [], _, _ => rfl
  | (x, kd) :: r, n, acc => by
    unfold cellsFrom
    split
    · rw [cellsFrom_append r (n + 1) ((x, n) :: acc), cellsFrom_append r (n + 1) [(x, n)]]; simp
    · exact cellsFrom_append r n acc
theorem cellsFrom_keys : ∀ (names : List (Str × NameKind)) (n : Nat) (x : Str), (∃ c, (x, c) ∈ cellsFrom n names []) ↔ (x, NameKind.cell) ∈ names
  | [], _, _ => by simp [cellsFrom]
  | (y, kd) :: r, n, x => by
    unfold cellsFrom
    by_cases hk : kd = .cell
    · subst hk
      simp only [beq_self_eq_true, if_true]
      rw [cellsFrom_append]
      have ih := cellsFrom_keys r (n + 1) x
      simp only [List.mem_append, List.mem_cons, Prod.mk.injEq, and_true]
      constructor
      · rintro ⟨c, hc | ⟨rfl, _⟩ | hc⟩
        · exact .inr (ih.mp ⟨c, hc⟩)
        · exact .inl rfl
        · cases hc
      · rintro (rfl | hx)
        · exact ⟨n, .inr (.inl ⟨rfl, rfl⟩)⟩
        · obtain ⟨c, hc⟩ := ih.mpr hx; exact ⟨c, .inl hc⟩
    · have hb : (kd == NameKind.cell) = false := by simpa using hk
      simp only [hb, Bool.false_eq_true, if_false]
      rw [cellsFrom_keys r n x]
      simp only [List.mem_cons, Prod.mk.injEq]
      constructor
      · exact .inr
      · rintro (⟨_, e⟩ | hx)
        · exact absurd e.symm hk
        · exact hx
theorem pushCells_size : ∀ (names : List (Str × NameKind)) (h : Heap), h.objs.size ≤ (pushCells h names).objs.size
  | [], _ => Nat.le_refl _
  | (z, kz) :: r, h => by
    unfold pushCells
    split
    · have := pushCells_size r (h.push { cls := .type "cell", data := .cell none }); rw [Heap.size_push] at this; omega
    · exact pushCells_size r h
theorem cellsFrom_bd : ∀ (names : List (Str × NameKind)) (h : Heap) (p : Str × Addr), p ∈ cellsFrom h.objs.size names [] → h.objs.size ≤ p.2 ∧ p.2 < (pushCells h names).objs.size
  | [], _, _, q => by simp [cellsFrom] at q
  | (y, kd) :: r, h, p, q => by
    unfold cellsFrom at q
    unfold pushCells
    split at q
    · rename_i hk
      rw [if_pos hk]
      rw [cellsFrom_append] at q
      have sz : (h.push { cls := .type "cell", data := .cell none }).objs.size = h.objs.size + 1 := Heap.size_push ..
      rcases List.mem_append.mp q with q | q
      · have := cellsFrom_bd r (h.push { cls := .type "cell", data := .cell none }) p (by rw [sz]; exact q)
        rw [sz] at this
        exact ⟨by omega, this.2⟩
      · rw [List.mem_singleton.mp q]
        have := pushCells_size r (h.push { cls := .type "cell", data := .cell none })
        rw [sz] at this
        exact ⟨Nat.le_refl _, Nat.lt_of_succ_le this⟩
    · rename_i hk
      rw [if_neg hk]
      exact cellsFrom_bd r h p q
theorem lookup_app {α : Type} {a b : List (Str × α)} {x : Str} : (a ++ b).lookup x = match a.lookup x with | some c => some c | none => b.lookup x := by
  induction a with
  | nil => rfl
  | cons q r ih =>
    rw [List.cons_append, List.lookup_cons, List.lookup_cons]
    cases x == q.1 <;> simp [ih]
theorem lookup_map2 {α β : Type} (f : Str × α → Str × β) (g : Str → α → β) (hf : ∀ n k, f (n, k) = (n, g n k)) : ∀ {l : List (Str × α)} {x : Str}, (l.map f).lookup x = (l.lookup x).map (g x)
  | [], _ => rfl
  | (n, k) :: r, x => by
    rw [List.map_cons, hf, List.lookup_cons, List.lookup_cons]
    cases hb : x == n with
    | true => rw [beq_iff_eq.mp hb]; rfl
    | false => exact lookup_map2 f g hf
end

section
variable {C : Cx} {k : Nat} {F : FE} {σ : Sg} {Wo : Addr → Prop}
theorem comp_env {A : Around} {E : Value → Shared → Prop} {s : Shared} {scope : Scope} {globals : Addr} {cl : List (Str × Addr)} {qual : Str} {env : Env} {Q : Env → Shared → Prop}
    (hQ : Q (newEnv scope s.heap.objs.size globals (cellsFrom (s.heap.objs.size + 1) scope.names cl) qual none .none (some env) builtinsNs) { s with heap := pushCells (s.heap.push { cls := .type "dict", data := .dict #[] }) scope.names }) :
    wpAny C.M A (newFunctionEnv scope globals cl [] qual none .none (some env)) Q E s := by
  simp only [newFunctionEnv, Option.isSome_some, if_true]
  refine wpAny_bind (wpAny_alloc ?_)
  refine wpAny_bind (wpAny_layCells _ (fun name kind cells => by cases hkc : kind == NameKind.cell <;> simp) _ _ _ _ ?_)
  rw [show ({ s with heap := s.heap.push { cls := .type "dict", data := .dict #[] } } : Shared).heap.objs.size = s.heap.objs.size + 1 from Heap.size_push ..]
  rw [List.forIn_nil]
  exact wpAny_bind (wpAny_pure (wpAny_pure hQ))

/-- the frame of a comprehension stands -/
theorem comp_fm {h : Heap} {scope : Scope} (f : Fm C Wo F σ h) (hk : scope.kind = .function) (hcap : capOk scope F.env σ = true) :
    ∃ cl, closureFor scope F.env = pure cl ∧ (∀ p ∈ cl, p ∈ F.env.cells) ∧ ∀ (Wo' : Addr → Prop) (h₂ : Heap) (p : Kp (fun _ => False) h h₂) (hWo : ∀ b, Wo' b → Wx Wo F σ b ∨ h.objs.size ≤ b) (hb : ∀ b, Wo' b → b < h₂.objs.size), Fm C Wo' (compF scope F.env h₂.objs.size (cellsFrom (h₂.objs.size + 1) scope.names cl)) (capd scope σ) (pushCells (h₂.push { cls := .type "dict", data := .dict #[] }) scope.names) ∧
      Kp (fun _ => False) h₂ (pushCells (h₂.push { cls := .type "dict", data := .dict #[] }) scope.names) ∧
      (∀ b, own (compF scope F.env h₂.objs.size (cellsFrom (h₂.objs.size + 1) scope.names cl)) (capd scope σ) b → h₂.objs.size ≤ b) ∧
      (∀ p ∈ cellsFrom (h₂.objs.size + 1) scope.names cl, p ∈ F.env.cells ∨ h₂.objs.size ≤ p.2) := by
  have hall : ∀ x kd, (x, kd) ∈ scope.names → scope.names.lookup x = some kd ∧ (kd = .free → (∃ p, (x, Bd.pv p) ∈ σ) ∧ (F.env.kindOf x = some .cell ∨ F.env.kindOf x = some .free)) := fun x kd hx => by
    have := List.all_eq_true.mp hcap _ hx
    simp only [Bool.and_eq_true, beq_iff_eq, Bool.or_eq_true, bne_iff_ne, ne_eq, List.any_eq_true] at this
    refine ⟨this.1, fun e => ?_⟩
    rcases this.2 with z | ⟨⟨q, hq, e1, e2⟩, z⟩
    · exact absurd e z
    · obtain ⟨y, b⟩ := q
      cases b <;> simp [isPv] at e2
      have e1 : y = x := e1
      subst e1
      exact ⟨⟨_, hq⟩, z⟩
  obtain ⟨m, hn, hm⟩ := f.names
  have hcellv : ∀ x, (x, NameKind.free) ∈ scope.names → ∃ c, F.env.cells.lookup x = some c := fun x hx => by
    obtain ⟨⟨p, hp⟩, hkd⟩ := (hall x _ hx).2 rfl
    obtain ⟨v, hpl, _⟩ := hm _ _ hp
    rcases hpl with ⟨q, _⟩ | ⟨_, c, hc, _⟩
    · rw [q] at hkd; rcases hkd with z | z <;> cases z
    · exact ⟨c, hc⟩
  obtain ⟨cl, hcl, hlk, hmem⟩ := closure_ok hcellv
  refine ⟨cl, hcl, hmem, fun Wo' h₂ p hWo hb => ?_⟩
  have psz : (h₂.push { cls := .type "dict", data := .dict #[] }).objs.size = h₂.objs.size + 1 := Heap.size_push ..
  have csz : h₂.objs.size + 1 ≤ (pushCells (h₂.push { cls := .type "dict", data := .dict #[] }) scope.names).objs.size := psz ▸ pushCells_size _ _
  have kp : Kp (fun _ => False) h₂ (pushCells (h₂.push { cls := .type "dict", data := .dict #[] }) scope.names) := ⟨fun b o _ e => pushCells_keeps _ _ b o (Heap.get?_push_of_some _ e), by omega⟩
  have ok := cellsFrom_ok scope.names (h₂.push { cls := .type "dict", data := .dict #[] }) (h₂.objs.size + 1) [] ⟨fun _ _ hm => (nomatch hm), List.Pairwise.nil⟩ (by rw [psz]; exact Nat.le_refl _)
  have bd := cellsFrom_bd scope.names (h₂.push { cls := .type "dict", data := .dict #[] })
  rw [psz] at ok bd
  have keysF := cellsFrom_keys scope.names (h₂.objs.size + 1)
  have cb : ∀ p ∈ cellsFrom (h₂.objs.size + 1) scope.names cl, p ∈ F.env.cells ∨ (p ∈ cellsFrom (h₂.objs.size + 1) scope.names []) := fun p hp => by
    rw [cellsFrom_append] at hp
    exact (List.mem_append.mp hp).elim .inr fun z => .inl (hmem p z)
  have mineM : ∀ x, x ∈ mineOf scope ↔ (x, NameKind.cell) ∈ scope.names := fun x => by
    unfold mineOf
    simp
  have mineL : ∀ x, x ∈ mineOf scope → ∃ c, (cellsFrom (h₂.objs.size + 1) scope.names cl).lookup x = some c ∧ (x, c) ∈ cellsFrom (h₂.objs.size + 1) scope.names [] := fun x hx => by
    obtain ⟨c, hc⟩ := (keysF x).mpr ((mineM x).mp hx)
    obtain ⟨d, hd⟩ := lookup_of_mem hc
    refine ⟨d, ?_, mem_of_lookup hd⟩
    rw [cellsFrom_append, lookup_app, hd]
  have frL : ∀ x, (x, NameKind.free) ∈ scope.names → (cellsFrom (h₂.objs.size + 1) scope.names cl).lookup x = F.env.cells.lookup x := fun x hx => by
    rw [cellsFrom_append, lookup_app]
    cases hl : (cellsFrom (h₂.objs.size + 1) scope.names []).lookup x with
    | some c =>
      have h1 := (keysF x).mp ⟨c, mem_of_lookup hl⟩
      have e1 := (hall _ _ h1).1
      rw [(hall _ _ hx).1] at e1
      cases e1
    | none => exact hlk x hx
  have hown : ∀ b, own (compF scope F.env h₂.objs.size (cellsFrom (h₂.objs.size + 1) scope.names cl)) (capd scope σ) b → h₂.objs.size ≤ b := fun b q => by
    rcases q with q | ⟨x, hx, hl⟩ | ⟨q, hq, ho⟩
    · exact Nat.le_of_eq q.symm
    · obtain ⟨c, h1, h2⟩ := mineL x hx
      have h1' : some c = some b := h1.symm.trans hl
      cases h1'
      exact Nat.le_of_succ_le (bd _ h2).1
    · have := (List.mem_filter.mp hq).2
      obtain ⟨x, b⟩ := q
      cases b <;> simp [isPv] at this
      exact ho.elim
  have new : ∀ b, h₂.objs.size ≤ b → C.h₀.get? b = none := fun b hb => none_h0 f (Nat.le_trans p.sz hb)
  refine ⟨⟨hk, f.gl, f.bi, fun b o e => kp.k b o id (p.k b o id (f.base b o e)), ⟨_, (Heap.Ns.new h₂ (.type "dict")).keeps (pushCells_keeps _ _), fun x b hx => ?_⟩, fun x hx => ?_, fun x hx y c h1 h2 => ?_, fun q hq => ?_,
    (f.keys.sublist (List.filter_sublist.map _)), fun b q => new b (hown b q), fun b q => Nat.lt_of_lt_of_le (hb b q) kp.sz, fun x y a hx hy h1 h2 => ?_, fun q hq b ho => ?_⟩, kp, hown, fun q hq => (cb q hq).imp id fun z => Nat.le_of_succ_le (bd _ z).1⟩
  · obtain ⟨hx1, hx2⟩ := List.mem_filter.mp hx
    rw [Bool.and_eq_true] at hx2
    obtain ⟨v, hpl, hr⟩ := hm _ _ hx1
    have hfree : (x, NameKind.free) ∈ scope.names := by simpa using hx2.2
    have hkd := ((hall _ _ hfree).2 rfl).2
    cases hr with
    | pv hr =>
      refine ⟨v, ?_, .pv (hr.step (h' := pushCells (h₂.push { cls := .type "dict", data := .dict #[] }) scope.names) ⟨fun b o _ e => kp.k b o id (p.k b o id e), Nat.le_trans p.sz kp.sz⟩ fun b q => ?_)⟩
      · rcases hpl with ⟨q, _⟩ | ⟨_, c, hc, hcv⟩
        · rw [q] at hkd; rcases hkd with z | z <;> cases z
        · refine .inr ⟨?_, c, (frL x hfree).trans hc, hcv.keeps fun b o e => kp.k b o id (p.k b o id e)⟩
          show (relabel scope F.env).names.lookup x = some .cell ∨ (relabel scope F.env).names.lookup x = some .free
          unfold relabel
          rw [lookup_map2 _ (fun n k => if (k == .free && F.env.scope.kind == .function && F.env.kindOf n == some .cell) then .cell else k) (fun n k => by dsimp only; split <;> rfl), (hall _ _ hfree).1]
          simp only [Option.map_some]
          split
          · exact .inl rfl
          · exact .inr rfl
      · rcases q with q | q
        · exact hWo b q
        · exact .inr (Nat.le_trans p.sz (hown b q))
    | lst _ _ => simp [isPv] at hx2
    | dct _ _ _ _ => simp [isPv] at hx2
    | raw => simp [isPv] at hx2
    | ob _ _ _ _ _ _ _ _ => simp [isPv] at hx2
  · obtain ⟨c, h1, h2⟩ := mineL x hx
    obtain ⟨o, ho, hd⟩ := (ok.empty x c h2).1
    exact ⟨c, none, h1, o, ho, hd⟩
  · obtain ⟨c', h3, h4⟩ := mineL x hx
    have h1' : some c' = some c := h3.symm.trans h1
    cases h1'
    rcases cb _ (mem_of_lookup h2) with z | z
    · have b1 := Nat.lt_of_lt_of_le (f.cb _ z) p.sz
      have b2 := (bd _ h4).1
      dsimp only at b1 b2
      omega
    · exact name_of_addr ok.apart z h4
  · rcases cb q hq with z | z
    · exact Nat.lt_of_lt_of_le (f.cb _ z) (Nat.le_trans p.sz kp.sz)
    · exact (bd _ z).2
  · have := (List.mem_filter.mp hx).2
    obtain ⟨x, b⟩ := x
    cases b <;> simp [isPv] at this
    exact h1.elim
  · have := (List.mem_filter.mp hq).2
    obtain ⟨x, b⟩ := q
    cases b <;> simp [isPv] at this
    exact ho.elim
end
end Mine

end

section
open PySem
set_option linter.unusedVariables false
namespace Mine
open PySem.Builtin PySem.Calls

noncomputable def turnC (ip : Pos) (target : Expr) (ifs : List Expr) (emit : Sem Unit) (loop : Code) (it : Value) (env : Env) : Sem Fin := do
  standAt ip
  match ← pyNext it with
  | none => pure (.done .next)
  | some v =>
    letOwnedTupleGo target it v
    assign target env v
    let mut ok := true
    for c in ifs do
      if ok then ok ← isTrue c env (eval c env)
    if ok then emit
    again loop

/-- the tests of a clause -/
structure IfT (C : Cx) (k : Nat) (F : FE) (σ : Sg) (ifs : List Expr) (b : Bool) : Prop where
  run : ∀ (Wo : Addr → Prop) (A : Around) (E : Value → Shared → Prop) (s : Shared) (Q : Bool → Shared → Prop), Room A k → Fm C Wo F σ s.heap → (∀ s', Pas s s' → Q b s') →
    wpAny C.M A (forIn ifs true fun c r => if r = true then do let ok ← isTrue c F.env (eval c F.env); pure (ForInStep.yield ok) else pure (ForInStep.yield r)) Q E s
theorem IfT.nil {C : Cx} {k : Nat} {F : FE} {σ : Sg} : IfT C k F σ [] true := .mk fun Wo A E s Q hA f h => wpAny_tests_nil (h _ .refl)
theorem IfT.one {C : Cx} {k : Nat} {F : FE} {σ : Sg} {c : Expr} {b : Bool} (t : TsT C k F σ c b) : IfT C k F σ [c] b := .mk fun Wo A E s Q hA f h => wpAny_tests_one (t.run Wo A E s _ hA f h)

section
variable {C : Cx} {k : Nat} {F : FE}

theorem comp_core {σ : Sg} {e : Expr} {scope : Scope} {pos : Pos} {tgt iter : Expr} {ifs : List Expr} {newAcc : Sem Value} {emit : Addr → Env → Sem Unit} {o : Obj} {AP : Addr → (Addr → Prop) → Nat → Heap → Prop}
    {xs : List PV} {tt sf : Bool} {ok : PV → Prop} {upd : PV → Sg → Sg} (keep : Nat → Bool)
    (hcl : clausesOf e = [⟨tgt, iter, ifs, 0⟩])
    (hstart : ∀ A I D env R s, codeAny C.M A (.compLoop e 0 (.ref I) (.ref D) env) R s → (∀ Q E, Q (.ref I) s → wpAny C.M A (pyIter (.ref I)) Q E s) → codeAny C.M A (.compStart e 0 (.ref I) (.ref D) env) R s)
    (hloop : ∀ A I D env (R : Result → Shared → Prop) (J : Nat → Shared → Prop), (∀ n s, J n s → wpAny C.M A (turnC iter.pos tgt ifs (emit D env) (.compLoop e 0 (.ref I) (.ref D) env) (.ref I) env)
      (fun fin s' => match fin with | .done f => R (.ok f) s' | .again c' => c' = .compLoop e 0 (.ref I) (.ref D) env ∧ ∃ m, m < n ∧ J m s') (notedBy C.M A env fun e s' => R (.error e) s') s) →
      ∀ n s, J n s → codeAny C.M A (.compLoop e 0 (.ref I) (.ref D) env) R s)
    (hnew : ∀ A E s (Q : Value → Shared → Prop), Q (.ref s.heap.objs.size) { s with heap := s.heap.push o } → wpAny C.M A newAcc Q E s)
    (hAPs : ∀ X X' oa D i (h h' : Heap), AP D X i h → Kp oa h h' → (∀ b, oa b → X b ∧ b ≠ D) → (∀ b, X' b → X b ∨ h.objs.size ≤ b) → AP D X' i h')
    (hAP0 : ∀ X (h : Heap), AP h.objs.size X 0 (h.push o))
    (hk : scope.kind = .function) (hcap : capOk scope F.env σ = true) (hi : ItE C k F σ iter xs tt sf) (htt : tupT tt tgt)
    (htg : ∀ L cs, TgU C k (compF scope F.env L cs) tgt ok upd) (hok : ∀ x ∈ xs, ok x)
    (hif : ∀ L cs (i : Nat) x, xs[i]? = some x → IfT C k (compF scope F.env L cs) (upd x (capd scope σ)) ifs (keep i))
    (hemit : ∀ L cs D (i : Nat) x, xs[i]? = some x → keep i = true → ∀ (Wo : Addr → Prop) (A : Around) (E : Value → Shared → Prop) (s : Shared) (Q : Unit → Shared → Prop), Room A k → Fm C Wo (compF scope F.env L cs) (upd x (capd scope σ)) s.heap → Wo D →
      AP D (Wx Wo (compF scope F.env L cs) (upd x (capd scope σ))) i s.heap →
      (∀ s', AP D (Wx Wo (compF scope F.env L cs) (upd x (capd scope σ))) (i + 1) s'.heap → Stp (fun b => b = D) (fun _ => False) s s' → Q () s') → wpAny C.M A (emit D (compF scope F.env L cs).env) Q E s)
    (hskip : ∀ D X (i : Nat) x (h : Heap), xs[i]? = some x → keep i = false → AP D X i h → AP D X (i + 1) h)
    (hs : ∀ x, foldedSetIterable iter F.env x = pure x)
    {Wo : Addr → Prop} {A : Around} {E : Value → Shared → Prop} {s : Shared} {use : Option (Value → Sem Unit)} {Q : Value → Shared → Prop} (hA : Room A k) (f : Fm C Wo F σ s.heap)
    (hQ : ∀ D L s' m, Pas s s' → s.heap.objs.size ≤ D → s.heap.objs.size ≤ L → D ≠ L → L < s'.heap.objs.size → AP D (fun b => Wx Wo F σ b ∨ b = L) xs.length s'.heap → s'.heap.Ns L m → compPost C.M A E use Q (.ref D) L (.ok .next) s') :
    wpAny C.M A (comprehension e scope F.env pos newAcc false (eval iter F.env) use) Q E s := by
  -- names of the scope
  have hnm : ∀ x ∈ scope.names, x.2 = .local → scope.names.lookup x.1 = some .local := fun x hx hl => by
    have := List.all_eq_true.mp hcap _ hx
    simp only [Bool.and_eq_true, beq_iff_eq] at this
    rw [this.1, hl]
  have fmE : Fm C Wo F σ s.heap := f
  obtain ⟨cl, hclos, hclm, hfm⟩ := comp_fm f hk hcap
  refine wpAny_comprehension_free (cl := cl) (use := use) hcl hs hclos hk hnm ?_
  refine hi.run Wo A E s _ hA f fun I wr fp og St Md s₁ W p₁ hfp hwr hog hst => ?_
  have hsub0 := W.sub _ _ _ _ _ hst
  refine hnew A E s₁ _ ?_
  have sz2 : (s₁.heap.push o).objs.size = s₁.heap.objs.size + 1 := Heap.size_push ..
  have k12 : Kp (fun _ => False) s₁.heap (s₁.heap.push o) := .push _ _ _
  have hap0 := fun X => hAP0 X s₁.heap
  have sz1 := p₁.keep.sz
  obtain ⟨D, hD⟩ : ∃ D, D = s₁.heap.objs.size := ⟨_, rfl⟩
  rw [← hD] at hap0 sz2 sz1 hfp ⊢
  obtain ⟨h₂, hh₂⟩ : ∃ h₂, h₂ = s₁.heap.push o := ⟨_, rfl⟩
  rw [← hh₂] at k12 hap0 sz2 ⊢
  have sD : D < h₂.objs.size := by omega
  obtain ⟨Wo', hWo'⟩ : ∃ Wo' : Addr → Prop, Wo' = fun b => Wx (fun b => Wo b ∨ wr b) F σ b ∨ b = D := ⟨_, rfl⟩
  obtain ⟨fc, kc, hown, hcs⟩ := hfm Wo' h₂ ⟨fun b o _ e => k12.k b o id (p₁.keep.k b o id e), by omega⟩ (fun b q => by
    rw [hWo'] at q
    rcases q with (q | q) | q
    · exact q.elim (fun z => .inl (.inl z)) fun z => .inr (hwr b z)
    · exact .inl (.inr q)
    · exact .inr (Nat.le_trans sz1 (Nat.le_of_eq q.symm))) fun b q => by
      rw [hWo'] at q
      rcases q with (q | q) | q
      · rcases q with q | q
        · exact Nat.lt_of_lt_of_le (f.bnd b q) (by omega)
        · exact Nat.lt_trans (hfp b (hsub0 b q)).1 sD
      · exact Nat.lt_of_lt_of_le (f.wbnd b (.inr q)) (by omega)
      · exact Nat.lt_of_le_of_lt (Nat.le_of_eq q) sD
  refine comp_env ?_
  show codeAny C.M A (.compStart e 0 (.ref I) (.ref D) (compF scope F.env h₂.objs.size (cellsFrom (h₂.objs.size + 1) scope.names cl)).env) (compPost C.M A E use Q (.ref D) h₂.objs.size) { s₁ with heap := pushCells (h₂.push { cls := .type "dict", data := .dict #[] }) scope.names }
  have p13 : Pas s₁ { s₁ with heap := pushCells (h₂.push { cls := .type "dict", data := .dict #[] }) scope.names } := .of_heap0 ⟨fun b o _ e => kc.k b o id (k12.k b o id e), Nat.le_trans k12.sz kc.sz⟩
  obtain ⟨s₃, hs₃⟩ : ∃ s₃ : Shared, s₃ = { s₁ with heap := pushCells (h₂.push { cls := .type "dict", data := .dict #[] }) scope.names } := ⟨_, rfl⟩
  have hap3 := fun X => hAPs X X (fun _ => False) D 0 h₂ _ (hap0 X) kc (fun _ q => q.elim) fun _ q => .inl q
  have hs3h : s₃.heap = pushCells (h₂.push { cls := .type "dict", data := .dict #[] }) scope.names := by rw [hs₃]
  rw [← hs₃] at p13 ⊢
  rw [← hs3h] at fc kc hap3
  obtain ⟨cs, hcs'⟩ : ∃ cs, cs = cellsFrom (h₂.objs.size + 1) scope.names cl := ⟨_, rfl⟩
  rw [← hcs'] at fc hown hcs ⊢
  obtain ⟨L, hL⟩ : ∃ L, L = h₂.objs.size := ⟨_, rfl⟩
  rw [← hL] at fc hown hcs ⊢
  rw [← hL] at sz2 sD
  obtain ⟨F', hF'⟩ : ∃ F', F' = compF scope F.env L cs := ⟨_, rfl⟩
  have hif' := hif L cs
  have hem' := hemit L cs D
  have htg' := htg L cs
  have hF'L : F'.env.locals = L := by rw [hF']; rfl
  have hF'c : F'.env.cells = cs := by rw [hF']; rfl
  rw [← hF'] at fc hown hif' hem' htg' ⊢
  clear hs₃ hs3h hcs' hh₂ hap0
  -- what stays so
  have hwrc : ∀ p ∈ F'.env.cells, ¬ wr p.2 := fun p hp q => by
    rcases hcs p (hF'c ▸ hp) with z | z
    · exact absurd (Nat.lt_of_lt_of_le (f.cb p z) (hwr _ q)) (Nat.lt_irrefl _)
    · exact absurd (Nat.lt_of_le_of_lt z (hfp _ (hsub0 _ q)).1) (Nat.not_lt.mpr (Nat.le_of_lt sD))
  have hDc : ∀ p ∈ F'.env.cells, p.2 ≠ D := fun p hp q => by
    rcases hcs p (hF'c ▸ hp) with z | z
    · exact Nat.lt_irrefl _ (Nat.lt_of_lt_of_le (q ▸ f.cb p z) sz1)
    · exact Nat.lt_irrefl _ (Nat.lt_of_lt_of_le sD (q ▸ z))
  have wrWo : ∀ b, wr b → Wo' b := fun b q => by rw [hWo']; exact .inl (.inl (.inr q))
  have DWo : Wo' D := by rw [hWo']; exact .inr rfl
  have wr0 : ∀ b, wr b → C.h₀.get? b = none := fun b q => none_h0 f (hwr b q)
  have D0 : C.h₀.get? D = none := none_h0 f (by omega)
  have wrD : ∀ b, wr b → b ≠ D := fun b q e => Nat.lt_irrefl _ (e ▸ (hfp b (hsub0 b q)).1)
  have ownfp : ∀ b : Nat, L ≤ b → ¬ fp b := fun b q z => by have h1 : b < D := (hfp b z).1; omega
  have ownD : ∀ b : Nat, L ≤ b → b ≠ D := fun b q z => by omega
  have fpD : ¬ fp D := fun q => Nat.lt_irrefl _ (hfp D q).1
  have hst3 : St wr fp (Wx Wo' F' (capd scope σ)) 0 s₃ := W.move _ _ _ (Wx Wo' F' (capd scope σ)) (fun _ => False) _ _ _ hst p13 (fun _ q => q.elim) fun b q => by
    rcases q with q | q
    · rw [hWo'] at q
      exact q.imp id fun z => Nat.le_trans (Nat.le_of_eq hD.symm) (Nat.le_of_eq z.symm)
    · exact .inr (Nat.le_trans (Nat.le_of_eq hD.symm) (Nat.le_trans (Nat.le_of_lt sD) (hown b q)))
  refine hstart A I D F'.env _ s₃ ?_ fun Q' E' hq => W.self _ _ _ 0 s₃ E' Q' hst3 hq
  have woE : ∀ b, (Wo b ∨ wr b) ∨ own F σ b ∨ b = D → Wo' b := fun b q => by
    rw [hWo']
    rcases q with q | q | q
    · exact .inl (.inl q)
    · exact .inl (.inr q)
    · exact .inr q
  have fc0 : Fm C (fun b => (Wo b ∨ wr b) ∨ own F σ b ∨ b = D) F' (capd scope σ) s₃.heap := fc.less woE
  have hst0 : St wr fp (Wx (fun b => (Wo b ∨ wr b) ∨ own F σ b ∨ b = D) F' (capd scope σ)) 0 s₃ := W.move _ _ _ _ (fun _ => False) _ _ _ hst3 .refl (fun _ q => q.elim) fun b q => .inl (q.imp (woE b) id)
  have hfb0 : Bdd fp s₃.heap := fun b q => Nat.lt_of_lt_of_le (hfp b q).1 (Nat.le_trans (Nat.le_of_eq hD) p13.keep.sz)
  refine hloop A I D F'.env _ (fun n s' => ∃ i σ' wr fp, i ≤ xs.length ∧ n = xs.length + 1 - i ∧ (∀ x, ok x → upd x σ' = upd x (capd scope σ)) ∧ Fm C (fun b => (Wo b ∨ wr b) ∨ own F σ b ∨ b = D) F' σ' s'.heap ∧ St wr fp (Wx (fun b => (Wo b ∨ wr b) ∨ own F σ b ∨ b = D) F' σ') i s' ∧
      Bdd fp s'.heap ∧ (∀ b, fp b → ¬ own F' σ' b) ∧ ¬ fp D ∧ (∀ b, wr b → s.heap.objs.size ≤ b) ∧ (∀ p ∈ F'.env.cells, ¬ wr p.2) ∧ (∀ b, own F' σ' b → L ≤ b) ∧ AP D (Wx (fun b => (Wo b ∨ wr b) ∨ own F σ b ∨ b = D) F' σ') i s'.heap ∧ Pas s s' ∧ s₃.heap.objs.size ≤ s'.heap.objs.size)
    ?_ (xs.length + 1) s₃ ⟨0, _, wr, fp, Nat.zero_le _, rfl, fun _ _ => rfl, fc0, hst0, hfb0, fun b q z => ownfp b (hown b z) q, fpD, hwr, hwrc, hown, hAPs _ _ (fun _ => False) _ _ _ _ (hap3 _) .refl (fun _ q => q.elim) fun b q => .inl q, p₁.trans p13, Nat.le_refl _⟩
  have hcellsD := hDc
  have hF'c3 := fc.cb
  clear hst hst3 hfp hwr hwrc hown ownfp fpD wrWo wr0 wrD hap3 fc DWo hfm hsub0 woE fc0 hst0 hfb0 hWo'
  rintro n s' ⟨i, σ', wr, fp, hle, rfl, hupd, f', hst', hfb', hfo', hfD', hwr', hwc', hown', hap', ps', szs⟩
  have hsub := W.sub _ _ _ _ _ hst'
  have sDs : D < s'.heap.objs.size := Nat.lt_of_lt_of_le (Nat.lt_of_lt_of_le sD (Nat.le_trans (Nat.le_of_eq hL) kc.sz) ) szs
  have wr0 : ∀ b, wr b → C.h₀.get? b = none := fun b q => none_h0 f (hwr' b q)
  have stepW : ∀ {sx : Shared} (wr' : Addr → Prop), (∀ b, wr' b → wr b ∨ s'.heap.objs.size ≤ b) → Bdd wr' sx.heap → Stp wr og s' sx → Pas s sx ∧ Fm C (fun b => (Wo b ∨ wr' b) ∨ own F σ b ∨ b = D) F' σ' sx.heap ∧ AP D (Wx (fun b => (Wo b ∨ wr' b) ∨ own F σ b ∨ b = D) F' σ') i sx.heap := fun wr' h1 h2 st =>
    ⟨Stp.trans ps' st (fun b q => .inr (hwr' b q)) fun g q => .inr (hog g q),
      f'.move st.keep (fun b q => .inl (.inr q)) (fun b q => hfo' b (hsub b q)) hwc' wr0 (fun b q => by
        rcases q with (q | q) | q
        · exact .inl (.inl (.inl q))
        · exact (h1 b q).imp (fun z => .inl (.inr z)) id
        · exact .inl (.inr q)) (fun b q => by
        rcases q with (q | q) | q
        · exact Nat.lt_of_lt_of_le (f'.bnd b (.inl (.inl q))) st.keep.sz
        · exact h2 b q
        · exact Nat.lt_of_lt_of_le (f'.bnd b (.inr q)) st.keep.sz),
      hAPs _ _ wr D i _ _ hap' st.keep (fun b q => ⟨.inl (.inl (.inr q)), fun e => hfD' (e ▸ hsub b q)⟩) fun b q => by
        rcases q with ((q | q) | q) | q
        · exact .inl (.inl (.inl (.inl q)))
        · exact (h1 b q).imp (fun z => .inl (.inl (.inr z))) id
        · exact .inl (.inl (.inr q))
        · exact .inl (.inr q)⟩
  show wpAny C.M A (turnC iter.pos tgt ifs (emit D F'.env) (.compLoop e 0 (.ref I) (.ref D) F'.env) (.ref I) F'.env) _ _ s'
  unfold turnC
  cases hx : xs[i]? with
  | none =>
    have hin : i = xs.length := Nat.le_antisymm hle (by simpa using hx)
    subst hin
    refine wpAny_bind (wpAny_standAt (wpAny_bind (W.done _ _ _ s' _ _ hst' f'.base fun s₄ st => wpAny_pure ?_)))
    obtain ⟨g1, g2, g3⟩ := stepW wr (fun b q => .inl q) (fun b q => Nat.lt_of_lt_of_le (hfb' b (hsub b q)) st.keep.sz) st
    obtain ⟨m, hn, -⟩ := g2.names
    refine hQ D L s₄ m g1 (by omega) (by omega) (by omega) ?_ (hAPs _ _ (fun _ => False) D _ _ _ g3 .refl (fun _ q => q.elim) fun b q => .inl ?_) (hF'L ▸ hn)
    · exact hF'L ▸ hn.lt
    · rcases q with q | q
      · exact .inl (q.elim (fun z => .inl (.inl z)) fun z => .inr (.inl z))
      · exact .inr (.inl (by rw [hF'L]; exact q))
  | some x =>
    have hlt : i < xs.length := (List.getElem?_eq_some_iff.mp hx).1
    have okx : ok x := hok x (List.mem_of_getElem? hx)
    refine wpAny_bind (wpAny_standAt (wpAny_bind (W.item _ _ _ i s' _ _ x hst' hx f'.wbnd (fun b q => .inl (.inl (.inr q))) hfb' f'.base fun v s₄ wr' fp' hvm st₄ hw2 hf2 hfb2 hsub2 => ?_)))
    obtain ⟨hv, hmd⟩ := hvm (Wx (fun b => (Wo b ∨ wr' b) ∨ own F σ b ∨ b = D) F' σ') fun b q => by
      rcases q with ((q | q) | q) | q
      · exact .inl (.inl (.inl (.inl q)))
      · exact .inr q
      · exact .inl (.inl (.inr q))
      · exact .inl (.inr q)
    obtain ⟨ps₄, f₄, ap₄⟩ := stepW wr' hw2 (fun b q => hfb2 b (hsub2 b q)) st₄
    have hfo2 : ∀ b, fp' b → ¬ own F' σ' b := fun b q z => (hf2 b q).elim (fun y => hfo' b y z) fun y => Nat.lt_irrefl _ (Nat.lt_of_lt_of_le (f'.wbnd b (.inr z)) y)
    have hfD2 : ¬ fp' D := fun q => (hf2 D q).elim hfD' fun y => Nat.lt_irrefl _ (Nat.lt_of_lt_of_le sDs y)
    have hwr2 : ∀ b, wr' b → s.heap.objs.size ≤ b := fun b q => (hw2 b q).elim (hwr' b) fun z => Nat.le_trans ps'.keep.sz z
    have hwc2 : ∀ p ∈ F'.env.cells, ¬ wr' p.2 := fun p hp q => (hw2 _ q).elim (hwc' p hp) fun z => Nat.lt_irrefl _ (Nat.lt_of_lt_of_le (f'.cb p hp) z)
    refine wpAny_bind (W.quiet _ _ _ _ s₄ _ _ tgt v hmd htt fun s₅ hst₅ st₅ => ?_)
    have ps₅ : Pas s s₅ := Stp.trans ps₄ st₅ (fun b q => .inr (hwr2 b q)) fun g q => .inr (hog g q)
    have f₅ : Fm C (fun b => (Wo b ∨ wr' b) ∨ own F σ b ∨ b = D) F' σ' s₅.heap := f₄.move st₅.keep (fun b q => .inl (.inr q)) (fun b q => hfo2 b (hsub2 b q)) hwc2 (fun b q => none_h0 f (hwr2 b q)) (fun b q => .inl q) fun b q => Nat.lt_of_lt_of_le (f₄.bnd b q) st₅.keep.sz
    have ap₅ := hAPs _ (Wx (fun b => (Wo b ∨ wr' b) ∨ own F σ b ∨ b = D) F' σ') wr' D i _ _ ap₄ st₅.keep (fun b q => ⟨.inl (.inl (.inr q)), fun e => hfD2 (e ▸ hsub2 b q)⟩) fun b q => .inl q
    refine wpAny_bind (htg'.tg x okx σ' _ A _ s₅ v _ hA f₅ (hv.step (st₅.keep.mono fun b q => .inl (.inl (.inr q))) fun b q => .inl q) fun s₆ f₆ st₆ ho₆ => ?_)
    rw [hupd x okx] at f₆ ho₆
    have W6 : ∀ b, Wx (fun b => (Wo b ∨ wr' b) ∨ own F σ b ∨ b = D) F' (upd x (capd scope σ)) b → Wx (fun b => (Wo b ∨ wr' b) ∨ own F σ b ∨ b = D) F' σ' b := fun b q => q.imp id (ho₆ b)
    have hown6 : ∀ b, own F' (upd x (capd scope σ)) b → L ≤ b := fun b q => hown' b (ho₆ b q)
    have hfo6 : ∀ b, fp' b → ¬ own F' (upd x (capd scope σ)) b := fun b q z => hfo2 b q (ho₆ b z)
    have ap₆ := hAPs _ (Wx (fun b => (Wo b ∨ wr' b) ∨ own F σ b ∨ b = D) F' (upd x (capd scope σ))) _ D _ _ _ ap₅ st₆.keep (fun b q => ⟨.inr q, ownD b (hown' b q)⟩) fun b q => .inl (W6 b q)
    have hst₆ := W.move _ _ _ (Wx (fun b => (Wo b ∨ wr' b) ∨ own F σ b ∨ b = D) F' (upd x (capd scope σ))) _ _ _ _ hst₅ st₆ (fun b q => ⟨.inr q, fun z => hfo2 b z q⟩) fun b q => .inl (W6 b q)
    have ps₆ : Pas s s₆ := Stp.trans ps₅ st₆ (fun b q => .inr (by have := hown' b q; omega)) fun _ (z : False) => z.elim
    have hup' : ∀ x', ok x' → upd x' (upd x (capd scope σ)) = upd x' (capd scope σ) := fun x' h => htg'.idem _ _ _ okx h
    have sz5 : s₄.heap.objs.size ≤ s₆.heap.objs.size := Nat.le_trans st₅.keep.sz st₆.keep.sz
    have sz6 : s'.heap.objs.size ≤ s₆.heap.objs.size := Nat.le_trans st₄.keep.sz sz5
    refine wpAny_bind ((hif' i x hx).run _ A _ s₆ _ hA f₆ fun s₇ p₇ => ?_)
    have f₇ := f₆.pas p₇
    have ap₇ := hAPs _ (Wx (fun b => (Wo b ∨ wr' b) ∨ own F σ b ∨ b = D) F' (upd x (capd scope σ))) _ D _ _ _ ap₆ p₇.keep (fun b q => q.elim) fun b q => .inl q
    have hst₇ := W.move _ _ _ (Wx (fun b => (Wo b ∨ wr' b) ∨ own F σ b ∨ b = D) F' (upd x (capd scope σ))) _ _ _ _ hst₆ p₇ (fun b q => q.elim) fun b q => .inl q
    have hfb7 : Bdd fp' s₇.heap := fun b q => Nat.lt_of_lt_of_le (hfb2 b q) (Nat.le_trans sz5 p₇.keep.sz)
    cases hkp : keep i with
    | false =>
      refine wpAny_pure ⟨rfl, xs.length + 1 - (i + 1), by omega, i + 1, _, wr', fp', hlt, rfl, hup', f₇, hst₇, hfb7, hfo6, hfD2, hwr2, hwc2, hown6, hskip D _ i x _ hx hkp ap₇, ps₆.trans p₇, Nat.le_trans szs (Nat.le_trans sz6 p₇.keep.sz)⟩
    | true =>
      refine wpAny_bind (hem' i x hx hkp _ A _ s₇ _ hA f₇ (.inr (.inr rfl)) ap₇ fun s₈ ap₈ st₈ => ?_)
      have ownD' : ∀ b, b = D → ¬ own F' (upd x (capd scope σ)) b := fun b e q => ownD b (hown6 b q) e
      have hst₈ := W.move _ _ _ (Wx (fun b => (Wo b ∨ wr' b) ∨ own F σ b ∨ b = D) F' (upd x (capd scope σ))) _ _ _ _ hst₇ st₈ (fun b q => ⟨.inl (.inr (.inr q)), fun z => hfD2 (q ▸ z)⟩) fun b q => .inl q
      refine wpAny_pure ⟨rfl, xs.length + 1 - (i + 1), by omega, i + 1, _, wr', fp', hlt, rfl, hup', ?_, hst₈, fun b q => Nat.lt_of_lt_of_le (hfb7 b q) st₈.keep.sz, hfo6, hfD2, hwr2, hwc2, hown6, ap₈, Stp.trans (ps₆.trans p₇) st₈ (fun b q => .inr (q ▸ sz1)) fun _ (z : False) => z.elim, Nat.le_trans szs (Nat.le_trans sz6 (Nat.le_trans p₇.keep.sz st₈.keep.sz))⟩
      exact f₇.move st₈.keep (fun b q => .inr (.inr q)) ownD' (fun p hp => hcellsD p hp) (fun b q => q ▸ D0) (fun _ q => .inl q) fun b q => Nat.lt_of_lt_of_le (f₇.bnd b q) st₈.keep.sz
end
end Mine

end

section
open PySem
set_option linter.unusedVariables false
namespace Mine
open PySem.Builtin PySem.Calls

/-- a kind of keys -/
structure DK (C : Cx) (K : Type) [DecidableEq K] where
  knd : KeyKind C.prog C.w K
  key : K → PV
  dic : List (K × PV) → PV
  is : ∀ v X h k, Rp C h X v (key k) → knd.is k v = true
  rev : ∀ v X h k, knd.is k v = true → Rp C h X v (key k)
  rep : ∀ h X a kvs xs, (a == sysModules) = false → h.DictOf knd a kvs → ¬ X a → kvs.map (·.1) = xs.map (·.1) → RpL C h X (kvs.map (·.2)) (xs.map (·.2)) → Rp C h X (.ref a) (dic xs)
  inv : ∀ h X v xs, Rp C h X v (dic xs) → ∃ a kvs, v = .ref a ∧ (a == sysModules) = false ∧ h.DictOf knd a kvs ∧ ¬ X a ∧ kvs.map (·.1) = xs.map (·.1) ∧ RpL C h X (kvs.map (·.2)) (xs.map (·.2))
noncomputable def dkS (C : Cx) : DK C Str where
  knd := strKind C.prog C.w
  key := .str
  dic := .dictS
  is := fun v X h k r => by cases r; simp [strKind, Value.isStrOf]
  rev := fun v X h k r => by obtain ⟨t, rfl⟩ := Value.isStrOf_shape r; exact .str _ _
  rep := fun h X a kvs xs h1 h2 h3 h4 h5 => .dictS h1 h2 h3 h4 h5
  inv := fun h X v xs r => by cases r with | dictS h1 h2 h3 h4 h5 => exact ⟨_, _, rfl, h1, h2, h3, h4, h5⟩
noncomputable def dkI (C : Cx) : DK C Int where
  knd := intKind C.prog C.w
  key := .int
  dic := .dictI
  is := fun v X h k r => by cases r; simp [intKind, Value.isInt]
  rev := fun v X h k r => by obtain ⟨t, rfl⟩ := Value.isInt_shape r; exact .int _ _
  rep := fun h X a kvs xs h1 h2 h3 h4 h5 => .dictI h1 h2 h3 h4 h5
  inv := fun h X v xs r => by cases r with | dictI h1 h2 h3 h4 h5 => exact ⟨_, _, rfl, h1, h2, h3, h4, h5⟩

noncomputable def dput {K V : Type} [DecidableEq K] (xs : List (K × V)) (k : K) (v : V) : List (K × V) :=
  if xs.any (fun kv => kv.1 = k) then xs.map (fun kv => if kv.1 = k then (kv.1, v) else kv) else xs ++ [(k, v)]
theorem dput_length {K V : Type} [DecidableEq K] {xs : List (K × V)} {k : K} {v : V} : (dput xs k v).length ≤ xs.length + 1 := by
  unfold dput; split <;> simp
section
variable {C : Cx} {k : Nat} {F : FE} {σ : Sg} {K : Type} [DecidableEq K]
theorem dput_rep {h : Heap} {X : Addr → Prop} {kk : K} {v : Value} {p : PV} (r : Rp C h X v p) : ∀ {kvs : List (K × Value)} {xs : List (K × PV)}, kvs.map (·.1) = xs.map (·.1) → RpL C h X (kvs.map (·.2)) (xs.map (·.2)) →
    (stored kvs kk v).map (·.1) = (dput xs kk p).map (·.1) ∧ RpL C h X ((stored kvs kk v).map (·.2)) ((dput xs kk p).map (·.2)) := by
  intro kvs xs he hr
  have hany : kvs.any (fun kv => kv.1 = kk) = xs.any (fun kv => kv.1 = kk) := by
    have e1 : kvs.any (fun kv => kv.1 = kk) = (kvs.map (·.1)).any (fun y => y = kk) := by rw [List.any_map]; rfl
    have e2 : xs.any (fun kv => kv.1 = kk) = (xs.map (·.1)).any (fun y => y = kk) := by rw [List.any_map]; rfl
    rw [e1, e2, he]
  unfold stored dput
  rw [hany]
  split
  · rename_i hyy
    clear hyy hany
    induction kvs generalizing xs with
    | nil => cases xs with
      | nil => exact ⟨rfl, .nil⟩
      | cons x xs => cases he
    | cons q kvs ih => cases xs with
      | nil => cases he
      | cons x xs =>
        rw [List.map_cons, List.map_cons] at he
        injection he with e1 e2
        cases hr with
        | cons ha hrs =>
          have i := ih (xs := xs) e2 hrs
          simp only [List.map_cons]
          refine ⟨?_, .cons ?_ i.2⟩
          · rw [i.1]
            rw [e1]
            by_cases hq : x.1 = kk <;> simp [hq, e1]
          · rw [e1]
            by_cases hq : x.1 = kk
            · rw [if_pos hq, if_pos hq]; exact r
            · rw [if_neg hq, if_neg hq]; exact ha
  · refine ⟨by simp [he], ?_⟩
    rw [List.map_append, List.map_append]
    exact hr.append (.cons r .nil)

/-- a comprehension's value; what is done with it is open -/
noncomputable def CompT (C : Cx) (k : Nat) (F : FE) (σ : Sg) (m : Option (Value → Sem Unit) → Sem Value) (res : PV) : Prop :=
  ∀ (Wo : Addr → Prop) (A : Around) (E : Value → Shared → Prop) (s : Shared) (use : Option (Value → Sem Unit)) (Q : Value → Shared → Prop), Room A k → Fm C Wo F σ s.heap →
    (∀ D L s' m, Pas s s' → s.heap.objs.size ≤ D → s.heap.objs.size ≤ L → L < s'.heap.objs.size → Rp C s'.heap (fun b => Wx Wo F σ b ∨ b = L) (.ref D) res → s'.heap.Ns L m → compPost C.M A E use Q (.ref D) L (.ok .next) s') →
    wpAny C.M A (m use) Q E s

theorem CompT.ev {e : Expr} {m res} (h : CompT C k F σ m res) (he : eval e F.env = m none) : EvT C k F σ e res := .mk fun Wo A E s Q hA f hQ => by
  rw [he]
  refine h Wo A E s none Q hA f fun D L s' m ps hD hL hL' r hn => ⟨m, hn, fun h' hs' => ?_⟩
  exact hQ _ _ (r.step (.same hs' (.inr rfl)) fun b q => .inl (.inl q)) (Stp.trans ps (.of_heap0 (oa := fun b => b = L) (.same hs' rfl)) (fun b q => .inr (q ▸ hL)) fun _ (z : False) => z.elim)

theorem CompT.assign {e : Expr} {m res y py spos} (h : CompT C k F σ m res) (hsw : swapsWith e (some (.Name y py)) spos.line F.env = pure true) (hy : storable F y = true)
    (he : ∀ use, evalThenUse e F.env use = (do let _ ← m (some use); pure ())) : SxT C k F σ (.Assign [.Name y py] e spos) (one (put σ y (.pv res))) := .mk fun Wo A E s hA f => by
  rw [exec_Assign_Name_used _ _ _ _ hsw]
  refine wpAny_bind (wpAny_standAt (wpAny_bind ?_))
  rw [he]
  refine wpAny_bind (wpAny_mono (h Wo A E s (some (PySem.assign (.Name y py) F.env)) (fun _ s' => Ends C F σ Wo s (one (put σ y (.pv res))) .next s') hA f fun D L s' m ps hD hL hL' r hn => ?_)
    (fun _ s' hq => wpAny_pure (wpAny_pure hq)) fun _ _ e => e)
  have hno : ∀ b, own F σ b → b ≠ L := fun b q e => Nat.lt_irrefl _ (Nat.lt_of_lt_of_le (f.wbnd b (.inr q)) (e ▸ hL))
  show wpAny C.M A (PySem.assign (.Name y py) F.env (.ref D)) _ E s'
  have f' : Fm C (fun b => Wo b ∨ b = L) F σ s'.heap := f.wide ps.keep (fun b q => q.imp id fun (z : b = L) => z ▸ hL) fun b q => q.elim (fun z => Nat.lt_of_lt_of_le (f.bnd b z) ps.keep.sz) fun (z : b = L) => z ▸ hL'
  refine wpAny_assign_Name (store_pv f' hy (r.less fun b q => q.elim (fun z => z.elim (fun y => .inl (.inl y)) .inr) fun z => .inl (.inr z)) fun s₂ f₂ st₂ => ?_)
  refine ⟨m, hn.at' fun o e => st₂.keep.k L o (fun q => hno L q rfl) e, fun h₃ hs₃ => ?_⟩
  have nown : ∀ b, b = L → ¬ own F (put σ y (.pv res)) b := fun b e q => hno b (own_pv f.keys q) e
  refine .stay ⟨rfl, rfl⟩ (f₂.move (oa := fun b => b = L) (.same hs₃ rfl) (fun b q => .inr q) nown (fun p hp q => Nat.lt_irrefl _ (Nat.lt_of_lt_of_le (f.cb p hp) (q ▸ hL))) (fun b q => none_h0 f (q ▸ hL)) (fun b q => .inl (.inl q))
    fun b q => hs₃.1 ▸ f₂.bnd b (.inl q)) ?_ fun b q => .inl (own_pv f.keys q)
  exact Stp.trans (Stp.trans ps.stp st₂ (fun b q => .inl q) fun _ (z : False) => z.elim) (.of_heap0 (oa := fun b => b = L) (.same hs₃ rfl)) (fun b q => .inr (q ▸ hL)) fun _ (z : False) => z.elim

theorem take_filter_some {α : Type} {us : List α} {keep : α → Bool} {i : Nat} {u : α} (hx : us[i]? = some u) (hk : keep u = true) : (us.take (i + 1)).filter keep = (us.take i).filter keep ++ [u] := by
  rw [List.take_add_one, hx, List.filter_append]; simp [hk]
theorem take_filter_none {α : Type} {us : List α} {keep : α → Bool} {i : Nat} {u : α} (hx : us[i]? = some u) (hk : keep u = false) : (us.take (i + 1)).filter keep = (us.take i).filter keep := by
  rw [List.take_add_one, hx, List.filter_append]; simp [hk]
noncomputable def keepAt {α : Type} (us : List α) (keep : α → Bool) (i : Nat) : Bool := match us[i]? with
  | some u => keep u
  | none => false
theorem at_map {α : Type} {us : List α} {g : α → PV} {keep : α → Bool} {i : Nat} {x : PV} (hx : (us.map g)[i]? = some x) : ∃ u, us[i]? = some u ∧ u ∈ us ∧ x = g u ∧ keepAt us keep i = keep u := by
  rw [List.getElem?_map] at hx
  cases hu : us[i]? with
  | none => rw [hu] at hx; cases hx
  | some u =>
    rw [hu] at hx
    cases hx
    exact ⟨u, rfl, List.mem_of_getElem? hu, rfl, by unfold keepAt; rw [hu]⟩

theorem compListT {scope : Scope} {pos : Pos} {elt tgt iter : Expr} {ifs : List Expr} {α : Type} {us : List α} {g : α → PV} {tt sf : Bool} {ok : PV → Prop} {upd : PV → Sg → Sg} (keep : α → Bool) (val : α → PV)
    (hk : scope.kind = .function) (hcap : capOk scope F.env σ = true) (hi : ItE C k F σ iter (us.map g) tt sf) (htt : tupT tt tgt)
    (htg : ∀ L cs, TgU C k (compF scope F.env L cs) tgt ok upd) (hok : ∀ u ∈ us, ok (g u))
    (hif : ∀ L cs, ∀ u ∈ us, IfT C k (compF scope F.env L cs) (upd (g u) (capd scope σ)) ifs (keep u))
    (hel : ∀ L cs, ∀ u ∈ us, keep u = true → EvT C k (compF scope F.env L cs) (upd (g u) (capd scope σ)) elt (val u))
    (hs : ∀ x, foldedSetIterable iter F.env x = pure x) (hsz : us.length ≤ sizeLine) :
    CompT C k F σ (fun use => comprehension (.ListComp elt [⟨tgt, iter, ifs, 0⟩] scope pos) scope F.env (firstIterPos [⟨tgt, iter, ifs, 0⟩] pos) (newList []) false (eval iter F.env) use) (.list ((us.filter keep).map val)) :=
  fun Wo A E s use Q hA f hQ => by
  refine comp_core (e := .ListComp elt [⟨tgt, iter, ifs, 0⟩] scope pos) (emit := fun D env => do let _ ← call (.builtin "list.append") [.ref D, ← eval elt env]) (o := { cls := .type "list", data := .seq #[] })
    (AP := fun D X i h => ∃ vs, h.PlainList D vs ∧ RpL C h X vs.toList (((us.take i).filter keep).map val)) (keepAt us keep) rfl ?_ ?_ ?_ ?_ ?_ hk hcap hi htt htg (fun x hx => by obtain ⟨u, hu, rfl⟩ := List.mem_map.mp hx; exact hok u hu)
    (fun L cs i x hx => by obtain ⟨u, _, hm, rfl, e⟩ := at_map (keep := keep) hx; rw [e]; exact hif L cs u hm) ?_ ?_ hs hA f fun D L s' m ps hD hL hDL hL' hap hn => ?_
  · intro A I D env R s h0 h1
    exact codeAny_compStart_list h0 (h1 _ _ h0)
  · intro A I D env R J turn n s hJ
    refine codeAny_loop rfl J (fun n s hI => ?_) n hJ
    show wpAny _ A ((compTurn (.ListComp elt [⟨tgt, iter, ifs, 0⟩] scope pos) 0 (.ref I) (.ref D) env).onRaise (fun x => do noteFrame x env; theTreesLotGoes x)) _ _ s
    exact wpAny_noted (turn n s hI)
  · exact fun A E s Q h => wpAny_newObj_type h (by show (0 : Nat) ≤ sizeLine; exact Nat.zero_le _)
  · rintro X X' oa D i h h' ⟨vs, hl, hr⟩ hkp hoa hX
    exact ⟨vs, hl.at fun o e => hkp.k D o (fun q => (hoa D q).2 rfl) e, hr.step (hkp.mono fun b q => (hoa b q).1) hX⟩
  · exact fun X h => ⟨#[], ⟨_, Heap.get?_push_size _ rfl⟩, by simp; exact .nil⟩
  · rintro L cs D i x hx hkp Wo' A' E' s' Q' hA' f' hD ⟨vs, hl, hr⟩ hq
    obtain ⟨u, hu, hm, rfl, ek⟩ := at_map (keep := keep) hx
    rw [ek] at hkp
    refine wpAny_bind ((hel L cs u hm hkp).run Wo' A' E' s' _ hA' f' fun y s₁ hy p₁ => ?_)
    have er := hr.length
    rw [Array.length_toList, List.length_map] at er
    have e2 : ((us.take i).filter keep).length ≤ us.length := Nat.le_trans (List.length_filter_le ..) (by simp; omega)
    refine wpAny_bind (wpAny_list_append_plain (hl.at fun o e => p₁.keep.k D o id e) (fun h' hl' hs' => ?_) (by omega))
    refine wpAny_pure (hq _ ⟨_, hl', ?_⟩ (Stp.trans p₁.stp (.of_heap0 (oa := fun b => b = D) (.same hs' rfl)) (fun _ q => .inl q) fun _ (z : False) => z.elim))
    rw [take_filter_some hu hkp, List.map_append]
    have e3 : (vs.push y).toList = vs.toList ++ [y] := by simp
    rw [e3]
    exact (((hr.ext p₁.keep).append (.cons hy .nil)).step (.same hs' (.inl hD)) fun b q => .inl q)
  · rintro D X i x h hx hkp ⟨vs, hl, hr⟩
    obtain ⟨u, hu, hm, rfl, ek⟩ := at_map (keep := keep) hx
    rw [ek] at hkp
    exact ⟨vs, hl, by rw [take_filter_none hu hkp]; exact hr⟩
  · obtain ⟨vs, hl, hr⟩ := hap
    rw [List.length_map, List.take_length] at hr
    refine hQ D L s' m ps hD hL hL' (.list hl (fun q => ?_) hr) hn
    rcases q with q | q
    · exact Nat.lt_irrefl _ (Nat.lt_of_lt_of_le (f.wbnd D q) hD)
    · exact hDL q

/-- the dict that a comprehension builds -/
noncomputable def dfill {K : Type} [DecidableEq K] {α : Type} (key : α → K) (val : α → PV) (xs : List α) : List (K × PV) := xs.foldl (fun acc x => dput acc (key x) (val x)) []
theorem dfill_len {α : Type} {key : α → K} {val : α → PV} (xs : List α) : (dfill key val xs).length ≤ xs.length := by
  unfold dfill
  suffices h : ∀ acc : List (K × PV), (xs.foldl (fun acc x => dput acc (key x) (val x)) acc).length ≤ acc.length + xs.length by simpa using h []
  induction xs with
  | nil => intro acc; simp
  | cons x xs ih =>
    intro acc
    have := ih (dput acc (key x) (val x))
    have e := dput_length (xs := acc) (k := key x) (v := val x)
    simp only [List.foldl_cons, List.length_cons]
    omega

theorem not_sys {Wo : Addr → Prop} {h : Heap} (f : Fm C Wo F σ h) {D : Addr} (hD : h.objs.size ≤ D) : (D == sysModules) = false := by
  obtain ⟨o, _, _, ho, _⟩ := C.g
  have := Heap.lt_size (f.base _ _ ho)
  have e : mainGlobals = 3 := rfl
  have e2 : sysModules = 1 := rfl
  rw [beq_eq_false_iff_ne]
  intro q
  have q' : (D : Nat) = 1 := q
  have h1 : (3 : Nat) < h.objs.size := this
  have h2 : h.objs.size ≤ (D : Nat) := hD
  rw [q'] at h2
  omega

theorem compDictT (dk : DK C K) {scope : Scope} {pos : Pos} {kx vx tgt iter : Expr} {ifs : List Expr} {α : Type} {us : List α} {g : α → PV} {tt sf : Bool} {ok : PV → Prop} {upd : PV → Sg → Sg} (keep : α → Bool) (key : α → K) (val : α → PV)
    (hk : scope.kind = .function) (hcap : capOk scope F.env σ = true) (hi : ItE C k F σ iter (us.map g) tt sf) (htt : tupT tt tgt)
    (htg : ∀ L cs, TgU C k (compF scope F.env L cs) tgt ok upd) (hok : ∀ u ∈ us, ok (g u))
    (hif : ∀ L cs, ∀ u ∈ us, IfT C k (compF scope F.env L cs) (upd (g u) (capd scope σ)) ifs (keep u))
    (hkey : ∀ L cs, ∀ u ∈ us, keep u = true → EvT C k (compF scope F.env L cs) (upd (g u) (capd scope σ)) kx (dk.key (key u)))
    (hval : ∀ L cs, ∀ u ∈ us, keep u = true → EvT C k (compF scope F.env L cs) (upd (g u) (capd scope σ)) vx (val u))
    (hs : ∀ x, foldedSetIterable iter F.env x = pure x) (hsz : us.length ≤ sizeLine) :
    CompT C k F σ (fun use => comprehension (.DictComp kx vx [⟨tgt, iter, ifs, 0⟩] scope pos) scope F.env (firstIterPos [⟨tgt, iter, ifs, 0⟩] pos) newDict false (eval iter F.env) use) (dk.dic (dfill key val (us.filter keep))) :=
  fun Wo A E s use Q hA f hQ => by
  refine comp_core (e := .DictComp kx vx [⟨tgt, iter, ifs, 0⟩] scope pos) (emit := fun D env => do
        let kv ← eval kx env
        let vv ← holding [kv] (eval vx env)
        standAt { kx.pos with endLine := vx.pos.endLine, endCol := vx.pos.endCol }
        holding [kv, vv] (dictSet D kv vv)) (o := { cls := .type "dict", data := .dict #[] })
    (AP := fun D X i h => ∃ kvs, h.DictOf dk.knd D kvs ∧ kvs.map (·.1) = (dfill key val ((us.take i).filter keep)).map (·.1) ∧ RpL C h X (kvs.map (·.2)) ((dfill key val ((us.take i).filter keep)).map (·.2))) (keepAt us keep) rfl ?_ ?_ ?_ ?_ ?_ hk hcap hi htt htg (fun x hx => by obtain ⟨u, hu, rfl⟩ := List.mem_map.mp hx; exact hok u hu)
    (fun L cs i x hx => by obtain ⟨u, _, hm, rfl, e⟩ := at_map (keep := keep) hx; rw [e]; exact hif L cs u hm) ?_ ?_ hs hA f fun D L s' m ps hD hL hDL hL' hap hn => ?_
  · intro A I D env R s h0 h1
    exact codeAny_compStart_dict h0 (h1 _ _ h0)
  · intro A I D env R J turn n s hJ
    refine codeAny_loop rfl J (fun n s hI => ?_) n hJ
    show wpAny _ A ((compTurn (.DictComp kx vx [⟨tgt, iter, ifs, 0⟩] scope pos) 0 (.ref I) (.ref D) env).onRaise (fun x => do noteFrame x env; theTreesLotGoes x)) _ _ s
    exact wpAny_noted (turn n s hI)
  · exact fun A E s Q h => wpAny_newObj_type h
  · rintro X X' oa D i h h' ⟨vs, hl, he, hr⟩ hkp hoa hX
    exact ⟨vs, hl.at fun o e => hkp.k D o (fun q => (hoa D q).2 rfl) e, he, hr.step (hkp.mono fun b q => (hoa b q).1) hX⟩
  · exact fun X h => ⟨[], Heap.DictOf.new h, rfl, .nil⟩
  · rintro L cs D i x hx hkp Wo' A' E' s' Q' hA' f' hD ⟨vs, hl, he, hr⟩ hq
    obtain ⟨u, hu, hm, rfl, ek⟩ := at_map (keep := keep) hx
    rw [ek] at hkp
    refine wpAny_bind ((hkey L cs u hm hkp).run Wo' A' E' s' _ hA' f' fun y s₁ hy p₁ => wpAny_bind (wpAny_holding ((hval L cs u hm hkp).run Wo' A' E' s₁ _ hA' (f'.pas p₁) fun z s₂ hz p₂ => ?_)))
    have er := congrArg List.length he
    rw [List.length_map, List.length_map] at er
    have e2 : ((us.take i).filter keep).length ≤ us.length := Nat.le_trans (List.length_filter_le ..) (by simp; omega)
    have e4 := dfill_len (key := key) (val := val) ((us.take i).filter keep)
    refine wpAny_bind (wpAny_standAt (wpAny_holding (wpAny_dictSet_pairs (hsz := by omega) (dk.is _ _ _ _ hy) (hl.at fun o e => p₂.keep.k D o id (p₁.keep.k D o id e)) fun h' hl' hs' => ?_)))
    have q := dput_rep (kk := key u) hz he ((hr.ext p₁.keep).ext p₂.keep)
    refine hq _ ⟨_, hl', ?_, ?_⟩ (Stp.trans (Pas.trans p₁ p₂).stp (.of_heap (oa := fun b => b = D) (.same hs' rfl)) (fun _ q => .inl q) fun _ (z : False) => z.elim)
    · rw [take_filter_some hu hkp]; unfold dfill; rw [List.foldl_append]; exact q.1
    · rw [take_filter_some hu hkp]; unfold dfill; rw [List.foldl_append]; exact q.2.step (.same hs' (.inl hD)) fun b q => .inl q
  · rintro D X i x h hx hkp ⟨vs, hl, he, hr⟩
    obtain ⟨u, hu, hm, rfl, ek⟩ := at_map (keep := keep) hx
    rw [ek] at hkp
    exact ⟨vs, hl, by rw [take_filter_none hu hkp]; exact he, by rw [take_filter_none hu hkp]; exact hr⟩
  · obtain ⟨vs, hl, he, hr⟩ := hap
    rw [List.length_map, List.take_length] at hr he
    refine hQ D L s' m ps hD hL hL' (dk.rep _ _ _ _ _ (not_sys f hD) hl (fun q => ?_) he hr) hn
    rcases q with q | q
    · exact Nat.lt_irrefl _ (Nat.lt_of_lt_of_le (f.wbnd D q) hD)
    · exact hDL q
end

section
variable {C : Cx} {k : Nat} {F : FE} {σ : Sg} {K : Type} [DecidableEq K]
theorem EvT.listComp {scope : Scope} {pos : Pos} {elt tgt iter : Expr} {ifs : List Expr} {α : Type} {us : List α} {g : α → PV} {tt sf : Bool} {ok : PV → Prop} {upd : PV → Sg → Sg} (keep : α → Bool) (val : α → PV)
    (hi : ItE C k F σ iter (us.map g) tt sf) (htt : tupT tt tgt) (htg : ∀ L cs, TgU C k (compF scope F.env L cs) tgt ok upd) (hok : ∀ u ∈ us, ok (g u))
    (hif : ∀ L cs, ∀ u ∈ us, IfT C k (compF scope F.env L cs) (upd (g u) (capd scope σ)) ifs (keep u))
    (hel : ∀ L cs, ∀ u ∈ us, keep u = true → EvT C k (compF scope F.env L cs) (upd (g u) (capd scope σ)) elt (val u)) (hsz : us.length ≤ sizeLine)
    (hcap : capOk scope F.env σ = true) (hk : scope.kind = .function := by first | kernel_rfl | rfl) (hs : ∀ x, foldedSetIterable iter F.env x = pure x := by intro _; first | kernel_rfl | rfl) :
    EvT C k F σ (.ListComp elt [⟨tgt, iter, ifs, 0⟩] scope pos) (.list ((us.filter keep).map val)) :=
  (compListT keep val hk hcap hi htt htg hok hif hel hs hsz).ev rfl
theorem SxT.listComp {scope : Scope} {pos : Pos} {elt tgt iter : Expr} {ifs : List Expr} {α : Type} {us : List α} {g : α → PV} {tt sf : Bool} {ok : PV → Prop} {upd : PV → Sg → Sg} {y py spos} (keep : α → Bool) (val : α → PV)
    (hi : ItE C k F σ iter (us.map g) tt sf) (htt : tupT tt tgt) (htg : ∀ L cs, TgU C k (compF scope F.env L cs) tgt ok upd) (hok : ∀ u ∈ us, ok (g u))
    (hif : ∀ L cs, ∀ u ∈ us, IfT C k (compF scope F.env L cs) (upd (g u) (capd scope σ)) ifs (keep u))
    (hel : ∀ L cs, ∀ u ∈ us, keep u = true → EvT C k (compF scope F.env L cs) (upd (g u) (capd scope σ)) elt (val u)) (hsz : us.length ≤ sizeLine)
    (hcap : capOk scope F.env σ = true) (hy : storable F y = true) (hsw : swapsWith (.ListComp elt [⟨tgt, iter, ifs, 0⟩] scope pos) (some (.Name y py)) spos.line F.env = pure true := by first | kernel_rfl | rfl)
    (hk : scope.kind = .function := by first | kernel_rfl | rfl) (hs : ∀ x, foldedSetIterable iter F.env x = pure x := by intro _; first | kernel_rfl | rfl) :
    SxT C k F σ (.Assign [.Name y py] (.ListComp elt [⟨tgt, iter, ifs, 0⟩] scope pos) spos) (one (put σ y (.pv (.list ((us.filter keep).map val))))) :=
  (compListT keep val hk hcap hi htt htg hok hif hel hs hsz).assign hsw hy fun _ => rfl
theorem EvT.dictComp (dk : DK C K) {scope : Scope} {pos : Pos} {kx vx tgt iter : Expr} {ifs : List Expr} {α : Type} {us : List α} {g : α → PV} {tt sf : Bool} {ok : PV → Prop} {upd : PV → Sg → Sg} (keep : α → Bool) (key : α → K) (val : α → PV)
    (hi : ItE C k F σ iter (us.map g) tt sf) (htt : tupT tt tgt) (htg : ∀ L cs, TgU C k (compF scope F.env L cs) tgt ok upd) (hok : ∀ u ∈ us, ok (g u))
    (hif : ∀ L cs, ∀ u ∈ us, IfT C k (compF scope F.env L cs) (upd (g u) (capd scope σ)) ifs (keep u))
    (hkey : ∀ L cs, ∀ u ∈ us, keep u = true → EvT C k (compF scope F.env L cs) (upd (g u) (capd scope σ)) kx (dk.key (key u)))
    (hval : ∀ L cs, ∀ u ∈ us, keep u = true → EvT C k (compF scope F.env L cs) (upd (g u) (capd scope σ)) vx (val u)) (hsz : us.length ≤ sizeLine)
    (hcap : capOk scope F.env σ = true) (hk : scope.kind = .function := by first | kernel_rfl | rfl) (hs : ∀ x, foldedSetIterable iter F.env x = pure x := by intro _; first | kernel_rfl | rfl) :
    EvT C k F σ (.DictComp kx vx [⟨tgt, iter, ifs, 0⟩] scope pos) (dk.dic (dfill key val (us.filter keep))) :=
  (compDictT dk keep key val hk hcap hi htt htg hok hif hkey hval hs hsz).ev rfl
theorem SxT.dictComp (dk : DK C K) {scope : Scope} {pos : Pos} {kx vx tgt iter : Expr} {ifs : List Expr} {α : Type} {us : List α} {g : α → PV} {tt sf : Bool} {ok : PV → Prop} {upd : PV → Sg → Sg} {y py spos} (keep : α → Bool) (key : α → K) (val : α → PV)
    (hi : ItE C k F σ iter (us.map g) tt sf) (htt : tupT tt tgt) (htg : ∀ L cs, TgU C k (compF scope F.env L cs) tgt ok upd) (hok : ∀ u ∈ us, ok (g u))
    (hif : ∀ L cs, ∀ u ∈ us, IfT C k (compF scope F.env L cs) (upd (g u) (capd scope σ)) ifs (keep u))
    (hkey : ∀ L cs, ∀ u ∈ us, keep u = true → EvT C k (compF scope F.env L cs) (upd (g u) (capd scope σ)) kx (dk.key (key u)))
    (hval : ∀ L cs, ∀ u ∈ us, keep u = true → EvT C k (compF scope F.env L cs) (upd (g u) (capd scope σ)) vx (val u)) (hsz : us.length ≤ sizeLine)
    (hcap : capOk scope F.env σ = true) (hy : storable F y = true) (hsw : swapsWith (.DictComp kx vx [⟨tgt, iter, ifs, 0⟩] scope pos) (some (.Name y py)) spos.line F.env = pure true := by first | kernel_rfl | rfl)
    (hk : scope.kind = .function := by first | kernel_rfl | rfl) (hs : ∀ x, foldedSetIterable iter F.env x = pure x := by intro _; first | kernel_rfl | rfl) :
    SxT C k F σ (.Assign [.Name y py] (.DictComp kx vx [⟨tgt, iter, ifs, 0⟩] scope pos) spos) (one (put σ y (.pv (dk.dic (dfill key val (us.filter keep)))))) :=
  (compDictT dk keep key val hk hcap hi htt htg hok hif hkey hval hs hsz).assign hsw hy fun _ => rfl
end
end Mine

end

section
open PySem
set_option linter.unusedVariables false
namespace Mine
open PySem.Builtin PySem.Calls

noncomputable def noGo : List String := ["enumerate", "zip", "dict_itemiterator", "dict_reverseitemiterator", "odict_iterator", "itertools.zip_longest", "itertools.pairwise"]
theorem letGo_quiet {C : Cx} {A : Around} {E : Value → Shared → Prop} {s : Shared} {Q : Unit → Shared → Prop} {tgt : Expr} {I : Addr} {v : Value} {o : Obj} {n : String} (ho : s.heap.get? I = some o) (hc : o.cls = .type n) (hn : noGo.contains n = false)
    (htt : tupT false tgt) (h : Q () s) : wpAny C.M A (letOwnedTupleGo tgt (.ref I) v) Q E s := by
  rcases htt.2 with ⟨x, pos, rfl⟩ | ⟨elts, m, pos, rfl⟩
  · exact wpAny_pure h
  · cases v <;> try exact wpAny_pure h
    rename_i a
    unfold letOwnedTupleGo
    refine wpAny_bind (wpAny_load ho ?_)
    rw [hc]
    split
    · rename_i n' vs e1 e2
      cases e1
      have : (noGo.contains n && vs[0]? == some (rawInt a)) = false := by rw [hn]; rfl
      show wpAny _ A (if (noGo.contains n && vs[0]? == some (rawInt a)) = true then _ else _) Q E s
      rw [this]
      exact wpAny_pure h
    · exact wpAny_pure h

/-- an iterator of the library's -/
theorem ItN.ofWalks {C : Cx} {A : Around} {I : Addr} {fl wl : List Addr} {n : Nat} {P : Nat → Value → Prop} {St : Nat → Heap → Prop} {xs : List PV} (W : Walks C.prog C.w A I fl wl n P St) (hn : n = xs.length)
    (hq : ∀ i h, St i h → ∃ o m, h.get? I = some o ∧ o.cls = .type m ∧ noGo.contains m = false) :
    ItN C A I (fun _ => False) xs false (fun wr fp X i s => (wr = (fun b => b ∈ wl) ∧ fp = fun b => b ∈ fl) ∧ St i s.heap ∧ ∀ j v, i ≤ j → j < xs.length → P j v → ∃ x, xs[j]? = some x ∧ Rp C s.heap X v x)
      (fun wr fp X i v s => (wr = (fun b => b ∈ wl) ∧ fp = fun b => b ∈ fl) ∧ St (i + 1) s.heap ∧ ∀ j v, i + 1 ≤ j → j < xs.length → P j v → ∃ x, xs[j]? = some x ∧ Rp C s.heap X v x) where
  sub := fun wr fp X i s st => by obtain ⟨⟨rfl, rfl⟩, _⟩ := st; exact W.sub
  item := fun wr fp X i s E Q x st hx hX hw hfb _ hQ => by
    obtain ⟨⟨rfl, rfl⟩, st⟩ := st
    have hi : i < n := by rw [hn]; exact (List.getElem?_eq_some_iff.mp hx).1
    refine with_size (W.item i s _ _ hi st.1 fun v h' tk hP hst hk hsz => ?_)
    have kp : Kp (fun b => b ∈ wl) s.heap h' := ⟨fun b o hb e => hk b o hb e, hsz⟩
    obtain ⟨y, hy, ry⟩ := st.2 i v (Nat.le_refl _) (hn ▸ hi) hP
    rw [hx] at hy
    cases hy
    refine hQ v _ _ _ (fun X' hX' => ?_) (.of_heap kp) (fun _ q => .inl q) (fun _ q => .inl q) (hfb.kp kp) W.sub
    have up : ∀ {u p}, Rp C s.heap X u p → Rp C h' X' u p := fun r => r.step (kp.mono hw) fun b q => (hX' b q).elim .inl fun z => .inl (hw b z)
    exact ⟨up ry, ⟨rfl, rfl⟩, hst, fun j u hj hl hu => let ⟨z, h1, h2⟩ := st.2 j u (Nat.le_of_succ_le hj) hl hu; ⟨z, h1, up h2⟩⟩
  done := fun wr fp X s E Q st _ hQ => by
    obtain ⟨⟨rfl, rfl⟩, st⟩ := st
    exact with_size (W.done s _ _ (hn ▸ st.1) fun h' tk hk hsz => hQ _ (.of_heap ⟨fun b o hb e => hk b o hb e, hsz⟩))
  move := fun wr fp X X' oa i s s' st hs ha hX => by
    obtain ⟨⟨rfl, rfl⟩, st⟩ := st
    exact ⟨⟨rfl, rfl⟩, W.frame _ _ _ st.1 fun b hb o e => hs.keep.k b o (fun q => (ha b q).2 hb) e, fun j v hj hl hP => let ⟨x, h1, h2⟩ := st.2 j v hj hl hP; ⟨x, h1, h2.step (hs.keep.mono fun b q => (ha b q).1) hX⟩⟩
  quiet := fun wr fp X i s E Q tgt v st htt hQ => let ⟨o, m, h1, h2, h3⟩ := hq _ _ st.2.1; letGo_quiet h1 h2 h3 htt (hQ s st .refl)
  self := fun wr fp X i s E Q st hQ => W.self i s Q E st.2.1 hQ

section
variable {C : Cx} {k : Nat} {F : FE} {σ : Sg}

/-- a fresh iterator over something that stands -/
theorem itStart {Wo : Addr → Prop} {A : Around} {s₁ : Shared} {I : Addr} {fp wr : List Addr} {n : Nat} {P : Nat → Value → Prop} {St : Nat → Heap → Prop} {xs : List PV} {s : Shared} {Q : Value → Shared → Prop} {sf : Bool}
    (f : Fm C Wo F σ s.heap) (p : Pas s s₁) (W : Walks C.prog C.w A I fp wr n P St) (hn : n = xs.length) (hq : ∀ i h, St i h → ∃ o m, h.get? I = some o ∧ o.cls = .type m ∧ noGo.contains m = false) {o : Obj} (hI : I = s₁.heap.objs.size) (hwr : wr = [I])
    (hfp : ∀ b ∈ fp, b = I ∨ (b < s₁.heap.objs.size ∧ (sf = true → ¬ own F σ b))) (hst : St 0 (s₁.heap.push o)) (hv : ∀ j v, j < xs.length → P j v → ∃ x, xs[j]? = some x ∧ Rp C s₁.heap (Wx Wo F σ) v x)
    (h : ∀ I wr fp og St Md s', ItN C A I og xs false St Md → Pas s s' → (∀ b, fp b → b < s'.heap.objs.size ∧ (sf = true → ¬ own F σ b)) → (∀ b, wr b → s.heap.objs.size ≤ b) → (∀ g, og g → s.gens.size ≤ g) → St wr fp (Wx (fun b => Wo b ∨ wr b) F σ) 0 s' → Q (.ref I) s') :
    Q (.ref I) { s₁ with heap := s₁.heap.push o } := by
  have hsz : (s₁.heap.push o).objs.size = s₁.heap.objs.size + 1 := Heap.size_push ..
  subst hI hwr
  refine h _ (fun b => b ∈ [s₁.heap.objs.size]) (fun b => b ∈ fp) _ _ _ _ (ItN.ofWalks W hn hq) (p.trans (.of_heap0 (.push _ _ _))) (fun b hb => ?_) (fun b hb => ?_) (fun g q => q.elim) ⟨⟨rfl, rfl⟩, hst, fun j v _ hl hP => ?_⟩
  · show b < (s₁.heap.push o).objs.size ∧ _
    rw [hsz]
    rcases hfp b hb with q | q
    · subst q
      exact ⟨Nat.lt_succ_self _, fun _ z => Nat.lt_irrefl _ (Nat.lt_of_lt_of_le (f.wbnd _ (.inr z)) p.keep.sz)⟩
    · exact ⟨Nat.lt_succ_of_lt q.1, q.2⟩
  · rw [List.mem_singleton.mp hb]; exact p.keep.sz
  · obtain ⟨x, h1, h2⟩ := hv j v hl hP
    refine ⟨x, h1, h2.step (.any (.push _ _ _)) fun b q => ?_⟩
    rcases q with q | q
    · rcases q with q | q
      · exact .inl (.inl q)
      · exact .inr (Nat.le_of_eq (List.mem_singleton.mp q).symm)
    · exact .inl (.inr q)

theorem ItE.list {e : Expr} {ps : List PV} {sf : Bool} (he : EvT C k F σ e (.list ps)) : ItE C k F σ e ps false sf := .mk fun Wo A E s Q hA f h => by
  refine he.run Wo A E s _ hA f fun v s₁ hv p₁ => ?_
  cases hv with
  | list hl hn r =>
    rename_i a vs
    have ha : a < s₁.heap.objs.size := by obtain ⟨m, e⟩ := hl; exact Heap.lt_size e
    refine wpAny_pyIter_list hl.isList ?_
    have er := r.length
    rw [Array.length_toList] at er
    refine itStart f p₁ (Walks.list hA.hh s₁.heap.objs.size a (Nat.ne_of_lt ha) vs) er (fun i h st => let ⟨o, h1, h2, _⟩ := st.1; ⟨o, _, h1, h2, by decide⟩) rfl rfl (fun b hb => ?_) ⟨⟨_, Heap.get?_push_size _ rfl, rfl, rfl⟩, hl.isList.push _⟩ (fun j v hlt hP => ?_) h
    · rcases List.mem_cons.mp hb with q | q
      · exact .inl q
      · rw [List.mem_singleton.mp q]; exact .inr ⟨ha, fun _ z => hn (.inr z)⟩
    · exact r.get (by simpa using hP)
theorem ItE.tup {e : Expr} {ps : List PV} {sf : Bool} (he : EvT C k F σ e (.tup ps)) : ItE C k F σ e ps false sf := .mk fun Wo A E s Q hA f h => by
  refine he.run Wo A E s _ hA f fun v s₁ hv p₁ => ?_
  cases hv with
  | tup hl hn r =>
    rename_i a vs
    have ha : a < s₁.heap.objs.size := by obtain ⟨m, e, _⟩ := hl; exact Heap.lt_size e
    refine wpAny_pyIter_tuple hl ?_
    have er := r.length
    rw [Array.length_toList] at er
    refine itStart f p₁ (Walks.tuple hA.hh s₁.heap.objs.size a (Nat.ne_of_lt ha) vs) er (fun i h st => let ⟨o, h1, h2, _⟩ := st.1; ⟨o, _, h1, h2, by decide⟩) rfl rfl (fun b hb => ?_) ⟨⟨_, Heap.get?_push_size _ rfl, rfl, rfl⟩, hl.at fun o e => Heap.get?_push_of_some _ e⟩ (fun j v hlt hP => ?_) h
    · rcases List.mem_cons.mp hb with q | q
      · exact .inl q
      · rw [List.mem_singleton.mp q]; exact .inr ⟨ha, fun _ z => hn (.inr z)⟩
    · exact r.get (by simpa using hP)
/-- an owned list; its frame may not write to it while the iterator walks -/
theorem ItE.lst {x pos a ps} (hb : σ.lookup x = some (.lst a ps)) (hd : (x == ("__debug__" : Str)) = false := by decide +kernel) (hc : (x == ("__classdict__" : Str)) = false := by decide +kernel) :
    ItE C k F σ (.Name x pos) ps false false := .mk fun Wo A E s Q hA f h => by
  refine wpAny_Name (loadName_bd hb f hc fun v hv => ?_) hd
  cases hv with
  | lst hl r =>
    rename_i vs
    have ha : a < s.heap.objs.size := by obtain ⟨m, e⟩ := hl; exact Heap.lt_size e
    refine wpAny_pyIter_list hl.isList ?_
    have er := r.length
    rw [Array.length_toList] at er
    refine itStart f .refl (Walks.list hA.hh s.heap.objs.size a (Nat.ne_of_lt ha) vs) er (fun i h st => let ⟨o, h1, h2, _⟩ := st.1; ⟨o, _, h1, h2, by decide⟩) rfl rfl (fun b hb => ?_) ⟨⟨_, Heap.get?_push_size _ rfl, rfl, rfl⟩, hl.isList.push _⟩ (fun j v hlt hP => ?_) h
    · rcases List.mem_cons.mp hb with q | q
      · exact .inl q
      · rw [List.mem_singleton.mp q]; exact .inr ⟨ha, fun q => by cases q⟩
    · exact r.get (by simpa using hP)
noncomputable def chars (x : Str) : List PV := x.cps.toList.map fun c => .str ⟨#[c]⟩
theorem ItE.str {e : Expr} {x : Str} {sf : Bool} (he : EvT C k F σ e (.str x)) (hx : x.cps.all (· < 128) = true) : ItE C k F σ e (chars x) false sf := .mk fun Wo A E s Q hA f h => by
  refine he.run Wo A E s _ hA f fun v s₁ hv p₁ => ?_
  cases hv with
  | str _ t =>
    refine wpAny_pyIter_ascii hx ?_
    refine itStart f p₁ (Walks.strAscii hA.hh s₁.heap.objs.size x t) (by simp [chars]) (fun i h st => let ⟨o, h1, h2, _⟩ := st; ⟨o, _, h1, h2, by decide⟩) rfl rfl (fun b hb => .inl (List.mem_singleton.mp hb)) ⟨_, Heap.get?_push_size _ rfl, rfl, rfl⟩ (fun j v hlt hP => ?_) h
    obtain ⟨c, u, hc, rfl⟩ := hP
    exact ⟨_, by simp [chars, hc], .str _ _⟩
theorem ItE.range {x np e pos n} {sf : Bool} (hf : EvV C k F σ (.Name x np) (.type "range")) (he : EvT C k F σ e (.int n)) (hp : plainE e = true) (h0 : 0 ≤ n) (h1 : n < 2 ^ 62) :
    ItE C k F σ (.Call (.Name x np) [e] [] pos) ((List.range n.toNat).map fun i : Nat => PV.int (i : Int)) false sf := .mk fun Wo A E s Q hA f h => by
  refine wpAny_Call_ofName (hf.run Wo A E s _ hA f fun s₁ p₁ => ?_)
  refine callWith_type (noStar (by rw [List.all_cons, hp]; rfl)) ?_
  rw [starEach_plain hp]
  refine evalArgs_plain (spliced_cons (he.run Wo A E s₁ _ hA (f.pas p₁) fun u s₂ hu p₂ => spliced_nil ?_))
  cases hu with
  | int _ t =>
  refine call_range_1 ?_
  refine wpAny_pyIter_range (IsRange.new _ _ _ _ _ _ _) (small_one (by omega) (by omega) (by omega) (by omega)) ?_
  have hsz : Builtin.Range.rangeSize 0 n 1 = ((n.toNat : Nat) : Int) := by rw [rangeSize_one]; split <;> omega
  rw [hsz]
  have hst := fun (h : Heap) => (show IsRangeIter (h.push { cls := .type "range_iterator", data := .fields #[rawInt 0, rawInt (n.toNat : Nat), rawInt 1] }) h.objs.size (0 + ((0 : Nat) : Int) * 1) (((n.toNat : Nat) : Int) - ((0 : Nat) : Int)) 1 by
    have : IsRangeIter (h.push { cls := .type "range_iterator", data := .fields #[rawInt 0, rawInt (n.toNat : Nat), rawInt 1] }) h.objs.size 0 (n.toNat : Nat) 1 := Heap.get?_push_size _ rfl
    simpa using this)
  have p₃ := (p₁.trans p₂).trans (.push (o := { cls := .type "range", data := .fields #[.int 0 s₂.toks, .int n t, .int 1 (s₂.toks + 1)] }) (tk := s₂.toks + 1 + 1))
  refine itStart f p₃ (Walks.range hA.hh _ 0 1 n.toNat) (by simp) (fun i h st => ⟨_, "range_iterator", st, rfl, by decide⟩) rfl rfl (fun b hb => .inl (List.mem_singleton.mp hb)) (hst _) (fun j v hlt hP => ?_) h
  · obtain ⟨t, rfl⟩ := hP
    have hj : j < n.toNat := by simpa using hlt
    exact ⟨.int j, by simp [hj], by have e : (0 : Int) + (j : Int) * 1 = j := by omega
                                    rw [e]; exact .int _ _⟩
theorem ItE.dict {K : Type} [DecidableEq K] (dk : DK C K) {e : Expr} {ps : List (K × PV)} {sf : Bool} (he : EvT C k F σ e (dk.dic ps)) : ItE C k F σ e (ps.map fun q => dk.key q.1) false sf := .mk fun Wo A E s Q hA f h => by
  refine he.run Wo A E s _ hA f fun v s₁ hv p₁ => ?_
  obtain ⟨a, kvs, rfl, hs, hl, hn, hk, r⟩ := dk.inv _ _ _ _ hv
  obtain ⟨o, es, ep, ho, hc, hd, hkk, hp, hnd⟩ := hl
  have ha : a < s₁.heap.objs.size := Heap.lt_size ho
  have hat : s₁.heap.DictAt dk.knd a kvs ep := ⟨o, es, ho, hc, hd, hkk, hp, hnd⟩
  refine wpAny_pyIter_dict hs hat ?_
  have er := congrArg List.length hk
  rw [List.length_map, List.length_map] at er
  refine itStart f p₁ (Walks.dictKeys (knd := dk.knd) hA.hh s₁.heap.objs.size a (Nat.ne_of_lt ha) kvs ep) (by rw [er, List.length_map]) (fun i h st => let ⟨o, h1, h2, _⟩ := st.1; ⟨o, _, h1, h2, by decide⟩) rfl rfl (fun b hb => ?_) ⟨⟨_, Heap.get?_push_size _ rfl, rfl, rfl⟩, hat.push _⟩ (fun j v hlt hP => ?_) h
  · rcases List.mem_cons.mp hb with q | q
    · exact .inl q
    · rw [List.mem_singleton.mp q]; exact .inr ⟨ha, fun _ z => hn (.inr z)⟩
  · obtain ⟨kk, x, h1, h2⟩ := hP
    have e2 : (kvs.map (·.1))[j]? = (ps.map (·.1))[j]? := by rw [hk]
    rw [List.getElem?_map, List.getElem?_map, h1] at e2
    cases hj : ps[j]? with
    | none => rw [hj] at e2; cases e2
    | some q =>
      rw [hj] at e2
      cases e2
      exact ⟨_, by rw [List.getElem?_map, hj]; rfl, dk.rev _ _ _ _ h2⟩
end
end Mine

end

section
open PySem
set_option linter.unusedVariables false
namespace Mine
open PySem.Builtin PySem.Calls

/-- an iterator of the library's that gives tuples of its own -/
theorem ItN.ofWalksT {C : Cx} {A : Around} {I : Addr} {fl wl : List Addr} {n : Nat} {Pt : Nat → Array Value → Prop} {St : Nat → Heap → Prop} {Mid : Nat → Addr → Heap → Prop} {xs : List PV} (W : WalksT C.prog C.w A I fl wl n Pt St Mid) (hn : n = xs.length) :
    ItN C A I (fun _ => False) xs true (fun wr fp X i s => (wr = (fun b => b ∈ wl) ∧ fp = fun b => b ∈ fl) ∧ St i s.heap ∧ ∀ j vals, i ≤ j → j < xs.length → Pt j vals → ∃ ps, xs[j]? = some (.tup ps) ∧ RpL C s.heap X vals.toList ps)
      (fun wr fp X i v s => (wr = (fun b => b ∈ wl) ∧ fp = fun b => b ∈ fl) ∧ (∃ T, v = .ref T ∧ Mid i T s.heap) ∧ ∀ j vals, i + 1 ≤ j → j < xs.length → Pt j vals → ∃ ps, xs[j]? = some (.tup ps) ∧ RpL C s.heap (fun b => X b ∨ b ∈ wl) vals.toList ps) where
  sub := fun wr fp X i s st => by obtain ⟨⟨rfl, rfl⟩, _⟩ := st; exact W.sub
  item := fun wr fp X i s E Q x st hx hX hw hfb _ hQ => by
    obtain ⟨⟨rfl, rfl⟩, st⟩ := st
    have hi : i < n := by rw [hn]; exact (List.getElem?_eq_some_iff.mp hx).1
    refine with_size (W.item i s _ _ hi st.1 fun T vals h' tk hP hT htup hmid hk hsz => ?_)
    have kp : Kp (fun b => b ∈ wl) s.heap h' := ⟨fun b o hb e => hk b o hb e, hsz⟩
    obtain ⟨ps, hy, ry⟩ := st.2 i vals (Nat.le_refl _) (hn ▸ hi) hP
    rw [hx] at hy
    cases hy
    refine hQ _ _ _ _ (fun X' hX' => ?_) (.of_heap kp) (fun _ q => .inl q) (fun _ q => .inl q) (hfb.kp kp) W.sub
    have hX2 : ∀ b, X' b → X b := fun b q => (hX' b q).elim id (hw b)
    have up : ∀ {u p}, RpL C s.heap X u p → RpL C h' X' u p := fun r => r.step (kp.mono hw) fun b q => .inl (hX2 b q)
    refine ⟨.tup htup (fun q => Nat.lt_irrefl _ (Nat.lt_of_lt_of_le (hX T (hX2 T q)) hT)) (up ry), ⟨rfl, rfl⟩, ⟨T, rfl, hmid⟩, fun j u hj hl hu => let ⟨z, h1, h2⟩ := st.2 j u (Nat.le_of_succ_le hj) hl hu; ⟨z, h1, ?_⟩⟩
    exact h2.step (kp.mono hw) fun b q => .inl (q.elim (hX2 b) (hw b))
  done := fun wr fp X s E Q st _ hQ => by
    obtain ⟨⟨rfl, rfl⟩, st⟩ := st
    exact with_size (W.done s _ _ (hn ▸ st.1) fun h' tk hk hsz => hQ _ (.of_heap ⟨fun b o hb e => hk b o hb e, hsz⟩))
  move := fun wr fp X X' oa i s s' st hs ha hX => by
    obtain ⟨⟨rfl, rfl⟩, st⟩ := st
    exact ⟨⟨rfl, rfl⟩, W.frame _ _ _ st.1 fun b hb o e => hs.keep.k b o (fun q => (ha b q).2 hb) e, fun j v hj hl hP => let ⟨x, h1, h2⟩ := st.2 j v hj hl hP; ⟨x, h1, h2.step (hs.keep.mono fun b q => (ha b q).1) hX⟩⟩
  quiet := fun wr fp X i s E Q tgt v st htt hQ => by
    obtain ⟨⟨rfl, rfl⟩, ⟨T, rfl, hmid⟩, hv⟩ := st
    obtain ⟨elts, m, pos, rfl⟩ := htt.1 rfl
    refine with_size (W.go elts m pos i T s _ _ hmid fun h' hst hk hsz => ?_)
    have kp : Kp (fun b => b ∈ wl) s.heap h' := ⟨fun b o hb e => hk b o hb e, hsz⟩
    exact hQ _ ⟨⟨rfl, rfl⟩, hst, fun j u hj hl hu => let ⟨z, h1, h2⟩ := hv j u hj hl hu; ⟨z, h1, h2.step (kp.mono fun b q => .inr q) fun b q => .inl (.inl q)⟩⟩ (.of_heap0 kp)
  self := fun wr fp X i s E Q st hQ => W.self i s Q E st.2.1 hQ

section
variable {C : Cx} {k : Nat} {F : FE} {σ : Sg}

theorem itStartT {Wo : Addr → Prop} {A : Around} {s₁ : Shared} {I : Addr} {fp wr : List Addr} {n : Nat} {Pt : Nat → Array Value → Prop} {St : Nat → Heap → Prop} {Mid : Nat → Addr → Heap → Prop} {xs : List PV} {s : Shared} {h' : Heap} {Q : Value → Shared → Prop} {sf : Bool}
    (f : Fm C Wo F σ s.heap) (p : Pas s s₁) (W : WalksT C.prog C.w A I fp wr n Pt St Mid) (hn : n = xs.length) (hk : Kp (fun _ => False) s₁.heap h') (hwr : ∀ b ∈ wr, s₁.heap.objs.size ≤ b)
    (hfp : ∀ b ∈ fp, (s₁.heap.objs.size ≤ b ∧ b < h'.objs.size) ∨ (b < s₁.heap.objs.size ∧ (sf = true → ¬ own F σ b))) (hst : St 0 h') (hv : ∀ j vals, j < xs.length → Pt j vals → ∃ ps, xs[j]? = some (.tup ps) ∧ RpL C s₁.heap (Wx Wo F σ) vals.toList ps)
    (h : ∀ I wr fp og St Md s', ItN C A I og xs true St Md → Pas s s' → (∀ b, fp b → b < s'.heap.objs.size ∧ (sf = true → ¬ own F σ b)) → (∀ b, wr b → s.heap.objs.size ≤ b) → (∀ g, og g → s.gens.size ≤ g) → St wr fp (Wx (fun b => Wo b ∨ wr b) F σ) 0 s' → Q (.ref I) s') :
    Q (.ref I) { s₁ with heap := h' } := by
  refine h _ (fun b => b ∈ wr) (fun b => b ∈ fp) _ _ _ _ (ItN.ofWalksT W hn) (p.trans (.of_heap0 hk)) (fun b hb => ?_) (fun b hb => Nat.le_trans p.keep.sz (hwr b hb)) (fun g q => q.elim) ⟨⟨rfl, rfl⟩, hst, fun j v _ hl hP => ?_⟩
  · rcases hfp b hb with q | q
    · exact ⟨q.2, fun _ z => Nat.lt_irrefl _ (Nat.lt_of_lt_of_le (f.wbnd _ (.inr z)) (Nat.le_trans p.keep.sz q.1))⟩
    · exact ⟨Nat.lt_of_lt_of_le q.1 hk.sz, q.2⟩
  · obtain ⟨x, h1, h2⟩ := hv j v hl hP
    refine ⟨x, h1, h2.step hk.any fun b q => ?_⟩
    rcases q with q | q
    · rcases q with q | q
      · exact .inl (.inl q)
      · exact .inr (hwr b q)
    · exact .inl (.inr q)

noncomputable def enumd (xs : List PV) : List PV := xs.zipIdx.map fun q => .tup [.int (q.2 : Int), q.1]
theorem enumd_get {xs : List PV} {j : Nat} {p : PV} (h : xs[j]? = some p) : (enumd xs)[j]? = some (.tup [.int (j : Int), p]) := by
  unfold enumd
  rw [List.getElem?_map, List.getElem?_zipIdx, h]
  simp
theorem enumd_map {α : Type} {us : List α} {g : α → PV} : enumd (us.map g) = us.zipIdx.map fun q => .tup [.int (q.2 : Int), g q.1] := by
  unfold enumd
  rw [List.zipIdx_map, List.map_map]
  rfl
theorem enumd_length {xs : List PV} : (enumd xs).length = xs.length := by simp [enumd]

/-- the walk of an enumerate -/
theorem enumIt {Wo : Addr → Prop} {A : Around} {E : Value → Shared → Prop} {s₁ : Shared} {fp : List Addr} {n : Nat} {P : Nat → Value → Prop} {St : Nat → Heap → Prop} {xs : List PV} {s : Shared} {h' : Heap} {Q : Value → Shared → Prop} {sf : Bool}
    (f : Fm C Wo F σ s.heap) (p : Pas s s₁) (D : Draws C.prog C.w A.in1 s₁.heap.objs.size fp n P St) (hn : n = xs.length) (he : IsEnum h' (s₁.heap.objs.size + 1) s₁.heap.objs.size 0 .none) (hsz : h'.objs.size = s₁.heap.objs.size + 2)
    (hk : ∀ b o, s₁.heap.get? b = some o → h'.get? b = some o) (hif : s₁.heap.objs.size ∈ fp) (hfp : ∀ b ∈ fp, b = s₁.heap.objs.size ∨ (b < s₁.heap.objs.size ∧ (sf = true → ¬ own F σ b))) (hst : St 0 h')
    (hv : ∀ j v, j < xs.length → P j v → ∃ x, xs[j]? = some x ∧ Rp C s₁.heap (Wx Wo F σ) v x)
    (h : ∀ I wr fp og St Md s', ItN C A I og (enumd xs) true St Md → Pas s s' → (∀ b, fp b → b < s'.heap.objs.size ∧ (sf = true → ¬ own F σ b)) → (∀ b, wr b → s.heap.objs.size ≤ b) → (∀ g, og g → s.gens.size ≤ g) → St wr fp (Wx (fun b => Wo b ∨ wr b) F σ) 0 s' → Q (.ref I) s') :
    wpAny C.M A (pyIter (.ref (s₁.heap.objs.size + 1))) Q E { s₁ with heap := h' } := by
  have hef : s₁.heap.objs.size + 1 ∉ fp := fun q => by
    rcases hfp _ q with z | z
    · exact Nat.succ_ne_self _ z
    · exact absurd z.1 (Nat.not_lt.mpr (Nat.le_succ _))
  have W := WalksT.enumerateD D (s₁.heap.objs.size + 1) (Nat.succ_ne_self _) hef hif
  refine wpAny_pyIter_enum he ?_
  refine itStartT (xs := enumd xs) f p W (by rw [enumd_length]; exact hn) ⟨fun b o _ e => hk b o e, by omega⟩ (fun b hb => ?_) (fun b hb => ?_) ⟨⟨_, he⟩, hst⟩ (fun j vals hl hP => ?_) h
  · rcases List.mem_cons.mp hb with q | q
    · rw [q]; exact Nat.le_succ _
    · rw [List.mem_singleton.mp q]; exact Nat.le_refl _
  · rcases List.mem_cons.mp hb with q | q
    · rw [q]; exact .inl ⟨Nat.le_succ _, by rw [hsz]; exact Nat.lt_succ_self _⟩
    · rcases hfp b q with z | z
      · rw [z]; exact .inl ⟨Nat.le_refl _, by rw [hsz]; exact Nat.lt_add_of_pos_right (by decide)⟩
      · exact .inr z
  · obtain ⟨t, x, hx, rfl⟩ := hP
    rw [enumd_length] at hl
    obtain ⟨p, h1, h2⟩ := hv j x hl hx
    exact ⟨_, enumd_get h1, .cons (.int _ _) (.cons h2 .nil)⟩

theorem ItE.enumW {x np e pos p xs} {sf : Bool} (hf : EvV C k F σ (.Name x np) (.type "enumerate")) (he : EvT C k F σ e p) (hp : plainE e = true)
    (hc : ∀ (Wo : Addr → Prop) (A : Around) (E : Value → Shared → Prop) (s s₁ : Shared) (v : Value) (Q : Value → Shared → Prop), Room A k → Fm C Wo F σ s.heap → Pas s s₁ → Rp C s₁.heap (Wx Wo F σ) v p →
      (∀ I wr fp og St Md s', ItN C A I og (enumd xs) true St Md → Pas s s' → (∀ b, fp b → b < s'.heap.objs.size ∧ (sf = true → ¬ own F σ b)) → (∀ b, wr b → s.heap.objs.size ≤ b) → (∀ g, og g → s.gens.size ≤ g) → St wr fp (Wx (fun b => Wo b ∨ wr b) F σ) 0 s' → Q (.ref I) s') →
      wpAny C.M A (call (.type "enumerate") [v]) (fun x s₁ => wpAny C.M A (pyIter x) Q E s₁) E s₁) :
    ItE C k F σ (.Call (.Name x np) [e] [] pos) (enumd xs) true sf := .mk fun Wo A E s Q hA f h => by
  refine wpAny_Call_ofName (hf.run Wo A E s _ hA f fun s₁ p₁ => ?_)
  refine callWith_type (noStar (by rw [List.all_cons, hp]; rfl)) ?_
  rw [starEach_plain hp]
  refine evalArgs_plain (spliced_cons (he.run Wo A E s₁ _ hA (f.pas p₁) fun u s₂ hu p₂ => spliced_nil ?_))
  exact hc Wo A E s s₂ u Q hA f (p₁.trans p₂) hu h
theorem ItE.enumL {x np e pos xs} {sf : Bool} (hf : EvV C k F σ (.Name x np) (.type "enumerate")) (he : EvT C k F σ e (.list xs)) (hp : plainE e = true) : ItE C k F σ (.Call (.Name x np) [e] [] pos) (enumd xs) true sf :=
  .enumW hf he hp fun Wo A E s s₁ v Q hA f p hv h => by
  cases hv with
  | list hl hn r =>
    rename_i a vs
    have ha : a < s₁.heap.objs.size := by obtain ⟨m, e⟩ := hl; exact Heap.lt_size e
    have er := r.length
    rw [Array.length_toList] at er
    refine call_enumerate_list hl.isList fun h' hen hit hsz hk => ?_
    refine enumIt f p (Draws.list (A := A.in1) hA.hh _ a (Nat.ne_of_lt ha) vs) er hen hsz hk (by simp) (fun b hb => ?_) ⟨hit, hl.isList.at fun o e => hk _ o e⟩ (fun j v hl hP => r.get (by simpa using hP)) h
    rcases List.mem_cons.mp hb with q | q
    · exact .inl q
    · rw [List.mem_singleton.mp q]; exact .inr ⟨ha, fun _ z => hn (.inr z)⟩
theorem ItE.enumS {x np e pos y} {sf : Bool} (hf : EvV C k F σ (.Name x np) (.type "enumerate")) (he : EvT C k F σ e (.str y)) (hp : plainE e = true) (hy : y.cps.all (· < 128) = true) : ItE C k F σ (.Call (.Name x np) [e] [] pos) (enumd (chars y)) true sf :=
  .enumW hf he hp fun Wo A E s s₁ v Q hA f p hv h => by
  cases hv with
  | str _ t =>
    refine call_enumerate_str fun h' hen hit hsz hk => ?_
    have hit' : h'.IsStrIter s₁.heap.objs.size "str_ascii_iterator" y t 0 := by simpa [strIterType, hy] using hit
    refine enumIt f p (Draws.strAscii (A := A.in1) hA.hh _ y t) (by simp [chars]) hen hsz hk (by simp) (fun b hb => .inl (List.mem_singleton.mp hb)) hit' (fun j v hl hP => ?_) h
    obtain ⟨c, u, hc, rfl⟩ := hP
    exact ⟨_, by simp [chars, hc], .str _ _⟩
end

/-! enumerate over a tuple -/
section
variable {prog : Program} {w : World} {A : Around} {E : Value → Shared → Prop} {s : Shared}
open AutoSeq1 (wpAny_loadPart')
set_option maxRecDepth 100000
/-- the end of an iterator is told by a StopIteration of one's own -/
theorem stopTold {α : Type} {I : Addr} {h₀ : Heap} {Q : α → Shared → Prop} (hh : A.handled = none) (hs : Heap.ExtBut I h₀ s.heap)
    (h : ∀ h' e, Heap.ExtBut I h₀ h' → (∃ o, h'.get? e = some o ∧ o.cls = .type "StopIteration") → E (.ref e) { s with heap := h' }) :
    wpAny (model prog w) A (Builtin.SmallTypes.stopIteration : Sem α) Q E s := by
  have q : firstArgMember (.type "StopIteration") [] = (pure Value.none : Sem Value) := by first | rfl | (simp only [firstArgMember]; rfl)
  unfold Builtin.SmallTypes.stopIteration newExc
  wp_walk using wpAny_newTuple (hsz := Nat.zero_le _)
  exact wpAny_raiseNew_none hh (h _ _ ((hs.push _).push _) ⟨_, Heap.get?_push_size _ rfl, rfl⟩)
/-- one turn of a tuple's iterator: both its ends -/
theorem tupTurn {it t : Addr} {i : Nat} {items : Array Value} {Q : Value → Shared → Prop} (hh : A.handled = none) (hit : s.heap.IsTupleIter it t i) (ht : s.heap.IsTuple t items)
    (h : match items[i]? with
      | some x => ∀ h', h'.IsTupleIter it t (i + 1) → Heap.SameBut it s.heap h' → Q x { s with heap := h' }
      | none => ∀ h' e, Heap.ExtBut it s.heap h' → (∃ o, h'.get? e = some o ∧ o.cls = .type "StopIteration") → E (.ref e) { s with heap := h' }) :
    wpAny (model prog w) A (Builtin.SmallTypes.nextOf (.ref it)) Q E s := by
  obtain ⟨o, ho, hc, hd⟩ := id hit
  obtain ⟨ot, hot, _, nt, hdt⟩ := ht
  have rn : (Value.ref t == Value.none) = false := rfl
  unfold Builtin.SmallTypes.nextOf
  refine wpAny_bind (wpAny_callSpecial?_slot hit.typeIs F.slot_tuple_iterator_next (wpAny_call_entry F.slot_tuple_iterator_next hit.typeIs F.entry_tuple_iterator_next ?_ rfl))
  wp_walk using wpAny_field ho hd (i := 0) rfl, wpAny_field ho hd (i := 1) rfl, wpAny_seqItems hot hdt
  rw [hdt]
  refine wpAny_pure ?_
  dsimp only
  rw [Int.toNat_natCast]
  cases hx : items[i]? with
  | some x =>
    rw [hx] at h
    refine wpAny_bind (wpAny_setField ho hd (by simp) (wpAny_pure ⟨x, rfl, wpAny_pure (h _ ?_ (.update ..))⟩))
    obtain ⟨c, dc, da, sl⟩ := o
    cases hc
    cases hd
    exact ⟨_, Heap.get?_update_self _ ho rfl, rfl, rfl⟩
  | none =>
    rw [hx] at h
    exact wpAny_bind (wpAny_rule (wpAny_bind (wpAny_setField ho hd (by simp) (stopTold (I := it) hh (Heap.SameBut.update ..).extBut h))))
theorem tupDraws (hh : A.handled = none) (it t : Addr) (hne : t ≠ it) (items : Array Value) :
    Draws prog w A it [it, t] items.size (fun i v => items[i]? = some v) (fun i h => h.IsTupleIter it t i ∧ h.IsTuple t items) where
  live := fun i h st => by obtain ⟨⟨o, ho, _⟩, _⟩ := st; exact ⟨o, ho⟩
  frame := fun i h h' st hk => by
    obtain ⟨⟨o, ho, x⟩, p, hp, y⟩ := st
    exact ⟨⟨o, hk it (by simp) o ho, x⟩, p, hk t (by simp) p hp, y⟩
  item := fun i s Q E hi st hQ => by
    obtain ⟨x, hx⟩ : ∃ x, items[i]? = some x := ⟨items[i], by simp [hi]⟩
    refine tupTurn hh st.1 st.2 ?_
    rw [hx]
    exact fun h' h1 h2 => hQ x h' s.toks hx ⟨h1, st.2.extBut h2.extBut hne⟩ h2
  done := fun s Q E st hE => by
    refine tupTurn hh st.1 st.2 ?_
    rw [Array.getElem?_eq_none (Nat.le_refl _)]
    exact hE
/-- an enumerate over whatever its iterator is made of -/
noncomputable abbrev enumObj (I : Addr) : Obj := { cls := .type "enumerate", data := .fields #[.none, .bool false, .ref I, rawInt 0, .none, .none] }
theorem enumMade {v : Value} {J : Obj} {P : Shared → Prop}
    (hit : ∀ {prog : Program} {w : World} {A : Around} {E : Value → Shared → Prop} {s : Shared} {Q : Value → Shared → Prop}, P s → Q (.ref s.heap.objs.size) { s with heap := s.heap.push J } → wpAny (model prog w) A (pyIter v) Q E s) :
    Meets (Builtin.«enumerate.__new__» ⟨[.type "enumerate", v], []⟩) (fun _ R s => P s ∧ R (.ok (.ret (.ref (s.heap.push J).objs.size))) { s with heap := (s.heap.push J).push (enumObj s.heap.objs.size) }) :=
  .of_wp fun prog w A R s h => by
    obtain ⟨hp, h⟩ := h
    have hsub := sub_enumerate
    wp_walk using hit hp
    refine wpAny_stack_any fun st => wpAny_pure ?_
    split
    all_goals first
      | (wp_walk using hit hp; exact ⟨_, rfl, h⟩)
      | (rename_i c _ _ _ _ _; cases c == Value.type "enumerate" <;> (wp_walk using hit hp; exact ⟨_, rfl, h⟩))
theorem call_enum {v : Value} {J : Obj} {P : Shared → Prop} {Q : Value → Shared → Prop}
    (hit : ∀ {prog : Program} {w : World} {A : Around} {E : Value → Shared → Prop} {s : Shared} {Q : Value → Shared → Prop}, P s → Q (.ref s.heap.objs.size) { s with heap := s.heap.push J } → wpAny (model prog w) A (pyIter v) Q E s)
    (hJ : J.isFreed = false) (hp : P s)
    (h : ∀ h', IsEnum h' (s.heap.objs.size + 1) s.heap.objs.size 0 .none → h'.get? s.heap.objs.size = some J → h'.objs.size = s.heap.objs.size + 2 → (∀ b o, s.heap.get? b = some o → h'.get? b = some o) → Q (.ref (s.heap.objs.size + 1)) { s with heap := h' }) :
    wpAny (model prog w) A (call (.type "enumerate") [v]) Q E s := by
  have hz : (s.heap.push J).objs.size = s.heap.objs.size + 1 := Heap.size_push ..
  have he := Heap.get?_push_size (s.heap.push J) (o := enumObj s.heap.objs.size) rfl
  refine callType_new F.called_enumerate (by decide) (F.typeCall_enumerate_1 _) (F.newCall_enumerate_1 _) (fun obj => F.args_object_init_2 obj _) F.entry_enumerate_new (enumMade hit) ⟨hp, ?_⟩
  rw [hz] at he ⊢
  exact ⟨⟨_, he, rfl⟩, h _ he (Heap.get?_push_of_some _ (Heap.get?_push_size _ hJ)) (by rw [Heap.size_push, hz]) fun b o q => Heap.get?_push_of_some _ (Heap.get?_push_of_some _ q)⟩
theorem call_enum_tup {t : Addr} {items : Array Value} {Q : Value → Shared → Prop} (ht : s.heap.IsTuple t items)
    (h : ∀ h', IsEnum h' (s.heap.objs.size + 1) s.heap.objs.size 0 .none → h'.IsTupleIter s.heap.objs.size t 0 → h'.objs.size = s.heap.objs.size + 2 → (∀ b o, s.heap.get? b = some o → h'.get? b = some o) → Q (.ref (s.heap.objs.size + 1)) { s with heap := h' }) :
    wpAny (model prog w) A (call (.type "enumerate") [.ref t]) Q E s :=
  call_enum (P := fun s => s.heap.IsTuple t items) (fun p q => wpAny_pyIter_tuple p q) rfl ht fun h' a b c d => h h' a ⟨_, b, rfl, rfl⟩ c d
end
section
variable {C : Cx} {k : Nat} {F : FE} {σ : Sg}
theorem ItE.enumT {x np e pos xs} {sf : Bool} (hf : EvV C k F σ (.Name x np) (.type "enumerate")) (he : EvT C k F σ e (.tup xs)) (hp : plainE e = true) : ItE C k F σ (.Call (.Name x np) [e] [] pos) (enumd xs) true sf :=
  .enumW hf he hp fun Wo A E s s₁ v Q hA f p hv h => by
  cases hv with
  | tup hl hn r =>
    rename_i a vs
    have ha : a < s₁.heap.objs.size := by obtain ⟨m, e, _⟩ := hl; exact Heap.lt_size e
    have er := r.length
    rw [Array.length_toList] at er
    refine call_enum_tup hl fun h' hen hit hsz hk => ?_
    refine enumIt f p (tupDraws (A := A.in1) hA.hh _ a (Nat.ne_of_lt ha) vs) er hen hsz hk (by simp) (fun b hb => ?_) ⟨hit, hl.at fun o e => hk _ o e⟩ (fun j v hl hP => r.get (by simpa using hP)) h
    rcases List.mem_cons.mp hb with q | q
    · exact .inl q
    · rw [List.mem_singleton.mp q]; exact .inr ⟨ha, fun _ z => hn (.inr z)⟩
end

noncomputable def enumG {α : Type} (g : α → PV) (q : α × Nat) : PV := .tup [.int (q.2 : Int), g q.1]
noncomputable def chr (c : Nat) : PV := .str ⟨#[c]⟩
section
variable {C : Cx} {k : Nat} {F : FE} {σ : Sg}
theorem ItE.enL {α : Type} {us : List α} {g : α → PV} {x np e pos} {sf : Bool} (hf : EvV C k F σ (.Name x np) (.type "enumerate")) (he : EvT C k F σ e (.list (us.map g))) (hp : plainE e = true) : ItE C k F σ (.Call (.Name x np) [e] [] pos) (us.zipIdx.map (enumG g)) true sf := by
  have := ItE.enumL (sf := sf) (pos := pos) hf he hp
  rwa [enumd_map] at this
theorem ItE.enT {α : Type} {us : List α} {g : α → PV} {x np e pos} {sf : Bool} (hf : EvV C k F σ (.Name x np) (.type "enumerate")) (he : EvT C k F σ e (.tup (us.map g))) (hp : plainE e = true) : ItE C k F σ (.Call (.Name x np) [e] [] pos) (us.zipIdx.map (enumG g)) true sf := by
  have := ItE.enumT (sf := sf) (pos := pos) hf he hp
  rwa [enumd_map] at this
theorem ItE.enS {x np e pos y} {sf : Bool} (hf : EvV C k F σ (.Name x np) (.type "enumerate")) (he : EvT C k F σ e (.str y)) (hp : plainE e = true) (hy : y.cps.all (· < 128) = true) : ItE C k F σ (.Call (.Name x np) [e] [] pos) (y.cps.toList.zipIdx.map (enumG chr)) true sf := by
  have := ItE.enumS (sf := sf) (pos := pos) hf he hp hy
  unfold chars at this
  rwa [enumd_map] at this
end
end Mine

end

section
open PySem
set_option linter.unusedVariables false
namespace Mine
open PySem.Builtin PySem.Calls

section
variable {C : Cx} {k : Nat} {F : FE} {σ : Sg} {Wo : Addr → Prop}

/-- an owned dict has changed -/
theorem Fm.setDct {h h' : Heap} (f : Fm C Wo F σ h) {x : Str} {a : Addr} {xs xs' : List (Int × PV)} {kvs' : List (Int × Value)} (hx : F.env.kindOf x = some .local) (hm : (x, Bd.dct a xs) ∈ σ) (hs : Heap.SameBut a h h')
    (hl : h'.DictOf (intKind C.prog C.w) a kvs') (hke : kvs'.map (·.1) = xs'.map (·.1)) (r : RpL C h (Wx Wo F σ) (kvs'.map (·.2)) (xs'.map (·.2))) : Fm C Wo F (put σ x (.dct a xs')) h' := by
  have hoff := f.off _ hm a rfl
  have ha0 := f.new a (.inr (.inr ⟨_, hm, rfl⟩))
  have inW : Wx Wo F σ a := .inr (.inr (.inr ⟨_, hm, rfl⟩))
  have ownP : ∀ b, own F (put σ x (.dct a xs')) b → own F σ b := fun b q => (own_put f.keys q).elim id fun z => .inr (.inr ⟨_, hm, z⟩)
  have hW : ∀ b, Wx Wo F (put σ x (.dct a xs')) b → Wx Wo F σ b := fun b q => q.imp id (ownP b)
  have keep : Kp (Wx Wo F σ) h h' := .same hs inW
  obtain ⟨m, hn, hnm⟩ := f.names
  refine ⟨f.kind, f.gl, f.bi, fun b o e => (hs.2 b fun q => by rw [q, ha0] at e; cases e).trans (f.base b o e), ⟨m, hn.sameBut hs (Ne.symm hoff.1), fun y b hy => ?_⟩, fun z hz => ?_, f.apart, fun p hp => hs.1 ▸ f.cb p hp, (put_keys f.keys).1,
    fun b q => f.new b (ownP b q), fun b q => hs.1 ▸ f.bnd b q, ?_, fun p hp b hob => ?_⟩
  · rcases mem_put f.keys hy with ⟨e1, e2⟩ | ⟨hne, hy'⟩
    · subst e1 e2
      obtain ⟨v, hp, hr⟩ := hnm y _ hm
      refine ⟨v, ?_, ?_⟩
      · rcases hp with hp | ⟨q | q, _⟩
        · exact .inl hp
        · rw [hx] at q; cases q
        · rw [hx] at q; cases q
      · cases hr with
        | dct hsm _ _ _ => exact .dct hsm hl hke (r.step keep fun b q => .inl (hW b q))
    · obtain ⟨v, hp, hr⟩ := hnm y b hy'
      refine ⟨v, ?_, hr.step keep (fun b q => .inl (hW b q)) fun b hb o e => (hs.2 b fun q => ?_).trans e⟩
      · rcases hp with hp | ⟨q, c, hc, o, ho, hd⟩
        · exact .inl hp
        · exact .inr ⟨q, c, hc, o, (hs.2 c fun q => hoff.2.1 _ (mem_of_lookup hc) q).trans ho, hd⟩
      · subst q
        exact hne (congrArg Prod.fst (f.one _ _ b hy' hm hb rfl))
  · obtain ⟨c, v, hl, o, ho, hd⟩ := f.cells z hz
    exact ⟨c, v, hl, o, (hs.2 c fun q => hoff.2.1 _ (mem_of_lookup hl) q).trans ho, hd⟩
  · intro p q b hp hq h1 h2
    obtain ⟨y, c⟩ := p
    obtain ⟨z, d⟩ := q
    rcases mem_put f.keys hp with ⟨e1, e2⟩ | ⟨n1, hp'⟩ <;> rcases mem_put f.keys hq with ⟨e3, e4⟩ | ⟨n2, hq'⟩
    · rw [e1, e2, e3, e4]
    · subst e2
      exact absurd (congrArg Prod.fst (f.one _ _ b hq' hm h2 h1)) n2
    · subst e4
      exact absurd (congrArg Prod.fst (f.one _ _ b hp' hm h1 h2)) n1
    · exact f.one _ _ b hp' hq' h1 h2
  · obtain ⟨y, c⟩ := p
    rcases mem_put f.keys hp with ⟨_, e⟩ | ⟨_, m'⟩
    · subst e
      exact f.off _ hm b hob
    · exact f.off _ m' b hob

/-- a new dict gets a name of the frame's own -/
theorem store_dct {Wo' : Addr → Prop} {A : Around} {E : Value → Shared → Prop} {s : Shared} {x : Str} {a : Addr} {kvs : List (Int × Value)} {xs : List (Int × PV)} {Q : Unit → Shared → Prop} (f : Fm C Wo' F σ s.heap) (hW : ∀ b, Wo b → Wo' b) (ha : Wo' a) (hna : ¬ Wo a)
    (h0 : C.h₀.get? a = none) (hx : F.env.kindOf x = some .local) (hsm : (a == sysModules) = false) (hl : s.heap.DictOf (intKind C.prog C.w) a kvs) (hke : kvs.map (·.1) = xs.map (·.1)) (r : RpL C s.heap (Wx Wo' F σ) (kvs.map (·.2)) (xs.map (·.2))) (hLa : a ≠ F.env.locals) (hno : ∀ y ∈ σ, ¬ y.2.owns a) (hc : ∀ c ∈ F.env.cells, c.2 ≠ a)
    (h : ∀ s', Fm C Wo F (put σ x (.dct a xs)) s'.heap → Stp (own F σ) (fun _ => False) s s' → Q () s') : wpAny C.M A (storeName F.env x (.ref a)) Q E s := by
  obtain ⟨m, hn, hm⟩ := f.names
  refine wpAny_storeName_local hx hn (fun h' hn' hs' => h _ (f.setL hW hx hn hn' hs' (.dct hsm hl hke (r.less fun b q => ?_)) fun b q => ?_) (.of_heap (.same hs' (.inl rfl)))) (by rw [f.kind]; rfl)
  · rcases q with q | q
    · exact .inl (hW b q)
    · exact (own_put f.keys q).elim .inr fun z => .inl ((show b = a from z) ▸ ha)
  · have : b = a := q
    subst this
    exact ⟨ha, h0, hLa, hno, hc, hna⟩

theorem SxT.newDct {x px lp pos} (hx : F.env.kindOf x = some .local) : SxT C k F σ (.Assign [.Name x px] (.Dict [] [] lp) pos) (fun o σ' => o = .nx ∧ ∃ a, σ' = put σ x (.dct a [])) := .mk fun Wo A E s hA f => by
  refine wpAny_Assign_Name (wpAny_Dict_empty ?_) rfl
  have fo := fresh_own f (Nat.le_refl _)
  have f₁ : Fm C (fun b => Wo b ∨ b = s.heap.objs.size) F σ (s.heap.push { cls := .type "dict", data := .dict #[] }) := f.wide (.push _ _ _)
    (fun b q => q.imp id fun z => Nat.le_of_eq z.symm) fun b q => by
      rw [Heap.size_push]
      rcases q with q | q
      · exact Nat.lt_succ_of_lt (f.bnd b q)
      · rw [q]; exact Nat.lt_succ_self _
  have hLa : s.heap.objs.size ≠ F.env.locals := fun q => Nat.lt_irrefl _ (q ▸ f.wbnd F.env.locals (.inr (.inl rfl)))
  refine store_dct (Wo := Wo) (kvs := []) (xs := []) (s := { s with heap := s.heap.push { cls := .type "dict", data := .dict #[] } }) f₁ (fun _ q => .inl q) (.inr rfl) fo.2.2 (none_h0 f (Nat.le_refl _)) hx (not_sys f (Nat.le_refl _)) (Heap.DictOf.new _) rfl .nil hLa fo.1 fo.2.1 fun s' f' st => ?_
  refine .stay ⟨rfl, _, rfl⟩ f' (Stp.trans (.of_heap0 (.push _ _ _)) st (fun _ q => .inl q) fun _ (z : False) => z.elim) fun b q => (own_put f.keys q).imp id fun z => Nat.le_of_eq (show b = _ from z).symm

theorem rep_any {K : Type} [DecidableEq K] {kvs : List (K × Value)} {xs : List (K × PV)} {x : K} (he : kvs.map (·.1) = xs.map (·.1)) : (valueAt kvs x).isSome = xs.any (fun q => decide (q.1 = x)) := by
  rw [PyProof.Rows.valueAt_isSome_eq_any]
  have e1 : kvs.any (fun kv => kv.1 = x) = (kvs.map (·.1)).any (fun y => y = x) := by rw [List.any_map]; rfl
  have e2 : xs.any (fun kv => kv.1 = x) = (xs.map (·.1)).any (fun y => y = x) := by rw [List.any_map]; rfl
  rw [e1, e2, he]
theorem rep_at {K : Type} [DecidableEq K] {h : Heap} {X : Addr → Prop} {kvs : List (K × Value)} {xs : List (K × PV)} {x : K} {p : PV} (he : kvs.map (·.1) = xs.map (·.1)) (r : RpL C h X (kvs.map (·.2)) (xs.map (·.2))) (hx : (xs.find? fun q => decide (q.1 = x)).map (·.2) = some p) :
    ∃ z, valueAt kvs x = some z ∧ Rp C h X z p := by
  induction kvs generalizing xs with
  | nil => cases xs with
    | nil => cases hx
    | cons q xs => cases he
  | cons kv kvs ih => cases xs with
    | nil => cases he
    | cons q xs =>
      obtain ⟨k1, v1⟩ := kv
      obtain ⟨k2, p2⟩ := q
      simp only [List.map_cons, List.cons.injEq] at he
      cases r with
      | cons r1 r =>
        have e1 : k1 = k2 := he.1
        subst e1
        rw [List.find?_cons] at hx
        by_cases hk : k1 = x
        · subst hk
          simp at hx
          subst hx
          exact ⟨v1, by simp [valueAt], r1⟩
        · simp only [hk, decide_false] at hx
          obtain ⟨z, hz, rz⟩ := ih he.2 r hx
          refine ⟨z, ?_, rz⟩
          simpa [valueAt, List.find?_cons, hk] using hz

/-- an owned dict gets an entry -/
theorem SxT.dctSet {x px e i ip spos pos a xs kk p} (hb : σ.lookup x = some (.dct a xs)) (hx : F.env.kindOf x = some .local) (he : EvT C k F σ e p) (hi : EvT C k F σ (.Name i ip) (.int kk)) (hz : xs.length ≤ sizeLine)
    (hd : (x == ("__debug__" : Str)) = false := by decide +kernel) (hc : (x == ("__classdict__" : Str)) = false := by decide +kernel)
    (hs : swapsWith e (some (.Subscript (.Name x px) (.Name i ip) spos)) pos.line F.env = pure false := by first | kernel_rfl | rfl) :
    SxT C k F σ (.Assign [.Subscript (.Name x px) (.Name i ip) spos] e pos) (one (put σ x (.dct a (dput xs kk p)))) := .mk fun Wo A E s hA f => by
  refine wpAny_Assign_Subscript (he.run Wo A E s _ hA f fun v s₁ hv p₁ => wpAny_Name (loadName_bd hb (f.pas p₁) hc fun o ho => hi.run Wo A E s₁ _ hA (f.pas p₁) fun iv s₂ hiv p₂ => ?_) hd) hs
  have f₂ := (f.pas p₁).pas p₂
  cases ho with
  | dct hsm hl hke r =>
    rename_i kvs
    have er := congrArg List.length hke
    rw [List.length_map, List.length_map] at er
    have hl₂ := Heap.DictOf.at hl fun o e => p₂.keep.k _ o id e
    have q := dput_rep (kk := kk) (hv.ext p₂.keep) hke (r.ext p₂.keep)
    refine wpAny_setItem_pairs (hsz := by omega) ((dkI C).is _ _ _ _ hiv) hl₂ fun h' hl' hs' => ?_
    refine .stay ⟨rfl, rfl⟩ ((f₂.setDct hx (mem_of_lookup hb) hs' hl' q.1 q.2)) ((p₁.trans p₂).stp.trans (.of_heap (oa := own F σ) (.same hs' (.inr (.inr ⟨_, mem_of_lookup hb, rfl⟩)))) (fun _ q => .inl q) fun _ (z : False) => z.elim) fun b q => ?_
    exact .inl ((own_put f.keys q).elim id fun z => .inr (.inr ⟨_, mem_of_lookup hb, z⟩))
/-- an owned dict's entry grows -/
theorem SxT.dctAdd {x px e i ip spos pos a xs kk u v} (hb : σ.lookup x = some (.dct a xs)) (hx : F.env.kindOf x = some .local) (he : EvT C k F σ e (.int v)) (hi : EvT C k F σ (.Name i ip) (.int kk)) (hz : xs.length ≤ sizeLine)
    (hu : (xs.find? fun q => decide (q.1 = kk)).map (·.2) = some (.int u))
    (hd : (x == ("__debug__" : Str)) = false := by decide +kernel) (hc : (x == ("__classdict__" : Str)) = false := by decide +kernel) :
    SxT C k F σ (.AugAssign (.Subscript (.Name x px) (.Name i ip) spos) .Add e pos) (one (put σ x (.dct a (dput xs kk (.int (u + v)))))) := .mk fun Wo A E s hA f => by
  refine wpAny_AugAssign_Subscript (wpAny_Name (loadName_bd hb f hc fun o ho => hi.run Wo A E s _ hA f fun iv s₁ hiv p₁ => ?_) hd)
  cases ho with
  | dct hsm hl hke r =>
    rename_i kvs
    have er := congrArg List.length hke
    rw [List.length_map, List.length_map] at er
    have hl₁ := Heap.DictOf.at hl fun o e => p₁.keep.k _ o id e
    obtain ⟨z, hz', rz⟩ := rep_at hke (r.ext p₁.keep) hu
    cases rz with
    | int _ tu =>
    refine wpAny_getItem_of ((dkI C).is _ _ _ _ hiv) hl₁.mapOf hz' ?_
    have pt : Pas s₁ { s₁ with toks := s₁.toks + 1 } := .tok
    refine he.run Wo A E _ _ hA ((f.pas p₁).pas pt) fun w s₂ hw p₂ => ?_
    cases hw with
    | int _ tv =>
    refine PyProof.Rows.iadd_int ?_
    have pt2 : Pas s₂ { s₂ with toks := s₂.toks + 1 } := .tok
    have p : Pas s { s₂ with toks := s₂.toks + 1 } := ((p₁.trans pt).trans p₂).trans pt2
    have f₂ := f.pas p
    have hl₂ := Heap.DictOf.at hl fun o e => p.keep.k _ o id e
    have q := dput_rep (C := C) (h := s₂.heap) (kk := kk) (.int (u + v) s₂.toks) hke (r.ext p.keep)
    refine wpAny_setItem_pairs (hsz := by omega) (s := { s₂ with toks := s₂.toks + 1 }) ((dkI C).is _ _ _ _ hiv) hl₂ fun h' hl' hs' => ?_
    refine .stay ⟨rfl, rfl⟩ ((f₂.setDct hx (mem_of_lookup hb) hs' hl' q.1 q.2)) (p.stp.trans (.of_heap (oa := own F σ) (.same hs' (.inr (.inr ⟨_, mem_of_lookup hb, rfl⟩)))) (fun _ q => .inl q) fun _ (z : False) => z.elim) fun b q => ?_
    exact .inl ((own_put f.keys q).elim id fun z => .inr (.inr ⟨_, mem_of_lookup hb, z⟩))
theorem TsT.inDct {x px e pos a xs kk} (hb : σ.lookup x = some (.dct a xs)) (he : EvT C k F σ e (.int kk))
    (hd : (x == ("__debug__" : Str)) = false := by decide +kernel) (hc : (x == ("__classdict__" : Str)) = false := by decide +kernel) (hm : behindInMarks .In (.Name x px) = false := by first | kernel_rfl | with_unfolding_all rfl) :
    TsT C k F σ (.Compare e [.In] [.Name x px] pos) (xs.any fun q => decide (q.1 = kk)) := .mk fun Wo A E s Q hA f h => by
  refine wpAny_isTrue_Compare1 (he.run Wo A E s _ hA f fun iv s₁ hiv p₁ => wpAny_Name (loadName_bd hb (f.pas p₁) hc fun o ho => ?_) hd) hm
  cases ho with
  | dct hsm hl hke r =>
    refine wpAny_in_of ((dkI C).is _ _ _ _ hiv) hsm hl.mapOf (wpAny_truthy_bool ?_)
    rw [rep_any hke]
    exact h _ (p₁.trans .tok)
theorem SxT.retD {x px pos a xs} (hb : σ.lookup x = some (.dct a xs)) (hd : (x == ("__debug__" : Str)) = false := by decide +kernel) (hc : (x == ("__classdict__" : Str)) = false := by decide +kernel) :
    SxT C k F σ (.Return (some (.Name x px)) pos) (rets σ (.dictI xs)) := .mk fun Wo A E s hA f => by
  refine wpAny_Return_some (wpAny_Name (loadName_bd hb f hc fun v hv => ?_) hd)
  cases hv with
  | dct hsm hl hke r => exact ⟨_, _, ⟨rfl, rfl⟩, .dictI hsm hl (f.off _ (mem_of_lookup hb) a rfl).2.2 hke (r.less fun b q => .inl q), f, .refl, fun _ q => .inl q⟩

theorem EvT.dict0 {K : Type} [DecidableEq K] (dk : DK C K) {pos} : EvT C k F σ (.Dict [] [] pos) (dk.dic []) := .mk fun Wo A E s Q hA f h =>
  wpAny_Dict_empty (h _ _ (dk.rep _ _ _ _ _ (not_sys f (Nat.le_refl _)) (Heap.DictOf.new _) (Bdd.new f.wbnd) rfl .nil) (.of_heap0 (.push _ _ _)))
theorem EvT.dict1 {K : Type} [DecidableEq K] (dk : DK C K) {pos ke ve kk p} (hk : EvT C k F σ ke (dk.key kk)) (hv : EvT C k F σ ve p) : EvT C k F σ (.Dict [some ke] [ve] pos) (dk.dic [(kk, p)]) := .mk fun Wo A E s Q hA f h => by
  refine wpAny_Dict_walk (knd := dk.knd) rfl rfl (by simp) (by simp) (pairTrees_cons_walk ?_)
  have f₁ : Fm C (fun b => Wo b ∨ b = s.heap.objs.size) F σ (s.heap.push { cls := .type "dict", data := .dict #[] }) := f.wide (.push _ _ _)
    (fun b q => q.imp id fun z => Nat.le_of_eq z.symm) fun b q => by
      rw [Heap.size_push]
      rcases q with q | q
      · exact Nat.lt_succ_of_lt (f.bnd b q)
      · rw [q]; exact Nat.lt_succ_self _
  refine hk.run _ A E { s with heap := s.heap.push { cls := .type "dict", data := .dict #[] } } _ hA f₁ fun kv s₁ hkv p₁ => hv.run _ A E s₁ _ hA (f₁.pas p₁) fun vv s₂ hvv p₂ => pairTrees_nil_walk ?_
  have hD : s₂.heap.DictOf dk.knd s.heap.objs.size [] := (Heap.DictOf.new (knd := dk.knd) s.heap).at fun o e => p₂.keep.k _ o id (p₁.keep.k _ o id e)
  refine ⟨[(kk, vv)], ⟨dk.is _ _ _ _ hkv, rfl, trivial⟩, hD, fun h' hd hs' => ?_⟩
  have p : Pas s s₂ := Stp.trans (Stp.of_heap0 (.push _ _ _)) (p₁.trans p₂) (fun _ q => q.elim) fun _ q => q.elim
  refine h _ _ (dk.rep _ _ _ _ _ (not_sys f (Nat.le_refl _)) hd (Bdd.new f.wbnd) rfl (.cons ?_ .nil)) (Stp.trans p (.of_heap (oa := fun b => b = s.heap.objs.size) (.same hs' rfl)) (fun b q => .inr (Nat.le_of_eq q.symm)) fun _ (z : False) => z.elim)
  exact hvv.step (.same hs' (.inl (.inr rfl))) fun b q => .inl (q.imp .inl id)

/-- two dicts with the same whole numbers -/
theorem hits_same {A : Around} {s : Shared} {X Y : Addr → Prop} {K : Type} [DecidableEq K] : ∀ {xs ys : List (K × Int)} {ka kb : List (K × Value)}, (∀ q ∈ xs, q ∈ ys) → (ys.map (·.1)).Nodup →
    ka.map (·.1) = xs.map (·.1) → RpL C s.heap X (ka.map (·.2)) (xs.map fun q => .int q.2) → kb.map (·.1) = ys.map (·.1) → RpL C s.heap Y (kb.map (·.2)) (ys.map fun q => .int q.2) → PySem.W.KeqHits A s kb ka true := by
  intro xs
  induction xs with
  | nil => intro ys ka kb _ _ e _ _ _; cases ka with
    | nil => exact .nil
    | cons _ _ => cases e
  | cons x xs ih =>
    intro ys ka kb hsub hnd e1 r1 e2 r2
    cases ka with
    | nil => cases e1
    | cons q ka =>
      obtain ⟨kx, ux⟩ := q
      obtain ⟨kx', ix⟩ := x
      simp only [List.map_cons, List.cons.injEq] at e1
      have e0 : kx = kx' := e1.1
      subst e0
      cases r1 with
      | cons ra r1 =>
        have hx : (kx, ix) ∈ ys := hsub _ List.mem_cons_self
        have hf : ((ys.map fun q => (q.1, PV.int q.2)).find? fun q => decide (q.1 = kx)).map (·.2) = some (.int ix) := by
          clear ih r1 e1 r2 e2 hsub ra
          induction ys with
          | nil => cases hx
          | cons y ys ih =>
            rw [List.map_cons, List.nodup_cons] at hnd
            rw [List.map_cons, List.find?_cons]
            rcases List.mem_cons.mp hx with z | z
            · rw [← z]; simp
            · have hne : ¬ y.1 = kx := fun q => hnd.1 (q ▸ List.mem_map.mpr ⟨_, z, rfl⟩)
              simp only [hne, decide_false]
              exact ih hnd.2 z
        have e3 : kb.map (·.1) = (ys.map fun q => (q.1, PV.int q.2)).map (·.1) := by rw [e2, List.map_map]; rfl
        have r3 : RpL C s.heap Y (kb.map (·.2)) ((ys.map fun q => (q.1, PV.int q.2)).map (·.2)) := by rw [List.map_map]; exact r2
        obtain ⟨z, hz, rz⟩ := rep_at e3 r3 hf
        cases rz with
        | int _ tz =>
        cases ra with
        | int _ ta =>
        have := PySem.W.KeqHits.hit (A := A) (s := s) (v := .int ix ta) (r := ka) hz (e := true) (b := true) ?_ (ih (fun q hq => hsub q (List.mem_cons_of_mem _ hq)) hnd e1.2 r1 e2 r2)
        · exact this
        · have q := SeqAt.EqAt.int_int (A := A) (s := s) ix ta ix tz
          rwa [beq_self_eq_true] at q
theorem CmpT.neDict {K : Type} [DecidableEq K] (dk : DK C K) {xs : List (K × Int)} (hn : (xs.map (·.1)).Nodup) : CmpT C k .NotEq (dk.dic (xs.map fun q => (q.1, .int q.2))) (dk.dic (xs.map fun q => (q.1, .int q.2))) false := fun A E s X u v Q hA hu hv h => by
  obtain ⟨a, ka, rfl, ha, hla, _, ea, ra⟩ := dk.inv _ _ _ _ hu
  obtain ⟨b, kb, rfl, hb, hlb, _, eb, rb⟩ := dk.inv _ _ _ _ hv
  rw [List.map_map] at ea eb ra rb
  have la := congrArg List.length ea
  have lb := congrArg List.length eb
  rw [List.length_map, List.length_map] at la lb
  refine PySem.W.keq_ne (r := true) ha hb hla hlb hA.u0 (fun _ => hits_same (fun q hq => hq) hn ea ra eb rb) ?_
  rw [la, lb]
  simpa using h _ .refl
end

section
variable {C : Cx} {k : Nat} {F : FE} {σ : Sg} {K : Type} [DecidableEq K]

theorem entry_itemiter : entryFor table "dict_itemiterator.__iter__" = some Builtin.«dict_keyiterator.__iter__» :=
  entryFor_alias (id' := "dict_keyiterator.__iter__") (by rw [fastTable_eq_tree]; kernel_rfl) rfl (by decide +kernel) (by rw [fastTable_eq_tree]; kernel_rfl)
theorem walksItems {prog : Program} {w : World} {knd : KeyKind prog w K} {A : Around} (hh : A.handled = none) (I d : Addr) (hne : d ≠ I) (kvs : List (K × Value)) (ep : Nat) :
    WalksT prog w A I [I, d] [I] kvs.length (fun i vals => ∃ kk key v, kvs[i]? = some (kk, v) ∧ knd.is kk key = true ∧ vals = #[key, v])
      (fun i h => (∃ ok ov, IsItemIter h I d i kvs.length ep ok ov) ∧ h.DictAt knd d kvs ep)
      (fun i T h => (∃ ok ov, IsItemIterOut h I d (i + 1) kvs.length ep ok ov T) ∧ h.DictAt knd d kvs ep ∧ T ≠ I) where
  sub := fun b hb => by rw [List.mem_singleton.mp hb]; exact List.mem_cons_self ..
  frame := fun i h h' hst hk => by
    obtain ⟨⟨ok, ov, he⟩, hs⟩ := hst
    exact ⟨⟨ok, ov, hk I (by simp) _ he⟩, hs.at' fun o e => hk d (by simp) o e⟩
  item := fun i s Q E hi hst hQ => by
    obtain ⟨⟨ok, ov, he⟩, hs⟩ := hst
    obtain ⟨⟨kk, x⟩, hx⟩ : ∃ p, kvs[i]? = some p := ⟨kvs[i], by simp [hi]⟩
    refine wpAny_pyNext_items_item he hs hx fun key h' hkey ho hT hsz hk => ?_
    have hI : I < s.heap.objs.size := Heap.lt_size he
    exact hQ s.heap.objs.size #[key, x] h' s.toks ⟨kk, key, x, hx, hkey, rfl⟩ (Nat.le_refl _) ⟨_, hT, rfl, _, rfl⟩ ⟨⟨_, _, ho⟩, hs.at' fun o e => hk d o hne e, Nat.ne_of_gt hI⟩
      fun b o hb y => hk b o (fun e' => hb (by simp [e'])) y
  go := fun elts m pos i T s Q E hm hQ => by
    obtain ⟨⟨ok, ov, ho⟩, hs, hTe⟩ := hm
    refine wpAny_letOwnedTupleGo_items ho fun h' he' hs' => hQ h' ⟨⟨ok, ov, he'⟩, hs.at' fun o e => (hs'.2 d hne).trans e⟩ fun b o hb y => (hs'.2 b fun e' => hb (by simp [e'])).trans y
  apart := fun i T h hm hT => hm.2.2 (List.mem_singleton.mp hT)
  done := fun s Q E hst hQ => by
    obtain ⟨⟨ok, ov, he⟩, hs⟩ := hst
    exact wpAny_pyNext_items_end hh he hs (by simp) fun h' hx => hQ h' s.toks fun b o hb y => hx b o (fun e' => hb (by simp [e'])) y
  self := fun i s Q E hst hQ => by
    obtain ⟨⟨ok, ov, he⟩, _⟩ := hst
    have hT : s.TypeIs (.ref I) "dict_itemiterator" := ⟨_, he, rfl⟩
    refine wpAny_pyIter_slot hT F.slot_dict_itemiterator_iter (wpAny_call_entry F.slot_dict_itemiterator_iter hT entry_itemiter ?_ (F.args_dict_itemiterator_iter_1 _))
    show wpAny _ _ (ret (.ref I)) _ _ s
    exact wpAny_pure ⟨_, rfl, "dict_itemiterator", _, hT, F.slot_dict_itemiterator_next.lookup, hQ⟩

noncomputable def itemsOf {C : Cx} (dk : DK C K) (ps : List (K × PV)) : List PV := ps.map fun q => .tup [dk.key q.1, q.2]
theorem ItE.items (dk : DK C K) {e apos pos} {ps : List (K × PV)} {sf : Bool} (he : EvT C k F σ e (dk.dic ps))
    (hbase : attributeBase e "items" F.env (eval e F.env) = eval e F.env := by first | kernel_rfl | rfl) (hline : (apos.endLine == pos.line) = true := by first | kernel_rfl | rfl) :
    ItE C k F σ (.Call (.Attribute e "items" apos) [] [] pos) (itemsOf dk ps) true sf := .mk fun Wo A E s Q hA f h => by
  refine wpAny_Call_method hbase rfl hline PySem.F.plainAttrs_dict PySem.F.slot_dict_items PySem.F.type_dict_items (he.run Wo A E s _ hA f fun v s₁ hv p₁ => ?_)
  obtain ⟨a, kvs, rfl, hs, hl, hn, hk, r⟩ := dk.inv _ _ _ _ hv
  obtain ⟨o, es, ep, ho, hc, hd, hkk, hp, hnd⟩ := id hl
  have ha : a < s₁.heap.objs.size := Heap.lt_size ho
  have hat : s₁.heap.DictAt dk.knd a kvs ep := ⟨o, es, ho, hc, hd, hkk, hp, hnd⟩
  refine ⟨hl.typeIs, hl.mapOf.noDict, callWith_builtin (noStar rfl) (PyProof.Rows.evalArgs_nil3 ?_)⟩
  refine call_meetsIn PySem.F.slot_dict_items hl.typeIs PySem.F.entry_dict_items (PySem.F.args_dict_items_1 _) (meets_dict_items dk.knd a hs) ⟨⟨kvs, hl⟩, ?_⟩
  have er := congrArg List.length hk
  rw [List.length_map, List.length_map] at er
  have hsz : (s₁.heap.push { cls := .type "dict_items", data := .fields #[.ref a] }).objs.size = s₁.heap.objs.size + 1 := Heap.size_push ..
  have p₂ : Pas s { s₁ with heap := s₁.heap.push { cls := .type "dict_items", data := .fields #[.ref a] } } := p₁.trans (.of_heap0 (.push _ _ _))
  have ha2 : a < (s₁.heap.push { cls := .type "dict_items", data := .fields #[.ref a] }).objs.size := by rw [hsz]; exact Nat.lt_succ_of_lt ha
  refine wpAny_pyIter_items (d := a) ⟨_, Heap.get?_push_size _ rfl, rfl, rfl⟩ (hat.push _) ?_
  refine itStartT (s₁ := { s₁ with heap := s₁.heap.push { cls := .type "dict_items", data := .fields #[.ref a] } }) (xs := itemsOf dk ps) f p₂ (walksItems (knd := dk.knd) hA.hh _ a (Nat.ne_of_lt ha2) kvs ep) (by simp [itemsOf, er]) (.push _ _ _) (fun b hb => ?_) (fun b hb => ?_) ⟨⟨_, _, Heap.get?_push_size _ rfl⟩, (hat.push _).push _⟩ (fun j vals hlt hP => ?_) h
  · rw [List.mem_singleton.mp hb]; exact Nat.le_refl _
  · rcases List.mem_cons.mp hb with q | q
    · rw [q]; exact .inl ⟨Nat.le_refl _, by rw [hsz, Heap.size_push, hsz]; exact Nat.lt_succ_self _⟩
    · rw [List.mem_singleton.mp q]; exact .inr ⟨ha2, fun _ z => hn (.inr z)⟩
  · obtain ⟨kk, key, v, hx, hkey, rfl⟩ := hP
    have e2 : (kvs.map (·.1))[j]? = (ps.map (·.1))[j]? := by rw [hk]
    rw [List.getElem?_map, List.getElem?_map, hx] at e2
    obtain ⟨p, hp1, hp2⟩ := r.get (i := j) (v := v) (by rw [List.getElem?_map, hx]; rfl)
    rw [List.getElem?_map] at hp1
    cases hj : ps[j]? with
    | none => rw [hj] at e2; cases e2
    | some q =>
      rw [hj] at e2 hp1
      cases e2
      cases hp1
      exact ⟨_, by unfold itemsOf; rw [List.getElem?_map, hj]; rfl, .cons (dk.rev _ _ _ _ hkey) (.cons (hp2.ext (.push _ _ _)) .nil)⟩
theorem ItE.values (dk : DK C K) {e apos pos} {ps : List (K × PV)} {sf : Bool} (he : EvT C k F σ e (dk.dic ps))
    (hbase : attributeBase e "values" F.env (eval e F.env) = eval e F.env := by first | kernel_rfl | rfl) (hline : (apos.endLine == pos.line) = true := by first | kernel_rfl | rfl) :
    ItE C k F σ (.Call (.Attribute e "values" apos) [] [] pos) (ps.map (·.2)) false sf := .mk fun Wo A E s Q hA f h => by
  refine wpAny_Call_method hbase rfl hline PySem.F.plainAttrs_dict PySem.F.slot_dict_values PySem.F.type_dict_values (he.run Wo A E s _ hA f fun v s₁ hv p₁ => ?_)
  obtain ⟨a, kvs, rfl, hs, hl, hn, hk, r⟩ := dk.inv _ _ _ _ hv
  obtain ⟨o, es, ep, ho, hc, hd, hkk, hp, hnd⟩ := id hl
  have ha : a < s₁.heap.objs.size := Heap.lt_size ho
  have hat : s₁.heap.DictAt dk.knd a kvs ep := ⟨o, es, ho, hc, hd, hkk, hp, hnd⟩
  refine ⟨hl.typeIs, hl.mapOf.noDict, callWith_builtin (noStar rfl) (PyProof.Rows.evalArgs_nil3 ?_)⟩
  refine call_meetsIn PySem.F.slot_dict_values hl.typeIs PySem.F.entry_dict_values (PySem.F.args_dict_values_1 _) (meets_dict_values dk.knd a hs) ⟨⟨kvs, hl⟩, ?_⟩
  have er := congrArg List.length hk
  rw [List.length_map, List.length_map] at er
  have hsz : (s₁.heap.push { cls := .type "dict_values", data := .fields #[.ref a] }).objs.size = s₁.heap.objs.size + 1 := Heap.size_push ..
  have p₂ : Pas s { s₁ with heap := s₁.heap.push { cls := .type "dict_values", data := .fields #[.ref a] } } := p₁.trans (.of_heap0 (.push _ _ _))
  have ha2 : a < (s₁.heap.push { cls := .type "dict_values", data := .fields #[.ref a] }).objs.size := by rw [hsz]; exact Nat.lt_succ_of_lt ha
  refine wpAny_pyIter_values (d := a) ⟨_, Heap.get?_push_size _ rfl, rfl, rfl⟩ (hat.push _) ?_
  refine itStart (s₁ := { s₁ with heap := s₁.heap.push { cls := .type "dict_values", data := .fields #[.ref a] } }) (xs := ps.map (·.2)) f p₂ (Walks.dictValues (knd := dk.knd) hA.hh _ a (Nat.ne_of_lt ha2) kvs ep) (by simp [er]) (fun i h st => let ⟨o, h1, h2, _⟩ := st.1; ⟨o, _, h1, h2, by decide⟩) rfl rfl (fun b hb => ?_) ⟨⟨_, Heap.get?_push_size _ rfl, rfl, rfl⟩, (hat.push _).push _⟩ (fun j v hlt hP => ?_) h
  · rcases List.mem_cons.mp hb with q | q
    · exact .inl q
    · rw [List.mem_singleton.mp q]; exact .inr ⟨ha2, fun _ z => hn (.inr z)⟩
  · obtain ⟨kk, hx⟩ := hP
    obtain ⟨p, hp1, hp2⟩ := r.get (i := j) (v := v) (by rw [List.getElem?_map, hx]; rfl)
    exact ⟨p, hp1, hp2.ext (.push _ _ _)⟩
end
end Mine

end

section
open PySem
set_option linter.unusedVariables false
namespace Mine
open PySem.Builtin PySem.Calls

section
variable {prog : Program} {w : World} {A : Around} {R : GenEnd} {Y : Protocol} {n : Nat} {s₀ : Shared} {c : Code} {fs : List Frame} {s : Shared} {env : Env}
  {K : Flow → Sem Fin} {H : Value → Sem Fin} {gd : Bool → Bool} {lv : List Value → List Value}

theorem seg_If {t : Expr} {b o : List Stmt} {pos : Pos}
    (h : wpAny (model prog w) (A.over c fs) (isTrue t env (eval t env)) (fun r s' => Seg (model prog w) A R Y n s₀ c ((if r = true then execs b env else execs o env).wrap K H gd lv) fs s') (fun x s' => Seg (model prog w) A R Y n s₀ c (H x) fs s') s) :
    Seg (model prog w) A R Y n s₀ c ((exec (.If t b o pos) env).wrap K H gd lv) fs s := by
  rw [exec_If]
  refine seg_bind_wrap (wpAny_standAt ?_)
  refine seg_bind_wrap (wpAny_mono h (fun r s' h' => ?_) fun _ _ e => e)
  cases r <;> exact h'

/-- a loop: what stands behind it goes on where the loop ends -/
theorem seg_For {tgt iter : Expr} {b o : List Stmt} {pos : Pos}
    (h : wpAny (model prog w) (A.over c fs) (eval iter env) (fun x s₁ => wpAny (model prog w) (A.over c fs) (pyIter x) (fun it s₂ => ∀ p (kk : Result → Sem Fin), kk (.ok .next) = K .next → Seg (model prog w) A R Y n s₀ (.forLoop tgt it b o env) ((model prog w).den (.forLoop tgt it b o env))
        (.ret kk none (gd false) (lv []) c p [] :: fs) s₂) (fun x s' => Seg (model prog w) A R Y n s₀ c (H x) fs s') s₁) (fun x s' => Seg (model prog w) A R Y n s₀ c (H x) fs s') s)
    (hs : ∀ x, foldedSetIterable iter env x = pure x) :
    Seg (model prog w) A R Y n s₀ c ((exec (.For tgt iter b o pos) env).wrap K H gd lv) fs s := by
  rw [exec_For]
  refine seg_bind_wrap (wpAny_standAt ?_)
  refine seg_bind_wrap (wpAny_mono h (fun x s₁ h₁ => ?_) fun _ _ e => e)
  refine seg_bind_wrap (wpAny_of_eq (hs x) ?_)
  refine seg_bind_wrap (wpAny_standAt ?_)
  refine seg_bind_wrap (wpAny_holding (wpAny_mono h₁ (fun it s₂ h₂ => ?_) fun _ _ e => e))
  exact seg_call fun p => h₂ p _ rfl

theorem seg_turn {tgt : Expr} {it : Value} {b o : List Stmt}
    (h : wpAny (model prog w) (A.over (.forLoop tgt it b o env) fs) (pyNext it) (fun r s₁ => match r with
      | none => Seg (model prog w) A R Y n s₀ (.block o env) ((model prog w).den (.block o env)) fs s₁
      | some v => wpAny (model prog w) (A.over (.forLoop tgt it b o env) fs) (letOwnedTupleGo tgt it v) (fun _ s₂ => wpAny (model prog w) (A.over (.forLoop tgt it b o env) fs) (PySem.assign tgt env v) (fun _ s₃ =>
          Seg (model prog w) A R Y n s₀ (.forLoop tgt it b o env) ((execs b env).wrap (fun f => match f with
            | .next | .cont => .pure (.again (.forLoop tgt it b o env))
            | .brk => .pure (.done .next)
            | .ret v => .pure (.done (.ret v))) (fun e => (do noteFrame e env; theTreesLotGoes e : Sem Unit).bind fun _ => .raise e) id id) fs s₃)
          (fun x s' => Seg (model prog w) A R Y n s₀ (.forLoop tgt it b o env) ((do noteFrame x env; theTreesLotGoes x : Sem Unit).bind fun _ => .raise x) fs s') s₂)
          (fun x s' => Seg (model prog w) A R Y n s₀ (.forLoop tgt it b o env) ((do noteFrame x env; theTreesLotGoes x : Sem Unit).bind fun _ => .raise x) fs s') s₁)
      (fun x s' => Seg (model prog w) A R Y n s₀ (.forLoop tgt it b o env) ((do noteFrame x env; theTreesLotGoes x : Sem Unit).bind fun _ => .raise x) fs s') s) :
    Seg (model prog w) A R Y n s₀ (.forLoop tgt it b o env) ((model prog w).den (.forLoop tgt it b o env)) fs s := by
  show Seg _ A R Y n s₀ _ ((forTurn tgt it b o env).onRaise (fun x => do noteFrame x env; theTreesLotGoes x)) fs s
  unfold forTurn
  rw [Sem.onRaise_eq_wrap]
  refine seg_bind_wrap (wpAny_standAt ?_)
  refine seg_bind_wrap (wpAny_onRaise (wpAny_mono h (fun r s₁ h₁ => ?_) fun _ _ e => wpAny_standAt e))
  cases r with
  | none => exact seg_again rfl h₁
  | some v =>
    refine seg_bind_wrap (wpAny_mono h₁ (fun _ s₂ h₂ => ?_) fun _ _ e => e)
    refine seg_bind_wrap (wpAny_mono h₂ (fun _ s₃ h₃ => ?_) fun _ _ e => e)
    rw [Sem.bind_eq_wrap', Sem.wrap_wrap]
    refine (congrArg (fun t => Seg (model prog w) A R Y n s₀ (.forLoop tgt it b o env) t fs s₃) (Sem.wrap_congr (execs b env) id id (fun f => ?_) fun e => ?_)).mpr h₃
    · cases f <;> rfl
    · rfl

/-- a loop is over -/
theorem seg_over {k : Result → Sem Fin} {hd g l c₁ p₁ kp} (hk : Seg (model prog w) A R Y n s₀ c₁ (k (.ok .next)) fs s) :
    Seg (model prog w) A R Y n s₀ (.block [] env) ((model prog w).den (.block [] env)) (.ret k hd g l c₁ p₁ kp :: fs) s :=
  seg_leaf (.ok .next) hk
/-- a statement that does not yield -/
theorem seg_stmt {st : Stmt} {rest : List Stmt} (h : wpAny (model prog w) (A.over c fs) (exec st env) (fun f s' => f = .next ∧ Seg (model prog w) A R Y n s₀ c ((execs rest env).wrap K H gd lv) fs s') (fun x s' => Seg (model prog w) A R Y n s₀ c (H x) fs s') s) :
    Seg (model prog w) A R Y n s₀ c ((execs (st :: rest) env).wrap K H gd lv) fs s :=
  seg_execs_cons (seg_wrap (wpAny_mono h (fun f s' h' => by obtain ⟨rfl, h'⟩ := h'; exact h') fun _ _ e => e))
end
end Mine

end

section
open PySem
set_option linter.unusedVariables false
namespace Mine
open PySem.Builtin PySem.Calls

noncomputable def fnE (sc : Scope) (L a : Addr) (q : Str) (cd : Value) : Env := newEnv sc L mainGlobals (cellsFrom (L + 1) sc.names []) q (some a) cd none builtinsNs
noncomputable abbrev fnF (sc : Scope) (L a : Addr) (q : Str) (cd : Value) : FE := ⟨fnE sc L a q cd, mineOf sc⟩

/-- a def of the text stands in the heap -/
noncomputable def FnAt (C : Cx) (fa : Addr) (sc : Scope) (xs : List Str) (body : List Stmt) : Prop :=
  ∃ o fd, C.h₀.get? fa = some o ∧ o.data = .func fd ∧ fd.body = .stmts body ∧ fd.scope = sc ∧ fd.globals = mainGlobals ∧ fd.builtins = builtinsNs ∧ fd.closure = [] ∧ C.h₀.CodeRec fd.code fd.qualname ∧
    ∀ vs : List Value, vs.length = xs.length → bindArgs fd ⟨vs, []⟩ = pure (xs.zip vs)
noncomputable def paramsOk (sc : Scope) (xs : List Str) : Bool := sc.kind == .function && decide (sc.names.map (·.1)).Nodup && decide xs.Nodup && xs.all fun x => sc.names.lookup x == some .local || sc.names.lookup x == some .cell

section
theorem cellsFrom_fst : ∀ (names : List (Str × NameKind)) (n : Nat), (cellsFrom n names []).map (·.1) = ((names.filter fun x => x.2 == .cell).map (·.1)).reverse
  | [], _ => rfl
  | (x, kd) :: r, n => by
    unfold cellsFrom
    by_cases hk : kd = .cell
    · subst hk
      simp only [beq_self_eq_true, if_true]
      rw [cellsFrom_append, List.map_append, cellsFrom_fst r (n + 1)]
      simp
    · have hb : (kd == NameKind.cell) = false := by simpa using hk
      simp only [hb, Bool.false_eq_true, if_false]
      rw [cellsFrom_fst r n]
      simp [hb]
theorem lookup_nodup {α : Type} : ∀ {l : List (Str × α)} {x : Str} {c : α}, (l.map (·.1)).Nodup → (x, c) ∈ l → l.lookup x = some c
  | [], _, _, _, h => by cases h
  | (y, d) :: r, x, c, hn, h => by
    rw [List.map_cons, List.nodup_cons] at hn
    rw [List.lookup_cons]
    rcases List.mem_cons.mp h with e | e
    · cases e; simp
    · have : (x == y) = false := by
        rw [beq_eq_false_iff_ne]
        rintro rfl
        exact hn.1 (List.mem_map.mpr ⟨_, e, rfl⟩)
      rw [this]
      exact lookup_nodup hn.2 e
theorem bindL_miss {kd : Str → Option NameKind} : ∀ {bs : List (Str × Value)} {m : Str → Option Value} {x : Str}, x ∉ bs.map (·.1) → bindL kd bs m x = m x
  | [], _, _, _ => rfl
  | (n, v) :: r, m, x, h => by
    simp only [List.map_cons, List.mem_cons, not_or] at h
    unfold bindL
    rw [bindL_miss h.2]
    split
    · simp [h.1]
    · rfl
theorem bindC_miss {kd : Str → Option NameKind} : ∀ {bs : List (Str × Value)} {m : Str → Option Value} {x : Str}, x ∉ bs.map (·.1) → bindC kd bs m x = m x
  | [], _, _, _ => rfl
  | (n, v) :: r, m, x, h => by
    simp only [List.map_cons, List.mem_cons, not_or] at h
    unfold bindC
    rw [bindC_miss h.2]
    split
    · rfl
    · simp [h.1]
theorem bindL_hit {kd : Str → Option NameKind} : ∀ {bs : List (Str × Value)} {m : Str → Option Value} {x : Str} {v : Value}, (bs.map (·.1)).Nodup → (x, v) ∈ bs → kd x = some .local → bindL kd bs m x = some v
  | [], _, _, _, _, h, _ => by cases h
  | (n, u) :: r, m, x, v, hn, h, hk => by
    rw [List.map_cons, List.nodup_cons] at hn
    unfold bindL
    rcases List.mem_cons.mp h with e | e
    · cases e
      rw [bindL_miss hn.1, if_pos hk]; simp
    · exact bindL_hit hn.2 e hk
theorem bindC_hit {kd : Str → Option NameKind} : ∀ {bs : List (Str × Value)} {m : Str → Option Value} {x : Str} {v : Value}, (bs.map (·.1)).Nodup → (x, v) ∈ bs → kd x ≠ some .local → bindC kd bs m x = some v
  | [], _, _, _, _, h, _ => by cases h
  | (n, u) :: r, m, x, v, hn, h, hk => by
    rw [List.map_cons, List.nodup_cons] at hn
    unfold bindC
    rcases List.mem_cons.mp h with e | e
    · cases e
      rw [bindC_miss hn.1, if_neg hk]; simp
    · exact bindC_hit hn.2 e hk
theorem zip_fst {α β : Type} : ∀ {xs : List α} {vs : List β}, vs.length = xs.length → (xs.zip vs).map (·.1) = xs
  | [], [], _ => rfl
  | x :: xs, v :: vs, h => by simp only [List.zip_cons_cons, List.map_cons]; rw [zip_fst (by simpa using h)]
  | x :: xs, [], h => by cases h
  | [], v :: vs, h => by cases h
theorem zip_rep {prog : Program} {w : World} {h : Heap} {X : Addr → Prop} : ∀ {xs : List Str} {vs : List Value} {ps : List PV} {x : Str} {b : Bd}, RepL prog w h X vs ps → xs.length = vs.length → (x, b) ∈ xs.zip (ps.map Bd.pv) → ∃ v p, b = .pv p ∧ (x, v) ∈ xs.zip vs ∧ Rep prog w h X v p
  | [], _, _, _, _, _, _, hm => by simp at hm
  | y :: xs, [], _, _, _, _, e, _ => by cases e
  | y :: xs, v :: vs, _, x, b, .cons r rs, e, hm => by
    simp only [List.map_cons, List.zip_cons_cons, List.mem_cons] at hm ⊢
    rcases hm with hm | hm
    · cases hm; exact ⟨v, _, rfl, .inl rfl, r⟩
    · obtain ⟨v', p, h1, h2, h3⟩ := zip_rep rs (by simpa using e) hm
      exact ⟨v', p, h1, .inr h2, h3⟩
end

section
variable {C : Cx} {k : Nat}

theorem fn_fm {Wo : Addr → Prop} {s s₁ : Shared} {sc : Scope} {xs : List Str} {vs : List Value} {ps : List PV} {a : Addr} {q : Str} {cd : Value} (hx : paramsOk sc xs = true) (hl : vs.length = xs.length)
    (hbase : ∀ b o, C.h₀.get? b = some o → s.heap.get? b = some o) (hb : Bdd Wo s.heap) (hr : RpL C s.heap Wo vs ps)
    (x : InCallC s (fnE sc s.heap.objs.size a q cd).locals (bindL (fnE sc s.heap.objs.size a q cd).kindOf (xs.zip vs) fun _ => none) (fnE sc s.heap.objs.size a q cd).cells (bindC (fnE sc s.heap.objs.size a q cd).kindOf (xs.zip vs) fun _ => none) s₁) :
    Fm C Wo (fnF sc s.heap.objs.size a q cd) (xs.zip (ps.map .pv)) s₁.heap ∧ Pas s s₁ ∧ ∀ b, own (fnF sc s.heap.objs.size a q cd) (xs.zip (ps.map .pv)) b → s.heap.objs.size ≤ b := by
  unfold paramsOk at hx
  simp only [Bool.and_eq_true, decide_eq_true_eq, beq_iff_eq, List.all_eq_true, Bool.or_eq_true] at hx
  obtain ⟨⟨⟨hk, hnd⟩, hxn⟩, hpk⟩ := hx
  have hxv : ((xs.zip vs).map (·.1)).Nodup := by rw [zip_fst hl]; exact hxn
  have hns := x.toInCall.ns
  have hLlt := hns.lt
  have hLlt' : s.heap.objs.size < s₁.heap.objs.size := hLlt
  have kp : Kp (fun _ => False) s.heap s₁.heap := ⟨fun b o _ e => x.toInCall.keep b o e, Nat.le_of_lt hLlt'⟩
  have cn : ((cellsFrom (s.heap.objs.size + 1) sc.names []).map (·.1)).Nodup := by
    rw [cellsFrom_fst]
    exact (List.reverse_perm _).nodup_iff.mpr (hnd.sublist (List.filter_sublist.map _))
  have ck : ∀ y c, (y, c) ∈ cellsFrom (s.heap.objs.size + 1) sc.names [] → s₁.heap.IsCell c (bindC (fnE sc s.heap.objs.size a q cd).kindOf (xs.zip vs) (fun _ => none) y) := fun y c hm => x.cell y c (lookup_nodup cn hm)
  have ab : ∀ y c, (y, c) ∈ cellsFrom (s.heap.objs.size + 1) sc.names [] → s.heap.objs.size < c := fun y c hm => x.above y c hm
  have hown : ∀ b, own (fnF sc s.heap.objs.size a q cd) (xs.zip (ps.map .pv)) b → s.heap.objs.size ≤ b := fun b o => by
    rcases o with o | ⟨y, hy, o⟩ | ⟨y, hy, o⟩
    · exact Nat.le_of_eq o.symm
    · exact Nat.le_of_lt (ab y b (mem_of_lookup o))
    · obtain ⟨y, bd⟩ := y
      obtain ⟨v, p, e, _⟩ := zip_rep hr hl.symm hy
      subst e
      exact o.elim
  have h0 : ∀ b, s.heap.objs.size ≤ b → C.h₀.get? b = none := fun b q => by
    cases e : C.h₀.get? b with
    | none => rfl
    | some o => exact absurd (Heap.lt_size (hbase b o e)) (Nat.not_lt.mpr q)
  have mineL : ∀ y, y ∈ mineOf sc → ∃ c, (y, c) ∈ cellsFrom (s.heap.objs.size + 1) sc.names [] := fun y hy => (cellsFrom_keys sc.names (s.heap.objs.size + 1) y).mpr (by
    unfold mineOf at hy
    simpa using hy)
  obtain ⟨h', tk, hs1⟩ := x.toInCall.same
  refine ⟨⟨hk, rfl, rfl, fun b o e => x.toInCall.keep b o (hbase b o e), ⟨_, hns, fun y b hy => ?_⟩, fun y hy => ?_, fun y hy z c e1 e2 => ?_, fun p hp => (ck p.1 p.2 hp).lt, ?_, fun b q => h0 b (hown b q), fun b q => Nat.lt_of_lt_of_le (hb b q) kp.sz, fun y z b hy hz h1 h2 => ?_, fun y hy b hb => ?_⟩, ?_, hown⟩
  · obtain ⟨v, p, e, hm, r⟩ := zip_rep hr hl.symm hy
    subst e
    refine ⟨v, ?_, .pv (r.step kp.any fun b q => q.imp id (hown b))⟩
    have hyx : y ∈ xs := by rw [← zip_fst hl]; exact List.mem_map.mpr ⟨_, hm, rfl⟩
    rcases hpk y hyx with hloc | hcell
    · exact .inl ⟨hloc, bindL_hit hxv hm hloc⟩
    · refine .inr ⟨.inl hcell, ?_⟩
      obtain ⟨c, hc⟩ := (cellsFrom_keys sc.names (s.heap.objs.size + 1) y).mpr (mem_of_lookup hcell)
      refine ⟨c, lookup_nodup cn hc, ?_⟩
      have := ck y c hc
      rwa [bindC_hit hxv hm (by
        show sc.names.lookup y ≠ some .local
        rw [hcell]; decide)] at this
  · obtain ⟨c, hc⟩ := mineL y hy
    exact ⟨c, _, lookup_nodup cn hc, ck y c hc⟩
  · exact name_of_addr x.apart (mem_of_lookup e2) (mem_of_lookup e1)
  · rw [zip_fst (by rw [List.length_map, ← hr.length, hl])]; exact hxn
  · obtain ⟨y, bd⟩ := y
    obtain ⟨v, p, e, _⟩ := zip_rep hr hl.symm hy
    subst e
    exact h1.elim
  · obtain ⟨y, bd⟩ := y
    obtain ⟨v, p, e, _⟩ := zip_rep hr hl.symm hy
    subst e
    exact hb.elim
  · have hh : s₁.heap = h' := by rw [hs1]
    rw [hh] at kp
    rw [hs1]
    exact .of_heap kp

theorem FnT.mk {fa : Addr} {sc : Scope} {xs : List Str} {body : List Stmt} {ps : List PV} {r : PV} (h : FnAt C fa sc xs body) (hb : ∀ L a q cd, ExT C k (fnF sc L a q cd) (xs.zip (ps.map .pv)) body (fun o _ => o = .rt r)) (hl : ps.length = xs.length)
    (hx : paramsOk sc xs = true) (hco : sc.isCoroutine = false := by first | kernel_rfl | rfl) (hgen : sc.isGenerator = false := by first | kernel_rfl | rfl) : FnT C (k + 1) fa ps r := fun Wo A s vs R hA hbase hbd hr hR => by
  obtain ⟨o, fd, ho, hd, hbody, hsc, hgl, hbi, hcl, hcd, hbind⟩ := h
  have hvl : vs.length = xs.length := hr.length.trans hl
  have hk : fd.scope.kind = .function := by
    rw [hsc]
    unfold paramsOk at hx
    simp only [Bool.and_eq_true, beq_iff_eq] at hx
    exact hx.1.1.1
  have hee : callEnvC fd s.heap.objs.size fa = fnE sc s.heap.objs.size fa (fd.qualname ++ ".<locals>.") fd.code := by
    unfold callEnvC fnE; rw [hsc, hgl, hbi]
  refine codeAny_call_cells (o := o) (fd := fd) (body := body) (binds := xs.zip vs) hA.d (hbase _ _ ho) hd (C.lim.keeps hbase) ?_ hbody (hbind vs hvl) hcl (fun y hy => ?_) (fun s₁ x => ?_) (by rw [hsc]; exact hco) (by rw [hsc]; exact hgen) hk
  · exact hcd.keeps hbase
  · have hyx : y.1 ∈ xs := by rw [← zip_fst hvl]; exact List.mem_map.mpr ⟨_, hy, rfl⟩
    have hx' := hx
    unfold paramsOk at hx'
    simp only [Bool.and_eq_true, decide_eq_true_eq, beq_iff_eq, List.all_eq_true, Bool.or_eq_true] at hx'
    rw [hsc]
    rcases hx'.2 y.1 hyx with z | z
    · exact .inl z
    · refine .inr ⟨z, ?_⟩
      obtain ⟨c, hc⟩ := (cellsFrom_keys sc.names (s.heap.objs.size + 1) y.1).mpr (mem_of_lookup z)
      obtain ⟨d, hd⟩ := lookup_of_mem hc
      rw [hd]; rfl
  · rw [hee] at x ⊢
    obtain ⟨f, p, hown⟩ := fn_fm hx hvl hbase hbd hr x
    refine wpAny_mono ((hb s.heap.objs.size fa (fd.qualname ++ ".<locals>.") fd.code).run Wo (A.deeper (fnE sc s.heap.objs.size fa (fd.qualname ++ ".<locals>.") fd.code)) _ s₁ (hA.deeper _) f) (fun fl s' e => ?_) fun _ _ e => e
    obtain ⟨o', σ', rfl, q, f', st, _⟩ := e.ex
    cases fl <;> first | exact q.elim | skip
    refine hR _ _ q ?_
    exact Stp.trans p st (fun b q => .inr (hown b q)) fun _ (z : False) => z.elim
end
end Mine

end

section
open PySem
set_option linter.unusedVariables false
namespace Mine
open PySem.Builtin PySem.Calls

noncomputable def PV.flat : PV → Bool
  | .none | .bool _ | .int _ | .str _ => true
  | _ => false
theorem Rep.flat {prog : Program} {w : World} {h h' : Heap} {X X' : Addr → Prop} {v : Value} {p : PV} (r : Rep prog w h X v p) (hp : p.flat = true) : Rep prog w h' X' v p := by
  cases r <;> first | (cases hp; done) | constructor

section
variable {C : Cx} {k : Nat} {F : FE} {σ : Sg} {Wo : Addr → Prop}

/-- an owned list is given out of hand -/
theorem Fm.lend {h : Heap} (f : Fm C Wo F σ h) {x : Str} {a : Addr} {xs : List PV} (hm : (x, Bd.lst a xs) ∈ σ) : Fm C Wo F (put σ x (.pv (.list xs))) h := by
  have hoff := f.off _ hm a rfl
  have ownP : ∀ b, own F (put σ x (.pv (.list xs))) b → own F σ b := fun b q => own_pv f.keys q
  have hW : ∀ b, Wx Wo F (put σ x (.pv (.list xs))) b → Wx Wo F σ b := fun b q => q.imp id (ownP b)
  have mp : ∀ {y b}, (y, b) ∈ put σ x (.pv (.list xs)) → (∃ z, b.owns z) → (y, b) ∈ σ ∧ y ≠ x := fun {y b} hy hz => by
    rcases mem_put f.keys hy with ⟨_, e⟩ | ⟨hne, hy'⟩
    · subst e; obtain ⟨z, hz⟩ := hz; exact hz.elim
    · exact ⟨hy', hne⟩
  have hna : ¬ Wx Wo F (put σ x (.pv (.list xs))) a := fun q => by
    rcases q with q | q | ⟨y, hy, hl⟩ | ⟨⟨y, b⟩, hy, hb⟩
    · exact hoff.2.2 q
    · exact hoff.1 q
    · exact hoff.2.1 _ (mem_of_lookup hl) rfl
    · obtain ⟨hy', hne⟩ := mp hy ⟨a, hb⟩
      exact hne (congrArg Prod.fst (f.one _ _ a hy' hm hb rfl))
  obtain ⟨m, hn, hnm⟩ := f.names
  refine ⟨f.kind, f.gl, f.bi, f.base, ⟨m, hn, fun y b hy => ?_⟩, f.cells, f.apart, f.cb, (put_keys f.keys).1, fun b q => f.new b (ownP b q), f.bnd, fun p q b hp hq h1 h2 => ?_, fun p hp b hb => ?_⟩
  · rcases mem_put f.keys hy with ⟨e1, e2⟩ | ⟨hne, hy'⟩
    · subst e1 e2
      obtain ⟨v, hp, hr⟩ := hnm y _ hm
      refine ⟨v, hp, ?_⟩
      cases hr with
      | lst hl r => exact .pv (.list hl hna (r.less hW))
    · obtain ⟨v, hp, hr⟩ := hnm y b hy'
      exact ⟨v, hp, hr.step .refl (fun b q => .inl (hW b q)) fun _ _ _ e => e⟩
  · obtain ⟨y, c⟩ := p
    obtain ⟨z, d⟩ := q
    exact f.one _ _ b (mp hp ⟨b, h1⟩).1 (mp hq ⟨b, h2⟩).1 h1 h2
  · obtain ⟨y, c⟩ := p
    exact f.off _ (mp hp ⟨b, hb⟩).1 b hb

theorem EvT.lend {x a xs e p} (hb : σ.lookup x = some (.lst a xs)) (h : EvT C k F (put σ x (.pv (.list xs))) e p) (hf : p.flat = true) : EvT C k F σ e p := .mk fun Wo A E s Q hA f hQ =>
  h.run Wo A E s Q hA (f.lend (mem_of_lookup hb)) fun v s' hv p' => hQ v s' (hv.flat hf) p'
theorem TsT.lend {x a xs e p} (hb : σ.lookup x = some (.lst a xs)) (h : TsT C k F (put σ x (.pv (.list xs))) e p) : TsT C k F σ e p := .mk fun Wo A E s Q hA f hQ =>
  h.run Wo A E s Q hA (f.lend (mem_of_lookup hb)) hQ
/-- from here on the list is nobody's own -/
theorem ExT.give {x a xs ss P} (hb : σ.lookup x = some (.lst a xs)) (h : ExT C k F (put σ x (.pv (.list xs))) ss P) : ExT C k F σ ss P := .mk fun Wo A E s hA f => by
  have keys := f.keys
  refine wpAny_mono (h.run Wo A E s hA (f.lend (mem_of_lookup hb))) (fun fl s' e => ?_) fun _ _ e => e
  obtain ⟨o, σ', p, q, f', st, ho⟩ := e.ex
  exact ⟨o, σ', p, q, f', st.mono (fun b z => .inl (own_pv keys z)) fun _ (z : False) => z.elim, fun b z => (ho b z).imp (own_pv keys) id⟩
theorem SxT.give {x a xs st P} (hb : σ.lookup x = some (.lst a xs)) (h : SxT C k F (put σ x (.pv (.list xs))) st P) : SxT C k F σ st P := .mk fun Wo A E s hA f => by
  have keys := f.keys
  refine wpAny_mono (h.run Wo A E s hA (f.lend (mem_of_lookup hb))) (fun fl s' e => ?_) fun _ _ e => e
  obtain ⟨o, σ', p, q, f', st, ho⟩ := e.ex
  exact ⟨o, σ', p, q, f', st.mono (fun b z => .inl (own_pv keys z)) fun _ (z : False) => z.elim, fun b z => (ho b z).imp (own_pv keys) id⟩

theorem eval_nil {A : Around} {E : Value → Shared → Prop} {s : Shared} {env : Env} {lp : Pos} {Q : Value → Shared → Prop} (h : Q (.ref s.heap.objs.size) { s with heap := s.heap.push { cls := .type "list", data := .seq #[] } }) : wpAny C.M A (eval (.List [] lp) env) Q E s := by
  rw [arm_eval_List]
  refine wpAny_bind (wpAny_standAt (wpAny_bind (spliced_nil ?_)))
  exact wpAny_newObj_type h (by show (0 : Nat) ≤ sizeLine; exact Nat.zero_le _)

/-- a new list and a value, stored the second one first -/
theorem SxT.assignSwL {x px y py kk tp lp e q tk pp pos} (he : EvT C k F σ e q) (hp : plainE e = true) (hx : F.env.kindOf x = some .local) (hy : storable F y = true)
    (hs : swapsWithSole [.Tuple [.Name x px, .Name y py] kk tp] (.Tuple [.List [] lp, e] tk pp) pos.line F.env = pure false := by first | kernel_rfl | rfl)
    (hw : swappedStores [.Tuple [.Name x px, .Name y py] kk tp] (.Tuple [.List [] lp, e] tk pp) F.env = pure (some [x, y]) := by first | kernel_rfl | rfl) :
    SxT C k F σ (.Assign [.Tuple [.Name x px, .Name y py] kk tp] (.Tuple [.List [] lp, e] tk pp) pos) (fun o σ' => o = .nx ∧ ∃ a, σ' = put (put σ y (.pv q)) x (.lst a [])) := .mk fun Wo A E s hA f => by
  refine PyProof.Rows.Assign_Tuple_swapped (names := [x, y]) ?_ hs hw
  rw [arm_eval_Tuple]
  refine wpAny_bind (wpAny_standAt (wpAny_bind ?_))
  rw [starEach_plain rfl, starEach_plain hp]
  have fo := fresh_own f (Nat.le_refl _)
  have sz1 : (s.heap.push { cls := .type "list", data := .seq #[] }).objs.size = s.heap.objs.size + 1 := Heap.size_push ..
  have f₁ : Fm C (fun b => Wo b ∨ b = s.heap.objs.size) F σ (s.heap.push { cls := .type "list", data := .seq #[] }) := f.wide (.push _ _ _)
    (fun b q => q.imp id fun z => Nat.le_of_eq z.symm) fun b q => by
      rw [sz1]
      rcases q with q | q
      · exact Nat.lt_succ_of_lt (f.bnd b q)
      · rw [q]; exact Nat.lt_succ_self _
  refine spliced_cons (eval_nil (spliced_cons (he.run _ A E { s with heap := s.heap.push { cls := .type "list", data := .seq #[] } } _ hA f₁ fun v s₂ hv p₂ => spliced_nil ?_)))
  refine wpAny_newObj_type ?_ (by show (2 : Nat) ≤ sizeLine; simp [sizeLine])
  have f₂ := f₁.pas p₂
  have p₃ : Pas s₂ { s₂ with heap := s₂.heap.push { cls := .type "tuple", data := .seq #[.ref s.heap.objs.size, v] } } := .of_heap0 (.push _ _ _)
  refine unpack_pair (s := { s₂ with heap := s₂.heap.push { cls := .type "tuple", data := .seq #[.ref s.heap.objs.size, v] } }) hA ⟨_, Heap.get?_push_size _ rfl, rfl, _, rfl⟩ fun h' hk => ?_
  have p₄ : Pas s₂ { s₂ with heap := h' } := .of_heap0 ⟨fun b o _ e => hk.k b o id (Heap.get?_push_of_some _ e), Nat.le_trans (by rw [Heap.size_push]; exact Nat.le_succ _) hk.sz⟩
  show wpAny _ A (assignInOrder [fun v => bindName F.env y v, fun v => bindName F.env x v] [v, .ref s.heap.objs.size]) _ _ _
  refine wpAny_assignInOrder_more (wpAny_bindName (store_pv (s := { s₂ with heap := h' }) (f₂.pas p₄) hy (hv.ext p₄.keep) fun s₅ f₅ st₅ => wpAny_assignInOrder_more (wpAny_bindName ?_)))
  have hl5 : s₅.heap.PlainList s.heap.objs.size #[] := by
    have h1 : (s.heap.push { cls := .type "list", data := .seq #[] }).PlainList s.heap.objs.size #[] := ⟨_, Heap.get?_push_size _ rfl⟩
    exact h1.at fun o e => st₅.keep.k _ o (fun z => Nat.lt_irrefl _ (f.wbnd _ (.inr z))) (p₄.keep.k _ o id (p₂.keep.k _ o id e))
  have hno : ∀ z ∈ put σ y (.pv q), ¬ z.2.owns s.heap.objs.size := fun z hz o => by
    obtain ⟨z, b⟩ := z
    rcases mem_put f.keys hz with ⟨_, e⟩ | ⟨_, hz'⟩
    · subst e; exact o.elim
    · exact fo.1 _ hz' o
  refine store_lst (Wo := Wo) (vs := #[]) (xs := []) f₅ (fun _ q => .inl q) (.inr rfl) fo.2.2 (none_h0 f (Nat.le_refl _)) hx hl5 .nil hno fo.2.1 fun s₆ f₆ st₆ => wpAny_assignInOrder_none ?_
  have pp : Pas s { s₂ with heap := h' } := Pas.trans (Pas.trans (s' := { s with heap := s.heap.push { cls := .type "list", data := .seq #[] } }) (.of_heap0 (.push _ _ _)) p₂) p₄
  refine .stay ⟨rfl, _, rfl⟩ f₆ (Stp.trans (Stp.trans pp.stp st₅ (fun _ q => .inl q) fun _ (z : False) => z.elim) st₆ (fun b q => .inl (own_pv f.keys q)) fun _ (z : False) => z.elim) fun b q => ?_
  rcases own_put f₅.keys q with z | z
  · exact .inl (own_pv f.keys z)
  · exact .inr (Nat.le_of_eq (show b = _ from z).symm)

/-- two new lists and a new dict -/
theorem SxT.assignLLD {x px y py z pz kk tp l1 l2 l3 tk pp pos} (hx : F.env.kindOf x = some .local) (hy : F.env.kindOf y = some .local) (hz : storable F z = true) (hxy : x ≠ y)
    (hs : swapsWithSole [.Tuple [.Name x px, .Name y py, .Name z pz] kk tp] (.Tuple [.List [] l1, .List [] l2, .Dict [] [] l3] tk pp) pos.line F.env = pure false := by first | kernel_rfl | rfl)
    (hw : swappedStores [.Tuple [.Name x px, .Name y py, .Name z pz] kk tp] (.Tuple [.List [] l1, .List [] l2, .Dict [] [] l3] tk pp) F.env = pure none := by first | kernel_rfl | rfl) :
    SxT C k F σ (.Assign [.Tuple [.Name x px, .Name y py, .Name z pz] kk tp] (.Tuple [.List [] l1, .List [] l2, .Dict [] [] l3] tk pp) pos)
      (fun o σ' => o = .nx ∧ ∃ a b, σ' = put (put (put σ x (.lst a [])) y (.lst b [])) z (.pv (.dictI []))) := .mk fun Wo A E s hA f => by
  refine PyProof.Rows.Assign_Tuple ?_ hs hw
  rw [arm_eval_Tuple]
  refine wpAny_bind (wpAny_standAt (wpAny_bind ?_))
  rw [starEach_plain rfl, starEach_plain rfl, starEach_plain rfl]
  obtain ⟨n, hn⟩ : ∃ n, n = s.heap.objs.size := ⟨_, rfl⟩
  obtain ⟨h1, e1⟩ : ∃ h1, h1 = s.heap.push { cls := .type "list", data := .seq #[] } := ⟨_, rfl⟩
  obtain ⟨h2, e2⟩ : ∃ h2, h2 = h1.push { cls := .type "list", data := .seq #[] } := ⟨_, rfl⟩
  obtain ⟨h3, e3⟩ : ∃ h3, h3 = h2.push { cls := .type "dict", data := .dict #[] } := ⟨_, rfl⟩
  have s1 : h1.objs.size = n + 1 := by rw [e1, Heap.size_push, hn]
  have s2 : h2.objs.size = n + 2 := by rw [e2, Heap.size_push, s1]
  have s3 : h3.objs.size = n + 3 := by rw [e3, Heap.size_push, s2]
  refine spliced_cons (eval_nil (spliced_cons (eval_nil (spliced_cons (wpAny_Dict_empty (spliced_nil ?_))))))
  rw [← e1]
  show wpAny _ A _ _ _ { s with heap := (h1.push { cls := .type "list", data := .seq #[] }).push { cls := .type "dict", data := .dict #[] } }
  rw [← e2, ← e3, ← hn, s1, s2]
  refine wpAny_newObj_type ?_ (by show (3 : Nat) ≤ sizeLine; simp [sizeLine])
  show wpAny _ A _ _ _ { s with heap := h3.push { cls := .type "tuple", data := .seq #[.ref n, .ref (n + 1), .ref (n + 2)] } }
  rw [show ({ s with heap := h3 } : Shared).heap.objs.size = n + 3 from s3]
  have L1 : h3.PlainList n #[] := ⟨_, by rw [e3]; exact Heap.get?_push_of_some _ (by rw [e2]; exact Heap.get?_push_of_some _ (by rw [e1, hn]; exact Heap.get?_push_size _ rfl))⟩
  have L2 : h3.PlainList (n + 1) #[] := ⟨_, by rw [e3]; exact Heap.get?_push_of_some _ (by rw [e2, ← s1]; exact Heap.get?_push_size _ rfl)⟩
  have L3 : h3.DictOf (intKind C.prog C.w) (n + 2) [] := by rw [e3, ← s2]; exact Heap.DictOf.new _
  have k3 : Kp (fun _ => False) s.heap h3 := ⟨fun b o _ e => by rw [e3, e2, e1]; exact Heap.get?_push_of_some _ (Heap.get?_push_of_some _ (Heap.get?_push_of_some _ e)), by omega⟩
  rw [arm_assign_Tuple]
  refine wpAny_bind (wpAny_standAt ?_)
  show wpAny _ A (holding [Value.ref (n + 3)] (unpackItems (.ref (n + 3)) 3 none) >>= fun items => assignInOrder [fun v => PySem.assign (.Name x px) F.env v, fun v => PySem.assign (.Name y py) F.env v, fun v => PySem.assign (.Name z pz) F.env v] items) _ _ _
  refine wpAny_bind (wpAny_holding (with_size (wpAny_unpackItems_tuple (s := { s with heap := h3.push { cls := .type "tuple", data := .seq #[.ref n, .ref (n + 1), .ref (n + 2)] } }) (items := #[.ref n, .ref (n + 1), .ref (n + 2)]) hA.hh ⟨_, by rw [← s3]; exact Heap.get?_push_size _ rfl, rfl, _, rfl⟩ fun h' hx' hsz => ?_)))
  have sz4 : (h3.push { cls := .type "tuple", data := .seq #[.ref n, .ref (n + 1), .ref (n + 2)] }).objs.size = n + 4 := by rw [Heap.size_push, s3]
  have hsz' : n + 4 ≤ h'.objs.size := sz4 ▸ hsz
  have k4 : Kp (fun _ => False) h3 h' := ⟨fun b o _ e => hx' b o (by rw [show ({ s with heap := h3.push { cls := .type "tuple", data := .seq #[.ref n, .ref (n + 1), .ref (n + 2)] } } : Shared).heap.objs.size = n + 4 from sz4]; exact Nat.ne_of_lt (Nat.lt_succ_of_lt (s3 ▸ Heap.lt_size e))) (Heap.get?_push_of_some _ e), by rw [s3]; exact Nat.le_of_succ_le hsz'⟩
  have k04 : Kp (fun _ => False) s.heap h' := ⟨fun b o _ e => k4.k b o id (k3.k b o id e), Nat.le_trans k3.sz k4.sz⟩
  have p4 : Pas s { s with heap := h' } := .of_heap0 k04
  have fx : ∀ j : Nat, n ≤ j → (∀ y ∈ σ, ¬ y.2.owns j) ∧ (∀ c ∈ F.env.cells, c.2 ≠ j) ∧ ¬ Wo j := fun j hj => fresh_own f (hn ▸ hj)
  have f₄ : Fm C (fun b => (Wo b ∨ b = n + 1) ∨ b = n) F σ h' := f.wide k04 (fun b q => by
      rcases q with (q | q) | q
      · exact .inl q
      · exact .inr (hn ▸ q ▸ Nat.le_succ _)
      · exact .inr (hn ▸ q ▸ Nat.le_refl _)) fun b q => by
      rcases q with (q | q) | q
      · exact Nat.lt_of_lt_of_le (f.bnd b q) k04.sz
      · rw [q]; exact Nat.lt_of_lt_of_le (by omega : n + 1 < n + 4) hsz'
      · rw [q]; exact Nat.lt_of_lt_of_le (by omega : n < n + 4) hsz'
  refine wpAny_assignInOrder_more (wpAny_assign_Name ?_)
  refine store_lst (Wo := fun b => Wo b ∨ b = n + 1) (vs := #[]) (xs := []) (s := { s with heap := h' }) f₄ (fun _ q => .inl q) (.inr rfl) (fun q => q.elim (fx n (Nat.le_refl _)).2.2 fun z => Nat.succ_ne_self n z.symm) (none_h0 f (Nat.le_of_eq hn.symm)) hx (L1.at fun o e => k4.k _ o id e) .nil (fx n (Nat.le_refl _)).1 (fx n (Nat.le_refl _)).2.1 fun s₅ f₅ st₅ => ?_
  refine wpAny_assignInOrder_more (wpAny_assign_Name ?_)
  have nown : ∀ j : Nat, n ≤ j → ¬ own F σ j := fun j hj q => Nat.lt_irrefl _ (Nat.lt_of_lt_of_le (f.wbnd j (.inr q)) (hn ▸ hj))
  have hno2 : ∀ y ∈ put σ x (.lst n []), ¬ y.2.owns (n + 1) := fun y hy o => by
    obtain ⟨y, b⟩ := y
    rcases mem_put f.keys hy with ⟨_, e⟩ | ⟨_, hz'⟩
    · subst e; exact Nat.succ_ne_self n (show n + 1 = n from o)
    · exact (fx (n + 1) (Nat.le_succ _)).1 _ hz' o
  refine store_lst (Wo := Wo) (vs := #[]) (xs := []) f₅ (fun _ q => .inl q) (.inr rfl) (fx (n + 1) (Nat.le_succ _)).2.2 (none_h0 f (hn ▸ Nat.le_succ _)) hy ((L2.at fun o e => k4.k _ o id e).at fun o e => st₅.keep.k _ o (nown _ (Nat.le_succ _)) e) .nil hno2 (fx (n + 1) (Nat.le_succ _)).2.1 fun s₆ f₆ st₆ => ?_
  refine wpAny_assignInOrder_more (wpAny_assign_Name ?_)
  have own1 : ∀ b, own F (put σ x (.lst n [])) b → own F σ b ∨ n ≤ b := fun b q => (own_put f.keys q).imp id fun z => Nat.le_of_eq (show b = n from z).symm
  have own2 : ∀ b, own F (put (put σ x (.lst n [])) y (.lst (n + 1) [])) b → own F σ b ∨ n ≤ b := fun b q => (own_put f₅.keys q).elim (own1 b) fun z => .inr ((show b = n + 1 from z) ▸ Nat.le_succ _)
  have own2' : ¬ Wx Wo F (put (put σ x (.lst n [])) y (.lst (n + 1) [])) (n + 2) := fun q => by
    rcases q with q | q
    · exact (fx (n + 2) (by omega)).2.2 q
    · rcases own_put f₅.keys q with q | q
      · rcases own_put f.keys q with q | q
        · exact nown (n + 2) (by omega) q
        · have : n + 2 = n := q; omega
      · have : n + 2 = n + 1 := q; omega
  have own1' : ¬ own F (put σ x (.lst n [])) (n + 2) := fun q => by
    rcases own_put f.keys q with q | q
    · exact nown (n + 2) (by omega) q
    · have : n + 2 = n := q; omega
  have st46 : Stp (own F σ) (fun _ => False) s s₆ := Stp.trans (Stp.trans p4.stp st₅ (fun b q => .inl q) fun _ (z : False) => z.elim) st₆ (fun b q => (own1 b q).imp id fun z => hn ▸ z) fun _ (z : False) => z.elim
  refine store_pv f₆ hz (Rep.dictI (kvs := []) (xs := []) (not_sys f (hn ▸ (by omega : n ≤ n + 2))) ((L3.at fun o e => k4.k _ o id e).at fun o e => st₆.keep.k _ o own1' (st₅.keep.k _ o (nown _ (by omega)) e)) own2' rfl .nil) fun s₇ f₇ st₇ => wpAny_assignInOrder_none ?_
  refine .stay ⟨rfl, _, _, rfl⟩ f₇ (Stp.trans st46 st₇ (fun b q => (own2 b q).imp id fun z => hn ▸ z) fun _ (z : False) => z.elim) fun b q => (own2 b (own_pv f₆.keys q)).imp id fun z => hn ▸ z
end
end Mine

end

section
open PySem
set_option linter.unusedVariables false
namespace Mine
open PySem.Builtin PySem.Calls

section
variable {C : Cx} {k : Nat} {F : FE} {σ : Sg} {Wo : Addr → Prop}
theorem own_sub {σ' : Sg} (hs : σ'.Sublist σ) {b : Addr} (q : own F σ' b) : own F σ b := q.imp id fun z => z.imp id fun ⟨p, hp, o⟩ => ⟨p, hs.subset hp, o⟩
/-- names are forgotten -/
theorem Fm.sub {h : Heap} {σ' : Sg} (f : Fm C Wo F σ h) (hs : σ'.Sublist σ) : Fm C Wo F σ' h := by
  obtain ⟨m, hn, hnm⟩ := f.names
  have hW : ∀ b, Wx Wo F σ' b → Wx Wo F σ b := fun b q => q.imp id (own_sub hs)
  refine ⟨f.kind, f.gl, f.bi, f.base, ⟨m, hn, fun y b hy => ?_⟩, f.cells, f.apart, f.cb, f.keys.sublist (hs.map _), fun b q => f.new b (own_sub hs q), f.bnd, fun p q b hp hq => f.one p q b (hs.subset hp) (hs.subset hq), fun p hp => f.off p (hs.subset hp)⟩
  obtain ⟨v, hp, hr⟩ := hnm y b (hs.subset hy)
  exact ⟨v, hp, hr.step .refl (fun b q => .inl (hW b q)) fun _ _ _ e => e⟩
theorem Ends.sub {s s' : Shared} {P P' : Out → Sg → Prop} {fl : Flow} (e : Ends C F σ Wo s P fl s') (h : ∀ o σ', P o σ' → ∃ σ'' : Sg, σ''.Sublist σ' ∧ P' o σ'') : Ends C F σ Wo s P' fl s' := by
  obtain ⟨o, σ', p, q, f', st, ho⟩ := e.ex
  obtain ⟨σ'', hs, p'⟩ := h o σ' p
  exact ⟨o, σ'', p', q, f'.sub hs, st, fun b z => ho b (own_sub hs z)⟩
theorem ExT.sub {ss P P'} (x : ExT C k F σ ss P) (h : ∀ o σ', P o σ' → ∃ σ'' : Sg, σ''.Sublist σ' ∧ P' o σ'') : ExT C k F σ ss P' := .mk fun Wo A E s hA f => wpAny_mono (x.run Wo A E s hA f) (fun _ _ e => e.sub h) fun _ _ e => e
theorem SxT.sub {st P P'} (x : SxT C k F σ st P) (h : ∀ o σ', P o σ' → ∃ σ'' : Sg, σ''.Sublist σ' ∧ P' o σ'') : SxT C k F σ st P' := .mk fun Wo A E s hA f => wpAny_mono (x.run Wo A E s hA f) (fun _ _ e => e.sub h) fun _ _ e => e
/-- names are forgotten ahead -/
theorem ExT.pre {ss P} {σ' : Sg} (hs : σ'.Sublist σ) (x : ExT C k F σ' ss P) : ExT C k F σ ss P := .mk fun Wo A E s hA f => wpAny_mono (x.run Wo A E s hA (f.sub hs)) (fun _ _ e => by
  obtain ⟨o, σ'', p, q, f', st, ho⟩ := e.ex
  exact ⟨o, σ'', p, q, f', st.mono (fun b z => .inl (own_sub hs z)) fun _ (z : False) => z.elim, fun b z => (ho b z).imp (own_sub hs) id⟩) fun _ _ e => e

/-- a loop that neither breaks nor returns, over a list of one's own -/
theorem SxT.forM {α S : Type} {tgt iter : Expr} {body : List Stmt} {pos : Pos} {us : List α} {g : α → PV} {tt : Bool} {P : Out → Sg → Prop} {ok : PV → Prop} {upd : PV → Sg → Sg} (σof : S → Sg) (step : S → α → S) (J : List α → S → Prop) (s0 : S)
    (hi : ItE C k F (σof s0) iter (us.map g) tt true) (htt : tupT tt tgt) (htg : TgU C k F tgt ok upd) (hok : ∀ u ∈ us, ok (g u)) (h0 : J [] s0)
    (hb : ∀ done x rest s, us = done ++ x :: rest → J done s → J (done ++ [x]) (step s x) ∧ ExT C k F (upd (g x) (σof s)) body (fun o σ' => o = .nx ∧ (σof (step s x)).Sublist σ'))
    (hend : P .nx (σof (us.foldl step s0))) (hs : ∀ x, foldedSetIterable iter F.env x = pure x := by intro _; first | kernel_rfl | rfl) : SxT C k F (σof s0) (.For tgt iter body [] pos) P := by
  refine .forN (xs := us.map g) (fun i σ => σ = σof ((us.take i).foldl step s0) ∧ J (us.take i) ((us.take i).foldl step s0)) (fun i => upd (((us.map g)[i]?).getD .none)) hi htt ⟨rfl, h0⟩ (fun i x hx => ?_) (fun i x σ hx hI => ?_) (fun σ hI => ?_) hs
  · rw [hx]
    rw [List.getElem?_map] at hx
    cases hu : us[i]? with
    | none => rw [hu] at hx; cases hx
    | some u =>
      rw [hu] at hx
      cases hx
      exact htg.tg _ (hok u (List.mem_of_getElem? hu))
  · obtain ⟨rfl, hJ⟩ := hI
    rw [hx]
    rw [List.getElem?_map] at hx
    cases hu : us[i]? with
    | none => rw [hu] at hx; cases hx
    | some u =>
      rw [hu] at hx
      cases hx
      have hlt : i < us.length := (List.getElem?_eq_some_iff.mp hu).1
      have hsplit : us = us.take i ++ u :: us.drop (i + 1) := by
        have h1 : us[i] = u := (List.getElem?_eq_some_iff.mp hu).2
        rw [← h1]
        simp
      have htk : us.take (i + 1) = us.take i ++ [u] := by rw [List.take_add_one, hu]; rfl
      obtain ⟨hJ', hx⟩ := hb _ u _ _ hsplit hJ
      refine hx.sub fun o σ' hp => ?_
      obtain ⟨rfl, hs⟩ := hp
      refine ⟨_, hs, ?_⟩
      show _ = σof _ ∧ _
      rw [htk, List.foldl_append]
      exact ⟨rfl, hJ'⟩
  · obtain ⟨rfl, _⟩ := hI
    rw [List.length_map, List.take_length]
    exact hend
end

section
variable {C : Cx} {k : Nat} {F : FE} {σ : Sg}
theorem EvT.cast {e p p'} (h : EvT C k F σ e p) (q : p = p') : EvT C k F σ e p' := q ▸ h
theorem ItE.cast {e xs ys tt sf} (h : ItE C k F σ e xs tt sf) (q : xs = ys) : ItE C k F σ e ys tt sf := q ▸ h
theorem FnT.cast {fa ps p p'} (h : FnT C k fa ps p) (q : p = p') : FnT C k fa ps p' := q ▸ h
theorem ExT.ret1 {e p pos} (h : EvT C k F σ e p) : ExT C k F σ [.Return (some e) pos] (fun o _ => o = .rt p) := .seq (.ret h) fun o σ' q => by obtain ⟨rfl, rfl⟩ := q; rfl
theorem TsT.cast {e b b'} (h : TsT C k F σ e b) (q : b = b') : TsT C k F σ e b' := q ▸ h
theorem filt {α : Type} {us : List α} : us.filter (fun _ => true) = us := List.filter_eq_self.mpr fun _ _ => rfl
variable {K : Type} [DecidableEq K]
theorem EvT.listComp0 {scope : Scope} {pos : Pos} {elt tgt iter : Expr} {α : Type} {us : List α} {g : α → PV} {tt sf : Bool} {ok : PV → Prop} {upd : PV → Sg → Sg} (val : α → PV)
    (hi : ItE C k F σ iter (us.map g) tt sf) (htt : tupT tt tgt) (htg : ∀ L cs, TgU C k (compF scope F.env L cs) tgt ok upd) (hok : ∀ u ∈ us, ok (g u))
    (hel : ∀ L cs, ∀ u ∈ us, EvT C k (compF scope F.env L cs) (upd (g u) (capd scope σ)) elt (val u)) (hsz : us.length ≤ sizeLine)
    (hcap : capOk scope F.env σ = true) (hk : scope.kind = .function := by first | kernel_rfl | rfl) (hs : ∀ x, foldedSetIterable iter F.env x = pure x := by intro _; first | kernel_rfl | rfl) :
    EvT C k F σ (.ListComp elt [⟨tgt, iter, [], 0⟩] scope pos) (.list (us.map val)) := by
  have := EvT.listComp (pos := pos) (fun _ => true) val hi htt htg hok (fun L cs u hu => .nil) (fun L cs u hu _ => hel L cs u hu) hsz hcap hk hs
  rwa [filt] at this
theorem SxT.listComp0 {scope : Scope} {pos : Pos} {elt tgt iter : Expr} {α : Type} {us : List α} {g : α → PV} {tt sf : Bool} {ok : PV → Prop} {upd : PV → Sg → Sg} {y py spos} (val : α → PV)
    (hi : ItE C k F σ iter (us.map g) tt sf) (htt : tupT tt tgt) (htg : ∀ L cs, TgU C k (compF scope F.env L cs) tgt ok upd) (hok : ∀ u ∈ us, ok (g u))
    (hel : ∀ L cs, ∀ u ∈ us, EvT C k (compF scope F.env L cs) (upd (g u) (capd scope σ)) elt (val u)) (hsz : us.length ≤ sizeLine)
    (hcap : capOk scope F.env σ = true) (hy : storable F y = true) (hsw : swapsWith (.ListComp elt [⟨tgt, iter, [], 0⟩] scope pos) (some (.Name y py)) spos.line F.env = pure true := by first | kernel_rfl | rfl)
    (hk : scope.kind = .function := by first | kernel_rfl | rfl) (hs : ∀ x, foldedSetIterable iter F.env x = pure x := by intro _; first | kernel_rfl | rfl) :
    SxT C k F σ (.Assign [.Name y py] (.ListComp elt [⟨tgt, iter, [], 0⟩] scope pos) spos) (one (put σ y (.pv (.list (us.map val))))) := by
  have := SxT.listComp (fun _ => true) val hi htt htg hok (fun L cs u hu => .nil) (fun L cs u hu _ => hel L cs u hu) hsz hcap hy hsw hk hs
  rwa [filt] at this
theorem EvT.dictComp0 (dk : DK C K) {scope : Scope} {pos : Pos} {kx vx tgt iter : Expr} {α : Type} {us : List α} {g : α → PV} {tt sf : Bool} {ok : PV → Prop} {upd : PV → Sg → Sg} (key : α → K) (val : α → PV)
    (hi : ItE C k F σ iter (us.map g) tt sf) (htt : tupT tt tgt) (htg : ∀ L cs, TgU C k (compF scope F.env L cs) tgt ok upd) (hok : ∀ u ∈ us, ok (g u))
    (hkey : ∀ L cs, ∀ u ∈ us, EvT C k (compF scope F.env L cs) (upd (g u) (capd scope σ)) kx (dk.key (key u)))
    (hval : ∀ L cs, ∀ u ∈ us, EvT C k (compF scope F.env L cs) (upd (g u) (capd scope σ)) vx (val u)) (hsz : us.length ≤ sizeLine)
    (hcap : capOk scope F.env σ = true) (hk : scope.kind = .function := by first | kernel_rfl | rfl) (hs : ∀ x, foldedSetIterable iter F.env x = pure x := by intro _; first | kernel_rfl | rfl) :
    EvT C k F σ (.DictComp kx vx [⟨tgt, iter, [], 0⟩] scope pos) (dk.dic (dfill key val us)) := by
  have := EvT.dictComp dk (pos := pos) (fun _ => true) key val hi htt htg hok (fun L cs u hu => .nil) (fun L cs u hu _ => hkey L cs u hu) (fun L cs u hu _ => hval L cs u hu) hsz hcap hk hs
  rwa [filt] at this
theorem SxT.dictComp0 (dk : DK C K) {scope : Scope} {pos : Pos} {kx vx tgt iter : Expr} {α : Type} {us : List α} {g : α → PV} {tt sf : Bool} {ok : PV → Prop} {upd : PV → Sg → Sg} {y py spos} (key : α → K) (val : α → PV)
    (hi : ItE C k F σ iter (us.map g) tt sf) (htt : tupT tt tgt) (htg : ∀ L cs, TgU C k (compF scope F.env L cs) tgt ok upd) (hok : ∀ u ∈ us, ok (g u))
    (hkey : ∀ L cs, ∀ u ∈ us, EvT C k (compF scope F.env L cs) (upd (g u) (capd scope σ)) kx (dk.key (key u)))
    (hval : ∀ L cs, ∀ u ∈ us, EvT C k (compF scope F.env L cs) (upd (g u) (capd scope σ)) vx (val u)) (hsz : us.length ≤ sizeLine)
    (hcap : capOk scope F.env σ = true) (hy : storable F y = true) (hsw : swapsWith (.DictComp kx vx [⟨tgt, iter, [], 0⟩] scope pos) (some (.Name y py)) spos.line F.env = pure true := by first | kernel_rfl | rfl)
    (hk : scope.kind = .function := by first | kernel_rfl | rfl) (hs : ∀ x, foldedSetIterable iter F.env x = pure x := by intro _; first | kernel_rfl | rfl) :
    SxT C k F σ (.Assign [.Name y py] (.DictComp kx vx [⟨tgt, iter, [], 0⟩] scope pos) spos) (one (put σ y (.pv (dk.dic (dfill key val us))))) := by
  have := SxT.dictComp dk (fun _ => true) key val hi htt htg hok (fun L cs u hu => .nil) (fun L cs u hu _ => hkey L cs u hu) (fun L cs u hu _ => hval L cs u hu) hsz hcap hy hsw hk hs
  rwa [filt] at this
theorem szl {n : Nat} (h : n ≤ 16777216) : n ≤ sizeLine := by simpa [sizeLine] using h
theorem tN {x : Str} {pos : Pos} : tupT false (.Name x pos) := ⟨fun q => (by cases q), .inl ⟨_, _, rfl⟩⟩
theorem tP {b : Bool} {xs : List Expr} {n : Nat} {pos : Pos} : tupT b (.Tuple xs n pos) := ⟨fun _ => ⟨_, _, _, rfl⟩, .inr ⟨_, _, _, rfl⟩⟩
end

/-! tuple(x) of a list, with the heap's size told -/
section
variable {prog : Program} {w : World} {A : Around} {E : Value → Shared → Prop} {s : Shared}
open AutoSeq1 (wpAny_loadPart')
set_option maxRecDepth 100000
theorem collect_sized {Q : List Value → Shared → Prop} (it : Addr) {o : Obj} {items : Array Value} {n : Nat} (ho : s.heap.get? it = some o) (hc : o.cls = .type "list") (hd : o.data = .seq items n) (hsz : items.size ≤ sizeLine)
    (hQ : ∀ h', (∀ b o', s.heap.get? b = some o' → h'.get? b = some o') → s.heap.objs.size ≤ h'.objs.size → Q items.toList { s with heap := h' }) : wpAny (model prog w) A (collect (.ref it)) Q E s :=
  with_size (wpAny_collect_seq it (.inl rfl) ho hc hd (fun h' hk hz => hQ h' hk hz) hsz)
theorem tuple_new_sized (l : Addr) (o : Obj) (items : Array Value) (n : Nat) (hc : o.cls = .type "list") (hd : o.data = .seq items n) (hsz : items.size ≤ sizeLine) :
    Meets (Builtin.«tuple.__new__» ⟨[.type "tuple", .ref l], []⟩)
      (fun _ R s => s.heap.get? l = some o ∧ ∀ h' : Heap, (∀ b o', s.heap.get? b = some o' → h'.get? b = some o') → s.heap.objs.size ≤ h'.objs.size → R (.ok (.ret (.ref h'.objs.size))) { s with heap := h'.push { cls := .type "tuple", data := .seq items } }) :=
  .of_wp fun prog w A R s h => by
    obtain ⟨ho, h⟩ := h
    have q1 := sub_tuple_self
    have q2 := init_tuple_lookup
    have q3 := madeHere_tuple
    have q4 : s.TypeIs (.ref l) "list" := ⟨o, ho, hc⟩
    wp_walk using wpAny_loadPart' ho, wpAny_typeOf q4, collect_sized l ho hc hd hsz
    intro h' hk hz
    have gv := h h' hk hz
    rw [Array.toArray_toList]
    wp_walk
    exact ⟨_, rfl, gv⟩
theorem call_tuple_sized {l : Addr} {items : Array Value} {Q : Value → Shared → Prop} (hl : s.heap.IsList l items)
    (h : ∀ h' : Heap, (∀ b o', s.heap.get? b = some o' → h'.get? b = some o') → s.heap.objs.size ≤ h'.objs.size → Q (.ref h'.objs.size) { s with heap := h'.push { cls := .type "tuple", data := .seq items } })
    (hsz : items.size ≤ sizeLine) : wpAny (model prog w) A (call (.type "tuple") [.ref l]) Q E s := by
  obtain ⟨o, ho, hc, n, hd⟩ := hl
  exact callType_new F.called_tuple (by decide) (F.typeCall_tuple_1 _) (F.newCall_tuple_1 _) (fun obj => F.args_object_init_2 obj _) F.entry_tuple_new
    (tuple_new_sized l o items n hc hd hsz) ⟨ho, fun h' hk hs => ⟨⟨_, Heap.get?_push_size _ rfl, rfl⟩, h h' hk hs⟩⟩
end

/-! owned lists -/
section
variable {C : Cx} {k : Nat} {F : FE} {σ : Sg}
theorem addFacts {A : Around} {E : Value → Shared → Prop} {s : Shared} {a b : Addr} {vs ws : Array Value} {Q : Value → Shared → Prop} (hl : s.heap.PlainList a vs) (hl2 : s.heap.PlainList b ws) (hsz : vs.size + ws.size ≤ sizeLine)
    (h : Q (.ref s.heap.objs.size) { s with heap := s.heap.push { cls := .type "list", data := .seq (vs ++ ws) } }) : wpAny C.M A (binaryOp .Add (.ref a) (.ref b)) Q E s := by
  obtain ⟨n, ho⟩ := hl
  obtain ⟨n2, ho2⟩ := hl2
  exact concat_meets ⟨_, ho, rfl⟩ ⟨_, ho2, rfl⟩ noFill_list_add seq_list_add PySem.F.slot_list_add PySem.F.entry_list_add (PySem.F.args_list_add_2 _ _)
        (PyProof.Rows.list_addW a b vs ws n n2 none none #[] #[] hsz) ⟨ho, ho2, h⟩
theorem RepL.flat {prog : Program} {w : World} {h h' : Heap} {X X' : Addr → Prop} : ∀ {vs : List Value} {ps : List PV}, RepL prog w h X vs ps → ps.all PV.flat = true → RepL prog w h' X' vs ps
  | _, _, .nil, _ => .nil
  | _, _, .cons r rs, hp => by
    rw [List.all_cons, Bool.and_eq_true] at hp
    exact .cons (r.flat hp.1) (RepL.flat rs hp.2)
/-- `x = x + e` on an owned list -/
theorem SxT.addO {x px px2 e bp pos a xs ys} (hb : σ.lookup x = some (.lst a xs)) (hx : F.env.kindOf x = some .local) (he : EvT C k F (put σ x (.pv (.list xs))) e (.list ys)) (hsz : xs.length + ys.length ≤ sizeLine) (hf : ys.all PV.flat = true)
    (hd : (x == ("__debug__" : Str)) = false := by decide +kernel) (hc : (x == ("__classdict__" : Str)) = false := by decide +kernel)
    (hs : swapsWith (.BinOp (.Name x px2) .Add e bp) (some (.Name x px)) pos.line F.env = pure false := by first | kernel_rfl | rfl) :
    SxT C k F σ (.Assign [.Name x px] (.BinOp (.Name x px2) .Add e bp) pos) (fun o σ' => o = .nx ∧ ∃ a', σ' = put σ x (.lst a' (xs ++ ys))) := .mk fun Wo A E s hA f => by
  refine wpAny_Assign_Name (wpAny_BinOp (wpAny_Name (loadName_bd hb f hc fun v hv => ?_) hd)) hs
  cases hv with
  | lst hl r =>
    rename_i vs
    refine he.run Wo A E s _ hA (f.lend (mem_of_lookup hb)) fun v s₂ hv p₂ => ?_
    cases hv with
    | list hl2 hn2 r2 =>
      rename_i b ws
      have e1 := r.length
      have e2 := r2.length
      rw [Array.length_toList] at e1 e2
      refine addFacts (hl.at fun o e => p₂.keep.k _ o id e) hl2 (by rw [e1, e2]; exact hsz) ?_
      have f₂ := f.pas p₂
      have fo := fresh_own f₂ (Nat.le_refl _)
      have sz : (s₂.heap.push { cls := .type "list", data := .seq (vs ++ ws) }).objs.size = s₂.heap.objs.size + 1 := Heap.size_push ..
      have f₃ : Fm C (fun b => Wo b ∨ b = s₂.heap.objs.size) F σ (s₂.heap.push { cls := .type "list", data := .seq (vs ++ ws) }) := f₂.wide (.push _ _ _)
        (fun b q => q.imp id fun z => Nat.le_of_eq z.symm) fun b q => by
          rw [sz]
          rcases q with q | q
          · exact Nat.lt_succ_of_lt (f₂.bnd b q)
          · rw [q]; exact Nat.lt_succ_self _
      have hrep : RpL C (s₂.heap.push { cls := .type "list", data := .seq (vs ++ ws) }) (Wx (fun b => Wo b ∨ b = s₂.heap.objs.size) F σ) (vs ++ ws).toList (xs ++ ys) := by
        rw [Array.toList_append]
        have st : ∀ b, Wx (fun b => Wo b ∨ b = s₂.heap.objs.size) F σ b → Wx Wo F σ b ∨ s₂.heap.objs.size ≤ b := fun b q => by
          rcases q with (q | q) | q
          · exact .inl (.inl q)
          · exact .inr (Nat.le_of_eq q.symm)
          · exact .inl (.inr q)
        refine RepL.append ((r.ext p₂.keep).step (.any (.push _ _ _)) st) ?_
        exact r2.flat hf
      refine store_lst (Wo := Wo) (s := { s₂ with heap := s₂.heap.push { cls := .type "list", data := .seq (vs ++ ws) } }) f₃ (fun _ q => .inl q) (.inr rfl) fo.2.2 (none_h0 f₂ (Nat.le_refl _)) hx ⟨_, Heap.get?_push_size _ rfl⟩ hrep fo.1 fo.2.1 fun s' f' st => ?_
      refine .stay ⟨rfl, _, rfl⟩ f' (Stp.trans (Pas.trans p₂ (.of_heap0 (.push _ _ _))).stp st (fun _ q => .inl q) fun _ (z : False) => z.elim) fun b q => (own_put f.keys q).imp id fun z => (show b = s₂.heap.objs.size from z) ▸ p₂.keep.sz

theorem mapSeq_set_plain (its : Array Value) (n : Nat) (j : Nat) (x : Value) :
    ∃ n', Obj.mapSeq (·.setIfInBounds j x) { cls := .type "list", data := .seq its n } = { cls := .type "list", data := .seq (its.setIfInBounds j x) n' } := ⟨_, by simp only [Obj.mapSeq]; rfl⟩
theorem setItem_plain {A : Around} {E : Value → Shared → Prop} {s : Shared} {l : Addr} {items : Array Value} {k : Int} {t : Tok} {v : Value} {Q : Unit → Shared → Prop} (hl : s.heap.PlainList l items)
    (h0 : 0 ≤ k) (hfit : k < 2 ^ 63) (hn : k < items.size)
    (hQ : ∀ h', h'.PlainList l (items.setIfInBounds k.toNat v) → Heap.SameBut l s.heap h' → Q () { s with heap := h' }) :
    wpAny C.M A (setItem (.ref l) (.int k t) v) Q E s := by
  obtain ⟨ne, ho⟩ := hl
  obtain ⟨n', hm⟩ := mapSeq_set_plain items ne k.toNat v
  exact PySem.W.ki_setAt ho h0 hfit hn (hQ _ ⟨n', by rw [Heap.get?_update_self _ ho (by rw [hm]; rfl), hm]⟩ (.update ..))
theorem RepL.set {prog : Program} {w : World} {h : Heap} {X : Addr → Prop} {v : Value} {p : PV} (r : Rep prog w h X v p) : ∀ {vs : List Value} {ps : List PV} {j : Nat}, RepL prog w h X vs ps → RepL prog w h X (vs.set j v) (ps.set j p)
  | _, _, _, .nil => .nil
  | _, _, 0, .cons _ rs => .cons r rs
  | _, _, j + 1, .cons q rs => .cons q (RepL.set r rs)
/-- `x[i] = e` on an owned list -/
theorem SxT.setItemO {x px e i spos pos a xs p} {j : Nat} (hb : σ.lookup x = some (.lst a xs)) (hx : F.env.kindOf x = some .local) (he : EvT C k F (put σ x (.pv (.list xs))) e p) (hf : p.flat = true) (hi : EvT C k F (put σ x (.pv (.list xs))) i (.int (j : Int))) (hj : j < xs.length) (hz : (j : Int) < 2 ^ 63)
    (hd : (x == ("__debug__" : Str)) = false := by decide +kernel) (hc : (x == ("__classdict__" : Str)) = false := by decide +kernel)
    (hs : swapsWith e (some (.Subscript (.Name x px) i spos)) pos.line F.env = pure false := by first | kernel_rfl | rfl) :
    SxT C k F σ (.Assign [.Subscript (.Name x px) i spos] e pos) (one (put σ x (.lst a (xs.set j p)))) := .mk fun Wo A E s hA f => by
  refine wpAny_Assign_Subscript (he.run Wo A E s _ hA (f.lend (mem_of_lookup hb)) fun v s₁ hv p₁ => wpAny_Name (loadName_bd hb (f.pas p₁) hc fun o ho => hi.run Wo A E s₁ _ hA ((f.pas p₁).lend (mem_of_lookup hb)) fun iv s₂ hiv p₂ => ?_) hd) hs
  have f₂ := (f.pas p₁).pas p₂
  cases ho with
  | lst hl r =>
    rename_i vs
    cases hiv with
    | int _ t =>
    have er := r.length
    rw [Array.length_toList] at er
    refine setItem_plain (hl.at fun o e => p₂.keep.k _ o id e) (by omega) hz (by omega) fun h' hl' hs' => ?_
    refine .stay ⟨rfl, rfl⟩ (f₂.setLst hx (mem_of_lookup hb) hs' hl' ?_) ((p₁.trans p₂).stp.trans (.of_heap0 (oa := own F σ) (.same hs' (.inr (.inr ⟨_, mem_of_lookup hb, rfl⟩)))) (fun _ q => .inl q) fun _ (z : False) => z.elim) fun b q => ?_
    · have e3 : (vs.setIfInBounds (j : Int).toNat v).toList = vs.toList.set j v := by simp
      rw [e3]
      exact RepL.set (hv.flat hf) (r.ext p₂.keep)
    · exact .inl ((own_put f.keys q).elim id fun z => .inr (.inr ⟨_, mem_of_lookup hb, z⟩))
/-- `tuple(x)` of an owned list -/
theorem EvT.tupleO {x px tn tp pos a xs} (hb : σ.lookup x = some (.lst a xs)) (hf : EvV C k F σ (.Name tn tp) (.type "tuple")) (hz : xs.length ≤ sizeLine)
    (hd : (x == ("__debug__" : Str)) = false := by decide +kernel) (hc : (x == ("__classdict__" : Str)) = false := by decide +kernel) :
    EvT C k F σ (.Call (.Name tn tp) [.Name x px] [] pos) (.tup xs) := .mk fun Wo A E s Q hA f h => by
  refine wpAny_Call_ofName (hf.run Wo A E s _ hA f fun s₁ p₁ => ?_)
  refine callWith_type (noStar rfl) ?_
  rw [starEach_plain rfl]
  refine evalArgs_plain (spliced_cons (wpAny_Name (loadName_bd hb (f.pas p₁) hc fun v hv => spliced_nil ?_) hd))
  cases hv with
  | lst hl r =>
    rename_i vs
    have er := r.length
    rw [Array.length_toList] at er
    refine call_tuple_sized hl.isList (fun h' hk hsz => ?_) (by rw [er]; exact hz)
    have hk' : Kp (fun _ => False) s₁.heap (h'.push { cls := .type "tuple", data := .seq vs }) := ⟨fun b o _ e => Heap.get?_push_of_some _ (hk b o e), by rw [Heap.size_push]; exact Nat.le_succ_of_le hsz⟩
    refine h _ _ (.tup ⟨_, Heap.get?_push_size _ rfl, rfl, _, rfl⟩ (fun q => Nat.lt_irrefl _ (Nat.lt_of_lt_of_le ((f.pas p₁).wbnd _ q) hsz)) (r.ext hk')) (p₁.trans (.of_heap0 hk'))
theorem BinT.mulL {xs : List PV} {n : Int} (hz : xs.length * n.toNat ≤ 2 ^ 24) (hlo : -(2 ^ 63 : Int) ≤ n) (hhi : n < 2 ^ 63) : BinT C k .Mult (.list xs) (.int n) (.list (List.replicate n.toNat xs).flatten) := fun A E s X u v Q hA hX hu hv h => by
  cases hv with
  | int _ t =>
  cases hu with
  | list hl hn r =>
    rename_i a vs
    obtain ⟨m, ho⟩ := hl
    have er := r.length
    rw [Array.length_toList] at er
    refine wpAny_binaryOp_repeat_ref (T := "list") (U := "int") (by decide) ⟨_, ho, rfl⟩ (fun s' => typeIs_int s' n t) noFill_list_mul F.fills_int_mul F.slot_int_rmul repeat_list F.slot_int_index.lookup
      (call_meets F.slot_int_rmul (typeIs_int s n t) F.entry_int_rmul (F.args_int_rmul_2 _ _) (lm_int_rmul_list_any n t a vs m none #[])
        ⟨ho, rfl, ⟨_, ho, rfl⟩, call_meets F.slot_list_mul ⟨_, ho, rfl⟩ F.entry_list_mul (F.args_list_mul_2 _ _)
          (lm_list_mul_any a vs m none #[] n t (by simp [Builtin.List.listFitsIndex]; omega) (by rw [er]; omega) (by rw [er]; simp [Builtin.List.listTooLong, sizeLine]; omega))
          ⟨ho, ?_⟩⟩)
    have e : List.foldl (fun x1 x2 => x1 ++ x2) #[] (List.replicate (if vs.isEmpty = true then 0 else n.toNat) vs) = (List.replicate n.toNat vs.toList).flatten.toArray := by
      have := PyProof.Rows.listMul_foldl_if vs n.toNat
      simpa using this
    rw [e]
    have hrep : ∀ j : Nat, RpL C s.heap X (List.replicate j vs.toList).flatten (List.replicate j xs).flatten := fun j => by
      induction j with
      | zero => exact .nil
      | succ j ih => rw [List.replicate_succ, List.flatten_cons, List.replicate_succ, List.flatten_cons]; exact r.append ih
    exact h _ _ (.newList hX (hrep _)) .push
theorem SxT.assign3I {x px y py z pz kk i cp pos} (hx : storable F x = true) (hy : storable F y = true) (hz : storable F z = true)
    (hs : swapsWithSole [.Name x px, .Name y py, .Name z pz] (.Constant (.int i) kk cp) pos.line F.env = pure false := by first | kernel_rfl | rfl) (hw : swappedStores [.Name x px, .Name y py, .Name z pz] (.Constant (.int i) kk cp) F.env = pure none := by first | kernel_rfl | rfl) :
    SxT C k F σ (.Assign [.Name x px, .Name y py, .Name z pz] (.Constant (.int i) kk cp) pos) (one (put (put (put σ x (.pv (.int i))) y (.pv (.int i))) z (.pv (.int i)))) := .mk fun Wo A E s hA f => by
  refine wpAny_Assign_stores (wpAny_Constant_int ?_) hs hw
  have f₁ : Fm C Wo F σ ({ s with toks := s.toks + 1 } : Shared).heap := f
  show wpAny _ A (holding [Value.int i s.toks] (PySem.assign (.Name x px) F.env (.int i s.toks)) >>= fun _ => (holding [Value.int i s.toks] (PySem.assign (.Name y py) F.env (.int i s.toks)) >>= fun _ => PySem.assign (.Name z pz) F.env (.int i s.toks))) _ _ _
  refine wpAny_bind (wpAny_holding (wpAny_assign_Name (store_pv f₁ hx (.int i _) fun s₂ f₂ st₂ => ?_)))
  refine wpAny_bind (wpAny_holding (wpAny_assign_Name (store_pv f₂ hy (.int i _) fun s₃ f₃ st₃ => ?_)))
  refine wpAny_assign_Name (store_pv f₃ hz (.int i _) fun s₄ f₄ st₄ => ?_)
  refine .stay ⟨rfl, rfl⟩ f₄ (Stp.trans (Stp.trans (Stp.trans .tok st₂ (fun _ q => .inl q) fun _ (z : False) => z.elim) st₃ (fun b q => .inl (own_pv f.keys q)) fun _ (z : False) => z.elim) st₄ (fun b q => .inl (own_pv f.keys (own_pv f₂.keys q))) fun _ (z : False) => z.elim)
    fun b q => .inl (own_pv f.keys (own_pv f₂.keys (own_pv f₃.keys q)))
end
end Mine

end

section
open PySem
set_option linter.unusedVariables false
namespace Mine
open PySem.Builtin PySem.Calls

section
variable {prog : Program} {w : World} {A : Around} {E : Value → Shared → Prop} {s : Shared}
/-- a def's generator is asked for its next value -/
theorem pyNext_genR {a : Addr} {g n : Nat} {gs : GenState} {P : Nat → Shared → Shared → Prop} {Y : Protocol} {Q : Option Value → Shared → Prop} (hh : A.handled = none)
    (hl : s.heap.NoLimit) (hroom : A.depth < recursionLimit)
    (hg : s.heap.IsGen a g) (hgs : s.gens[g]? = some gs)
    (hgo : gs.Goes (model prog w) A.in1 (fun n s₀ r s₁ => r = .ok (.ret .none) ∧ P n s₀ s₁) Y n (.send .none) (s.setGen g .running))
    (hY : ∀ v s₁ gs', gs'.bare = true → Y (n - 1) (s.setGen g .running) v s₁ (fun r' s'' => match n with
        | 0 => False
        | m + 1 => gs'.Goes (model prog w) A.in1 (fun n s₀ r s₁ => r = .ok (.ret .none) ∧ P n s₀ s₁) Y m r' s'') → Q (some v) (s₁.setGen g gs'))
    (hP : ∀ s₁, P n (s.setGen g .running) s₁ → ∀ h', Kp (fun _ => False) s₁.heap h' → Q none { s₁.setGen g .finished with heap := h' }) :
    wpAny (model prog w) A (pyNext (.ref a)) Q E s := by
  have q1 : firstArgMember (.type "StopIteration") [] = (pure Value.none : Sem Value) := by first | rfl | (simp only [firstArgMember]; rfl)
  have q2 : A.in1.handled = none := hh
  unfold pyNext
  refine wpAny_bind (wpAny_attempt (wpAny_callSpecial?_slot hg.typeIs slot_gen_next (wpAny_call_entry slot_gen_next hg.typeIs entry_gen_next ?_ rfl)))
  show wpAny _ A.in1 (Builtin.Generator.genWake (.ref a) (.send .none)) _ _ s
  unfold Builtin.Generator.genWake
  refine wpAny_bind (wpAny_holding (wpAny_genNumber hg (wpAny_bind (wpAny_genState hgs ?_))))
  match gs, hgo with
  | .fresh c, hgo | .suspended k l c p fs cl, hgo =>
    refine wpAny_bind (wpAny_roomToWake hl hroom ?_)
    refine wpAny_resumeQ hgs hgo (fun x s₁ hx => ?_) fun v s₁ gs' hb hv => wpAny_pure ⟨v, rfl, wpAny_pure (hY v s₁ gs' hb hv)⟩
    obtain ⟨rfl, hp⟩ := hx
    have up : ∀ (x y : Obj), Kp (fun _ => False) s₁.heap ((s₁.heap.push x).push y) := fun x y => ⟨fun b o _ hb => Heap.get?_push_of_some _ (Heap.get?_push_of_some _ hb), by rw [Heap.size_push, Heap.size_push]; omega⟩
    wp_walk using wpAny_newTuple (hsz := Nat.zero_le _), wpAny_raiseNew_none q2
    exact wpAny_of_eq (a := true) isSubtype_stop (wpAny_pure (hP s₁ hp _ (up _ _)))
end

/-! a generator of a def that has neither cells nor anything but plain values -/
/-- what others leave of it -/
structure Al (C : Cx) (ws : List Addr) (s s' : Shared) : Prop where
  own : ∀ b ∈ ws, ∀ o, s.heap.get? b = some o → s'.heap.get? b = some o
  base : ∀ b o, C.h₀.get? b = some o → s'.heap.get? b = some o
  sz : s.heap.objs.size ≤ s'.heap.objs.size
noncomputable def gR (ws : List Addr) : Nat → Shared → Shared → Prop := fun n s₀ s₁ => n = 0 ∧ Stp (fun b => b ∈ ws) (fun _ => False) s₀ s₁
noncomputable def gY (C : Cx) (ws : List Addr) (outs : List PV) : Protocol := fun n s₀ v s₁ kap => ∃ y, outs[outs.length - 1 - n]? = some y ∧ (∀ X : Addr → Prop, (∀ b, X b → b < s₀.heap.objs.size ∨ b ∈ ws) → Rp C s₁.heap X v y) ∧ Stp (fun b => b ∈ ws) (fun _ => False) s₀ s₁ ∧
  (∀ b ∈ ws, b < s₁.heap.objs.size) ∧ (∀ b o, C.h₀.get? b = some o → s₁.heap.get? b = some o) ∧ ∀ s₂, Al C ws s₁ s₂ → kap (.send .none) s₂
noncomputable abbrev gGoes (C : Cx) (A : Around) (ws : List Addr) (outs : List PV) (gs : GenState) (n : Nat) (s : Shared) : Prop :=
  gs.Goes C.M A.in1 (fun n s₀ r s₁ => r = .ok (.ret .none) ∧ gR ws n s₀ s₁) (gY C ws outs) n (.send .none) s

/-- where a generator stands -/
structure GSt (C : Cx) (A : Around) (a L : Addr) (g : Nat) (outs : List PV) (wr fp X : Addr → Prop) (i : Nat) (s : Shared) : Prop where
  ex : ∃ ws gs, wr = (fun b => b ∈ ws) ∧ fp = (fun b => b ∈ a :: ws) ∧ s.heap.IsGen a g ∧ s.gens[g]? = some gs ∧ a ∉ ws ∧
    ((i = 0 ∧ ws = [L] ∧ L < s.heap.objs.size ∧ ∀ s'', Al C ws s s'' → gGoes C A [L, s''.heap.objs.size, s''.heap.objs.size + 1] outs gs outs.length s'') ∨
     (∀ s'', Al C ws s s'' → gGoes C A ws outs gs (outs.length - i) s''))

theorem setGen_get {s : Shared} {g : Nat} {x : GenState} (h : g < s.gens.size) : (s.setGen g x).gens[g]? = some x := by simp [Shared.setGen, h]
theorem setGen_other {s : Shared} {g k : Nat} {x : GenState} (h : k ≠ g) : (s.setGen g x).gens[k]? = s.gens[k]? := by simp [Shared.setGen, Ne.symm h]

/-- a step of a generator as seen from without -/
theorem gen_stp {s s₁ : Shared} {g : Nat} {ws : List Addr} {wr : Addr → Prop} {x : GenState} {h' : Heap} (hg : g < s.gens.size) (st : Stp (fun b => b ∈ ws) (fun _ => False) (s.setGen g .running) s₁) (hx : x.bare = true) (hw : ∀ b ∈ ws, wr b ∨ s.heap.objs.size ≤ b)
    (hk : Kp (fun _ => False) s₁.heap h') : Stp wr (fun i => i = g) s { s₁.setGen g x with heap := h' } where
  os := st.os
  keep := ⟨fun b o hb e => hk.k b o id (st.keep.k b o (fun z => (hw b z).elim hb fun y => by rw [none_of_le y] at e; cases e) e), Nat.le_trans st.keep.sz hk.sz⟩
  gsz := by
    have := st.gsz
    simp [Shared.setGen] at this ⊢
    exact this
  gens := fun i hi hne => by
    have h1 : i < (s.setGen g .running).gens.size := by simpa [Shared.setGen] using hi
    show (s₁.setGen g x).gens[i]? = _
    rw [setGen_other hne, st.gens i h1 (fun z => z), setGen_other hne]
  bare := fun y hy => by
    have hy : y ∈ (s₁.setGen g x).gens := hy
    obtain ⟨i, hi, rfl⟩ := Array.mem_iff_getElem.mp hy
    have e1 : (s₁.setGen g x).gens[i]? = some (s₁.setGen g x).gens[i] := Array.getElem?_eq_getElem hi
    by_cases h : i = g
    · subst h
      rw [setGen_get (by simpa [Shared.setGen] using hi)] at e1
      exact .inr (by rw [← Option.some.inj e1]; exact hx)
    · rw [setGen_other h] at e1
      rcases st.bare _ (Array.mem_of_getElem? e1) with z | z
      · obtain ⟨j, hj, ej⟩ := Array.mem_iff_getElem.mp z
        have e2 : (s.setGen g .running).gens[j]? = some (s.setGen g .running).gens[j] := Array.getElem?_eq_getElem hj
        by_cases h2 : j = g
        · subst h2
          rw [setGen_get hg] at e2
          exact .inr (by rw [← ej, ← Option.some.inj e2]; rfl)
        · rw [setGen_other h2, ej] at e2
          exact .inl (Array.mem_of_getElem? e2)
      · exact .inr z

theorem ItN.ofGen {C : Cx} {k : Nat} {A : Around} {a L : Addr} {g : Nat} {outs : List PV} (hA : Room A k) : ItN C A a (fun i => i = g) outs false (GSt C A a L g outs) (fun wr fp X i v s => GSt C A a L g outs wr fp X (i + 1) s) where
  sub := fun wr fp X i s st => by
    obtain ⟨ws, gs, rfl, rfl, _⟩ := st.ex
    exact fun b hb => List.mem_cons_of_mem _ hb
  item := fun wr fp X i s E Q x st hx hX hw hfb hbase hQ => by
    obtain ⟨ws, gs, rfl, rfl, hg, hgs, haw, hcase⟩ := st.ex
    have hi : i < outs.length := (List.getElem?_eq_some_iff.mp hx).1
    have hgl : g < s.gens.size := (Array.getElem?_eq_some_iff.mp hgs).1
    have hal : Al C ws s (s.setGen g .running) := ⟨fun _ _ _ e => e, hbase, Nat.le_refl _⟩
    have ha : a < s.heap.objs.size := hfb a List.mem_cons_self
    -- the addresses that this step and later ones write
    obtain ⟨ws', hws, haw', hgo⟩ : ∃ ws', (∀ b ∈ ws', b ∈ ws ∨ (s.heap.objs.size ≤ b ∧ (i = 0))) ∧ a ∉ ws' ∧ gGoes C A ws' outs gs (outs.length - i) (s.setGen g .running) := by
      rcases hcase with ⟨rfl, rfl, hL, h⟩ | h
      · refine ⟨[L, s.heap.objs.size, s.heap.objs.size + 1], fun b hb => ?_, fun hm => ?_, h _ hal⟩
        · rcases List.mem_cons.mp hb with z | hb
          · exact .inl (by rw [z]; exact List.mem_cons_self)
          · rcases List.mem_cons.mp hb with z | hb
            · exact .inr ⟨Nat.le_of_eq z.symm, rfl⟩
            · rw [List.mem_singleton.mp hb]; exact .inr ⟨Nat.le_succ _, rfl⟩
        · rcases List.mem_cons.mp hm with z | hm
          · exact haw (by rw [z]; exact List.mem_cons_self)
          · rcases List.mem_cons.mp hm with z | hm
            · exact Nat.lt_irrefl _ (z ▸ ha)
            · have := List.mem_singleton.mp hm
              rw [this] at ha
              exact absurd ha (Nat.not_lt.mpr (Nat.le_succ _))
      · exact ⟨ws, fun b hb => .inl hb, haw, h _ hal⟩
    obtain ⟨m, hm⟩ : ∃ m, outs.length - i = m + 1 := ⟨outs.length - i - 1, by omega⟩
    rw [hm] at hgo
    refine pyNext_genR (P := gR ws') hA.hh (C.lim.keeps hbase) hA.d hg hgs hgo (fun v s₁ gs' hb hv => ?_) (fun s₁ hp h' hk => ?_)
    · obtain ⟨y, hy, hrep, st₁, hwb, hb1, hkap⟩ := hv
      have hidx : outs.length - 1 - (m + 1 - 1) = i := by omega
      rw [hidx, hx] at hy
      cases hy
      have hsz := st₁.keep.sz
      have hs1 : s.heap.objs.size ≤ s₁.heap.objs.size := hsz
      refine hQ v (s₁.setGen g gs') (fun b => b ∈ ws') (fun b => b ∈ a :: ws') (fun X' hX' => ⟨hrep X' fun b q => ?_, ⟨⟨ws', gs', rfl, rfl, ?_, setGen_get ?_, haw', .inr fun s'' hal'' => ?_⟩⟩⟩) (gen_stp hgl st₁ hb (fun b hb' => (hws b hb').imp id fun z => z.1) .refl) (fun b hb' => (hws b hb').imp id fun z => z.1) (fun b hb' => ?_) (fun b hb' => ?_) (fun b hb' => List.mem_cons_of_mem _ hb')
      · exact (hX' b q).imp (hX b) id
      · obtain ⟨o, nm, qn, ho, r⟩ := hg
        exact ⟨o, nm, qn, st₁.keep.k a o haw' ho, r⟩
      · have := st₁.gsz
        have e : (s.setGen g .running).gens.size = s.gens.size := by simp [Shared.setGen]
        omega
      · have e : outs.length - (i + 1) = m := by omega
        rw [e]
        exact hkap s'' ⟨hal''.own, hal''.base, hal''.sz⟩
      · rcases List.mem_cons.mp hb' with z | z
        · exact .inl (by rw [z]; exact List.mem_cons_self)
        · exact (hws b z).imp (List.mem_cons_of_mem _) fun y => y.1
      · rcases List.mem_cons.mp hb' with z | z
        · exact z ▸ Nat.lt_of_lt_of_le ha hs1
        · exact hwb b z
    · exact absurd hp.1 (Nat.succ_ne_zero m)
  done := fun wr fp X s E Q st hbase hQ => by
    obtain ⟨ws, gs, rfl, rfl, hg, hgs, haw, hcase⟩ := st.ex
    have hgl : g < s.gens.size := (Array.getElem?_eq_some_iff.mp hgs).1
    have hal : Al C ws s (s.setGen g .running) := ⟨fun _ _ _ e => e, hbase, Nat.le_refl _⟩
    obtain ⟨ws', hws, hgo⟩ : ∃ ws', (∀ b ∈ ws', b ∈ ws ∨ s.heap.objs.size ≤ b) ∧ gGoes C A ws' outs gs 0 (s.setGen g .running) := by
      rcases hcase with ⟨h0, rfl, hL, h⟩ | h
      · refine ⟨[L, s.heap.objs.size, s.heap.objs.size + 1], fun b hb => ?_, h0 ▸ h _ hal⟩
        rcases List.mem_cons.mp hb with z | hb
        · exact .inl (by rw [z]; exact List.mem_cons_self)
        · rcases List.mem_cons.mp hb with z | hb
          · exact .inr (Nat.le_of_eq z.symm)
          · rw [List.mem_singleton.mp hb]; exact .inr (Nat.le_succ _)
      · exact ⟨ws, fun b hb => .inl hb, Nat.sub_self outs.length ▸ h _ hal⟩
    refine pyNext_genR (P := gR ws') hA.hh (C.lim.keeps hbase) hA.d hg hgs hgo (fun v s₁ gs' hb hv => ?_) (fun s₁ hp h' hk => ?_)
    · obtain ⟨_, _, _, _, _, hb1, hkap⟩ := hv
      exact False.elim (hkap s₁ ⟨fun _ _ _ e => e, hb1, Nat.le_refl _⟩)
    · exact hQ _ (gen_stp hgl hp.2 rfl hws hk)
  move := fun wr fp X X' oa i s s' st hs ha hX => by
    obtain ⟨ws, gs, rfl, rfl, hg, hgs, haw, hcase⟩ := st.ex
    have hgl : g < s.gens.size := (Array.getElem?_eq_some_iff.mp hgs).1
    have kp : ∀ b ∈ a :: ws, ∀ o, s.heap.get? b = some o → s'.heap.get? b = some o := fun b hb o e => hs.keep.k b o (fun q => (ha b q).2 hb) e
    have al : ∀ s'', Al C ws s' s'' → Al C ws s s'' := fun s'' x => ⟨fun b hb o e => x.own b hb o (kp b (List.mem_cons_of_mem _ hb) o e), x.base, Nat.le_trans hs.keep.sz x.sz⟩
    refine ⟨⟨ws, gs, rfl, rfl, ?_, (hs.gens g hgl (fun z => z)).trans hgs, haw, ?_⟩⟩
    · obtain ⟨o, nm, qn, ho, r⟩ := hg
      exact ⟨o, nm, qn, kp a List.mem_cons_self o ho, r⟩
    · rcases hcase with ⟨h0, h1, hL, h⟩ | h
      · exact .inl ⟨h0, h1, Nat.lt_of_lt_of_le hL hs.keep.sz, fun s'' x => h s'' (al s'' x)⟩
      · exact .inr fun s'' x => h s'' (al s'' x)
  quiet := fun wr fp X i s E Q tgt v st htt hQ => by
    obtain ⟨ws, gs, rfl, rfl, hg, hgs, haw, hcase⟩ := st.ex
    obtain ⟨o, nm, qn, ho, hc, hd, hsl⟩ := id hg
    exact letGo_quiet ho hc (by decide) htt (hQ s st .refl)
  self := fun wr fp X i s E Q st hQ => by
    obtain ⟨ws, gs, rfl, rfl, hg, _⟩ := st.ex
    exact wpAny_pyIter_gen hg hQ
end Mine

end

section
open PySem
set_option linter.unusedVariables false
namespace Mine
open PySem.Builtin PySem.Calls

noncomputable def putF : List (Str × PV) → Str → PV → List (Str × PV)
  | [], x, p => [(x, p)]
  | (y, q) :: r, x, p => if y = x then (x, p) :: r else (y, q) :: putF r x p
theorem mem_putF : ∀ {ps : List (Str × PV)} {x : Str} {p : PV} {n : Str} {q : PV}, (ps.map (·.1)).Nodup → (n, q) ∈ putF ps x p → (n = x ∧ q = p) ∨ (n ≠ x ∧ (n, q) ∈ ps)
  | [], x, p, n, q, _, h => by simp only [putF, List.mem_singleton, Prod.mk.injEq] at h; exact .inl h
  | (y, u) :: r, x, p, n, q, hn, h => by
    rw [List.map_cons, List.nodup_cons] at hn
    unfold putF at h
    by_cases e : y = x
    · rw [if_pos e] at h
      rcases List.mem_cons.mp h with g | g
      · cases g; exact .inl ⟨rfl, rfl⟩
      · refine .inr ⟨fun en => ?_, List.mem_cons_of_mem _ g⟩
        exact hn.1 (List.mem_map.mpr ⟨_, g, en.trans e.symm⟩)
    · rw [if_neg e] at h
      rcases List.mem_cons.mp h with h | h
      · cases h; exact .inr ⟨e, List.mem_cons_self⟩
      · exact (mem_putF hn.2 h).imp id fun z => ⟨z.1, List.mem_cons_of_mem _ z.2⟩
theorem putF_keys : ∀ {ps : List (Str × PV)} {x : Str} {p : PV}, ∀ n, n ∈ (putF ps x p).map (·.1) ↔ n = x ∨ n ∈ ps.map (·.1)
  | [], x, p, n => by simp [putF]
  | (y, u) :: r, x, p, n => by
    unfold putF
    by_cases e : y = x
    · subst e; simp
    · rw [if_neg e, List.map_cons, List.mem_cons, putF_keys (ps := r) n, List.map_cons, List.mem_cons]
      constructor <;> (intro h; rcases h with h | h | h) <;> simp [h]

section
variable {C : Cx} {k : Nat} {F : FE} {σ : Sg} {Wo : Addr → Prop}

/-- one object of one's own class has changed -/
theorem Fm.setOb {h h' : Heap} (f : Fm C Wo F σ h) {x : Str} {a d K : Addr} {ps ps' : List (Str × PV)} (hx : F.env.kindOf x = some .local) (hm : (x, Bd.ob a d K ps) ∈ σ) (hs : Kp (fun b => b = a ∨ b = d) h h')
    (hl : BRp C h' (Wx Wo F σ) (.ref a) (.ob a d K ps')) : Fm C Wo F (put σ x (.ob a d K ps')) h' := by
  have hoff := fun b (e : b = a ∨ b = d) => f.off _ hm b e
  have ha0 := fun b (e : b = a ∨ b = d) => f.new b (.inr (.inr ⟨_, hm, e⟩))
  have ownP : ∀ b, own F (put σ x (.ob a d K ps')) b → own F σ b := fun b q => (own_put f.keys q).elim id fun z => .inr (.inr ⟨_, hm, z⟩)
  have hW : ∀ b, Wx Wo F (put σ x (.ob a d K ps')) b → Wx Wo F σ b := fun b q => q.imp id (ownP b)
  have keep : Kp (Wx Wo F σ) h h' := hs.mono fun b q => .inr (.inr (.inr ⟨_, hm, q⟩))
  obtain ⟨m, hn, hnm⟩ := f.names
  refine ⟨f.kind, f.gl, f.bi, fun b o e => hs.k b o (fun q => by rw [ha0 b q] at e; cases e) (f.base b o e), ⟨m, hn.at' fun o e => hs.k _ o (fun q => (hoff _ q).1 rfl) e, fun y b hy => ?_⟩, fun z hz => ?_, f.apart, fun p hp => Nat.lt_of_lt_of_le (f.cb p hp) hs.sz, (put_keys f.keys).1,
    fun b q => f.new b (ownP b q), fun b q => Nat.lt_of_lt_of_le (f.bnd b q) hs.sz, ?_, fun p hp b hob => ?_⟩
  · rcases mem_put f.keys hy with ⟨e1, e2⟩ | ⟨hne, hy'⟩
    · subst e1 e2
      obtain ⟨v, hp, hr⟩ := hnm y _ hm
      refine ⟨v, ?_, ?_⟩
      · rcases hp with hp | ⟨q | q, _⟩
        · exact .inl hp
        · rw [hx] at q; cases q
        · rw [hx] at q; cases q
      · cases hr with
        | ob => exact hl.step .refl (fun b q => .inl (hW b q)) fun _ _ _ e => e
    · obtain ⟨v, hp, hr⟩ := hnm y b hy'
      refine ⟨v, ?_, hr.step keep (fun b q => .inl (hW b q)) fun b hb o e => hs.k b o (fun q => ?_) e⟩
      · rcases hp with hp | ⟨q, c, hc, o, ho, hd⟩
        · exact .inl hp
        · exact .inr ⟨q, c, hc, o, hs.k c o (fun q => (hoff c q).2.1 _ (mem_of_lookup hc) rfl) ho, hd⟩
      · exact hne (congrArg Prod.fst (f.one _ _ b hy' hm hb q))
  · obtain ⟨c, v, hl, o, ho, hd⟩ := f.cells z hz
    exact ⟨c, v, hl, o, hs.k c o (fun q => (hoff c q).2.1 _ (mem_of_lookup hl) rfl) ho, hd⟩
  · intro p q b hp hq h1 h2
    obtain ⟨y, c⟩ := p
    obtain ⟨z, e⟩ := q
    rcases mem_put f.keys hp with ⟨e1, e2⟩ | ⟨n1, hp'⟩ <;> rcases mem_put f.keys hq with ⟨e3, e4⟩ | ⟨n2, hq'⟩
    · rw [e1, e2, e3, e4]
    · subst e2
      exact absurd (congrArg Prod.fst (f.one _ _ b hq' hm h2 h1)) n2
    · subst e4
      exact absurd (congrArg Prod.fst (f.one _ _ b hp' hm h1 h2)) n1
    · exact f.one _ _ b hp' hq' h1 h2
  · obtain ⟨y, c⟩ := p
    rcases mem_put f.keys hp with ⟨_, e⟩ | ⟨_, m'⟩
    · subst e
      exact f.off _ hm b hob
    · exact f.off _ m' b hob

/-- what is known of a class of the program's own -/
structure ClsAt (C : Cx) (K : Addr) where
  nm : Str
  q : Str
  N : Addr
  bs : List Value
  sn : List Str
  sub : List Value
  ab : Bool
  col : Option Bool
  dd : Option Addr
  k0 : Option Value
  k1 : Option Value
  k2 : Option Value
  k3 : Option Value
  k5 : Option Value
  newId : String
  mN : Str → Option Value
  hC : C.h₀.get? K = some (excClassObj nm q K N bs [.type "object"] true sn sub ab col dd k0 k1 k2 k3 k5 newId)
  hn : C.h₀.Ns N mN
  hga : mN "__getattribute__" = none
  hgt : mN "__getattr__" = none
  hsa : mN "__setattr__" = none

theorem EvT.attrO {K : Addr} (W : ClsAt C K) {x px name pos a d ps p} (hb : σ.lookup x = some (.ob a d K ps)) (hp : (name, p) ∈ ps) (hna : W.mN name = none) (hB : typeLookup (.type "object") name = pure none)
    (hd : (x == ("__debug__" : Str)) = false := by decide +kernel) (hc : (x == ("__classdict__" : Str)) = false := by decide +kernel) :
    EvT C k F σ (.Attribute (.Name x px) name pos) p := .mk fun Wo A E s Q hA f h => by
  refine PyProof.Rows.Attribute_name (wpAny_Name (loadName_bd hb f hc fun v hv => ?_) hd)
  cases hv with
  | ob h1 h2 h3 h4 h5 h6 h7 h8 =>
    obtain ⟨v, hm, r⟩ := h7 name p hp
    obtain ⟨hh, g, dw, t, os⟩ := s
    refine load_attr (f.base _ _ W.hC) (W.hn.keeps f.base) W.hga hna hB ⟨_, h1, h2, h4, .inr ⟨_, h3, h5, h6⟩⟩ hm ?_ (h v _ r .tok)
    cases r <;> rfl

theorem SxT.setO {K : Addr} (W : ClsAt C K) {x px name apos e pos a d ps p} (hb : σ.lookup x = some (.ob a d K ps)) (hx : F.env.kindOf x = some .local) (hnd : (ps.map (·.1)).Nodup) (hz : ps.length ≤ 100) (he : EvT C k F σ e p) (hna : W.mN name = none) (hB : typeLookup (.type "object") name = pure none)
    (hs : swapsWith e (some (.Attribute (.Name x px) name apos)) pos.line F.env = pure false := by first | kernel_rfl | rfl)
    (hd : (x == ("__debug__" : Str)) = false := by decide +kernel) (hc : (x == ("__classdict__" : Str)) = false := by decide +kernel) :
    SxT C k F σ (.Assign [.Attribute (.Name x px) name apos] e pos) (one (put σ x (.ob a d K (putF ps name p)))) := .mk fun Wo A E s hA f => by
  have hm := mem_of_lookup hb
  have ownA : ∀ b, b = a ∨ b = d → own F σ b := fun b q => .inr (.inr ⟨_, hm, q⟩)
  refine plainObj_wpAny_Assign_Attribute (he.run Wo A E s _ hA f fun v s₁ hv p₁ => ?_) hs
  have f₁ := f.pas p₁
  refine wpAny_Name (loadName_bd hb f₁ hc fun u hu => ?_) hd
  cases hu with
  | ob h1 h2 h3 h4 h5 h6 h7 h8 =>
    rename_i o m
    have haK : a ≠ K := fun q => by
      have := f₁.new a (ownA a (.inl rfl))
      rw [q, W.hC] at this
      cases this
    have hw : Within m (ps.map (·.1)) := fun y hy => Classical.byContradiction fun z => hy (h8 y z)
    obtain ⟨hh, g, dw, t, os⟩ := s₁
    refine with_size (store_attr (ns := ps.map (·.1)) PySem.F.store_object (f₁.base _ _ W.hC) (W.hn.keeps f₁.base) W.hsa hna hB haK ⟨o, h1, h2, h4, .inr ⟨_, h3, h5, h6⟩⟩ (fun h' tk' I' hk hsame hsz => ?_) hw (szl (by rw [List.length_map]; omega)))
    have kp : Kp (fun b => b = a ∨ b = d) hh h' := ⟨fun b ob hbn eb => hk b ob (fun q => hbn (.inl q)) (fun o₀ dx e1 e2 => by
      have e3 : hh.get? a = some o := h1
      rw [e3] at e1
      cases e1
      rw [h3] at e2
      cases e2
      exact fun q => hbn (.inr q)) eb, hsz⟩
    obtain ⟨o₁, g1, g2, g3, g4, g5⟩ := hsame o h1
    obtain ⟨o', i1, i2, i3, i4⟩ := I'
    have eo : o' = o₁ := Option.some.inj (i1.symm.trans g1)
    subst eo
    have hd1 := g5 d h3
    have hns : h'.Ns1 d (fun y => if y = name then some v else m y) := by
      rcases i4 with ⟨i5, _⟩ | ⟨d', i5, _, i6⟩
      · rw [hd1] at i5; cases i5
      · rw [hd1] at i5; cases i5; exact i6
    have keep : Kp (Wx Wo F σ) hh h' := kp.mono fun b q => .inr (ownA b q)
    have hv' : Rp C h' (Wx Wo F σ) v p := hv.step keep fun b q => .inl q
    have hrep : BRp C h' (Wx Wo F σ) (.ref a) (.ob a d K (putF ps name p)) := .ob i1 i2 hd1 i3 h5 hns (fun n q hq => by
        rcases mem_putF hnd hq with ⟨e1, e2⟩ | ⟨e1, e2⟩
        · subst e1 e2; exact ⟨v, if_pos rfl, hv'⟩
        · obtain ⟨v', hm', r'⟩ := h7 n q e2
          exact ⟨v', (if_neg e1).trans hm', r'.step keep fun b q => .inl q⟩) fun n hn => by
        rw [putF_keys] at hn
        exact (if_neg fun q => hn (.inl q)).trans (h8 n fun q => hn (.inr q))
    have f₂ := f₁.setOb hx hm kp hrep
    have st : Stp (own F σ) (fun _ => False) ⟨hh, g, dw, t, os⟩ ⟨h', g, dw, tk', os⟩ := ⟨rfl, kp.mono fun b q => ownA b q, Nat.le_refl _, fun _ _ _ => rfl, fun _ h => .inl h⟩
    exact .stay ⟨rfl, rfl⟩ f₂ (p₁.stp.trans st (fun _ q => .inl q) fun _ (z : False) => z.elim) fun b q => .inl ((own_put f.keys q).elim id fun z => ownA b z)
end
end Mine

end

section
open PySem
namespace Mine
noncomputable def stOf (i : Nat) : Stmt := (PySem.Challenge.pw_xc0025_01.main.body[i]?).getD (.Pass default)
noncomputable def fnB : Stmt → List Stmt
  | .FunctionDef _ _ b _ _ _ _ _ _ _ => b
  | .ClassDef _ _ _ b _ _ _ _ _ _ _ => b
  | _ => []
noncomputable def fnS : Stmt → Scope
  | .FunctionDef _ _ _ _ _ _ sc _ _ _ => sc
  | _ => ⟨.function, [], false, false, []⟩
noncomputable def fnP : Stmt → List Str
  | .FunctionDef _ a _ _ _ _ _ _ _ _ => a.args.map (·.arg)
  | _ => []
end Mine

end

section
open PySem
set_option linter.unusedVariables false
set_option maxRecDepth 100000
namespace Mine

/-- what of the program's own names and of the builtin ones the walks use -/
structure Pg (C : Cx) where
  len : C.mg "len" = none ∧ C.mb "len" = some (.builtin "len")
  sum : C.mg "sum" = none ∧ C.mb "sum" = some (.builtin "sum")
  isinst : C.mg "isinstance" = none ∧ C.mb "isinstance" = some (.builtin "isinstance")
  enum : C.mg "enumerate" = none ∧ C.mb "enumerate" = some (.type "enumerate")
  range : C.mg "range" = none ∧ C.mb "range" = some (.type "range")
  list : C.mg "list" = none ∧ C.mb "list" = some (.type "list")
  tuple : C.mg "tuple" = none ∧ C.mb "tuple" = some (.type "tuple")
  int : C.mg "int" = none ∧ C.mb "int" = some (.type "int")
  fa : Nat → Addr
  fn : ∀ i ∈ [2, 3, 5, 6, 10, 11, 12, 13, 14, 15, 16], FnAt C (fa i) (fnS (stOf i)) (fnP (stOf i)) (fnB (stOf i))
  nm : ∀ p ∈ [(("_iter_escaped_chars" : Str), 2), ("_strip_quoted_realnames", 3), ("add_callers", 5), ("count_calls", 6), ("_law_cells", 10), ("_law_family", 11), ("_law_line", 12), ("_law_places", 13), ("_law_told", 14), ("_law_counted", 15)],
    C.mg p.1 = some (.ref (fa p.2))
  ws : Addr
  wsn : C.mg "Whitespace" = some (.ref ws)

section
variable {C : Cx} {k : Nat} {F : FE} {σ : Sg}
theorem Pg.elen (pg : Pg C) {pos} (hk : F.env.kindOf "len" = some .globalImplicit) : EvV C k F σ (.Name "len" pos) (.builtin "len") := .builtin hk pg.len.1 pg.len.2
theorem Pg.esum (pg : Pg C) {pos} (hk : F.env.kindOf "sum" = some .globalImplicit) : EvV C k F σ (.Name "sum" pos) (.builtin "sum") := .builtin hk pg.sum.1 pg.sum.2
theorem Pg.eisinst (pg : Pg C) {pos} (hk : F.env.kindOf "isinstance" = some .globalImplicit) : EvV C k F σ (.Name "isinstance" pos) (.builtin "isinstance") := .builtin hk pg.isinst.1 pg.isinst.2
theorem Pg.eenum (pg : Pg C) {pos} (hk : F.env.kindOf "enumerate" = some .globalImplicit) : EvV C k F σ (.Name "enumerate" pos) (.type "enumerate") := .builtin hk pg.enum.1 pg.enum.2
theorem Pg.erange (pg : Pg C) {pos} (hk : F.env.kindOf "range" = some .globalImplicit) : EvV C k F σ (.Name "range" pos) (.type "range") := .builtin hk pg.range.1 pg.range.2
theorem Pg.elist (pg : Pg C) {pos} (hk : F.env.kindOf "list" = some .globalImplicit) : EvV C k F σ (.Name "list" pos) (.type "list") := .builtin hk pg.list.1 pg.list.2
theorem Pg.etuple (pg : Pg C) {pos} (hk : F.env.kindOf "tuple" = some .globalImplicit) : EvV C k F σ (.Name "tuple" pos) (.type "tuple") := .builtin hk pg.tuple.1 pg.tuple.2
theorem Pg.eint (pg : Pg C) {pos} (hk : F.env.kindOf "int" = some .globalImplicit) : EvV C k F σ (.Name "int" pos) (.type "int") := .builtin hk pg.int.1 pg.int.2
theorem Pg.efn (pg : Pg C) {pos} {x : Str} (i : Nat) (h : (x, i) ∈ [(("_iter_escaped_chars" : Str), 2), ("_strip_quoted_realnames", 3), ("add_callers", 5), ("count_calls", 6), ("_law_cells", 10), ("_law_family", 11), ("_law_line", 12), ("_law_places", 13), ("_law_told", 14), ("_law_counted", 15)])
    (hk : F.env.kindOf x = some .globalImplicit) (hd : (x == ("__debug__" : Str)) = false := by decide +kernel) : EvV C k F σ (.Name x pos) (.ref (pg.fa i)) := .global hk (pg.nm _ h) hd
end

/-- _law_places -/
noncomputable def placesStep (s : Int × List PV) (u : Str) : Int × List PV := (s.1 + u.length, s.2 ++ [.tup [.int (s.1 + u.length - 1), .str u]])
noncomputable def placesOf (us : List Str) : List PV := (us.foldl placesStep (0, [])).2

section
variable {C : Cx} {k : Nat}
theorem w_places (pg : Pg C) (L a : Addr) (q : Str) (cd : Value) (us : List Str) (hu : ∀ u ∈ us, u.length < 2 ^ 62) (hz : us.length ≤ sizeLine) :
    ExT C k (fnF (fnS (stOf 13)) L a q cd) [("units", .pv (.list (us.map .str)))] (fnB (stOf 13)) (fun o _ => o = .rt (.list (placesOf us))) := by
  conv => enter [5]; whnf
  refine .seq (.assignSwL .intC rfl rfl rfl) fun o σ' h => ?_
  obtain ⟨rfl, pl, rfl⟩ := h
  refine .seq (.forM (tt := false) (g := PV.str) (us := us) (fun s : Int × List PV => [("units", .pv (.list (us.map .str))), ("end", .pv (.int s.1)), ("places", .lst pl s.2)]) placesStep (fun d s => s.2.length = d.length) (0, [])
    (.list (.name rfl)) ⟨fun q => (by cases q), .inl ⟨_, _, rfl⟩⟩ (.name rfl) (fun _ _ => trivial) rfl (fun d x rest s hs hJ => ⟨?_, ?_⟩) (P := one _) ⟨rfl, rfl⟩) fun o σ' h => ?_
  · simp [placesStep, hJ]
  · refine .seq1 (.assign (.bin (.name rfl) (.callB (pg.elen rfl) (.cons (.name rfl) .nil rfl) rfl (.lenS ?_)) .addI) rfl) (.seq1 (.append rfl rfl (.tupD (.cons (.bin (.name rfl) .intC .subI) (.cons (.name rfl) .nil rfl) rfl)) rfl ?_) (.nil ⟨rfl, ?_⟩))
    · have := hu x (by rw [hs]; simp)
      omega
    · rw [hJ]; rw [hs] at hz; simp at hz; omega
    · repeat (first | exact List.Sublist.slnil | refine List.Sublist.cons_cons _ ?_ | refine List.Sublist.cons _ ?_)
  · obtain ⟨rfl, rfl⟩ := h
    exact .seq (.retL rfl) fun o σ' h => by obtain ⟨rfl, rfl⟩ := h; rfl
theorem f_places (pg : Pg C) (us : List Str) (hu : ∀ u ∈ us, u.length < 2 ^ 62) (hz : us.length ≤ sizeLine) : FnT C (k + 1) (pg.fa 13) [.list (us.map .str)] (.list (placesOf us)) :=
  .mk (pg.fn 13 (by simp)) (fun L a q cd => w_places pg L a q cd us hu hz) rfl (by kernel_rfl)
end
end Mine

end

section
open PySem
set_option linter.unusedVariables false
set_option maxRecDepth 100000
namespace Mine

/-- the four sums -/
noncomputable def cellOf (first : List Int) (m place : Int) : Int := ((first.zipIdx.filter fun q => Int.fmod (q.2 : Int) m == place).map (·.1)).sum
noncomputable def cellsOf (script told : List Int) : List Int := told.zipIdx.map fun q => q.1 + cellOf ((script.take 60).map fun x => Int.fmod x 1000000) told.length q.2

section
variable {C : Cx} {k : Nat}
theorem w_cells (pg : Pg C) (L a : Addr) (q : Str) (cd : Value) (xs ts : List Int) (hx : xs.length ≤ 1000) (ht : ts.length ≤ 1000) (h0 : ts ≠ []) :
    ExT C k (fnF (fnS (stOf 10)) L a q cd) [("script", .pv (.list (xs.map .int))), ("told", .pv (.tup (ts.map .int)))] (fnB (stOf 10)) (fun o _ => o = .rt (.list ((cellsOf xs ts).map .int))) := by
  have hl0 : (ts.length : Int) ≠ 0 := by cases ts with
    | nil => exact absurd rfl h0
    | cons t ts => simp; omega
  conv => enter [5]; whnf
  refine .seq1 (.assign (p := .list (((xs.take 60).map fun x => Int.fmod x 1000000).map .int)) (.cast (.listComp0 (us := xs.take 60) (g := PV.int) (sf := true) (fun x => .int (Int.fmod x 1000000))
      (.cast (.list (.upTo (b := 60) (.name rfl) .intC (szl (show (xs.map PV.int).length ≤ 16777216 by rw [List.length_map]; omega)))) (by rw [List.map_take])) tN (fun L cs => .name (by kernel_rfl)) (fun _ _ => trivial) (fun L cs u hu => .bin (.name rfl) .intC (.modI (by decide))) (szl (by simp; omega)) (by kernel_rfl)) (by rw [List.map_map]; rfl)) (by kernel_rfl)) ?_
  generalize hF : ((xs.take 60).map fun x => Int.fmod x 1000000) = first
  have hfl : first.length ≤ 60 := by rw [← hF]; simp; omega
  refine .ret1 (.cast (.listComp0 (us := ts.zipIdx) (sf := true) (fun q => .int (q.1 + cellOf first ts.length q.2)) (.enT (pg.eenum rfl) (.name rfl) rfl) tP (fun L cs => .pair (by kernel_rfl) (by kernel_rfl) (by decide +kernel)) (fun u hu => ⟨_, _, rfl⟩) (fun L cs u hu => ?_) (szl (by simp; omega)) (by kernel_rfl)) ?_)
  · refine .bin (p := .int u.1) (q := .int (cellOf first ts.length u.2)) (.name rfl) (.callB (pg.esum rfl) (.cons (p := .list ((first.zipIdx.filter fun q => Int.fmod (q.2 : Int) ts.length == (u.2 : Int)).map (fun q => q.1) |>.map .int)) (.cast (.listComp (us := first.zipIdx) (sf := true) (fun q => Int.fmod (q.2 : Int) ts.length == (u.2 : Int)) (fun q => .int q.1)
      (.enL (pg.eenum rfl) (.name rfl) rfl) tP (fun L cs => .pair (by kernel_rfl) (by kernel_rfl) (by decide +kernel)) (fun u hu => ⟨_, _, rfl⟩) (fun L cs v hv => .one (.cast (.cmp (.bin (.name rfl) (.callB (pg.elen rfl) (.cons (.name rfl) .nil rfl) rfl (.lenT ?_)) (.modI ?_)) (.name rfl) .eqI) ?_)) (fun L cs v hv _ => .name rfl) (szl (by simp; omega)) (by kernel_rfl)) ?_) .nil rfl) rfl .sumL) .addI
    · simp; omega
    · simpa using hl0
    · simp
    · simp
  · simp [cellsOf, hF]
theorem f_cells (pg : Pg C) (xs ts : List Int) (hx : xs.length ≤ 1000) (ht : ts.length ≤ 1000) (h0 : ts ≠ []) : FnT C (k + 1) (pg.fa 10) [.list (xs.map .int), .tup (ts.map .int)] (.list ((cellsOf xs ts).map .int)) :=
  .mk (pg.fn 10 (by simp)) (fun L a q cd => w_cells pg L a q cd xs ts hx ht h0) rfl (by kernel_rfl)
end
end Mine

end

section
open PySem
set_option linter.unusedVariables false
set_option maxRecDepth 100000
namespace Mine

noncomputable abbrev abc : Str := "abcde"
noncomputable def setOf (m : Int) : Str := Txt.join "" ((abc.cps.toList.zipIdx.filter fun q => Builtin.bitAnd (m.fdiv (2 ^ (q.2 : Int).toNat)) 1 != 0).map fun q => ⟨#[q.1]⟩)
noncomputable def maskAt (cell : Int) (k : Nat) : Int := Int.fmod (Int.fdiv cell ((32 : Int) ^ (k : Int).toNat)) 32
noncomputable def famStep (cell : Int) (fam : List Str) (k : Nat) : List Str := if fam.any (· == setOf (maskAt cell k)) = true then fam else fam ++ [setOf (maskAt cell k)]
noncomputable def famOf (cell : Int) (most : Nat) : List Str := (List.range most).foldl (famStep cell) []

theorem join_ok : ∀ m : Fin 32, JoinOk "" ((abc.cps.toList.zipIdx.filter fun q => Builtin.bitAnd ((m.val : Int).fdiv (2 ^ (q.2 : Int).toNat)) 1 != 0).map fun q => ⟨#[q.1]⟩) = true := by decide +kernel
theorem join_ok' (cell : Int) (k : Nat) : JoinOk "" ((abc.cps.toList.zipIdx.filter fun q => Builtin.bitAnd ((maskAt cell k).fdiv (2 ^ (q.2 : Int).toNat)) 1 != 0).map fun q => ⟨#[q.1]⟩) = true := by
  have h0 : 0 ≤ maskAt cell k := Int.fmod_nonneg_of_pos _ (by decide)
  have h1 : maskAt cell k < 32 := Int.fmod_lt_of_pos _ (by decide)
  obtain ⟨m, hm⟩ := Int.eq_ofNat_of_zero_le h0
  rw [hm] at h1 ⊢
  exact join_ok ⟨m, by omega⟩

theorem pow32 (n : Nat) (h : n ≤ 5) : ((32 : Int) ^ n).natAbs < 1073741824 := by
  have : ∀ m : Fin 6, ((32 : Int) ^ m.val).natAbs < 1073741824 := by decide +kernel
  exact this ⟨n, by omega⟩
section
variable {C : Cx} {k : Nat}
theorem w_family (pg : Pg C) (L a : Addr) (q : Str) (cd : Value) (cell : Int) (most : Nat) (hm : most ≤ 6) :
    ExT C k (fnF (fnS (stOf 11)) L a q cd) [("cell", .pv (.int cell)), ("most", .pv (.int most))] (fnB (stOf 11)) (fun o _ => o = .rt (.list ((famOf cell most).map .str))) := by
  conv => enter [5]; whnf
  refine ExT.seq1 (SxT.assign (EvT.listD EvL.nil) (by kernel_rfl)) (ExT.seq (SxT.forM (upd := updN "k") (ok := fun _ => True) (tt := false) (g := fun i : Nat => PV.int (i : Int)) (us := List.range most) (fun fam : List Str => [("cell", .pv (.int cell)), ("most", .pv (.int most)), ("family", .pv (.list (fam.map .str)))]) (famStep cell) (fun d s => s.length ≤ d.length) []
    (ItE.cast (ItE.range (n := (most : Int)) (pg.erange (by kernel_rfl)) (EvT.name rfl) rfl (by omega) (by omega)) (by simp)) tN (TgU.name (by kernel_rfl)) (fun _ _ => trivial) (Nat.le_refl _) (fun d x rest s hs hJ => ⟨?_, ?_⟩) (P := one _) ⟨rfl, rfl⟩) fun o σ' h => ?_)
  · unfold famStep
    split <;> simp <;> omega
  · have hx : x < most := by
      have : x ∈ List.range most := by rw [hs]; simp
      simpa using this
    refine ExT.seq1 (SxT.assign (p := .int (maskAt cell x)) (EvT.bin (EvT.bin (EvT.name rfl) (EvT.bin EvT.intC (EvT.name rfl) (BinT.powI (by omega) (by omega) (by decide))) (BinT.divI (Int.pow_ne_zero (by decide)) (pow32 _ (by omega)))) EvT.intC (BinT.modI (by decide))) (by kernel_rfl)) ?_
    refine ExT.seq1 (SxT.assign (p := .str (setOf (maskAt cell x))) ?g1 (by kernel_rfl)) ?g2
    case g1 =>
      refine EvT.callM EvT.strC (EvL.cons (p := .list (((abc.cps.toList.zipIdx.filter fun q => Builtin.bitAnd ((maskAt cell x).fdiv (2 ^ (q.2 : Int).toNat)) 1 != 0).map fun q => (⟨#[q.1]⟩ : Str)).map .str)) ?g3 EvL.nil rfl) rfl PySem.F.plainAttrs_str PySem.F.slot_str_join PySem.F.type_str_join (strTy rfl) (CallT.join (join_ok' cell x))
      refine EvT.cast (EvT.listComp (us := abc.cps.toList.zipIdx) (sf := true) (fun q => Builtin.bitAnd ((maskAt cell x).fdiv (2 ^ (q.2 : Int).toNat)) 1 != 0) (fun q => .str ⟨#[q.1]⟩)
        (ItE.enS (pg.eenum (by kernel_rfl)) EvT.strC rfl (by decide +kernel)) tP (fun L cs => TgU.pair (by kernel_rfl) (by kernel_rfl) (by decide +kernel)) (fun u hu => ⟨_, _, rfl⟩) (fun L cs u hu => IfT.one (TsT.val (EvT.bin (EvT.bin (EvT.name rfl) (EvT.name rfl) (BinT.shrI (Int.natCast_nonneg _))) EvT.intC BinT.andI) TrT.int)) (fun L cs u hu _ => EvT.name rfl) (szl (by decide)) (by kernel_rfl)) ?_
      rw [List.map_map]; rfl
    refine ExT.seq1 (SxT.assign (p := .list ((famStep cell s x).map .str)) (EvT.cast (EvT.ifB (TsT.cmp (EvT.name rfl) (EvT.name rfl) CmpT.inSL) (fun _ => EvT.name rfl) (fun _ => EvT.bin (EvT.name rfl) (EvT.listD (EvL.cons (EvT.name rfl) EvL.nil rfl)) (BinT.addL ?_))) ?_) (by kernel_rfl)) (ExT.nil ⟨rfl, ?_⟩)
    · refine szl ?_
      simp only [List.length_map, List.length_cons, List.length_nil]
      have : d.length ≤ (List.range most).length := by rw [hs]; simp
      simp at this
      omega
    · unfold famStep
      split <;> simp
    · repeat (first | exact List.Sublist.slnil | refine List.Sublist.cons_cons _ ?_ | refine List.Sublist.cons _ ?_)
  · obtain ⟨rfl, rfl⟩ := h
    exact ExT.ret1 (EvT.name rfl)
theorem f_family (pg : Pg C) (cell : Int) (most : Nat) (hm : most ≤ 6) : FnT C (k + 1) (pg.fa 11) [.int cell, .int (most : Int)] (.list ((famOf cell most).map .str)) :=
  .mk (pg.fn 11 (by simp)) (fun L a q cd => w_family pg L a q cd cell most hm) rfl (by kernel_rfl)
end
end Mine

end

section
open PySem
set_option linter.unusedVariables false
set_option maxRecDepth 100000
namespace Mine

noncomputable def tr (d : List (Int × Int)) : List (Int × PV) := d.map fun q => (q.1, .int q.2)
theorem tr_put (d : List (Int × Int)) (k v : Int) : dput (tr d) k (.int v) = tr (dput d k v) := by
  have hany : (tr d).any (fun kv => kv.1 = k) = d.any (fun kv => kv.1 = k) := by unfold tr; rw [List.any_map]; rfl
  unfold dput
  rw [hany]
  split
  · unfold tr
    rw [List.map_map, List.map_map]
    apply List.map_congr_left
    intro q _
    by_cases h : q.1 = k <;> simp [h]
  · simp [tr]
theorem tr_any (d : List (Int × Int)) (k : Int) : (tr d).any (fun q => decide (q.1 = k)) = d.any (fun q => decide (q.1 = k)) := by unfold tr; rw [List.any_map]; rfl
noncomputable def getI (d : List (Int × Int)) (k : Int) : Int := ((d.find? fun q => decide (q.1 = k)).map (·.2)).getD 0
theorem tr_get (d : List (Int × Int)) (k : Int) (h : d.any (fun q => decide (q.1 = k)) = true) : ((tr d).find? fun q => decide (q.1 = k)).map (·.2) = some (.int (getI d k)) := by
  induction d with
  | nil => cases h
  | cons q d ih =>
    unfold tr getI
    rw [List.map_cons, List.find?_cons, List.find?_cons]
    by_cases hq : q.1 = k
    · simp [hq]
    · simp only [hq, decide_false]
      have := ih (by simpa [hq] using h)
      unfold tr getI at this
      exact this
theorem tr_len (d : List (Int × Int)) : (tr d).length = d.length := by simp [tr]

/-- add_callers -/
noncomputable def putStep (d : List (Int × Int)) (q : Int × Int) : List (Int × Int) := dput d q.1 q.2
noncomputable def addStep (d : List (Int × Int)) (q : Int × Int) : List (Int × Int) := if d.any (fun r => decide (r.1 = q.1)) = true then dput d q.1 (getI d q.1 + q.2) else dput d q.1 q.2
noncomputable def addCallers (t s : List (Int × Int)) : List (Int × Int) := s.foldl addStep (t.foldl putStep [])

section
variable {C : Cx} {k : Nat}
theorem w_count (pg : Pg C) (L a : Addr) (q : Str) (cd : Value) (d : List (Int × Int)) : ExT C k (fnF (fnS (stOf 6)) L a q cd) [("callers", .pv (.dictI (tr d)))] (fnB (stOf 6)) (fun o _ => o = .rt (.int (d.map (·.2)).sum)) := by
  have hsum : ∀ (d : List (Int × Int)) (n : Int), d.foldl (fun n q => n + q.2) n = n + (d.map (·.2)).sum := by
    intro d
    induction d with
    | nil => simp
    | cons q d ih => intro n; rw [List.foldl_cons, ih, List.map_cons, List.sum_cons]; omega
  conv => enter [5]; whnf
  refine ExT.seq1 (SxT.assign EvT.intC (by kernel_rfl)) (ExT.seq (SxT.forM (upd := updN "calls") (ok := fun _ => True) (tt := false) (g := fun q : Int × Int => PV.int q.2) (us := d) (fun n : Int => [("callers", .pv (.dictI (tr d))), ("nc", .pv (.int n))]) (fun n q => n + q.2) (fun _ _ => True) 0
    (ItE.cast (ItE.values (dkI C) (ps := tr d) (EvT.name rfl)) (by simp [tr])) tN (TgU.name (by kernel_rfl)) (fun _ _ => trivial) trivial (fun e x rest s hs hJ => ⟨trivial, ?_⟩) (P := one _) ⟨rfl, rfl⟩) fun o σ' h => ?_)
  · refine ExT.seq1 (SxT.augI rfl (EvT.name rfl) (by kernel_rfl)) (ExT.nil ⟨rfl, ?_⟩)
    repeat (first | exact List.Sublist.slnil | refine List.Sublist.cons_cons _ ?_ | refine List.Sublist.cons _ ?_)
  · obtain ⟨rfl, rfl⟩ := h
    rw [hsum]
    exact ExT.ret1 (EvT.cast (EvT.name rfl) (by simp))
theorem f_count (pg : Pg C) (d : List (Int × Int)) : FnT C (k + 1) (pg.fa 6) [.dictI (tr d)] (.int (d.map (·.2)).sum) :=
  .mk (pg.fn 6 (by simp)) (fun L a q cd => w_count pg L a q cd d) rfl (by kernel_rfl)

theorem w_add (pg : Pg C) (L a : Addr) (q : Str) (cd : Value) (d e : List (Int × Int)) (hd : d.length ≤ 100000) (he : e.length ≤ 100000) :
    ExT C k (fnF (fnS (stOf 5)) L a q cd) [("target", .pv (.dictI (tr d))), ("source", .pv (.dictI (tr e)))] (fnB (stOf 5)) (fun o _ => o = .rt (.dictI (tr (addCallers d e)))) := by
  conv => enter [5]; whnf
  refine ExT.seq (SxT.newDct (by kernel_rfl)) fun o σ' h => ?_
  obtain ⟨rfl, n, rfl⟩ := h
  refine ExT.seq (SxT.forM (upd := updP "func" "caller") (ok := fun v => ∃ p q, v = .tup [p, q]) (tt := true) (g := fun q : Int × Int => PV.tup [.int q.1, .int q.2]) (us := d) (fun s : List (Int × Int) => [("target", .pv (.dictI (tr d))), ("source", .pv (.dictI (tr e))), ("new_callers", .dct n (tr s))]) putStep (fun p s => s.length ≤ p.length) []
    (ItE.cast (ItE.items (dkI C) (ps := tr d) (EvT.name rfl)) (by simp [tr, itemsOf, dkI])) tP (TgU.pair (by kernel_rfl) (by kernel_rfl) (by decide +kernel)) (fun _ _ => ⟨_, _, rfl⟩) (Nat.le_refl _) (fun p x rest s hs hJ => ⟨?_, ?_⟩) (P := one _) ⟨rfl, rfl⟩) fun o σ' h => ?_
  · have := dput_length (xs := s) (k := x.1) (v := x.2)
    simp [putStep] at this ⊢
    omega
  · have hp : p.length ≤ d.length := by rw [hs]; simp
    refine ExT.seq1 (SxT.dctSet (kk := x.1) rfl (by kernel_rfl) (EvT.name rfl) (EvT.name rfl) (szl (by rw [tr_len]; omega))) (ExT.nil ⟨rfl, ?_⟩)
    rw [tr_put]
    repeat (first | exact List.Sublist.slnil | refine List.Sublist.cons_cons _ ?_ | refine List.Sublist.cons _ ?_)
  obtain ⟨rfl, rfl⟩ := h
  refine ExT.seq (SxT.forM (upd := updP "func" "caller") (ok := fun v => ∃ p q, v = .tup [p, q]) (tt := true) (g := fun q : Int × Int => PV.tup [.int q.1, .int q.2]) (us := e) (fun s : List (Int × Int) => [("target", .pv (.dictI (tr d))), ("source", .pv (.dictI (tr e))), ("new_callers", .dct n (tr s))]) addStep (fun p s => s.length ≤ d.length + p.length) (d.foldl putStep [])
    (ItE.cast (ItE.items (dkI C) (ps := tr e) (EvT.name rfl)) (by simp [tr, itemsOf, dkI])) tP (TgU.pair (by kernel_rfl) (by kernel_rfl) (by decide +kernel)) (fun _ _ => ⟨_, _, rfl⟩) ?_ (fun p x rest s hs hJ => ⟨?_, ?_⟩) (P := one _) ⟨rfl, rfl⟩) fun o σ' h => ?_
  · suffices h : ∀ (d s : List (Int × Int)), (d.foldl putStep s).length ≤ s.length + d.length by simpa using h d []
    intro d
    induction d with
    | nil => simp
    | cons q d ih =>
      intro s
      have h1 := ih (putStep s q)
      have h2 := dput_length (xs := s) (k := q.1) (v := q.2)
      unfold putStep at h1
      simp only [List.foldl_cons, List.length_cons]
      unfold putStep at *
      omega
  · unfold addStep
    have h1 := dput_length (xs := s) (k := x.1) (v := x.2)
    have h2 := dput_length (xs := s) (k := x.1) (v := getI s x.1 + x.2)
    simp only [List.length_append, List.length_cons, List.length_nil]
    split <;> omega
  · have hp : p.length ≤ e.length := by rw [hs]; simp
    refine ExT.seq (SxT.ifB (P := fun o σ' => o = .nx ∧ List.Sublist ([("target", .pv (.dictI (tr d))), ("source", .pv (.dictI (tr e))), ("new_callers", .dct n (tr (addStep s x)))] : Sg) σ') _ (TsT.inDct (kk := x.1) rfl (EvT.name rfl)) (fun hc => ?_) fun hc => ?_) fun o σ' h => ?_
    · rw [tr_any] at hc
      have hst : addStep s x = dput s x.1 (getI s x.1 + x.2) := by unfold addStep; rw [if_pos hc]
      rw [hst]
      refine ExT.seq (SxT.ifF (TsT.val (p := .bool false) (EvT.isiTup (pg.eisinst (by kernel_rfl)) (EvT.name rfl) (pg.etuple (by kernel_rfl)) rfl) TrT.bool) (ExT.seq1 (SxT.dctAdd (kk := x.1) (u := getI s x.1) rfl (by kernel_rfl) (EvT.name rfl) (EvT.name rfl) (szl (by rw [tr_len]; omega)) (tr_get s x.1 hc)) (ExT.nil (P := one _) ⟨rfl, rfl⟩))) fun o σ' h => ?_
      obtain ⟨rfl, rfl⟩ := h
      refine ExT.nil ⟨rfl, ?_⟩
      rw [tr_put]
      repeat (first | exact List.Sublist.slnil | refine List.Sublist.cons_cons _ ?_ | refine List.Sublist.cons _ ?_)
    · rw [tr_any] at hc
      have hst : addStep s x = dput s x.1 x.2 := by unfold addStep; rw [if_neg (by rw [hc]; decide)]
      rw [hst]
      refine ExT.seq1 (SxT.dctSet (kk := x.1) rfl (by kernel_rfl) (EvT.name rfl) (EvT.name rfl) (szl (by rw [tr_len]; omega))) (ExT.nil ⟨rfl, ?_⟩)
      rw [tr_put]
      repeat (first | exact List.Sublist.slnil | refine List.Sublist.cons_cons _ ?_ | refine List.Sublist.cons _ ?_)
    · obtain ⟨rfl, hs'⟩ := h
      exact ExT.nil ⟨rfl, hs'⟩
  obtain ⟨rfl, rfl⟩ := h
  exact ExT.seq (SxT.retD rfl) fun o σ' h => by obtain ⟨rfl, rfl⟩ := h; rfl
theorem f_add (pg : Pg C) (d e : List (Int × Int)) (hd : d.length ≤ 100000) (he : e.length ≤ 100000) : FnT C (k + 1) (pg.fa 5) [.dictI (tr d), .dictI (tr e)] (.dictI (tr (addCallers d e))) :=
  .mk (pg.fn 5 (by simp)) (fun L a q cd => w_add pg L a q cd d e hd he) rfl (by kernel_rfl)
end
end Mine

end

section
open PySem
set_option linter.unusedVariables false
set_option maxRecDepth 100000
namespace Mine

/-! sets of the five letters, by their masks -/
noncomputable abbrev abcS : Str := "abcde"
noncomputable def lets (m : Fin 32) : List (Fin 5) := (List.finRange 5).filter fun i => m.val.testBit i.val
noncomputable def lS (i : Fin 5) : Str := ⟨#[97 + i.val]⟩
noncomputable def wd (m : Fin 32) : Str := ⟨((lets m).map fun i => 97 + i.val).toArray⟩
theorem wd_inj : ∀ {m n : Fin 32}, wd m = wd n → m = n := by
  have h : ∀ m n : Fin 32, (lets m).map (fun i => 97 + i.val) = (lets n).map (fun i => 97 + i.val) → m = n := by decide +kernel
  intro m n e
  exact h m n (by
    have := congrArg (fun s : Str => s.cps.toList) e
    simpa [wd] using this)
theorem chars_wd (m : Fin 32) : chars (wd m) = (lets m).map fun i => PV.str (lS i) := by
  unfold chars wd lS
  simp
theorem wd_ascii (m : Fin 32) : (wd m).cps.all (· < 128) = true := by
  revert m; decide +kernel
theorem chars_abc : chars abcS = (List.finRange 5).map fun i => PV.str (lS i) := by
  have h : abcS.cps.toList = (List.finRange 5).map fun i => 97 + i.val := by decide +kernel
  unfold chars lS
  rw [h]
  simp
theorem idx_abc : ∀ i : Fin 5, Builtin.Str.occurrences abcS (lS i) 0 abcS.length 1 = [i.val] := by decide +kernel
theorem in_wd : ∀ (i : Fin 5) (m : Fin 32), (!(Builtin.Str.occurrences (wd m) (lS i) 0 (wd m).length 1).isEmpty) = m.val.testBit i.val := by decide +kernel
theorem sum_wd : ∀ m : Fin 32, ((lets m).map fun i => (2 : Int) ^ ((i.val : Nat) : Int).toNat).sum = (m.val : Int) := by decide +kernel
theorem and_wd : ∀ m e : Fin 32, Builtin.bitAnd (m.val : Int) (e.val : Int) = ((m.val &&& e.val : Nat) : Int) := by decide +kernel
theorem and_beq : ∀ m e : Fin 32, (Builtin.bitAnd (m.val : Int) (e.val : Int) == (e.val : Int)) = (m.val &&& e.val == e.val) := by decide +kernel
theorem and_beq0 : ∀ m e : Fin 32, (Builtin.bitAnd (m.val : Int) (e.val : Int) == 0) = (m.val &&& e.val == 0) := by decide +kernel
theorem wd_len (m : Fin 32) : (wd m).length ≤ 5 := by
  have : ∀ m : Fin 32, (lets m).length ≤ 5 := by decide +kernel
  have := this m
  simp [wd, Str.length]
  exact this

/-- a family with its shares -/
noncomputable abbrev Fam := List (Fin 32 × Int)
noncomputable def trW (f : Fam) : List (Str × PV) := f.map fun q => (wd q.1, .int q.2)
theorem trW_get {f : Fam} (hn : (f.map (·.1)).Nodup) {q : Fin 32 × Int} (hq : q ∈ f) : (trW f).lookup (wd q.1) = some (.int q.2) := by
  refine lookup_nodup ?_ (List.mem_map.mpr ⟨q, hq, rfl⟩)
  unfold trW
  rw [List.map_map]
  have : ((fun x : Str × PV => x.1) ∘ fun q : Fin 32 × Int => (wd q.1, PV.int q.2)) = wd ∘ fun q => q.1 := rfl
  rw [this, ← List.map_map]
  exact List.Pairwise.map _ (fun a b h e => h (wd_inj e)) hn

theorem dput_lookup {x y : Str} {v : PV} : ∀ {l : List (Str × PV)}, (dput l x v).lookup y = if y = x then some v else l.lookup y := by
  intro l
  unfold dput
  split
  · rename_i h
    induction l with
    | nil => cases h
    | cons q l ih =>
      obtain ⟨z, u⟩ := q
      rw [List.map_cons]
      by_cases hz : z = x
      · subst hz
        simp only [if_true]
        rw [List.lookup_cons, List.lookup_cons]
        by_cases hy : y = z
        · subst hy; simp
        · have hb : (y == z) = false := by simpa using hy
          simp only [hb, hy, if_false]
          by_cases hany : l.any (fun kv => decide (kv.1 = z)) = true
          · rw [ih hany]; simp [hy]
          · have hid : l.map (fun kv => if kv.1 = z then (kv.1, v) else kv) = l := by
              refine (List.map_congr_left fun p hp => ?_).trans (List.map_id _)
              have : ¬ p.1 = z := fun e => hany (List.any_eq_true.mpr ⟨p, hp, by simpa using e⟩)
              simp [this]
            rw [hid]
      · simp only [hz, if_false]
        rw [List.lookup_cons, List.lookup_cons]
        have h' : l.any (fun kv => decide (kv.1 = x)) = true := by simpa [hz] using h
        rw [ih h']
        by_cases hy : y = z
        · subst hy; simp [hz]
        · have hb : (y == z) = false := by simpa using hy
          simp [hb]
  · rename_i h
    induction l with
    | nil =>
      simp only [List.nil_append, List.lookup_cons, List.lookup_nil]
      by_cases hy : y = x
      · subst hy; simp
      · have hb : (y == x) = false := by simpa using hy
        simp [hb, hy]
    | cons q l ih =>
      obtain ⟨z, u⟩ := q
      have hz : ¬ z = x := fun e => h (by simp [e])
      have h' : ¬ l.any (fun kv => decide (kv.1 = x)) = true := fun e => h (by simp [hz]; simpa using e)
      rw [List.cons_append, List.lookup_cons, List.lookup_cons, ih h']
      by_cases hy : y = z
      · subst hy; simp [hz]
      · have hb : (y == z) = false := by simpa using hy
        simp [hb]
theorem dfill_lookup {α : Type} {key : α → Str} {val : α → PV} {y : Str} {v : PV} : ∀ {us : List α}, (∃ u ∈ us, key u = y) → (∀ u ∈ us, key u = y → val u = v) → (dfill key val us).lookup y = some v := by
  intro us h1 h2
  unfold dfill
  suffices key' : ∀ (us : List α) (acc : List (Str × PV)), ((∃ u ∈ us, key u = y) ∨ acc.lookup y = some v) → (∀ u ∈ us, key u = y → val u = v) → (us.foldl (fun acc x => dput acc (key x) (val x)) acc).lookup y = some v by exact key' us [] (.inl h1) h2
  intro us
  induction us with
  | nil => intro acc h _; rcases h with ⟨u, hu, _⟩ | h
           · cases hu
           · exact h
  | cons u us ih =>
    intro acc h h2
    rw [List.foldl_cons]
    refine ih _ ?_ fun w hw => h2 w (List.mem_cons_of_mem _ hw)
    rw [dput_lookup]
    by_cases hu : y = key u
    · rw [if_pos hu, h2 u List.mem_cons_self hu.symm]; exact .inr rfl
    · rw [if_neg hu]
      rcases h with ⟨w, hw, e⟩ | h
      · rcases List.mem_cons.mp hw with z | z
        · exact absurd (z ▸ e).symm hu
        · exact .inl ⟨w, z, e⟩
      · exact .inr h

/-- _law_counted -/
noncomputable def fsum (f : Fam) (p : Fin 32 → Bool) : Int := ((f.filter fun q => p q.1).map (·.2)).sum
noncomputable def bothAt (f s : Fam) (e : Fin 32) : Int := fsum f (fun a => a.val &&& e.val == e.val) * fsum s (fun b => b.val &&& e.val == 0)
noncomputable def signStep (s : List Int) (_ : Fin 5) : List Int := s ++ s.map fun x => -x
noncomputable def signs32 : List Int := (List.finRange 5).foldl signStep [1]
theorem signs_len : signs32.length = 32 := by decide +kernel
noncomputable def countedAt (f s : Fam) (r : Fin 32) : Int := (((List.finRange 32).filter fun e => e.val &&& r.val == r.val).map fun e => signs32.getD (e.val - r.val) 0 * bothAt f s e).sum
theorem sg_bd (n : Nat) : -(2 ^ 64) < signs32.getD n 0 ∧ signs32.getD n 0 < 2 ^ 64 := by
  have h : ∀ x ∈ signs32, -(2 ^ 64) < x ∧ x < 2 ^ 64 := by decide +kernel
  rw [List.getD_eq_getElem?_getD]
  cases hx : signs32[n]? with
  | none => decide
  | some x => exact h x (List.mem_of_getElem? hx)
theorem and_le : ∀ e r : Fin 32, (e.val &&& r.val == r.val) = true → r.val ≤ e.val := by decide +kernel

section
variable {C : Cx} {k : Nat}
theorem range32 : ((List.range (32 : Int).toNat).map fun i : Nat => PV.int (i : Int)) = (List.finRange 32).map fun e => PV.int (e.val : Int) := by
  have h : List.range (32 : Int).toNat = (List.finRange 32).map fun e => e.val := by decide +kernel
  rw [h, List.map_map]; rfl

theorem w_counted (pg : Pg C) (L a : Addr) (q : Str) (cd : Value) (f s : Fam) (seen : List (Fin 32)) (hf : (f.map (·.1)).Nodup) (hs : (s.map (·.1)).Nodup) (lf : f.length ≤ 1000) (ls : s.length ≤ 1000) (lr : seen.length ≤ 1000)
    (bd1 : ∀ e : Fin 32, -(2 ^ 64) < fsum f (fun a => a.val &&& e.val == e.val)) (bd2 : ∀ e : Fin 32, fsum f (fun a => a.val &&& e.val == e.val) < 2 ^ 64) :
    ExT C k (fnF (fnS (stOf 15)) L a q cd) [("first", .pv (.dictS (trW f))), ("second", .pv (.dictS (trW s))), ("seen", .pv (.list ((seen.map wd).map .str)))] (fnB (stOf 15)) (fun o _ => o = .rt (.list (seen.map fun r => .int (countedAt f s r)))) := by
  conv => enter [5]; whnf
  have lw : ∀ (f : Fam), (trW f).map (fun q => PV.str q.1) = (f.map (·.1)).map fun m => PV.str (wd m) := fun f => by unfold trW; rw [List.map_map, List.map_map]; rfl
  have hmem : ∀ m : Fin 32, m ∈ f.map (·.1) ++ s.map (·.1) ++ seen → (dfill (fun m : Fin 32 => wd m) (fun m => PV.int (m.val : Int)) (f.map (·.1) ++ s.map (·.1) ++ seen)).lookup (wd m) = some (.int (m.val : Int)) := fun m hm =>
    dfill_lookup ⟨m, hm, rfl⟩ fun u hu e => by rw [wd_inj e]
  generalize hus : f.map (·.1) ++ s.map (·.1) ++ seen = us at hmem
  have hul : us.length ≤ 3000 := by rw [← hus]; simp; omega
  refine ExT.seq1 (SxT.assign (EvT.dictComp0 (dkS C) (upd := updN "one") (ok := fun _ => True) (us := us) (g := fun m => PV.str (wd m)) (sf := true) (tt := false) (fun m => wd m) (fun m => .int (m.val : Int))
    (ItE.list (EvT.cast (EvT.bin (EvT.bin (EvT.callTy (pg.elist (by kernel_rfl)) (EvL.cons (EvT.name rfl) EvL.nil rfl) rfl (CallT.listD (szl (by simp [trW]; omega)))) (EvT.callTy (pg.elist (by kernel_rfl)) (EvL.cons (EvT.name rfl) EvL.nil rfl) rfl (CallT.listD (szl (by simp [trW]; omega)))) (BinT.addL (szl (by simp [trW]; omega)))) (EvT.name rfl) (BinT.addL (szl (by simp [trW]; omega)))) ?_)) tN
    (fun L cs => TgU.name (by kernel_rfl)) (fun _ _ => trivial) (fun L cs u hu => EvT.name rfl) (fun L cs u hu => ?_) (szl (by omega)) (by kernel_rfl)) (by kernel_rfl)) ?_
  · rw [lw, lw, ← hus]; simp
  · rw [← sum_wd u]
    refine EvT.callB (pg.esum (by kernel_rfl)) (EvL.cons (p := .list (((lets u).map fun i => (2 : Int) ^ ((i.val : Nat) : Int).toNat).map .int)) (EvT.cast (EvT.listComp0 (us := lets u) (g := fun i => PV.str (lS i)) (upd := updN "x") (ok := fun _ => True) (sf := true) (tt := false) (fun i => .int ((2 : Int) ^ ((i.val : Nat) : Int).toNat))
      (ItE.cast (ItE.str (EvT.name rfl) (wd_ascii u)) (chars_wd u)) tN (fun L cs => TgU.name (by kernel_rfl)) (fun _ _ => trivial) (fun L cs i hi => EvT.bin EvT.intC (EvT.callM EvT.strC (EvL.cons (EvT.name rfl) EvL.nil rfl) rfl PySem.F.plainAttrs_str PySem.F.slot_str_index PySem.F.type_str_index (strTy rfl) (CallT.indexS (idx_abc i))) (BinT.powI (by omega) (by omega) (by decide))) (szl (by have := (List.length_filter_le (fun i : Fin 5 => u.val.testBit i.val) (List.finRange 5)); simp at this; unfold lets; omega)) (by kernel_rfl)) (by rw [List.map_map]; rfl)) EvL.nil rfl) rfl CallT.sumL
  generalize dfill (fun m : Fin 32 => wd m) (fun m => PV.int (m.val : Int)) us = M at hmem
  refine ExT.seq1 (SxT.assign (p := .list ([(1 : Int)].map .int)) (EvT.listD (EvL.cons EvT.intC EvL.nil rfl)) (by kernel_rfl)) ?_
  refine ExT.seq (SxT.forM (upd := updN "x") (ok := fun _ => True) (tt := false) (g := fun i : Fin 5 => PV.str (lS i)) (us := List.finRange 5) (fun z : List Int => [("first", .pv (.dictS (trW f))), ("second", .pv (.dictS (trW s))), ("seen", .pv (.list ((seen.map wd).map .str))), ("masks", .pv (.dictS M)), ("signs", .pv (.list (z.map .int)))]) signStep (fun d z => z.length = 2 ^ d.length) [1]
    (ItE.cast (ItE.str EvT.strC (by decide +kernel)) chars_abc) tN (TgU.name (by kernel_rfl)) (fun _ _ => trivial) rfl (fun d x rest z hz hJ => ⟨?_, ?_⟩) (P := one _) ⟨rfl, rfl⟩) fun o σ' h => ?_
  · simp [signStep, hJ, Nat.pow_succ]; omega
  · have hd : d.length ≤ 5 := by
      have : d.length ≤ (List.finRange 5).length := by rw [hz]; simp
      simpa using this
    have hzl : z.length ≤ 32 := by rw [hJ]; exact Nat.pow_le_pow_right (by decide) hd
    refine ExT.seq1 (SxT.assign (p := .list ((signStep z x).map .int)) (EvT.cast (EvT.bin (EvT.name rfl) (EvT.listComp0 (us := z) (g := PV.int) (upd := updN "sign") (ok := fun _ => True) (sf := true) (tt := false) (fun n => .int (-n)) (ItE.list (EvT.name rfl)) tN (fun L cs => TgU.name (by kernel_rfl)) (fun _ _ => trivial) (fun L cs n hn => EvT.neg (EvT.name rfl)) (szl (by omega)) (by kernel_rfl)) (BinT.addL (szl (by simp; omega)))) (by simp [signStep])) (by kernel_rfl)) (ExT.nil ⟨rfl, ?_⟩)
    repeat (first | exact List.Sublist.slnil | refine List.Sublist.cons_cons _ ?_ | refine List.Sublist.cons _ ?_)
  obtain ⟨rfl, rfl⟩ := h
  rw [show (List.finRange 5).foldl signStep [1] = signs32 from rfl]
  dsimp only
  have hfm : ∀ q ∈ f, M.lookup (wd q.1) = some (.int (q.1.val : Int)) := fun q hq => hmem _ (by rw [← hus]; simp; exact .inl ⟨q.2, hq⟩)
  have hsm : ∀ q ∈ s, M.lookup (wd q.1) = some (.int (q.1.val : Int)) := fun q hq => hmem _ (by rw [← hus]; simp; exact .inr (.inl ⟨q.2, hq⟩))
  have hrm : ∀ r ∈ seen, M.lookup (wd r) = some (.int (r.val : Int)) := fun r hr => hmem _ (by rw [← hus]; simp; exact .inr (.inr hr))
  refine ExT.seq1 (SxT.assign (p := .list (((List.finRange 32).map (bothAt f s)).map .int)) (EvT.cast (EvT.listComp0 (us := List.finRange 32) (g := fun e => PV.int (e.val : Int)) (upd := updN "e") (ok := fun _ => True) (sf := true) (tt := false) (fun e => .int (bothAt f s e))
    (ItE.cast (ItE.range (n := 32) (pg.erange (by kernel_rfl)) EvT.intC rfl (by decide) (by decide)) range32) tN (fun L cs => TgU.name (by kernel_rfl)) (fun _ _ => trivial) (fun L cs e he => ?_) (szl (by decide)) (by kernel_rfl)) (by rw [List.map_map]; rfl)) (by kernel_rfl)) ?_
  · refine EvT.bin (p := .int (fsum f (fun a => a.val &&& e.val == e.val))) (q := .int (fsum s (fun b => b.val &&& e.val == 0))) ?s1 ?s2 (BinT.mulI ?_ ?_)
    case s1 =>
      refine EvT.callB (pg.esum (by kernel_rfl)) (EvL.cons (p := .list (((f.filter fun q => q.1.val &&& e.val == e.val).map (·.2)).map .int)) (EvT.cast (EvT.listComp (us := f) (g := fun q => PV.str (wd q.1)) (upd := updN "a") (ok := fun _ => True) (sf := true) (tt := false) (fun q => q.1.val &&& e.val == e.val) (fun q => .int q.2)
        (ItE.cast (ItE.dict (dkS C) (ps := trW f) (EvT.name rfl)) (by unfold trW; rw [List.map_map]; rfl)) tN (fun L cs => TgU.name (by kernel_rfl)) (fun _ _ => trivial)
        (fun L cs q hq => IfT.one (TsT.cast (TsT.cmp (EvT.bin (EvT.sub (EvT.name rfl) (EvT.name rfl) (SubT.dictS (hfm q hq))) (EvT.name rfl) BinT.andI) (EvT.name rfl) CmpT.eqI) (and_beq q.1 e)))
        (fun L cs q hq _ => EvT.sub (EvT.name rfl) (EvT.name rfl) (SubT.dictS (trW_get hf hq))) (szl (by omega)) (by kernel_rfl)) (by rw [List.map_map]; rfl)) EvL.nil rfl) rfl CallT.sumL
    case s2 =>
      refine EvT.callB (pg.esum (by kernel_rfl)) (EvL.cons (p := .list (((s.filter fun q => q.1.val &&& e.val == 0).map (·.2)).map .int)) (EvT.cast (EvT.listComp (us := s) (g := fun q => PV.str (wd q.1)) (upd := updN "b") (ok := fun _ => True) (sf := true) (tt := false) (fun q => q.1.val &&& e.val == 0) (fun q => .int q.2)
        (ItE.cast (ItE.dict (dkS C) (ps := trW s) (EvT.name rfl)) (by unfold trW; rw [List.map_map]; rfl)) tN (fun L cs => TgU.name (by kernel_rfl)) (fun _ _ => trivial)
        (fun L cs q hq => IfT.one (TsT.cast (TsT.cmp (EvT.bin (EvT.sub (EvT.name rfl) (EvT.name rfl) (SubT.dictS (hsm q hq))) (EvT.name rfl) BinT.andI) EvT.intC CmpT.eqI) (and_beq0 q.1 e)))
        (fun L cs q hq _ => EvT.sub (EvT.name rfl) (EvT.name rfl) (SubT.dictS (trW_get hs hq))) (szl (by omega)) (by kernel_rfl)) (by rw [List.map_map]; rfl)) EvL.nil rfl) rfl CallT.sumL
    · exact bd1 e
    · exact bd2 e
  refine ExT.ret1 (EvT.cast (EvT.listComp0 (us := seen) (g := fun r => PV.str (wd r)) (upd := updN "rest") (ok := fun _ => True) (sf := true) (tt := false) (fun r => .int (countedAt f s r))
    (ItE.cast (ItE.list (EvT.name rfl)) (by rw [List.map_map]; rfl)) tN (fun L cs => TgU.name (by kernel_rfl)) (fun _ _ => trivial) (fun L cs r hr => ?_) (szl (by omega)) (by kernel_rfl)) rfl)
  refine EvT.callB (pg.esum (by kernel_rfl)) (EvL.cons (p := .list ((((List.finRange 32).filter fun e => e.val &&& r.val == r.val).map fun e => signs32.getD (e.val - r.val) 0 * bothAt f s e).map .int)) (EvT.cast (EvT.listComp (us := List.finRange 32) (g := fun e => PV.int (e.val : Int)) (upd := updN "e") (ok := fun _ => True) (sf := true) (tt := false) (fun e => e.val &&& r.val == r.val) (fun e => .int (signs32.getD (e.val - r.val) 0 * bothAt f s e))
    (ItE.cast (ItE.range (n := 32) (pg.erange (by kernel_rfl)) EvT.intC rfl (by decide) (by decide)) range32) tN (fun L cs => TgU.name (by kernel_rfl)) (fun _ _ => trivial)
    (fun L cs e he => IfT.one (TsT.cast (TsT.cmp (EvT.bin (EvT.name rfl) (EvT.sub (EvT.name rfl) (EvT.name rfl) (SubT.dictS (hrm r hr))) BinT.andI) (EvT.sub (EvT.name rfl) (EvT.name rfl) (SubT.dictS (hrm r hr))) CmpT.eqI) (and_beq e r)))
    (fun L cs e he hk => ?_) (szl (by decide)) (by kernel_rfl)) (by rw [List.map_map]; rfl)) EvL.nil rfl) rfl CallT.sumL
  have hle := and_le e r hk
  refine EvT.bin (p := .int (signs32.getD (e.val - r.val) 0)) (q := .int (bothAt f s e)) (EvT.sub (EvT.name rfl) (EvT.bin (EvT.name rfl) (EvT.sub (EvT.name rfl) (EvT.name rfl) (SubT.dictS (hrm r hr))) BinT.subI) (SubT.listI ?_ ?_ ?_)) (EvT.sub (EvT.name rfl) (EvT.name rfl) (SubT.listI ?_ ?_ ?_)) (BinT.mulI ?_ ?_)
  · omega
  · omega
  · have h1 : ((e.val : Int) - (r.val : Int)).toNat = e.val - r.val := by omega
    rw [h1, List.getElem?_map, List.getD_eq_getElem?_getD]
    have h2 : e.val - r.val < signs32.length := by rw [signs_len]; omega
    rw [List.getElem?_eq_getElem h2]; rfl
  · omega
  · omega
  · have h1 : ((e.val : Nat) : Int).toNat = e.val := by omega
    rw [h1, List.getElem?_map, List.getElem?_map]
    have h2 : (List.finRange 32)[e.val]? = some e := by simp
    rw [h2]; rfl
  · exact (sg_bd _).1
  · exact (sg_bd _).2
theorem f_counted (pg : Pg C) (f s : Fam) (seen : List (Fin 32)) (hf : (f.map (·.1)).Nodup) (hs : (s.map (·.1)).Nodup) (lf : f.length ≤ 1000) (ls : s.length ≤ 1000) (lr : seen.length ≤ 1000)
    (bd1 : ∀ e : Fin 32, -(2 ^ 64) < fsum f (fun a => a.val &&& e.val == e.val)) (bd2 : ∀ e : Fin 32, fsum f (fun a => a.val &&& e.val == e.val) < 2 ^ 64) :
    FnT C (k + 1) (pg.fa 15) [.dictS (trW f), .dictS (trW s), .list ((seen.map wd).map .str)] (.list (seen.map fun r => .int (countedAt f s r))) :=
  .mk (pg.fn 15 (by simp)) (fun L a q cd => w_counted pg L a q cd f s seen hf hs lf ls lr bd1 bd2) rfl (by kernel_rfl)
end
end Mine

end

section
open PySem
set_option linter.unusedVariables false
set_option maxRecDepth 100000
namespace Mine

/-- _law_line -/
noncomputable def rot (t : Fin 5) : List (Fin 5) := (List.finRange 5).map fun i => t + i
theorem chars_rot (t : Fin 5) : chars (cutS ("abcdeabcde" : Str) t.val (t.val + 5)) = (rot t).map fun i => PV.str (lS i) := by
  have h : (cutS ("abcdeabcde" : Str) t.val (t.val + 5)).cps.toList = (rot t).map fun i => 97 + i.val := by revert t; decide +kernel
  unfold chars lS
  rw [h]
  simp
noncomputable def dAt (D : List Str) (x : Fin 5) : Str := (D[x.val]?).getD ""
noncomputable def lineStep (m n : Fin 32) (D : List Str) (s : Str × List Str) (x : Fin 5) : Str × List Str :=
  if (m.val.testBit x.val && n.val.testBit x.val) = true then (s.1 ++ "\"" ++ dAt D x ++ lS x ++ "\"", s.2)
  else if m.val.testBit x.val = true then (s.1 ++ dAt D x ++ lS x, if ((dAt D x).length : Int) != 0 then s.2 ++ [dAt D x, lS x] else s.2 ++ [lS x])
  else s
noncomputable def lineOf (m n : Fin 32) (t : Fin 5) (D : List Str) : Str × List Str := (rot t).foldl (lineStep m n D) ("", [])
theorem len_app (x y : Str) : (x ++ y).length = x.length + y.length := by
  show ((⟨x.cps ++ y.cps⟩ : Str)).length = _
  simp [Str.length]

section
variable {C : Cx} {k : Nat}
theorem w_line (pg : Pg C) (L a : Addr) (q : Str) (cd : Value) (m n : Fin 32) (t : Fin 5) (D T : List Str) (hD : D.length = 5) (hl : ∀ d ∈ D, d.length ≤ 100) (hT : JoinOk "" T = true) (hTl : T.length ≤ 100) (hTj : (Txt.join "" T).length ≤ 100) :
    ExT C k (fnF (fnS (stOf 12)) L a q cd) [("a", .pv (.str (wd m))), ("b", .pv (.str (wd n))), ("turn", .pv (.int t.val)), ("dress", .pv (.list (D.map .str))), ("tail", .pv (.list (T.map .str)))] (fnB (stOf 12))
      (fun o _ => o = .rt (.tup [.str ((lineOf m n t D).1 ++ Txt.join "" T), .list (((lineOf m n t D).2 ++ T).map .str)])) := by
  conv => enter [5]; whnf
  have hDx : ∀ x : Fin 5, D[x.val]? = some (dAt D x) := fun x => by
    unfold dAt
    rw [List.getElem?_eq_getElem (by rw [hD]; exact x.isLt)]; rfl
  have hDl : ∀ x : Fin 5, (dAt D x).length ≤ 100 := fun x => hl _ (List.mem_of_getElem? (hDx x))
  have step_len : ∀ (s : Str × List Str) (x : Fin 5) (j : Nat), s.1.length ≤ 200 * j → s.2.length ≤ 2 * j → (lineStep m n D s x).1.length ≤ 200 * (j + 1) ∧ (lineStep m n D s x).2.length ≤ 2 * (j + 1) := fun s x j h1 h2 => by
    have := hDl x
    have l1 : (lS x).length = 1 := rfl
    have l2 : ("\"" : Str).length = 1 := by decide +kernel
    unfold lineStep
    split
    · simp only [len_app, l1, l2]; omega
    · split
      · simp only [len_app, l1]
        split <;> simp <;> omega
      · omega
  refine ExT.seq1 (SxT.assignSw (EvT.tupD (EvL.cons EvT.strC (EvL.cons (EvT.listD EvL.nil) EvL.nil rfl) rfl)) (by kernel_rfl) (by kernel_rfl)) ?_
  refine ExT.seq (SxT.forM (upd := updN "x") (ok := fun _ => True) (tt := false) (g := fun i : Fin 5 => PV.str (lS i)) (us := rot t) (fun s : Str × List Str => [("a", .pv (.str (wd m))), ("b", .pv (.str (wd n))), ("turn", .pv (.int t.val)), ("dress", .pv (.list (D.map .str))), ("tail", .pv (.list (T.map .str))), ("units", .pv (.list (s.2.map .str))), ("text", .pv (.str s.1))])
    (lineStep m n D) (fun d s => s.1.length ≤ 200 * d.length ∧ s.2.length ≤ 2 * d.length) ("", [])
    (ItE.cast (ItE.str (EvT.cut (a := t.val) (b := t.val + 5) EvT.strC (EvT.name rfl) (EvT.cast (EvT.bin (EvT.name rfl) EvT.intC BinT.addI) (by simp)) ?_ ?_ ?_) ?_) (chars_rot t)) tN (TgU.name (by kernel_rfl)) (fun _ _ => trivial) ⟨by decide +kernel, Nat.le_refl _⟩ (fun d x rest s hs hJ => ⟨?_, ?_⟩) (P := one _) ⟨rfl, rfl⟩) fun o σ' h => ?_
  · revert t; decide +kernel
  · revert t; decide +kernel
  · exact szl (by decide +kernel)
  · revert t; decide +kernel
  · have := step_len s x d.length hJ.1 hJ.2
    simpa using this
  · have hd : d.length ≤ 5 := by
      have : d.length ≤ (rot t).length := by rw [hs]; simp
      simpa [rot] using this
    obtain ⟨j1, j2⟩ := hJ
    have j3 := hDl x
    have l1 : (lS x).length = 1 := rfl
    have l2 : ("\"" : Str).length = 1 := by decide +kernel
    refine ExT.seq1 (SxT.assign (p := .str (dAt D x)) (EvT.sub (EvT.name rfl) (EvT.callM EvT.strC (EvL.cons (EvT.name rfl) EvL.nil rfl) rfl PySem.F.plainAttrs_str PySem.F.slot_str_index PySem.F.type_str_index (strTy rfl) (CallT.indexS (idx_abc x))) (SubT.listI (by omega) (by omega) ?_)) (by kernel_rfl)) ?_
    · have e : ((x.val : Nat) : Int).toNat = x.val := by omega
      rw [e, List.getElem?_map, hDx]; rfl
    have tA : ∀ {F σ pos} {e1 e2 : Expr}, EvT C k F σ e1 (.str (lS x)) → EvT C k F σ e2 (.str (wd m)) → behindInMarks .In e2 = false → TsT C k F σ (.Compare e1 [.In] [e2] pos) (m.val.testBit x.val) := fun h1 h2 h3 => TsT.cast (TsT.cmp h1 h2 CmpT.inSS h3) (in_wd x m)
    have tB : ∀ {F σ pos} {e1 e2 : Expr}, EvT C k F σ e1 (.str (lS x)) → EvT C k F σ e2 (.str (wd n)) → behindInMarks .In e2 = false → TsT C k F σ (.Compare e1 [.In] [e2] pos) (n.val.testBit x.val) := fun h1 h2 h3 => TsT.cast (TsT.cmp h1 h2 CmpT.inSS h3) (in_wd x n)
    refine ExT.seq (SxT.ifB (P := fun o σ' => o = .nx ∧ List.Sublist ([("a", .pv (.str (wd m))), ("b", .pv (.str (wd n))), ("turn", .pv (.int t.val)), ("dress", .pv (.list (D.map .str))), ("tail", .pv (.list (T.map .str))), ("units", .pv (.list ((lineStep m n D s x).2.map .str))), ("text", .pv (.str (lineStep m n D s x).1))] : Sg) σ') (m.val.testBit x.val && n.val.testBit x.val)
      (TsT.and2 (tA (EvT.name rfl) (EvT.name rfl) (by kernel_rfl)) (fun h => TsT.cast (tB (EvT.name rfl) (EvT.name rfl) (by kernel_rfl)) (by rw [h]; simp)) (fun h => by rw [h]; rfl)) (fun hc => ?_) fun hc => ?_) fun o σ' h => ?_
    · have e1 : lineStep m n D s x = (s.1 ++ "\"" ++ dAt D x ++ lS x ++ "\"", s.2) := by unfold lineStep; rw [if_pos hc]
      rw [e1]
      refine ExT.seq1 (SxT.assign (EvT.bin (EvT.bin (EvT.bin (EvT.bin (EvT.name rfl) EvT.strC (BinT.addS (szl ?_))) (EvT.name rfl) (BinT.addS (szl ?_))) (EvT.name rfl) (BinT.addS (szl ?_))) EvT.strC (BinT.addS (szl ?_))) (by kernel_rfl)) (ExT.nil ⟨rfl, ?_⟩)
      · rw [l2]; omega
      · rw [len_app, l2]; omega
      · rw [len_app, len_app, l2, l1]; omega
      · rw [len_app, len_app, len_app, l2, l1]; omega
      · repeat (first | exact List.Sublist.slnil | refine List.Sublist.cons_cons _ ?_ | refine List.Sublist.cons _ ?_)
    · refine ExT.seq (SxT.ifB (P := fun o σ' => o = .nx ∧ List.Sublist ([("a", .pv (.str (wd m))), ("b", .pv (.str (wd n))), ("turn", .pv (.int t.val)), ("dress", .pv (.list (D.map .str))), ("tail", .pv (.list (T.map .str))), ("units", .pv (.list ((lineStep m n D s x).2.map .str))), ("text", .pv (.str (lineStep m n D s x).1))] : Sg) σ') (m.val.testBit x.val) (tA (EvT.name rfl) (EvT.name rfl) (by kernel_rfl)) (fun hm => ?_) fun hm => ?_) fun o σ' h => ?_
      · have e1 : lineStep m n D s x = (s.1 ++ dAt D x ++ lS x, if ((dAt D x).length : Int) != 0 then s.2 ++ [dAt D x, lS x] else s.2 ++ [lS x]) := by unfold lineStep; rw [if_neg (by rw [hc]; decide), if_pos hm]
        rw [e1]
        refine ExT.seq1 (SxT.assign (EvT.bin (EvT.bin (EvT.name rfl) (EvT.name rfl) (BinT.addS (szl ?_))) (EvT.name rfl) (BinT.addS (szl ?_))) (by kernel_rfl)) ?_
        · omega
        · rw [len_app, l1]; omega
        refine ExT.seq1 (SxT.assign (p := .list ((if ((dAt D x).length : Int) != 0 then s.2 ++ [dAt D x, lS x] else s.2 ++ [lS x]).map .str)) (EvT.cast (EvT.ifB (TsT.val (EvT.name rfl) (TrT.str (by omega))) (fun _ => EvT.bin (EvT.name rfl) (EvT.listD (EvL.cons (EvT.name rfl) (EvL.cons (EvT.name rfl) EvL.nil rfl) rfl)) (BinT.addL (szl ?_))) (fun _ => EvT.bin (EvT.name rfl) (EvT.listD (EvL.cons (EvT.name rfl) EvL.nil rfl)) (BinT.addL (szl ?_)))) ?_) (by kernel_rfl)) (ExT.nil ⟨rfl, ?_⟩)
        · simp; omega
        · simp; omega
        · split <;> simp
        · repeat (first | exact List.Sublist.slnil | refine List.Sublist.cons_cons _ ?_ | refine List.Sublist.cons _ ?_)
      · have e1 : lineStep m n D s x = s := by unfold lineStep; rw [if_neg (by rw [hc]; decide), if_neg (by rw [hm]; decide)]
        rw [e1]
        refine ExT.nil ⟨rfl, ?_⟩
        repeat (first | exact List.Sublist.slnil | refine List.Sublist.cons_cons _ ?_ | refine List.Sublist.cons _ ?_)
      · obtain ⟨rfl, hs'⟩ := h
        exact ExT.nil ⟨rfl, hs'⟩
    · obtain ⟨rfl, hs'⟩ := h
      exact ExT.nil ⟨rfl, hs'⟩
  · obtain ⟨rfl, rfl⟩ := h
    dsimp only
    have hall : ∀ (xs d : List (Fin 5)) (s : Str × List Str), s.1.length ≤ 200 * d.length → s.2.length ≤ 2 * d.length → (xs.foldl (lineStep m n D) s).1.length ≤ 200 * (d.length + xs.length) ∧ (xs.foldl (lineStep m n D) s).2.length ≤ 2 * (d.length + xs.length) := by
      intro xs
      induction xs with
      | nil => exact fun d s h1 h2 => ⟨h1, h2⟩
      | cons x xs ih =>
        intro d s h1 h2
        have h3 := step_len s x d.length h1 h2
        have h4 := ih (d ++ [x]) (lineStep m n D s x) (by simpa using h3.1) (by simpa using h3.2)
        simp only [List.foldl_cons, List.length_cons, List.length_append, List.length_nil] at h4 ⊢
        omega
    have h5 := hall (rot t) [] ("", []) (by decide +kernel) (Nat.le_refl _)
    have hr : (rot t).length = 5 := by simp [rot]
    rw [hr] at h5
    refine ExT.ret1 (EvT.tupD (EvL.cons (EvT.bin (EvT.name rfl) (EvT.callM EvT.strC (EvL.cons (EvT.name rfl) EvL.nil rfl) rfl PySem.F.plainAttrs_str PySem.F.slot_str_join PySem.F.type_str_join (strTy rfl) (CallT.join hT)) (BinT.addS (szl ?_))) (EvL.cons (EvT.cast (EvT.bin (EvT.name rfl) (EvT.name rfl) (BinT.addL (szl ?_))) (by rw [List.map_append]; rfl)) EvL.nil rfl) rfl))
    · simp at h5 ⊢; omega
    · simp at h5 ⊢; omega
theorem f_line (pg : Pg C) (m n : Fin 32) (t : Fin 5) (D T : List Str) (hD : D.length = 5) (hl : ∀ d ∈ D, d.length ≤ 100) (hT : JoinOk "" T = true) (hTl : T.length ≤ 100) (hTj : (Txt.join "" T).length ≤ 100) :
    FnT C (k + 1) (pg.fa 12) [.str (wd m), .str (wd n), .int t.val, .list (D.map .str), .list (T.map .str)] (.tup [.str ((lineOf m n t D).1 ++ Txt.join "" T), .list (((lineOf m n t D).2 ++ T).map .str)]) :=
  .mk (pg.fn 12 (by simp)) (fun L a q cd => w_line pg L a q cd m n t D T hD hl hT hTl hTj) rfl (by kernel_rfl)
end
end Mine

end

section
open PySem
set_option linter.unusedVariables false
set_option maxRecDepth 100000
namespace Mine
open PySem.Builtin PySem.Calls

/-- _iter_escaped_chars -/
noncomputable def bs : Str := "\\"
noncomputable def escL : List Nat → Nat → Bool → List PV
  | [], i, e => if e = true then [.tup [.int ((i : Int) - 1), .str bs]] else []
  | c :: r, i, true => .tup [.int (i : Int), .str (bs ++ ⟨#[c]⟩)] :: escL r (i + 1) false
  | c :: r, i, false => if c = 92 then escL r (i + 1) true else .tup [.int (i : Int), .str ⟨#[c]⟩] :: escL r (i + 1) false

noncomputable def gBody : List Stmt := match fnB (stOf 2) with
  | [_, _, .For _ _ b _ _, _] => b
  | _ => []
noncomputable def gTgt : Expr := match fnB (stOf 2) with
  | [_, _, .For t _ _ _ _, _] => t
  | _ => .Constant .none 0 default

section
variable {C : Cx} {Wo : Addr → Prop} {F : FE} {σ : Sg}
noncomputable def flatS (σ : Sg) : Bool := σ.all fun p => match p.2 with
  | .pv p => p.flat
  | _ => false
/-- a frame with nothing but plain values stands again -/
theorem Fm.reflat {h h' : Heap} {Wo' : Addr → Prop} (f : Fm C Wo F σ h) (hf : flatS σ = true) (hL : ∀ o, h.get? F.env.locals = some o → h'.get? F.env.locals = some o) (hb : ∀ b o, C.h₀.get? b = some o → h'.get? b = some o) (hc : F.env.cells = []) (hm : F.mine = []) (hW : ∀ b, Wo' b → b < h'.objs.size) : Fm C Wo' F σ h' := by
  obtain ⟨m, hn, hnm⟩ := f.names
  have fl : ∀ {y b}, (y, b) ∈ σ → ∃ p, b = .pv p ∧ p.flat = true := fun {y b} hy => by
    have := List.all_eq_true.mp hf _ hy
    cases b <;> first | exact ⟨_, rfl, this⟩ | cases this
  refine ⟨f.kind, f.gl, f.bi, hb, ⟨m, hn.at' hL, fun y b hy => ?_⟩, fun x hx => (by rw [hm] at hx; cases hx), fun x hx => (by rw [hm] at hx; cases hx), fun p hp => (by rw [hc] at hp; cases hp), f.keys, f.new, hW, f.one, fun p hp b ho => ?_⟩
  · obtain ⟨v, hp, hr⟩ := hnm y b hy
    obtain ⟨p, rfl, hpf⟩ := fl hy
    refine ⟨v, ?_, ?_⟩
    · rcases hp with hp | ⟨_, c, hl, _⟩
      · exact .inl hp
      · rw [hc] at hl; cases hl
    · cases hr with
      | pv hr => exact .pv (hr.flat hpf)
  · obtain ⟨y, b'⟩ := p
    obtain ⟨p, rfl, _⟩ := fl hp
    exact ho.elim

theorem seg_eq {A : Around} {R : GenEnd} {Y : Protocol} {n : Nat} {s₀ : Shared} {c : Code} {fs : List Frame} {s : Shared} {env : Env} {K : Flow → Sem Fin} {H : Value → Sem Fin} {gd : Bool → Bool} {lv : List Value → List Value} {st : Stmt} {rest ss : List Stmt} (e : ss = st :: rest)
    (h : Seg C.M A R Y n s₀ c ((exec st env).wrap (fun f => match f with | .next => (execs rest env).wrap K H gd lv | f => K f) H gd lv) fs s) : Seg C.M A R Y n s₀ c ((execs ss env).wrap K H gd lv) fs s := by
  rw [e]; exact seg_execs_cons h
/-- a statement of the layer's within a generator -/
theorem seg_sx {k : Nat} {A : Around} {R : GenEnd} {Y : Protocol} {n : Nat} {s₀ : Shared} {c : Code} {fs : List Frame} {s : Shared} {K : Flow → Sem Fin} {H : Value → Sem Fin} {gd : Bool → Bool} {lv : List Value → List Value} {st : Stmt} {rest ss : List Stmt} {σ' : Sg} (e : ss = st :: rest)
    (hx : SxT C k F σ st (one σ')) (hA : Room (A.over c fs) k) (f : Fm C Wo F σ s.heap)
    (h : ∀ s', Fm C Wo F σ' s'.heap → Stp (own F σ) (fun _ => False) s s' → Seg C.M A R Y n s₀ c ((execs rest F.env).wrap K H gd lv) fs s') : Seg C.M A R Y n s₀ c ((execs ss F.env).wrap K H gd lv) fs s := by
  rw [e]
  refine seg_stmt (wpAny_mono (hx.run Wo (A.over c fs) _ s hA f) (fun fl s' en => ?_) fun _ _ e => e)
  obtain ⟨o, σ'', ⟨rfl, rfl⟩, q, f', st, _⟩ := en.ex
  cases fl <;> first | exact q.elim | skip
  exact ⟨rfl, h s' f' st⟩
end

section
variable {C : Cx} {A : Around} {L fa : Addr} {q : Str} {cd : Value} {x : Str} {t : Tok} {n₁ : Nat} {outs : List PV}
noncomputable abbrev gF (L fa : Addr) (q : Str) (cd : Value) : FE := fnF (fnS (stOf 2)) L fa q cd
noncomputable abbrev gS (x : Str) (p : Int) (e : Bool) : Sg := [("addr", .pv (.str x)), ("pos", .pv (.int p)), ("escape", .pv (.bool e))]
noncomputable abbrev gSeg (C : Cx) (A : Around) (ws : List Addr) (outs : List PV) (n : Nat) (s₀ : Shared) (c : Code) (t : Sem Fin) (fs : List Frame) (s : Shared) : Prop :=
  Seg C.M A (fun n s₀ r s₁ => r = .ok (.ret .none) ∧ gR ws n s₀ s₁) (gY C ws outs) n s₀ c t fs s

/-- the state of a turn -/
structure GT (C : Cx) (L fa : Addr) (q : Str) (cd : Value) (x : Str) (t : Tok) (n₁ : Nat) (σ : Sg) (i : Nat) (s₀ s : Shared) : Prop where
  fm : Fm C (fun b => b < s₀.heap.objs.size ∨ b ∈ [L, n₁, n₁ + 1]) (gF L fa q cd) σ s.heap
  it : ∃ old, IsEnum s.heap (n₁ + 1) n₁ i old
  tx : s.heap.IsStrIter n₁ "str_ascii_iterator" x t i
  st : Stp (fun b => b ∈ [L, n₁, n₁ + 1]) (fun _ => False) s₀ s
  sz : s₀.heap.objs.size ≤ s.heap.objs.size

theorem gown {σ : Sg} (hf : flatS σ = true) : ∀ b, own (gF L fa q cd) σ b → b = L := fun b o => by
  rcases o with o | ⟨y, hy, _⟩ | ⟨⟨y, bd⟩, hy, o⟩
  · exact o
  · have e : (gF L fa q cd).mine = [] := by kernel_rfl
    rw [e] at hy; cases hy
  · have := List.all_eq_true.mp hf _ hy
    cases bd <;> first | exact o.elim | cases this

theorem GT.keep {σ σ' : Sg} {i : Nat} {s₀ s s' : Shared} (g : GT C L fa q cd x t n₁ σ i s₀ s) (hf : flatS σ = true) (hL : L ≠ n₁ ∧ L ≠ n₁ + 1) (f' : Fm C (fun b => b < s₀.heap.objs.size ∨ b ∈ [L, n₁, n₁ + 1]) (gF L fa q cd) σ' s'.heap) (st : Stp (own (gF L fa q cd) σ) (fun _ => False) s s') : GT C L fa q cd x t n₁ σ' i s₀ s' where
  fm := f'
  it := let ⟨old, h⟩ := g.it; ⟨old, st.keep.k _ _ (fun z => hL.2 (gown hf _ z).symm) h⟩
  tx := let ⟨o, ho, r⟩ := g.tx; ⟨o, st.keep.k _ _ (fun z => hL.1 (gown hf _ z).symm) ho, r⟩
  st := g.st.trans st (fun b z => .inl (by rw [gown hf b z]; exact List.mem_cons_self)) fun _ (z : False) => z.elim
  sz := Nat.le_trans g.sz st.keep.sz

/-- after a pause -/
theorem GT.wake {σ : Sg} {i : Nat} {s₀ s s' : Shared} (g : GT C L fa q cd x t n₁ σ i s₀ s) (hf : flatS σ = true) (hl : L < s.heap.objs.size) (al : Al C [L, n₁, n₁ + 1] s s') : GT C L fa q cd x t n₁ σ i s' s' where
  fm := g.fm.reflat hf (fun o e => al.own L List.mem_cons_self o e) al.base (by kernel_rfl) (by kernel_rfl) fun b z => by
    rcases z with z | z
    · exact z
    · rcases List.mem_cons.mp z with z | z
      · exact z ▸ Nat.lt_of_lt_of_le hl al.sz
      · rcases List.mem_cons.mp z with z | z
        · obtain ⟨o, ho, _⟩ := g.tx
          exact z ▸ Nat.lt_of_lt_of_le (Heap.lt_size ho) al.sz
        · obtain ⟨old, ho⟩ := g.it
          rw [List.mem_singleton.mp z]
          exact Nat.lt_of_lt_of_le (Heap.lt_size ho) al.sz
  it := let ⟨old, h⟩ := g.it; ⟨old, al.own _ (by simp) _ h⟩
  tx := let ⟨o, ho, r⟩ := g.tx; ⟨o, al.own _ (by simp) _ ho, r⟩
  st := .refl
  sz := Nat.le_refl _

/-- what is handed out -/
theorem gY_of {σ : Sg} {i n : Nat} {s₀ s s' : Shared} {v : Value} {y : PV} {kap : Resume → Shared → Prop} (g : GT C L fa q cd x t n₁ σ i s₀ s) (p : Pas s s') (hv : Rp C s'.heap (Wx (fun b => b < s₀.heap.objs.size ∨ b ∈ [L, n₁, n₁ + 1]) (gF L fa q cd) σ) v y)
    (hy : outs[outs.length - 1 - n]? = some y) (hk : ∀ s₂, Al C [L, n₁, n₁ + 1] s' s₂ → kap (.send .none) s₂) : gY C [L, n₁, n₁ + 1] outs n s₀ v s' kap := by
  refine ⟨y, hy, fun X hX => hv.less fun b z => .inl (hX b z), g.st.pas p, fun b hb => ?_, fun b o e => p.keep.k b o id (g.fm.base b o e), hk⟩
  exact Nat.lt_of_lt_of_le (g.fm.bnd b (.inr hb)) p.keep.sz

theorem room_loop {A : Around} {tgt : Expr} {it : Value} {b o : List Stmt} {env : Env} {kf : Result → Sem Fin} {fb : List Stmt} {p0 : Pos} (hA : Room A 9) : Room (A.over (.forLoop tgt it b o env) [.ret kf none false [] (.func fb env) p0 []]) 0 := by
  refine ⟨?_, ?_, ?_⟩
  · exact hA.hh
  · have := hA.dp
    show A.depth + frameCount [(Code.func fb env, p0)] + (Code.forLoop tgt it b o env).weight + 0 ≤ 400
    have e1 : frameCount [(Code.func fb env, p0)] = 1 := by rw [frameCount_cons]; rfl
    have e2 : (Code.forLoop tgt it b o env).weight = 0 := rfl
    rw [e1, e2]; omega
  · have := hA.un
    show A.units + unitsOf [(Code.func fb env, p0)] + (Code.forLoop tgt it b o env).cUnits + 20 * 0 ≤ 9000
    have e1 : unitsOf [(Code.func fb env, p0)] = 3 := rfl
    have e2 : (Code.forLoop tgt it b o env).cUnits = 0 := rfl
    rw [e1, e2]; omega
theorem room_func {A : Around} {env : Env} {fb : List Stmt} (hA : Room A 9) : Room (A.over (.func fb env) []) 0 := by
  refine ⟨hA.hh, ?_, ?_⟩
  · have := hA.dp
    show A.depth + frameCount [] + (Code.func fb env).weight + 0 ≤ 400
    have e2 : (Code.func fb env).weight = 1 := rfl
    rw [e2]; simp [frameCount]; omega
  · have := hA.un
    show A.units + unitsOf [] + (Code.func fb env).cUnits + 20 * 0 ≤ 9000
    have e2 : (Code.func fb env).cUnits = 3 := rfl
    rw [e2]; simp [unitsOf]; omega

theorem mem23 {L n₁ b : Nat} (q : b ∈ [n₁ + 1, n₁]) : b ∈ [L, n₁, n₁ + 1] := by
  simp only [List.mem_cons, List.not_mem_nil, or_false] at q ⊢
  exact q.elim (fun z => .inr (.inr z)) fun z => .inr (.inl z)
theorem not23 {L n₁ : Nat} (h : L ≠ n₁ ∧ L ≠ n₁ + 1) : L ∉ [n₁ + 1, n₁] := by
  simp only [List.mem_cons, List.not_mem_nil, or_false]
  exact fun q => q.elim h.2 h.1
/-- the enumerate makes a step -/
theorem GT.step {σ : Sg} {i : Nat} {s₀ s : Shared} {h' : Heap} {tk : Nat} (g : GT C L fa q cd x t n₁ σ i s₀ s) (hf : flatS σ = true) (hL : L ≠ n₁ ∧ L ≠ n₁ + 1) (h0 : C.h₀.get? n₁ = none ∧ C.h₀.get? (n₁ + 1) = none) (kp : Kp (fun b => b ∈ [n₁ + 1, n₁]) s.heap h') :
    Fm C (fun b => b < s₀.heap.objs.size ∨ b ∈ [L, n₁, n₁ + 1]) (gF L fa q cd) σ h' ∧ Stp (fun b => b ∈ [L, n₁, n₁ + 1]) (fun _ => False) s₀ { s with heap := h', toks := tk } := by
  refine ⟨g.fm.move kp (fun b q => .inr (mem23 q)) (fun b q z => ?_) (fun p hp => by
      have e : (gF L fa q cd).env.cells = [] := by kernel_rfl
      rw [e] at hp; cases hp) (fun b q => ?_) (fun b q => .inl q) fun b q => Nat.lt_of_lt_of_le (g.fm.bnd b q) kp.sz, g.st.trans (.of_heap kp) (fun b q => .inl (mem23 q)) fun _ (z : False) => z.elim⟩
  · rw [gown hf b z] at q
    exact not23 hL q
  · rcases List.mem_cons.mp q with z | z
    · rw [z]; exact h0.2
    · rw [List.mem_singleton.mp z]; exact h0.1
noncomputable def gS2 (x : Str) (i : Int) (e : Bool) (c : Nat) : Sg := [("addr", .pv (.str x)), ("pos", .pv (.int i)), ("escape", .pv (.bool e)), ("ch", .pv (.str ⟨#[c]⟩))]
theorem g_tgt {a b : PV} : TgT C 0 (gF L fa q cd) gTgt (.tup [a, b]) (fun σ => put (put σ "pos" (.pv a)) "ch" (.pv b)) := by
  have eT : gTgt = gTgt := rfl
  conv at eT => rhs; whnf
  rw [eT]
  exact TgT.pair (by kernel_rfl) (by kernel_rfl)
theorem g_put {x : Str} {p : Int} {e : Bool} {i : Int} {c : Nat} : put (put (gS x p e) "pos" (.pv (.int i))) "ch" (.pv (.str ⟨#[c]⟩)) = gS2 x i e c := by kernel_rfl
theorem g_put2 {x : Str} {e : Bool} {i : Int} {c : Nat} {b : Bool} : put (gS2 x i e c) "escape" (.pv (.bool b)) = gS2 x i b c := by kernel_rfl
theorem g_flat {x : Str} {p : Int} {e : Bool} : flatS (gS x p e) = true := by kernel_rfl
theorem g_flat2 {x : Str} {i : Int} {e : Bool} {c : Nat} : flatS (gS2 x i e c) = true := by kernel_rfl
theorem gl_pos {x : Str} {i : Int} {e : Bool} {c : Nat} : (gS2 x i e c).lookup ("pos" : Str) = some (Bd.pv (.int i)) := rfl
theorem gl_esc {x : Str} {i : Int} {e : Bool} {c : Nat} : (gS2 x i e c).lookup ("escape" : Str) = some (Bd.pv (.bool e)) := rfl
theorem gl_ch {x : Str} {i : Int} {e : Bool} {c : Nat} : (gS2 x i e c).lookup ("ch" : Str) = some (Bd.pv (.str ⟨#[c]⟩)) := rfl
theorem gen_loop (hA : Room A 9) (h0 : C.h₀.get? n₁ = none ∧ C.h₀.get? (n₁ + 1) = none) (hx : x.cps.all (· < 128) = true) (hxl : x.length ≤ 100000) (hL : L ≠ n₁ ∧ L ≠ n₁ + 1) {kf : Result → Sem Fin} {p0 : Pos} {fb : List Stmt}
    (hend : ∀ (s₀ s : Shared) (p : Int) (e : Bool), (e = true → p = (x.cps.size : Int) - 1) → (∃ pre, outs = pre ++ escL [] x.cps.size e) → Fm C (fun b => b < s₀.heap.objs.size ∨ b ∈ [L, n₁, n₁ + 1]) (gF L fa q cd) (gS x p e) s.heap →
      Stp (fun b => b ∈ [L, n₁, n₁ + 1]) (fun _ => False) s₀ s → gSeg C A [L, n₁, n₁ + 1] outs (escL [] x.cps.size e).length s₀ (.func fb (gF L fa q cd).env) (kf (.ok .next)) [] s) :
    ∀ (rest : List Nat) (i : Nat) (e : Bool) (p : Int) (s₀ s : Shared), x.cps.toList.drop i = rest → i ≤ x.cps.size → (e = true → p = (i : Int) - 1) → (∃ pre, outs = pre ++ escL rest i e) → GT C L fa q cd x t n₁ (gS x p e) i s₀ s →
      gSeg C A [L, n₁, n₁ + 1] outs (escL rest i e).length s₀ (.forLoop gTgt (.ref (n₁ + 1)) gBody [] (gF L fa q cd).env) (C.M.den (.forLoop gTgt (.ref (n₁ + 1)) gBody [] (gF L fa q cd).env)) [.ret kf none false [] (.func fb (gF L fa q cd).env) p0 []] s := by
  have hnn : n₁ + 1 ≠ n₁ := Nat.succ_ne_self _
  intro rest
  induction rest with
  | nil =>
    intro i e p s₀ s hr hi hp ho g
    have hR := room_loop (tgt := gTgt) (it := .ref (n₁ + 1)) (b := gBody) (o := []) (env := (gF L fa q cd).env) (kf := kf) (fb := fb) (p0 := p0) hA
    have hin : i = x.cps.size := Nat.le_antisymm hi (by
      have := congrArg List.length hr
      simp at this
      omega)
    subst hin
    have W := WalksT.enumerateD (Draws.strAscii (prog := C.prog) (w := C.w) (A := (A.over (.forLoop gTgt (.ref (n₁ + 1)) gBody [] (gF L fa q cd).env) [.ret kf none false [] (.func fb (gF L fa q cd).env) p0 []]).in1) hR.hh n₁ x t) (n₁ + 1) hnn (by simp) (by simp)
    refine seg_turn (with_size (W.done s _ _ ⟨g.it, g.tx⟩ fun h' tk hk hsz => ?_))
    have kp : Kp (fun b => b ∈ [n₁ + 1, n₁]) s.heap h' := ⟨fun b o hb e => hk b o hb e, hsz⟩
    obtain ⟨f', st'⟩ := g.step (tk := tk) (by rfl) hL h0 kp
    exact seg_over (hend s₀ _ p e hp ho f' st')
  | cons c r ih =>
    intro i e p s₀ s hr hi hp ho g
    have hR := room_loop (tgt := gTgt) (it := .ref (n₁ + 1)) (b := gBody) (o := []) (env := (gF L fa q cd).env) (kf := kf) (fb := fb) (p0 := p0) hA
    have hin : i < x.cps.size := by
      have := congrArg List.length hr
      simp at this
      omega
    have hci : x.cps[i]? = some c := by
      have : (x.cps.toList.drop i)[0]? = some c := by rw [hr]; rfl
      rw [List.getElem?_drop] at this
      simpa using this
    have hr' : x.cps.toList.drop (i + 1) = r := by
      have : (x.cps.toList.drop i).drop 1 = r := by rw [hr]; rfl
      rwa [List.drop_drop] at this
    have W := WalksT.enumerateD (Draws.strAscii (prog := C.prog) (w := C.w) (A := (A.over (.forLoop gTgt (.ref (n₁ + 1)) gBody [] (gF L fa q cd).env) [.ret kf none false [] (.func fb (gF L fa q cd).env) p0 []]).in1) hR.hh n₁ x t) (n₁ + 1) hnn (by simp) (by simp)
    have eB : gBody = gBody := rfl
    conv at eB => rhs; whnf
    refine seg_turn (with_size (W.item i s _ _ hin ⟨g.it, g.tx⟩ fun T vals h' tk hPt hT htup hmid hk hsz => ?_))
    have kp : Kp (fun b => b ∈ [n₁ + 1, n₁]) s.heap h' := ⟨fun b o hb e => hk b o hb e, hsz⟩
    obtain ⟨u, y, ⟨c', u', hc', rfl⟩, rfl⟩ := hPt
    rw [hci] at hc'
    cases hc'
    dsimp only
    refine with_size (W.go _ _ _ i T _ _ _ hmid fun h'' hst hk2 hsz2 => ?_)
    have kp2 : Kp (fun b => b ∈ [n₁ + 1, n₁]) s.heap h'' := ⟨fun b o hb e => hk2 b o hb (hk b o hb e), Nat.le_trans hsz hsz2⟩
    obtain ⟨f₂, st₂⟩ := g.step (tk := tk) (by rfl) hL h0 kp2
    have g₂ : GT C L fa q cd x t n₁ (gS x p e) (i + 1) s₀ { s with heap := h'', toks := tk } := ⟨f₂, hst.1, hst.2, st₂, Nat.le_trans g.sz kp2.sz⟩
    have hv : Rp C h'' (Wx (fun b => b < s₀.heap.objs.size ∨ b ∈ [L, n₁, n₁ + 1]) (gF L fa q cd) (gS x p e)) (.ref T) (.tup [.int (i : Int), .str ⟨#[c]⟩]) :=
      .tup (htup.at fun o e => hk2 T o (W.apart i T _ hmid) e) (fun z => Nat.lt_irrefl _ (Nat.lt_of_lt_of_le (g.fm.wbnd T z) hT)) (.cons (.int _ _) (.cons (.str _ _) .nil))
    have hlen : (escL r (i + 1) false).length ≤ (escL r (i + 1) false).length := Nat.le_refl _
    have hl1 : (⟨#[c]⟩ : Str).length = 1 := rfl
    have hbs : bs.length = 1 := by decide +kernel
    refine g_tgt (gS x p e) _ _ _ { s with heap := h'', toks := tk } (.ref T) _ hR f₂ hv fun s₃ f₃ st₃ ho₃ => ?_
    dsimp only at f₃
    rw [g_put] at f₃
    have g₃ : GT C L fa q cd x t n₁ (gS2 x i e c) (i + 1) s₀ s₃ := g₂.keep g_flat hL f₃ st₃
    refine seg_eq eB (seg_If ((TsT.val (C := C) (k := 0) (F := gF L fa q cd) (EvT.name gl_esc) TrT.bool).run _ _ _ s₃ _ hR g₃.fm fun s₄ p₄ => ?_))
    have g₄ := g₃.keep g_flat2 hL (g₃.fm.pas p₄) p₄.stp
    have hLs : ∀ {s' : Shared}, s₄.heap.objs.size ≤ s'.heap.objs.size → L < s'.heap.objs.size := fun h => Nat.lt_of_lt_of_le (g₄.fm.bnd L (.inr List.mem_cons_self)) h
    have nextT : ∀ (e' : Bool) (s₆ s₇ : Shared), (e' = true → (i : Int) = ((i + 1 : Nat) : Int) - 1) → (∃ pre, outs = pre ++ escL r (i + 1) e') → GT C L fa q cd x t n₁ (gS2 x i e' c) (i + 1) s₆ s₇ →
        gSeg C A [L, n₁, n₁ + 1] outs (escL r (i + 1) e').length s₆ (.forLoop gTgt (.ref (n₁ + 1)) gBody [] (gF L fa q cd).env) (.pure (.again (.forLoop gTgt (.ref (n₁ + 1)) gBody [] (gF L fa q cd).env))) [.ret kf none false [] (.func fb (gF L fa q cd).env) p0 []] s₇ := fun e' s₆ s₇ h1 h2 g₇ =>
      seg_again rfl (ih (i + 1) e' i s₆ s₇ hr' hin h1 h2 { g₇ with fm := g₇.fm.sub (List.Sublist.cons_cons _ (List.Sublist.cons_cons _ (List.Sublist.cons_cons _ (List.Sublist.cons _ List.Sublist.slnil)))) })
    cases e with
    | true =>
      simp only [if_true]
      obtain ⟨pre, hpre⟩ := ho
      refine seg_execs_cons (seg_Expr_Yield rfl rfl rfl ?_ (by kernel_rfl) (by kernel_rfl))
      refine EvT.run (C := C) (k := 0) (F := gF L fa q cd) (σ := gS2 x i true c) (p := .tup [.int i, .str (bs ++ ⟨#[c]⟩)]) ?hE _ _ _ s₄ _ hR g₄.fm fun v s₅ hv p₅ kap hkap => ?_
      case hE => exact EvT.tupD (EvL.cons (EvT.name gl_pos) (EvL.cons (EvT.bin (p := .str bs) EvT.strC (EvT.name gl_ch) (BinT.addS (szl (by rw [hbs, hl1]; decide)))) EvL.nil rfl) rfl)
      refine gY_of g₄ p₅ hv ?_ fun s₆ al => hkap .none s₆ ?_
      · rw [hpre]
        have e1 : (pre ++ escL (c :: r) i true).length - 1 - (escL r (i + 1) false).length = pre.length := by
          simp only [List.length_append, escL, List.length_cons]; omega
        rw [e1, List.getElem?_append_right (Nat.le_refl _), Nat.sub_self]
        rfl
      have g₆ := (g₄.keep g_flat2 hL (g₄.fm.pas p₅) p₅.stp).wake g_flat2 (hLs p₅.keep.sz) al
      refine seg_sx (k := 0) (σ' := gS2 x i false c) rfl ?hS hR g₆.fm fun s₇ f₇ st₇ => ?_
      case hS => exact (g_put2 (x := x) (i := i) (c := c) (e := true) (b := false)).subst (motive := fun z => SxT C 0 _ _ _ (one z)) (SxT.assign EvT.boolC (by kernel_rfl))
      refine seg_execs_nil ?_
      refine seg_execs_nil ?_
      exact nextT false s₆ s₇ (fun h => by cases h) ⟨pre ++ [.tup [.int (i : Int), .str (bs ++ ⟨#[c]⟩)]], by rw [hpre]; simp [escL]⟩ (g₆.keep g_flat2 hL f₇ st₇)
    | false =>
      simp only [Bool.false_eq_true, if_false]
      have hcb : ((⟨#[c]⟩ : Str) == bs) = decide (c = 92) := by
        have h1 : bs = ⟨#[92]⟩ := by decide +kernel
        rw [h1]
        by_cases h : c = 92
        · subst h; rfl
        · rw [decide_eq_false h, beq_eq_false_iff_ne]
          intro e
          exact h (by simpa using e)
      refine seg_execs_cons (seg_If ?_)
      refine TsT.run (C := C) (k := 0) (F := gF L fa q cd) (σ := gS2 x i false c) (b := (⟨#[c]⟩ : Str) == bs) ?hE _ _ _ s₄ _ hR g₄.fm fun s₅ p₅ => ?_
      case hE => exact TsT.cmp (EvT.name gl_ch) (EvT.strC (x := bs)) CmpT.eqS (by kernel_rfl)
      have g₅ := g₄.keep g_flat2 hL (g₄.fm.pas p₅) p₅.stp
      rw [hcb]
      by_cases hc : c = 92
      · simp only [hc, decide_true, if_true]
        subst hc
        refine seg_sx (k := 0) (σ' := gS2 x i true 92) rfl ?hS hR g₅.fm fun s₇ f₇ st₇ => ?_
        case hS => exact (g_put2 (x := x) (i := i) (c := 92) (e := false) (b := true)).subst (motive := fun z => SxT C 0 _ _ _ (one z)) (SxT.assign EvT.boolC (by kernel_rfl))
        refine seg_execs_nil ?_
        refine seg_execs_nil ?_
        refine seg_execs_nil ?_
        have eN : escL (92 :: r) i false = escL r (i + 1) true := by simp [escL]
        rw [eN] at ho ⊢
        exact nextT true s₀ s₇ (fun _ => by omega) ho (g₅.keep g_flat2 hL f₇ st₇)
      · simp only [hc, decide_false, Bool.false_eq_true, if_false]
        have eN : escL (c :: r) i false = .tup [.int (i : Int), .str ⟨#[c]⟩] :: escL r (i + 1) false := by simp [escL, hc]
        rw [eN] at ho ⊢
        obtain ⟨pre, hpre⟩ := ho
        refine seg_execs_cons (seg_Expr_Yield rfl rfl rfl ?_ (by kernel_rfl) (by kernel_rfl))
        refine EvT.run (C := C) (k := 0) (F := gF L fa q cd) (σ := gS2 x i false c) (p := .tup [.int i, .str ⟨#[c]⟩]) ?hE _ _ _ s₅ _ hR g₅.fm fun v s₆ hv p₆ kap hkap => ?_
        case hE => exact EvT.tupD (EvL.cons (EvT.name gl_pos) (EvL.cons (EvT.name gl_ch) EvL.nil rfl) rfl)
        refine gY_of g₅ p₆ hv ?_ fun s₇ al => hkap .none s₇ ?_
        · rw [hpre]
          have e1 : (pre ++ PV.tup [.int (i : Int), .str ⟨#[c]⟩] :: escL r (i + 1) false).length - 1 - (escL r (i + 1) false).length = pre.length := by
            simp only [List.length_append, List.length_cons]; omega
          rw [e1, List.getElem?_append_right (Nat.le_refl _), Nat.sub_self]
          rfl
        have g₇ := (g₅.keep g_flat2 hL (g₅.fm.pas p₆) p₆.stp).wake g_flat2 (hLs (Nat.le_trans p₅.keep.sz p₆.keep.sz)) al
        refine seg_execs_nil ?_
        refine seg_execs_nil ?_
        refine seg_execs_nil ?_
        exact nextT false s₇ s₇ (fun h => by cases h) ⟨pre ++ [.tup [.int (i : Int), .str ⟨#[c]⟩]], by rw [hpre]; simp⟩ g₇
end
section
variable {C : Cx} {A : Around} {L fa : Addr} {q : Str} {cd : Value} {x : Str} {outs : List PV}
/-- a constant goes into a plain local: nothing is laid -/
theorem seg_put {Wo : Addr → Prop} {σ : Sg} {R : GenEnd} {Y : Protocol} {n : Nat} {s₀ : Shared} {c : Code} {fs : List Frame} {s : Shared} {K : Flow → Sem Fin} {H : Value → Sem Fin} {gd : Bool → Bool} {lv : List Value → List Value} {rest : List Stmt} {F : FE} {nm : Str} {px : Pos} {e : Expr} {p : PV} {pos : Pos}
    (he : ∀ (A : Around) (E : Value → Shared → Prop) (s : Shared) (Q : Value → Shared → Prop), (∀ v tk, (∀ h X, Rp C h X v p) → Q v { s with toks := tk }) → wpAny C.M A (eval e F.env) Q E s)
    (hk : F.env.kindOf nm = some .local) (f : Fm C Wo F σ s.heap) (hs : swapsWith e (some (.Name nm px)) pos.line F.env = pure false)
    (h : ∀ h' tk, Fm C Wo F (put σ nm (.pv p)) h' → Stp (fun b => b = F.env.locals) (fun _ => False) s { s with heap := h', toks := tk } → h'.objs.size = s.heap.objs.size → Seg C.M A R Y n s₀ c ((execs rest F.env).wrap K H gd lv) fs { s with heap := h', toks := tk }) :
    Seg C.M A R Y n s₀ c ((execs (.Assign [.Name nm px] e pos :: rest) F.env).wrap K H gd lv) fs s := by
  refine seg_stmt (wpAny_Assign_Name (he _ _ _ _ fun v tk hv => ?_) hs)
  obtain ⟨m, hn, hm⟩ := f.names
  refine wpAny_storeName_local hk hn (fun h' hn' hs' => ⟨rfl, ?_⟩) (by rw [f.kind]; rfl)
  exact h h' (tk + 1) (f.setPv hk hn hn' hs' (hv _ _)) (Stp.of_heap (.same hs' rfl)) hs'.1
theorem g_enum (pg : Pg C) {Wo : Addr → Prop} {p : Int} {e : Bool} {s : Shared} {np ap cp : Pos} {E : Value → Shared → Prop} {A' : Around} {Q : Value → Shared → Prop} (f : Fm C Wo (gF L fa q cd) (gS x p e) s.heap) (hx : x.cps.all (· < 128) = true)
    (h : ∀ h' t, IsEnum h' (s.heap.objs.size + 1) s.heap.objs.size 0 .none → h'.IsStrIter s.heap.objs.size "str_ascii_iterator" x t 0 → h'.objs.size = s.heap.objs.size + 2 → (∀ b o, s.heap.get? b = some o → h'.get? b = some o) →
      Q (.ref (s.heap.objs.size + 1)) { s with heap := h' }) :
    wpAny C.M A' (eval (.Call (.Name "enumerate" np) [.Name "addr" ap] [] cp) (gF L fa q cd).env) (fun v s₁ => wpAny C.M A' (pyIter v) Q E s₁) E s := by
  refine wpAny_Call_ofName (Calls.Name_function_global f.kind (by kernel_rfl) (Calls.loadGlobal_builtin (by rw [f.gl]; exact C.g.keeps f.base) pg.enum.1 (by rw [f.bi]; exact C.b.keeps f.base) pg.enum.2 ?_) (by decide +kernel))
  refine callWith_type (noStar rfl) ?_
  rw [starEach_plain (by rfl)]
  refine evalArgs_plain (spliced_cons (wpAny_Name (loadName_bd (σ := gS x p e) rfl f (by decide +kernel) fun v r => ?_) (by decide +kernel)))
  cases r with
  | pv r =>
    cases r with
    | str _ t =>
      refine spliced_nil (call_enumerate_str fun h' hen hit hsz hk => ?_)
      refine wpAny_pyIter_enum hen (h h' t hen ?_ hsz hk)
      simpa [strIterType, hx] using hit
theorem gen_start (pg : Pg C) (hA : Room A 9) {s : Shared} (f : Fm C (fun b => b < s.heap.objs.size) (gF L fa q cd) [("addr", .pv (.str x))] s.heap) (hx : x.cps.all (· < 128) = true) (hxl : x.length ≤ 100000) (hout : outs = escL x.cps.toList 0 false) :
    gSeg C A [L, s.heap.objs.size, s.heap.objs.size + 1] outs outs.length s (.func (fnB (stOf 2)) (gF L fa q cd).env) (C.M.den (.func (fnB (stOf 2)) (gF L fa q cd).env)) [] s := by
  have hL : L < s.heap.objs.size := f.wbnd L (.inr (.inl rfl))
  have h0 : ∀ b, s.heap.objs.size ≤ b → C.h₀.get? b = none := fun b hb => by
    cases e : C.h₀.get? b with
    | none => rfl
    | some o => exact absurd (Heap.lt_size (f.base b o e)) (Nat.not_lt.mpr hb)
  have eB : fnB (stOf 2) = fnB (stOf 2) := rfl
  conv at eB => rhs; whnf
  refine seg_func ?_
  have hR0 : Room (A.over (.func (fnB (stOf 2)) (gF L fa q cd).env) []) 0 := room_func hA
  refine (congrArg (fun z => Seg C.M A _ _ _ _ _ (Sem.wrap _ _ _ _ (execs z _)) _ _) eB).mpr ?_
  refine seg_put (F := gF L fa q cd) (p := .int 0) (fun A E s Q h => wpAny_Constant_int (h _ _ fun _ _ => .int _ _)) (by kernel_rfl) f (by kernel_rfl) fun h₁ t₁ f₁ st₁ z₁ => ?_
  refine seg_put (F := gF L fa q cd) (p := .bool false) (fun A E s Q h => wpAny_Constant_bool (h _ s.toks fun _ _ => .bool _)) (by kernel_rfl) f₁ (by kernel_rfl) fun h₂ t₂ f₂ st₂ z₂ => ?_
  have z : h₂.objs.size = s.heap.objs.size := z₂.trans z₁
  have f₃ : Fm C (fun b => b < s.heap.objs.size) (gF L fa q cd) (gS x 0 false) h₂ := f₂
  clear f₂
  have st : Stp (fun b => b = L) (fun _ => False) s { s with heap := h₂, toks := t₂ } := st₁.trans st₂ (fun _ h => .inl h) fun _ (z : False) => z.elim
  refine seg_execs_cons (seg_For (g_enum pg (s := { s with heap := h₂, toks := t₂ }) f₃ hx fun h' t hen hit hsz hk => ?_) fun _ => by kernel_rfl)
  dsimp only at hen hit hsz hk ⊢
  rw [z] at hen hit hsz ⊢
  intro p₀ kk hkk
  have hout0 : outs.length = (escL x.cps.toList 0 false).length := by rw [hout]
  rw [hout0]
  have kp : Kp (fun _ => False) h₂ h' := ⟨fun b o _ e => hk b o e, by omega⟩
  have hle : s.heap.objs.size ≤ h'.objs.size := by rw [hsz]; exact Nat.le_add_right _ _
  have hlt : s.heap.objs.size < h'.objs.size ∧ s.heap.objs.size + 1 < h'.objs.size := by rw [hsz]; exact ⟨Nat.lt_add_of_pos_right (by decide), Nat.lt_succ_self _⟩
  have hne : L ≠ s.heap.objs.size ∧ L ≠ s.heap.objs.size + 1 := ⟨Nat.ne_of_lt hL, Nat.ne_of_lt (Nat.lt_succ_of_lt hL)⟩
  refine gen_loop (t := t) (x := x) (n₁ := s.heap.objs.size) (L := L) (fa := fa) (q := q) (cd := cd) (p0 := p₀) (outs := outs) (fb := fnB (stOf 2)) hA ⟨h0 _ (Nat.le_refl _), h0 _ (Nat.le_succ _)⟩ hx hxl hne (fun s₀ s₄ p e hp ho f₄ st₄ => ?_) x.cps.toList 0 false 0 s { s with heap := h', toks := t₂ } rfl (Nat.zero_le _) (fun e => by cases e) ⟨[], by rw [hout]; rfl⟩ ⟨?_, ⟨_, hen⟩, hit, ?_, ?_⟩
  · rw [hkk]
    refine seg_execs_cons (seg_If ?_)
    have hR : Room (A.over (.func (fnB (stOf 2)) (gF L fa q cd).env) []) 0 := room_func hA
    refine TsT.run (C := C) (k := 0) (F := gF L fa q cd) (σ := gS x p e) (b := e) ?hE _ _ _ s₄ _ hR f₄ fun s₅ p₅ => ?_
    case hE => exact TsT.val (EvT.name rfl) TrT.bool
    cases e with
    | false =>
      simp only [Bool.false_eq_true, if_false]
      refine seg_execs_nil ?_
      refine seg_execs_nil ?_
      exact seg_end (.ok (.ret .none)) ⟨rfl, rfl, st₄.pas p₅⟩
    | true =>
      simp only [if_true]
      obtain ⟨pre, hpre⟩ := ho
      have f₅ := f₄.pas p₅
      refine seg_execs_cons (seg_Expr_Yield rfl rfl rfl ?_ (by kernel_rfl) (by kernel_rfl))
      refine EvT.run (C := C) (k := 0) (F := gF L fa q cd) (σ := gS x p true) (p := .tup [.int p, .str bs]) ?hE _ _ _ s₅ _ hR f₅ fun v s₆ hv p₆ kap hkap => ?_
      case hE => exact EvT.tupD (EvL.cons (EvT.name rfl) (EvL.cons EvT.strC EvL.nil rfl) rfl)
      have f₆ := f₅.pas p₆
      refine ⟨.tup [.int p, .str bs], ?_, fun X hX => hv.less fun b z => .inl (hX b z), (st₄.pas p₅).pas p₆, fun b hb => f₆.bnd b (.inr hb), f₆.base, fun s₇ al => hkap .none s₇ ?_⟩
      · rw [hpre, hp rfl]
        simp [escL]
      · refine seg_execs_nil ?_
        refine seg_execs_nil ?_
        exact seg_end (.ok (.ret .none)) ⟨rfl, rfl, .refl⟩
  · refine f₃.wide kp (fun b hb => ?_) fun b hb => ?_
    · rcases hb with hb | hb
      · exact .inl hb
      · simp only [List.mem_cons, List.not_mem_nil, or_false] at hb
        rcases hb with rfl | rfl | rfl
        · exact .inl hL
        · exact .inr (Nat.le_of_eq z)
        · exact .inr (Nat.le_trans (Nat.le_of_eq z) (Nat.le_succ _))
    · rcases hb with hb | hb
      · exact Nat.lt_of_lt_of_le hb hle
      · simp only [List.mem_cons, List.not_mem_nil, or_false] at hb
        rcases hb with rfl | rfl | rfl
        · exact Nat.lt_of_lt_of_le hL hle
        · exact hlt.1
        · exact hlt.2
  · have st' : Stp (fun b => b ∈ [L, s.heap.objs.size, s.heap.objs.size + 1]) (fun _ => False) s { s with heap := h₂, toks := t₂ } :=
      ⟨st.os, st.keep.mono fun b (e : b = L) => by rw [e]; exact List.mem_cons_self, st.gsz, st.gens, st.bare⟩
    exact st'.trans (.of_heap0 (oa := fun _ => False) kp) (fun _ h => h.elim) fun _ (z : False) => z.elim
  · show s.heap.objs.size ≤ h'.objs.size
    exact hle
end
end Mine

end

section
open PySem
set_option linter.unusedVariables false
set_option maxRecDepth 100000
namespace Mine
open PySem.Builtin PySem.Calls

section
variable {C : Cx} {k : Nat} {F : FE} {σ : Sg}
theorem ItE.esc (pg : Pg C) {np : Pos} {e : Expr} {pos : Pos} {x : Str} {sf : Bool} (hk : F.env.kindOf "_iter_escaped_chars" = some .globalImplicit) (he : EvT C (k + 11) F σ e (.str x)) (hp : plainE e = true) (hx : x.cps.all (· < 128) = true) (hxl : x.length ≤ 100000) :
    ItE C (k + 11) F σ (.Call (.Name "_iter_escaped_chars" np) [e] [] pos) (escL x.cps.toList 0 false) false sf := .mk fun Wo A E s Q hA f h => by
  obtain ⟨o, fd, ho, hd, hbody, hsc, hgl, hbi, hcl, hcd, hbind⟩ := pg.fn 2 (by simp)
  have hpl : ([e] : List Expr).all plainE = true := by simp [hp]
  have hA1 : Room A.in1 9 := (hA.mono (Nat.le_add_left 10 (k + 1) : 10 ≤ k + 11)).in1
  refine wpAny_Call_ofName ((pg.efn (k := k + 11) (F := F) (σ := σ) 2 (by simp) hk (by decide +kernel)).run Wo A E s _ hA f fun s₁ p₁ => ?_)
  have f₁ := f.pas p₁
  refine callWith_function (o := o) (fd := fd) ((EvL.cons he EvL.nil hp : EvL C (k + 11) F σ [e] pos [.str x]).args hp hA f₁ fun vs s₂ hvs p₂ => ?_)
  have f₂ := f₁.pas p₂
  refine ⟨⟨f₂.base _ _ ho, hd⟩, wpAny_call ?_⟩
  have hvl : vs.length = (fnP (stOf 2)).length := by
    rw [show (fnP (stOf 2)).length = 1 from by kernel_rfl]
    exact hvs.length
  have hpo : paramsOk (fnS (stOf 2)) (fnP (stOf 2)) = true := by kernel_rfl
  have hxs : fnP (stOf 2) = [("addr" : Str)] := by kernel_rfl
  refine codeAny_call_generator (o := o) (fd := fd) (body := fnB (stOf 2)) hA.d (f₂.base _ _ ho) hd (by rw [hsc]; kernel_rfl) (by rw [hsc]; kernel_rfl) hbody (hcd.keeps f₂.base) ?_
  refine wpAny_of_eq (t := bindArgs fd ⟨vs, []⟩) (hbind vs hvl) ?_
  rw [hcl]
  refine wpAny_newFunctionEnv_cells (by rw [hsc]; kernel_rfl) (fun y hy => ?_) fun env hee s₃ xc => ?_
  · have hyx : y.1 ∈ fnP (stOf 2) := by rw [← zip_fst hvl]; exact List.mem_map.mpr ⟨_, hy, rfl⟩
    rw [hxs, List.mem_singleton] at hyx
    rw [hyx, hsc]
    exact .inl (by kernel_rfl)
  have e1 : env = fnE (fnS (stOf 2)) s₂.heap.objs.size (pg.fa 2) (fd.qualname ++ ".<locals>.") fd.code := by
    rw [hee]; unfold fnE; rw [hsc, hgl, hbi]
  clear hee
  subst e1
  obtain ⟨f₃, p₃, hown⟩ := fn_fm (C := C) (Wo := Wx Wo F σ) (ps := [.str x]) hpo hvl f₂.base f₂.wbnd hvs xc
  have f₄ : Fm C (Wx Wo F σ) (gF s₂.heap.objs.size (pg.fa 2) (fd.qualname ++ ".<locals>.") fd.code) [("addr", .pv (.str x))] s₃.heap := by
    rw [hxs] at f₃; exact f₃
  have hLs : s₂.heap.objs.size < s₃.heap.objs.size := f₄.wbnd _ (.inr (.inl rfl))
  refine ⟨C.lim.keeps f₄.base, ?_⟩
  dsimp only
  have hgen : ∀ nm qn, (s₃.heap.push { cls := .type "generator", data := .fields #[.int s₃.gens.size 0, nm, qn] }).IsGen s₃.heap.objs.size s₃.gens.size := fun nm qn => ⟨_, nm, qn, Heap.get?_push_size _ rfl, rfl, rfl, rfl⟩
  refine wpAny_pyIter_gen (hgen _ _) ?_
  have pt : Pas s s₃ := (p₁.trans p₂).trans p₃
  have pg' : ∀ (gs : GenState) (o : Obj) (tk : Nat), gs.bare = true → Pas s₃ ⟨s₃.heap.push o, s₃.gens.push gs, s₃.drawn, tk, s₃.os⟩ := fun gs o tk hgs =>
    ⟨rfl, .push _ _ _, by simp, fun i hi _ => by simp [Array.getElem?_push, Nat.ne_of_lt hi], fun y hy => by
      rcases Array.mem_push.mp hy with z | z
      · exact .inl z
      · exact .inr (by rw [z]; exact hgs)⟩
  have hin1 : ∀ s'' : Shared, Al C [s₂.heap.objs.size] ⟨s₃.heap.push { cls := .type "generator", data := .fields #[.int s₃.gens.size 0, .str fd.name s₃.toks, .str fd.qualname (s₃.toks + 1)] }, s₃.gens.push (.fresh (.func (fnB (stOf 2)) (fnE (fnS (stOf 2)) s₂.heap.objs.size (pg.fa 2) (fd.qualname ++ ".<locals>.") fd.code))), s₃.drawn, s₃.toks + 1 + 1, s₃.os⟩ s'' →
      gGoes C A [s₂.heap.objs.size, s''.heap.objs.size, s''.heap.objs.size + 1] (escL x.cps.toList 0 false) (.fresh (.func (fnB (stOf 2)) (fnE (fnS (stOf 2)) s₂.heap.objs.size (pg.fa 2) (fd.qualname ++ ".<locals>.") fd.code))) (escL x.cps.toList 0 false).length s'' := fun s'' al => by
    refine And.intro rfl (gen_start pg hA1 (f₄.reflat (by rfl) (fun o e => al.own _ List.mem_cons_self o (Heap.get?_push_of_some _ e)) al.base (by kernel_rfl) (by kernel_rfl) fun b q => q) hx hxl rfl)
  refine h s₃.heap.objs.size (fun b => b ∈ [s₂.heap.objs.size]) (fun b => b ∈ [s₃.heap.objs.size, s₂.heap.objs.size]) (fun i => i = s₃.gens.size) _ _ _ (ItN.ofGen (L := s₂.heap.objs.size) hA) (pt.trans (pg' _ _ _ rfl)) (fun b hb => ?_) (fun b hb => ?_) (fun i hi => ?_) ⟨⟨[s₂.heap.objs.size], _, rfl, rfl, hgen _ _, ?_, ?_, .inl ⟨rfl, rfl, ?_, hin1⟩⟩⟩
  · have hlt : b < (s₃.heap.push { cls := .type "generator", data := .fields #[.int s₃.gens.size 0, .str fd.name s₃.toks, .str fd.qualname (s₃.toks + 1)] }).objs.size := by
      rw [Heap.size_push]
      rcases List.mem_cons.mp hb with q | q
      · rw [q]; exact Nat.lt_succ_self _
      · rw [List.mem_singleton.mp q]; exact Nat.lt_succ_of_lt hLs
    refine ⟨hlt, fun _ z => ?_⟩
    have z' : b < s₂.heap.objs.size := f₂.wbnd b (.inr z)
    rcases List.mem_cons.mp hb with q | q
    · rw [q] at z'; exact absurd (Nat.lt_trans hLs z') (Nat.lt_irrefl _)
    · rw [List.mem_singleton.mp q] at z'; exact Nat.lt_irrefl _ z'
  · rw [List.mem_singleton.mp hb]
    exact (p₁.trans p₂).keep.sz
  · rw [show i = s₃.gens.size from hi]
    exact pt.gsz
  · simp
  · intro hm
    exact Nat.ne_of_gt hLs (List.mem_singleton.mp hm)
  · show s₂.heap.objs.size < (s₃.heap.push _).objs.size
    rw [Heap.size_push]
    exact Nat.lt_succ_of_lt hLs
end
end Mine

end

section
open PySem
set_option linter.unusedVariables false
set_option maxRecDepth 100000
namespace Mine
open PySem.Builtin PySem.Calls

/-- what the generator gives, typed -/
noncomputable def escT : List Nat → Nat → Bool → List (Nat × Str)
  | [], i, e => if e = true then [(i - 1, bs)] else []
  | c :: r, i, true => (i, bs ++ ⟨#[c]⟩) :: escT r (i + 1) false
  | c :: r, i, false => if c = 92 then escT r (i + 1) true else (i, ⟨#[c]⟩) :: escT r (i + 1) false
noncomputable def escG (u : Nat × Str) : PV := .tup [.int (u.1 : Int), .str u.2]
theorem escL_T : ∀ (l : List Nat) (i : Nat) (e : Bool), (e = true → 1 ≤ i) → escL l i e = (escT l i e).map escG
  | [], i, true, h => by
    have h1 := h rfl
    simp only [escL, escT, if_true, List.map_cons, List.map_nil, escG]
    rw [Int.ofNat_sub h1]; rfl
  | [], i, false, h => by simp [escL, escT]
  | c :: r, i, true, h => by
    simp only [escL, escT, List.map_cons]
    rw [escL_T r (i + 1) false (fun e => by cases e)]; rfl
  | c :: r, i, false, h => by
    simp only [escL, escT]
    split
    · exact escL_T r (i + 1) true (fun _ => by omega)
    · rw [List.map_cons, escL_T r (i + 1) false (fun e => by cases e)]; rfl
theorem escT_pos : ∀ (l : List Nat) (i : Nat) (e : Bool), (e = true → 1 ≤ i) → ∀ u ∈ escT l i e, u.1 + 1 ≤ i + l.length
  | [], i, true, h, u, hu => by
    have h1 := h rfl
    simp only [escT, if_true, List.mem_singleton] at hu
    rw [hu]; simp; omega
  | [], i, false, h, u, hu => by simp [escT] at hu
  | c :: r, i, true, h, u, hu => by
    simp only [escT, List.mem_cons] at hu
    rcases hu with rfl | hu
    · simp
    · have := escT_pos r (i + 1) false (fun e => by cases e) u hu
      simp; omega
  | c :: r, i, false, h, u, hu => by
    simp only [escT] at hu
    split at hu
    · have := escT_pos r (i + 1) true (fun _ => by omega) u hu
      simp; omega
    · rcases List.mem_cons.mp hu with rfl | hu
      · simp
      · have := escT_pos r (i + 1) false (fun e => by cases e) u hu
        simp; omega
theorem escT_len : ∀ (l : List Nat) (i : Nat) (e : Bool), (escT l i e).length ≤ l.length + 1
  | [], i, true => by simp [escT]
  | [], i, false => by simp [escT]
  | c :: r, i, true => by simp only [escT, List.length_cons]; have := escT_len r (i + 1) false; omega
  | c :: r, i, false => by
    simp only [escT]
    split
    · have := escT_len r (i + 1) true; simp; omega
    · have := escT_len r (i + 1) false; simp; omega

noncomputable def qt : Str := "\""
structure StS where
  st : Nat
  op : Option Nat
  res : List Str
noncomputable def StS.opv (o : Option Nat) : PV := match o with
  | none => .none
  | some p => .int (p : Int)
noncomputable def stripStep (x : Str) (s : StS) (u : Nat × Str) : StS :=
  if u.2 == qt then match s.op with
    | none => { s with op := some u.1 }
    | some o => ⟨u.1 + 1, none, if (s.st : Int) != (o : Int) then s.res ++ [cutS x s.st o] else s.res⟩
  else s
noncomputable def stripRes (x : Str) (s : StS) : List Str := if s.st < x.length then s.res ++ [cutS x s.st x.length] else s.res
noncomputable def stripOf (x : Str) : Str :=
  if (Builtin.Str.occurrences x qt 0 x.length 1).isEmpty then x
  else Txt.join "" (stripRes x ((escT x.cps.toList 0 false).foldl (stripStep x) ⟨0, none, []⟩))
theorem join_small {l : List Str} {n : Nat} (h : ∀ x ∈ l, x.length ≤ n) (hl : l.length * n ≤ 1000000) : JoinOk "" l = true := by
  have hf : ∀ (l : List Str) (a : Nat), (∀ x ∈ l, x.length ≤ n) → l.foldl (fun a x => a + x.length + ("" : Str).length) a ≤ a + l.length * n := by
    intro l
    induction l with
    | nil => intro a _; simp
    | cons y r ih =>
      intro a h
      have h1 := ih (a + y.length + ("" : Str).length) fun x hx => h x (List.mem_cons_of_mem _ hx)
      have h2 := h y List.mem_cons_self
      have h3 : ("" : Str).length = 0 := by decide +kernel
      rw [List.foldl_cons, List.length_cons, Nat.add_mul]
      omega
  have h1 := hf l 0 h
  have e : l.toArray.foldl (fun a x => a + x.length + ("" : Str).length) 0 = l.foldl (fun a x => a + x.length + ("" : Str).length) 0 := by simp
  unfold JoinOk
  rw [e]
  have h2 : ∀ m : Nat, m ≤ 1000000 → (!decide (m > sizeLine)) = true := fun m hm => by
    unfold sizeLine
    simp only [Bool.not_eq_true', decide_eq_false_iff_not]
    omega
  exact h2 _ (by omega)
structure StJ (x : Str) (n : Nat) (s : StS) : Prop where
  a : s.st ≤ x.length
  o : ∀ p, s.op = some p → p ≤ x.length
  n : s.res.length ≤ n
  l : ∀ y ∈ s.res, y.length ≤ x.length
theorem StJ.step {x : Str} {n : Nat} {s : StS} {u : Nat × Str} (j : StJ x n s) (hu : u.1 + 1 ≤ x.length) : StJ x (n + 1) (stripStep x s u) := by
  unfold stripStep
  split
  · cases ho : s.op with
    | none => exact ⟨j.a, fun p h => by cases h; exact Nat.le_of_succ_le hu, Nat.le_succ_of_le j.n, j.l⟩
    | some o =>
      refine ⟨hu, (fun p h => by cases h), ?_, ?_⟩
      · have := j.n; dsimp only; split <;> (try simp) <;> omega
      · dsimp only
        split
        · intro y hy
          rcases List.mem_append.mp hy with h | h
          · exact j.l y h
          · rw [List.mem_singleton.mp h]; exact cutS_len x _ _
        · exact j.l
  · exact ⟨j.a, j.o, Nat.le_succ_of_le j.n, j.l⟩

section
variable {C : Cx} {k : Nat}
noncomputable def stS (x : Str) (rl : Addr) (s : StS) : Sg := [("addr", .pv (.str x)), ("start", .pv (.int (s.st : Int))), ("open_pos", .pv (StS.opv s.op)), ("result", .lst rl (s.res.map .str))]
theorem w_strip (pg : Pg C) (L a : Addr) (q : Str) (cd : Value) (x : Str) (hx : x.cps.all (· < 128) = true) (hl : x.length ≤ 900) :
    ExT C (k + 11) (fnF (fnS (stOf 3)) L a q cd) [("addr", .pv (.str x))] (fnB (stOf 3)) (fun o _ => o = .rt (.str (stripOf x))) := by
  have hsz : x.length ≤ sizeLine := szl (by omega)
  conv => enter [5]; whnf
  refine ExT.seq (SxT.ifB (P := fun o σ' => if (Builtin.Str.occurrences x qt 0 x.length 1).isEmpty = true then o = .rt (.str (stripOf x)) else o = .nx ∧ σ' = ([("addr", .pv (.str x))] : Sg)) (!(!(Builtin.Str.occurrences x qt 0 x.length 1).isEmpty)) (TsT.cmp EvT.strC (EvT.name rfl) (CmpT.notInSS (a := qt)) (by kernel_rfl)) (fun hc => ?_) fun hc => ?_) fun o σ' h => ?_
  · rw [Bool.not_not] at hc
    refine ExT.mono (ExT.ret1 (EvT.name rfl)) fun o σ' h => ?_
    rw [if_pos hc, h]
    unfold stripOf
    rw [if_pos hc]
  · rw [Bool.not_not] at hc
    exact ExT.nil (by rw [if_neg (by rw [hc]; decide)]; exact ⟨rfl, rfl⟩)
  by_cases hq : (Builtin.Str.occurrences x qt 0 x.length 1).isEmpty = true
  · rw [if_pos hq] at h
    subst h
    rfl
  rw [if_neg hq] at h
  obtain ⟨rfl, rfl⟩ := h
  dsimp only
  refine ExT.seq1 (SxT.assign EvT.intC (by kernel_rfl)) ?_
  refine ExT.seq1 (SxT.assign EvT.noneC (by kernel_rfl)) ?_
  refine ExT.seq (SxT.newList rfl) fun o σ' h => ?_
  obtain ⟨rfl, rl, rfl⟩ := h
  dsimp only
  have hlen : x.cps.toList.length = x.length := by simp [Str.length]
  have hpos : ∀ u ∈ escT x.cps.toList 0 false, u.1 + 1 ≤ x.length := fun u hu => by
    have := escT_pos x.cps.toList 0 false (fun e => by cases e) u hu
    rw [hlen] at this; omega
  have hcnt : (escT x.cps.toList 0 false).length ≤ x.length + 1 := by
    have := escT_len x.cps.toList 0 false
    rwa [hlen] at this
  refine ExT.seq (SxT.forM (C := C) (k := k + 11) (F := fnF (fnS (stOf 3)) L a q cd) (tt := false) (g := escG) (us := escT x.cps.toList 0 false) (stS x rl) (stripStep x) (fun d s => StJ x d.length s) ⟨0, none, []⟩
    (ItE.cast (ItE.esc pg rfl (EvT.name rfl) rfl hx (by omega)) (escL_T _ _ _ fun e => by cases e)) tP (TgU.pair (by kernel_rfl) (by kernel_rfl) (by decide +kernel)) (fun u _ => ⟨_, _, rfl⟩) ⟨Nat.zero_le _, (fun p h => by cases h), Nat.le_refl _, fun y hy => by cases hy⟩ (fun d u rest s hs hJ => ⟨?_, ?_⟩) (P := one _) ⟨rfl, rfl⟩) fun o σ' h => ?_
  · rw [List.length_append]
    exact hJ.step (hpos u (by rw [hs]; simp))
  · obtain ⟨st, op, res⟩ := s
    obtain ⟨up, uc⟩ := u
    have hu := hpos (up, uc) (by rw [hs]; simp)
    obtain ⟨ja, jo, jn, jl⟩ := hJ
    dsimp only at ja jo jn jl hu
    have hdl : d.length ≤ x.length + 1 := by
      have := congrArg List.length hs
      simp at this
      omega
    have e0 : updP "pos" "ch" (escG (up, uc)) (stS x rl ⟨st, op, res⟩) = ([("addr", .pv (.str x)), ("start", .pv (.int (st : Int))), ("open_pos", .pv (StS.opv op)), ("result", .lst rl (res.map .str)), ("pos", .pv (.int (up : Int))), ("ch", .pv (.str uc))] : Sg) := by kernel_rfl
    rw [e0]
    refine ExT.last (SxT.ifB (uc == qt) (TsT.cmp (EvT.name rfl) EvT.strC CmpT.eqS (by kernel_rfl)) (fun hc => ?_) fun hc => ?_)
    · cases op with
      | none =>
        have e1 : stripStep x ⟨st, none, res⟩ (up, uc) = ⟨st, some up, res⟩ := by unfold stripStep; rw [if_pos hc]
        rw [e1]
        refine ExT.last (SxT.ifT (TsT.cmp (EvT.name rfl) EvT.noneC (CmpT.isNone true fun v X h r => by cases r; rfl) (by kernel_rfl)) ?_)
        refine ExT.seq1 (SxT.assign (EvT.name rfl) (by kernel_rfl)) (ExT.nil ⟨rfl, ?_⟩)
        unfold stS
        repeat (first | exact List.Sublist.slnil | refine List.Sublist.cons_cons _ ?_ | refine List.Sublist.cons _ ?_)
      | some o =>
        have ho := jo o rfl
        have e1 : stripStep x ⟨st, some o, res⟩ (up, uc) = ⟨up + 1, none, if (st : Int) != (o : Int) then res ++ [cutS x st o] else res⟩ := by unfold stripStep; rw [if_pos hc]
        rw [e1]
        refine ExT.last (SxT.ifF (TsT.cmp (EvT.name rfl) EvT.noneC (CmpT.isNone false fun v X h r => by cases r; rfl) (by kernel_rfl)) ?_)
        refine ExT.seq (SxT.ifB (P := one ([("addr", .pv (.str x)), ("start", .pv (.int (st : Int))), ("open_pos", .pv (.int (o : Int))), ("result", .lst rl ((if (st : Int) != (o : Int) then res ++ [cutS x st o] else res).map .str)), ("pos", .pv (.int (up : Int))), ("ch", .pv (.str uc))] : Sg)) ((st : Int) != (o : Int)) (TsT.cmp (EvT.name rfl) (EvT.name rfl) CmpT.neI (by kernel_rfl)) (fun hn => ?_) fun hn => ?_) fun o' σ' h => ?_
        · rw [if_pos hn, List.map_append]
          refine ExT.last (SxT.append rfl rfl (EvT.cut (EvT.name rfl) (EvT.name rfl) (EvT.name rfl) ja ho hsz) rfl (szl ?_))
          rw [List.length_map]; omega
        · rw [if_neg (by rw [hn]; decide)]
          exact ExT.nil ⟨rfl, rfl⟩
        · obtain ⟨rfl, rfl⟩ := h
          dsimp only
          refine ExT.seq1 (SxT.assign (p := .int ((up + 1 : Nat) : Int)) (EvT.cast (EvT.bin (EvT.name rfl) EvT.intC BinT.addI) rfl) (by kernel_rfl)) (ExT.seq1 (SxT.assign EvT.noneC (by kernel_rfl)) (ExT.nil ⟨rfl, ?_⟩))
          unfold stS
          repeat (first | exact List.Sublist.slnil | refine List.Sublist.cons_cons _ ?_ | refine List.Sublist.cons _ ?_)
    · have e1 : stripStep x ⟨st, op, res⟩ (up, uc) = ⟨st, op, res⟩ := by unfold stripStep; rw [if_neg (by rw [hc]; decide)]
      rw [e1]
      refine ExT.nil ⟨rfl, ?_⟩
      unfold stS
      repeat (first | exact List.Sublist.slnil | refine List.Sublist.cons_cons _ ?_ | refine List.Sublist.cons _ ?_)
  · obtain ⟨rfl, rfl⟩ := h
    dsimp only
    have hall : ∀ (us : List (Nat × Str)) (n : Nat) (s : StS), (∀ u ∈ us, u.1 + 1 ≤ x.length) → StJ x n s → StJ x (n + us.length) (us.foldl (stripStep x) s) := by
      intro us
      induction us with
      | nil => exact fun n s _ j => j
      | cons u us ih =>
        intro n s h j
        have := ih (n + 1) (stripStep x s u) (fun v hv => h v (List.mem_cons_of_mem _ hv)) (j.step (h u List.mem_cons_self))
        rw [List.foldl_cons, List.length_cons, show n + (us.length + 1) = n + 1 + us.length from by omega]
        exact this
    have hJ := hall _ 0 ⟨0, none, []⟩ hpos ⟨Nat.zero_le _, (fun p h => by cases h), Nat.le_refl _, fun y hy => by cases hy⟩
    have eO : stripOf x = Txt.join "" (stripRes x ((escT x.cps.toList 0 false).foldl (stripStep x) ⟨0, none, []⟩)) := by unfold stripOf; rw [if_neg hq]
    rw [eO]
    generalize (escT x.cps.toList 0 false).foldl (stripStep x) ⟨0, none, []⟩ = s at hJ ⊢
    obtain ⟨st, op, res⟩ := s
    obtain ⟨ja, jo, jn, jl⟩ := hJ
    dsimp only at ja jo jn jl
    have jr : ∀ y ∈ stripRes x ⟨st, op, res⟩, y.length ≤ x.length := by
      unfold stripRes
      dsimp only
      split
      · intro y hy
        rcases List.mem_append.mp hy with h | h
        · exact jl y h
        · rw [List.mem_singleton.mp h]; exact cutS_len x _ _
      · exact jl
    have jc : (stripRes x ⟨st, op, res⟩).length ≤ 1000 := by
      unfold stripRes
      dsimp only
      split
      · rw [List.length_append, List.length_singleton]; omega
      · omega
    have jk : JoinOk "" (stripRes x ⟨st, op, res⟩) = true := join_small jr (Nat.le_trans (Nat.mul_le_mul jc hl) (by decide))
    refine ExT.seq (SxT.ifB (P := one ([("addr", .pv (.str x)), ("start", .pv (.int (st : Int))), ("open_pos", .pv (StS.opv op)), ("result", .lst rl ((stripRes x ⟨st, op, res⟩).map .str))] : Sg)) (decide ((st : Int) < (x.length : Int))) (TsT.cmp (EvT.name rfl) (EvT.callB (pg.elen rfl) (EvL.cons (EvT.name rfl) EvL.nil rfl) rfl (CallT.lenS (by omega))) CmpT.ltI (by kernel_rfl)) (fun hn => ?_) fun hn => ?_) fun o' σ' h => ?_
    · have hn' : st < x.length := by simpa using hn
      have e1 : stripRes x ⟨st, op, res⟩ = res ++ [cutS x st x.length] := by unfold stripRes; rw [if_pos hn']
      rw [e1, List.map_append]
      refine ExT.last (SxT.append rfl rfl (EvT.cutFrom (EvT.name rfl) (EvT.name rfl) ja hsz) rfl (szl ?_))
      rw [List.length_map]; omega
    · have hn' : ¬ st < x.length := by simpa using hn
      have e1 : stripRes x ⟨st, op, res⟩ = res := by unfold stripRes; rw [if_neg hn']
      rw [e1]
      exact ExT.nil ⟨rfl, rfl⟩
    · obtain ⟨rfl, rfl⟩ := h
      dsimp only
      exact ExT.ret1 (EvT.lend (x := "result") rfl (EvT.callM EvT.strC (EvL.cons (EvT.name rfl) EvL.nil rfl) rfl PySem.F.plainAttrs_str PySem.F.slot_str_join PySem.F.type_str_join (strTy rfl) (CallT.join jk)) rfl)
theorem f_strip (pg : Pg C) (x : Str) (hx : x.cps.all (· < 128) = true) (hl : x.length ≤ 900) : FnT C (k + 12) (pg.fa 3) [.str x] (.str (stripOf x)) :=
  .mk (pg.fn 3 (by simp)) (fun L a q cd => w_strip pg L a q cd x hx hl) rfl (by kernel_rfl)
end
end Mine

end

section
open PySem
set_option linter.unusedVariables false
set_option maxRecDepth 100000
namespace Mine
open PySem.Builtin PySem.Calls

noncomputable def wsI : Stmt := ((fnB (stOf 8))[1]?).getD (.Pass default)
noncomputable def wsE : Stmt := ((fnB (stOf 8))[4]?).getD (.Pass default)

/-- what is known of the class Whitespace; its two class attributes can be read -/
structure WsAt (C : Cx) (K : Addr) extends ClsAt C K where
  rd : ∀ (x v : Str), (x, v) ∈ [(("S" : Str), (" " : Str)), ("T", "\t")] → ∀ (A : Around) (E : Value → Shared → Prop) (s : Shared) (Q : Value → Shared → Prop), (∀ b o, C.h₀.get? b = some o → s.heap.get? b = some o) →
    (∀ t s', Pas s s' → Q (.str v t) s') → wpAny C.M A (getAttr (.ref K) x true) Q E s
  fI : Addr
  fE : Addr
  hI : FnAt C fI (fnS wsI) (fnP wsI) (fnB wsI)
  hE : FnAt C fE (fnS wsE) (fnP wsE) (fnB wsE)
  cE : ∃ o, C.h₀.get? fE = some o ∧ o.cls = .type "function"
  mI : mN "__init__" = some (.ref fI)
  mE : mN "equal" = some (.ref fE)
  mO : ∀ x ∈ [("raw" : Str), "n", "nt", "norm", "is_simple"], mN x = none

section
variable {C : Cx} {k : Nat} {F : FE} {σ : Sg}
theorem EvT.attrC {K : Addr} (W : WsAt C K) {x px name v pos} (hf : EvV C k F σ (.Name x px) (.ref K)) (hv : (name, v) ∈ [(("S" : Str), (" " : Str)), ("T", "\t")]) : EvT C k F σ (.Attribute (.Name x px) name pos) (.str v) := .mk fun Wo A E s Q hA f h => by
  refine PyProof.Rows.Attribute_name (hf.run Wo A E s _ hA f fun s₁ p₁ => ?_)
  exact W.rd name v hv A E s₁ Q (f.pas p₁).base fun t s' p' => h _ _ (.str _ _) (p₁.trans p')
end
theorem noObj {n : Str} (h : n ∈ [("raw" : Str), "n", "nt", "norm", "is_simple"]) : typeLookup (.type "object") n = pure none := by
  simp only [List.mem_cons, List.not_mem_nil, or_false] at h
  rcases h with rfl | rfl | rfl | rfl | rfl <;> (rw [typeLookup_type, builtinLookup_eq_fast]; kernel_rfl)

/-- what __init__ counts -/
structure WsS where
  cnt : List Int
  b : Nat
  n : Nat
  nt : Nat
noncomputable def wsTab (s : WsS) : WsS :=
  let c := if s.cnt.length ≤ s.b then s.cnt ++ List.replicate (s.b - s.cnt.length + 1) 0 else s.cnt
  ⟨c.set s.b ((c[s.b]?).getD 0 + 1), 0, s.n + 1, s.nt + 1⟩
noncomputable def wsRun : List Nat → WsS → WsS
  | [], s => s
  | c :: r, s => if c = 32 then wsRun r { s with n := s.n + 1, b := s.b + 1 } else if c = 9 then wsRun r (wsTab s) else s
theorem wsTab_len {s : WsS} {i : Nat} (hb : s.b ≤ i) (hc : s.cnt.length ≤ i + 1) : (wsTab s).cnt.length ≤ i + 1 + 1 := by
  unfold wsTab
  simp only [List.length_set]
  split
  · rw [List.length_append, List.length_replicate]; omega
  · omega
theorem wsRun_len : ∀ (l : List Nat) (s : WsS) (i : Nat), s.b ≤ i → s.cnt.length ≤ i + 1 → (wsRun l s).cnt.length ≤ i + 1 + l.length
  | [], s, i, hb, hc => by simp only [wsRun, List.length_nil]; omega
  | c :: r, s, i, hb, hc => by
    unfold wsRun
    split
    · have := wsRun_len r { s with n := s.n + 1, b := s.b + 1 } (i + 1) (Nat.succ_le_succ hb) (Nat.le_succ_of_le hc)
      rw [List.length_cons]; omega
    · split
      · have := wsRun_len r (wsTab s) (i + 1) (Nat.zero_le _) (wsTab_len hb hc)
        rw [List.length_cons]; omega
      · rw [List.length_cons]; omega
noncomputable def wsOf (x : Str) : WsS := wsRun x.cps.toList ⟨[], 0, 0, 0⟩
noncomputable def normOf (s : WsS) : PV := .tup [.tup (s.cnt.map .int), .int (s.b : Int)]

section
variable {C : Cx} {k : Nat}
noncomputable def wsS (o d K : Addr) (x : Str) (rl : Addr) (s : WsS) : Sg := [("self", .ob o d K [("raw", .str x)]), ("ws", .pv (.str x)), ("T", .pv (.str "\t")), ("S", .pv (.str " ")), ("count", .lst rl (s.cnt.map .int)), ("b", .pv (.int (s.b : Int))), ("n", .pv (.int (s.n : Int))), ("nt", .pv (.int (s.nt : Int)))]
theorem w_init {K : Addr} (W : WsAt C K) (pg : Pg C) (hK : C.mg "Whitespace" = some (.ref K)) (L a : Addr) (q : Str) (cd : Value) (x : Str) (o d : Addr) (hx : x.cps.all (· < 128) = true) (hl : x.length ≤ 900) :
    ExT C k (fnF (fnS wsI) L a q cd) [("self", .ob o d K []), ("ws", .pv (.str x))] (fnB wsI) (fun r σ' => r = .nx ∧ ∃ ps, σ'.lookup ("self" : Str) = some (Bd.ob o d K ps) ∧ (("norm" : Str), normOf (wsOf x)) ∈ ps ∧ ("equal" : Str) ∉ ps.map (·.1)) := by
  conv => enter [5]; whnf
  refine ExT.seq1 (SxT.setO W.toClsAt rfl (by kernel_rfl) List.nodup_nil (by decide) (EvT.name rfl) (W.mO _ (by simp)) (noObj (by simp))) ?_
  refine ExT.seq1 (SxT.assignSw (p := .str " ") (q := .str "\t") (EvT.tupD (EvL.cons (EvT.attrC W (EvV.global (by kernel_rfl) hK) (by simp)) (EvL.cons (EvT.attrC W (EvV.global (by kernel_rfl) hK) (by simp)) EvL.nil rfl) rfl)) (by kernel_rfl) (by kernel_rfl)) ?_
  refine ExT.seq (SxT.newList rfl) fun r σ' h => ?_
  obtain ⟨rfl, rl, rfl⟩ := h
  dsimp only
  refine ExT.seq1 (SxT.assign3I (by kernel_rfl) (by kernel_rfl) (by kernel_rfl)) ?_
  have e0 : put (put (put (put (put (put (put ([("self", .ob o d K []), ("ws", .pv (.str x))] : Sg) "self" (.ob o d K (putF [] "raw" (.str x)))) "T" (.pv (.str "\t"))) "S" (.pv (.str " "))) "count" (.lst rl [])) "b" (.pv (.int 0))) "n" (.pv (.int 0))) "nt" (.pv (.int 0)) = wsS o d K x rl ⟨[], 0, 0, 0⟩ := by kernel_rfl
  refine (congrArg (fun z => ExT C k _ z _ _) e0).mpr ?_
  refine ExT.seq (SxT.forN (P := fun r σ' => r = .nx ∧ ∃ rl, wsS o d K x rl (wsOf x) |>.Sublist σ') (fun i σ => ∃ s rl, σ = wsS o d K x rl s ∧ wsRun (x.cps.toList.drop i) s = wsOf x ∧ s.b ≤ i ∧ s.cnt.length ≤ i + 1) (fun i => updN "ch" ((chars x)[i]?.getD .none)) (ItE.str (EvT.attrO W.toClsAt rfl (by simp) (W.mO _ (by simp)) (noObj (by simp))) hx) tN ⟨_, _, rfl, rfl, Nat.le_refl _, Nat.zero_le _⟩ (fun i y hy => ?_) (fun i y σ hy hI => ?_) (fun σ hI => ?_)) fun r σ' h => ?_
  · rw [hy]; exact TgT.name (by kernel_rfl)
  · obtain ⟨s, rl, rfl, hr, hb, hc⟩ := hI
    obtain ⟨c, hci, rfl⟩ : ∃ c, x.cps.toList[i]? = some c ∧ y = .str ⟨#[c]⟩ := by
      unfold chars at hy
      rw [List.getElem?_map] at hy
      obtain ⟨c, h1, h2⟩ := Option.map_eq_some_iff.mp hy
      exact ⟨c, h1, h2.symm⟩
    have hil : i < x.cps.toList.length := (List.getElem?_eq_some_iff.mp hci).1
    have hd : x.cps.toList.drop i = c :: x.cps.toList.drop (i + 1) := by
      rw [List.drop_eq_getElem_cons hil, (List.getElem?_eq_some_iff.mp hci).2]
    rw [hd] at hr
    have e1 : updN "ch" ((chars x)[i]?.getD .none) (wsS o d K x rl s) = (wsS o d K x rl s ++ ([("ch", .pv (.str ⟨#[c]⟩))] : Sg) : Sg) := by rw [hy]; kernel_rfl
    rw [e1]
    refine ExT.sub (P := fun r σ' => (r = .nx ∧ ∃ s' rl', (wsS o d K x rl' s').Sublist σ' ∧ wsRun (x.cps.toList.drop (i + 1)) s' = wsOf x ∧ s'.b ≤ i + 1 ∧ s'.cnt.length ≤ i + 1 + 1) ∨ (r = .br ∧ (wsS o d K x rl s).Sublist σ' ∧ wsOf x = s)) ?_ (fun r σ' h => ?_)
    · have ceq : ∀ n : Nat, ((⟨#[c]⟩ : Str) == ⟨#[n]⟩) = (c == n) := fun n => by
        by_cases h : c = n
        · subst h; simp
        · rw [beq_eq_false_iff_ne.mpr h, beq_eq_false_iff_ne]
          intro e
          exact h (by simpa using e)
      have sS : (" " : Str) = ⟨#[32]⟩ := by decide +kernel
      have sT : ("\t" : Str) = ⟨#[9]⟩ := by decide +kernel
      refine ExT.last (SxT.ifB (c == 32) (TsT.cast (TsT.cmp (EvT.name rfl) (EvT.name rfl) CmpT.eqS (by kernel_rfl)) (by rw [sS, ceq])) (fun h => ?_) fun h => ?_)
      · have hc32 : c = 32 := by simpa using h
        unfold wsRun at hr
        rw [if_pos hc32] at hr
        refine ExT.seq1 (SxT.assign (p := .int ((s.n + 1 : Nat) : Int)) (EvT.cast (EvT.bin (EvT.name rfl) EvT.intC BinT.addI) rfl) (by kernel_rfl)) (ExT.seq1 (SxT.assign (p := .int ((s.b + 1 : Nat) : Int)) (EvT.cast (EvT.bin (EvT.name rfl) EvT.intC BinT.addI) rfl) (by kernel_rfl)) (ExT.nil (.inl ⟨rfl, _, rl, ?_, hr, Nat.succ_le_succ hb, Nat.le_succ_of_le hc⟩)))
        unfold wsS
        repeat (first | exact List.Sublist.slnil | refine List.Sublist.cons_cons _ ?_ | refine List.Sublist.cons _ ?_)
      · have hc32 : ¬ c = 32 := by simpa using h
        unfold wsRun at hr
        rw [if_neg hc32] at hr
        refine ExT.last (SxT.ifB (c == 9) (TsT.cast (TsT.cmp (EvT.name rfl) (EvT.name rfl) CmpT.eqS (by kernel_rfl)) (by rw [sT, ceq])) (fun h => ?_) fun h => ?_)
        · have hc9 : c = 9 := by simpa using h
          rw [if_pos hc9] at hr
          have hcl : s.cnt.length ≤ 1000 := by
            have h2 : x.cps.toList.length = x.length := by simp [Str.length]
            omega
          have hbl : s.b ≤ 1000 := by
            have h2 : x.cps.toList.length = x.length := by simp [Str.length]
            omega
          refine ExT.seq1 (SxT.assign (p := .int ((s.n + 1 : Nat) : Int)) (EvT.cast (EvT.bin (EvT.name rfl) EvT.intC BinT.addI) rfl) (by kernel_rfl)) ?_
          refine ExT.seq1 (SxT.assign (p := .int ((s.nt + 1 : Nat) : Int)) (EvT.cast (EvT.bin (EvT.name rfl) EvT.intC BinT.addI) rfl) (by kernel_rfl)) ?_
          have hlm : (s.cnt.map PV.int).length = s.cnt.length := List.length_map ..
          refine ExT.seq (SxT.ifB (P := fun r σ' => r = .nx ∧ ∃ rl', σ' = (wsS o d K x rl' ⟨if s.cnt.length ≤ s.b then s.cnt ++ List.replicate (s.b - s.cnt.length + 1) 0 else s.cnt, s.b, s.n + 1, s.nt + 1⟩ ++ ([("ch", .pv (.str ⟨#[c]⟩))] : Sg) : Sg)) (decide (s.cnt.length ≤ s.b)) (TsT.cast (TsT.cmp (EvT.name rfl) (EvT.lend (x := "count") rfl (EvT.callB (pg.elen rfl) (EvL.cons (EvT.name rfl) EvL.nil rfl) rfl (CallT.lenL (by omega))) rfl) CmpT.geI (by kernel_rfl)) (decide_eq_decide.mpr (by omega))) (fun h => ?_) fun h => ?_) fun r σ' h => ?_
          · have h' : s.cnt.length ≤ s.b := by simpa using h
            rw [if_pos h']
            refine ExT.last (SxT.mono (SxT.addO (x := "count") (ys := (List.replicate (s.b - s.cnt.length + 1) (0 : Int)).map PV.int) rfl (by kernel_rfl) (EvT.cast (EvT.bin (EvT.listD (EvL.cons EvT.intC EvL.nil rfl)) (EvT.bin (EvT.bin (EvT.name rfl) (EvT.callB (pg.elen rfl) (EvL.cons (EvT.name rfl) EvL.nil rfl) rfl (CallT.lenL (by omega))) BinT.subI) EvT.intC BinT.addI) (BinT.mulL ?_ ?_ ?_)) ?_) ?_ ?_) fun r σ' h => ?_)
            · rw [List.length_singleton]; omega
            · omega
            · omega
            · have e3 : ((s.b : Int) - ((s.cnt.map PV.int).length : Int) + 1).toNat = s.b - s.cnt.length + 1 := by omega
              rw [e3, List.map_replicate]
              congr 1
              simp [List.flatten_replicate_singleton]
            · rw [List.length_map, List.length_map, List.length_replicate]; exact szl (by omega)
            · simp [PV.flat]
            · obtain ⟨rfl, a', rfl⟩ := h
              refine ⟨rfl, a', ?_⟩
              rw [← List.map_append]
              kernel_rfl
          · have h' : ¬ s.cnt.length ≤ s.b := by simpa using h
            rw [if_neg h']
            exact ExT.nil ⟨rfl, rl, by kernel_rfl⟩
          · obtain ⟨rfl, rl', rfl⟩ := h
            dsimp only
            obtain ⟨cn, hcn⟩ : ∃ cn, cn = (if s.cnt.length ≤ s.b then s.cnt ++ List.replicate (s.b - s.cnt.length + 1) 0 else s.cnt) := ⟨_, rfl⟩
            rw [← hcn]
            have hbl2 : s.b < cn.length := by
              rw [hcn]
              split
              · rw [List.length_append, List.length_replicate]; omega
              · omega
            have hw : wsTab s = ⟨cn.set s.b ((cn[s.b]?).getD 0 + 1), 0, s.n + 1, s.nt + 1⟩ := by unfold wsTab; rw [← hcn]
            have hg : cn[s.b]? = some cn[s.b] := List.getElem?_eq_getElem hbl2
            refine ExT.seq1 (SxT.setItemO (x := "count") (j := s.b) (p := .int (cn[s.b] + 1)) rfl (by kernel_rfl) (EvT.bin (EvT.sub (EvT.name rfl) (EvT.name rfl) (SubT.listI (x := .int cn[s.b]) (i := (s.b : Int)) (show (0 : Int) ≤ (s.b : Int) from by omega) (show (s.b : Int) < 2 ^ 63 from by omega) ?_)) EvT.intC BinT.addI) rfl (EvT.name rfl) (by rw [List.length_map]; exact hbl2) (show (s.b : Int) < 2 ^ 63 from by omega)) ?_
            · rw [show ((s.b : Int)).toNat = s.b from by omega, List.getElem?_map, hg]; rfl
            · refine ExT.seq1 (SxT.assign EvT.intC (by kernel_rfl)) (ExT.nil (.inl ⟨rfl, wsTab s, rl', ?_, hr, Nat.zero_le _, wsTab_len hb hc⟩))
              rw [hw, hg]
              unfold wsS
              dsimp only [Option.getD_some]
              rw [List.map_set]
              repeat (first | exact List.Sublist.slnil | refine List.Sublist.cons_cons _ ?_ | refine List.Sublist.cons _ ?_)
        · have hc9 : ¬ c = 9 := by simpa using h
          rw [if_neg hc9] at hr
          refine ExT.seq SxT.brk fun r σ' h => ?_
          obtain ⟨rfl, rfl⟩ := h
          refine .inr ⟨rfl, ?_, hr.symm⟩
          exact List.sublist_append_left _ _
    · rcases h with ⟨rfl, s', rl', hs, h1⟩ | ⟨rfl, hs, e⟩
      · exact ⟨_, hs, s', rl', rfl, h1⟩
      · exact ⟨_, hs, rfl, rl, by rw [e]; exact List.Sublist.refl _⟩
  · obtain ⟨s, rl', rfl, hr, _, _⟩ := hI
    refine ⟨rfl, rl', ?_⟩
    have hlen : (chars x).length = x.cps.toList.length := by simp [chars]
    rw [hlen, List.drop_length] at hr
    rw [← hr]
    exact List.Sublist.refl _
  · obtain ⟨rfl, rl', hs⟩ := h
    dsimp only
    refine ExT.pre hs ?_
    have hcz : ((wsOf x).cnt.map PV.int).length ≤ 1000 := by
      rw [List.length_map]
      have h1 := wsRun_len x.cps.toList ⟨[], 0, 0, 0⟩ 0 (Nat.le_refl _) (Nat.zero_le _)
      have h2 : x.cps.toList.length = x.length := by simp [Str.length]
      unfold wsOf
      omega
    refine ExT.seq1 (SxT.setO W.toClsAt rfl (by kernel_rfl) (of_decide_eq_true (by kernel_rfl)) (of_decide_eq_true (by kernel_rfl)) (EvT.name rfl) (W.mO _ (by simp)) (noObj (by simp))) ?_
    refine ExT.seq1 (SxT.setO W.toClsAt rfl (by kernel_rfl) (of_decide_eq_true (by kernel_rfl)) (of_decide_eq_true (by kernel_rfl)) (EvT.name rfl) (W.mO _ (by simp)) (noObj (by simp))) ?_
    refine ExT.seq1 (SxT.setO (p := normOf (wsOf x)) W.toClsAt rfl (by kernel_rfl) (of_decide_eq_true (by kernel_rfl)) (of_decide_eq_true (by kernel_rfl)) (EvT.tupD (EvL.cons (EvT.tupleO rfl (pg.etuple rfl) (szl (by omega))) (EvL.cons (EvT.name rfl) EvL.nil rfl) rfl)) (W.mO _ (by simp)) (noObj (by simp))) ?_
    refine ExT.seq1 (SxT.setO (p := .bool (decide (((wsOf x).cnt.map PV.int).length ≤ 1))) W.toClsAt rfl (by kernel_rfl) (of_decide_eq_true (by kernel_rfl)) (of_decide_eq_true (by kernel_rfl)) ?_ (W.mO _ (by simp)) (noObj (by simp))) ?_
    · refine EvT.cast (EvT.cmp (EvT.lend (x := "count") rfl (EvT.callB (pg.elen rfl) (EvL.cons (EvT.name rfl) EvL.nil rfl) rfl (CallT.lenL (by omega))) rfl) EvT.intC CmpT.leI (by kernel_rfl)) ?_
      congr 1
      exact decide_eq_decide.mpr (by omega)
    · exact ExT.nil ⟨rfl, [("raw", .str x), ("n", .int ((wsOf x).n : Int)), ("nt", .int ((wsOf x).nt : Int)), ("norm", normOf (wsOf x)), ("is_simple", .bool (decide (((wsOf x).cnt.map PV.int).length ≤ 1)))], by kernel_rfl, by simp, of_decide_eq_true (by kernel_rfl)⟩
end
end Mine

end

section
open PySem
set_option linter.unusedVariables false
set_option maxRecDepth 100000
namespace Mine
open PySem.Builtin PySem.Calls

section
variable {C : Cx} {k : Nat} {F : FE} {σ : Sg}
theorem EvT.attrW {K : Addr} (W : WsAt C K) {x px pos n} (hb : σ.lookup x = some (.pv (.ws K n)))
    (hd : (x == ("__debug__" : Str)) = false := by decide +kernel) (hc : (x == ("__classdict__" : Str)) = false := by decide +kernel) :
    EvT C k F σ (.Attribute (.Name x px) "norm" pos) n := .mk fun Wo A E s Q hA f h => by
  refine PyProof.Rows.Attribute_name (wpAny_Name (loadName_bd hb f hc fun v hv => ?_) hd)
  cases hv with
  | pv hv =>
    cases hv with
    | ws h1 h2 h3 h4 h5 h6 h7 r h9 h10 h11 =>
      obtain ⟨hh, g, dw, t, os⟩ := s
      refine load_attr (f.base _ _ W.hC) (W.hn.keeps f.base) W.hga (W.mO _ (by simp)) (noObj (by simp)) ⟨_, h1, h2, h9, .inr ⟨_, h3, h10, h6⟩⟩ h7 ?_ (h _ _ r .tok)
      cases r <;> rfl
theorem w_equal {K : Addr} (W : WsAt C K) (L a : Addr) (q : Str) (cd : Value) {p r : PV} {d e : PyData} (hp : p.py = some d) (hr : r.py = some e) (hd : SeqAt.shaped d = true) (he : SeqAt.shaped e = true) :
    ExT C k (fnF (fnS wsE) L a q cd) [("self", .pv (.ws K p)), ("other", .pv (.ws K r))] (fnB wsE) (fun o _ => o = .rt (.bool (PyData.eqv d e))) := by
  conv => enter [5]; whnf
  exact ExT.ret1 (EvT.cmp (EvT.attrW W rfl) (EvT.attrW W rfl) (CmpT.eqD hp hr hd he) (by kernel_rfl))
theorem f_equal {K : Addr} (W : WsAt C K) {p r : PV} {d e : PyData} (hp : p.py = some d) (hr : r.py = some e) (hd : SeqAt.shaped d = true) (he : SeqAt.shaped e = true) : FnT C (k + 1) W.fE [.ws K p, .ws K r] (.bool (PyData.eqv d e)) :=
  .mk W.hE (fun L a q cd => w_equal W L a q cd hp hr hd he) rfl (by kernel_rfl)
theorem EvT.callEq {K : Addr} (W : WsAt C K) {x px apos e pos p r d d'} (hb : σ.lookup x = some (.pv (.ws K p))) (he : EvT C k F σ e (.ws K r)) (hpl : plainE e = true) (hp : p.py = some d) (hr : r.py = some d') (hd : SeqAt.shaped d = true) (hd' : SeqAt.shaped d' = true) (hk : 1 ≤ k)
    (hB : typeLookup (.type "object") "equal" = pure none)
    (hx1 : (x == ("__debug__" : Str)) = false := by decide +kernel) (hx2 : (x == ("__classdict__" : Str)) = false := by decide +kernel)
    (hcall : ∃ pl, eval (.Call (.Attribute (.Name x px) "equal" apos) [e] [] pos) F.env = (do
      let ov ← eval (.Name x px) F.env
      standAt apos.atName
      let (f, first) ← holding [ov] (getMethod ov "equal" pl)
      callWith pos f first (backTo pos (starEach [e] F.env)) []) := by exact ⟨_, rfl⟩) :
    EvT C k F σ (.Call (.Attribute (.Name x px) "equal" apos) [e] [] pos) (.bool (PyData.eqv d d')) := .mk fun Wo A E s Q hA f h => by
  obtain ⟨pl, hcall⟩ := hcall
  obtain ⟨k', rfl⟩ : ∃ k', k = k' + 1 := ⟨k - 1, by omega⟩
  have fe := f_equal (k := k') W hp hr hd hd'
  obtain ⟨o, fd, ho, hdt, hbody, hsc, hgl, hbi, hcl, hcd, hbind⟩ := W.hE
  refine PyProof.Rows.MethodCall_ (pl := pl) (wpAny_Name (loadName_bd hb f hx2 fun v hv => ?_) hx1) hcall
  cases hv with
  | pv hv =>
    have hv0 := hv
    cases hv with
    | ws h1 h2 h3 h4 h5 h6 h7 rr h9 h10 h11 =>
      obtain ⟨oE, hoE, hcE⟩ := W.cE
      obtain ⟨hh, g, dw, t, os⟩ := s
      refine PySem.method_of (f.base _ _ W.hC) (W.hn.keeps f.base) W.hga W.hgt W.mE (f.base _ _ hoE) hcE hB ⟨_, h1, h2, h9, .inr ⟨_, h3, h10, h6⟩⟩ h11 ?_
      dsimp only
      refine callWith_function (o := o) (fd := fd) ((EvL.cons he EvL.nil hpl : EvL C (k' + 1) F σ [e] pos [.ws K r]).args hpl hA f fun vs s₂ hvs p₂ => ?_)
      have f₂ := f.pas p₂
      refine ⟨⟨f₂.base _ _ ho, hdt⟩, wpAny_call (fe _ A s₂ (_ :: vs) _ hA f₂.base f₂.wbnd (.cons (hv0.ext p₂.keep) hvs) fun v s₃ hv p₃ => ?_)⟩
      exact h _ _ hv (p₂.trans p₃)
end
end Mine

end

section
open PySem
set_option linter.unusedVariables false
set_option maxRecDepth 100000
namespace Mine
open PySem.Builtin PySem.Calls PySem.W

/-- the class can be called -/
structure WmAt (C : Cx) (K : Addr) extends WsAt C K where
  eab : ab = false
  eid : newId = "object.__new__"
  mks : Makes C.M C.h₀ K
  ini : Looks C.M C.h₀ (typeLookup (.ref K) "__init__") (some (.ref fI))
  bd : ∀ self, Looks C.M C.h₀ (bindSpecial (.ref fI) self) (.ref fI, [self])
theorem makes_keeps {M : Model} {h h' : Heap} {K : Addr} (m : Makes M h K) (k : ∀ b o, h.get? b = some o → h'.get? b = some o) : Makes M h' K where
  obj := let ⟨oc, od, cd, sl, e, r⟩ := m.obj; ⟨oc, od, cd, sl, k _ _ e, r⟩
  made := m.made.keeps k
  base := m.base.keeps k
  self := m.self.keeps k
  top := m.top.keeps k
  call := m.call.keeps k
  typ := m.typ.keeps k
theorem room_make {A : Around} {k : Nat} {K : Addr} {vs : List Value} (r : Room A (k + 1)) : Room (A.under (.builtin "type.__call__" ⟨.ref K :: vs, []⟩)) k :=
  ⟨r.hh, by have := r.dp; show A.depth + 1 + k ≤ 400; omega, by have := r.un; show A.units + 1 + 20 * k ≤ 9000; omega⟩

section
variable {C : Cx} {k : Nat}
theorem ob_fm {Wo : Addr → Prop} {s s₁ : Shared} {sc : Scope} {x d K : Addr} {tv : Value} {t : Str} {a : Addr} {q : Str} {cd : Value} (hk : sc.kind = .function) (hl1 : sc.names.lookup ("self" : Str) = some .local) (hl2 : sc.names.lookup ("ws" : Str) = some .local)
    (hm : ∀ n, cellsFrom n sc.names [] = []) (hmn : mineOf sc = [])
    (hbase : ∀ b o, C.h₀.get? b = some o → s.heap.get? b = some o) (hb : ∀ b, Wo b → b < d) (hr : Rp C s.heap Wo tv (.str t)) (hx0 : C.h₀.get? x = none) (hd0 : C.h₀.get? d = none) (hdx : d < x)
    (hxo : s.heap.get? x = some (instObj K d)) (hdo : s.heap.get? d = some emptyDict)
    (x₁ : InCallC s (fnE sc s.heap.objs.size a q cd).locals (bindL (fnE sc s.heap.objs.size a q cd).kindOf (([("self" : Str), "ws"]).zip [.ref x, tv]) fun _ => none) (fnE sc s.heap.objs.size a q cd).cells (bindC (fnE sc s.heap.objs.size a q cd).kindOf (([("self" : Str), "ws"]).zip [.ref x, tv]) fun _ => none) s₁) :
    Fm C Wo (fnF sc s.heap.objs.size a q cd) [("self", .ob x d K []), ("ws", .pv (.str t))] s₁.heap ∧ Pas s s₁ ∧ ∀ b, own (fnF sc s.heap.objs.size a q cd) [("self", .ob x d K []), ("ws", .pv (.str t))] b → d ≤ b := by
  have hns := x₁.toInCall.ns
  have hLlt : s.heap.objs.size < s₁.heap.objs.size := hns.lt
  have kp : Kp (fun _ => False) s.heap s₁.heap := ⟨fun b o _ e => x₁.toInCall.keep b o e, Nat.le_of_lt hLlt⟩
  have hxl := Heap.lt_size hxo
  have hdl := Heap.lt_size hdo
  have hce : (fnE sc s.heap.objs.size a q cd).cells = [] := hm _
  have hown : ∀ b, own (fnF sc s.heap.objs.size a q cd) [("self", .ob x d K []), ("ws", .pv (.str t))] b → b = s.heap.objs.size ∨ b = x ∨ b = d := fun b o => by
    rcases o with o | ⟨y, hy, o⟩ | ⟨y, hy, o⟩
    · exact .inl o
    · rw [show (fnF sc s.heap.objs.size a q cd).mine = [] from hmn] at hy; cases hy
    · rcases List.mem_cons.mp hy with e | e
      · subst e; exact .inr o
      · rw [List.mem_singleton] at e; subst e; exact o.elim
  have h0 : C.h₀.get? s.heap.objs.size = none := by
    cases e : C.h₀.get? s.heap.objs.size with
    | none => rfl
    | some o => exact absurd (Heap.lt_size (hbase _ _ e)) (Nat.lt_irrefl _)
  have hxv : ((([("self" : Str), "ws"]).zip [.ref x, tv]).map (·.1)).Nodup := of_decide_eq_true (by kernel_rfl)
  have hX : ∀ b, Wx Wo (fnF sc s.heap.objs.size a q cd) [("self", .ob x d K []), ("ws", .pv (.str t))] b → Wo b ∨ (b = s.heap.objs.size ∨ b = x ∨ b = d) := fun b q => q.imp id (hown b)
  obtain ⟨h', tk, hs1⟩ := x₁.toInCall.same
  refine ⟨⟨hk, rfl, rfl, fun b o e => x₁.toInCall.keep b o (hbase b o e), ⟨_, hns, fun y b hy => ?_⟩, fun y hy => ?_, fun y hy => ?_, fun p hp => ?_, of_decide_eq_true (by kernel_rfl), fun b q => ?_, fun b q => Nat.lt_trans (hb b q) (Nat.lt_trans hdl hLlt), fun y z b hy hz h1 h2 => ?_, fun y hy b hbo => ?_⟩, ?_, fun b o => ?_⟩
  · rcases List.mem_cons.mp hy with e | e
    · cases e
      refine ⟨.ref x, .inl ⟨hl1, bindL_hit hxv (by simp) hl1⟩, .ob (o := instObj K d) (m := fun _ => none) (x₁.toInCall.keep _ _ hxo) rfl rfl (fun c => by simp) (Nat.ne_of_lt hdx) ?_ (fun n p hp => by cases hp) fun _ _ => rfl⟩
      exact (Heap.Ns1.of_empty ⟨_, #[], _, hdo, rfl, fun e he => absurd he (by simp), fun _ => rfl⟩ : s.heap.Ns1 d _).at fun o e => x₁.toInCall.keep _ _ e
    · rw [List.mem_singleton] at e
      cases e
      refine ⟨tv, .inl ⟨hl2, bindL_hit hxv (by simp) hl2⟩, .pv ?_⟩
      cases hr; exact .str _ _
  · rw [show (fnF sc s.heap.objs.size a q cd).mine = [] from hmn] at hy; cases hy
  · rw [show (fnF sc s.heap.objs.size a q cd).mine = [] from hmn] at hy; cases hy
  · rw [show (fnF sc s.heap.objs.size a q cd).env.cells = [] from hce] at hp; cases hp
  · rcases hown b q with rfl | rfl | rfl
    · exact h0
    · exact hx0
    · exact hd0
  · rcases List.mem_cons.mp hy with e | e
    · rcases List.mem_cons.mp hz with e' | e'
      · rw [e, e']
      · rw [List.mem_singleton] at e'; subst e'; exact h2.elim
    · rw [List.mem_singleton] at e; subst e; exact h1.elim
  · rcases List.mem_cons.mp hy with e | e
    · subst e
      refine ⟨?_, ?_, fun w => ?_⟩
      · rcases hbo with rfl | rfl
        · exact Nat.ne_of_lt hxl
        · exact Nat.ne_of_lt hdl
      · intro c hc
        rw [show (fnF sc s.heap.objs.size a q cd).env.cells = [] from hce] at hc; cases hc
      · have := hb b w
        rcases hbo with rfl | rfl
        · exact Nat.lt_irrefl _ (Nat.lt_trans hdx this)
        · exact Nat.lt_irrefl _ this
    · rw [List.mem_singleton] at e; subst e; exact hbo.elim
  · have hh : s₁.heap = h' := by rw [hs1]
    rw [hh] at kp
    rw [hs1]
    exact .of_heap kp
  · rcases hown b o with rfl | rfl | rfl
    · exact Nat.le_of_lt hdl
    · exact Nat.le_of_lt hdx
    · exact Nat.le_refl _

theorem make_w {K : Addr} (W : WmAt C K) (pg : Pg C) (hK : C.mg "Whitespace" = some (.ref K)) {t : Str} (hx : t.cps.all (· < 128) = true) (hl : t.length ≤ 900) {Wo : Addr → Prop} {A : Around} {s : Shared} {tv : Value} {R : Result → Shared → Prop}
    (hA : Room A (k + 2)) (hbase : ∀ b o, C.h₀.get? b = some o → s.heap.get? b = some o) (hb : Bdd Wo s.heap) (hr : Rp C s.heap Wo tv (.str t))
    (hR : ∀ v s', Rp C s'.heap Wo v (.ws K (normOf (wsOf t))) → Pas s s' → R (.ok (.ret v)) s') : codeAny C.M A (.call (.ref K) ⟨[tv], []⟩) R s := by
  obtain ⟨h, g, dw, tk, os⟩ := s
  refine make_core (makes_keeps W.mks hbase) (W.ini.keeps hbase) (fun self => (W.bd self).keeps hbase) (.inl rfl) ?_
  obtain ⟨o, fd, ho, hd, hbody, hsc, hgl, hbi, hcl, hcd, hbind⟩ := W.hI
  have kk : ∀ b o, h.get? b = some o → ((h.push emptyDict).push (instObj K h.objs.size)).get? b = some o := fun b o e => Heap.get?_push_of_some _ (Heap.get?_push_of_some _ e)
  have hbase' : ∀ b o, C.h₀.get? b = some o → ((h.push emptyDict).push (instObj K h.objs.size)).get? b = some o := fun b o e => kk b o (hbase b o e)
  have hA1 := room_make (K := K) (vs := [tv]) hA
  generalize hh : (h.push emptyDict).push (instObj K h.objs.size) = h' at *
  have hxo : h'.get? (h.objs.size + 1) = some (instObj K h.objs.size) := by rw [← hh]; heap_get
  have hdo : h'.get? h.objs.size = some emptyDict := by rw [← hh]; exact Heap.get?_push_of_some _ (Heap.get?_push_at rfl rfl)
  have hsz : h.objs.size ≤ h'.objs.size := by rw [← hh]; simp only [Heap.size_push]; omega
  have p0 : Pas ⟨h, g, dw, tk, os⟩ ⟨h', g, dw, tk, os⟩ := .of_heap0 ⟨fun b o _ e => kk b o e, hsz⟩
  have h0 : ∀ b, h.objs.size ≤ b → C.h₀.get? b = none := fun b q => by
    cases e : C.h₀.get? b with
    | none => rfl
    | some o => exact absurd (Heap.lt_size (hbase b o e)) (Nat.not_lt.mpr q)
  have eP : fnP wsI = [("self" : Str), "ws"] := by kernel_rfl
  have hfk : (fnS wsI).kind = .function := by kernel_rfl
  have hl1 : (fnS wsI).names.lookup ("self" : Str) = some .local := by kernel_rfl
  have hl2 : (fnS wsI).names.lookup ("ws" : Str) = some .local := by kernel_rfl
  have hck : ∀ n, cellsFrom n (fnS wsI).names [] = [] := fun n => by kernel_rfl
  have hee : callEnvC fd h'.objs.size W.fI = fnE (fnS wsI) h'.objs.size W.fI (fd.qualname ++ ".<locals>.") fd.code := by
    unfold callEnvC fnE; rw [hsc, hgl, hbi]
  refine codeAny_call_cells (o := o) (fd := fd) (body := fnB wsI) (binds := ([("self" : Str), "ws"]).zip [.ref (h.objs.size + 1), tv]) hA1.d (hbase' _ _ ho) hd (C.lim.keeps hbase') ?_ hbody (by rw [← eP]; exact hbind _ rfl) hcl (fun y hy => ?_) (fun s₁ x => ?_) (by rw [hsc]; kernel_rfl) (by rw [hsc]; kernel_rfl) (by rw [hsc]; exact hfk)
  · exact hcd.keeps hbase'
  · rw [hsc]
    rcases List.mem_cons.mp hy with e | e
    · subst e; exact .inl hl1
    · rcases List.mem_cons.mp e with e | e
      · subst e; exact .inl hl2
      · cases e
  · rw [hee] at x ⊢
    have hr' : Rp C h' Wo tv (.str t) := by cases hr; exact .str _ _
    obtain ⟨f, p, hown⟩ := ob_fm (C := C) (K := K) hfk hl1 hl2 hck (by kernel_rfl) hbase' (fun b w => hb b w) hr' (h0 _ (Nat.le_succ _)) (h0 _ (Nat.le_refl _)) (Nat.lt_succ_self _) hxo hdo x
    refine wpAny_mono ((w_init (k := k) W.toWsAt pg hK h'.objs.size W.fI (fd.qualname ++ ".<locals>.") fd.code t (h.objs.size + 1) h.objs.size hx hl).run Wo (Around.deeper _ (fnE (fnS wsI) h'.objs.size W.fI (fd.qualname ++ ".<locals>.") fd.code)) _ s₁ (hA1.deeper _) f) (fun fl s' e => ?_) fun _ _ e => e
    obtain ⟨o', σ', ⟨rfl, ps, hself, hnorm, heq⟩, q, f', st, _⟩ := e.ex
    cases fl <;> first | exact q.elim | skip
    have hmem := mem_of_lookup hself
    obtain ⟨m, hn, hmm⟩ := f'.names
    obtain ⟨v, hp, hv⟩ := hmm _ _ hmem
    have hoff := fun b (hb : b = h.objs.size + 1 ∨ b = h.objs.size) => (f'.off _ hmem b hb).2.2
    refine ⟨rfl, hR _ _ ?_ (Stp.trans (p0.trans p) st (fun b q => .inr (hown b q)) fun _ (z : False) => z.elim)⟩
    · cases hv with
      | ob h1 h2 h3 h4 h5 h6 h7 h8 =>
        obtain ⟨nv, hnv, hnr⟩ := h7 _ _ hnorm
        exact .ws h1 h2 h3 (hoff _ (.inl rfl)) (hoff _ (.inr rfl)) h6 hnv (hnr.less fun b q => .inl q) h4 h5 (h8 _ heq)
theorem EvT.makeW {F : FE} {σ : Sg} {K : Addr} (W : WmAt C K) (pg : Pg C) (hK : C.mg "Whitespace" = some (.ref K)) {px e pos t} (hx : t.cps.all (· < 128) = true) (hl : t.length ≤ 900) (hk : F.env.kindOf "Whitespace" = some .globalImplicit) (he : EvT C (k + 2) F σ e (.str t))
    (hpl : plainE e = true) : EvT C (k + 2) F σ (.Call (.Name "Whitespace" px) [e] [] pos) (.ws K (normOf (wsOf t))) := .mk fun Wo A E s Q hA f h => by
  have hC := W.hC
  rw [W.eab, W.eid] at hC
  refine wpAny_Call_ofName ((EvV.global hk hK (by decide +kernel)).run Wo A E s _ hA f fun s₁ p₁ => ?_)
  refine PyProof.Rows.callWith_cls (h₀ := C.h₀) (C := K) ⟨⟨_, _, _, _, _, _, _, _, _, _, _, _, hC⟩, W.hn⟩ ?_ (starEach_plain hpl) rfl
  refine (EvL.cons he EvL.nil hpl : EvL C (k + 2) F σ [e] pos [.str t]).run Wo A E s₁ _ hA (f.pas p₁) fun vs s₂ hvs p₂ => ?_
  have f₂ := (f.pas p₁).pas p₂
  refine ⟨f₂.base, ?_⟩
  cases hvs with
  | cons hv hr =>
    cases hr
    exact wpAny_call (make_w W pg hK hx hl hA f₂.base f₂.wbnd hv fun v s₃ hv p₃ => h _ _ hv ((p₁.trans p₂).trans p₃))
end
end Mine

end

section
open PySem
set_option linter.unusedVariables false
set_option maxRecDepth 100000
namespace Mine
open PySem.Builtin

/-! what the text of a line is, and what is left of it -/
noncomputable def flat (us : List Str) : List Nat := us.flatMap fun u => u.cps.toList
theorem flat_nil : flat [] = [] := rfl
theorem flat_cons (u : Str) (us : List Str) : flat (u :: us) = u.cps.toList ++ flat us := by simp [flat]
theorem flat_app (us vs : List Str) : flat (us ++ vs) = flat us ++ flat vs := by simp [flat]
theorem flat_join (us : List Str) : (Txt.join "" us).cps.toList = flat us := by
  have h : ∀ (us : List Str) (a : Array Nat), (us.foldl (fun acc p => acc ++ ("" : Str).cps ++ p.cps) a).toList = a.toList ++ flat us := by
    intro us
    induction us with
    | nil => intro a; simp [flat]
    | cons u us ih =>
      intro a
      rw [List.foldl_cons, ih, flat_cons]
      have e : ("" : Str).cps = #[] := by decide +kernel
      rw [e]; simp
  cases us with
  | nil => rfl
  | cons u us => exact (h us u.cps).trans (flat_cons u us).symm
theorem str_ext {a b : Str} (h : a.cps.toList = b.cps.toList) : a = b := by
  cases a; cases b; simp at h; rw [h]
theorem join_eq {x : Str} {us : List Str} (h : x.cps.toList = flat us) : x = Txt.join "" us := str_ext (h.trans (flat_join us).symm)
theorem len_list (x : Str) : x.length = x.cps.toList.length := by simp [Str.length]

noncomputable def goodB (u : Str) : Bool := match u.cps.toList with
  | [c] => c != 92
  | [c, _] => c == 92
  | _ => false
noncomputable def plT : List Str → Nat → List (Nat × Str)
  | [], _ => []
  | u :: r, i => (i + u.length - 1, u) :: plT r (i + u.length)
theorem plT_app : ∀ (us vs : List Str) (i : Nat), plT (us ++ vs) i = plT us i ++ plT vs (i + (flat us).length)
  | [], vs, i => by simp [plT, flat]
  | u :: us, vs, i => by
    rw [List.cons_append, plT, plT, plT_app us vs, flat_cons, List.length_append, ← len_list, Nat.add_assoc]; rfl
theorem plT_snd : ∀ (us : List Str) (i : Nat), (plT us i).map (·.2) = us
  | [], _ => rfl
  | u :: us, i => by rw [plT, List.map_cons, plT_snd us]
theorem escT_flat : ∀ (us : List Str), us.all goodB = true → ∀ (i : Nat) (r : List Nat), escT (flat us ++ r) i false = plT us i ++ escT r (i + (flat us).length) false
  | [], _, i, r => by simp [flat, plT]
  | u :: us, h, i, r => by
    rw [List.all_cons, Bool.and_eq_true] at h
    obtain ⟨h1, h2⟩ := h
    rw [flat_cons, List.append_assoc, plT]
    have hl := len_list u
    obtain ⟨⟨l⟩⟩ := u
    unfold goodB at h1
    dsimp only at h1 hl ⊢
    rcases l with _ | ⟨c, _ | ⟨d, _ | ⟨e, l⟩⟩⟩
    · cases h1
    · have hc : c ≠ 92 := by simpa using h1
      have hl1 : Str.length ⟨#[c]⟩ = 1 := rfl
      rw [hl1, List.cons_append, List.nil_append, escT]
      · rw [if_neg hc, escT_flat us h2, List.cons_append, List.length_append]
        simp only [List.length_cons, List.length_nil]
        rw [← Nat.add_assoc]; rfl
    · have hc : c = 92 := by simpa using h1
      subst hc
      have hl1 : Str.length ⟨#[92, d]⟩ = 2 := rfl
      rw [hl1, List.cons_append, List.cons_append, List.nil_append, escT, if_pos rfl, escT, escT_flat us h2, List.cons_append, List.length_append]
      simp only [List.length_cons, List.length_nil]
      have e1 : bs ++ ⟨#[d]⟩ = (⟨#[92, d]⟩ : Str) := by
        refine str_ext ?_
        have : bs.cps.toList = [92] := by decide +kernel
        show (bs.cps ++ #[d]).toList = [92, d]
        rw [Array.toList_append, this]; rfl
      rw [e1, ← Nat.add_assoc]; rfl
    · cases h1
noncomputable def tails : List (List Str) := [[], [qt], [qt, "("], [bs]]
theorem escT_tail {T : List Str} (hT : T ∈ tails) (i : Nat) : escT (flat T) i false = plT T i := by
  simp only [tails, List.mem_cons, List.not_mem_nil, or_false] at hT
  have hg : T.all goodB = true → escT (flat T) i false = plT T i := fun h => by
    have := escT_flat T h i []
    simpa [escT] using this
  rcases hT with rfl | rfl | rfl | rfl
  · exact hg (by decide +kernel)
  · exact hg (by decide +kernel)
  · exact hg (by decide +kernel)
  · have : flat [bs] = [92] := by decide +kernel
    rw [this]
    have hl : bs.length = 1 := by decide +kernel
    simp [escT, plT, hl]
theorem places_T : ∀ (us : List Str), (∀ u ∈ us, 1 ≤ u.length) → ∀ (i : Nat) (acc : List PV), (us.foldl placesStep ((i : Int), acc)).2 = acc ++ (plT us i).map escG
  | [], _, i, acc => by simp [plT]
  | u :: us, h, i, acc => by
    have h1 := h u List.mem_cons_self
    have e : placesStep ((i : Int), acc) u = (((i + u.length : Nat) : Int), acc ++ [escG (i + u.length - 1, u)]) := by
      unfold placesStep escG
      dsimp only
      rw [Int.ofNat_sub (by omega)]
      simp
    rw [List.foldl_cons, e, places_T us fun v hv => h v (List.mem_cons_of_mem _ hv)]
    simp [plT]
theorem placesOf_T {us : List Str} (h : ∀ u ∈ us, 1 ≤ u.length) : placesOf us = (plT us 0).map escG := by
  have := places_T us h 0 []
  simpa [placesOf] using this
theorem good_len {u : Str} (h : goodB u = true) : 1 ≤ u.length ∧ u.length ≤ 2 := by
  rw [len_list]
  unfold goodB at h
  split at h <;> first | cases h | simp_all

/-- chunks: quoted or not -/
noncomputable def tuC (c : Bool × List Str) : List Str := if c.1 = true then qt :: c.2 ++ [qt] else c.2
noncomputable def kuC (c : Bool × List Str) : List Str := if c.1 = true then [] else c.2
noncomputable def notQ (us : List Str) : Bool := us.all fun u => !(u == qt)
structure SI (X : List Nat) (s : StS) (i : Nat) (done : List Nat) : Prop where
  op : s.op = none
  le : s.st ≤ i
  eq : flat s.res ++ (X.drop s.st).take (i - s.st) = done
theorem fold_notQ {x : Str} : ∀ (us : List Str), notQ us = true → ∀ (i : Nat) (s : StS), (plT us i).foldl (stripStep x) s = s
  | [], _, _, _ => rfl
  | u :: us, h, i, s => by
    simp only [notQ, List.all_cons, Bool.and_eq_true] at h
    rw [plT, List.foldl_cons]
    have e : stripStep x s (i + u.length - 1, u) = s := by
      unfold stripStep
      rw [if_neg (by simpa using h.1)]
    rw [e]
    exact fold_notQ us h.2 _ _
theorem SI.plain {X : List Nat} {s : StS} {i : Nat} {done us post : List Nat} (h : SI X s i done) (e : X.drop i = us ++ post) : SI X s (i + us.length) (done ++ us) := by
  refine ⟨h.op, Nat.le_trans h.le (Nat.le_add_right _ _), ?_⟩
  have h1 := h.le
  have e1 : i + us.length - s.st = (i - s.st) + us.length := by omega
  rw [e1, List.take_add, ← List.append_assoc, h.eq, List.drop_drop]
  have e2 : s.st + (i - s.st) = i := by omega
  rw [e2, e, List.take_left]
theorem SI.quoted {x : Str} {s : StS} {i : Nat} {done post : List Nat} {us : List Str} (h : SI x.cps.toList s i done) (hq : notQ us = true) :
    SI x.cps.toList ((plT (qt :: us ++ [qt]) i).foldl (stripStep x) s) (i + (flat (qt :: us ++ [qt])).length) done := by
  have hl : qt.length = 1 := by decide +kernel
  have hf : flat [qt] = [34] := by decide +kernel
  have e0 : flat (qt :: us ++ [qt]) = 34 :: flat us ++ [34] := by
    rw [List.cons_append, show qt :: (us ++ [qt]) = [qt] ++ us ++ [qt] by simp, flat_app, flat_app, hf]; rfl
  have e1 : stripStep x s (i + 1 - 1, qt) = { s with op := some i } := by
    unfold stripStep
    rw [if_pos (by simp), h.op]; rfl
  rw [e0, List.cons_append, plT, List.foldl_cons, hl, e1, plT_app, List.foldl_append, fold_notQ us hq, plT, plT, List.foldl_cons, List.foldl_nil, hl]
  have e2 : stripStep x { s with op := some i } (i + 1 + (flat us).length + 1 - 1, qt) = ⟨i + 1 + (flat us).length + 1, none, if (s.st : Int) != (i : Int) then s.res ++ [cutS x s.st i] else s.res⟩ := by
    unfold stripStep
    rw [if_pos (by simp)]; rfl
  rw [e2]
  have hle := h.le
  refine ⟨rfl, by simp; omega, ?_⟩
  dsimp only
  have e3 : i + (34 :: flat us ++ [34]).length - (i + 1 + (flat us).length + 1) = 0 := by simp; omega
  rw [e3, List.take_zero, List.append_nil]
  by_cases hi : s.st = i
  · have : ((s.st : Int) != (i : Int)) = false := by simp [hi]
    rw [this, ← h.eq, hi]
    simp
  · have : ((s.st : Int) != (i : Int)) = true := by simp; omega
    rw [this, if_pos rfl, flat_app, ← h.eq]
    simp [flat, cutS]
theorem fold_chunks {x : Str} : ∀ (cs : List (Bool × List Str)) (s : StS) (i : Nat) (done post : List Nat), (∀ c ∈ cs, notQ c.2 = true) → SI x.cps.toList s i done → x.cps.toList.drop i = flat (cs.flatMap tuC) ++ post →
    SI x.cps.toList ((plT (cs.flatMap tuC) i).foldl (stripStep x) s) (i + (flat (cs.flatMap tuC)).length) (done ++ flat (cs.flatMap kuC))
  | [], s, i, done, post, _, h, _ => by simpa [plT, flat] using h
  | c :: cs, s, i, done, post, hq, h, e => by
    rw [List.flatMap_cons, flat_app] at e
    have hc := hq c List.mem_cons_self
    have h1 : SI x.cps.toList ((plT (tuC c) i).foldl (stripStep x) s) (i + (flat (tuC c)).length) (done ++ flat (kuC c)) := by
      unfold tuC kuC
      by_cases hb : c.1 = true
      · rw [if_pos hb, if_pos hb, flat_nil, List.append_nil]
        exact h.quoted (post := post) hc
      · rw [if_neg hb, if_neg hb, fold_notQ _ hc]
        refine h.plain (post := flat (cs.flatMap tuC) ++ post) ?_
        rw [e]
        unfold tuC
        rw [if_neg hb, List.append_assoc]
    have h2 := fold_chunks cs _ _ _ post (fun d hd => hq d (List.mem_cons_of_mem _ hd)) h1 (by
      rw [← List.drop_drop, e, List.append_assoc, List.drop_left])
    rw [List.flatMap_cons, plT_app, List.foldl_append, flat_app, List.length_append, ← Nat.add_assoc, List.flatMap_cons, flat_app, ← List.append_assoc]
    exact h2
theorem fold_tail {x : Str} {T : List Str} (hT : T ∈ tails) (s : StS) (i : Nat) (hs : s.op = none) : ((plT T i).foldl (stripStep x) s).st = s.st ∧ ((plT T i).foldl (stripStep x) s).res = s.res := by
  simp only [tails, List.mem_cons, List.not_mem_nil, or_false] at hT
  have e1 : ∀ j, stripStep x s (j, qt) = { s with op := some j } := fun j => by
    unfold stripStep
    rw [if_pos (by simp), hs]
  rcases hT with rfl | rfl | rfl | rfl
  · exact ⟨rfl, rfl⟩
  · rw [plT, plT, List.foldl_cons, e1]; exact ⟨rfl, rfl⟩
  · rw [plT, List.foldl_cons, e1, fold_notQ _ (by decide +kernel)]; exact ⟨rfl, rfl⟩
  · rw [fold_notQ _ (by decide +kernel)]; exact ⟨rfl, rfl⟩
theorem strip_spec {x : Str} {cs : List (Bool × List Str)} {T : List Str} (hT : T ∈ tails) (hq : ∀ c ∈ cs, notQ c.2 = true) (hg : (cs.flatMap tuC).all goodB = true) (hx : x.cps.toList = flat (cs.flatMap tuC ++ T)) :
    stripOf x = Txt.join "" (cs.flatMap kuC ++ T) := by
  unfold stripOf
  have eq34 : qt = ⟨#[34]⟩ := by decide +kernel
  split
  · rename_i h
    rw [eq34, PyProof.Rows.empty_one] at h
    have hn : 34 ∉ x.cps.toList := by simpa using h
    have hc : ∀ c ∈ cs, c.1 = false := fun c hc => by
      cases hb : c.1 with
      | false => rfl
      | true =>
        refine absurd ?_ hn
        rw [hx, flat_app]
        refine List.mem_append_left _ ?_
        unfold flat
        rw [List.mem_flatMap]
        refine ⟨qt, List.mem_flatMap.mpr ⟨c, hc, ?_⟩, by decide +kernel⟩
        unfold tuC
        rw [if_pos hb]
        exact List.mem_cons_self
    have e : cs.flatMap tuC = cs.flatMap kuC := by
      rw [List.flatMap_def, List.flatMap_def]
      congr 1
      refine List.map_congr_left fun c h => ?_
      unfold tuC kuC
      rw [hc c h]; rfl
    rw [e] at hx
    exact join_eq hx
  · refine str_ext ?_
    rw [flat_join, flat_join]
    have hesc : escT x.cps.toList 0 false = plT (cs.flatMap tuC) 0 ++ plT T (0 + (flat (cs.flatMap tuC)).length) := by rw [hx, flat_app, escT_flat _ hg, escT_tail hT]
    have h1 := fold_chunks (x := x) cs ⟨0, none, []⟩ 0 [] (flat T) hq ⟨rfl, Nat.le_refl _, by simp [flat]⟩ (by rw [List.drop_zero, hx, flat_app])
    have h2 := fold_tail (x := x) hT _ (0 + (flat (cs.flatMap tuC)).length) h1.op
    rw [hesc, List.foldl_append]
    generalize (plT (cs.flatMap tuC) 0).foldl (stripStep x) ⟨0, none, []⟩ = s1 at h1 h2
    have hlen : x.length = 0 + (flat (cs.flatMap tuC)).length + (flat T).length := by rw [len_list, hx, flat_app, List.length_append, Nat.zero_add]
    have h3 := h1.plain (us := flat T) (post := []) (by
      rw [List.append_nil, Nat.zero_add, hx, flat_app, List.drop_left])
    rw [← hlen] at h3
    unfold stripRes
    rw [h2.1, h2.2, flat_app (cs.flatMap kuC) T]
    have h4 := h3.eq
    rw [List.nil_append] at h4
    rw [← h4]
    split
    · rw [flat_app]; simp [flat, cutS]
    · rename_i hn
      have : x.length - s1.st = 0 := by omega
      rw [this]; simp

/-! the line itself -/
noncomputable def inn (d : Str) (x : Fin 5) : List Str := if ((d.length : Nat) : Int) != 0 then [d, lS x] else [lS x]
noncomputable def chunkB (p q : Bool) (d : Str) (x : Fin 5) : Bool × List Str := if (p && q) = true then (true, inn d x) else if p = true then (false, inn d x) else (false, [])
noncomputable def dresses : List Str := ["", "\\\"", "\\\\", "\\("]
theorem chunk_ok : ∀ p q : Bool, ∀ d ∈ dresses, ∀ x : Fin 5, notQ (chunkB p q d x).2 = true ∧ (tuC (chunkB p q d x)).all goodB = true ∧ (flat (tuC (chunkB p q d x))).length ≤ 5 ∧ (flat (tuC (chunkB p q d x))).all (· < 128) = true := by decide +kernel
noncomputable def chunksOf (m n : Fin 32) (D : List Str) (xs : List (Fin 5)) : List (Bool × List Str) := xs.map fun x => chunkB (m.val.testBit x.val) (n.val.testBit x.val) (dAt D x) x
theorem line_fold (m n : Fin 32) (D : List Str) : ∀ (xs : List (Fin 5)) (s : Str × List Str), ((xs.foldl (lineStep m n D) s).1).cps.toList = s.1.cps.toList ++ flat ((chunksOf m n D xs).flatMap tuC) ∧ (xs.foldl (lineStep m n D) s).2 = s.2 ++ (chunksOf m n D xs).flatMap kuC
  | [], s => by simp [chunksOf, flat]
  | x :: xs, s => by
    obtain ⟨h1, h2⟩ := line_fold m n D xs (lineStep m n D s x)
    rw [List.foldl_cons, h1, h2]
    have app : ∀ a b : Str, (a ++ b).cps.toList = a.cps.toList ++ b.cps.toList := fun a b => by
      show (a.cps ++ b.cps).toList = _
      simp
    have q34 : ("\"" : Str).cps.toList = [34] := by decide +kernel
    have hi : ∀ (d : Str), flat (inn d x) = d.cps.toList ++ (lS x).cps.toList := fun d => by
      unfold inn
      split
      · simp [flat]
      · rename_i h
        have : d.cps.toList = [] := by
          have e : d.length = 0 := by simpa using h
          rw [len_list] at e
          exact List.length_eq_zero_iff.mp e
        rw [this]; simp [flat]
    have key : (lineStep m n D s x).1.cps.toList = s.1.cps.toList ++ flat (tuC (chunkB (m.val.testBit x.val) (n.val.testBit x.val) (dAt D x) x)) ∧ (lineStep m n D s x).2 = s.2 ++ kuC (chunkB (m.val.testBit x.val) (n.val.testBit x.val) (dAt D x) x) := by
      unfold lineStep chunkB
      split
      · unfold tuC kuC
        simp only [if_true]
        have : qt :: inn (dAt D x) x ++ [qt] = [qt] ++ inn (dAt D x) x ++ [qt] := by simp
        have hf : flat [qt] = [34] := by decide +kernel
        rw [this, flat_app, flat_app, hi, hf]
        simp only [app, q34]
        simp
      · split
        · unfold tuC kuC
          simp only [Bool.false_eq_true, if_false]
          rw [hi]
          simp only [app]
          refine ⟨by simp, ?_⟩
          unfold inn
          split <;> rfl
        · simp [tuC, kuC, flat]
    rw [key.1, key.2]
    unfold chunksOf
    rw [List.map_cons, List.flatMap_cons, List.flatMap_cons, flat_app]
    simp
noncomputable abbrev chs (m n : Fin 32) (t : Fin 5) (D : List Str) : List (Bool × List Str) := chunksOf m n D (rot t)
theorem line_text (m n : Fin 32) (t : Fin 5) (D : List Str) : (lineOf m n t D).1.cps.toList = flat ((chs m n t D).flatMap tuC) := by
  have := (line_fold m n D (rot t) ("", [])).1
  unfold lineOf
  rw [this]; rfl
theorem line_units (m n : Fin 32) (t : Fin 5) (D : List Str) : (lineOf m n t D).2 = (chs m n t D).flatMap kuC := by
  have := (line_fold m n D (rot t) ("", [])).2
  unfold lineOf
  rw [this]; rfl
structure DOk (D : List Str) : Prop where
  l : D.length = 5
  m : ∀ d ∈ D, d ∈ dresses
theorem DOk.at {D : List Str} (h : DOk D) (x : Fin 5) : dAt D x ∈ dresses := by
  unfold dAt
  have : x.val < D.length := by rw [h.l]; exact x.isLt
  rw [List.getElem?_eq_getElem this]
  exact h.m _ (List.getElem_mem _)
section
variable {m n : Fin 32} {t : Fin 5} {D T : List Str}
theorem chs_ok (hD : DOk D) : ∀ c ∈ chs m n t D, notQ c.2 = true ∧ (tuC c).all goodB = true ∧ (flat (tuC c)).length ≤ 5 ∧ (flat (tuC c)).all (· < 128) = true := fun c hc => by
  obtain ⟨x, _, rfl⟩ := List.mem_map.mp hc
  exact chunk_ok _ _ _ (hD.at x) x
noncomputable def textOf (m n : Fin 32) (t : Fin 5) (D T : List Str) : Str := (lineOf m n t D).1 ++ Txt.join "" T
noncomputable def unitsOf (m n : Fin 32) (t : Fin 5) (D T : List Str) : List Str := (lineOf m n t D).2 ++ T
theorem text_list : (textOf m n t D T).cps.toList = flat ((chs m n t D).flatMap tuC ++ T) := by
  unfold textOf
  show ((lineOf m n t D).1.cps ++ (Txt.join "" T).cps).toList = _
  rw [Array.toList_append, line_text, flat_join, flat_app]
theorem tus_good (hD : DOk D) : ((chs m n t D).flatMap tuC).all goodB = true := by
  rw [List.all_eq_true]
  intro u hu
  obtain ⟨c, hc, hu⟩ := List.mem_flatMap.mp hu
  exact List.all_eq_true.mp (chs_ok hD c hc).2.1 u hu
theorem kus_good (hD : DOk D) : ((chs m n t D).flatMap kuC).all goodB = true := by
  rw [List.all_eq_true]
  intro u hu
  obtain ⟨c, hc, hu⟩ := List.mem_flatMap.mp hu
  refine List.all_eq_true.mp (chs_ok hD c hc).2.1 u ?_
  unfold kuC at hu
  unfold tuC
  cases hb : c.1 with
  | true => rw [hb] at hu; cases hu
  | false => rw [hb] at hu; exact hu
theorem strip_text (hD : DOk D) (hT : T ∈ tails) : stripOf (textOf m n t D T) = Txt.join "" (unitsOf m n t D T) := by
  unfold unitsOf
  rw [line_units]
  exact strip_spec hT (fun c hc => (chs_ok hD c hc).1) (tus_good hD) text_list
theorem tail_ok (hT : T ∈ tails) : (flat T).length ≤ 2 ∧ (flat T).all (· < 128) = true ∧ T.all (fun u => decide (1 ≤ u.length ∧ u.length ≤ 2)) = true ∧ T.length ≤ 2 := by
  have : ∀ T ∈ tails, (flat T).length ≤ 2 ∧ (flat T).all (· < 128) = true ∧ T.all (fun u => decide (1 ≤ u.length ∧ u.length ≤ 2)) = true ∧ T.length ≤ 2 := by decide +kernel
  exact this T hT
theorem unit_len (hD : DOk D) (hT : T ∈ tails) : ∀ u ∈ unitsOf m n t D T, 1 ≤ u.length ∧ u.length ≤ 2 := fun u hu => by
  unfold unitsOf at hu
  rw [line_units] at hu
  rcases List.mem_append.mp hu with h | h
  · exact good_len (List.all_eq_true.mp (kus_good hD) u h)
  · simpa using List.all_eq_true.mp (tail_ok hT).2.2.1 u h
theorem read_text (hD : DOk D) (hT : T ∈ tails) : escT (Txt.join "" (unitsOf m n t D T)).cps.toList 0 false = plT (unitsOf m n t D T) 0 := by
  unfold unitsOf
  rw [flat_join, line_units, flat_app, escT_flat _ (kus_good hD), escT_tail hT, plT_app]
theorem places_text (hD : DOk D) (hT : T ∈ tails) : placesOf (unitsOf m n t D T) = (plT (unitsOf m n t D T) 0).map escG := placesOf_T fun u hu => (unit_len hD hT u hu).1
theorem flatMap_len {α β : Type} (f : α → List β) (k : Nat) : ∀ (l : List α), (∀ a ∈ l, (f a).length ≤ k) → (l.flatMap f).length ≤ k * l.length
  | [], _ => by simp
  | a :: l, h => by
    have h1 := flatMap_len f k l fun b hb => h b (List.mem_cons_of_mem _ hb)
    have h2 := h a List.mem_cons_self
    rw [List.flatMap_cons, List.length_append, List.length_cons, Nat.mul_add]; omega
theorem flat_flatMap {α : Type} (f : α → List Str) (l : List α) : flat (l.flatMap f) = l.flatMap fun a => flat (f a) := by
  unfold flat
  rw [List.flatMap_assoc]
theorem chs_len : (chs m n t D).length = 5 := by simp [chs, chunksOf, rot]
theorem text_small (hD : DOk D) (hT : T ∈ tails) : (textOf m n t D T).length ≤ 27 := by
  rw [len_list, text_list, flat_app, List.length_append, flat_flatMap]
  have h1 := flatMap_len (fun a => flat (tuC a)) 5 (chs m n t D) fun a ha => (chs_ok hD a ha).2.2.1
  have h2 := (tail_ok hT).1
  rw [chs_len] at h1
  omega
theorem text_ascii (hD : DOk D) (hT : T ∈ tails) : (textOf m n t D T).cps.all (· < 128) = true := by
  rw [← Array.all_toList, text_list, flat_app, List.all_append, (tail_ok hT).2.1, flat_flatMap, Bool.and_true, List.all_flatMap]
  rw [List.all_eq_true]
  exact fun c hc => (chs_ok hD c hc).2.2.2
theorem units_list : flat (unitsOf m n t D T) = flat ((chs m n t D).flatMap kuC) ++ flat T := by
  unfold unitsOf
  rw [line_units, flat_app]
theorem ku_tu (c : Bool × List Str) : (flat (kuC c)).length ≤ (flat (tuC c)).length ∧ ((flat (tuC c)).all (· < 128) = true → (flat (kuC c)).all (· < 128) = true) := by
  unfold kuC tuC
  split
  · exact ⟨Nat.zero_le _, fun _ => rfl⟩
  · exact ⟨Nat.le_refl _, id⟩
theorem left_small (hD : DOk D) (hT : T ∈ tails) : (Txt.join "" (unitsOf m n t D T)).length ≤ 27 := by
  rw [len_list, flat_join, units_list, List.length_append, flat_flatMap]
  have h1 := flatMap_len (fun a => flat (kuC a)) 5 (chs m n t D) fun a ha => Nat.le_trans (ku_tu a).1 (chs_ok hD a ha).2.2.1
  have h2 := (tail_ok hT).1
  rw [chs_len] at h1
  omega
theorem left_ascii (hD : DOk D) (hT : T ∈ tails) : (Txt.join "" (unitsOf m n t D T)).cps.all (· < 128) = true := by
  rw [← Array.all_toList, flat_join, units_list, List.all_append, (tail_ok hT).2.1, flat_flatMap, Bool.and_true, List.all_flatMap]
  rw [List.all_eq_true]
  exact fun c hc => (ku_tu c).2 (chs_ok hD c hc).2.2.2
theorem units_len (hD : DOk D) (hT : T ∈ tails) : (unitsOf m n t D T).length ≤ 12 := by
  unfold unitsOf
  rw [line_units, List.length_append]
  have hc : ∀ p q : Bool, ∀ d ∈ dresses, ∀ x : Fin 5, (kuC (chunkB p q d x)).length ≤ 2 := by decide +kernel
  have h1 := flatMap_len kuC 2 (chs m n t D) fun a ha => by
    obtain ⟨x, _, rfl⟩ := List.mem_map.mp ha
    exact hc _ _ _ (hD.at x) x
  have h2 := (tail_ok hT).2.2.2
  rw [chs_len] at h1
  omega
end
end Mine

end

section
open PySem
set_option linter.unusedVariables false
set_option maxRecDepth 100000
namespace Mine
open PySem.Builtin

/-! what is led to Whitespace, and its norm -/
noncomputable def pieces : List Str := ["\t", "\t\t", "  \t", "  \t  \t", "   \t"]
noncomputable def pc (x : Fin 5) : Str := (pieces[x.val]?).getD ""
noncomputable def keepU (u : Str) : Bool := !(Builtin.Str.occurrences abcS u 0 abcS.length 1).isEmpty
noncomputable def pieceOf (u : Str) : Str := (pieces[(Builtin.Str.occurrences abcS u 0 abcS.length 1).headD 0]?).getD ""
theorem piece_lS : ∀ x : Fin 5, pieceOf (lS x) = pc x := by decide +kernel
theorem keep_chunk : ∀ p q : Bool, ∀ d ∈ dresses, ∀ x : Fin 5, (kuC (chunkB p q d x)).filter keepU = if (p && !q) = true then [lS x] else [] := by decide +kernel
theorem keep_tail : ∀ T ∈ tails, T.filter keepU = [] := by decide +kernel
noncomputable def restM (m n : Fin 32) : Fin 32 := ⟨m.val &&& (31 - n.val), Nat.lt_of_le_of_lt Nat.and_le_left m.isLt⟩
theorem rest_bit : ∀ m n : Fin 32, ∀ x : Fin 5, (restM m n).val.testBit x.val = (m.val.testBit x.val && !n.val.testBit x.val) := by decide +kernel
theorem rest_wd : ∀ m n : Fin 32, Txt.join "" (((List.finRange 5).filter fun x => m.val.testBit x.val && !n.val.testBit x.val).map lS) = wd (restM m n) := by decide +kernel
noncomputable def bitsR (t : Fin 5) (r : Fin 32) : List (Fin 5) := (rot t).filter fun x => r.val.testBit x.val
section
variable {m n : Fin 32} {t : Fin 5} {D T : List Str}
theorem kept_units (hD : DOk D) (hT : T ∈ tails) : (unitsOf m n t D T).filter keepU = (bitsR t (restM m n)).map lS := by
  unfold unitsOf
  rw [line_units, List.filter_append, keep_tail T hT, List.append_nil, List.filter_flatMap]
  unfold chs chunksOf bitsR
  rw [List.flatMap_map]
  have : ∀ l : List (Fin 5), l.flatMap (fun x => (kuC (chunkB (m.val.testBit x.val) (n.val.testBit x.val) (dAt D x) x)).filter keepU) = (l.filter fun x => (restM m n).val.testBit x.val).map lS := by
    intro l
    induction l with
    | nil => rfl
    | cons x l ih =>
      rw [List.flatMap_cons, ih, keep_chunk _ _ _ (hD.at x) x, List.filter_cons, rest_bit]
      split <;> simp
  exact this _
theorem kept_read (hD : DOk D) (hT : T ∈ tails) : ((plT (unitsOf m n t D T) 0).filter fun u => keepU u.2).map (fun u => pieceOf u.2) = (bitsR t (restM m n)).map pc := by
  have h : ∀ l : List (Nat × Str), (l.filter fun u => keepU u.2).map (fun u => pieceOf u.2) = ((l.map (·.2)).filter keepU).map pieceOf := by
    intro l
    rw [List.filter_map, List.map_map]; rfl
  rw [h, plT_snd, kept_units hD hT, List.map_map]
  exact List.map_congr_left fun x _ => piece_lS x
theorem kept_lS (hD : DOk D) (hT : T ∈ tails) : ∀ u ∈ plT (unitsOf m n t D T) 0, keepU u.2 = true → ∃ x : Fin 5, u.2 = lS x := fun u hu hk => by
  have h1 : u.2 ∈ unitsOf m n t D T := by
    have := List.mem_map_of_mem (f := fun u : Nat × Str => u.2) hu
    rwa [plT_snd] at this
  have h2 := List.mem_filter.mpr ⟨h1, hk⟩
  rw [kept_units hD hT] at h2
  obtain ⟨x, _, e⟩ := List.mem_map.mp h2
  exact ⟨x, e.symm⟩
end
noncomputable def leadOf (t : Fin 5) (r : Fin 32) (bl : Fin 3) : Str := Txt.join "" ((bitsR t r).map pc) ++ Txt.mul " " (bl.val : Int)
noncomputable def xt : Str := "x\t "
noncomputable def nfc (r : Fin 32) (bl : Fin 3) : List Int × Nat := ((wsOf (leadOf 0 r bl ++ xt)).cnt, (wsOf (leadOf 0 r bl ++ xt)).b)
theorem lead_small : ∀ (bl : Fin 3) (t : Fin 5) (r : Fin 32), (leadOf t r bl).length ≤ 30 ∧ (leadOf t r bl).cps.all (· < 128) = true := by decide +kernel
theorem norm_same : ∀ (bl : Fin 3) (t : Fin 5) (r : Fin 32), (wsOf (leadOf t r bl ++ xt)).cnt = (nfc r bl).1 ∧ (wsOf (leadOf t r bl ++ xt)).b = (nfc r bl).2 := by decide +kernel
theorem norm_inj : ∀ bl : Fin 3, ((List.finRange 32).map fun r => nfc r bl).Nodup := by decide +kernel
noncomputable def normD (s : WsS) : PyData := .tuple [.tuple (s.cnt.map .int), .int (s.b : Int)]
noncomputable def nfD (r : Fin 32) (bl : Fin 3) : PyData := .tuple [.tuple ((nfc r bl).1.map .int), .int ((nfc r bl).2 : Int)]
noncomputable def nfP (r : Fin 32) (bl : Fin 3) : PV := .tup [.tup ((nfc r bl).1.map .int), .int ((nfc r bl).2 : Int)]
theorem norm_more : ∀ (bl : Fin 3) (t : Fin 5) (r : Fin 32), ([("" : Str), " ", "\t"].map fun e => decide ((nfc r bl).1 = (wsOf (leadOf t r bl ++ e)).cnt ∧ (nfc r bl).2 = (wsOf (leadOf t r bl ++ e)).b)) = [true, false, false] := by decide +kernel
theorem pys_ints : ∀ xs : List Int, PV.pys (xs.map .int) = some (xs.map .int)
  | [] => rfl
  | x :: xs => by rw [List.map_cons, PV.pys, pys_ints xs]; rfl
theorem py_norm (xs : List Int) (b : Nat) : (PV.tup [.tup (xs.map .int), .int (b : Int)]).py = some (.tuple [.tuple (xs.map .int), .int (b : Int)]) := by
  simp [PV.py, PV.pys, pys_ints]
theorem lay_ints : ∀ xs : List Int, PyData.canLayAll0 (xs.map .int) = true
  | [] => rfl
  | x :: xs => by simp [PyData.canLayAll0, PyData.canLay0, lay_ints xs]
theorem dep_ints : ∀ xs : List Int, PyData.depthAll (xs.map .int) = 0
  | [] => rfl
  | x :: xs => by simp [PyData.depthAll, PyData.depth, dep_ints xs]
theorem sh_norm (xs : List Int) (b : Nat) : SeqAt.shaped (.tuple [.tuple (xs.map .int), .int (b : Int)]) = true := by
  simp [SeqAt.shaped, PyData.canLay0, PyData.canLayAll0, PyData.depth, PyData.depthAll, lay_ints, dep_ints]
theorem eqv_ints : ∀ xs ys : List Int, PyData.eqvAll (xs.map .int) (ys.map .int) = decide (xs = ys)
  | [], [] => by simp [PyData.eqvAll]
  | [], y :: ys => by simp [PyData.eqvAll]
  | x :: xs, [] => by simp [PyData.eqvAll]
  | x :: xs, y :: ys => by
    rw [List.map_cons, List.map_cons, PyData.eqvAll, eqv_ints xs ys, PyData.eqv]
    by_cases h : x = y <;> by_cases h2 : xs = ys <;> simp [h, h2]
theorem eqv_norm (xs ys : List Int) (b c : Nat) : PyData.eqv (.tuple [.tuple (xs.map .int), .int (b : Int)]) (.tuple [.tuple (ys.map .int), .int (c : Int)]) = decide (xs = ys ∧ b = c) := by
  simp only [PyData.eqv, PyData.eqvAll, eqv_ints, Bool.and_true]
  by_cases h : xs = ys <;> by_cases h2 : b = c <;> simp [h, h2]
  omega
theorem eqv_nf (r s : Fin 32) (bl : Fin 3) : PyData.eqv (nfD r bl) (nfD s bl) = (r == s) := by
  unfold nfD
  rw [eqv_norm]
  have hn := norm_inj bl
  by_cases h : r = s
  · subst h; simp
  · have h1 : ¬ nfc r bl = nfc s bl := fun e => by
      have h2 := List.pairwise_map.mp hn
      have h3 : (List.finRange 32).Pairwise fun a b => nfc a bl ≠ nfc b bl := h2
      have h4 : ∀ a b : Fin 32, a.val < b.val → nfc a bl ≠ nfc b bl := fun a b hab => by
        have := List.pairwise_iff_getElem.mp h3 a.val b.val (by rw [List.length_finRange]; exact a.isLt) (by rw [List.length_finRange]; exact b.isLt) hab
        simpa using this
      rcases Nat.lt_or_ge r.val s.val with q | q
      · exact h4 r s q e
      · exact h4 s r (Nat.lt_of_le_of_ne q fun e => h (Fin.ext e.symm)) e.symm
    have h2 : ¬ ((nfc r bl).1 = (nfc s bl).1 ∧ (nfc r bl).2 = (nfc s bl).2) := fun e => h1 (Prod.ext e.1 e.2)
    simp [h, h2]
theorem norm_row (bl : Fin 3) (t : Fin 5) (r : Fin 32) : normOf (wsOf (leadOf t r bl ++ xt)) = nfP r bl := by
  unfold normOf nfP
  obtain ⟨h1, h2⟩ := norm_same bl t r
  rw [h1, h2]
theorem app_len (a b : Str) : (a ++ b).length = a.length + b.length := len_app a b
theorem app_ascii {a b : Str} (ha : a.cps.all (· < 128) = true) (hb : b.cps.all (· < 128) = true) : (a ++ b).cps.all (· < 128) = true := by
  show (a.cps ++ b.cps).all (· < 128) = true
  rw [Array.all_append, ha, hb]; rfl
end Mine

end

section
open PySem
set_option linter.unusedVariables false
set_option maxRecDepth 100000
namespace Mine
open PySem.Builtin

/-! the table of _law_told -/
noncomputable abbrev Sn := List (Fin 32 × Int)
noncomputable def addSn : Sn → Fin 32 → Int → Sn
  | [], r, v => [(r, v)]
  | (s, u) :: l, r, v => if s = r then (s, u + v) :: l else (s, u) :: addSn l r v
noncomputable def tblF : Nat → Sn → List (Int × Int)
  | _, [] => []
  | i, q :: l => ((i : Int), q.2) :: tblF (i + 1) l
noncomputable abbrev tbl (sn : Sn) : List (Int × Int) := tblF 0 sn
noncomputable def idx (sn : Sn) (r : Fin 32) : Nat := sn.findIdx fun q => q.1 == r
theorem tblF_len : ∀ (sn : Sn) (i : Nat), (tblF i sn).length = sn.length
  | [], _ => rfl
  | q :: l, i => by rw [tblF, List.length_cons, List.length_cons, tblF_len l]
theorem tblF_keys : ∀ (sn : Sn) (i : Nat), ∀ x ∈ (tblF i sn).map (·.1), (i : Int) ≤ x
  | [], _, x, h => by cases h
  | q :: l, i, x, h => by
    rw [tblF, List.map_cons] at h
    rcases List.mem_cons.mp h with h | h
    · rw [h]; exact Int.le_refl _
    · have := tblF_keys l (i + 1) x h
      omega
theorem tblF_nodup : ∀ (sn : Sn) (i : Nat), ((tblF i sn).map (·.1)).Nodup
  | [], _ => List.nodup_nil
  | q :: l, i => by
    rw [tblF, List.map_cons, List.nodup_cons]
    exact ⟨fun h => by have := tblF_keys l (i + 1) _ h; dsimp only at this; omega, tblF_nodup l (i + 1)⟩
theorem any_key {K V : Type} [DecidableEq K] (d : List (K × V)) (k : K) : d.any (fun q => decide (q.1 = k)) = true ↔ k ∈ d.map (·.1) := by
  rw [List.any_eq_true, List.mem_map]
  constructor
  · rintro ⟨q, h, e⟩; exact ⟨q, h, by simpa using e⟩
  · rintro ⟨q, h, e⟩; exact ⟨q, h, by simpa using e⟩
theorem dput_new {K V : Type} [DecidableEq K] {d : List (K × V)} {k : K} {v : V} (h : k ∉ d.map (·.1)) : dput d k v = d ++ [(k, v)] := by
  unfold dput
  rw [if_neg]
  intro q
  exact h ((any_key d k).mp q)
theorem dfill_nodup {K α : Type} [DecidableEq K] {key : α → K} {val : α → PV} : ∀ (us : List α) , (us.map key).Nodup → dfill key val us = us.map fun u => (key u, val u) := by
  intro us hn
  unfold dfill
  suffices h : ∀ (us : List α) (acc : List (K × PV)), (us.map key).Nodup → (∀ u ∈ us, key u ∉ acc.map (·.1)) → us.foldl (fun acc x => dput acc (key x) (val x)) acc = acc ++ us.map fun u => (key u, val u) by
    simpa using h us [] hn (fun _ _ => by simp)
  intro us
  induction us with
  | nil => intro acc _ _; simp
  | cons u us ih =>
    intro acc h1 h2
    rw [List.map_cons, List.nodup_cons] at h1
    rw [List.foldl_cons, dput_new (h2 u List.mem_cons_self), ih _ h1.2]
    · simp
    · intro w hw q
      rw [List.map_append, List.mem_append] at q
      rcases q with q | q
      · exact h2 w (List.mem_cons_of_mem _ hw) q
      · simp only [List.map_cons, List.map_nil, List.mem_singleton] at q
        exact h1.1 (List.mem_map.mpr ⟨w, hw, q⟩)
theorem puts_id : ∀ (d acc : List (Int × Int)), ((acc ++ d).map (·.1)).Nodup → d.foldl putStep acc = acc ++ d
  | [], acc, _ => by simp
  | q :: d, acc, h => by
    have h1 : q.1 ∉ acc.map (·.1) := fun e => by
      rw [List.map_append, List.nodup_append] at h
      exact h.2.2 _ e q.1 (by simp) rfl
    rw [List.foldl_cons, show putStep acc q = acc ++ [q] from dput_new h1, puts_id d (acc ++ [q]) (by simpa using h)]
    simp
theorem addStep_ne {q : Int × Int} {d : List (Int × Int)} {k v : Int} (h : q.1 ≠ k) : addStep (q :: d) (k, v) = q :: addStep d (k, v) := by
  unfold addStep dput getI
  simp only [List.any_cons, List.map_cons, List.find?_cons, h, decide_false, Bool.false_or, if_false]
  split <;> simp_all
theorem addStep_eq {q : Int × Int} {d : List (Int × Int)} {v : Int} (h : q.1 ∉ d.map (·.1)) : addStep (q :: d) (q.1, v) = (q.1, q.2 + v) :: d := by
  unfold addStep dput getI
  simp only [List.any_cons, List.map_cons, List.find?_cons, decide_true, Bool.true_or, if_true, Option.map_some, Option.getD_some]
  congr 1
  refine (List.map_congr_left fun p hp => ?_).trans (List.map_id _)
  have : ¬ p.1 = q.1 := fun e => h (List.mem_map.mpr ⟨p, hp, e⟩)
  simp [this]
theorem idx_cons (q : Fin 32 × Int) (l : Sn) (r : Fin 32) : idx (q :: l) r = if q.1 = r then 0 else idx l r + 1 := by
  unfold idx
  rw [List.findIdx_cons]
  by_cases h : q.1 = r
  · simp [h]
  · have : (q.1 == r) = false := by simpa using h
    rw [this, if_neg h]; rfl
theorem add_tbl : ∀ (sn : Sn) (i : Nat) (r : Fin 32) (v : Int), addStep (tblF i sn) (((i + idx sn r : Nat) : Int), v) = tblF i (addSn sn r v)
  | [], i, r, v => by
    simp [tblF, addSn, addStep, dput, idx]
  | (s, u) :: l, i, r, v => by
    rw [idx_cons, tblF, addSn]
    by_cases h : s = r
    · simp only [h, if_true]
      have := addStep_eq (q := ((i : Int), u)) (d := tblF (i + 1) l) (v := v) (fun h => by have := tblF_keys l (i + 1) _ h; dsimp only at this; omega)
      rw [Nat.add_zero, tblF]
      exact this
    · simp only [h, if_false]
      rw [addStep_ne (by dsimp only; omega), tblF]
      have := add_tbl l (i + 1) r v
      rw [← this]
      congr 3
      omega
theorem add_callers (sn : Sn) (r : Fin 32) (v : Int) : addCallers (tbl sn) [((idx sn r : Int), v)] = tbl (addSn sn r v) := by
  unfold addCallers
  rw [puts_id (tbl sn) [] (by simpa using tblF_nodup sn 0), List.nil_append, List.foldl_cons, List.foldl_nil]
  have := add_tbl sn 0 r v
  rwa [Nat.zero_add] at this
theorem addSn_new : ∀ (sn : Sn) (r : Fin 32) (v : Int), (addSn sn r v).map (·.1) = if idx sn r = sn.length then sn.map (·.1) ++ [r] else sn.map (·.1)
  | [], r, v => by simp [addSn, idx]
  | (s, u) :: l, r, v => by
    rw [idx_cons, addSn]
    by_cases h : s = r
    · simp [h]
    · simp only [h, if_false, List.map_cons, addSn_new l r v, List.length_cons]
      by_cases h2 : idx l r = l.length
      · simp [h2]
      · simp [h2]
theorem addSn_len (sn : Sn) (r : Fin 32) (v : Int) : (addSn sn r v).length ≤ sn.length + 1 := by
  have := congrArg List.length (addSn_new sn r v)
  rw [List.length_map] at this
  rw [this]
  split <;> simp
theorem idx_le (sn : Sn) (r : Fin 32) : idx sn r ≤ sn.length := List.findIdx_le_length
theorem idx_said (sn : Sn) (r : Fin 32) : (sn.map (fun q => q.1 == r) ++ [true])[idx sn r]? = some true ∧ ∀ m, m < idx sn r → (sn.map (fun q => q.1 == r) ++ [true])[m]? ≠ some true := by
  induction sn with
  | nil => exact ⟨rfl, fun m h => by cases h⟩
  | cons q l ih =>
    rw [idx_cons]
    by_cases h : q.1 = r
    · rw [if_pos h]; exact ⟨by simp [h], fun m h => by cases h⟩
    · rw [if_neg h]
      refine ⟨by simpa using ih.1, fun m hm => ?_⟩
      cases m with
      | zero => simp [h]
      | succ m => simpa using ih.2 m (by omega)

theorem pys_bools : ∀ xs : List Bool, PV.pys (xs.map .bool) = some (xs.map .bool)
  | [] => rfl
  | x :: xs => by rw [List.map_cons, PV.pys, pys_bools xs]; rfl
theorem py_bools (xs : List Bool) : (PV.list (xs.map .bool)).py = some (.list (xs.map .bool)) := by simp [PV.py, pys_bools]
theorem lay_bools : ∀ xs : List Bool, PyData.canLayAll0 (xs.map .bool) = true
  | [] => rfl
  | x :: xs => by simp [PyData.canLayAll0, PyData.canLay0, lay_bools xs]
theorem dep_bools : ∀ xs : List Bool, PyData.depthAll (xs.map .bool) = 0
  | [] => rfl
  | x :: xs => by simp [PyData.depthAll, PyData.depth, dep_bools xs]
theorem sh_bools (xs : List Bool) : SeqAt.shaped (.list (xs.map .bool)) = true := by
  simp [SeqAt.shaped, PyData.canLay0, PyData.depth, lay_bools, dep_bools]
theorem eqv_bools (xs : List Bool) : PyData.eqv (.list (xs.map .bool)) (.list (xs.map .bool)) = true := SeqAt.eqv_refl _ (SeqAt.canLay_of_shaped (sh_bools xs))
noncomputable def escD (u : Nat × Str) : PyData := .tuple [.int (u.1 : Int), .str u.2]
theorem pys_esc : ∀ us : List (Nat × Str), PV.pys (us.map escG) = some (us.map escD)
  | [] => rfl
  | x :: xs => by rw [List.map_cons, PV.pys, pys_esc xs]; rfl
theorem py_esc (us : List (Nat × Str)) : (PV.list (us.map escG)).py = some (.list (us.map escD)) := by simp [PV.py, pys_esc]
theorem lay_esc : ∀ us : List (Nat × Str), (∀ u ∈ us, u.2.cps.all (· < 128) = true) → PyData.canLayAll0 (us.map escD) = true
  | [], _ => rfl
  | u :: us, h => by
    rw [List.map_cons, PyData.canLayAll0, lay_esc us fun v hv => h v (List.mem_cons_of_mem _ hv), Bool.and_true]
    have := h u List.mem_cons_self
    simp only [escD, PyData.canLay0, PyData.canLayAll0, Bool.true_and, Bool.and_true]
    unfold PyData.strOk
    rw [Array.all_eq_true] at this ⊢
    intro i hi
    have := this i hi
    simp at this ⊢
    omega
theorem dep_esc : ∀ us : List (Nat × Str), PyData.depthAll (us.map escD) ≤ 1
  | [] => Nat.zero_le _
  | u :: us => by
    rw [List.map_cons, PyData.depthAll]
    have := dep_esc us
    have h : (escD u).depth = 1 := by simp [escD, PyData.depth, PyData.depthAll]
    omega
theorem sh_esc {us : List (Nat × Str)} (h : ∀ u ∈ us, u.2.cps.all (· < 128) = true) : SeqAt.shaped (.list (us.map escD)) = true := by
  have := dep_esc us
  unfold SeqAt.shaped
  rw [Bool.and_eq_true]
  exact ⟨lay_esc us h, decide_eq_true (by rw [PyData.depth]; omega)⟩
theorem plT_mem {us : List Str} {i : Nat} {u : Nat × Str} (h : u ∈ plT us i) : u.2 ∈ us := by
  have := List.mem_map_of_mem (f := fun u : Nat × Str => u.2) h
  rwa [plT_snd] at this
theorem plT_len : ∀ (us : List Str) (i : Nat), (plT us i).length = us.length
  | [], _ => rfl
  | u :: us, i => by rw [plT, List.length_cons, List.length_cons, plT_len us]
theorem unit_ascii {m n : Fin 32} {t : Fin 5} {D T : List Str} (hD : DOk D) (hT : T ∈ tails) : ∀ u ∈ unitsOf m n t D T, u.cps.all (· < 128) = true := fun u hu => by
  have h := left_ascii (m := m) (n := n) (t := t) hD hT
  rw [← Array.all_toList, flat_join] at h
  rw [← Array.all_toList, List.all_eq_true]
  intro c hc
  rw [List.all_eq_true] at h
  exact h c (List.mem_flatMap.mpr ⟨u, hu, hc⟩)

/-- what _law_told tells -/
noncomputable def toldOf (f s : Fam) : Sn := f.foldl (fun sn qa => s.foldl (fun sn qb => addSn sn (restM qa.1 qb.1) (qa.2 * qb.2)) sn) []
structure ToS where
  turn : Fin 5
  sn : Sn
  last : Option (Fin 5 × Fin 32)
noncomputable def toIn (qa : Fin 32 × Int) (st : ToS) (qb : Fin 32 × Int) : ToS := ⟨st.turn + 1, addSn st.sn (restM qa.1 qb.1) (qa.2 * qb.2), some (st.turn + 1, restM qa.1 qb.1)⟩
noncomputable def toOut (s : Fam) (st : ToS) (qa : Fin 32 × Int) : ToS := s.foldl (toIn qa) { st with last := none }
theorem in_sn (qa : Fin 32 × Int) : ∀ (s : Fam) (st : ToS), (s.foldl (toIn qa) st).sn = s.foldl (fun sn qb => addSn sn (restM qa.1 qb.1) (qa.2 * qb.2)) st.sn
  | [], _ => rfl
  | q :: s, st => by rw [List.foldl_cons, List.foldl_cons, in_sn qa s]; rfl
theorem out_sn (s : Fam) : ∀ (f : Fam) (st : ToS), (f.foldl (toOut s) st).sn = f.foldl (fun sn qa => s.foldl (fun sn qb => addSn sn (restM qa.1 qb.1) (qa.2 * qb.2)) sn) st.sn
  | [], _ => rfl
  | q :: f, st => by rw [List.foldl_cons, List.foldl_cons, out_sn s f]; unfold toOut; rw [in_sn]
theorem in_last (qa : Fin 32 × Int) : ∀ (s : Fam) (st : ToS), s ≠ [] ∨ st.last.isSome = true → (s.foldl (toIn qa) st).last.isSome = true
  | [], st, h => h.elim (fun h => absurd rfl h) id
  | q :: s, st, _ => by rw [List.foldl_cons]; exact in_last qa s _ (.inr rfl)
theorem out_last {s : Fam} (hs : s ≠ []) : ∀ (f : Fam) (st : ToS), f ≠ [] ∨ st.last.isSome = true → (f.foldl (toOut s) st).last.isSome = true
  | [], st, h => h.elim (fun h => absurd rfl h) id
  | q :: f, st, _ => by rw [List.foldl_cons]; exact out_last hs f _ (.inr (in_last q s _ (.inl hs)))
end Mine

end

section
open PySem
set_option linter.unusedVariables false
set_option maxRecDepth 100000
namespace Mine
open PySem.Builtin PySem.Calls

section
variable {C : Cx} {k : Nat} {F : FE} {σ : Sg}
theorem EvT.callG (pg : Pg C) {x np e es pos ps r} (i : Nat) (h1 : i ∈ [2, 3, 5, 6, 10, 11, 12, 13, 14, 15, 16]) (h : (x, i) ∈ [(("_iter_escaped_chars" : Str), 2), ("_strip_quoted_realnames", 3), ("add_callers", 5), ("count_calls", 6), ("_law_cells", 10), ("_law_family", 11), ("_law_line", 12), ("_law_places", 13), ("_law_told", 14), ("_law_counted", 15)])
    (hk : F.env.kindOf x = some .globalImplicit) (ha : EvL C k F σ (e :: es) pos ps) (hp : plainE e = true) (hr : FnT C k (pg.fa i) ps r) (hd : (x == ("__debug__" : Str)) = false := by decide +kernel) :
    EvT C k F σ (.Call (.Name x np) (e :: es) [] pos) r := by
  obtain ⟨o, fd, ho, hdt, _⟩ := pg.fn i h1
  exact EvT.callF (pg.efn i h hk hd) ho hdt ha hp hr
theorem lookup_nd {K V : Type} [DecidableEq K] {l : List (K × V)} {x : K} {c : V} (hn : (l.map (·.1)).Nodup) (h : (x, c) ∈ l) : l.lookup x = some c := by
  induction l with
  | nil => cases h
  | cons q r ih =>
    obtain ⟨y, d⟩ := q
    rw [List.map_cons, List.nodup_cons] at hn
    rw [List.lookup_cons]
    rcases List.mem_cons.mp h with e | e
    · cases e; simp
    · have : (x == y) = false := by
        rw [beq_eq_false_iff_ne]
        rintro rfl
        exact hn.1 (List.mem_map.mpr ⟨_, e, rfl⟩)
      rw [this]
      exact ih hn.2 e
end

theorem py_nf (r : Fin 32) (bl : Fin 3) : (nfP r bl).py = some (nfD r bl) := py_norm _ _
theorem sh_nf (r : Fin 32) (bl : Fin 3) : SeqAt.shaped (nfD r bl) = true := sh_norm _ _
theorem py_boolsF {α : Type} (l : List α) (p : α → Bool) : (PV.list (l.map fun q => .bool (p q))).py = some (.list (l.map fun q => .bool (p q))) := by
  have := py_bools (l.map p)
  rwa [List.map_map, List.map_map] at this
theorem sh_boolsF {α : Type} (l : List α) (p : α → Bool) : SeqAt.shaped (.list (l.map fun q => .bool (p q))) = true := by
  have := sh_bools (l.map p)
  rwa [List.map_map] at this
theorem eqv_boolsF {α : Type} (l : List α) (p : α → Bool) : PyData.eqv (.list (l.map fun q => .bool (p q))) (.list (l.map fun q => .bool (p q))) = true := by
  have := eqv_bools (l.map p)
  rwa [List.map_map] at this
theorem noEqual : typeLookup (.type "object") "equal" = pure none := by rw [typeLookup_type, builtinLookup_eq_fast]; kernel_rfl
theorem turn_next : ∀ t : Fin 5, Int.fmod ((t.val : Int) + 1) 5 = ((t + 1 : Fin 5).val : Int) := by decide +kernel
theorem dress_len : ∀ d ∈ dresses, d.length ≤ 100 := by decide +kernel
theorem tail_join : ∀ T ∈ tails, JoinOk "" T = true ∧ (Txt.join "" T).length ≤ 100 := by decide +kernel
theorem wd_beq (m n : Fin 32) : (wd m == wd n) = (m == n) := by
  by_cases h : m = n
  · subst h; simp
  · have h1 : ¬ wd m = wd n := fun e => h (wd_inj e)
    rw [beq_eq_false_iff_ne.mpr h, beq_eq_false_iff_ne.mpr h1]
theorem piece_at : ∀ x : Fin 5, (pieces.map PV.str)[x.val]? = some (.str (pc x)) := fun x => by
  have h : ∀ x : Fin 5, pieces[x.val]? = some (pc x) := by decide +kernel
  rw [List.getElem?_map, h x]; rfl
theorem blank_len : ∀ bl : Fin 3, (Txt.mul " " (bl.val : Int)).length ≤ 2 := by decide +kernel
theorem xt_len : xt.length = 3 := by decide +kernel
theorem xt_ascii : xt.cps.all (· < 128) = true := by decide +kernel
theorem filt0 {α : Type} (l : List α) : l.filter (fun _ => false) = [] := List.filter_eq_nil_iff.mpr fun _ _ h => by cases h
theorem pc_len : ∀ y : Fin 5, (pc y).length ≤ 6 := by decide +kernel
theorem lead_join (t : Fin 5) (r : Fin 32) : JoinOk "" ((bitsR t r).map pc) = true := by
  refine join_small (n := 6) ?_ ?_
  · intro x hx
    obtain ⟨y, _, rfl⟩ := List.mem_map.mp hx
    exact pc_len y
  · have h1 : (bitsR t r).length ≤ (rot t).length := List.length_filter_le _ _
    have h2 : (rot t).length = 5 := by simp [rot]
    rw [List.length_map]
    omega

section
variable {C : Cx} {k : Nat}
noncomputable def toL (K : Addr) (bl : Fin 3) : Option (Fin 5 × Fin 32) → Sg
  | none => []
  | some (t, r) => [("lead", .pv (.str (leadOf t r bl))), ("row", .pv (.ws K (nfP r bl)))]
noncomputable def toB (f s : Fam) (D T : List Str) (bl : Fin 3) (K ka sa : Addr) (st : ToS) : Sg :=
  [("first", .pv (.dictS (trW f))), ("second", .pv (.dictS (trW s))), ("turn", .pv (.int (st.turn.val : Int))), ("dress", .pv (.list (D.map .str))), ("tail", .pv (.list (T.map .str))), ("blanks", .pv (.str (Txt.mul " " (bl.val : Int)))),
   ("kinds", .lst ka (st.sn.map fun q => .ws K (nfP q.1 bl))), ("seen", .lst sa (st.sn.map fun q => .str (wd q.1))), ("table", .pv (.dictI (tr (tbl st.sn))))]
/-- the inner loop's body -/
noncomputable def toldBody : List Stmt := match fnB (stOf 14) with
  | [_, .For _ _ [.For _ _ b _ _] _ _, _, _] => b
  | _ => []
noncomputable def toM (f s : Fam) (D T : List Str) (bl : Fin 3) (K ka sa : Addr) (m n : Fin 32) (t : Fin 5) (sn : Sn) (r : Fin 32) : Sg :=
  toB f s D T bl K ka sa ⟨t, sn, none⟩ ++ ([("a", .pv (.str (wd m))), ("b", .pv (.str (wd n))), ("lead", .pv (.str (leadOf t r bl))), ("row", .pv (.ws K (nfP r bl))), ("said", .pv (.list (sn.map fun q => .bool (q.1 == r)))), ("rest", .pv (.str (wd r)))] : Sg)
set_option maxHeartbeats 4000000 in
theorem told_tail {K : Addr} (pg : Pg C) (L a : Addr) (q : Str) (cd : Value) (f s : Fam) (hf : (f.map (·.1)).Nodup) (hs : (s.map (·.1)).Nodup) (D T : List Str) (bl : Fin 3) (ka sa : Addr) (m n : Fin 32) (va vb : Int) (hqa : (m, va) ∈ f) (hqb : (n, vb) ∈ s) (hva : -(2 ^ 64) < va ∧ va < 2 ^ 64)
    (t : Fin 5) (sn : Sn) (hsl : sn.length ≤ 100) (r : Fin 32) :
    ExT C (k + 12) (fnF (fnS (stOf 14)) L a q cd) (toM f s D T bl K ka sa m n t sn r) (toldBody.drop 11) (fun o σ' => o = .nx ∧ (toB f s D T bl K ka sa ⟨t, addSn sn r (va * vb), none⟩ ++ ([("a", .pv (.str (wd m)))] : Sg) ++ toL K bl (some (t, r))).Sublist σ') := by
  conv => enter [5]; whnf
  refine ExT.seq1 (SxT.assign (p := .int ((idx sn r : Nat) : Int)) (EvT.callM (EvT.cast (EvT.bin (EvT.name rfl) (EvT.listD (EvL.cons EvT.boolC EvL.nil rfl)) (BinT.addL (szl ?_))) (p' := .list ((sn.map (fun q => q.1 == r) ++ [true]).map .bool)) ?_) (EvL.cons EvT.boolC EvL.nil rfl) rfl PySem.F.plainAttrs_list PySem.F.slot_list_index PySem.F.type_list_index (listTy rfl) (CallT.indexB (idx_said sn r).1 (idx_said sn r).2 ?_)) (by kernel_rfl)) ?_
  · rw [List.length_map]; simp; omega
  · rw [List.map_append, List.map_map]; rfl
  · rw [List.length_append, List.length_map, List.length_singleton]; omega
  have hkl : ∀ {α : Type} (g : Fin 32 × Int → α), (sn.map g).length = sn.length := fun g => List.length_map ..
  have hil := idx_le sn r
  have hnew := addSn_new sn r (va * vb)
  obtain ⟨sn', hsn'⟩ : ∃ sn', sn' = addSn sn r (va * vb) := ⟨_, rfl⟩
  rw [← hsn'] at hnew ⊢
  have mapK : ∀ {α : Type} (g : Fin 32 → α), sn'.map (fun q => g q.1) = if idx sn r = sn.length then sn.map (fun q => g q.1) ++ [g r] else sn.map (fun q => g q.1) := fun g => by
    have h1 : ∀ l : Sn, l.map (fun q => g q.1) = (l.map (·.1)).map g := fun l => by rw [List.map_map]; rfl
    rw [h1, h1, hnew]
    split <;> simp
  refine ExT.seq (SxT.ifB (P := fun o σ' => o = .nx ∧ σ' = ([("first", .pv (.dictS (trW f))), ("second", .pv (.dictS (trW s))), ("turn", .pv (.int (t.val : Int))), ("dress", .pv (.list (D.map .str))), ("tail", .pv (.list (T.map .str))), ("blanks", .pv (.str (Txt.mul " " (bl.val : Int)))),
   ("kinds", .lst ka (sn'.map fun q => .ws K (nfP q.1 bl))), ("seen", .lst sa (sn'.map fun q => .str (wd q.1))), ("table", .pv (.dictI (tr (tbl sn)))), ("a", .pv (.str (wd m))), ("b", .pv (.str (wd n))), ("lead", .pv (.str (leadOf t r bl))), ("row", .pv (.ws K (nfP r bl))), ("said", .pv (.list (sn.map fun q => .bool (q.1 == r)))), ("rest", .pv (.str (wd r))), ("place", .pv (.int ((idx sn r : Nat) : Int)))] : Sg)) (decide (idx sn r = sn.length))
    (TsT.cast (TsT.cmp (EvT.name rfl) (EvT.lend (x := "kinds") rfl (EvT.callB (pg.elen (by kernel_rfl)) (EvL.cons (EvT.name rfl) EvL.nil rfl) rfl (CallT.lenL (by rw [hkl]; omega))) rfl) CmpT.eqI (by kernel_rfl)) (by
      rw [hkl]
      by_cases h : idx sn r = sn.length
      · simp [h]
      · rw [decide_eq_false h, beq_eq_false_iff_ne]; omega)) (fun h => ?_) fun h => ?_) fun o σ' h => ?_
  · have h := of_decide_eq_true h
    refine ExT.seq1 (SxT.append (a := ka) rfl (by kernel_rfl) (EvT.name rfl) rfl (szl (by rw [hkl]; omega))) (ExT.seq1 (SxT.append (a := sa) rfl (by kernel_rfl) (EvT.name rfl) rfl (szl (by rw [hkl]; omega))) (ExT.nil ⟨rfl, ?_⟩))
    rw [mapK (fun x => PV.ws K (nfP x bl)), mapK (fun x => PV.str (wd x)), if_pos h, if_pos h]
    kernel_rfl
  · have h := of_decide_eq_false h
    refine ExT.nil ⟨rfl, ?_⟩
    rw [mapK (fun x => PV.ws K (nfP x bl)), mapK (fun x => PV.str (wd x)), if_neg h, if_neg h]
    kernel_rfl
  obtain ⟨rfl, rfl⟩ := h
  dsimp only
  have htn := tblF_nodup sn 0
  have htl := tblF_len sn 0
  refine ExT.seq1 (SxT.assignSw (p := .dictI (tr (tbl sn))) (q := .dictI (tr (tbl sn))) (EvT.tupD (EvL.cons (EvT.cast (EvT.dictComp0 (dkI C) (us := tbl sn) (g := fun q : Int × Int => PV.int q.1) (upd := updN "one") (ok := fun _ => True) (tt := false) (sf := true) (fun q => q.1) (fun q => .int q.2)
    (ItE.cast (ItE.dict (dkI C) (ps := tr (tbl sn)) (EvT.name rfl)) (by unfold tr; rw [List.map_map]; rfl)) tN (fun L cs => TgU.name (by kernel_rfl)) (fun _ _ => trivial) (fun L cs u hu => EvT.name rfl) (fun L cs u hu => EvT.sub (EvT.name rfl) (EvT.name rfl) (SubT.dictI (lookup_nd (c := PV.int u.2) ?_ ?_))) (szl (by rw [htl]; omega)) (by kernel_rfl)) ?_) (EvL.cons (EvT.name rfl) EvL.nil rfl) rfl)) (by kernel_rfl) (by kernel_rfl)) ?_
  · unfold tr; rw [List.map_map]; exact htn
  · exact List.mem_map.mpr ⟨u, hu, rfl⟩
  · rw [dfill_nodup _ htn]; rfl
  refine ExT.seq1 (SxT.assign (p := .dictI (tr (tbl sn'))) (EvT.cast (EvT.callG pg 5 (by simp) (by simp) (by kernel_rfl) (EvL.cons (EvT.name rfl) (EvL.cons (EvT.dict1 (dkI C) (kk := ((idx sn r : Nat) : Int)) (p := .int (va * vb)) (EvT.name rfl) (EvT.bin (EvT.sub (EvT.name rfl) (EvT.name rfl) (SubT.dictS (trW_get hf hqa))) (EvT.sub (EvT.name rfl) (EvT.name rfl) (SubT.dictS (trW_get hs hqb))) (BinT.mulI hva.1 hva.2))) EvL.nil rfl) rfl) rfl (f_add (k := k + 11) pg (tbl sn) [(((idx sn r : Nat) : Int), va * vb)] (by rw [htl]; omega) (by simp))) (by rw [add_callers, hsn'])) (by kernel_rfl)) ?_
  refine ExT.last (SxT.ifF (TsT.cmp (EvT.name rfl) (EvT.name rfl) (CmpT.neDict (dkI C) (xs := tbl sn) htn) (by kernel_rfl)) (ExT.nil ⟨rfl, ?_⟩))
  unfold toB toL
  dsimp only
  repeat (first | exact List.Sublist.slnil | refine List.Sublist.cons_cons _ ?_ | refine List.Sublist.cons _ ?_)
theorem more_ok : ∀ e ∈ [("" : Str), " ", "\t"], e.length ≤ 1 ∧ e.cps.all (· < 128) = true := by decide +kernel
theorem told_end {K : Addr} (W : WmAt C K) (pg : Pg C) (hK : C.mg "Whitespace" = some (.ref K)) (L a : Addr) (q : Str) (cd : Value) (f s : Fam) (D T : List Str) (bl : Fin 3) (ka sa : Addr) (tu : Fin 5) (sn : Sn) (t : Fin 5) (r : Fin 32) :
    ExT C (k + 12) (fnF (fnS (stOf 14)) L a q cd) (toB f s D T bl K ka sa ⟨tu, sn, some (t, r)⟩ ++ toL K bl (some (t, r))) ((fnB (stOf 14)).drop 2) (fun o _ => o = .rt (.list [.list ((sn.map (·.1)).map fun r => .str (wd r)), .dictI (tr (tbl sn))])) := by
  conv => enter [5]; whnf
  obtain ⟨hlb, hlc⟩ := lead_small bl t r
  have hm : ([("" : Str), " ", "\t"].map fun e => PV.bool (PyData.eqv (nfD r bl) (normD (wsOf (leadOf t r bl ++ e))))) = [PV.bool true, .bool false, .bool false] := by
    have h := norm_more bl t r
    have h2 : ([("" : Str), " ", "\t"].map fun e => PyData.eqv (nfD r bl) (normD (wsOf (leadOf t r bl ++ e)))) = [true, false, false] := by
      rw [← h]
      refine List.map_congr_left fun e _ => ?_
      exact eqv_norm _ _ _ _
    have h3 := congrArg (List.map PV.bool) h2
    rw [List.map_map] at h3
    exact h3
  refine ExT.seq1 (SxT.listComp0 (us := [("" : Str), " ", "\t"]) (g := PV.str) (upd := updN "more") (ok := fun _ => True) (tt := false) (sf := true) (fun e => PV.bool (PyData.eqv (nfD r bl) (normD (wsOf (leadOf t r bl ++ e))))) (ItE.tup (EvT.cast (EvT.tupD (EvL.cons EvT.strC (EvL.cons EvT.strC (EvL.cons EvT.strC EvL.nil rfl) rfl) rfl)) rfl)) tN (fun L cs => TgU.name (by kernel_rfl)) (fun _ _ => trivial)
    (fun L cs e he => EvT.callEq W.toWsAt rfl (EvT.makeW (k := k + 10) W pg hK (t := leadOf t r bl ++ e) (app_ascii hlc (more_ok e he).2) (by rw [app_len]; have := (more_ok e he).1; omega) (by kernel_rfl) (EvT.bin (EvT.name rfl) (EvT.name rfl) (BinT.addS (szl (by have := (more_ok e he).1; omega)))) rfl) rfl (py_nf _ _) (py_norm _ _) (sh_nf _ _) (sh_norm _ _) (by omega) noEqual) (szl (by decide)) (by kernel_rfl) (by kernel_rfl)) ?_
  rw [hm]
  refine ExT.give (x := "seen") rfl ?_
  refine ExT.ret1 (EvT.cast (EvT.ifT (TsT.and3 (a := true) (b := true) (c := true) (TsT.cast (TsT.cmp (EvT.sub (EvT.name rfl) EvT.intC (SubT.listI (x := .bool true) (i := 0) (by omega) (by omega) rfl)) EvT.boolC CmpT.isB (by kernel_rfl)) rfl) (TsT.cast (TsT.cmp (EvT.sub (EvT.name rfl) EvT.intC (SubT.listI (x := .bool false) (i := 1) (by omega) (by omega) rfl)) EvT.boolC CmpT.isB (by kernel_rfl)) rfl) (TsT.cast (TsT.cmp (EvT.sub (EvT.name rfl) EvT.intC (SubT.listI (x := .bool false) (i := 2) (by omega) (by omega) rfl)) EvT.boolC CmpT.isB (by kernel_rfl)) rfl)) (EvT.listD (EvL.cons (EvT.name rfl) (EvL.cons (EvT.name rfl) EvL.nil rfl) rfl))) ?_)
  rw [List.map_map]; rfl
end
end Mine

end

section
open PySem
set_option linter.unusedVariables false
set_option maxRecDepth 100000
namespace Mine
open PySem.Builtin PySem.Calls

section
variable {C : Cx} {k : Nat}
set_option maxHeartbeats 4000000 in
theorem w_told {K : Addr} (W : WmAt C K) (pg : Pg C) (hK : C.mg "Whitespace" = some (.ref K)) (L a : Addr) (q : Str) (cd : Value) (f s : Fam) (hf : (f.map (·.1)).Nodup) (hs : (s.map (·.1)).Nodup) (nf : f ≠ []) (ns : s ≠ []) (lf : f.length ≤ 10) (ls : s.length ≤ 10) (bdf : ∀ q ∈ f, -(2 ^ 64) < q.2 ∧ q.2 < 2 ^ 64)
    (t0 : Fin 5) (D T : List Str) (hD : DOk D) (hT : T ∈ tails) (bl : Fin 3) :
    ExT C (k + 12) (fnF (fnS (stOf 14)) L a q cd) [("first", .pv (.dictS (trW f))), ("second", .pv (.dictS (trW s))), ("turn", .pv (.int (t0.val : Int))), ("dress", .pv (.list (D.map .str))), ("tail", .pv (.list (T.map .str))), ("blanks", .pv (.str (Txt.mul " " (bl.val : Int))))] (fnB (stOf 14))
      (fun o _ => o = .rt (.list [.list (((toldOf f s).map (·.1)).map fun r => .str (wd r)), .dictI (tr (tbl (toldOf f s)))])) := by
  conv => enter [5]; whnf
  refine ExT.seq (SxT.assignLLD (by kernel_rfl) (by kernel_rfl) (by kernel_rfl) (by decide +kernel)) fun o σ' h => ?_
  obtain ⟨rfl, ka, sa, rfl⟩ := h
  dsimp only
  have e0 : put (put (put ([("first", .pv (.dictS (trW f))), ("second", .pv (.dictS (trW s))), ("turn", .pv (.int (t0.val : Int))), ("dress", .pv (.list (D.map .str))), ("tail", .pv (.list (T.map .str))), ("blanks", .pv (.str (Txt.mul " " (bl.val : Int))))] : Sg) "kinds" (.lst ka [])) "seen" (.lst sa [])) "table" (.pv (.dictI [])) =
    toB f s D T bl K ka sa ⟨t0, [], none⟩ ++ toL K bl none := by kernel_rfl
  refine (congrArg (fun z => ExT C (k + 12) _ z _ _) e0).mpr ?_
  refine ExT.seq (SxT.forM (upd := updN "a") (ok := fun _ => True) (tt := false) (g := fun q : Fin 32 × Int => PV.str (wd q.1)) (us := f) (fun st : ToS => toB f s D T bl K ka sa st ++ toL K bl st.last) (toOut s) (fun d st => st.sn.length ≤ 10 * d.length) ⟨t0, [], none⟩
    (ItE.cast (ItE.dict (dkS C) (ps := trW f) (EvT.name rfl)) (by unfold trW; rw [List.map_map]; rfl)) tN (TgU.name (by kernel_rfl)) (fun _ _ => trivial) (Nat.le_refl _) (fun d qa rest st hd hJ => ⟨?_, ?_⟩) (P := one _) ⟨rfl, rfl⟩) fun o σ' h => ?_
  · have hin : ∀ (s : Fam) (st : ToS), (s.foldl (toIn qa) st).sn.length ≤ st.sn.length + s.length := by
      intro s
      induction s with
      | nil => intro st; exact Nat.le_refl _
      | cons x s ih =>
        intro st
        have h1 := ih (toIn qa st x)
        have h2 := addSn_len st.sn (restM qa.1 x.1) (qa.2 * x.2)
        rw [List.foldl_cons, List.length_cons]
        have h3 : (toIn qa st x).sn = addSn st.sn (restM qa.1 x.1) (qa.2 * x.2) := rfl
        rw [h3] at h1
        omega
    have h1 := hin s { st with last := none }
    unfold toOut
    rw [List.length_append, List.length_cons, List.length_nil]
    have h2 : ({ st with last := none } : ToS).sn = st.sn := rfl
    rw [h2] at h1
    omega
  · have hdl : d.length ≤ 9 := by
      have : d.length + 1 ≤ f.length := by rw [hd]; simp
      omega
    refine ExT.pre (σ' := toB f s D T bl K ka sa { st with last := none } ++ ([("a", .pv (.str (wd qa.1)))] : Sg) ++ toL K bl none) ?_ ?_
    · obtain ⟨tu, sn, la⟩ := st
      rcases la with _ | ⟨t', r'⟩ <;> (unfold toB toL updN; dsimp only; repeat (first | exact List.Sublist.slnil | refine List.Sublist.cons_cons _ ?_ | refine List.Sublist.cons _ ?_))
    refine ExT.last (SxT.mono (SxT.forM (upd := updN "b") (ok := fun _ => True) (tt := false) (g := fun q : Fin 32 × Int => PV.str (wd q.1)) (us := s) (fun st : ToS => toB f s D T bl K ka sa st ++ ([("a", .pv (.str (wd qa.1)))] : Sg) ++ toL K bl st.last) (toIn qa) (fun e st => st.sn.length ≤ 10 * d.length + e.length) { st with last := none }
      (ItE.cast (ItE.dict (dkS C) (ps := trW s) (EvT.name rfl)) (by unfold trW; rw [List.map_map]; rfl)) tN (TgU.name (by kernel_rfl)) (fun _ _ => trivial) hJ (fun e qb rest' st hd' hJ => ⟨?_, ?_⟩) (P := one _) ⟨rfl, rfl⟩) fun o σ' h => ?_)
    · have h2 := addSn_len st.sn (restM qa.1 qb.1) (qa.2 * qb.2)
      have h3 : (toIn qa st qb).sn = addSn st.sn (restM qa.1 qb.1) (qa.2 * qb.2) := rfl
      rw [h3, List.length_append, List.length_cons, List.length_nil]
      omega
    · have hel : e.length ≤ 9 := by
        have : e.length + 1 ≤ s.length := by rw [hd']; simp
        omega
      have hsl : st.sn.length ≤ 100 := by omega
      refine ExT.pre (σ' := toB f s D T bl K ka sa st ++ ([("a", .pv (.str (wd qa.1))), ("b", .pv (.str (wd qb.1)))] : Sg)) ?_ ?_
      · obtain ⟨tu, sn, la⟩ := st
        rcases la with _ | ⟨t', r'⟩ <;> (unfold toB toL updN; dsimp only; repeat (first | exact List.Sublist.slnil | refine List.Sublist.cons_cons _ ?_ | refine List.Sublist.cons _ ?_))
      obtain ⟨m, va⟩ := qa
      obtain ⟨n, vb⟩ := qb
      obtain ⟨tu, sn, la⟩ := st
      dsimp only at hsl ⊢
      have hqa : (m, va) ∈ f := by rw [hd]; simp
      have hqb : (n, vb) ∈ s := by rw [hd']; simp
      obtain ⟨tn, htn⟩ : ∃ tn : Fin 5, tn = tu + 1 := ⟨_, rfl⟩
      obtain ⟨r, hr⟩ : ∃ r, r = restM m n := ⟨_, rfl⟩
      have hgo : toIn (m, va) ⟨tu, sn, la⟩ (n, vb) = ⟨tn, addSn sn r (va * vb), some (tn, r)⟩ := by unfold toIn; rw [← htn, ← hr]
      rw [hgo]
      obtain ⟨U, hU⟩ : ∃ U, U = unitsOf m n tn D T := ⟨_, rfl⟩
      have hul := units_len (m := m) (n := n) (t := tn) hD hT
      have hla := left_ascii (m := m) (n := n) (t := tn) hD hT
      have hls := left_small (m := m) (n := n) (t := tn) hD hT
      have hua := unit_ascii (m := m) (n := n) (t := tn) hD hT
      have huu := unit_len (m := m) (n := n) (t := tn) hD hT
      have hst := strip_text (m := m) (n := n) (t := tn) hD hT
      have hrd := read_text (m := m) (n := n) (t := tn) hD hT
      have hpl := places_text (m := m) (n := n) (t := tn) hD hT
      have hkr := kept_read (m := m) (n := n) (t := tn) hD hT
      have hkl := kept_lS (m := m) (n := n) (t := tn) hD hT
      have fln := f_line (k := k + 11) pg m n tn D T hD.l (fun d hd => dress_len d (hD.m d hd)) (tail_join T hT).1 (by have := (tail_ok hT).2.2.2; omega) (tail_join T hT).2
      have fst := f_strip (k := k) pg (textOf m n tn D T) (text_ascii hD hT) (by have := text_small (m := m) (n := n) (t := tn) hD hT; omega)
      have fpl := f_places (k := k + 11) pg (unitsOf m n tn D T) (fun u hu => by have := (huu u hu).2; omega) (szl (by omega))
      rw [hst] at fst
      rw [hpl] at fpl
      rw [← hr] at hkr
      rw [show (lineOf m n tn D).2 ++ T = U from hU.symm] at fln
      rw [show (lineOf m n tn D).1 ++ Txt.join "" T = textOf m n tn D T from rfl] at fln
      rw [← hU] at *
      generalize textOf m n tn D T = tx at fln fst
      have hlen12 : (plT U 0).length ≤ 12 := by rw [plT_len]; exact hul
      have jU : JoinOk "" U = true := join_small (n := 2) (fun u hu => (huu u hu).2) (by omega)
      generalize hR : plT U 0 = R at *
      generalize hLf : Txt.join "" U = left at *
      refine ExT.seq1 (SxT.assign (p := .int (tn.val : Int)) (EvT.cast (EvT.bin (EvT.bin (EvT.name rfl) EvT.intC BinT.addI) EvT.intC (BinT.modI (by decide))) (by rw [htn, ← turn_next])) (by kernel_rfl)) ?_
      refine ExT.seq1 (SxT.assign2 (p := .str tx) (q := .list (U.map .str)) (EvT.callG pg 12 (by simp) (by simp) (by kernel_rfl) (EvL.cons (EvT.name rfl) (EvL.cons (EvT.name rfl) (EvL.cons (EvT.name rfl) (EvL.cons (EvT.name rfl) (EvL.cons (EvT.name rfl) EvL.nil rfl) rfl) rfl) rfl) rfl) rfl fln) (by kernel_rfl) (by kernel_rfl)) ?_
      refine ExT.seq1 (SxT.assign (p := .str left) (EvT.callG pg 3 (by simp) (by simp) (by kernel_rfl) (EvL.cons (EvT.name rfl) EvL.nil rfl) rfl fst) (by kernel_rfl)) ?_
      refine ExT.seq1 (SxT.listComp0 (us := R) (g := escG) (upd := updN "one") (ok := fun _ => True) (sf := true) (tt := false) escG (ItE.cast (ItE.esc (k := k + 1) pg (by kernel_rfl) (EvT.name rfl) rfl hla (by omega)) (by rw [escL_T _ _ _ (fun e => by cases e), hrd])) tN (fun L cs => TgU.name (by kernel_rfl)) (fun _ _ => trivial) (fun L cs u hu => EvT.name rfl) (szl (by omega)) (by kernel_rfl) (by kernel_rfl)) ?_
      have hRa : ∀ u ∈ R, u.2.cps.all (· < 128) = true := fun u hu => hua _ (plT_mem (i := 0) (hR ▸ hu))
      refine ExT.seq (SxT.ifF (P := one _) (TsT.or2 (a := false) (b := false) (TsT.cast (TsT.cmp (EvT.name rfl) (EvT.callM EvT.strC (EvL.cons (EvT.name rfl) EvL.nil rfl) rfl PySem.F.plainAttrs_str PySem.F.slot_str_join PySem.F.type_str_join (strTy rfl) (CallT.join jU)) CmpT.neS (by kernel_rfl)) (by rw [hLf]; simp))
        (fun _ => TsT.cast (TsT.cmp (EvT.name rfl) (EvT.callG pg 13 (by simp) (by simp) (by kernel_rfl) (EvL.cons (EvT.name rfl) EvL.nil rfl) rfl fpl) (CmpT.neD (py_esc _) (py_esc _) (sh_esc hRa) (sh_esc hRa)) (by kernel_rfl)) (by rw [SeqAt.eqv_refl _ (SeqAt.canLay_of_shaped (sh_esc hRa))]; rfl)) (fun h => by cases h)) (ExT.nil ⟨rfl, rfl⟩)) fun o σ' h => ?_
      obtain ⟨rfl, rfl⟩ := h
      dsimp only
      refine ExT.seq1 (SxT.assign (p := .list (pieces.map .str)) (EvT.cast (EvT.listD (EvL.cons EvT.strC (EvL.cons EvT.strC (EvL.cons EvT.strC (EvL.cons EvT.strC (EvL.cons EvT.strC EvL.nil rfl) rfl) rfl) rfl) rfl)) rfl) (by kernel_rfl)) ?_
      obtain ⟨hlb, hlc⟩ := lead_small bl tn r
      have hble : (Txt.mul " " (bl.val : Int)).length ≤ 2 := blank_len bl
      have hjl : (Txt.join "" ((bitsR tn r).map pc)).length ≤ 30 := by
        have := app_len (Txt.join "" ((bitsR tn r).map pc)) (Txt.mul " " (bl.val : Int))
        unfold leadOf at hlb
        omega
      refine ExT.seq1 (SxT.assign (p := .str (leadOf tn r bl)) (EvT.bin (p := .str (Txt.join "" ((bitsR tn r).map pc))) (EvT.callM EvT.strC (EvL.cons (p := .list (((bitsR tn r).map pc).map .str)) (EvT.cast (EvT.listComp (us := R) (g := escG) (upd := updP "place" "unit") (ok := fun v => ∃ p q, v = .tup [p, q]) (tt := false) (sf := true) (fun u => keepU u.2) (fun u => .str (pieceOf u.2))
        (ItE.list (EvT.name rfl)) tP (fun L cs => TgU.pair (by kernel_rfl) (by kernel_rfl) (by decide +kernel)) (fun u hu => ⟨_, _, rfl⟩) (fun L cs u hu => IfT.one (TsT.cmp (EvT.name rfl) EvT.strC CmpT.inSS (by kernel_rfl)))
        (fun L cs u hu hk => ?_) (szl (by omega)) (by kernel_rfl)) ?_) EvL.nil rfl) rfl PySem.F.plainAttrs_str PySem.F.slot_str_join PySem.F.type_str_join (strTy rfl) (CallT.join (lead_join tn r))) (EvT.name rfl) (BinT.addS (szl (by omega)))) (by kernel_rfl)) ?_
      · obtain ⟨x, hx⟩ := hkl u hu hk
        refine EvT.cast (EvT.sub (EvT.name rfl) (EvT.callM EvT.strC (EvL.cons (EvT.cast (EvT.name rfl) (congrArg PV.str hx)) EvL.nil rfl) rfl PySem.F.plainAttrs_str PySem.F.slot_str_index PySem.F.type_str_index (strTy rfl) (CallT.indexS (idx_abc x))) (SubT.listI (xs := pieces.map .str) (x := .str (pc x)) (i := (x.val : Int)) (by omega) (by omega) ?_)) ?_
        · rw [show ((x.val : Nat) : Int).toNat = x.val from by omega]; exact piece_at x
        · rw [hx, piece_lS]
      · rw [← hkr, List.map_map]; rfl
      refine ExT.seq1 (SxT.assign (p := .ws K (nfP r bl)) (EvT.cast (EvT.makeW (k := k + 10) W pg hK (t := leadOf tn r bl ++ xt) (app_ascii hlc xt_ascii) (by rw [app_len, xt_len]; omega) (by kernel_rfl) (EvT.bin (EvT.name rfl) EvT.strC (BinT.addS (szl (by show (leadOf tn r bl).length + xt.length ≤ _; rw [xt_len]; omega)))) rfl) (by rw [norm_row])) (by kernel_rfl)) ?_
      refine ExT.seq1 (SxT.listComp0 (us := sn) (g := fun q => .ws K (nfP q.1 bl)) (upd := updN "kind") (ok := fun _ => True) (sf := false) (tt := false) (fun q => .bool (q.1 == r)) (ItE.lst rfl) tN (fun L cs => TgU.name (by kernel_rfl)) (fun _ _ => trivial) (fun L cs u hu => EvT.cast (EvT.callEq W.toWsAt rfl (EvT.name rfl) rfl (py_nf _ _) (py_nf _ _) (sh_nf _ _) (sh_nf _ _) (by omega) noEqual) (by rw [eqv_nf])) (szl (by omega)) (by kernel_rfl) (by kernel_rfl)) ?_
      have tA : ∀ {F σ pos} {e1 e2 : Expr} {x : Fin 5}, EvT C (k + 12) F σ e1 (.str (lS x)) → EvT C (k + 12) F σ e2 (.str (wd m)) → behindInMarks .In e2 = false → TsT C (k + 12) F σ (.Compare e1 [.In] [e2] pos) (m.val.testBit x.val) := fun h1 h2 h3 => TsT.cast (TsT.cmp h1 h2 CmpT.inSS h3) (in_wd _ m)
      have tB : ∀ {F σ pos} {e1 e2 : Expr} {x : Fin 5}, EvT C (k + 12) F σ e1 (.str (lS x)) → EvT C (k + 12) F σ e2 (.str (wd n)) → behindInMarks .NotIn e2 = false → TsT C (k + 12) F σ (.Compare e1 [.NotIn] [e2] pos) (!n.val.testBit x.val) := fun h1 h2 h3 => TsT.cast (TsT.cmp h1 h2 CmpT.notInSS h3) (by rw [in_wd _ n])
      refine ExT.seq1 (SxT.assign (p := .str (wd r)) (EvT.cast (EvT.callM EvT.strC (EvL.cons (p := .list ((((List.finRange 5).filter fun x => m.val.testBit x.val && !n.val.testBit x.val).map lS).map .str)) (EvT.cast (EvT.listComp (us := List.finRange 5) (g := fun i : Fin 5 => PV.str (lS i)) (upd := updN "x") (ok := fun _ => True) (tt := false) (sf := true) (fun x => m.val.testBit x.val && !n.val.testBit x.val) (fun x => .str (lS x))
        (ItE.cast (ItE.str EvT.strC (by decide +kernel)) chars_abc) tN (fun L cs => TgU.name (by kernel_rfl)) (fun _ _ => trivial) (fun L cs x hx => IfT.one (TsT.and2 (tA (EvT.name rfl) (EvT.name rfl) (by kernel_rfl)) (fun h => TsT.cast (tB (EvT.name rfl) (EvT.name rfl) (by kernel_rfl)) (by rw [h]; rfl)) (fun h => by rw [h]; rfl)))
        (fun L cs x hx _ => EvT.name rfl) (szl (by decide)) (by kernel_rfl)) (by rw [List.map_map]; rfl)) EvL.nil rfl) rfl PySem.F.plainAttrs_str PySem.F.slot_str_join PySem.F.type_str_join (strTy rfl) (CallT.join ?_)) (by rw [rest_wd, hr])) (by kernel_rfl)) ?_
      · refine join_small (n := 1) (fun x hx => ?_) ?_
        · obtain ⟨y, _, rfl⟩ := List.mem_map.mp hx
          exact Nat.le_refl _
        · have h1 := List.length_filter_le (fun x : Fin 5 => m.val.testBit x.val && !n.val.testBit x.val) (List.finRange 5)
          rw [List.length_finRange] at h1
          rw [List.length_map]
          omega
      refine ExT.seq (SxT.ifF (P := one _) (TsT.or2 (a := false) (b := false) (TsT.cast (TsT.cmp (EvT.name rfl) (EvT.listComp0 (us := sn) (g := fun q => .str (wd q.1)) (upd := updN "other") (ok := fun _ => True) (sf := false) (tt := false) (fun q => .bool (q.1 == r)) (ItE.lst rfl) tN (fun L cs => TgU.name (by kernel_rfl)) (fun _ _ => trivial) (fun L cs u hu => EvT.cast (EvT.cmp (EvT.name rfl) (EvT.name rfl) CmpT.eqS (by kernel_rfl)) (by rw [wd_beq])) (szl (by omega)) (by kernel_rfl))
          (CmpT.neD (py_boolsF _ _) (py_boolsF _ _) (sh_boolsF _ _) (sh_boolsF _ _)) (by kernel_rfl)) (by rw [eqv_boolsF]; rfl))
        (fun _ => TsT.cast (TsT.val (EvT.listComp (us := sn) (g := fun q => .bool (q.1 == r)) (upd := updN "one") (ok := fun _ => True) (sf := true) (tt := false) (fun _ => false) (fun q => .none) (ItE.list (EvT.name rfl)) tN (fun L cs => TgU.name (by kernel_rfl)) (fun _ _ => trivial) (fun L cs u hu => IfT.one (TsT.and2 (TsT.cmp (EvT.name rfl) EvT.boolC CmpT.isNotB (by kernel_rfl)) (fun h => TsT.cast (TsT.cmp (EvT.name rfl) EvT.boolC CmpT.isNotB (by kernel_rfl)) (by cases hb : (u.1 == r) <;> rw [hb] at h <;> first | rfl | cases h)) (fun h => rfl))) (fun L cs u hu h => by cases h) (szl (by omega)) (by kernel_rfl)) (TrT.list (by rw [filt0]; decide))) (by rw [filt0]; rfl)) (fun h => by cases h)) (ExT.nil ⟨rfl, rfl⟩)) fun o σ' h => ?_
      obtain ⟨rfl, rfl⟩ := h
      dsimp only
      refine ExT.pre (σ' := toM f s D T bl K ka sa m n tn sn r) ?_ (told_tail pg L a q cd f s hf hs D T bl ka sa m n va vb hqa hqb (bdf _ hqa) tn sn hsl r)
      unfold toM toB
      dsimp only
      repeat (first | exact List.Sublist.slnil | refine List.Sublist.cons_cons _ ?_ | refine List.Sublist.cons _ ?_)
    · obtain ⟨rfl, rfl⟩ := h
      refine ⟨rfl, ?_⟩
      exact List.Sublist.append (List.sublist_append_left _ _) (List.Sublist.refl _)
  · obtain ⟨rfl, rfl⟩ := h
    dsimp only
    have e1 := out_sn s f ⟨t0, [], none⟩
    have e2 := out_last ns f ⟨t0, [], none⟩ (.inl nf)
    have e3 : f.foldl (fun sn qa => s.foldl (fun sn qb => addSn sn (restM qa.1 qb.1) (qa.2 * qb.2)) sn) [] = toldOf f s := rfl
    dsimp only at e1
    rw [e3] at e1
    rw [← e1]
    clear e1 e3
    generalize f.foldl (toOut s) ⟨t0, [], none⟩ = st at e2
    obtain ⟨tu, sn, la⟩ := st
    rcases la with _ | ⟨t, r⟩
    · cases e2
    · exact told_end W pg hK L a q cd f s D T bl ka sa tu sn t r
theorem f_told {K : Addr} (W : WmAt C K) (pg : Pg C) (hK : C.mg "Whitespace" = some (.ref K)) (f s : Fam) (hf : (f.map (·.1)).Nodup) (hs : (s.map (·.1)).Nodup) (nf : f ≠ []) (ns : s ≠ []) (lf : f.length ≤ 10) (ls : s.length ≤ 10) (bdf : ∀ q ∈ f, -(2 ^ 64) < q.2 ∧ q.2 < 2 ^ 64)
    (t0 : Fin 5) (D T : List Str) (hD : DOk D) (hT : T ∈ tails) (bl : Fin 3) :
    FnT C (k + 13) (pg.fa 14) [.dictS (trW f), .dictS (trW s), .int (t0.val : Int), .list (D.map .str), .list (T.map .str), .str (Txt.mul " " (bl.val : Int))] (.list [.list (((toldOf f s).map (·.1)).map fun r => .str (wd r)), .dictI (tr (tbl (toldOf f s)))]) :=
  .mk (pg.fn 14 (by simp)) (fun L a q cd => w_told W pg hK L a q cd f s hf hs nf ns lf ls bdf t0 D T hD hT bl) rfl (by kernel_rfl)
end
end Mine

end

section
open PySem
set_option linter.unusedVariables false
set_option maxRecDepth 100000
namespace Mine

/-! the plain law: what is told is what is counted -/
noncomputable def isum {α : Type} (l : List α) (h : α → Int) : Int := (l.map h).sum
section
variable {α β : Type}
theorem isum_nil (h : α → Int) : isum [] h = 0 := rfl
theorem isum_cons (x : α) (l : List α) (h : α → Int) : isum (x :: l) h = h x + isum l h := by simp [isum]
theorem isum_congr {l : List α} {h g : α → Int} (e : ∀ x ∈ l, h x = g x) : isum l h = isum l g := by
  unfold isum; rw [List.map_congr_left e]
theorem isum_mul (c : Int) (l : List α) (h : α → Int) : c * isum l h = isum l fun x => c * h x := by
  induction l with
  | nil => simp [isum_nil]
  | cons x l ih => rw [isum_cons, isum_cons, Int.mul_add, ih]
theorem isum_mulr (c : Int) (l : List α) (h : α → Int) : isum l h * c = isum l fun x => h x * c := by
  rw [Int.mul_comm, isum_mul]
  exact isum_congr fun x _ => Int.mul_comm _ _
theorem isum_add (l : List α) (h g : α → Int) : isum l (fun x => h x + g x) = isum l h + isum l g := by
  induction l with
  | nil => rfl
  | cons x l ih => rw [isum_cons, isum_cons, isum_cons, ih]; omega
theorem isum_zero (l : List α) : isum l (fun _ => 0) = 0 := by
  induction l with
  | nil => rfl
  | cons x l ih => rw [isum_cons, ih]; rfl
theorem isum_swap (l : List α) (k : List β) (h : α → β → Int) : isum l (fun x => isum k fun y => h x y) = isum k fun y => isum l fun x => h x y := by
  induction l with
  | nil => rw [isum_nil, show (fun y => isum ([] : List α) fun x => h x y) = fun _ => 0 from rfl, isum_zero]
  | cons x l ih =>
    rw [isum_cons, ih, ← isum_add]
    exact isum_congr fun y _ => (isum_cons x l fun x => h x y).symm
theorem isum_filter (l : List α) (p : α → Bool) (h : α → Int) : isum (l.filter p) h = isum l fun x => if p x = true then h x else 0 := by
  induction l with
  | nil => rfl
  | cons x l ih =>
    rw [List.filter_cons, isum_cons]
    by_cases hp : p x = true
    · rw [if_pos hp, if_pos hp, isum_cons, ih]
    · rw [if_neg hp, if_neg hp, ih]; omega
end

theorem addSn_sum : ∀ (sn : Sn) (r : Fin 32) (v : Int), isum (addSn sn r v) (·.2) = isum sn (·.2) + v
  | [], r, v => by simp [addSn, isum]
  | (s, u) :: l, r, v => by
    rw [addSn, isum_cons]
    by_cases h : s = r
    · rw [if_pos h, isum_cons]; dsimp only; omega
    · rw [if_neg h, isum_cons, addSn_sum l]; omega
noncomputable def getS (sn : Sn) (r : Fin 32) : Int := isum sn fun q => if q.1 = r then q.2 else 0
theorem addSn_get : ∀ (sn : Sn) (r : Fin 32) (v : Int) (x : Fin 32), getS (addSn sn r v) x = getS sn x + (if r = x then v else 0)
  | [], r, v, x => by simp [addSn, getS, isum]
  | (s, u) :: l, r, v, x => by
    have ih := addSn_get l r v x
    unfold getS at ih ⊢
    rw [addSn, isum_cons]
    by_cases h : s = r
    · rw [if_pos h, isum_cons]
      dsimp only
      subst h
      by_cases h2 : s = x
      · rw [if_pos h2, if_pos h2, if_pos h2]; omega
      · rw [if_neg h2, if_neg h2, if_neg h2]; omega
    · rw [if_neg h, isum_cons, ih]; omega
theorem addSn_nodup {sn : Sn} (h : (sn.map (·.1)).Nodup) (r : Fin 32) (v : Int) : ((addSn sn r v).map (·.1)).Nodup := by
  rw [addSn_new]
  split
  · rename_i e
    have hno : r ∉ sn.map (·.1) := fun q => by
      obtain ⟨p, hp, e1⟩ := List.mem_map.mp q
      have := List.findIdx_eq_length.mp e p hp
      simp [e1] at this
    rw [List.nodup_append]
    refine ⟨h, by simp, fun a ha b hb e2 => ?_⟩
    rw [List.mem_singleton] at hb
    exact hno (hb ▸ e2 ▸ ha)
  · exact h
theorem getS_mem : ∀ {sn : Sn}, (sn.map (·.1)).Nodup → ∀ q ∈ sn, getS sn q.1 = q.2
  | [], _, q, h => by cases h
  | p :: l, hn, q, h => by
    rw [List.map_cons, List.nodup_cons] at hn
    have hz : ∀ l : Sn, ∀ x : Fin 32, x ∉ l.map (·.1) → getS l x = 0 := fun l x hx => by
      unfold getS
      rw [isum_congr (g := fun _ => 0) fun y hy => if_neg fun e => hx (List.mem_map.mpr ⟨y, hy, e⟩), isum_zero]
    unfold getS
    rw [isum_cons]
    rcases List.mem_cons.mp h with e | e
    · subst e
      rw [if_pos rfl]
      have := hz l q.1 hn.1
      unfold getS at this
      rw [this]; omega
    · rw [if_neg fun e1 => hn.1 (List.mem_map.mpr ⟨q, e, e1.symm⟩)]
      have := getS_mem hn.2 q e
      unfold getS at this
      rw [this]; omega

/-- sums over all pairs -/
noncomputable def S2 (f s : Fam) (g : Fin 32 → Fin 32 → Int) : Int := isum f fun a => isum s fun b => g a.1 b.1 * (a.2 * b.2)
theorem told_get (x : Fin 32) (f s : Fam) : getS (toldOf f s) x = S2 f s (fun m n => if restM m n = x then 1 else 0) ∧ ((toldOf f s).map (·.1)).Nodup ∧ isum (toldOf f s) (·.2) = isum f (·.2) * isum s (·.2) := by
  have inner : ∀ (qa : Fin 32 × Int) (s : Fam) (sn : Sn), (sn.map (·.1)).Nodup →
      getS (s.foldl (fun sn qb => addSn sn (restM qa.1 qb.1) (qa.2 * qb.2)) sn) x = getS sn x + (isum s fun b => (if restM qa.1 b.1 = x then 1 else 0) * (qa.2 * b.2)) ∧
      ((s.foldl (fun sn qb => addSn sn (restM qa.1 qb.1) (qa.2 * qb.2)) sn).map (·.1)).Nodup ∧
      isum (s.foldl (fun sn qb => addSn sn (restM qa.1 qb.1) (qa.2 * qb.2)) sn) (·.2) = isum sn (·.2) + qa.2 * isum s (·.2) := by
    intro qa s
    induction s with
    | nil => intro sn h; refine ⟨?_, h, ?_⟩ <;> simp [isum_nil]
    | cons b s ih =>
      intro sn h
      obtain ⟨h1, h2, h3⟩ := ih (addSn sn (restM qa.1 b.1) (qa.2 * b.2)) (addSn_nodup h _ _)
      refine ⟨?_, h2, ?_⟩
      · rw [List.foldl_cons, h1, addSn_get, isum_cons]
        split <;> simp <;> omega
      · rw [List.foldl_cons, h3, addSn_sum, isum_cons, Int.mul_add]; omega
  have outer : ∀ (f : Fam) (sn : Sn), (sn.map (·.1)).Nodup →
      getS (f.foldl (fun sn qa => s.foldl (fun sn qb => addSn sn (restM qa.1 qb.1) (qa.2 * qb.2)) sn) sn) x = getS sn x + S2 f s (fun m n => if restM m n = x then 1 else 0) ∧
      ((f.foldl (fun sn qa => s.foldl (fun sn qb => addSn sn (restM qa.1 qb.1) (qa.2 * qb.2)) sn) sn).map (·.1)).Nodup ∧
      isum (f.foldl (fun sn qa => s.foldl (fun sn qb => addSn sn (restM qa.1 qb.1) (qa.2 * qb.2)) sn) sn) (·.2) = isum sn (·.2) + isum f (·.2) * isum s (·.2) := by
    intro f
    induction f with
    | nil => intro sn h; refine ⟨?_, h, ?_⟩ <;> simp [isum_nil, S2]
    | cons a f ih =>
      intro sn h
      obtain ⟨i1, i2, i3⟩ := inner a s sn h
      obtain ⟨h1, h2, h3⟩ := ih _ i2
      refine ⟨?_, h2, ?_⟩
      · rw [List.foldl_cons, h1, i1]
        exact (Int.add_assoc _ _ _).trans (congrArg (getS sn x + ·) (isum_cons a f fun a => isum s fun b => (if restM a.1 b.1 = x then 1 else 0) * (a.2 * b.2)).symm)
      · rw [List.foldl_cons, h3, i3, isum_cons, Int.add_mul]; omega
  have := outer f [] List.nodup_nil
  unfold toldOf
  have e0 : getS [] x = 0 := rfl
  have e1 : isum ([] : Sn) (·.2) = 0 := rfl
  rw [e0, e1, Int.zero_add, Int.zero_add] at this
  exact this

theorem and0 : ∀ n e : Fin 32, (n.val &&& e.val == 0) = ((31 - n.val) &&& e.val == e.val) := by decide +kernel
theorem sub_rest (m n e : Fin 32) : (m.val &&& e.val == e.val && n.val &&& e.val == 0) = ((restM m n).val &&& e.val == e.val) := by
  rw [and0]
  show (m.val &&& e.val == e.val && (31 - n.val) &&& e.val == e.val) = ((m.val &&& (31 - n.val)) &&& e.val == e.val)
  rw [Bool.eq_iff_iff, Bool.and_eq_true, beq_iff_eq, beq_iff_eq, beq_iff_eq, Nat.and_assoc]
  constructor
  · rintro ⟨h1, h2⟩
    rw [h2, h1]
  · intro h
    have h2 : (31 - n.val) &&& e.val = e.val := by
      have : (31 - n.val) &&& (m.val &&& ((31 - n.val) &&& e.val)) = m.val &&& ((31 - n.val) &&& e.val) := by
        rw [← Nat.and_assoc, Nat.and_comm (31 - n.val) m.val, Nat.and_assoc, ← Nat.and_assoc (31 - n.val), Nat.and_self]
      rw [h] at this
      exact this
    rw [h2] at h
    exact ⟨h, h2⟩
theorem moebius : ∀ w r : Fin 32, (((List.finRange 32).filter fun e => e.val &&& r.val == r.val).map fun e => signs32.getD (e.val - r.val) 0 * (if (w.val &&& e.val == e.val) = true then 1 else 0)).sum = if w = r then 1 else 0 := by decide +kernel
theorem both_S2 (f s : Fam) (e : Fin 32) : bothAt f s e = S2 f s fun m n => if ((restM m n).val &&& e.val == e.val) = true then 1 else 0 := by
  have fs : ∀ (f : Fam) (p : Fin 32 → Bool), fsum f p = isum f fun q => if p q.1 = true then q.2 else 0 := fun f p => isum_filter f (fun q => p q.1) (·.2)
  unfold bothAt S2
  rw [fs, fs, isum_mulr]
  refine isum_congr fun a _ => ?_
  rw [isum_mul]
  refine isum_congr fun b _ => ?_
  dsimp only
  rw [← sub_rest]
  by_cases h1 : (a.1.val &&& e.val == e.val) = true <;> by_cases h2 : (b.1.val &&& e.val == 0) = true <;> simp [h1, h2]
theorem counted_S2 (f s : Fam) (r : Fin 32) : countedAt f s r = S2 f s fun m n => if restM m n = r then 1 else 0 := by
  have e1 : countedAt f s r = isum ((List.finRange 32).filter fun e => e.val &&& r.val == r.val) fun e => signs32.getD (e.val - r.val) 0 * bothAt f s e := rfl
  rw [e1]
  rw [isum_congr (g := fun e => isum f fun a => isum s fun b => signs32.getD (e.val - r.val) 0 * ((if ((restM a.1 b.1).val &&& e.val == e.val) = true then 1 else 0) * (a.2 * b.2))) fun e _ => ?_]
  · rw [isum_swap]
    unfold S2
    refine isum_congr fun a _ => ?_
    rw [isum_swap]
    refine isum_congr fun b _ => ?_
    dsimp only
    rw [← moebius (restM a.1 b.1) r]
    show _ = isum _ _ * _
    rw [isum_mulr]
    exact isum_congr fun e _ => by rw [Int.mul_assoc]
  · rw [both_S2]
    unfold S2
    rw [isum_mul]
    exact isum_congr fun a _ => isum_mul _ _ _
theorem told_counted (f s : Fam) : ∀ q ∈ toldOf f s, q.2 = countedAt f s q.1 := fun q hq => by
  obtain ⟨h1, h2, _⟩ := told_get q.1 f s
  rw [counted_S2, ← h1]
  exact (getS_mem h2 q hq).symm
theorem told_total (f s : Fam) : ((toldOf f s).map (·.2)).sum = (f.map (·.2)).sum * (s.map (·.2)).sum := (told_get 0 f s).2.2
end Mine

end

section
open PySem
set_option linter.unusedVariables false
set_option maxRecDepth 100000
namespace Mine

/-! the families, the shares, dress, tail, turn and blanks that law makes of the four sums -/
theorem mask_bd (cell : Int) (k : Nat) : 0 ≤ maskAt cell k ∧ maskAt cell k < 32 := ⟨Int.fmod_nonneg_of_pos _ (by decide), Int.fmod_lt_of_pos _ (by decide)⟩
noncomputable def mkF (cell : Int) (k : Nat) : Fin 32 := ⟨(maskAt cell k).toNat, by have := mask_bd cell k; omega⟩
theorem setOf_wd : ∀ m : Fin 32, setOf (m.val : Int) = wd m := by decide +kernel
theorem set_mk (cell : Int) (k : Nat) : setOf (maskAt cell k) = wd (mkF cell k) := by
  rw [← setOf_wd]
  have := mask_bd cell k
  show setOf (maskAt cell k) = setOf (((maskAt cell k).toNat : Nat) : Int)
  rw [Int.toNat_of_nonneg this.1]
noncomputable def famMs (cell : Int) (fam : List (Fin 32)) (k : Nat) : List (Fin 32) := if mkF cell k ∈ fam then fam else fam ++ [mkF cell k]
noncomputable def famM (cell : Int) (most : Nat) : List (Fin 32) := (List.range most).foldl (famMs cell) []
theorem famS_ste (cell : Int) (fam : List (Fin 32)) (k : Nat) : famStep cell (fam.map wd) k = (famMs cell fam k).map wd := by
  unfold famStep famMs
  rw [set_mk]
  by_cases h : mkF cell k ∈ fam
  · rw [if_pos h, if_pos]
    rw [List.any_eq_true]
    exact ⟨_, List.mem_map_of_mem h, by simp⟩
  · rw [if_neg h, if_neg, List.map_append]; rfl
    rw [List.any_eq_true]
    rintro ⟨x, hx, e⟩
    obtain ⟨m, hm, rfl⟩ := List.mem_map.mp hx
    rw [beq_iff_eq] at e
    exact h (wd_inj e ▸ hm)
theorem famM_fold (cell : Int) : ∀ (ks : List Nat) (fam : List (Fin 32)), fam.Nodup → ks.foldl (famStep cell) (fam.map wd) = (ks.foldl (famMs cell) fam).map wd ∧ (ks.foldl (famMs cell) fam).Nodup ∧ (ks.foldl (famMs cell) fam).length ≤ fam.length + ks.length ∧ (fam ≠ [] ∨ ks ≠ [] → ks.foldl (famMs cell) fam ≠ [])
  | [], fam, h => ⟨rfl, h, Nat.le_refl _, fun e => e.elim id fun e => absurd rfl e⟩
  | k :: ks, fam, h => by
    have hn : (famMs cell fam k).Nodup := by
      unfold famMs
      split
      · exact h
      · rename_i hk
        rw [List.nodup_append]
        refine ⟨h, by simp, fun a ha b hb e => ?_⟩
        rw [List.mem_singleton] at hb
        exact hk (hb ▸ e ▸ ha)
    have hl : (famMs cell fam k).length ≤ fam.length + 1 := by unfold famMs; split <;> simp
    have hne : famMs cell fam k ≠ [] := by
      unfold famMs
      split
      · rename_i hk
        intro e
        rw [e] at hk
        cases hk
      · simp
    obtain ⟨h1, h2, h3, h4⟩ := famM_fold cell ks _ hn
    refine ⟨?_, h2, ?_, fun _ => h4 (.inl hne)⟩
    · rw [List.foldl_cons, famS_ste, h1]; rfl
    · rw [List.foldl_cons, List.length_cons]; omega
theorem famM_ok (cell : Int) (most : Nat) (hm : most ≠ 0) : famOf cell most = (famM cell most).map wd ∧ (famM cell most).Nodup ∧ (famM cell most).length ≤ most ∧ famM cell most ≠ [] := by
  obtain ⟨h1, h2, h3, h4⟩ := famM_fold cell (List.range most) [] List.nodup_nil
  refine ⟨h1, h2, by rw [List.length_range, List.length_nil, Nat.zero_add] at h3; exact h3, h4 (.inr ?_)⟩
  intro e
  have := congrArg List.length e
  simp at this
  exact hm this
noncomputable def sh (c : Int) (k : Nat) : Int := Int.fmod (Int.fdiv c ((8 : Int) ^ k)) 8 - 3
theorem sh_bd (c : Int) (k : Nat) : -3 ≤ sh c k ∧ sh c k ≤ 4 := by
  unfold sh
  have h0 : 0 ≤ Int.fmod (Int.fdiv c ((8 : Int) ^ k)) 8 := Int.fmod_nonneg_of_pos _ (by decide)
  have h1 : Int.fmod (Int.fdiv c ((8 : Int) ^ k)) 8 < 8 := Int.fmod_lt_of_pos _ (by decide)
  omega
noncomputable def famS (cell c : Int) (most off : Nat) : Fam := (famM cell most).zipIdx.map fun u => (u.1, sh c (off + u.2))
theorem famS_keys (cell c : Int) (most off : Nat) : (famS cell c most off).map (·.1) = famM cell most := by
  unfold famS
  rw [List.map_map]
  have : ((fun q : Fin 32 × Int => q.1) ∘ fun u : Fin 32 × Nat => (u.1, sh c (off + u.2))) = Prod.fst := rfl
  rw [this, List.zipIdx_map_fst]
structure FOk (f : Fam) : Prop where
  nd : (f.map (·.1)).Nodup
  ne : f ≠ []
  len : f.length ≤ 10
  bd : ∀ q ∈ f, -3 ≤ q.2 ∧ q.2 ≤ 4
theorem famS_ok (cell c : Int) (most off : Nat) (hm : most ≠ 0) (hl : most ≤ 10) : FOk (famS cell c most off) := by
  obtain ⟨_, h2, h3, h4⟩ := famM_ok cell most hm
  refine ⟨by rw [famS_keys]; exact h2, fun e => ?_, ?_, fun q hq => ?_⟩
  · have := famS_keys cell c most off
    rw [e] at this
    exact h4 this.symm
  · have := congrArg List.length (famS_keys cell c most off)
    rw [List.length_map] at this
    omega
  · obtain ⟨u, _, rfl⟩ := List.mem_map.mp hq
    exact sh_bd _ _
theorem sum_bd : ∀ (l : List Int), (∀ x ∈ l, -3 ≤ x ∧ x ≤ 4) → -(4 * (l.length : Int)) ≤ l.sum ∧ l.sum ≤ 4 * (l.length : Int)
  | [], _ => by simp
  | x :: l, h => by
    have h1 := h x List.mem_cons_self
    have h2 := sum_bd l fun y hy => h y (List.mem_cons_of_mem _ hy)
    rw [List.sum_cons, List.length_cons]
    omega
theorem fsum_bd {f : Fam} (h : FOk f) (p : Fin 32 → Bool) : -(2 ^ 64) < fsum f p ∧ fsum f p < 2 ^ 64 := by
  have h1 := sum_bd ((f.filter fun q => p q.1).map (·.2)) fun x hx => by
    obtain ⟨q, hq, rfl⟩ := List.mem_map.mp hx
    exact h.bd q (List.mem_filter.mp hq).1
  have h2 := List.length_filter_le (fun q : Fin 32 × Int => p q.1) f
  have h3 := h.len
  rw [List.length_map] at h1
  unfold fsum
  omega
theorem fam_bd {f : Fam} (h : FOk f) : -(2 ^ 64) < (f.map (·.2)).sum ∧ (f.map (·.2)).sum < 2 ^ 64 := by
  have h1 := sum_bd (f.map (·.2)) fun x hx => by
    obtain ⟨q, hq, rfl⟩ := List.mem_map.mp hx
    exact h.bd q hq
  have h3 := h.len
  rw [List.length_map] at h1
  omega
theorem fam_bdq {f : Fam} (h : FOk f) : ∀ q ∈ f, -(2 ^ 64) < q.2 ∧ q.2 < 2 ^ 64 := fun q hq => by
  have := h.bd q hq
  omega

/-! a figure to a base -/
noncomputable def figN (c b n : Int) : Nat := (Int.fmod (Int.fdiv c b) n).toNat
theorem figN_ok (c b : Int) {n : Int} (hn : 0 < n) : Int.fmod (Int.fdiv c b) n = (figN c b n : Int) ∧ (figN c b n : Int) < n := by
  have h0 : 0 ≤ Int.fmod (Int.fdiv c b) n := Int.fmod_nonneg_of_pos _ hn
  have h1 : Int.fmod (Int.fdiv c b) n < n := Int.fmod_lt_of_pos _ hn
  unfold figN
  rw [Int.toNat_of_nonneg h0]
  exact ⟨rfl, h1⟩
noncomputable def dressOf (c : Int) (k : Nat) : Str := dresses.getD (figN c ((4 : Int) ^ k) 4) ""
noncomputable def dOf (c : Int) : List Str := (List.range 5).map (dressOf c)
theorem dress_at (c : Int) (k : Nat) : (dresses.map PV.str)[figN c ((4 : Int) ^ k) 4]? = some (.str (dressOf c k)) ∧ dressOf c k ∈ dresses := by
  have h := (figN_ok c ((4 : Int) ^ k) (n := 4) (by decide)).2
  have hl : figN c ((4 : Int) ^ k) 4 < dresses.length := by
    have : dresses.length = 4 := rfl
    omega
  unfold dressOf
  rw [List.getElem?_map, List.getD_eq_getElem?_getD, List.getElem?_eq_getElem hl]
  exact ⟨rfl, List.getElem_mem hl⟩
theorem dOf_ok (c : Int) : DOk (dOf c) := ⟨by simp [dOf], fun d hd => by
  obtain ⟨k, _, rfl⟩ := List.mem_map.mp hd
  exact (dress_at c k).2⟩
noncomputable def tOf (c : Int) : List Str := tails.getD (figN c 1024 4) []
theorem tail_at (c : Int) : (tails.map fun T => PV.list (T.map .str))[figN c 1024 4]? = some (.list ((tOf c).map .str)) ∧ tOf c ∈ tails := by
  have h := (figN_ok c 1024 (n := 4) (by decide)).2
  have hl : figN c 1024 4 < tails.length := by
    have : tails.length = 4 := rfl
    omega
  unfold tOf
  rw [List.getElem?_map, List.getD_eq_getElem?_getD, List.getElem?_eq_getElem hl]
  exact ⟨rfl, List.getElem_mem hl⟩
noncomputable def turnOf (c : Int) : Fin 5 := ⟨figN c 4096 5, by have := (figN_ok c 4096 (n := 5) (by decide)).2; omega⟩
theorem turn_at (c : Int) : Int.fmod (Int.fdiv c 4096) 5 = ((turnOf c).val : Int) := (figN_ok c 4096 (n := 5) (by decide)).1
noncomputable def blOf (c : Int) : Fin 3 := ⟨figN c 20480 3, by have := (figN_ok c 20480 (n := 3) (by decide)).2; omega⟩
theorem bl_at (c : Int) : Int.fmod (Int.fdiv c 20480) 3 = ((blOf c).val : Int) := (figN_ok c 20480 (n := 3) (by decide)).1

/-! what is counted as a table -/
theorem told_table (f s : Fam) : ∀ (sn : Sn) (i : Nat), (∀ q ∈ sn, q.2 = countedAt f s q.1) → ((sn.map (·.1)).zipIdx i).map (fun u => ((u.2 : Int), PV.int (countedAt f s u.1))) = tr (tblF i sn)
  | [], _, _ => rfl
  | q :: sn, i, h => by
    have := told_table f s sn (i + 1) fun p hp => h p (List.mem_cons_of_mem _ hp)
    rw [List.map_cons, List.zipIdx_cons, List.map_cons, this, tblF, ← h q List.mem_cons_self]
    rfl
theorem zip_keys {α : Type} : ∀ (l : List α) (i : Nat), ((l.zipIdx i).map fun u => (u.2 : Int)).Nodup ∧ ∀ x ∈ (l.zipIdx i).map fun u => (u.2 : Int), (i : Int) ≤ x
  | [], _ => ⟨List.nodup_nil, fun x h => by cases h⟩
  | a :: l, i => by
    obtain ⟨h1, h2⟩ := zip_keys l (i + 1)
    rw [List.zipIdx_cons, List.map_cons]
    refine ⟨List.nodup_cons.mpr ⟨fun h => ?_, h1⟩, fun x hx => ?_⟩
    · have := h2 _ h
      dsimp only at this
      omega
    · rcases List.mem_cons.mp hx with e | e
      · rw [e]; exact Int.le_refl _
      · have := h2 x e
        omega
theorem tblF_sum : ∀ (sn : Sn) (i : Nat), (tblF i sn).map (·.2) = sn.map (·.2)
  | [], _ => rfl
  | q :: sn, i => by rw [tblF, List.map_cons, List.map_cons, tblF_sum sn]
theorem told_len {f s : Fam} (hf : f.length ≤ 10) (hs : s.length ≤ 10) : (toldOf f s).length ≤ 100 := by
  have inner : ∀ (qa : Fin 32 × Int) (s : Fam) (sn : Sn), (s.foldl (fun sn qb => addSn sn (restM qa.1 qb.1) (qa.2 * qb.2)) sn).length ≤ sn.length + s.length := by
    intro qa s
    induction s with
    | nil => intro sn; exact Nat.le_refl _
    | cons b s ih =>
      intro sn
      have h1 := ih (addSn sn (restM qa.1 b.1) (qa.2 * b.2))
      have h2 := addSn_len sn (restM qa.1 b.1) (qa.2 * b.2)
      rw [List.foldl_cons, List.length_cons]
      omega
  have outer : ∀ (f : Fam) (sn : Sn), (f.foldl (fun sn qa => s.foldl (fun sn qb => addSn sn (restM qa.1 qb.1) (qa.2 * qb.2)) sn) sn).length ≤ sn.length + f.length * s.length := by
    intro f
    induction f with
    | nil => intro sn; simp
    | cons a f ih =>
      intro sn
      have h1 := ih (s.foldl (fun sn qb => addSn sn (restM a.1 qb.1) (a.2 * qb.2)) sn)
      have h2 := inner a s sn
      rw [List.foldl_cons, List.length_cons, Nat.add_mul, Nat.one_mul]
      omega
  have h := outer f []
  have h2 : f.length * s.length ≤ 10 * 10 := Nat.mul_le_mul hf hs
  unfold toldOf
  simp only [List.length_nil, Nat.zero_add] at h
  omega
end Mine

end

section
open PySem
set_option linter.unusedVariables false
set_option maxRecDepth 100000
namespace Mine
open PySem.Builtin PySem.Calls

theorem pow8 (n : Nat) (h : n ≤ 8) : ((8 : Int) ^ n).natAbs < 1073741824 := by
  have : ∀ m : Fin 9, ((8 : Int) ^ m.val).natAbs < 1073741824 := by decide +kernel
  exact this ⟨n, by omega⟩
theorem pow4 (n : Nat) (h : n ≤ 8) : ((4 : Int) ^ n).natAbs < 1073741824 := by
  have : ∀ m : Fin 9, ((4 : Int) ^ m.val).natAbs < 1073741824 := by decide +kernel
  exact this ⟨n, by omega⟩
theorem zip_lt {cell : Int} {most : Nat} (hm : most ≠ 0) {u : Fin 32 × Nat} (h : u ∈ (famM cell most).zipIdx) : u.2 < most := by
  have h1 := List.snd_lt_of_mem_zipIdx h
  have h2 := (famM_ok cell most hm).2.2.1
  omega
theorem mul_ok3 (bl : Fin 3) : MulOk " " (bl.val : Int) := by
  have h : ∀ bl : Fin 3, (decide ((bl.val : Int) < -(2 ^ 63 : Int)) || decide ((bl.val : Int) ≥ 2 ^ 63)) = false ∧ ¬ (((" " : Str).length : Int) > (2 ^ 63 - 1) / (if (bl.val : Int) = 0 then 1 else (bl.val : Int))) ∧ PySem.Builtin.Str.tooLong ((" " : Str).length * (bl.val : Int).toNat) = false := by decide +kernel
  obtain ⟨h1, h2, h3⟩ := h bl
  refine ⟨h1, fun q _ => ?_, fun _ _ => h3⟩
  rwa [if_neg (by omega)] at h2
theorem famS_dfill (cell c : Int) (most off : Nat) (hm : most ≠ 0) : dfill (fun u : Fin 32 × Nat => wd u.1) (fun u => PV.int (sh c (off + u.2))) (famM cell most).zipIdx = trW (famS cell c most off) := by
  rw [dfill_nodup]
  · unfold trW famS
    rw [List.map_map]; rfl
  · have h := (famM_ok cell most hm).2.1
    have e : ((famM cell most).zipIdx.map fun u => wd u.1) = (famM cell most).map wd := by
      conv => rhs; rw [← List.zipIdx_map_fst 0 (famM cell most)]
      rw [List.map_map]; rfl
    rw [e]
    exact List.Pairwise.map _ (fun a b h e => h (wd_inj e)) h
theorem counted_dfill (f s : Fam) : dfill (fun u : Fin 32 × Nat => (u.2 : Int)) (fun u => PV.int (countedAt f s u.1)) ((toldOf f s).map (·.1)).zipIdx = tr (tbl (toldOf f s)) := by
  rw [dfill_nodup _ (zip_keys _ 0).1]
  exact told_table f s (toldOf f s) 0 (told_counted f s)

section
variable {C : Cx} {k : Nat}
/-- the loop's body -/
noncomputable def lawBody : List Stmt := match fnB (stOf 16) with
  | [_, _, _, _, _, .For _ _ b _ _, _] => b
  | _ => []
noncomputable def lawS (xs : List Int) (c0 c1 c2 c3 : Int) (F S : Fam) : Sg :=
  [("script", .pv (.list (xs.map .int))), ("cells", .pv (.list ([c0, c1, c2, c3].map .int))), ("first", .pv (.dictS (trW F))), ("second", .pv (.dictS (trW S))), ("dress", .pv (.list ((dOf c2).map .str))), ("tail", .pv (.list ((tOf c2).map .str)))]
set_option maxHeartbeats 4000000 in
theorem w_lawBody {K : Addr} (W : WmAt C K) (pg : Pg C) (hK : C.mg "Whitespace" = some (.ref K)) (L a : Addr) (q : Str) (cd : Value) (xs : List Int) (c0 c1 c2 c3 : Int) (F S f s : Fam) (hf : FOk f) (hs : FOk s) :
    ExT C (k + 13) (fnF (fnS (stOf 16)) L a q cd) (lawS xs c0 c1 c2 c3 F S ++ ([("one", .pv (.dictS (trW f))), ("other", .pv (.dictS (trW s)))] : Sg)) lawBody (fun o σ' => o = .nx ∧ (lawS xs c0 c1 c2 c3 F S).Sublist σ') := by
  conv => enter [5]; whnf
  have h2 : EvT C (k + 13) (fnF (fnS (stOf 16)) L a q cd) (lawS xs c0 c1 c2 c3 F S ++ ([("one", .pv (.dictS (trW f))), ("other", .pv (.dictS (trW s)))] : Sg)) (.Name "cells" default) (.list ([c0, c1, c2, c3].map .int)) := EvT.name rfl
  have ft := f_told (k := k) W pg hK f s hf.nd hs.nd hf.ne hs.ne hf.len hs.len (fam_bdq hf) (turnOf c2) (dOf c2) (tOf c2) (dOf_ok c2) (tail_at c2).2 (blOf c2)
  refine ExT.seq1 (SxT.assign (p := .list [.list (((toldOf f s).map (·.1)).map fun r => .str (wd r)), .dictI (tr (tbl (toldOf f s)))]) (EvT.callG pg 14 (by simp) (by simp) (by kernel_rfl)
    (EvL.cons (EvT.name rfl) (EvL.cons (EvT.name rfl) (EvL.cons (EvT.cast (EvT.bin (EvT.bin (EvT.sub (EvT.name rfl) EvT.intC (SubT.listI (xs := [c0, c1, c2, c3].map .int) (i := 2) (x := .int c2) (by decide) (by decide) rfl)) EvT.intC (BinT.divI (by decide) (by decide))) EvT.intC (BinT.modI (by decide))) (congrArg PV.int (turn_at c2)))
      (EvL.cons (EvT.name rfl) (EvL.cons (EvT.name rfl) (EvL.cons (EvT.bin EvT.strC (EvT.cast (EvT.bin (EvT.bin (EvT.sub (EvT.name rfl) EvT.intC (SubT.listI (xs := [c0, c1, c2, c3].map .int) (i := 2) (x := .int c2) (by decide) (by decide) rfl)) EvT.intC (BinT.divI (by decide) (by decide))) EvT.intC (BinT.modI (by decide))) (congrArg PV.int (bl_at c2))) (BinT.mulS (mul_ok3 _))) EvL.nil rfl) rfl) rfl) rfl) rfl) rfl) rfl ft) (by kernel_rfl)) ?_
  clear ft h2
  have htl := told_len hf.len hs.len
  have fc := f_counted (k := k + 12) pg f s ((toldOf f s).map (·.1)) hf.nd hs.nd (by have := hf.len; omega) (by have := hs.len; omega) (by rw [List.length_map]; omega) (fun e => (fsum_bd hf _).1) (fun e => (fsum_bd hf _).2)
  have hcd := counted_dfill f s
  have htn := tblF_nodup (toldOf f s) 0
  have htt : ((tbl (toldOf f s)).map (·.2)).sum = (f.map (·.2)).sum * (s.map (·.2)).sum := by rw [tblF_sum, told_total]
  generalize hsn : toldOf f s = sn at *
  have hM : ∀ (i : Int) (x : PV), 0 ≤ i → i < 2 ^ 63 → [PV.list ((sn.map (·.1)).map fun r => .str (wd r)), .dictI (tr (tbl sn))][i.toNat]? = some x → SubT C (k + 13) (.list [.list ((sn.map (·.1)).map fun r => .str (wd r)), .dictI (tr (tbl sn))]) (.int i) x "list" "list.__getitem__" := fun i x h0 h1 h2 => SubT.listI h0 h1 h2
  refine ExT.seq (SxT.ifF (P := one _) (TsT.or2 (a := false) (b := false) (TsT.cmp (EvT.name rfl) (EvT.listD EvL.nil) CmpT.eqNil (by kernel_rfl))
    (fun _ => TsT.cmp (EvT.sub (EvT.name rfl) EvT.intC (hM 1 _ (by decide) (by decide) rfl)) (EvT.cast (EvT.dictComp0 (dkI C) (us := (sn.map (·.1)).zipIdx) (g := enumG fun r => .int (countedAt f s r)) (upd := updP "place" "share") (ok := fun v => ∃ p q, v = .tup [p, q]) (tt := true) (sf := true) (fun u => (u.2 : Int)) (fun u => .int (countedAt f s u.1))
      (ItE.enL (pg.eenum (by kernel_rfl)) (EvT.callG pg 15 (by simp) (by simp) (by kernel_rfl) (EvL.cons (EvT.name rfl) (EvL.cons (EvT.name rfl) (EvL.cons (EvT.cast (EvT.sub (EvT.name rfl) EvT.intC (hM 0 _ (by decide) (by decide) rfl)) (congrArg PV.list (List.map_map (g := PV.str) (f := wd)).symm)) EvL.nil rfl) rfl) rfl) rfl fc) rfl) tP (fun L cs => TgU.pair (by kernel_rfl) (by kernel_rfl) (by decide +kernel)) (fun u hu => ⟨_, _, rfl⟩) (fun L cs u hu => EvT.name rfl) (fun L cs u hu => EvT.name rfl) (szl (by rw [List.length_zipIdx, List.length_map]; omega)) (by kernel_rfl)) (congrArg PV.dictI hcd)) (CmpT.neDict (dkI C) (xs := tbl sn) htn) (by kernel_rfl)) (fun h => by cases h)) (ExT.nil ⟨rfl, rfl⟩)) fun o σ' h => ?_
  obtain ⟨rfl, rfl⟩ := h
  dsimp only
  refine ExT.seq1 (SxT.assign (p := .int ((tbl sn).map (·.2)).sum) (EvT.callG pg 6 (by simp) (by simp) (by kernel_rfl) (EvL.cons (EvT.sub (EvT.name rfl) EvT.intC (hM 1 _ (by decide) (by decide) rfl)) EvL.nil rfl) rfl (f_count (k := k + 12) pg (tbl sn))) (by kernel_rfl)) ?_
  have hlf := hf.len
  have hls := hs.len
  refine ExT.last (SxT.ifF (TsT.or2 (a := false) (b := false) (TsT.not (b := true) (TsT.val (EvT.isiInt (pg.eisinst (by kernel_rfl)) (EvT.name rfl) (pg.eint (by kernel_rfl)) rfl) TrT.bool)) (fun _ => TsT.cast (TsT.cmp (EvT.name rfl) (EvT.bin (p := .int (f.map (·.2)).sum) (q := .int (s.map (·.2)).sum)
    (EvT.callB (pg.esum (by kernel_rfl)) (EvL.cons (p := .list ((f.map (·.2)).map .int)) (EvT.cast (EvT.listComp0 (us := f) (g := fun q => PV.str (wd q.1)) (upd := updN "a") (ok := fun _ => True) (sf := true) (tt := false) (fun q => .int q.2)
      (ItE.cast (ItE.dict (dkS C) (ps := trW f) (EvT.name rfl)) (by unfold trW; rw [List.map_map]; rfl)) tN (fun L cs => TgU.name (by kernel_rfl)) (fun _ _ => trivial) (fun L cs q hq => EvT.sub (EvT.name rfl) (EvT.name rfl) (SubT.dictS (trW_get hf.nd hq))) (szl (by omega)) (by kernel_rfl)) (by rw [List.map_map]; rfl)) EvL.nil rfl) rfl CallT.sumL)
    (EvT.callB (pg.esum (by kernel_rfl)) (EvL.cons (p := .list ((s.map (·.2)).map .int)) (EvT.cast (EvT.listComp0 (us := s) (g := fun q => PV.str (wd q.1)) (upd := updN "b") (ok := fun _ => True) (sf := true) (tt := false) (fun q => .int q.2)
      (ItE.cast (ItE.dict (dkS C) (ps := trW s) (EvT.name rfl)) (by unfold trW; rw [List.map_map]; rfl)) tN (fun L cs => TgU.name (by kernel_rfl)) (fun _ _ => trivial) (fun L cs q hq => EvT.sub (EvT.name rfl) (EvT.name rfl) (SubT.dictS (trW_get hs.nd hq))) (szl (by omega)) (by kernel_rfl)) (by rw [List.map_map]; rfl)) EvL.nil rfl) rfl CallT.sumL)
    (BinT.mulI (fam_bd hf).1 (fam_bd hf).2)) CmpT.neI (by kernel_rfl)) (by rw [htt]; exact bne_self_eq_false _)) (fun h => by cases h)) (ExT.nil ⟨rfl, ?_⟩))
  unfold lawS
  repeat (first | exact List.Sublist.slnil | refine List.Sublist.cons_cons _ ?_ | refine List.Sublist.cons _ ?_)

set_option maxHeartbeats 4000000 in
theorem w_law {K : Addr} (W : WmAt C K) (pg : Pg C) (hK : C.mg "Whitespace" = some (.ref K)) (L a : Addr) (q : Str) (cd : Value) (xs : List Int) (hx : xs.length ≤ 1000) :
    ExT C (k + 13) (fnF (fnS (stOf 16)) L a q cd) [("script", .pv (.list (xs.map .int)))] (fnB (stOf 16)) (fun o _ => o = .rt (.bool true)) := by
  conv => enter [5]; whnf
  obtain ⟨c0, c1, c2, c3, hc⟩ : ∃ c0 c1 c2 c3, cellsOf xs [251207, 3459, 35126, 267041] = [c0, c1, c2, c3] := ⟨_, _, _, _, rfl⟩
  refine ExT.seq1 (SxT.assign (p := .list ([c0, c1, c2, c3].map .int)) (EvT.cast (EvT.callG pg 10 (by simp) (by simp) (by kernel_rfl) (EvL.cons (EvT.name rfl) (EvL.cons (p := .tup (([251207, 3459, 35126, 267041] : List Int).map .int)) ?gt EvL.nil rfl) rfl) rfl (f_cells (k := k + 12) pg xs [251207, 3459, 35126, 267041] hx (by decide) (by decide))) (by rw [hc])) (by kernel_rfl)) ?_
  case gt => exact EvT.tupD (EvL.cons EvT.intC (EvL.cons EvT.intC (EvL.cons EvT.intC (EvL.cons EvT.intC EvL.nil rfl) rfl) rfl) rfl)
  have hC : ∀ (i : Int) (x : PV), 0 ≤ i → i < 2 ^ 63 → ([c0, c1, c2, c3].map PV.int)[i.toNat]? = some x → SubT C (k + 13) (.list ([c0, c1, c2, c3].map .int)) (.int i) x "list" "list.__getitem__" := fun i x h0 h1 h2 => SubT.listI h0 h1 h2
  refine ExT.seq1 (SxT.dictComp0 (dkS C) (us := (famM c0 4).zipIdx) (g := enumG fun m => .str (wd m)) (upd := updP "k" "one") (ok := fun v => ∃ p q, v = .tup [p, q]) (tt := true) (sf := true) (fun u => wd u.1) (fun u => .int (sh c3 (0 + u.2)))
    (ItE.enL (pg.eenum (by kernel_rfl)) (EvT.cast (EvT.callG pg 11 (by simp) (by simp) (by kernel_rfl) (EvL.cons (EvT.sub (EvT.name rfl) EvT.intC (hC 0 _ (by decide) (by decide) rfl)) (EvL.cons EvT.intC EvL.nil rfl) rfl) rfl (f_family (k := k + 12) pg c0 4 (by decide))) (by rw [(famM_ok c0 4 (by decide)).1, List.map_map]; rfl)) rfl) tP (fun L cs => TgU.pair (by kernel_rfl) (by kernel_rfl) (by decide +kernel)) (fun u hu => ⟨_, _, rfl⟩)
    (fun L cs u hu => EvT.name rfl) (fun L cs u hu => ?v1) (szl ?z1) (by kernel_rfl) (by kernel_rfl)) ?_
  case v1 =>
    have := zip_lt (by decide) hu
    refine EvT.cast (EvT.bin (EvT.bin (EvT.bin (EvT.sub (EvT.name rfl) EvT.intC (hC 3 _ (by decide) (by decide) rfl)) (EvT.bin EvT.intC (EvT.name rfl) (BinT.powI (by omega) (by omega) (by decide))) (BinT.divI (Int.pow_ne_zero (by decide)) (pow8 _ (by omega)))) EvT.intC (BinT.modI (by decide))) EvT.intC BinT.subI) ?_
    unfold sh
    rw [Nat.zero_add]; rfl
  case z1 =>
    have := (famM_ok c0 4 (by decide)).2.2.1
    rw [List.length_zipIdx]; omega
  rw [show (dkS C).dic (dfill (fun u : Fin 32 × Nat => wd u.1) (fun u => PV.int (sh c3 (0 + u.2))) (famM c0 4).zipIdx) = .dictS (trW (famS c0 c3 4 0)) from congrArg PV.dictS (famS_dfill c0 c3 4 0 (by decide))]
  have okF := famS_ok c0 c3 4 0 (by decide) (by decide)
  generalize famS c0 c3 4 0 = F at okF
  refine ExT.seq1 (SxT.dictComp0 (dkS C) (us := (famM c1 3).zipIdx) (g := enumG fun m => .str (wd m)) (upd := updP "k" "one") (ok := fun v => ∃ p q, v = .tup [p, q]) (tt := true) (sf := true) (fun u => wd u.1) (fun u => .int (sh c3 (4 + u.2)))
    (ItE.enL (pg.eenum (by kernel_rfl)) (EvT.cast (EvT.callG pg 11 (by simp) (by simp) (by kernel_rfl) (EvL.cons (EvT.sub (EvT.name rfl) EvT.intC (hC 1 _ (by decide) (by decide) rfl)) (EvL.cons EvT.intC EvL.nil rfl) rfl) rfl (f_family (k := k + 12) pg c1 3 (by decide))) (by rw [(famM_ok c1 3 (by decide)).1, List.map_map]; rfl)) rfl) tP (fun L cs => TgU.pair (by kernel_rfl) (by kernel_rfl) (by decide +kernel)) (fun u hu => ⟨_, _, rfl⟩)
    (fun L cs u hu => EvT.name rfl) (fun L cs u hu => ?v2) (szl ?z2) (by kernel_rfl) (by kernel_rfl)) ?_
  case v2 =>
    have := zip_lt (by decide) hu
    have e : (4 + (u.2 : Int)).toNat = 4 + u.2 := by omega
    refine EvT.cast (EvT.bin (EvT.bin (EvT.bin (EvT.sub (EvT.name rfl) EvT.intC (hC 3 _ (by decide) (by decide) rfl)) (EvT.bin EvT.intC (EvT.bin EvT.intC (EvT.name rfl) BinT.addI) (BinT.powI (by omega) (by omega) (by decide))) (BinT.divI (Int.pow_ne_zero (by decide)) (pow8 _ (by omega)))) EvT.intC (BinT.modI (by decide))) EvT.intC BinT.subI) ?_
    unfold sh
    rw [e]
  case z2 =>
    have := (famM_ok c1 3 (by decide)).2.2.1
    rw [List.length_zipIdx]; omega
  rw [show (dkS C).dic (dfill (fun u : Fin 32 × Nat => wd u.1) (fun u => PV.int (sh c3 (4 + u.2))) (famM c1 3).zipIdx) = .dictS (trW (famS c1 c3 3 4)) from congrArg PV.dictS (famS_dfill c1 c3 3 4 (by decide))]
  have okS := famS_ok c1 c3 3 4 (by decide) (by decide)
  generalize famS c1 c3 3 4 = S at okS
  refine ExT.seq1 (SxT.listComp0 (us := List.range 5) (g := fun i : Nat => PV.int (i : Int)) (upd := updN "k") (ok := fun _ => True) (tt := false) (sf := true) (fun i => .str (dressOf c2 i))
    (ItE.cast (ItE.range (n := 5) (pg.erange (by kernel_rfl)) EvT.intC rfl (by decide) (by decide)) rfl) tN (fun L cs => TgU.name (by kernel_rfl)) (fun _ _ => trivial) (fun L cs u hu => ?v3) (szl (by decide)) (by kernel_rfl) (by kernel_rfl)) ?_
  case v3 =>
    have hu5 : u < 5 := List.mem_range.mp hu
    have hf := figN_ok c2 ((4 : Int) ^ u) (n := 4) (by decide)
    refine EvT.sub (p := .list (dresses.map .str)) (q := .int (figN c2 ((4 : Int) ^ u) 4 : Int)) (EvT.cast (EvT.listD (EvL.cons EvT.strC (EvL.cons EvT.strC (EvL.cons EvT.strC (EvL.cons EvT.strC EvL.nil rfl) rfl) rfl) rfl)) rfl) (EvT.cast (EvT.bin (EvT.bin (EvT.sub (EvT.name rfl) EvT.intC (hC 2 _ (by decide) (by decide) rfl)) (EvT.bin EvT.intC (EvT.name rfl) (BinT.powI (by omega) (by omega) (by decide))) (BinT.divI (Int.pow_ne_zero (by decide)) (pow4 _ (by omega)))) EvT.intC (BinT.modI (by decide))) ?_) (SubT.listI (by omega) (by omega) ?_)
    · rw [show (u : Int).toNat = u from by omega, hf.1]
    · rw [show ((figN c2 ((4 : Int) ^ u) 4 : Nat) : Int).toNat = figN c2 ((4 : Int) ^ u) 4 from by omega]
      exact (dress_at c2 u).1
  refine ExT.seq1 (SxT.assign (p := .list ((tOf c2).map .str)) ?tl (by kernel_rfl)) ?_
  case tl =>
    have hf := figN_ok c2 1024 (n := 4) (by decide)
    refine EvT.sub (p := .list (tails.map fun T => PV.list (T.map .str))) (q := .int (figN c2 1024 4 : Int)) (EvT.cast (EvT.listD (EvL.cons (EvT.listD EvL.nil) (EvL.cons (EvT.listD (EvL.cons EvT.strC EvL.nil rfl)) (EvL.cons (EvT.listD (EvL.cons EvT.strC (EvL.cons EvT.strC EvL.nil rfl) rfl)) (EvL.cons (EvT.listD (EvL.cons EvT.strC EvL.nil rfl)) EvL.nil rfl) rfl) rfl) rfl)) rfl) (EvT.cast (EvT.bin (EvT.bin (EvT.sub (EvT.name rfl) EvT.intC (hC 2 _ (by decide) (by decide) rfl)) EvT.intC (BinT.divI (by decide) (by decide))) EvT.intC (BinT.modI (by decide))) (congrArg PV.int hf.1)) (SubT.listI (by omega) (by omega) ?_)
    rw [show ((figN c2 1024 4 : Nat) : Int).toNat = figN c2 1024 4 from by omega]
    exact (tail_at c2).1
  have eD : (List.range 5).map (fun i => PV.str (dressOf c2 i)) = (dOf c2).map .str := by unfold dOf; rw [List.map_map]; rfl
  rw [eD]
  refine ExT.seq (SxT.forM (P := one _) (upd := updP "one" "other") (ok := fun v => ∃ p q, v = .tup [p, q]) (tt := false) (g := fun p : Fam × Fam => PV.tup [.dictS (trW p.1), .dictS (trW p.2)]) (us := [(F, S), (S, F)]) (fun _ : Unit => lawS xs c0 c1 c2 c3 F S) (fun _ _ => ()) (fun _ _ => True) ()
    (ItE.cast (ItE.tup (EvT.tupD (EvL.cons (EvT.tupD (EvL.cons (EvT.name rfl) (EvL.cons (EvT.name rfl) EvL.nil rfl) rfl)) (EvL.cons (EvT.tupD (EvL.cons (EvT.name rfl) (EvL.cons (EvT.name rfl) EvL.nil rfl) rfl)) EvL.nil rfl) rfl))) rfl) tP (TgU.pair (by kernel_rfl) (by kernel_rfl) (by decide +kernel)) (fun u hu => ⟨_, _, rfl⟩) trivial (fun d x rest st hd hJ => ⟨trivial, ?lb⟩) ⟨rfl, rfl⟩) fun o σ' h => ?_
  case lb =>
    have hm : x = (F, S) ∨ x = (S, F) := by
      have : x ∈ [(F, S), (S, F)] := by rw [hd]; simp
      simpa using this
    have ok1 : FOk x.1 := by rcases hm with rfl | rfl <;> assumption
    have ok2 : FOk x.2 := by rcases hm with rfl | rfl <;> assumption
    exact w_lawBody W pg hK L a q cd xs c0 c1 c2 c3 F S x.1 x.2 ok1 ok2
  obtain ⟨rfl, rfl⟩ := h
  exact ExT.ret1 EvT.boolC
theorem f_law {K : Addr} (W : WmAt C K) (pg : Pg C) (hK : C.mg "Whitespace" = some (.ref K)) (xs : List Int) (hx : xs.length ≤ 1000) : FnT C (k + 14) (pg.fa 16) [.list (xs.map .int)] (.bool true) :=
  .mk (pg.fn 16 (by simp)) (fun L a q cd => w_law W pg hK L a q cd xs hx) rfl (by kernel_rfl)
end
end Mine

end

section
open PySem PySem.W PyProof.Rows
set_option linter.unusedVariables false
set_option maxRecDepth 100000
namespace Mine
open PySem.Builtin PySem.Calls

/-! the written part of the heap gives all that the walks lean on -/
noncomputable def fdIn (H : Frag) (a : Addr) : Option FuncData := match H.lookup a with
  | some ⟨_, _, .func fd, _⟩ => some fd
  | _ => none
noncomputable def fnA : Stmt → Arguments
  | .FunctionDef _ a _ _ _ _ _ _ _ _ => a
  | _ => default
noncomputable def core (fd : FuncData) : FuncBody × Scope × Arguments := (fd.body, fd.scope, fd.params)
noncomputable def coreS (st : Stmt) : FuncBody × Scope × Arguments := (.stmts (fnB st), fnS st, fnA st)
noncomputable def fdOk (H : Frag) (fd : FuncData) : Bool := codeIn H fd.code fd.qualname && fd.globals == mainGlobals && fd.builtins == builtinsNs && fd.closure.isEmpty && (match fd.defaults with | .none => true | _ => false)
noncomputable def fnOk (H : Frag) (a : Addr) : Bool := (fdIn H a).any (fdOk H)
noncomputable def adrN (H : Frag) (N : Addr) (x : Str) : Addr := match nsIn H N x with
  | some (some (.ref a)) => a
  | _ => 0
noncomputable def refOk (H : Frag) (N : Addr) (x : Str) : Bool := match nsIn H N x with
  | some (some (.ref _)) => true
  | _ => false
theorem adr_of {H : Frag} {N : Addr} {x : Str} (h : refOk H N x = true) : nsIn H N x = some (some (.ref (adrN H N x))) := by
  unfold refOk at h
  unfold adrN
  split at h
  · rename_i e
    rw [e]
  · cases h
theorem nsMap_in {H : Frag} {h : Heap} {N : Addr} {x : Str} {v : Value} (X : H.In h) (e : nsIn H N x = some (some v)) : h.nsMap N x = some v := by
  unfold nsIn at e
  cases hl : H.lookup N with
  | none => rw [hl] at e; cases e
  | some o =>
    obtain ⟨oc, od, da, sl⟩ := o
    rw [hl] at e
    cases da with
    | dict es ep =>
      dsimp only at e
      have hg := X _ _ hl
      unfold Heap.nsMap
      rw [hg]
      show (es.find? _).map _ = some v
      rw [← Array.find?_toList]
      cases hf : es.toList.find? (fun q => q.key.isStr x) with
      | some en => rw [hf] at e; cases e; rfl
      | none => rw [hf] at e; dsimp only at e; split at e <;> cases e
    | _ => cases e

/-- a def of the text takes its arguments by place -/
noncomputable def BindOk (st : Stmt) : Prop := ∀ fd : FuncData, fd.params = fnA st → fd.defaults = .none → ∀ vs : List Value, vs.length = (fnP st).length → bindArgs fd ⟨vs, []⟩ = pure ((fnP st).zip vs)
theorem bind_n {st : Stmt} {n : Nat} (hn : (fnP st).length = n) (h : ∀ fd : FuncData, fd.params = fnA st → fd.defaults = .none → ∀ vs : List Value, vs.length = n → bindArgs fd ⟨vs, []⟩ = pure ((fnP st).zip vs)) : BindOk st :=
  fun fd h1 h2 vs hl => h fd h1 h2 vs (hl.trans hn)
theorem vs1 {vs : List Value} (h : vs.length = 1) : ∃ a, vs = [a] := by
  match vs, h with
  | [a], _ => exact ⟨a, rfl⟩
theorem vs2 {vs : List Value} (h : vs.length = 2) : ∃ a b, vs = [a, b] := by
  match vs, h with
  | [a, b], _ => exact ⟨a, b, rfl⟩
theorem vs3 {vs : List Value} (h : vs.length = 3) : ∃ a b c, vs = [a, b, c] := by
  match vs, h with
  | [a, b, c], _ => exact ⟨a, b, c, rfl⟩
theorem vs5 {vs : List Value} (h : vs.length = 5) : ∃ a b c d e, vs = [a, b, c, d, e] := by
  match vs, h with
  | [a, b, c, d, e], _ => exact ⟨a, b, c, d, e, rfl⟩
theorem vs6 {vs : List Value} (h : vs.length = 6) : ∃ a b c d e f, vs = [a, b, c, d, e, f] := by
  match vs, h with
  | [a, b, c, d, e, f], _ => exact ⟨a, b, c, d, e, f, rfl⟩
theorem bindO1 : BindOk (stOf 2) ∧ BindOk (stOf 3) ∧ BindOk (stOf 6) ∧ BindOk (stOf 13) ∧ BindOk (stOf 16) := by
  refine ⟨?_, ?_, ?_, ?_, ?_⟩ <;>
    (refine bind_n (n := 1) (by kernel_rfl) fun fd h1 h2 vs hl => ?_
     obtain ⟨nm, q, pa, bo, sc, gl, cl, de, kd, dc, pm, an, cd, ct, bi⟩ := fd
     dsimp only at h1 h2
     subst h1 h2
     obtain ⟨a, rfl⟩ := vs1 hl
     kernel_rfl)
theorem bindO2 : BindOk (stOf 5) ∧ BindOk (stOf 10) ∧ BindOk (stOf 11) ∧ BindOk wsI ∧ BindOk wsE := by
  refine ⟨?_, ?_, ?_, ?_, ?_⟩ <;>
    (refine bind_n (n := 2) (by kernel_rfl) fun fd h1 h2 vs hl => ?_
     obtain ⟨nm, q, pa, bo, sc, gl, cl, de, kd, dc, pm, an, cd, ct, bi⟩ := fd
     dsimp only at h1 h2
     subst h1 h2
     obtain ⟨a, b, rfl⟩ := vs2 hl
     kernel_rfl)
theorem bindO3 : BindOk (stOf 15) := by
  refine bind_n (n := 3) (by kernel_rfl) fun fd h1 h2 vs hl => ?_
  obtain ⟨nm, q, pa, bo, sc, gl, cl, de, kd, dc, pm, an, cd, ct, bi⟩ := fd
  dsimp only at h1 h2
  subst h1 h2
  obtain ⟨a, b, c, rfl⟩ := vs3 hl
  kernel_rfl
theorem bindO5 : BindOk (stOf 12) := by
  refine bind_n (n := 5) (by kernel_rfl) fun fd h1 h2 vs hl => ?_
  obtain ⟨nm, q, pa, bo, sc, gl, cl, de, kd, dc, pm, an, cd, ct, bi⟩ := fd
  dsimp only at h1 h2
  subst h1 h2
  obtain ⟨a, b, c, d, e, rfl⟩ := vs5 hl
  kernel_rfl
theorem bindO6 : BindOk (stOf 14) := by
  refine bind_n (n := 6) (by kernel_rfl) fun fd h1 h2 vs hl => ?_
  obtain ⟨nm, q, pa, bo, sc, gl, cl, de, kd, dc, pm, an, cd, ct, bi⟩ := fd
  dsimp only at h1 h2
  subst h1 h2
  obtain ⟨a, b, c, d, e, f, rfl⟩ := vs6 hl
  kernel_rfl
theorem fnAt_of {C : Cx} {H : Frag} (X : H.In C.h₀) {a : Addr} {st : Stmt} (hb : BindOk st) (e1 : (fdIn H a).map core = some (coreS st)) (e2 : fnOk H a = true) : FnAt C a (fnS st) (fnP st) (fnB st) := by
  obtain ⟨fd, hfd, hc⟩ := Option.map_eq_some_iff.mp e1
  unfold fnOk at e2
  rw [hfd] at e2
  simp only [Option.any_some, fdOk, Bool.and_eq_true, beq_iff_eq] at e2
  obtain ⟨⟨⟨⟨h1, h2⟩, h3⟩, h4⟩, h5⟩ := e2
  have hc1 : fd.body = .stmts (fnB st) := congrArg (fun c : FuncBody × Scope × Arguments => c.1) hc
  have hc2 : fd.scope = fnS st := congrArg (fun c : FuncBody × Scope × Arguments => c.2.1) hc
  have hc3 : fd.params = fnA st := congrArg (fun c : FuncBody × Scope × Arguments => c.2.2) hc
  have hd : fd.defaults = .none := by
    cases hv : fd.defaults <;> rw [hv] at h5 <;> first | rfl | cases h5
  unfold fdIn at hfd
  split at hfd
  · rename_i oc od fd' sl hl
    cases hfd
    exact ⟨_, _, X _ _ hl, rfl, hc1, hc2, h2, h3, List.isEmpty_iff.mp h4, codeRec_of X h1, hb fd hc3 hd⟩
  · cases hfd

noncomputable def nmL : List (Str × Nat) := [("_iter_escaped_chars", 2), ("_strip_quoted_realnames", 3), ("add_callers", 5), ("count_calls", 6), ("_law_cells", 10), ("_law_family", 11), ("_law_line", 12), ("_law_places", 13), ("_law_told", 14), ("_law_counted", 15), ("law", 16)]
noncomputable def nmOf (i : Nat) : Str := ((nmL.find? fun p => p.2 == i).map (·.1)).getD ""
theorem bind_all : ∀ p ∈ nmL, BindOk (stOf p.2) := by
  intro p hp
  simp only [nmL, List.mem_cons, List.not_mem_nil, or_false] at hp
  obtain ⟨a1, a2, a3, a4, a5⟩ := bindO1
  obtain ⟨b1, b2, b3, _, _⟩ := bindO2
  rcases hp with rfl | rfl | rfl | rfl | rfl | rfl | rfl | rfl | rfl | rfl | rfl
  · exact a1
  · exact a2
  · exact b1
  · exact a3
  · exact b2
  · exact b3
  · exact bindO5
  · exact a4
  · exact bindO6
  · exact bindO3
  · exact a5
theorem nm_of : ∀ i ∈ [2, 3, 5, 6, 10, 11, 12, 13, 14, 15, 16], (nmOf i, i) ∈ nmL := by decide +kernel
theorem nm_at : ∀ p ∈ nmL, nmOf p.2 = p.1 := by decide +kernel
/-- the builtin names -/
noncomputable def bltL : List (Str × Value) := [("len", .builtin "len"), ("sum", .builtin "sum"), ("isinstance", .builtin "isinstance"), ("enumerate", .type "enumerate"), ("range", .type "range"), ("list", .type "list"), ("tuple", .type "tuple"), ("int", .type "int")]
theorem blt_boot : ∀ p ∈ bltL, bootBuiltins p.1 = some p.2 ∧ p.1 ≠ "__name__" := by
  intro p hp
  simp only [bltL, List.mem_cons, List.not_mem_nil, or_false] at hp
  rcases hp with rfl | rfl | rfl | rfl | rfl | rfl | rfl | rfl <;> exact ⟨by kernel_rfl, by decide +kernel⟩

/-- the facts of the written part, each a small reckoning -/
structure HOk (H : Frag) : Prop where
  core : (nmL.map fun p => (fdIn H (adrN H mainGlobals p.1)).map core) = nmL.map fun p => some (coreS (stOf p.2))
  fns : (nmL.all fun p => refOk H mainGlobals p.1 && fnOk H (adrN H mainGlobals p.1)) = true
  blt : (bltL.all fun p => nsIn H mainGlobals p.1 == some none) = true
  wref : refOk H mainGlobals "Whitespace" = true
theorem pg_of {C : Cx} {H : Frag} (X : H.In C.h₀) (hb : ∀ x : Str, x ≠ "__name__" → C.mb x = bootBuiltins x) (O : HOk H) : ∃ pg : Pg C, (∀ i ∈ [2, 3, 5, 6, 10, 11, 12, 13, 14, 15, 16], C.mg (nmOf i) = some (.ref (pg.fa i))) := by
  have hf := List.all_eq_true.mp O.fns
  have hc := List.map_inj_left.mp O.core
  have bl : ∀ p ∈ bltL, C.mg p.1 = none ∧ C.mb p.1 = some p.2 := fun p hp => by
    obtain ⟨h1, h2⟩ := blt_boot p hp
    exact ⟨mg_none_of X C.g (beq_iff_eq.mp (List.all_eq_true.mp O.blt p hp)), (hb _ h2).trans h1⟩
  have hm : ∀ i ∈ [2, 3, 5, 6, 10, 11, 12, 13, 14, 15, 16], C.mg (nmOf i) = some (.ref (adrN H mainGlobals (nmOf i))) := fun i hi => by
    have h := hf _ (nm_of i hi)
    rw [Bool.and_eq_true] at h
    exact mg_of X C.g (adr_of h.1)
  refine ⟨⟨bl ("len", _) (by simp [bltL]), bl ("sum", _) (by simp [bltL]), bl ("isinstance", _) (by simp [bltL]), bl ("enumerate", _) (by simp [bltL]), bl ("range", _) (by simp [bltL]), bl ("list", _) (by simp [bltL]), bl ("tuple", _) (by simp [bltL]), bl ("int", _) (by simp [bltL]),
    fun i => adrN H mainGlobals (nmOf i), fun i hi => ?_, fun p hp => ?_, adrN H mainGlobals "Whitespace", mg_of X C.g (adr_of O.wref)⟩, hm⟩
  · have h := hf _ (nm_of i hi)
    rw [Bool.and_eq_true] at h
    exact fnAt_of X (bind_all _ (nm_of i hi)) (hc _ (nm_of i hi)) h.2
  · have hp' : p ∈ nmL := by
      simp only [nmL, List.mem_cons, List.not_mem_nil, or_false] at hp ⊢
      rcases hp with h | h | h | h | h | h | h | h | h | h <;> simp [h]
    have h := hf _ hp'
    rw [Bool.and_eq_true] at h
    have := mg_of X C.g (adr_of h.1)
    rw [nm_at p hp']
    exact this

/-- the class -/
noncomputable def clsO (H : Frag) (K : Addr) : ClassData := (clsIn H K).getD default
noncomputable def noL : List Str := ["__getattribute__", "__getattr__", "__setattr__", "raw", "n", "nt", "norm", "is_simple"]
noncomputable def clsOk (H : Frag) (K : Addr) : Bool := match H.lookup K with
  | some ⟨.type "type", _, .cls cd, sl⟩ => (match cd.mro, sl.toList with
    | [.ref C', .type "object"], [_, _, _, _, some (.builtin n), _] => C' == K && n == "object.__new__" && !cd.hasDel && !cd.abstract && cd.hasDict && nsOkIn H cd.ns && (noL.all fun x => nsIn H cd.ns x == some none)
    | _, _ => false)
  | _ => false
noncomputable def rdOk (H : Frag) (K : Addr) (x v : Str) : Bool := match findCls H (.ref K) (.type "type") x with
  | some (.val (.str y _)) => y == v
  | _ => false
structure WOk (H : Frag) (K N fI fE : Addr) : Prop where
  cls : clsOk H K = true
  ns : (clsO H K).ns = N
  cI : (fdIn H fI).map Mine.core = some (coreS wsI)
  cE : (fdIn H fE).map Mine.core = some (coreS wsE)
  oI : fnOk H fI = true
  oE : fnOk H fE = true
  rI : nsIn H N "__init__" = some (some (.ref fI))
  rE : nsIn H N "equal" = some (some (.ref fE))
  tI : typeIn H (.ref fI) = some (.type "function")
  tE : typeIn H (.ref fE) = some (.type "function")
  fnd : findIn H (.ref K) "__init__" = some (some (.ref fI))
  mks : makesIn H K = true
  rds : readsIn H K (.type "type") = true
  rS : rdOk H K "S" " " = true
  rT : rdOk H K "T" "\t" = true
theorem wm_of {C : Cx} {H : Frag} {K N fI fE : Addr} (X : H.In C.h₀) (O : WOk H K N fI fE) : ∃ W : WmAt C K, True := by
  obtain ⟨hcls, hns, cI, cE, oI, oE, rI, rE, tI, tE, fnd, mk, rds, rS, rT⟩ := O
  unfold clsOk at hcls
  split at hcls
  · rename_i dd cd sl ho
    split at hcls
    · rename_i C' k0 k1 k2 k3 n k5 hm hs
      simp only [Bool.and_eq_true, beq_iff_eq, Bool.not_eq_true'] at hcls
      obtain ⟨⟨⟨⟨⟨⟨rfl, rfl⟩, hdel⟩, hab⟩, hhd⟩, hok⟩, hno⟩ := hcls
      have hclsO : clsO H C' = cd := by unfold clsO clsIn; rw [ho]; rfl
      rw [hclsO] at hns
      subst hns
      have hno' : ∀ x ∈ noL, C.h₀.nsMap cd.ns x = none := fun x hx => nsMap_none_of_in X hok (beq_iff_eq.mp (List.all_eq_true.mp hno x hx))
      have hN : C.h₀.Ns cd.ns (C.h₀.nsMap cd.ns) := .of_isNs (isNs_of_in X hok)
      have hI := fnAt_of (C := C) X bindO2.2.2.2.1 cI oI
      have hE := fnAt_of (C := C) X bindO2.2.2.2.2 cE oE
      have mI := nsMap_in X rI
      have mE := nsMap_in X rE
      have cE' : ∃ o, C.h₀.get? fE = some o ∧ o.cls = .type "function" := by
        unfold typeIn at tE
        obtain ⟨o, h1, h2⟩ := Option.map_eq_some_iff.mp tE
        exact ⟨o, X _ _ h1, h2⟩
      have hrd : ∀ (x v : Str), (x, v) ∈ [(("S" : Str), (" " : Str)), ("T", "\t")] → ∀ (A : Around) (E : Value → Shared → Prop) (s : Shared) (Q : Value → Shared → Prop), (∀ b o, C.h₀.get? b = some o → s.heap.get? b = some o) →
          (∀ t s', Pas s s' → Q (.str v t) s') → wpAny C.M A (getAttr (.ref C') x true) Q E s := fun x v hx A E s Q hk hQ => by
        have hr : rdOk H C' x v = true := by
          simp only [List.mem_cons, List.not_mem_nil, or_false, Prod.mk.injEq] at hx
          rcases hx with ⟨rfl, rfl⟩ | ⟨rfl, rfl⟩
          · exact rS
          · exact rT
        unfold rdOk at hr
        split at hr
        · rename_i y t hf
          rw [beq_iff_eq] at hr
          subst hr
          exact cls_value (X.keeps hk) rds hf (by rfl) (hQ _ _ .tok)
        · cases hr
      obtain ⟨nm, bs, mro, ns, qn, hd, sn, sub, ab, col, del⟩ := cd
      dsimp only at hm hdel hab hhd hok hno' hN mI mE
      subst hm hdel hab hhd
      have hsl : sl = #[k0, k1, k2, k3, some (.builtin "object.__new__"), k5] := by
        obtain ⟨l⟩ := sl
        simp only at hs
        rw [hs]
      subst hsl
      exact ⟨{ nm := nm, q := qn, N := ns, bs := bs, sn := sn, sub := sub, ab := false, col := col, dd := dd, k0 := k0, k1 := k1, k2 := k2, k3 := k3, k5 := k5, newId := "object.__new__", mN := C.h₀.nsMap ns, hC := X _ _ ho, hn := hN, hga := hno' _ (by simp [noL]), hgt := hno' _ (by simp [noL]), hsa := hno' _ (by simp [noL]), rd := hrd, fI := fI, fE := fE, hI := hI, hE := hE, cE := cE', mI := mI, mE := mE, mO := fun x hx => hno' x (by simp only [noL, List.mem_cons, List.not_mem_nil, or_false] at hx ⊢; rcases hx with h | h | h | h | h <;> simp [h]), eab := rfl, eid := rfl, mks := makes_of X mk, ini := looks_findIn X fnd, bd := fun self => bind_fn X self tI }, trivial⟩
    · cases hcls
  · cases hcls
end Mine

end

section
open PySem PySem.W PyProof.Rows
set_option linter.unusedVariables false
set_option maxRecDepth 100000
namespace Mine
open PySem.Builtin PySem.Calls

theorem well_ints {C : Cx} {P : Params} {h : Heap} {a : Addr} {xs : List Int} (W : Well P h (.ref a) (ofPy (.list (xs.map .int)))) : Rp C h (fun _ => False) (.ref a) (.list (xs.map .int)) := by
  rw [ofPy, ofPys_eq] at W
  cases W with
  | list ho hs =>
    rename_i vs
    refine .list ⟨_, ho⟩ id ?_
    rw [List.toList_toArray]
    clear ho
    induction vs generalizing xs with
    | nil => cases xs with
      | nil => exact .nil
      | cons x xs => cases hs
    | cons v vs ih => cases xs with
      | nil => cases hs
      | cons x xs =>
        cases hs with
        | cons h1 h2 =>
          rw [ofPy] at h1
          cases h1
          exact .cons (.int _ _) (ih h2)
theorem room_top : Room callerA 14 := ⟨rfl, by decide +kernel, by decide +kernel⟩
noncomputable abbrev wK (H : Frag) : Addr := adrN H mainGlobals "Whitespace"
noncomputable abbrev wN (H : Frag) : Addr := (clsO H (wK H)).ns
theorem law_fin {prog : Program} {w : World} {s₁ : Shared} {mg mb : Str → Option Value} {H : Frag} {p : Program} {loose : List Str} {mean : ExcName → Option Value} {R : Result → Shared → Prop} {fa a : Addr} {xs : List Int}
    (X : H.In s₁.heap) (T : Top p loose mean mg mb s₁.heap) (O : HOk H) (O2 : WOk H (wK H) (wN H) (adrN H (wN H) "__init__") (adrN H (wN H) "equal")) (hm : mg "law" = some (.ref fa))
    (hw : Well w.params s₁.heap (.ref a) (ofPy (.list (xs.map .int)))) (hx : ¬ ((63 : Int)) < (xs.length : Int)) (hR : ∀ s', Pas s₁ s' → R (.ok (.ret (.bool true))) s') : codeAny (model prog w) callerA (.call (.ref fa) { pos := [.ref a] }) R s₁ := by
  let C : Cx := ⟨prog, w, s₁.heap, mg, mb, T.g, T.b, T.nolimit⟩
  obtain ⟨pg, hpg⟩ := pg_of (C := C) X T.builtins O
  obtain ⟨W, _⟩ := wm_of (C := C) X O2
  have hK : C.mg "Whitespace" = some (.ref (wK H)) := mg_of X T.g (adr_of O.wref)
  have hl := f_law (k := 0) W pg hK xs (by omega)
  have hfa : pg.fa 16 = fa := by
    have h1 := hpg 16 (by simp)
    rw [show nmOf 16 = "law" from by decide +kernel] at h1
    have h2 : C.mg "law" = some (.ref fa) := hm
    rw [h1] at h2
    cases h2; rfl
  rw [hfa] at hl
  exact hl (fun _ => False) callerA s₁ [.ref a] R room_top (fun _ _ e => e) (fun b q => q.elim) (.cons (well_ints hw) .nil) fun v s' hv p' => by
    cases hv
    exact hR s' p'
end Mine

end

open PySem PySem.W PyProof.Rows
set_option linter.unusedVariables false
set_option maxRecDepth 100000
namespace Mine
/-! the top, run once: what is left behind it is looked at through a fragment that is read off the heap -/
noncomputable def fragAt (as : List Addr) (h : Heap) : Frag := as.filterMap fun a => (h.get? a).map fun o => (a, o)
theorem fragAt_in (as : List Addr) (h : Heap) : (fragAt as h).In h := by
  intro a o e
  unfold fragAt at e
  induction as with
  | nil => cases e
  | cons b as ih =>
    rw [List.filterMap_cons] at e
    cases hb : h.get? b with
    | none => rw [hb] at e; exact ih e
    | some ob =>
      rw [hb] at e
      simp only [Option.map_some, List.lookup_cons] at e
      cases hq : a == b with
      | true => rw [hq] at e; cases e; rw [beq_iff_eq.mp hq]; exact hb
      | false => rw [hq] at e; exact ih e
/-- the objects that the walks lean on -/
noncomputable def asL : List Addr := [2, 3] ++ (List.range 156).drop 10
structure WO (H : Frag) : Prop where
  w : WOk H (wK H) (wN H) (adrN H (wN H) "__init__") (adrN H (wN H) "equal")
noncomputable abbrev Seen : Type := List (Option (FuncBody × Scope × Arguments)) × Bool × Addr × Option Value × Option Value × Option (Option Value)
noncomputable def refAt (H : Frag) (N : Addr) (x : Str) : Bool := refOk H N x
noncomputable def seenOf (H : Frag) : List (Option (FuncBody × Scope × Arguments)) × List Bool × List (Option Value) :=
  ((nmL.map fun p => (fdIn H (adrN H mainGlobals p.1)).map core) ++ [(fdIn H (adrN H (wN H) "__init__")).map core, (fdIn H (adrN H (wN H) "equal")).map core],
   [nmL.all fun p => refOk H mainGlobals p.1 && fnOk H (adrN H mainGlobals p.1), bltL.all fun p => nsIn H mainGlobals p.1 == some none, refOk H mainGlobals "Whitespace", clsOk H (wK H),
    fnOk H (adrN H (wN H) "__init__"), fnOk H (adrN H (wN H) "equal"), refOk H (wN H) "__init__", refOk H (wN H) "equal", makesIn H (wK H), readsIn H (wK H) (.type "type"), rdOk H (wK H) "S" " ", rdOk H (wK H) "T" "\t",
    findIn H (.ref (wK H)) "__init__" == some (some (.ref (adrN H (wN H) "__init__")))],
   [typeIn H (.ref (adrN H (wN H) "__init__")), typeIn H (.ref (adrN H (wN H) "equal"))])
noncomputable def seenGood : List (Option (FuncBody × Scope × Arguments)) × List Bool × List (Option Value) :=
  ((nmL.map fun p => some (coreS (stOf p.2))) ++ [some (coreS wsI), some (coreS wsE)], List.replicate 13 true, [some (.type "function"), some (.type "function")])
noncomputable def SeenAll (H : Frag) : Prop := HOk H ∧ WOk H (wK H) (wN H) (adrN H (wN H) "__init__") (adrN H (wN H) "equal")
theorem seen_all {H : Frag} (e : seenOf H = seenGood) : SeenAll H := by
  unfold seenOf seenGood at e
  simp only [Prod.mk.injEq] at e
  obtain ⟨e1, e2, e3⟩ := e
  obtain ⟨c1, c2⟩ := List.append_inj e1 (by simp)
  simp only [List.cons.injEq, and_true] at c2 e3
  simp only [List.replicate, List.cons.injEq, and_true] at e2
  obtain ⟨b1, b2, b3, b4, b5, b6, b7, b8, b9, b10, b11, b12, b13⟩ := e2
  exact ⟨⟨c1, b1, b2, b3⟩, ⟨b4, rfl, c2.1, c2.2, b5, b6, adr_of b7, adr_of b8, e3.1, e3.2, beq_iff_eq.mp b13, b9, b10, b11, b12⟩⟩
noncomputable def Says (w : World) (h : Heap) : Prop := ∃ H : Frag, H.In h ∧ SeenAll H
theorem says_of (w : World) (s : Shared) (e : seenOf (fragAt asL s.heap) = seenGood) : Says w s.heap := ⟨_, fragAt_in _ _, seen_all e⟩
theorem says_keeps (w : World) (h h' : Heap) (x : Says w h) (k : ∀ b o, h.get? b = some o → h'.get? b = some o) : Says w h' := by
  obtain ⟨H, a, b⟩ := x
  exact ⟨H, a.keeps k, b⟩

noncomputable def q0 : Program := PySem.W.view PySem.Challenge.pw_xc0025_01 [16]
noncomputable def loose0 : List Str := ["_wall", "_iter_escaped_chars", "_strip_quoted_realnames", "add_callers", "count_calls", "Whitespace", "_law_cells", "_law_family", "_law_line", "_law_places", "_law_told", "_law_counted"]
/-! the text is well said: part by part -/
noncomputable abbrev L0 : OpenLaw := PySem.Challenge.rw_xc0025_01
theorem sd1 : namesResolve L0.row.toRowW.prog = true := by
  try rw [PySem.W.Fast.te8377067652309620493]
  kernel_rfl
theorem sd2 : noRoadLSs { strict := !(importedModules L0.row.toRowW.prog.main.body).all cThrough.contains, foot := none, bare := (["vars", "dir", "locals"] : List Str).filter (readsOut L0.row.toRowW.prog L0.row.toRowW.prog.main.body) } L0.row.toRowW.prog.main.body = true := by
  try rw [PySem.W.Fast.te8326940854005059898]
  try rw [PySem.W.Fast.te13343964577679436407]
  kernel_rfl
theorem sd3 : (namesMeet L0.row.toRowW.prog L0.row.toRowW.prog.main.body fun _ n => attrL n) = true := by
  try rw [PySem.W.Fast.te17119622794617984870]
  try rw [PySem.W.Fast.te17868728402115742887]
  kernel_rfl
theorem sd4 : looksOpen L0.row.toRowW.prog = true := by
  unfold looksOpen
  exact look_both (look_both (look_both (look_both (look_both (by kernel_rfl) (by kernel_rfl)) sd1) (by kernel_rfl)) sd2) sd3
theorem sd5 : L0.row.partSaid = true := by
  unfold OpenRow.partSaid
  iterate 13 (refine look_both ?_ (by kernel_rfl))
  exact sd4
theorem sd6 : L0.row.wellSaid = true := by
  unfold OpenRow.wellSaid
  exact look_both (look_both sd5 (by kernel_rfl)) (by kernel_rfl)
theorem sd7 : noRoadLSs { strict := true, foot := some L0.bound', writes := L0.writes, may := L0.may } L0.footing = true := by
  try rw [PySem.W.Fast.te8326940854005059898]
  try rw [PySem.W.Fast.te797321630700447069]
  kernel_rfl
theorem sd8 : L0.bound'.all (fun n => !builtinNamed n || L0.about == [n] || !L0.reads n) = true := by
  try rw [PySem.W.Fast.te6984425678791042302]
  try rw [PySem.W.Fast.te797321630700447069]
  try rw [PySem.W.Fast.named_eq]
  kernel_rfl
theorem sd9 : namesMeet L0.prog L0.above (fun _ n => !L0.own.contains n) = true := by
  try rw [PySem.W.Fast.te17119622794617984870]
  kernel_rfl
theorem top_said : L0.wellSaid = true := by
  unfold OpenLaw.wellSaid
  refine look_both ?_ (by kernel_rfl)
  refine look_both ?_ sd9
  iterate 6 (refine look_both ?_ (by kernel_rfl))
  refine look_both ?_ sd8
  iterate 3 (refine look_both ?_ (by kernel_rfl))
  refine look_both ?_ sd7
  iterate 5 (refine look_both ?_ (by kernel_rfl))
  exact sd6
noncomputable abbrev pw : Program := PySem.Challenge.pw_xc0025_01
noncomputable abbrev bootS (P : Params) (os : OsState) : Shared := ⟨boot_heap P, Array.mk [], boot_drawn, boot_toks, os⟩
theorem top_open : ∀ w : World, ∃ os, fencedOpening treeTable pw w 1900 = some (bootS w.params os) := by
  intro w
  have h := boot_open (p := pw) (N := 1900) (by kernel_rfl) (by kernel_rfl) (fun s => by kernel_rfl) w
  obtain ⟨⟨hp, gs, dr, tk, os⟩, h1, h2⟩ := Option.map_eq_some_iff.mp h
  simp only [Prod.mk.injEq] at h2
  obtain ⟨rfl, rfl, rfl, rfl⟩ := h2
  exact ⟨os, h1⟩
/-- what is looked at behind the top -/
noncomputable def looked (w : World) (os : OsState) := (topFrom treeTable pw w 1900 (bootS w.params os)).map fun s => (openSeen q0 loose0 (importedModules pw.main.body) (fun _ => true) true s, seenOf (fragAt asL s.heap))
theorem top_f (w : World) : ∀ os, looked (w.withFollow "special-get-raises" false) os = some (openGood q0 loose0, seenGood) := by
  intro os
  unfold looked topFrom
  try rw [PySem.W.Fast.te14082659384304107361]
  try rw [PySem.W.Fast.te14364793385576792824]
  try rw [PySem.W.Fast.te4187177175401517315]
  kernel_rfl
theorem top_t (w : World) : ∀ os, looked (w.withFollow "special-get-raises" true) os = some (openGood q0 loose0, seenGood) := by
  intro os
  unfold looked topFrom
  try rw [PySem.W.Fast.te14082659384304107361]
  try rw [PySem.W.Fast.te14364793385576792824]
  try rw [PySem.W.Fast.te4187177175401517315]
  kernel_rfl
theorem top_left : LeftO pw q0 loose0 (fun _ => true) (fun s => seenOf (fragAt asL s.heap)) (fun _ => seenGood) 1900 := by
  intro w
  obtain ⟨os, h⟩ := top_open w
  have h2 : looked w os = some (openGood q0 loose0, seenGood) := byRow2 "special-get-raises" (P := fun w => ∀ os, looked w os = some (openGood q0 loose0, seenGood)) top_f top_t w os
  unfold openEnds
  rw [h, Option.bind_some]
  exact h2
end Mine

theorem PySem.Challenge.cw_xc0025_01_holds : PySem.Challenge.rw_xc0025_01.Holds := by
  w_on
  refine holds_law Mine.top_said fun said => ?_
  refine holds_open (q := Mine.q0) (loose := Mine.loose0) (Xt := fun _ => true) (XP := fun _ _ => True) (N := 1900) Mine.top_left Mine.says_of Mine.says_keeps (fun _ _ => trivial) (fun _ _ _ _ _ => trivial) (by rfl) (by rfl) (by rfl) (fun _ _ => recFacts_nil rfl) (by rfl) said (by decide +kernel) ⟨rfl, rfl, rfl, rfl, rfl, by decide +kernel⟩ ?hw ?hc
  case hw => w_witness2
  intro w s₀ s₁ mg mb G Y fa o pm cd doc dV kV ho hd hcd hD hmg hg args vals as hpre hlay hrd hwl hlo
  obtain ⟨H, KX, Y1, Y2⟩ := Y
  clear ho hd hcd hD
  refine Ground.open G ?_
  intro T B D TE TW
  clear B D TE TW
  wrow_args hpre hlay hrd hwl hlo
  all_goals (first | refine callC_kw (enter_call ?_) | refine enter_call ?_ | refine callC_kw (enter_callW ?_) | refine enter_callW ?_)
  all_goals
    rename_i xs hs hlay0 hL1 hr1 hl2 l1 l2 a vs l3 hL ra w1 r0 hI hr hcond htrue
    refine Mine.law_fin KX T Y1 Y2 hmg w1 hcond fun s' p => ?_
    refine ⟨.inl ⟨_, .bool true, [], rfl, fun _ => rfl, .bool true, ?_, fun _ => ⟨List.nodup_nil, fun _ q => by cases q⟩⟩, .of_keep fun b o e => p.keep.k b o id e, p.os, fun y hy => ?_⟩
    · kernel_rfl
    · rcases p.bare y hy with q | q
      · rw [hg] at q; simp at q
      · exact q
