import PyProof.Rows.All
import Wide.All
import OpenK.AllK
import Wide.FinOn
import PySem.Challenge.RW_vz0024_01
open PySem PySem.W PySem.Calls PyProof.Rows
set_option Elab.async false
set_option linter.all false
namespace Mine

set_option maxRecDepth 100000 in
set_option maxHeartbeats 8000000 in
open_top hd for PySem.Challenge.rw_vz0024_01


noncomputable abbrev KK (w : World) : Frag := Mine.hd.heap_39 w.params
noncomputable abbrev PG : Program := Challenge.rw_vz0024_01.row.prog
noncomputable abbrev LS : List Str := looseW Mine.hd.view_39
      [Str.ofString "ParseError", Str.ofString "Node", Str.ofString "IN_PROGRESS", Str.ofString "Expression",
        Str.ofString "Literal", Str.ofString "Compound", Str.ofString "Lookahead", Str.ofString "Quantifier"]
/-- what stays the same through the whole call of the law -/
structure Gm where
  w : World
  mean : ExcName → Option Value
  mg : Str → Option Value
  mb : Str → Option Value
  base : Heap
  g : Array GenState
  d : Drawn
  os : OsState
@[reducible] def S (Γ : Gm) (h : Heap) (t : Nat) : Shared := ⟨h, Γ.g, Γ.d, t, Γ.os⟩
abbrev Led := List (Addr × Obj)
/-- a frame's names -/
abbrev Loc := List (Str × Option Value)
def mp (l : Loc) : Str → Option Value := fun y => (l.lookup y).join
inductive LkR : Loc → Str → Value → Prop
  | hd {x v r} : LkR ((x, some v) :: r) x v
  | tl {p r x v} : LkR r x v → LkR (p :: r) x v
inductive SetR (x : Str) (v : Value) : Loc → Loc → Prop
  | hd {o r} : SetR x v ((x, o) :: r) ((x, some v) :: r)
  | tl {p r r'} : SetR x v r r' → SetR x v (p :: r) (p :: r')
theorem LkR.mem {l x v} (h : LkR l x v) : (x, some v) ∈ l := by
  induction h with
  | hd => exact .head _
  | tl _ ih => exact .tail _ ih
theorem LkR.look {l x v} (h : LkR l x v) (nd : (l.map (·.1)).Nodup) : mp l x = some v := by
  induction h with
  | hd => simp [mp]
  | @tl p r x v h ih =>
    rw [List.map_cons, List.nodup_cons] at nd
    have hne : x ≠ p.1 := fun e => nd.1 (e ▸ List.mem_map_of_mem (f := (·.1)) h.mem)
    have : mp (p :: r) x = mp r x := by
      unfold mp; obtain ⟨a, b⟩ := p; rw [List.lookup_cons, beq_eq_false_iff_ne.mpr hne]
    rw [this]; exact ih nd.2
theorem SetR.names {x v l l'} (h : SetR x v l l') : l'.map (·.1) = l.map (·.1) := by
  induction h with
  | hd => rfl
  | tl _ ih => simp only [List.map_cons, ih]
theorem SetR.mem {x v l l'} (h : SetR x v l l') : x ∈ l.map (·.1) := by
  induction h with
  | hd => exact .head _
  | tl _ ih => exact .tail _ ih
theorem SetR.mp {x v l l'} (h : SetR x v l l') (nd : (l.map (·.1)).Nodup) : Mine.mp l' = fun y => if y = x then some v else Mine.mp l y := by
  induction h with
  | @hd o r =>
    funext y
    unfold Mine.mp
    rw [List.lookup_cons, List.lookup_cons]
    by_cases e : y = x
    · simp [e]
    · rw [if_neg e, beq_eq_false_iff_ne.mpr e]
  | @tl p r r' h ih =>
    rw [List.map_cons, List.nodup_cons] at nd
    have ih := ih nd.2
    funext y
    have hx : x ∈ r.map (·.1) := h.mem
    obtain ⟨a, b⟩ := p
    have e1 : ∀ r : Loc, Mine.mp ((a, b) :: r) y = if y = a then b else Mine.mp r y := fun r => by
      unfold Mine.mp; rw [List.lookup_cons]
      by_cases e : y = a
      · simp [e]
      · rw [if_neg e, beq_eq_false_iff_ne.mpr e]
    rw [e1, e1, ih]
    by_cases e : y = a
    · have : y ≠ x := fun q => nd.1 (by rw [← q, e] at hx; exact hx)
      rw [if_pos e, if_neg this, if_pos e]
    · rw [if_neg e, if_neg e]

structure Fx (Γ : Gm) (A : Around) (env : Env) (outer : List Env) (h₀ : Heap) (L : Addr) (h : Heap) (l : Loc) (nw : Led) : Prop where
  B : ∃ A₀, Below A₀ Γ.base outer h₀
  F : Fr h₀ L h (mp l)
  X : (KK Γ.w).In h₀
  N : News h₀ L h nw
  T : Top Mine.hd.view_39 LS Γ.mean Γ.mg Γ.mb h₀
  hA : A.frames = some (env :: outer)
  hh : A.handled = none
  hf : env.frame = some L
  hk : env.scope.kind = .function
  loc : env.locals = L
  glo : env.globals = mainGlobals
  blt : env.builtins = builtinsNs
  nd : (nw.map (·.1)).Nodup
  nl : (l.map (·.1)).Nodup
  hi : ∀ p ∈ nw, 3 < p.1

/-- the ledger with another object at a -/
def put (nw : Led) (a : Addr) (o : Obj) : Led := nw.map fun p => if p.1 = a then (a, o) else p
theorem put_names (nw : Led) (a : Addr) (o : Obj) : (put nw a o).map (·.1) = nw.map (·.1) := by
  unfold put
  rw [List.map_map]
  refine List.map_congr_left fun p _ => ?_
  show (if p.1 = a then (a, o) else p).1 = p.1
  split
  · rename_i e; exact e.symm
  · rfl
theorem mem_put_ne {nw : Led} {a b : Addr} {o ob : Obj} (h : (b, ob) ∈ nw) (hne : b ≠ a) : (b, ob) ∈ put nw a o :=
  List.mem_map.mpr ⟨_, h, by rw [if_neg hne]⟩
theorem mem_put_self {nw : Led} {a : Addr} {o o' : Obj} (h : (a, o) ∈ nw) : (a, o') ∈ put nw a o' :=
  List.mem_map.mpr ⟨_, h, by rw [if_pos rfl]⟩
theorem of_mem_put {nw : Led} {a b : Addr} {o ob : Obj} (h : (b, ob) ∈ put nw a o) : (b = a ∧ ob = o) ∨ (b ≠ a ∧ (b, ob) ∈ nw) := by
  obtain ⟨p, hp, e⟩ := List.mem_map.mp h
  by_cases q : p.1 = a
  · rw [if_pos q] at e; cases e; exact .inl ⟨rfl, rfl⟩
  · rw [if_neg q] at e; subst e; exact .inr ⟨q, hp⟩

section
variable {Γ : Gm} {A : Around} {env : Env} {outer : List Env} {h₀ : Heap} {L : Addr} {h h' : Heap} {l l' : Loc} {nw : Led} {t : Nat} {E : Value → Shared → Prop} {pos : Pos}
theorem Fx.get (c : Fx Γ A env outer h₀ L h l nw) {a o} (m : (a, o) ∈ nw) : h.get? a = some o := c.N.get m
theorem Fx.lt (c : Fx Γ A env outer h₀ L h l nw) {a o} (m : (a, o) ∈ nw) : a < h.objs.size := Heap.lt_size (c.get m)
theorem Fx.uniq (c : Fx Γ A env outer h₀ L h l nw) {a o o'} (m : (a, o) ∈ nw) (m' : (a, o') ∈ nw) : o = o' := Option.some.inj ((c.get m).symm.trans (c.get m'))
theorem Fx.XI (c : Fx Γ A env outer h₀ L h l nw) : (KK Γ.w).In h := c.X.keeps c.F.keep
set_option maxRecDepth 100000 in
theorem Fx.big (c : Fx Γ A env outer h₀ L h l nw) : 3 < h.objs.size := by
  obtain ⟨o, ho⟩ : ∃ o, h.get? 17 = some o := ⟨_, c.XI 17 _ rfl⟩
  exact Nat.lt_trans (by decide : 3 < 17) (Heap.lt_size ho)
theorem Fx.lo (c : Fx Γ A env outer h₀ L h l nw) {a o} (m : (a, o) ∈ nw) : (a == sysModules) = false := by
  have := c.hi _ m
  refine beq_eq_false_iff_ne.mpr fun e => ?_
  rw [show a = 1 from e] at this
  exact absurd (show (3 : Nat) < 1 from this) (by decide)
theorem Fx.upd (c : Fx Γ A env outer h₀ L h l nw) {a o o'} (m : (a, o) ∈ nw) (hs : Heap.SameBut a h h') (g : h'.get? a = some o') : Fx Γ A env outer h₀ L h' l (put nw a o') := by
  have D := c.N (a, o) m
  refine { c with F := ⟨c.F.ns.sameBut hs (Ne.symm D.2.1), fun b x q => (hs.2 b fun z => ?_).trans (c.F.keep b x q), c.F.above⟩, N := fun p hp => ?_, nd := by rw [put_names]; exact c.nd, hi := fun p hp => ?_ }
  · have := D.2.2; rw [← z, q] at this; cases this
  · obtain ⟨b, ob⟩ := p
    rcases of_mem_put hp with ⟨rfl, rfl⟩ | ⟨q, hm⟩
    · exact ⟨g, D.2⟩
    · exact ⟨(hs.2 b q).trans (c.N _ hm).1, (c.N _ hm).2⟩
  · obtain ⟨b, ob⟩ := p
    rcases of_mem_put hp with ⟨e, _⟩ | ⟨q, hm⟩
    · show 3 < b; rw [e]; exact c.hi _ m
    · exact c.hi _ hm
theorem Fx.push (c : Fx Γ A env outer h₀ L h l nw) (o : Obj) (hf : o.isFreed = false := by rfl) : Fx Γ A env outer h₀ L (h.push o) l ((h.objs.size, o) :: nw) := by
  have nd : (((h.objs.size, o) :: nw).map (·.1)).Nodup := by
    rw [List.map_cons, List.nodup_cons]
    refine ⟨fun q => ?_, c.nd⟩
    obtain ⟨p, hp, e⟩ := List.mem_map.mp q
    exact absurd (Heap.lt_size (c.N p hp).1) (by rw [e]; exact Nat.lt_irrefl _)
  have hi : ∀ p ∈ (h.objs.size, o) :: nw, 3 < p.1 := fun p hp => by
    rcases List.mem_cons.mp hp with rfl | hp
    · exact c.big
    · exact c.hi p hp
  exact { c with F := c.F.push o, N := c.N.push c.F o hf, nd := nd, hi := hi }
theorem Fx.local_ (c : Fx Γ A env outer h₀ L h l nw) {x v} (hs : SetR x v l l') (hn : h'.Ns L (fun y => if y = x then some v else mp l y)) (sb : Heap.SameBut L h h') : Fx Γ A env outer h₀ L h' l' nw :=
  { c with F := by rw [← hs.mp c.nl] at hn; exact c.F.set hn sb, N := c.N.set sb, nl := by rw [hs.names]; exact c.nl }

def Room (A : Around) (n : Nat) : Prop := A.depth + n ≤ 900 ∧ A.units + 16 * n ≤ 9000
theorem Room.deeper {A : Around} {n : Nat} (r : Room A (n + 1)) (env : Env) : Room (A.deeper env) n := by
  obtain ⟨a, b⟩ := r
  refine ⟨?_, ?_⟩
  · rw [depth_deeper]; omega
  · rw [units_deeper]; omega
theorem Room.depth {A : Around} {n : Nat} (r : Room A n) : A.depth < recursionLimit := by
  have : recursionLimit = 1000 := rfl
  have := r.1; omega
theorem Room.units {A : Around} {n : Nat} (r : Room A n) : A.units + 900 ≤ cLine := by
  have : cLine = 9900 := rfl
  have := r.2; omega
theorem Room.mono {A : Around} {n k : Nat} (r : Room A n) (h : k ≤ n) : Room A k := ⟨by have := r.1; omega, by have := r.2; omega⟩

/-- the end of a body, seen from its caller -/
def Back (Γ : Gm) (A : Around) (env : Env) (outer : List Env) (h₀ : Heap) (L : Addr) (l : Loc) (A' : Around) (env' : Env) (g : Heap) (L' : Addr) (R : Value → Shared → Prop) (v : Value) (s' : Shared) : Prop :=
  ∃ l' nw', Fx Γ A' env' (env :: outer) g L' s'.heap l' nw' ∧ (Fx Γ A env outer h₀ L s'.heap l nw' → R v s')
theorem mp_binds : ∀ {b : List (Str × Value)}, mp (b.map fun p => (p.1, some p.2)) = fun y => b.lookup y
  | [] => rfl
  | (x, v) :: r => by
    funext y
    have ih := congrFun (mp_binds (b := r)) y
    unfold mp at ih ⊢
    rw [List.map_cons, List.lookup_cons, List.lookup_cons]
    dsimp only
    by_cases e : y = x
    · simp [e]
    · rw [beq_eq_false_iff_ne.mpr e]; exact ih
/-- names that hold nothing yet -/
def nones (xs : List Str) : Loc := xs.map fun x => (x, none)
theorem mp_nones (l : Loc) (xs : List Str) : mp (l ++ nones xs) = mp l := by
  funext y
  induction l with
  | nil =>
    show (List.lookup y (nones xs)).join = none
    induction xs with
    | nil => rfl
    | cons x r ih =>
      show (List.lookup y ((x, none) :: nones r)).join = none
      rw [List.lookup_cons]
      by_cases e : y = x
      · simp [e]
      · rw [beq_eq_false_iff_ne.mpr e]; exact ih
  | cons p r ih =>
    obtain ⟨x, v⟩ := p
    unfold mp at ih ⊢
    rw [List.cons_append, List.lookup_cons, List.lookup_cons]
    by_cases e : y = x
    · simp [e]
    · rw [beq_eq_false_iff_ne.mpr e]; exact ih
theorem lookup_rev {b : List (Str × Value)} (nd : (b.map (·.1)).Nodup) (y : Str) : b.reverse.lookup y = b.lookup y := by
  induction b with
  | nil => rfl
  | cons p r ih =>
    rw [List.map_cons, List.nodup_cons] at nd
    rw [List.reverse_cons, List.lookup_append, ih nd.2]
    obtain ⟨x, v⟩ := p
    by_cases e : y = x
    · subst e
      have : r.lookup y = none := by
        rw [List.lookup_eq_none_iff]
        intro q hq
        rw [bne_iff_ne]
        intro z
        exact nd.1 (by show y ∈ _; rw [z]; exact List.mem_map_of_mem (f := (·.1)) hq)
      rw [this]; simp
    · have e1 : List.lookup y [(x, v)] = none := by rw [List.lookup_cons, beq_eq_false_iff_ne.mpr e]; rfl
      rw [e1, List.lookup_cons, beq_eq_false_iff_ne.mpr e]
      exact Option.or_none
/-- a call's end: a value, or an exception -/
abbrev RV (R : Value → Shared → Prop) (E : Value → Shared → Prop) : Result → Shared → Prop := fun r s' => match r with
  | .ok (.ret v) => R v s'
  | .ok _ => False
  | .error e => E e s'
theorem enterC {R : Value → Shared → Prop} {name qual : Str} {params : Arguments} {body : List Stmt} {scope : Scope} {dV kV doc pm cdv ct oc : Value} {an od : Option Addr} {osl : Array (Option Value)} {f : Addr} {args : Args} {binds : List (Str × Value)} (more : List Str)
    (c : Fx Γ A env outer h₀ L h l nw) (n : Nat) (r : Room A (n + 1))
    (ho : (KK Γ.w).lookup f = some ⟨oc, od, .func (fnOf name qual params body scope dV kV doc pm an cdv ct), osl⟩) (hcd : codeIn (KK Γ.w) cdv qual = true)
    (hbind : BindsTo (S Γ h t) (fnOf name qual params body scope dV kV doc pm an cdv ct) args binds) (hloc : (binds.all fun y => decide (scope.names.lookup y.1 = some .local)) = true)
    (hnd : decide ((binds.map (·.1) ++ more).Nodup) = true)
    (k : ∀ g L' h₁ t', Fx Γ (A.deeper (envOf qual scope L' f cdv)) (envOf qual scope L' f cdv) (env :: outer) g L' h₁ ((binds.map fun p => (p.1, some p.2)) ++ nones more) nw → Room (A.deeper (envOf qual scope L' f cdv)) n →
      wpAny (model PG Γ.w) (A.deeper (envOf qual scope L' f cdv)) (execs body (envOf qual scope L' f cdv))
        (fun fl s' => Back Γ A env outer h₀ L l (A.deeper (envOf qual scope L' f cdv)) (envOf qual scope L' f cdv) g L' R (match fl with | .ret v => v | _ => .none) s')
        (fun e s' => wpAny (model PG Γ.w) (A.deeper (envOf qual scope L' f cdv)) (leaving (envOf qual scope L' f cdv) e) (fun _ s'' => E e s'') E s') (S Γ h₁ t'))
    (hco : scope.isCoroutine = false := by rfl) (hgen : scope.isGenerator = false := by rfl) (hk : scope.kind = .function := by rfl)
    (hcell : ∀ x ∈ scope.names, x.2 ≠ .cell := by decide) : codeAny (model PG Γ.w) A (.call (.ref f) args) (RV R E) (S Γ h t) := by
  have hnd := of_decide_eq_true hnd
  have hnb : (binds.map (·.1)).Nodup := (List.nodup_append.mp hnd).1
  obtain ⟨A₀, B⟩ := c.B
  refine code_def B c.F c.X c.N c.T c.hA c.hf c.hk ho hcd r.depth hbind (locs hloc) ?_ hco hgen hk hcell
  intro g' L' h' FG' F' N' B' X' T'
  have hm : mp ((binds.map fun p => (p.1, some p.2)) ++ nones more) = fun y => binds.reverse.lookup y := by
    rw [mp_nones, mp_binds]; funext y; exact (lookup_rev hnb y).symm
  refine wpAny_mono (k g' L' h' _ ⟨⟨_, B'⟩, by rw [hm]; exact F', X', N', T', Around.frames_deeper c.hA, c.hh, rfl, hk, rfl, rfl, rfl, c.nd, ?_, c.hi⟩ (r.deeper _)) (fun fl s' z => ?_) fun _ _ z => z
  · rw [List.map_append, List.map_map]
    have : (nones more).map (·.1) = more := by unfold nones; rw [List.map_map]; exact List.map_id' more
    rw [this]; exact hnd
  · obtain ⟨l', nw', c', z⟩ := z
    exact leaveK_ c'.F c'.N fun F N => z { c with F := F, N := N, nd := c'.nd, hi := c'.hi }

/-- `enter` for a def that never raises, its context as letters -/
theorem enter0C {R : Value → Shared → Prop} {name qual : Str} {params : Arguments} {body : List Stmt} {scope : Scope} {dV kV doc pm cdv ct oc : Value} {an od : Option Addr} {osl : Array (Option Value)} {f : Addr} {args : Args} {binds : List (Str × Value)} (more : List Str) (l0 : Loc)
    (c : Fx Γ A env outer h₀ L h l nw) (n : Nat) (r : Room A (n + 1))
    (ho : (KK Γ.w).lookup f = some ⟨oc, od, .func (fnOf name qual params body scope dV kV doc pm an cdv ct), osl⟩) (hcd : codeIn (KK Γ.w) cdv qual = true)
    (hbind : BindsTo (S Γ h t) (fnOf name qual params body scope dV kV doc pm an cdv ct) args binds) (hl0 : (binds.map fun p => (p.1, some p.2)) ++ nones more = l0) (hloc : (binds.all fun y => decide (scope.names.lookup y.1 = some .local)) = true)
    (hnd : decide ((binds.map (·.1) ++ more).Nodup) = true)
    (k : ∀ A' env' g L' h₁ t' (Q : Flow → Shared → Prop), env' = envOf qual scope L' f cdv →
      Fx Γ A' env' (env :: outer) g L' h₁ l0 nw → Room A' n →
      (∀ v s', Back Γ A env outer h₀ L l A' env' g L' R v s' → Q (.ret v) s' ∧ (v = .none → Q .next s')) →
      wpAny (model PG Γ.w) A' (execs body env') Q (fun _ _ => False) (S Γ h₁ t'))
    (hco : scope.isCoroutine = false := by rfl) (hgen : scope.isGenerator = false := by rfl) (hk : scope.kind = .function := by rfl)
    (hcell : ∀ x ∈ scope.names, x.2 ≠ .cell := by decide) : codeAny (model PG Γ.w) A (.call (.ref f) args) (RV R E) (S Γ h t) := by
  refine enterC more c n r ho hcd hbind hloc hnd (fun g L' h₁ t' c' r' => ?_) hco hgen hk hcell
  refine wpAny_mono (k _ _ g L' h₁ t' (fun fl s' => Back Γ A env outer h₀ L l _ _ g L' R (match fl with | .ret v => v | _ => .none) s') rfl (hl0 ▸ c') r' fun v s' z => ⟨z, fun e => e ▸ z⟩) (fun _ _ z => z) fun _ _ z => z.elim
theorem enter0 {R : Value → Shared → Prop} {name qual : Str} {params : Arguments} {body : List Stmt} {scope : Scope} {dV kV doc pm cdv ct oc : Value} {an od : Option Addr} {osl : Array (Option Value)} {f : Addr} {args : Args} {binds : List (Str × Value)} (more : List Str) (l0 : Loc)
    (c : Fx Γ A env outer h₀ L h l nw) (n : Nat) (r : Room A (n + 1))
    (ho : (KK Γ.w).lookup f = some ⟨oc, od, .func (fnOf name qual params body scope dV kV doc pm an cdv ct), osl⟩) (hcd : codeIn (KK Γ.w) cdv qual = true)
    (hbind : BindsTo (S Γ h t) (fnOf name qual params body scope dV kV doc pm an cdv ct) args binds) (hl0 : (binds.map fun p => (p.1, some p.2)) ++ nones more = l0) (hloc : (binds.all fun y => decide (scope.names.lookup y.1 = some .local)) = true)
    (hnd : decide ((binds.map (·.1) ++ more).Nodup) = true)
    (k : ∀ A' env' g L' h₁ t' (Q : Flow → Shared → Prop), env' = envOf qual scope L' f cdv →
      Fx Γ A' env' (env :: outer) g L' h₁ l0 nw → Room A' n →
      (∀ v s', Back Γ A env outer h₀ L l A' env' g L' R v s' → Q (.ret v) s' ∧ (v = .none → Q .next s')) →
      wpAny (model PG Γ.w) A' (execs body env') Q (fun _ _ => False) (S Γ h₁ t'))
    (hco : scope.isCoroutine = false := by rfl) (hgen : scope.isGenerator = false := by rfl) (hk : scope.kind = .function := by rfl)
    (hcell : ∀ x ∈ scope.names, x.2 ≠ .cell := by decide) : wpAny (model PG Γ.w) A (call (.ref f) args.pos args.kw) R E (S Γ h t) :=
  wpAny_call (enter0C more l0 c n r ho hcd hbind hl0 hloc hnd k hco hgen hk hcell)
theorem Fx.under (c : Fx Γ A env outer h₀ L h l nw) (C : Addr) (ps : List Value) (kw : List (Str × Value)) : Fx Γ (A.under (.builtin "type.__call__" ⟨.ref C :: ps, kw⟩)) env outer h₀ L h l nw :=
  { c with hA := c.hA, hh := c.hh }
theorem Room.under {A : Around} {n : Nat} (r : Room A (n + 1)) (C : Addr) (ps : List Value) (kw : List (Str × Value)) : Room (A.under (.builtin "type.__call__" ⟨.ref C :: ps, kw⟩)) n := by
  obtain ⟨a, b⟩ := r
  refine ⟨?_, ?_⟩
  · show A.depth + 1 + n ≤ 900; omega
  · have : (Code.builtin "type.__call__" ⟨.ref C :: ps, kw⟩).cUnits ≤ 16 := by
      have : (Code.builtin "type.__call__" ⟨.ref C :: ps, kw⟩).frames ≤ 1 := Nat.le_trans (Nat.le_of_eq (rfl : _ = 0)) (by decide)
      show 1 + 3 * _ ≤ 16
      omega
    show A.units + _ + 16 * n ≤ 9000
    omega
theorem kd {e : Env} {x : Str} {k : NameKind} (he : env = e) (h : e.scope.names.lookup x = some k) : env.kindOf x = some k := by rw [he]; exact h

theorem inter {e : Env} (he : env = e) (h : interactive e = false) : interactive env = false := he ▸ h
/-! names -/
theorem xlocal (c : Fx Γ A env outer h₀ L h l nw) {x v} {Q : Value → Shared → Prop} (hl : LkR l x v) (hk : env.kindOf x = some .local) (q : Q v (S Γ h t)) (hd : (x == ("__debug__" : Str)) = false := by decide) :
    wpAny (model PG Γ.w) A (eval (.Name x pos) env) Q E (S Γ h t) :=
  wpAny_Name (wpAny_loadName_local c.hk hk (by rw [c.loc]; exact c.F.ns) (hl.look c.nl) q) hd
theorem xglobal (c : Fx Γ A env outer h₀ L h l nw) {x v} {Q : Value → Shared → Prop} (e : nsIn (KK Γ.w) mainGlobals x = some (some v)) (hk : env.kindOf x = some .globalImplicit) (q : Q v (S Γ h t)) (hd : (x == ("__debug__" : Str)) = false := by decide) :
    wpAny (model PG Γ.w) A (eval (.Name x pos) env) Q E (S Γ h t) :=
  Name_function_global c.hk hk (loadGlobal_global (by rw [c.glo]; exact c.T.g.keeps c.F.keep) (mg_of c.X c.T.g e) q) hd
theorem xbuiltin (c : Fx Γ A env outer h₀ L h l nw) {x v} {Q : Value → Shared → Prop} (e : nsIn (KK Γ.w) mainGlobals x = some none) (hb : bootBuiltins x = some v) (hn : x ≠ "__name__") (hk : env.kindOf x = some .globalImplicit) (q : Q v (S Γ h t)) (hd : (x == ("__debug__" : Str)) = false := by decide) :
    wpAny (model PG Γ.w) A (eval (.Name x pos) env) Q E (S Γ h t) :=
  Name_function_global c.hk hk (loadGlobal_builtin (by rw [c.glo]; exact c.T.g.keeps c.F.keep) (mg_none_of c.X c.T.g e) (by rw [c.blt]; exact c.T.b.keeps c.F.keep) ((c.T.builtins x hn).trans hb) q) hd
theorem xstore (c : Fx Γ A env outer h₀ L h l nw) {x v} {Q : Unit → Shared → Prop} (hs : SetR x v l l') (hk : env.kindOf x = some .local)
    (q : ∀ h' t', Fx Γ A env outer h₀ L h' l' nw → h'.objs.size = h.objs.size → Q () (S Γ h' t')) : wpAny (model PG Γ.w) A (storeName env x v) Q E (S Γ h t) :=
  wpAny_storeName_local hk (by rw [c.loc]; exact c.F.ns) (fun h' hn sb => q h' _ (c.local_ hs (by rw [c.loc] at hn; exact hn) (by rw [c.loc] at sb; exact sb)) sb.1)
    (by show (env.scope.kind == .class || (env.scope.kind == .module && env.locals != env.globals)) = false; rw [c.hk]; rfl)
/-! constants -/
theorem xint {i k} {Q : Value → Shared → Prop} (q : ∀ t', Q (.int i t) (S Γ h t')) : wpAny (model PG Γ.w) A (eval (.Constant (.int i) k pos) env) Q E (S Γ h t) := wpAny_Constant_int (q _)
theorem xstr {x : Str} {k} {Q : Value → Shared → Prop} (q : ∀ t', Q (.str x t) (S Γ h t')) : wpAny (model PG Γ.w) A (eval (.Constant (.str x) k pos) env) Q E (S Γ h t) := wpAny_Constant_str (q _)
/-! ints -/
variable {a b : Int} {ta tb : Tok} {Q : Value → Shared → Prop}
theorem xadd (q : ∀ t', Q (.int (a + b) t) (S Γ h t')) : wpAny (model PG Γ.w) A (binaryOp .Add (.int a ta) (.int b tb)) Q E (S Γ h t) := add_int (q _)
theorem xiadd (q : ∀ t', Q (.int (a + b) t) (S Γ h t')) : wpAny (model PG Γ.w) A (inplaceOp .Add (.int a ta) (.int b tb)) Q E (S Γ h t) := iadd_int (q _)
theorem xsub (q : ∀ t', Q (.int (a - b) t) (S Γ h t')) : wpAny (model PG Γ.w) A (binaryOp .Sub (.int a ta) (.int b tb)) Q E (S Γ h t) := sub_int (q _)
theorem xneg (q : ∀ t', Q (.int (-a) t) (S Γ h t')) : wpAny (model PG Γ.w) A (unaryOp .USub (.int a ta)) Q E (S Γ h t) := neg_int (q _)
theorem xmod (hb : b ≠ 0) (q : ∀ t', Q (.int (a.fmod b) t) (S Γ h t')) : wpAny (model PG Γ.w) A (binaryOp .Mod (.int a ta) (.int b tb)) Q E (S Γ h t) := mod_int' hb (q _)
end


local macro_rules | `(tactic| walk_at "m:lk") => `(tactic| with_reducible first | exact LkR.hd | (apply LkR.tl; walk_at "m:lk"))
local macro_rules | `(tactic| walk_at "m:set") => `(tactic| with_reducible first | exact SetR.hd | (apply SetR.tl; walk_at "m:set"))
local macro_rules | `(tactic| walk_at "m:kd") => `(tactic| exact kd (by assumption) rfl)
local macro_rules | `(tactic| walk_at "m:name") => `(tactic| refine xlocal (by assumption) (by walk_at "m:lk") (by walk_at "m:kd") ?_)


section
variable {Γ : Gm} {A : Around} {env : Env} {outer : List Env} {h₀ : Heap} {L : Addr} {h h' : Heap} {l l' : Loc} {nw : Led} {t : Nat} {E : Value → Shared → Prop} {pos : Pos} {Q : Value → Shared → Prop}
theorem line_is : sizeLine = 16777216 := rfl
/-! lists, tuples of the ledger -/
abbrev seqO (T : String) (xs : List Value) (n : Nat) : Obj := { cls := .type T, data := .seq xs.toArray n }
/-- weakly: what a read asks -/
def IsW (T : String) (nw : Led) (a : Addr) (xs : List Value) : Prop := xs.length ≤ 1000 ∧ ∃ o n, (a, o) ∈ nw ∧ o.cls = .type T ∧ o.data = .seq xs.toArray n
def IsQ (T : String) (nw : Led) (a : Addr) (xs : List Value) : Prop := xs.length ≤ 1000 ∧ ∃ n, (a, seqO T xs n) ∈ nw
theorem IsQ.w {T a xs} (m : IsQ T nw a xs) : IsW T nw a xs := ⟨m.1, let ⟨n, m⟩ := m.2; ⟨_, n, m, rfl, rfl⟩⟩
theorem IsW.isList (c : Fx Γ A env outer h₀ L h l nw) {a xs} (m : IsW "list" nw a xs) : h.IsList a xs.toArray := let ⟨o, n, m, hc, hd⟩ := m.2; ⟨o, c.get m, hc, n, hd⟩
theorem IsW.isTup (c : Fx Γ A env outer h₀ L h l nw) {a xs} (m : IsW "tuple" nw a xs) : IsTup h a xs.toArray := let ⟨o, n, m, hc, hd⟩ := m.2; ⟨o, c.get m, hc, n, hd⟩
theorem updF_of {nw : Led} (nd : (nw.map (·.1)).Nodup) {a o} (hm : (a, o) ∈ nw) : UpdF a o nw (fun o' => put nw a o') := by
  induction nw with
  | nil => cases hm
  | cons p r ih =>
    rw [List.map_cons, List.nodup_cons] at nd
    have keep : ∀ {q : Led}, (∀ x ∈ q, x.1 ≠ a) → ∀ o', put q a o' = q := fun {q} hq o' => by
      unfold put
      refine (List.map_congr_left fun x hx => ?_).trans (List.map_id q)
      rw [if_neg (hq x hx)]; rfl
    rcases List.mem_cons.mp hm with rfl | hm
    · have h1 : ∀ x ∈ r, x.1 ≠ a := fun x hx e => nd.1 (e ▸ List.mem_map_of_mem (f := (·.1)) hx)
      have e : (fun o' => put ((a, o) :: r) a o') = fun o' => (a, o') :: r := by
        funext o'
        show (if a = a then (a, o') else (a, o)) :: put r a o' = _
        rw [if_pos rfl, keep h1]
      rw [e]; exact .head h1
    · have h1 : p.1 ≠ a := fun e => nd.1 (by rw [e]; exact List.mem_map_of_mem (f := (·.1)) hm)
      have e : (fun o' => put (p :: r) a o') = fun o' => p :: put r a o' := by
        funext o'
        show (if p.1 = a then (a, o') else p) :: put r a o' = _
        rw [if_neg h1]
      rw [e]; exact .tail h1 (ih nd.2 hm)
theorem upd_of {nw : Led} (nd : (nw.map (·.1)).Nodup) {a o o'} (hm : (a, o) ∈ nw) : Upd a o o' nw (put nw a o') := by
  have := updF_of nd hm
  generalize hg : (fun o' => put nw a o') = g at this
  have hg' : put nw a o' = g o' := congrFun hg o'
  rw [hg']
  clear hg hg' hm nd
  induction this with
  | head h1 => exact .head h1
  | tail h1 _ ih => exact .tail h1 ih
theorem Fx.ofPut (c : Fx Γ A env outer h₀ L h l nw) {a o o'} (m : (a, o) ∈ nw) (F' : Fr h₀ L h' (mp l)) (N' : News h₀ L h' (put nw a o')) : Fx Γ A env outer h₀ L h' l (put nw a o') := by
  have hi : ∀ p ∈ put nw a o', 3 < p.1 := fun p hp => by
    obtain ⟨b, ob⟩ := p
    rcases of_mem_put hp with ⟨e, _⟩ | ⟨_, hm⟩
    · show 3 < b; rw [e]; exact c.hi _ m
    · exact c.hi _ hm
  exact { c with F := F', N := N', nd := by rw [put_names]; exact c.nd, hi := hi }
theorem Fx.ofCons (c : Fx Γ A env outer h₀ L h l nw) {a o} {p : Addr × Obj} (m : p ∈ nw) (F' : Fr h₀ L h' (mp l)) (N' : News h₀ L h' ((a, o) :: nw)) (lt : ∀ p ∈ nw, p.1 < a) : Fx Γ A env outer h₀ L h' l ((a, o) :: nw) := by
  have hi : ∀ p ∈ (a, o) :: nw, 3 < p.1 := fun q hp => by
    rcases List.mem_cons.mp hp with rfl | hp
    · exact Nat.lt_trans (c.hi _ m) (lt _ m)
    · exact c.hi _ hp
  have nd : (((a, o) :: nw).map (·.1)).Nodup := by
    rw [List.map_cons, List.nodup_cons]
    refine ⟨fun q => ?_, c.nd⟩
    obtain ⟨p, hp, e⟩ := List.mem_map.mp q
    exact absurd (lt p hp) (by rw [e]; exact Nat.lt_irrefl _)
  exact { c with F := F', N := N', nd := nd, hi := hi }
/-! what is kept from one ledger to a later one -/
def Keep (W : Addr → Prop) (nw nw' : Led) : Prop := ∀ p ∈ nw, ¬ W p.1 → p ∈ nw'
theorem Keep.refl {W} : Keep W nw nw := fun _ h _ => h
theorem Keep.put {a o} : Keep (· = a) nw (put nw a o) := fun p hp n => by obtain ⟨b, ob⟩ := p; exact mem_put_ne hp n
theorem Keep.cons {W} {p : Addr × Obj} : Keep W nw (p :: nw) := fun _ h _ => .tail _ h
theorem Keep.mono {W W' : Addr → Prop} {nw nw' : Led} (k : Keep W nw nw') (hw : ∀ a, W a → W' a) : Keep W' nw nw' := fun p hp n => k p hp fun w => n (hw _ w)
theorem Keep.trans {W} {n1 n2 n3 : Led} (x : Keep W n1 n2) (y : Keep W n2 n3) : Keep W n1 n3 := fun p hp n => y p (x p hp n) n
theorem IsQ.keep {W T a xs} {nw nw' : Led} (m : IsQ T nw a xs) (k : Keep W nw nw') (hw : ¬ W a) : IsQ T nw' a xs := ⟨m.1, let ⟨n, m⟩ := m.2; ⟨n, k _ m hw⟩⟩
theorem IsW.keep {W T a xs} {nw nw' : Led} (m : IsW T nw a xs) (k : Keep W nw nw') (hw : ¬ W a) : IsW T nw' a xs := ⟨m.1, let ⟨o, n, m, r⟩ := m.2; ⟨o, n, k _ m hw, r⟩⟩

theorem xitem (c : Fx Γ A env outer h₀ L h l nw) {value slice : Expr} {a : Addr} {xs : List Value} {k : Int} {u : Tok} {v : Value} (m : IsW "list" nw a xs) (h0 : 0 ≤ k) (hx : xs[k.toNat]? = some v) (q : Q v (S Γ h t))
    (hs : subscripted slice false (.ref a) (.int k u) = operate [.ref a, .int k u] (getItem (.ref a) (.int k u)) := by with_unfolding_all rfl) :
    wpAny (model PG Γ.w) A (subscriptTail value slice (.ref a) (.int k u)) Q E (S Γ h t) := by
  have hl := m.isList c
  have h1 : k.toNat < xs.length := (List.getElem?_eq_some_iff.mp hx).1
  have h2 := m.1
  exact tail_any hl.typeIs slot_list_getitem.lookup (wpAny_getItem_list hl h0 (by omega) (by simpa using hx) q) hs
theorem xgetItem (c : Fx Γ A env outer h₀ L h l nw) {a : Addr} {xs : List Value} {k : Int} {u : Tok} {v : Value} (m : IsW "list" nw a xs) (h0 : 0 ≤ k) (hx : xs[k.toNat]? = some v) (q : Q v (S Γ h t)) :
    wpAny (model PG Γ.w) A (getItem (.ref a) (.int k u)) Q E (S Γ h t) := by
  have hl := m.isList c
  have h1 : k.toNat < xs.length := (List.getElem?_eq_some_iff.mp hx).1
  have h2 := m.1
  exact wpAny_getItem_list hl h0 (by omega) (by simpa using hx) q
theorem xtitem (c : Fx Γ A env outer h₀ L h l nw) {value slice : Expr} {a : Addr} {xs : List Value} {k : Int} {u : Tok} {v : Value} (m : IsW "tuple" nw a xs) (h0 : 0 ≤ k) (hx : xs[k.toNat]? = some v) (q : Q v (S Γ h t))
    (hs : subscripted slice false (.ref a) (.int k u) = operate [.ref a, .int k u] (getItem (.ref a) (.int k u)) := by with_unfolding_all rfl) :
    wpAny (model PG Γ.w) A (subscriptTail value slice (.ref a) (.int k u)) Q E (S Γ h t) := by
  have h1 : k.toNat < xs.length := (List.getElem?_eq_some_iff.mp hx).1
  have h2 := m.1
  have hj : seqIndex? k xs.length = some k.toNat := by
    unfold seqIndex?
    simp only [h0, if_true, decide_true]
    first | rfl | (simp; omega) | (split <;> first | rfl | omega)
  exact item_tupleT (m.isTup c) (by omega) (by omega) hj hx q hs
theorem xsetItem (c : Fx Γ A env outer h₀ L h l nw) {a : Addr} {xs : List Value} {k : Int} {u : Tok} {v : Value} {Q : Unit → Shared → Prop} (m : IsW "list" nw a xs) (h0 : 0 ≤ k) (hx : k < xs.length)
    (q : ∀ h' o', h'.objs.size = h.objs.size → IsW "list" (put nw a o') a (xs.set k.toNat v) → Fx Γ A env outer h₀ L h' l (put nw a o') → Q () (S Γ h' t)) :
    wpAny (model PG Γ.w) A (setItem (.ref a) (.int k u) v) Q E (S Γ h t) := by
  have hl := m.isList c
  obtain ⟨hz, o, n, m, hc, hd⟩ := m
  refine wpAny_setItem_list hl h0 (by omega) (by simpa using hx) fun h' hL sb => ?_
  obtain ⟨o', ho', hc', n', hd'⟩ := hL
  refine q h' o' sb.1 ⟨by rw [List.length_set]; exact hz, o', n', mem_put_self m, hc', by rw [hd']; congr 1; simp⟩ (c.upd m sb ho')
theorem xlen (c : Fx Γ A env outer h₀ L h l nw) {a : Addr} {xs : List Value} (m : IsW "list" nw a xs) (q : ∀ t', Q (.int xs.length (t + 1)) (S Γ h t')) :
    wpAny (model PG Γ.w) A (call (.builtin "len") [.ref a]) Q E (S Γ h t) := by
  have hz := m.1
  exact call_len_list (m.isList c) (by simp only [List.size_toArray]; omega) (by simpa using q _)
theorem xnewList (c : Fx Γ A env outer h₀ L h l nw) {vs : List Value} (hz : vs.length ≤ 1000)
    (q : ∀ h' a, a = h.objs.size → h'.objs.size = a + 1 → Fx Γ A env outer h₀ L h' l ((a, seqO "list" vs 0) :: nw) → IsQ "list" ((a, seqO "list" vs 0) :: nw) a vs → Q (.ref a) (S Γ h' t)) : wpAny (model PG Γ.w) A (newList vs) Q E (S Γ h t) :=
  wpAny_newObj_type (q _ _ rfl (Heap.size_push ..) (c.push _) ⟨hz, 0, .head _⟩) (by show vs.toArray.size ≤ sizeLine; rw [List.size_toArray, line_is]; omega)
theorem xnewTuple (c : Fx Γ A env outer h₀ L h l nw) {vs : List Value} (hz : vs.length ≤ 1000)
    (q : ∀ h' a, a = h.objs.size → h'.objs.size = a + 1 → Fx Γ A env outer h₀ L h' l ((a, seqO "tuple" vs 0) :: nw) → IsQ "tuple" ((a, seqO "tuple" vs 0) :: nw) a vs → Q (.ref a) (S Γ h' t)) : wpAny (model PG Γ.w) A (newTuple vs) Q E (S Γ h t) :=
  wpAny_newObj_type (q _ _ rfl (Heap.size_push ..) (c.push _) ⟨hz, 0, .head _⟩) (by show vs.toArray.size ≤ sizeLine; rw [List.size_toArray, line_is]; omega)
theorem xappend (c : Fx Γ A env outer h₀ L h l nw) {a : Addr} {xs : List Value} {x : Value} (m : IsQ "list" nw a xs) (hz : xs.length < 1000)
    (q : ∀ h' o', h'.objs.size = h.objs.size → Fx Γ A env outer h₀ L h' l (put nw a o') → IsQ "list" (put nw a o') a (xs ++ [x]) → Q .none (S Γ h' t)) : wpAny (model PG Γ.w) A (call (.builtin "list.append") [.ref a, x]) Q E (S Γ h t) := by
  obtain ⟨_, n, m⟩ := m
  refine append_at (c.get m) (fun h' hs ho' => ?_) (by rw [List.size_toArray, line_is]; omega)
  have e : xs.toArray.push x = (xs ++ [x]).toArray := by simp
  rw [e] at ho'
  exact q h' (seqO "list" (xs ++ [x]) (n + 1)) hs.1 (c.upd m hs ho') ⟨by rw [List.length_append]; simp only [List.length_cons, List.length_nil]; omega, n + 1, mem_put_self m⟩
theorem xappendM (c : Fx Γ A env outer h₀ L h l nw) {a : Addr} {xs : List Value} {pl : Sem Bool} {Q : Value × List Value → Shared → Prop} (m : IsQ "list" nw a xs) (q : Q (.builtin "list.append", [.ref a]) (S Γ h t)) :
    wpAny (model PG Γ.w) A (getMethod (.ref a) (Str.ofString "append") pl) Q E (S Γ h t) :=
  let ⟨_, _, m⟩ := m
  listMethod_K c.N m PySem.F.slot_list_append PySem.F.type_list_append q
/-! calls -/
def Kp (Γ : Gm) (f : Value) (h : Heap) : Prop := (∃ i, f = .builtin i) ∨ (∃ T, f = .type T) ∨ (keepIn (KK Γ.w) f = true ∧ (KK Γ.w).In h) ∨ ∃ q g self, f = .ref q ∧ fnIn (KK Γ.w) g = true ∧ MethP (KK Γ.w) q g self h
theorem kp_keeps {f : Value} (h : Heap) (k : Kp Γ f h) : ∃ k, (k = Keeper.frame ∨ k = Keeper.machine ∨ k = Keeper.boundFrame) ∧ Looks (model PG Γ.w) h (keeperOf f) k := by
  rcases k with ⟨i, rfl⟩ | ⟨T, rfl⟩ | ⟨k, X⟩ | ⟨q, g, self, rfl, hf, X⟩
  · exact ⟨.machine, .inr (.inl rfl), Looks.of_pure rfl⟩
  · exact ⟨.machine, .inr (.inl rfl), Looks.of_pure rfl⟩
  · exact keeps_K k h X
  · exact keeps_M hf h X
theorem kp_b {i : String} {h : Heap} : Kp Γ (.builtin i) h := .inl ⟨i, rfl⟩
theorem kp_t {i : String} {h : Heap} : Kp Γ (.type i) h := .inr (.inl ⟨i, rfl⟩)
theorem kp_f (c : Fx Γ A env outer h₀ L h l nw) {f : Value} (k : keepIn (KK Γ.w) f = true) : Kp Γ f h := .inr (.inr (.inl ⟨k, c.XI⟩))
theorem kp_m (c : Fx Γ A env outer h₀ L h l nw) {q g : Addr} {self : Value} (hm : (q, methodObj (.ref g) self) ∈ nw) (k : fnIn (KK Γ.w) g = true) : Kp Γ (.ref q) h := .inr (.inr (.inr ⟨q, g, self, rfl, k, c.get hm, c.XI⟩))
theorem xcallW {s : Shared} {f : Value} {first : List Value} {e : Expr} {rest : List Expr}
    (hq : wpAny (model PG Γ.w) A (spliced (backTo pos (starEach (e :: rest) env))) (fun vs s₁ => Kp Γ f s₁.heap ∧ wpAny (model PG Γ.w) A (call f (first ++ vs) []) Q E s₁) E s)
    (he : starEach (e :: rest) env = (false, eval e env) :: starEach rest env := by rfl) (hplain : (backTo pos (starEach rest env)).any (·.1) = false := by rfl) :
    wpAny (model PG Γ.w) A (callWith pos f first (backTo pos (starEach (e :: rest) env)) []) Q E s := by
  rw [he] at hq ⊢
  exact callWith_of (by show ((false || (backTo pos (starEach rest env)).any (·.1)) || false) = false; rw [hplain]; rfl) kp_keeps (evalArgs_plain hq)
theorem xcallW0 {s : Shared} {f : Value} {first : List Value}
    (hk : Kp Γ f s.heap) (hq : wpAny (model PG Γ.w) A (call f (first ++ []) []) Q E s) :
    wpAny (model PG Γ.w) A (callWith pos f first (backTo pos (starEach [] env)) []) Q E s :=
  callWith_of rfl kp_keeps (evalArgs_nil3 ⟨hk, hq⟩)
theorem xcallK {s : Shared} {f : Value} {first : List Value} {e : Expr} {rest : List Expr} {kws : List Keyword} (hall : (backToKw pos (keywordEach kws env)).all (·.1.isSome) = true)
    (hq : wpAny (model PG Γ.w) A (spliced (backTo pos (starEach (e :: rest) env))) (fun vs s₁ => wpAny (model PG Γ.w) A (evalAll ((backToKw pos (keywordEach kws env)).map (·.2)))
      (fun ks s₂ => Kp Γ f s₂.heap ∧ wpAny (model PG Γ.w) A (call f (first ++ vs) (((backToKw pos (keywordEach kws env)).filterMap (·.1)).zip ks)) Q E s₂) E s₁) E s)
    (hplain : ((backTo pos (starEach (e :: rest) env)).any (·.1) || (backToKw pos (keywordEach kws env)).any (·.1.isNone)) = false := by rfl) (he : starEach (e :: rest) env = (false, eval e env) :: starEach rest env := by rfl) :
    wpAny (model PG Γ.w) A (callWith pos f first (backTo pos (starEach (e :: rest) env)) (backToKw pos (keywordEach kws env))) Q E s :=
  callWith_of hplain kp_keeps (evalArgs_kw2 hall hq he)
end


/-! the names of the text and of the built-ins -/
set_option maxRecDepth 100000
theorem gn_law_next (w : World) : nsIn (KK w) mainGlobals (Str.ofString "_law_next") = some (some (.ref 508)) := by kernel_rfl
theorem gn_law_plan (w : World) : nsIn (KK w) mainGlobals (Str.ofString "_law_plan") = some (some (.ref 515)) := by kernel_rfl
theorem gn_law_sort (w : World) : nsIn (KK w) mainGlobals (Str.ofString "_law_sort") = some (some (.ref 522)) := by kernel_rfl
theorem gn_law_built (w : World) : nsIn (KK w) mainGlobals (Str.ofString "_law_built") = some (some (.ref 529)) := by kernel_rfl
theorem gn_law_read (w : World) : nsIn (KK w) mainGlobals (Str.ofString "_law_read") = some (some (.ref 536)) := by kernel_rfl
theorem gn_law_asked (w : World) : nsIn (KK w) mainGlobals (Str.ofString "_law_asked") = some (some (.ref 543)) := by kernel_rfl
theorem gn_law_many (w : World) : nsIn (KK w) mainGlobals (Str.ofString "_law_many") = some (some (.ref 550)) := by kernel_rfl
theorem gn_law_shape (w : World) : nsIn (KK w) mainGlobals (Str.ofString "_law_shape") = some (some (.ref 555)) := by kernel_rfl
theorem gn_law_parted (w : World) : nsIn (KK w) mainGlobals (Str.ofString "_law_parted") = some (some (.ref 560)) := by kernel_rfl
theorem gn_law_fresh (w : World) : nsIn (KK w) mainGlobals (Str.ofString "_law_fresh") = some (some (.ref 567)) := by kernel_rfl
theorem gn_ParseError (w : World) : nsIn (KK w) mainGlobals (Str.ofString "ParseError") = some (some (.ref 94)) := by kernel_rfl
theorem gn_LeftRecursionError (w : World) : nsIn (KK w) mainGlobals (Str.ofString "LeftRecursionError") = some (some (.ref 113)) := by kernel_rfl
theorem gn_Node (w : World) : nsIn (KK w) mainGlobals (Str.ofString "Node") = some (some (.ref 212)) := by kernel_rfl
theorem gn_IN_PROGRESS (w : World) : nsIn (KK w) mainGlobals (Str.ofString "IN_PROGRESS") = some (some (.ref 220)) := by kernel_rfl
theorem gn_Literal (w : World) : nsIn (KK w) mainGlobals (Str.ofString "Literal") = some (some (.ref 336)) := by kernel_rfl
theorem gn_Sequence (w : World) : nsIn (KK w) mainGlobals (Str.ofString "Sequence") = some (some (.ref 394)) := by kernel_rfl
theorem gn_OneOf (w : World) : nsIn (KK w) mainGlobals (Str.ofString "OneOf") = some (some (.ref 420)) := by kernel_rfl
theorem gn_Lookahead (w : World) : nsIn (KK w) mainGlobals (Str.ofString "Lookahead") = some (some (.ref 458)) := by kernel_rfl
theorem gn_Quantifier (w : World) : nsIn (KK w) mainGlobals (Str.ofString "Quantifier") = some (some (.ref 497)) := by kernel_rfl
theorem gb_len (w : World) : nsIn (KK w) mainGlobals (Str.ofString "len") = some none := by kernel_rfl
theorem bb_len : bootBuiltins (Str.ofString "len") = some (.builtin "len") := by boot_fast
theorem gb_range (w : World) : nsIn (KK w) mainGlobals (Str.ofString "range") = some none := by kernel_rfl
theorem bb_range : bootBuiltins (Str.ofString "range") = some (.type "range") := by boot_fast
theorem gb_str (w : World) : nsIn (KK w) mainGlobals (Str.ofString "str") = some none := by kernel_rfl
theorem bb_str : bootBuiltins (Str.ofString "str") = some (.type "str") := by boot_fast
theorem gb_sorted (w : World) : nsIn (KK w) mainGlobals (Str.ofString "sorted") = some none := by kernel_rfl
theorem bb_sorted : bootBuiltins (Str.ofString "sorted") = some (.builtin "sorted") := by boot_fast
theorem gb_set (w : World) : nsIn (KK w) mainGlobals (Str.ofString "set") = some none := by kernel_rfl
theorem bb_set : bootBuiltins (Str.ofString "set") = some (.type "set") := by boot_fast
theorem gb_any (w : World) : nsIn (KK w) mainGlobals (Str.ofString "any") = some none := by kernel_rfl
theorem bb_any : bootBuiltins (Str.ofString "any") = some (.builtin "any") := by boot_fast
theorem gb_getattr (w : World) : nsIn (KK w) mainGlobals (Str.ofString "getattr") = some none := by kernel_rfl
theorem bb_getattr : bootBuiltins (Str.ofString "getattr") = some (.builtin "getattr") := by boot_fast
theorem gb_bool (w : World) : nsIn (KK w) mainGlobals (Str.ofString "bool") = some none := by kernel_rfl
theorem bb_bool : bootBuiltins (Str.ofString "bool") = some (.type "bool") := by boot_fast
theorem gb_super (w : World) : nsIn (KK w) mainGlobals (Str.ofString "super") = some none := by kernel_rfl
theorem bb_super : bootBuiltins (Str.ofString "super") = some (.type "super") := by first | boot_fast | boot_by_name | kernel_rfl
theorem kf_next (w : World) : keepIn (KK w) (.ref 508) = true := by kernel_rfl
theorem kf_plan (w : World) : keepIn (KK w) (.ref 515) = true := by kernel_rfl
theorem kf_sort (w : World) : keepIn (KK w) (.ref 522) = true := by kernel_rfl
theorem kf_built (w : World) : keepIn (KK w) (.ref 529) = true := by kernel_rfl
theorem kf_read (w : World) : keepIn (KK w) (.ref 536) = true := by kernel_rfl
theorem kf_asked (w : World) : keepIn (KK w) (.ref 543) = true := by kernel_rfl
theorem kf_many (w : World) : keepIn (KK w) (.ref 550) = true := by kernel_rfl
theorem kf_shape (w : World) : keepIn (KK w) (.ref 555) = true := by kernel_rfl
theorem kf_parted (w : World) : keepIn (KK w) (.ref 560) = true := by kernel_rfl
theorem kf_fresh (w : World) : keepIn (KK w) (.ref 567) = true := by kernel_rfl
theorem kf_PE (w : World) : keepIn (KK w) (.ref 94) = true := by kernel_rfl
theorem kf_Node (w : World) : keepIn (KK w) (.ref 212) = true := by kernel_rfl
theorem kf_Literal (w : World) : keepIn (KK w) (.ref 336) = true := by kernel_rfl
theorem kf_Sequence (w : World) : keepIn (KK w) (.ref 394) = true := by kernel_rfl
theorem kf_OneOf (w : World) : keepIn (KK w) (.ref 420) = true := by kernel_rfl
theorem kf_Lookahead (w : World) : keepIn (KK w) (.ref 458) = true := by kernel_rfl
theorem kf_Quantifier (w : World) : keepIn (KK w) (.ref 497) = true := by kernel_rfl
set_option maxRecDepth 512


local macro_rules | `(tactic| walk_at "m:gname") => `(tactic| with_reducible first
  | exact gn_law_next _
  | exact gn_law_plan _
  | exact gn_law_sort _
  | exact gn_law_built _
  | exact gn_law_read _
  | exact gn_law_asked _
  | exact gn_law_many _
  | exact gn_law_shape _
  | exact gn_law_parted _
  | exact gn_law_fresh _
  | exact gn_ParseError _
  | exact gn_LeftRecursionError _
  | exact gn_Node _
  | exact gn_IN_PROGRESS _
  | exact gn_Literal _
  | exact gn_Sequence _
  | exact gn_OneOf _
  | exact gn_Lookahead _
  | exact gn_Quantifier _
)
local macro_rules | `(tactic| walk_at "m:glob") => `(tactic| refine xglobal (by assumption) (by walk_at "m:gname") (by walk_at "m:kd") ?_)
local macro_rules | `(tactic| walk_at "m:blt") => `(tactic| first
  | refine xbuiltin (by assumption) (gb_len _) bb_len (by decide) (by walk_at "m:kd") ?_
  | refine xbuiltin (by assumption) (gb_range _) bb_range (by decide) (by walk_at "m:kd") ?_
  | refine xbuiltin (by assumption) (gb_str _) bb_str (by decide) (by walk_at "m:kd") ?_
  | refine xbuiltin (by assumption) (gb_sorted _) bb_sorted (by decide) (by walk_at "m:kd") ?_
  | refine xbuiltin (by assumption) (gb_set _) bb_set (by decide) (by walk_at "m:kd") ?_
  | refine xbuiltin (by assumption) (gb_any _) bb_any (by decide) (by walk_at "m:kd") ?_
  | refine xbuiltin (by assumption) (gb_getattr _) bb_getattr (by decide) (by walk_at "m:kd") ?_
  | refine xbuiltin (by assumption) (gb_bool _) bb_bool (by decide) (by walk_at "m:kd") ?_
  | refine xbuiltin (by assumption) (gb_super _) bb_super (by decide) (by walk_at "m:kd") ?_
)
local macro_rules | `(tactic| walk_at "m:kf") => `(tactic| with_reducible first
  | exact kf_next _
  | exact kf_plan _
  | exact kf_sort _
  | exact kf_built _
  | exact kf_read _
  | exact kf_asked _
  | exact kf_many _
  | exact kf_shape _
  | exact kf_parted _
  | exact kf_fresh _
  | exact kf_PE _
  | exact kf_Node _
  | exact kf_Literal _
  | exact kf_Sequence _
  | exact kf_OneOf _
  | exact kf_Lookahead _
  | exact kf_Quantifier _
)
local macro_rules | `(tactic| walk_at "m:kp") => `(tactic| first | exact kp_b | exact kp_t | exact kp_f (by assumption) (by walk_at "m:kf") | walk_at "m:kpm")


section
variable {Γ : Gm} {A : Around} {env : Env} {outer : List Env} {h₀ : Heap} {L : Addr} {h h' : Heap} {l l' : Loc} {nw : Led} {t : Nat} {E : Value → Shared → Prop} {pos : Pos}
/-- the ints of a script, as values -/
def IsInts (vs : List Value) (ns : List Int) : Prop := vs.length = ns.length ∧ ∀ (j : Nat) (n : Int), ns[j]? = some n → ∃ t : Tok, vs[j]? = some (Value.int n t)
/-- what `_law_next` draws -/
def draw (ns : List Int) (i : Nat) (lim : Nat) : Nat := match ns[i]? with | some n => (n.fmod lim).toNat | none => 0
theorem draw_lt {ns : List Int} {i lim : Nat} (hl : 0 < lim) : draw ns i lim < lim := by
  unfold draw
  split
  · rename_i n _
    have h1 := Int.fmod_nonneg_of_pos n (by omega : (0:Int) < lim)
    have h2 := Int.fmod_lt_of_pos n (by omega : (0:Int) < lim)
    omega
  · exact hl
set_option maxRecDepth 100000 in
set_option maxHeartbeats 8000000 in
theorem next_ok {st lst : Addr} {vs : List Value} {ns : List Int} {i : Nat} {ti tl : Tok} {lim : Nat} {R : Value → Shared → Prop} {n : Nat}
   (c : Fx Γ A env outer h₀ L h l nw) (r : Room A (n + 1)) (hst : IsW "list" nw st [.ref lst, .int i ti]) (hls : IsQ "list" nw lst vs) (hne : lst ≠ st) (hv : IsInts vs ns) (hlim : 0 < lim)
   (q : ∀ h' t' t2 t3 o', Fx Γ A env outer h₀ L h' l (put nw st o') → IsW "list" (put nw st o') st [.ref lst, .int (i + 1 : Nat) t2] → R (.int (draw ns i lim) t3) (S Γ h' t')) :
   wpAny (model PG Γ.w) A (call (.ref 508) [.ref st, .int lim tl] []) R E (S Γ h t) := by
  refine enter0 (args := ⟨[.ref st, .int lim tl], []⟩) (binds := [("state", .ref st), ("limit", .int lim tl)]) [] [("state", some (.ref st)), ("limit", some (.int lim tl))] c n r rfl (by rfl) (BindsTo.of_eq rfl) rfl rfl (by rfl) ?_ rfl rfl rfl (by decide)
  intro A' env' g L' h₁ t' Q he c' r' back
  refine wpAny_execs_cons ?_
  refine wpAny_AugAssign_SubscriptAny ?_
  walk_at "m:name"
  refine xint ?_; intro _
  refine xgetItem c' hst (by decide) rfl ?_
  refine xint ?_; intro _
  refine xiadd ?_; intro _
  refine xsetItem c' hst (by decide) (by simp) ?_
  intro h₂ o' hz2 hst2 c2
  replace hst2 : IsW "list" (put nw st o') st [.ref lst, .int (i + 1 : Nat) _] := hst2
  have hls2 : IsQ "list" (put nw st o') lst vs := hls.keep Keep.put hne
  have hvl := hv.1
  refine wpAny_execs_cons ?_
  refine wpAny_If ?_
  refine wpAny_isTrue_Compare1 ?_
  refine Subscript_ ?_
  walk_at "m:name"
  refine xint ?_; intro _
  refine xitem c2 hst2 (by decide) rfl ?_
  refine Call_ ?_
  walk_at "m:blt"
  refine xcallW ?_
  refine wpAny_items_cons ?_
  refine Subscript_ ?_
  walk_at "m:name"
  refine xint ?_; intro _
  refine xitem c2 hst2 (by decide) rfl ?_
  refine wpAny_items_nil ?_
  refine ⟨kp_b, ?_⟩
  refine xlen c2 hls2.w ?_; intro _
  refine gt_int ?_
  refine wpAny_truthy_bool ?_
  have done : ∀ t2 t4 (x : Int), x = draw ns i lim → Q (.ret (.int x t2)) (S Γ h₂ t4) := fun t2 t4 v e => by
    subst e
    exact (back _ _ ⟨_, _, c2, fun cc => q _ _ _ _ _ cc hst2⟩).1
  by_cases hlt : i < ns.length
  · rw [if_neg (by simp; omega)]
    refine wpAny_execs_nil ?_
    refine wpAny_execs_cons ?_
    refine wpAny_Return_some ?_
    refine wpAny_BinOp ?_
    refine Subscript_ ?_
    refine Subscript_ ?_
    walk_at "m:name"
    refine xint ?_; intro _
    refine xitem c2 hst2 (by decide) rfl ?_
    refine wpAny_BinOp ?_
    refine Subscript_ ?_
    walk_at "m:name"
    refine xint ?_; intro _
    refine xitem c2 hst2 (by decide) rfl ?_
    refine xint ?_; intro _
    refine xsub ?_; intro _
    obtain ⟨tv, hx⟩ := hv.2 i _ (List.getElem?_eq_getElem hlt)
    refine xitem c2 hls2.w (by omega) (by rw [show (((i + 1 : Nat) : Int) - 1).toNat = i by omega]; exact hx) ?_
    walk_at "m:name"
    refine xmod (by omega) ?_; intro _
    refine done _ _ _ ?_
    have h1 := Int.fmod_nonneg_of_pos ns[i] (by omega : (0:Int) < lim)
    unfold draw
    rw [List.getElem?_eq_getElem hlt]
    dsimp only
    rw [Int.toNat_of_nonneg h1]
  · rw [if_pos (by simp; omega)]
    refine wpAny_execs_cons ?_
    refine wpAny_Return_some ?_
    refine xint ?_; intro _
    refine done _ _ _ ?_
    unfold draw
    rw [List.getElem?_eq_none (by omega)]
    rfl
/-- the law's state: a list of the script's first ints and how many were drawn -/
def StOk (nw : Led) (st lst : Addr) : Prop := ∃ (i : Nat) (ti : Tok) (vs : List Value) (ns : List Int), IsW "list" nw st [.ref lst, .int i ti] ∧ IsQ "list" nw lst vs ∧ IsInts vs ns ∧ lst ≠ st
theorem StOk.keep {W : Addr → Prop} {nw nw' : Led} {st lst : Addr} (m : StOk nw st lst) (k : Keep W nw nw') (h1 : ¬ W st) (h2 : ¬ W lst) : StOk nw' st lst :=
  let ⟨i, ti, vs, ns, a, b, d, e⟩ := m; ⟨i, ti, vs, ns, a.keep k h1, b.keep k h2, d, e⟩
theorem StOk.fresh (c : Fx Γ A env outer h₀ L h l nw) {st lst a : Addr} (s : StOk nw st lst) (e : a = h.objs.size) : a ≠ st := fun q => by
  obtain ⟨i, ti, vs, ns, x, b, d, e2⟩ := s
  obtain ⟨o, _, m, _⟩ := x.2
  have := c.lt m
  rw [← q, e] at this
  exact Nat.lt_irrefl _ this
theorem next_ok2 {st lst : Addr} {tl : Tok} {lim : Nat} {R : Value → Shared → Prop} {n : Nat}
   (c : Fx Γ A env outer h₀ L h l nw) (r : Room A (n + 1)) (hs : StOk nw st lst) (hlim : 0 < lim)
   (q : ∀ h' t' t3 (x : Nat) nw', x < lim → Fx Γ A env outer h₀ L h' l nw' → StOk nw' st lst → Keep (· = st) nw nw' → R (.int x t3) (S Γ h' t')) :
   wpAny (model PG Γ.w) A (call (.ref 508) [.ref st, .int lim tl] []) R E (S Γ h t) := by
  obtain ⟨i, ti, vs, ns, a, b, d, e⟩ := hs
  exact next_ok c r a b e d hlim fun h' t' t2 t3 o' c' a' => q h' t' t3 _ _ (draw_lt hlim) c' ⟨_, _, _, _, a', b.keep Keep.put e, d, e⟩ Keep.put
end


local macro_rules | `(tactic| walk_at "m:s") => `(tactic| first
  | ((with_reducible show Kp _ _ _ ∧ _); refine ⟨by walk_at "m:kp", ?_⟩)
  | ((with_reducible show wpAny _ _ (eval (PySem.Expr.Name _ _) _) _ _ _); first | walk_at "m:name" | walk_at "m:glob" | walk_at "m:blt")
  | ((with_reducible show wpAny _ _ (eval (PySem.Expr.Constant (PySem.Const.int _) _ _) _) _ _ _); refine xint ?_; intro _)
  | ((with_reducible show wpAny _ _ (eval (PySem.Expr.Constant (PySem.Const.str _) _ _) _) _ _ _); refine xstr ?_; intro _)
  | ((with_reducible show wpAny _ _ (eval (PySem.Expr.Constant PySem.Const.none _ _) _) _ _ _); refine wpAny_Constant_none ?_)
  | ((with_reducible show wpAny _ _ (eval (PySem.Expr.Constant (PySem.Const.bool _) _ _) _) _ _ _); refine wpAny_Constant_bool ?_)
  | ((with_reducible show wpAny _ _ (eval (PySem.Expr.BinOp _ _ _ _) _) _ _ _); refine wpAny_BinOp ?_)
  | ((with_reducible show wpAny _ _ (eval (PySem.Expr.Subscript _ _ _) _) _ _ _); refine Subscript_ ?_)
  | ((with_reducible show wpAny _ _ (eval (PySem.Expr.Attribute (PySem.Expr.Name _ _) _ _) _) _ _ _); refine Attribute_name ?_)
  | ((with_reducible show wpAny _ _ (eval (PySem.Expr.Attribute _ _ _) _) _ _ _); refine Attribute_any_ ?_)
  | ((with_reducible show wpAny _ _ (exec (PySem.Stmt.Assign [PySem.Expr.Attribute _ _ _] _ _) _) _ _ _); (refine plainObj_wpAny_Assign_Attribute ?_ ?_; rotate_left; with_unfolding_all rfl))
  | ((with_reducible show wpAny _ _ (eval (PySem.Expr.Compare _ [_] _ _) _) _ _ _); refine wpAny_Compare1 ?_)
  | ((with_reducible show wpAny _ _ (eval (PySem.Expr.IfExp _ _ _ _) _) _ _ _); refine wpAny_IfExp ?_)
  | ((with_reducible show wpAny _ _ (eval (PySem.Expr.Tuple _ _ _) _) _ _ _); refine Tuple_ ?_)
  | ((with_reducible show wpAny _ _ (eval (PySem.Expr.List _ _) _) _ _ _); refine List_ ?_)
  | ((with_reducible show wpAny _ _ (eval (PySem.Expr.Call (PySem.Expr.Name _ _) _ [] _) _) _ _ _); refine Call_ ?_)
  | ((with_reducible show wpAny _ _ (eval (PySem.Expr.Call (PySem.Expr.Attribute _ _ _) _ [] _) _) _ _ _); refine MethodCall_ ?_)
  | ((with_reducible show wpAny _ _ (callWith _ _ _ (backTo _ (starEach (_ :: _) _)) []) _ _ _); refine xcallW ?_)
  | ((with_reducible show wpAny _ _ (spliced (backTo _ (starEach (_ :: _) _))) _ _ _); refine wpAny_items_cons ?_)
  | ((with_reducible show wpAny _ _ (spliced (backTo _ (starEach [] _))) _ _ _); refine wpAny_items_nil ?_)
  | ((with_reducible show wpAny _ _ (execs (_ :: _) _) _ _ _); refine wpAny_execs_cons ?_)
  | ((with_reducible show wpAny _ _ (execs [] _) _ _ _); refine wpAny_execs_nil ?_)
  | ((with_reducible show wpAny _ _ (exec (PySem.Stmt.Expr _ _) _) _ _ _); refine wpAny_Expr_any ?_ (inter (by assumption) rfl) rfl)
  | ((with_reducible show wpAny _ _ (exec (PySem.Stmt.If _ _ _ _) _) _ _ _); refine wpAny_If ?_)
  | ((with_reducible show wpAny _ _ (exec (PySem.Stmt.Return (some _) _) _) _ _ _); refine wpAny_Return_some ?_)
  | ((with_reducible show wpAny _ _ (exec (PySem.Stmt.Return none _) _) _ _ _); refine wpAny_Return_none ?_)
  | ((with_reducible show wpAny _ _ (exec (PySem.Stmt.Assign [PySem.Expr.Name _ _] _ _) _) _ _ _); refine wpAny_Assign_Name ?_)
  | ((with_reducible show wpAny _ _ (exec (PySem.Stmt.AugAssign (PySem.Expr.Name _ _) _ _ _) _) _ _ _); refine wpAny_AugAssign_Name ?_)
  | ((with_reducible show wpAny _ _ (exec (PySem.Stmt.AugAssign (PySem.Expr.Subscript _ _ _) _ _ _) _) _ _ _); refine wpAny_AugAssign_SubscriptAny ?_)
  | ((with_reducible show wpAny _ _ (exec (PySem.Stmt.Break _) _) _ _ _); refine wpAny_Break ?_)
  | ((with_reducible show wpAny _ _ (isTrue (PySem.Expr.Compare _ [_] _ _) _ _) _ _ _); refine wpAny_isTrue_Compare1 ?_)
  | ((with_reducible show wpAny _ _ (isTrue (PySem.Expr.UnaryOp PySem.UnaryOp.Not _ _) _ _) _ _ _); refine wpAny_isTrue_Not ?_)
  | ((with_reducible show wpAny _ _ (isTrue (PySem.Expr.BoolOp _ _ _) _ _) _ _ _); refine wpAny_isTrue_BoolOp ?_)
  | ((with_reducible show wpAny _ _ (allTrue PySem.BoolOp.And (_ :: _) _) _ _ _); refine wpAny_allTrue_And_cons ?_)
  | ((with_reducible show wpAny _ _ (allTrue PySem.BoolOp.And [] _) _ _ _); refine wpAny_allTrue_And_nil ?_)
  | ((with_reducible show wpAny _ _ (allTrue PySem.BoolOp.Or (_ :: _) _) _ _ _); refine wpAny_allTrue_Or_cons ?_)
  | ((with_reducible show wpAny _ _ (allTrue PySem.BoolOp.Or [] _) _ _ _); refine wpAny_allTrue_Or_nil ?_)
  | ((with_reducible show wpAny _ _ (storeName _ _ _) _ _ _); refine xstore (by assumption) (by walk_at "m:set") (by walk_at "m:kd") ?_; intro _ _ _ _)
  | ((with_reducible show wpAny _ _ (eval (PySem.Expr.UnaryOp _ _ _) _) _ _ _); refine wpAny_UnaryOp ?_)
  | ((with_reducible show wpAny _ _ (unaryOp PySem.UnaryOp.USub (Value.int _ _)) _ _ _); refine xneg ?_; intro _)
  | ((with_reducible show wpAny _ _ (newTuple _) _ _ _); refine xnewTuple (by assumption) (by simp) ?_; intro _ _ _ _ _ _)
  | ((with_reducible show wpAny _ _ (newList _) _ _ _); refine xnewList (by assumption) (by simp) ?_; intro _ _ _ _ _ _)
  | ((with_reducible show wpAny _ _ (truthy (Value.bool _)) _ _ _); refine wpAny_truthy_bool ?_)
  | ((with_reducible show wpAny _ _ (binaryOp PySem.Operator.Add (Value.int _ _) (Value.int _ _)) _ _ _); refine xadd ?_; intro _)
  | ((with_reducible show wpAny _ _ (binaryOp PySem.Operator.Sub (Value.int _ _) (Value.int _ _)) _ _ _); refine xsub ?_; intro _)
  | ((with_reducible show wpAny _ _ (inplaceOp PySem.Operator.Add (Value.int _ _) (Value.int _ _)) _ _ _); refine xiadd ?_; intro _)
  | ((with_reducible show wpAny _ _ (compareOp PySem.CmpOp.Eq (Value.int _ _) (Value.int _ _)) _ _ _); refine eq_int ?_)
  | ((with_reducible show wpAny _ _ (compareOp PySem.CmpOp.NotEq (Value.int _ _) (Value.int _ _)) _ _ _); refine ne_int ?_)
  | ((with_reducible show wpAny _ _ (compareOp PySem.CmpOp.Lt (Value.int _ _) (Value.int _ _)) _ _ _); refine lt_int ?_)
  | ((with_reducible show wpAny _ _ (compareOp PySem.CmpOp.LtE (Value.int _ _) (Value.int _ _)) _ _ _); refine le_int ?_)
  | ((with_reducible show wpAny _ _ (compareOp PySem.CmpOp.Gt (Value.int _ _) (Value.int _ _)) _ _ _); refine gt_int ?_)
  | ((with_reducible show wpAny _ _ (compareOp PySem.CmpOp.GtE (Value.int _ _) (Value.int _ _)) _ _ _); refine ge_int ?_)
  | ((with_reducible show wpAny _ _ (compareOp PySem.CmpOp.Eq (Value.str _ _) (Value.str _ _)) _ _ _); refine eq_str ?_)
  | ((with_reducible show wpAny _ _ (compareOp PySem.CmpOp.NotEq (Value.str _ _) (Value.str _ _)) _ _ _); refine ne_str ?_)
  | ((with_reducible show wpAny _ _ (compareOp PySem.CmpOp.Is _ Value.none) _ _ _); refine is_none ?_)
  | ((with_reducible show wpAny _ _ (compareOp PySem.CmpOp.IsNot _ Value.none) _ _ _); refine isNot_none ?_))
local macro_rules | `(tactic| walk_at "m:go") => `(tactic| repeat (walk_at "m:s"))


/-- a piece, as the law plans it -/
inductive Plan where
  | word (lit : Str)
  | chain (a b : Nat)
  | choice (a b : Nat)
  | look (neg : Bool) (a : Nat)
  | many (a least : Nat) (most : Option Nat)
def lits : List Str := [Str.ofString "a", Str.ofString "b", Str.ofString "ab", Str.ofString "ba", Str.ofString ""]
/-- its parts stand before it -/
def Plan.ok (n : Nat) : Plan → Prop
  | .word lit => lit ∈ lits
  | .chain a b | .choice a b => a < n ∧ b < n
  | .look _ a => a < n
  | .many a least most => a < n ∧ least < 3 ∧ ∀ m, most = some m → 0 < m ∧ m < 4
def Plan.kind : Plan → Str
  | .word _ => Str.ofString "word"
  | .chain _ _ => Str.ofString "chain"
  | .choice _ _ => Str.ofString "choice"
  | .look false _ => Str.ofString "seen"
  | .look true _ => Str.ofString "unseen"
  | .many _ _ _ => Str.ofString "many"
def Plan.sort : Plan → Str
  | .look _ _ => Str.ofString "look"
  | p => p.kind
def Plan.one : Plan → Nat
  | .word _ => 0
  | .chain a _ | .choice a _ | .look _ a | .many a _ _ => a
def Plan.two : Plan → Nat
  | .chain _ b | .choice _ b => b
  | _ => 0
def Plan.more (t : Tok) : Plan → Value
  | .word lit => .str lit t
  | .many _ least _ => .int least t
  | _ => .str (Str.ofString "") t
def Plan.most : Plan → Int
  | .many _ _ none => -1
  | .many _ _ (some m) => m
  | _ => 0
def Plan.isLook : Plan → Bool
  | .look _ _ => true
  | _ => false
theorem look_kind (p : Plan) : ((Str.ofString "seen" == p.kind) || (Str.ofString "unseen" == p.kind)) = p.isLook := by
  cases p with
  | look neg a => cases neg <;> rfl
  | _ => rfl
def IsPlan (nw : Led) (v : Value) (p : Plan) : Prop := ∃ a t1 t2 t3 t4 t5, v = .ref a ∧ IsQ "tuple" nw a [.str p.kind t1, .int p.one t2, .int p.two t3, p.more t4, .int p.most t5]
section
variable {Γ : Gm} {A : Around} {env : Env} {outer : List Env} {h₀ : Heap} {L : Addr} {h h' : Heap} {l l' : Loc} {nw : Led} {t : Nat} {E : Value → Shared → Prop} {pos : Pos}
theorem xin_strs {a : Addr} {x : Str} {tx : Tok} {ys : List (Str × Tok)} {Q : Value → Shared → Prop} (c : Fx Γ A env outer h₀ L h l nw) (m : IsW "tuple" nw a (ys.map fun p => .str p.1 p.2))
    (q : Q (.bool (ys.any fun p => p.1 == x)) (S Γ h t)) : wpAny (model PG Γ.w) A (compareOp .In (.str x tx) (.ref a)) Q E (S Γ h t) := by
  refine SeqAt.in_tupleAt (fun v => match v with | .str y _ => y == x | _ => false) (m.isTup c) (fun y hy => ?_) ?_
  · simp only [List.mem_toArray, List.mem_map] at hy
    obtain ⟨p, _, rfl⟩ := hy
    exact (eqGives_str _ _ _ _).at _ _
  · rw [List.any_toArray, List.any_map]; exact q
set_option maxRecDepth 100000 in
set_option maxHeartbeats 8000000 in
theorem sort_ok {v : Value} {p : Plan} {R : Value → Shared → Prop} {n : Nat}
   (c : Fx Γ A env outer h₀ L h l nw) (r : Room A (n + 1)) (hp : IsPlan nw v p)
   (q : ∀ h' t' t3 nw', Fx Γ A env outer h₀ L h' l nw' → Keep (fun _ => False) nw nw' → R (.str p.sort t3) (S Γ h' t')) :
   wpAny (model PG Γ.w) A (call (.ref 522) [v] []) R E (S Γ h t) := by
  obtain ⟨pa, t1, t2, t3, t4, t5, rfl, hp⟩ := hp
  refine enter0 (args := ⟨[.ref pa], []⟩) (binds := [("plan", .ref pa)]) [] [("plan", some (.ref pa))] c n r rfl (by rfl) (BindsTo.of_eq rfl) rfl rfl (by rfl) ?_ rfl rfl rfl (by decide)
  intro A' env' g L' h₁ t' Q he c' r' back
  walk_at "m:go"
  refine xtitem c' hp.w (by decide) rfl ?_
  walk_at "m:go"
  rename_i c2 m2
  refine xin_strs c2 (ys := [(Str.ofString "seen", _), (Str.ofString "unseen", _)]) m2.w ?_
  walk_at "m:go"
  split
  · rename_i hc
    walk_at "m:go"
    have hc : ((Str.ofString "seen" == p.kind) || ((Str.ofString "unseen" == p.kind) || false)) = true := hc
    rw [Bool.or_false, look_kind] at hc
    have e : p.sort = Str.ofString "look" := by
      cases p with
      | look neg a => rfl
      | _ => cases hc
    exact (back _ _ ⟨_, _, c2, fun cc => e ▸ q _ _ _ _ cc Keep.cons⟩).1
  · rename_i hc
    walk_at "m:go"
    refine xtitem c2 (hp.keep Keep.cons (W := fun _ => False) id).w (by decide) rfl ?_
    have hc : ¬ ((Str.ofString "seen" == p.kind) || ((Str.ofString "unseen" == p.kind) || false)) = true := hc
    rw [Bool.or_false, look_kind] at hc
    have e : p.sort = p.kind := by
      cases p with
      | look neg a => exact absurd rfl hc
      | _ => rfl
    exact (back _ _ ⟨_, _, c2, fun cc => e ▸ q _ _ _ _ cc Keep.cons⟩).1
theorem lit_at {a x : Nat} {t1 t2 t3 t4 t5 : Tok} (_ : IsQ "list" nw a [.str (Str.ofString "a") t1, .str (Str.ofString "b") t2, .str (Str.ofString "ab") t3, .str (Str.ofString "ba") t4, .str (Str.ofString "") t5]) (hx : x < 5) :
    ∃ lit tl, [Value.str (Str.ofString "a") t1, .str (Str.ofString "b") t2, .str (Str.ofString "ab") t3, .str (Str.ofString "ba") t4, .str (Str.ofString "") t5][x]? = some (Value.str lit tl) ∧ lit ∈ lits := by
  have : x = 0 ∨ x = 1 ∨ x = 2 ∨ x = 3 ∨ x = 4 := by omega
  rcases this with rfl | rfl | rfl | rfl | rfl <;> exact ⟨_, _, rfl, by decide⟩
theorem look_at (one : Nat) {a x : Nat} {t1 t2 : Tok} (_ : IsQ "list" nw a [.str (Str.ofString "seen") t1, .str (Str.ofString "unseen") t2]) (hx : x < 2) :
    ∃ b tl, [Value.str (Str.ofString "seen") t1, .str (Str.ofString "unseen") t2][x]? = some (Value.str (Plan.look b one).kind tl) := by
  have : x = 0 ∨ x = 1 := by omega
  rcases this with rfl | rfl
  · exact ⟨false, _, rfl⟩
  · exact ⟨true, _, rfl⟩
theorem most_at (one least : Nat) {a x : Nat} {t1 t2 t3 t4 : Tok} (_ : IsQ "list" nw a [.int (-1) t1, .int 1 t2, .int 2 t3, .int 3 t4]) (hx : x < 4) :
    ∃ most tl, [Value.int (-1) t1, .int 1 t2, .int 2 t3, .int 3 t4][x]? = some (Value.int (Plan.many one least most).most tl) ∧ ∀ m, most = some m → 0 < m ∧ m < 4 := by
  have : x = 0 ∨ x = 1 ∨ x = 2 ∨ x = 3 := by omega
  rcases this with rfl | rfl | rfl | rfl
  · exact ⟨none, _, rfl, fun _ e => nomatch e⟩
  · exact ⟨some 1, _, rfl, fun _ e => by cases e; decide⟩
  · exact ⟨some 2, _, rfl, fun _ e => by cases e; decide⟩
  · exact ⟨some 3, _, rfl, fun _ e => by cases e; decide⟩
set_option maxRecDepth 100000 in
set_option maxHeartbeats 8000000 in
theorem plan_ok {st lst : Addr} {many : Nat} {tm : Tok} {R : Value → Shared → Prop} {n : Nat}
   (c : Fx Γ A env outer h₀ L h l nw) (r : Room A (n + 2)) (hs : StOk nw st lst)
   (q : ∀ h' t' v p nw', Fx Γ A env outer h₀ L h' l nw' → StOk nw' st lst → Keep (· = st) nw nw' → p.ok many → IsPlan nw' v p → R v (S Γ h' t')) :
   wpAny (model PG Γ.w) A (call (.ref 515) [.ref st, .int many tm] []) R E (S Γ h t) := by
  refine enter0 (args := ⟨[.ref st, .int many tm], []⟩) (binds := [("state", .ref st), ("many", .int many tm)]) ["pick", "one", "two"] [("state", some (.ref st)), ("many", some (.int many tm)), ("pick", none), ("one", none), ("two", none)] c (n+1) r rfl (by rfl) (BindsTo.of_eq rfl) rfl rfl (by rfl) ?_ rfl rfl rfl (by decide)
  intro A' env' g L' h₁ t' Q he c' r' back
  walk_at "m:go"
  have fin : ∀ (p : Plan) (a : Addr) (t1 t2 t3 t4 t5 : Tok) (h3 : Heap) (l3 : Loc) (nw3 : Led) (t6 : Nat), Fx Γ A' env' (env :: outer) g L' h3 l3 nw3 → StOk nw3 st lst → Keep (· = st) nw nw3 → p.ok many →
      IsQ "tuple" nw3 a [.str p.kind t1, .int p.one t2, .int p.two t3, p.more t4, .int p.most t5] → Q (.ret (.ref a)) (S Γ h3 t6) := fun p a t1 t2 t3 t4 t5 h3 l3 nw3 t6 c3 s3 k3 ok m3 =>
    (back _ _ ⟨_, _, c3, fun cc => q _ _ _ _ _ cc s3 k3 ok ⟨a, t1, t2, t3, t4, t5, rfl, m3⟩⟩).1
  have st_lt : st < h₁.objs.size ∧ lst < h₁.objs.size := by
    obtain ⟨i, ti, vs, ns, a, b, d, e⟩ := hs
    obtain ⟨o, _, m, _⟩ := a.2
    obtain ⟨_, m'⟩ := b.2
    exact ⟨c'.lt m, c'.lt m'⟩
  by_cases hm : many = 0
  · rw [if_pos (by simpa using hm)]
    walk_at "m:go"
    rename_i c2 m2
    exact fin (.word (Str.ofString "a")) _ _ _ _ _ _ _ _ _ _ c2 (hs.keep Keep.cons (W := fun _ => False) id id) Keep.cons (by show _ ∈ _; decide) m2
  · rw [if_neg (by simpa using hm)]
    walk_at "m:go"
    refine next_ok2 (lim := 8) c' r' hs (by decide) fun h2 t2 t3 pick nw2 hpick c2 s2 k2 => ?_
    walk_at "m:go"
    rename_i c3 _
    refine next_ok2 c3 r' s2 (by omega) fun h2 t2 t3 one nw3 hone c4 s3 k3 => ?_
    walk_at "m:go"
    rename_i c5 _
    refine next_ok2 c5 r' s3 (by omega) fun h2 t2 t3 two nw4 htwo c6 s4 k4 => ?_
    walk_at "m:go"
    rename_i c7 _ _
    have k14 : Keep (· = st) nw nw4 := (k2.trans k3).trans k4
    by_cases h2 : pick < 2
    · rw [if_pos (by simp; omega)]
      walk_at "m:go"
      rename Fx _ _ _ _ _ _ _ _ _ => c8
      rename IsQ "list" _ _ _ => m8
      have hne := s4.fresh c7 (by assumption)
      refine next_ok2 (lim := 5) c8 r' (s4.keep Keep.cons (W := fun _ => False) id id) (by decide) fun h2 t2 t3 x nw9 hx c9 s9 k9 => ?_
      obtain ⟨lit, tl, hlit, hmem⟩ := lit_at m8 hx
      refine xitem c9 (m8.keep k9 hne).w (by omega) hlit ?_
      walk_at "m:go"
      rename_i c10 m10
      exact fin (.word lit) _ _ _ _ _ _ _ _ _ _ c10 (s9.keep Keep.cons (W := fun _ => False) id id) (((k14.trans Keep.cons).trans k9).trans Keep.cons) hmem m10
    rw [if_neg (by simp; omega)]
    walk_at "m:go"
    by_cases h4 : pick < 4
    · rw [if_pos (by simp; omega)]
      walk_at "m:go"
      rename_i c10 m10
      exact fin (.chain one two) _ _ _ _ _ _ _ _ _ _ c10 (s4.keep Keep.cons (W := fun _ => False) id id) (k14.trans Keep.cons) ⟨hone, htwo⟩ m10
    rw [if_neg (by simp; omega)]
    walk_at "m:go"
    by_cases h4' : pick = 4
    · rw [if_pos (by simp; omega)]
      walk_at "m:go"
      rename Fx _ _ _ _ _ _ _ _ _ => c8
      rename IsQ "list" _ _ _ => m8
      have hne := s4.fresh c7 (by assumption)
      refine next_ok2 (lim := 2) c8 r' (s4.keep Keep.cons (W := fun _ => False) id id) (by decide) fun h2 t2 t3 x nw9 hx c9 s9 k9 => ?_
      obtain ⟨b, tl, hb⟩ := look_at one m8 hx
      refine xitem c9 (m8.keep k9 hne).w (by omega) hb ?_
      walk_at "m:go"
      rename Fx _ _ _ _ _ _ _ _ _ => c10
      rename IsQ "tuple" _ _ _ => m10
      exact fin (.look b one) _ _ _ _ _ _ _ _ _ _ c10 (s9.keep Keep.cons (W := fun _ => False) id id) (((k14.trans Keep.cons).trans k9).trans Keep.cons) hone m10
    rw [if_neg (by simp; omega)]
    walk_at "m:go"
    by_cases h5 : pick = 5
    · rw [if_pos (by simp; omega)]
      walk_at "m:go"
      refine next_ok2 (lim := 3) c7 r' s4 (by decide) fun h2 t2 t3 least nw9 hleast c9 s9 k9 => ?_
      walk_at "m:go"
      rename Fx _ _ _ _ _ _ _ _ _ => c8
      rename IsQ "list" _ _ _ => m8
      have hne := s9.fresh c9 (by assumption)
      refine next_ok2 (lim := 4) c8 r' (s9.keep Keep.cons (W := fun _ => False) id id) (by decide) fun h2 t2 t3 x nw11 hx c11 s11 k11 => ?_
      obtain ⟨most, tl, hb, hm4⟩ := most_at one least m8 hx
      refine xitem c11 (m8.keep k11 hne).w (by omega) hb ?_
      walk_at "m:go"
      rename Fx _ _ _ _ _ _ _ _ _ => c12
      rename IsQ "tuple" _ _ _ => m12
      exact fin (.many one least most) _ _ _ _ _ _ _ _ _ _ c12 (s11.keep Keep.cons (W := fun _ => False) id id) ((((k14.trans k9).trans Keep.cons).trans k11).trans Keep.cons) ⟨hone, hleast, hm4⟩ m12
    rw [if_neg (by simp; omega)]
    walk_at "m:go"
    rename_i c10 m10
    exact fin (.choice one two) _ _ _ _ _ _ _ _ _ _ c10 (s4.keep Keep.cons (W := fun _ => False) id id) (k14.trans Keep.cons) ⟨hone, htwo⟩ m10
end


/-! own objects: their slots -/
structure SlotG (K : Frag) (C : Addr) (name : Str) (i : Nat) : Prop where
  g1 : plainGet K C name = true
  g2 : isClsIn K C = true
  p : ∃ p, findIn K (.ref C) name = some (some (.ref p)) ∧ specialIn K (.ref p) (Str.ofString "__get__") = some (some (.builtin "member_descriptor.__get__")) ∧ takesIn K (.ref p) = some true ∧ slotIn K p C = some i ∧
    takerIn K C name = some (some (.ref p)) ∧ typeIn K (.ref p) = some (.type "member_descriptor")
  s1 : findIn K (.ref C) (Str.ofString "__setattr__") = some (some (.builtin "object.__setattr__"))
  s2 : plainOver K C = true
  lt : i < 1000
abbrev inO (C dx : Addr) (sl : List (Option Value)) : Obj := { cls := .ref C, dict := some dx, data := .plain, slots := sl.toArray }
section
variable {Γ : Gm} {A : Around} {env : Env} {outer : List Env} {h₀ : Heap} {L : Addr} {h h' : Heap} {l l' : Loc} {nw : Led} {t : Nat} {E : Value → Shared → Prop} {pos : Pos}
theorem xgetSlot (c : Fx Γ A env outer h₀ L h l nw) {x C dx : Addr} {sl : List (Option Value)} {od : Obj} {name : Str} {i : Nat} {v : Value} {ex : Bool} {Q : Value → Shared → Prop}
    (hx : (x, inO C dx sl) ∈ nw) (hd : (dx, od) ∈ nw) (G : SlotG (KK Γ.w) C name i) (hv : sl[i]?.join = some v) (hh : handedIn v = true) (q : ∀ t', Q v (S Γ h t')) :
    wpAny (model PG Γ.w) A (getAttr (.ref x) name ex) Q E (S Γ h t) := by
  obtain ⟨p, a1, a2, a3, a4, _, _⟩ := G.p
  exact get_slot c.F c.X (InstAt.of_news c.N hx hd) G.g1 G.g2 a1 a2 a3 a4 (by simpa using hv) hh (q _)
theorem xsetSlot (c : Fx Γ A env outer h₀ L h l nw) {x C dx : Addr} {sl sl' : List (Option Value)} {od : Obj} {name : Str} {i : Nat} {v : Value} {Q : Unit → Shared → Prop}
    (hx : (x, inO C dx sl) ∈ nw) (hd : (dx, od) ∈ nw) (G : SlotG (KK Γ.w) C name i) (hs : (sl ++ List.replicate (i + 1 - sl.length) none).set i (some v) = sl')
    (q : ∀ h' t', Fx Γ A env outer h₀ L h' l (put nw x (inO C dx sl')) → Q () (S Γ h' t')) :
    wpAny (model PG Γ.w) A (setAttr (.ref x) name v) Q E (S Γ h t) := by
  obtain ⟨p, a1, a2, a3, a4, a5, a6⟩ := G.p
  refine set_slot c.F c.X c.N (InstAt.of_news c.N hx hd) G.s1 G.s2 a5 a6 a4 G.lt (ox' := inO C dx sl') ?_ rfl (upd_of c.nd hx) fun h' F' N' => q _ _ ?_
  · subst hs
    show Obj.mk _ _ _ _ = Obj.mk _ _ _ _
    congr 1
    apply Array.ext'
    simp
  · exact c.ofPut hx F' N'
end


/-! facts of the classes -/
set_option maxRecDepth 100000
theorem sg_336_literal (w : World) : SlotG (KK w) 336 (Str.ofString "literal") 0 := ⟨by kernel_rfl, by kernel_rfl, ⟨337, by kernel_rfl, by kernel_rfl, by kernel_rfl, by kernel_rfl, by kernel_rfl, by kernel_rfl⟩, by kernel_rfl, by kernel_rfl, by decide⟩
theorem sg_336_identity_tuple (w : World) : SlotG (KK w) 336 (Str.ofString "identity_tuple") 1 := ⟨by kernel_rfl, by kernel_rfl, ⟨297, by kernel_rfl, by kernel_rfl, by kernel_rfl, by kernel_rfl, by kernel_rfl, by kernel_rfl⟩, by kernel_rfl, by kernel_rfl, by decide⟩
theorem sg_336_name (w : World) : SlotG (KK w) 336 (Str.ofString "name") 2 := ⟨by kernel_rfl, by kernel_rfl, ⟨298, by kernel_rfl, by kernel_rfl, by kernel_rfl, by kernel_rfl, by kernel_rfl, by kernel_rfl⟩, by kernel_rfl, by kernel_rfl, by decide⟩
theorem sg_394_members (w : World) : SlotG (KK w) 394 (Str.ofString "members") 0 := ⟨by kernel_rfl, by kernel_rfl, ⟨368, by kernel_rfl, by kernel_rfl, by kernel_rfl, by kernel_rfl, by kernel_rfl, by kernel_rfl⟩, by kernel_rfl, by kernel_rfl, by decide⟩
theorem sg_394_identity_tuple (w : World) : SlotG (KK w) 394 (Str.ofString "identity_tuple") 1 := ⟨by kernel_rfl, by kernel_rfl, ⟨297, by kernel_rfl, by kernel_rfl, by kernel_rfl, by kernel_rfl, by kernel_rfl, by kernel_rfl⟩, by kernel_rfl, by kernel_rfl, by decide⟩
theorem sg_394_name (w : World) : SlotG (KK w) 394 (Str.ofString "name") 2 := ⟨by kernel_rfl, by kernel_rfl, ⟨298, by kernel_rfl, by kernel_rfl, by kernel_rfl, by kernel_rfl, by kernel_rfl, by kernel_rfl⟩, by kernel_rfl, by kernel_rfl, by decide⟩
theorem sg_420_members (w : World) : SlotG (KK w) 420 (Str.ofString "members") 0 := ⟨by kernel_rfl, by kernel_rfl, ⟨368, by kernel_rfl, by kernel_rfl, by kernel_rfl, by kernel_rfl, by kernel_rfl, by kernel_rfl⟩, by kernel_rfl, by kernel_rfl, by decide⟩
theorem sg_420_identity_tuple (w : World) : SlotG (KK w) 420 (Str.ofString "identity_tuple") 1 := ⟨by kernel_rfl, by kernel_rfl, ⟨297, by kernel_rfl, by kernel_rfl, by kernel_rfl, by kernel_rfl, by kernel_rfl, by kernel_rfl⟩, by kernel_rfl, by kernel_rfl, by decide⟩
theorem sg_420_name (w : World) : SlotG (KK w) 420 (Str.ofString "name") 2 := ⟨by kernel_rfl, by kernel_rfl, ⟨298, by kernel_rfl, by kernel_rfl, by kernel_rfl, by kernel_rfl, by kernel_rfl, by kernel_rfl⟩, by kernel_rfl, by kernel_rfl, by decide⟩
theorem sg_458_negativity (w : World) : SlotG (KK w) 458 (Str.ofString "negativity") 0 := ⟨by kernel_rfl, by kernel_rfl, ⟨459, by kernel_rfl, by kernel_rfl, by kernel_rfl, by kernel_rfl, by kernel_rfl, by kernel_rfl⟩, by kernel_rfl, by kernel_rfl, by decide⟩
theorem sg_458_members (w : World) : SlotG (KK w) 458 (Str.ofString "members") 1 := ⟨by kernel_rfl, by kernel_rfl, ⟨368, by kernel_rfl, by kernel_rfl, by kernel_rfl, by kernel_rfl, by kernel_rfl, by kernel_rfl⟩, by kernel_rfl, by kernel_rfl, by decide⟩
theorem sg_458_identity_tuple (w : World) : SlotG (KK w) 458 (Str.ofString "identity_tuple") 2 := ⟨by kernel_rfl, by kernel_rfl, ⟨297, by kernel_rfl, by kernel_rfl, by kernel_rfl, by kernel_rfl, by kernel_rfl, by kernel_rfl⟩, by kernel_rfl, by kernel_rfl, by decide⟩
theorem sg_458_name (w : World) : SlotG (KK w) 458 (Str.ofString "name") 3 := ⟨by kernel_rfl, by kernel_rfl, ⟨298, by kernel_rfl, by kernel_rfl, by kernel_rfl, by kernel_rfl, by kernel_rfl, by kernel_rfl⟩, by kernel_rfl, by kernel_rfl, by decide⟩
theorem sg_497_max (w : World) : SlotG (KK w) 497 (Str.ofString "max") 0 := ⟨by kernel_rfl, by kernel_rfl, ⟨498, by kernel_rfl, by kernel_rfl, by kernel_rfl, by kernel_rfl, by kernel_rfl, by kernel_rfl⟩, by kernel_rfl, by kernel_rfl, by decide⟩
theorem sg_497_min (w : World) : SlotG (KK w) 497 (Str.ofString "min") 1 := ⟨by kernel_rfl, by kernel_rfl, ⟨499, by kernel_rfl, by kernel_rfl, by kernel_rfl, by kernel_rfl, by kernel_rfl, by kernel_rfl⟩, by kernel_rfl, by kernel_rfl, by decide⟩
theorem sg_497_members (w : World) : SlotG (KK w) 497 (Str.ofString "members") 2 := ⟨by kernel_rfl, by kernel_rfl, ⟨368, by kernel_rfl, by kernel_rfl, by kernel_rfl, by kernel_rfl, by kernel_rfl, by kernel_rfl⟩, by kernel_rfl, by kernel_rfl, by decide⟩
theorem sg_497_identity_tuple (w : World) : SlotG (KK w) 497 (Str.ofString "identity_tuple") 3 := ⟨by kernel_rfl, by kernel_rfl, ⟨297, by kernel_rfl, by kernel_rfl, by kernel_rfl, by kernel_rfl, by kernel_rfl, by kernel_rfl⟩, by kernel_rfl, by kernel_rfl, by decide⟩
theorem sg_497_name (w : World) : SlotG (KK w) 497 (Str.ofString "name") 4 := ⟨by kernel_rfl, by kernel_rfl, ⟨298, by kernel_rfl, by kernel_rfl, by kernel_rfl, by kernel_rfl, by kernel_rfl, by kernel_rfl⟩, by kernel_rfl, by kernel_rfl, by decide⟩
theorem sg_212_children (w : World) : SlotG (KK w) 212 (Str.ofString "children") 0 := ⟨by kernel_rfl, by kernel_rfl, ⟨213, by kernel_rfl, by kernel_rfl, by kernel_rfl, by kernel_rfl, by kernel_rfl, by kernel_rfl⟩, by kernel_rfl, by kernel_rfl, by decide⟩
theorem sg_212_end (w : World) : SlotG (KK w) 212 (Str.ofString "end") 1 := ⟨by kernel_rfl, by kernel_rfl, ⟨214, by kernel_rfl, by kernel_rfl, by kernel_rfl, by kernel_rfl, by kernel_rfl, by kernel_rfl⟩, by kernel_rfl, by kernel_rfl, by decide⟩
theorem sg_212_expr (w : World) : SlotG (KK w) 212 (Str.ofString "expr") 2 := ⟨by kernel_rfl, by kernel_rfl, ⟨215, by kernel_rfl, by kernel_rfl, by kernel_rfl, by kernel_rfl, by kernel_rfl, by kernel_rfl⟩, by kernel_rfl, by kernel_rfl, by decide⟩
theorem sg_212_full_text (w : World) : SlotG (KK w) 212 (Str.ofString "full_text") 3 := ⟨by kernel_rfl, by kernel_rfl, ⟨216, by kernel_rfl, by kernel_rfl, by kernel_rfl, by kernel_rfl, by kernel_rfl, by kernel_rfl⟩, by kernel_rfl, by kernel_rfl, by decide⟩
theorem sg_212_start (w : World) : SlotG (KK w) 212 (Str.ofString "start") 4 := ⟨by kernel_rfl, by kernel_rfl, ⟨217, by kernel_rfl, by kernel_rfl, by kernel_rfl, by kernel_rfl, by kernel_rfl, by kernel_rfl⟩, by kernel_rfl, by kernel_rfl, by decide⟩
theorem mk_336 (w : World) : makesIn (KK w) 336 = true := by kernel_rfl
theorem in_336 (w : World) : findIn (KK w) (.ref 336) (Str.ofString "__init__") = some (some (.ref 318)) := by kernel_rfl
theorem mk_394 (w : World) : makesIn (KK w) 394 = true := by kernel_rfl
theorem in_394 (w : World) : findIn (KK w) (.ref 394) (Str.ofString "__init__") = some (some (.ref 356)) := by kernel_rfl
theorem mk_420 (w : World) : makesIn (KK w) 420 = true := by kernel_rfl
theorem in_420 (w : World) : findIn (KK w) (.ref 420) (Str.ofString "__init__") = some (some (.ref 356)) := by kernel_rfl
theorem mk_458 (w : World) : makesIn (KK w) 458 = true := by kernel_rfl
theorem in_458 (w : World) : findIn (KK w) (.ref 458) (Str.ofString "__init__") = some (some (.ref 440)) := by kernel_rfl
theorem mk_497 (w : World) : makesIn (KK w) 497 = true := by kernel_rfl
theorem in_497 (w : World) : findIn (KK w) (.ref 497) (Str.ofString "__init__") = some (some (.ref 479)) := by kernel_rfl
theorem mk_212 (w : World) : makesIn (KK w) 212 = true := by kernel_rfl
theorem in_212 (w : World) : findIn (KK w) (.ref 212) (Str.ofString "__init__") = some (some (.ref 150)) := by kernel_rfl
theorem fn_150 (w : World) : isFn (KK w) (.ref 150) = true := by kernel_rfl
theorem fn_236 (w : World) : isFn (KK w) (.ref 236) = true := by kernel_rfl
theorem fn_318 (w : World) : isFn (KK w) (.ref 318) = true := by kernel_rfl
theorem fn_356 (w : World) : isFn (KK w) (.ref 356) = true := by kernel_rfl
theorem fn_440 (w : World) : isFn (KK w) (.ref 440) = true := by kernel_rfl
theorem fn_479 (w : World) : isFn (KK w) (.ref 479) = true := by kernel_rfl
set_option maxRecDepth 512


local macro_rules | `(tactic| walk_at "m:sg") => `(tactic| with_reducible first
  | assumption
  | exact sg_336_literal _
  | exact sg_336_identity_tuple _
  | exact sg_336_name _
  | exact sg_394_members _
  | exact sg_394_identity_tuple _
  | exact sg_394_name _
  | exact sg_420_members _
  | exact sg_420_identity_tuple _
  | exact sg_420_name _
  | exact sg_458_negativity _
  | exact sg_458_members _
  | exact sg_458_identity_tuple _
  | exact sg_458_name _
  | exact sg_497_max _
  | exact sg_497_min _
  | exact sg_497_members _
  | exact sg_497_identity_tuple _
  | exact sg_497_name _
  | exact sg_212_children _
  | exact sg_212_end _
  | exact sg_212_expr _
  | exact sg_212_full_text _
  | exact sg_212_start _
)
local macro_rules | `(tactic| walk_at "m:asg") => `(tactic| ((with_reducible show wpAny _ _ (exec (PySem.Stmt.Assign [PySem.Expr.Attribute _ _ _] _ _) _) _ _ _); (refine plainObj_wpAny_Assign_Attribute ?_ ?_; rotate_left; with_unfolding_all rfl)))


def setS (sl : List (Option Value)) (i : Nat) (v : Value) : List (Option Value) := (sl ++ List.replicate (i + 1 - sl.length) none).set i (some v)
theorem setS_get {sl : List (Option Value)} {i : Nat} {v : Value} : (setS sl i v)[i]?.join = some v := by
  unfold setS
  rw [List.getElem?_set_self (by simp; omega)]
  rfl
section
variable {Γ : Gm} {A : Around} {env : Env} {outer : List Env} {h₀ : Heap} {L : Addr} {h h' : Heap} {l l' : Loc} {nw : Led} {t : Nat} {E : Value → Shared → Prop} {pos : Pos}
set_option maxRecDepth 100000 in
set_option maxHeartbeats 8000000 in
theorem expr_init {x C dx : Addr} {sl : List (Option Value)} {od : Obj} {i1 i2 : Nat} {nm : Str} {tn : Tok} {R : Value → Shared → Prop} {n : Nat}
   (c : Fx Γ A env outer h₀ L h l nw) (r : Room A (n + 1)) (hx : (x, inO C dx sl) ∈ nw) (hd : (dx, od) ∈ nw) (hne : dx ≠ x) (G1 : SlotG (KK Γ.w) C (Str.ofString "name") i1) (G2 : SlotG (KK Γ.w) C (Str.ofString "identity_tuple") i2)
   (q : ∀ h' t' id nw', Fx Γ A env outer h₀ L h' l nw' → Keep (· = x) nw nw' → (x, inO C dx (setS (setS sl i1 (.str nm tn)) i2 (.ref id))) ∈ nw' → R .none (S Γ h' t')) :
   codeAny (model PG Γ.w) A (.call (.ref 236) ⟨[.ref x, .str nm tn], []⟩) (RV R E) (S Γ h t) := by
  refine enter0C (args := ⟨[.ref x, .str nm tn], []⟩) (binds := [("self", .ref x), ("name", .str nm tn)]) [] [("self", some (.ref x)), ("name", some (.str nm tn))] c n r rfl (by rfl) (kp_binds c.XI fun _ => by rfl) rfl rfl (by rfl) ?_ rfl rfl rfl (by decide)
  intro A' env' g L' h₁ t' Q he c' r' back
  walk_at "m:go"
  refine xsetSlot c' hx hd G1 rfl fun h2 t2 c2 => ?_
  have hx2 := mem_put_self (o' := inO C dx (setS sl i1 (.str nm tn))) hx
  have hd2 : (dx, od) ∈ put nw x (inO C dx (setS sl i1 (.str nm tn))) := mem_put_ne hd hne
  walk_at "m:go"
  refine xgetSlot c2 hx2 hd2 G1 setS_get rfl fun t3 => ?_
  walk_at "m:go"
  rename Fx _ _ _ _ _ _ _ _ _ => c3
  refine xsetSlot c3 (.tail _ hx2) (.tail _ hd2) G2 rfl fun h2 t2 c4 => ?_
  walk_at "m:go"
  exact (back _ _ ⟨_, _, c4, fun cc => q _ _ _ _ cc ((Keep.put.trans Keep.cons).trans Keep.put) (mem_put_self (.tail _ hx2))⟩).2 rfl
end


section
variable {Γ : Gm} {A : Around} {env : Env} {outer : List Env} {h₀ : Heap} {L : Addr} {h h' : Heap} {l l' : Loc} {nw : Led} {t : Nat} {E : Value → Shared → Prop} {pos : Pos}
/-- entering a def with cells from outside (`__class__`), its first words at the def's own code; the arguments are bound by any walk -/
theorem enterS {R : Value → Shared → Prop} {name qual : Str} {params : Arguments} {body : List Stmt} {scope : Scope} {cl : List (Str × Addr)} {dV kV doc pm cdv ct oc : Value} {an od : Option Addr} {osl : Array (Option Value)} {f : Addr} {args : Args}
    (c : Fx Γ A env outer h₀ L h l nw) (n : Nat) (r : Room A (n + 1))
    (ho : (KK Γ.w).lookup f = some ⟨oc, od, .func (fnX name qual params body scope cl dV kV doc pm an cdv ct), osl⟩) (hcd : codeIn (KK Γ.w) cdv qual = true)
    (hb : wpAny (model PG Γ.w) A.in1 (bindArgs (fnX name qual params body scope cl dV kV doc pm an cdv ct) args) (fun binds s₁ => ∃ h' t' nw' l0 more, s₁ = S Γ h' t' ∧ Fx Γ A env outer h₀ L h' l nw' ∧
      (binds.map fun p => (p.1, some p.2)) ++ nones more = l0 ∧ (binds.all fun y => decide (scope.names.lookup y.1 = some .local)) = true ∧ decide ((binds.map (·.1) ++ more).Nodup) = true ∧
      ∀ A' env' g L' h₁ t' (Q : Flow → Shared → Prop), env' = envX qual scope L' f cdv cl → Fx Γ A' env' (env :: outer) g L' h₁ l0 nw' → Room A' n →
        (∀ v s', Back Γ A env outer h₀ L l A' env' g L' R v s' → Q (.ret v) s' ∧ (v = .none → Q .next s')) →
        _root_.PySem.wpAt (model PG Γ.w) A' (.func body env') (execs body env') Q (fun _ _ => False) (S Γ h₁ t')) (fun _ _ => False) (S Γ h t))
    (hco : scope.isCoroutine = false := by rfl) (hgen : scope.isGenerator = false := by rfl) (hk : scope.kind = .function := by rfl)
    (hcell : ∀ x ∈ scope.names, x.2 ≠ .cell := by decide) : codeAny (model PG Γ.w) A (.call (.ref f) args) (RV R E) (S Γ h t) := by
  refine codeAny_call_function (fd := fnX name qual params body scope cl dV kV doc pm an cdv ct) (body := body) r.depth (c.XI _ _ ho) rfl hco hgen rfl (codeRec_of c.XI hcd) ?_
  refine wpAny_mono hb (fun binds s₁ hq => ?_) fun _ _ x => x.elim
  obtain ⟨h', t', nw', l0, more, rfl, c', hl0, hloc, hnd, k⟩ := hq
  have hnd := of_decide_eq_true hnd
  have hnb : (binds.map (·.1)).Nodup := (List.nodup_append.mp hnd).1
  obtain ⟨A₀, B⟩ := c'.B
  obtain ⟨FG, BG, st, lv⟩ := groundX (R := RV R E) (s := S Γ h' t') B c'.F c'.N c'.hA c'.hf c'.hk
  refine wpAny_newFunctionEnv hcell (locs hloc) (fun h₁ hns hsb => ⟨(c'.T.nolimit.keeps c'.F.keep).fresh _ hsb, ks_codeAny_funcAt ?_⟩) hk
  have hk₁ : ∀ b o, h'.get? b = some o → h₁.get? b = some o := fun b o e => hsb.extBut b o (Nat.ne_of_lt (Heap.lt_size e)) (Heap.get?_push_of_some _ e)
  have hm : mp l0 = fun y => binds.reverse.lookup y := by
    rw [← hl0, mp_nones, mp_binds]; funext y; exact (lookup_rev hnb y).symm
  have ce : Fx Γ (A.deeper (envX qual scope h'.objs.size f cdv cl)) (envX qual scope h'.objs.size f cdv cl) (env :: outer) (hideAll h' (nw'.map (·.1))) h'.objs.size h₁ l0 nw' := by
    refine ⟨⟨_, BG⟩, ⟨by rw [hm]; exact hns, fun b o e => hk₁ b o (of_hideAll _ e), Nat.le_of_eq (hideAll_size _ _)⟩, c'.X.keeps st,
      fun p hp => ⟨hk₁ _ _ (c'.N p hp).1, Nat.ne_of_lt (Heap.lt_size (c'.N p hp).1), hideAll_none _ (List.mem_map_of_mem hp)⟩, c'.T.keeps st, Around.frames_deeper c'.hA, c'.hh, rfl, hk, rfl, rfl, rfl, c'.nd, ?_, c'.hi⟩
    rw [← hl0, List.map_append, List.map_map]
    have : (nones more).map (·.1) = more := by unfold nones; rw [List.map_map]; exact List.map_id' more
    rw [this]; exact hnd
  refine ks_wpAt_mono (k _ _ _ h'.objs.size h₁ _ (fun fl s' => Back Γ A env outer h₀ L l _ _ _ h'.objs.size R (match fl with | .ret v => v | _ => .none) s') rfl ce (r.deeper _) fun v s' z => ⟨z, fun e => e ▸ z⟩) (fun fl s' hl => ?_) fun _ _ y => y.elim
  obtain ⟨l'', nw'', c'', z⟩ := hl
  exact lv _ _ (leaveK_ c''.F c''.N fun F N => z { c' with F := F, N := N, nd := c''.nd, hi := c''.hi })
/-- the bound method of `super()` -/
theorem xsuperM (c : Fx Γ A env outer h₀ L h l nw) {so x C D f2 : Addr} {od : Obj} {dx : Addr} {sl : List (Option Value)} {name : Str} {pl : Sem Bool} {Q : Value × List Value → Shared → Prop} (hso : (so, ks_superObj D x C) ∈ nw) (hx : (x, inO C dx sl) ∈ nw) (hd : (dx, od) ∈ nw)
    (ho : nsIn (KK Γ.w) cStatics (Str.ofString "thirdparty.any") = some none) (hm : ks_superIn (KK Γ.w) C D name = some (some (.ref f2))) (ht : typeIn (KK Γ.w) (.ref f2) = some (.type "function")) (hn : (name == ("__class__" : Str)) = false)
    (q : ∀ b h' t', Fx Γ A env outer h₀ L h' l ((b, methodObj (.ref f2) (.ref x)) :: nw) → Q (.ref b, []) (S Γ h' t')) : wpAny (model PG Γ.w) A (getMethod (.ref so) name pl) Q E (S Γ h t) :=
  ks_method c.F c.X c.N hso (InstAt.of_news c.N hx hd) ho hm ht hn fun b h' F' N' lt => q b h' _ (c.ofCons hx F' N' lt)
theorem xsuper {body : List Stmt} {q : Str} {scope : Scope} {p0 p1 : Pos} {attr : Str} {whole : Sem Value} {fd : FuncData} {ar : Arg} {vs : Array Value} {file : Str} {tf : Tok} {oc ccl cl : Value} {odd cdd cld : Option Addr} {osl ccs csl : Array (Option Value)} {cdD : ClassData} {Q : Value → Shared → Prop}
    {x C D f cc cda dx : Addr} {od : Obj} {sl : List (Option Value)} (he : env = envX q scope L f (.ref cda) [(Str.ofString "__class__", cc)])
    (c : Fx Γ A env outer h₀ L h l nw) (hx : (x, inO C dx sl) ∈ nw) (hd : (dx, od) ∈ nw)
    (hf : (KK Γ.w).lookup f = some ⟨oc, odd, .func fd, osl⟩) (hp : (fd.params.posonlyargs ++ fd.params.args).head? = some ar) (hv : LkR l ar.arg (.ref x))
    (hcode : (KK Γ.w).lookup cda = some ⟨ccl, cdd, .fields vs, ccs⟩) (hvs : vs[2]? = some (.str file tf)) (hfile : ((PG.main.file : Str) == file) = true)
    (hcell : (KK Γ.w).lookup cc = some ⟨cl, cld, .cell (some (.ref D)), csl⟩) (hD : clsIn (KK Γ.w) D = some cdD) (hsub : mroIn (KK Γ.w) C (.ref D) = some true)
    (hat : (attr == ("__class__" : Str)) = false) (hks : scope.names.lookup ("super" : Str) = some .globalImplicit) (hkc : scope.names.lookup ("__class__" : Str) = some .free) (hka : scope.names.lookup ar.arg = some .local) (hk : scope.kind = .function)
    (htop : (PG.main.scope.names.lookup ("super" : Str)).isSome = false)
    (k : ∀ so h', Fx Γ A env outer h₀ L h' l ((so, ks_superObj D x C) :: nw) → Q (.ref so) (S Γ h' t)) :
    _root_.PySem.wpAt (model PG Γ.w) A (.func body env) (attributeBase (.Call (.Name (Str.ofString "super") p0) [] [] p1) attr env whole) Q E (S Γ h t) := by
  subst he
  exact ks_node (x := x) (C := C) (D := D) c.F c.X c.N c.T hf hp (hv.look c.nl) (InstAt.of_news c.N hx hd) hcode hvs hfile hcell hD hsub (gb_super _) hat hks hkc hka hk htop bb_super fun so h2 F2 N2 l2 => k so h2 (c.ofCons hx F2 N2 l2)
theorem xcallM (c : Fx Γ A env outer h₀ L h l nw) {q : Addr} {f self : Value} {ps : List Value} {kw : List (Str × Value)} {Q : Value → Shared → Prop} (hq : (q, methodObj f self) ∈ nw)
    (k : codeAny (model PG Γ.w) A (.call f ⟨self :: ps, kw⟩) (RV Q E) (S Γ h t)) : wpAny (model PG Γ.w) A (call (.ref q) ps kw) Q E (S Γ h t) := call_meth c.N hq k
set_option maxRecDepth 100000 in
theorem st_any (w : World) : nsIn (KK w) cStatics (Str.ofString "thirdparty.any") = some none := by kernel_rfl
set_option maxRecDepth 100000 in
theorem fi_236 (w : World) : fnIn (KK w) 236 = true := by kernel_rfl
set_option maxRecDepth 100000 in
theorem fi_356 (w : World) : fnIn (KK w) 356 = true := by kernel_rfl
set_option maxRecDepth 100000 in
set_option maxHeartbeats 8000000 in
theorem lit_init {x dx : Addr} {od : Obj} {lit nm : Str} {tl tn : Tok} {R : Value → Shared → Prop} {n : Nat}
   (c : Fx Γ A env outer h₀ L h l nw) (r : Room A (n + 2)) (hx : (x, inO 336 dx []) ∈ nw) (hd : (dx, od) ∈ nw) (hne : dx ≠ x)
   (q : ∀ h' t' id nw', Fx Γ A env outer h₀ L h' l nw' → Keep (· = x) nw nw' → (x, inO 336 dx [some (.str lit tl), some (.ref id), some (.str nm tn)]) ∈ nw' → R .none (S Γ h' t')) :
   codeAny (model PG Γ.w) A (.call (.ref 318) ⟨[.ref x, .str lit tl], [("name", .str nm tn)]⟩) (RV R E) (S Γ h t) := by
  refine enterS (args := ⟨[.ref x, .str lit tl], [("name", .str nm tn)]⟩) c (n + 1) r rfl (by rfl) ?_ rfl rfl rfl (by decide)
  refine (Looks.of_peek (M := model PG Γ.w) (r := ([("self", .ref x), ("literal", .str lit tl), ("name", .str nm tn)] : List (Str × Value))) c.XI (by rfl)).here ?_
  refine ⟨h, t, nw, [("self", some (.ref x)), ("literal", some (.str lit tl)), ("name", some (.str nm tn))], [], rfl, c, rfl, rfl, by rfl, fun A' env' g L' h₁ t' Q he c' r' back => ?_⟩
  refine ks_wpAt_execs_cons ?_
  refine ks_wpAt_Expr_any ?_ (inter he rfl) rfl
  refine ks_wpAt_MethodCall ?_
  refine xsuper he c' hx hd rfl rfl LkR.hd rfl rfl (by rfl) rfl rfl (by rfl) (by rfl) rfl rfl rfl rfl (by rfl) fun so h2 c2 => ?_
  refine xsuperM c2 (List.Mem.head _) (.tail _ hx) (.tail _ hd) (st_any _) (f2 := 236) (by rfl) (by rfl) (by rfl) fun b h3 t3 c3 => ?_
  dsimp only
  walk_at "m:go"
  refine ⟨kp_m c3 (.head _) (fi_236 _), ?_⟩
  refine xcallM c3 (.head _) ?_
  refine expr_init c3 r' (.tail _ (.tail _ hx)) (.tail _ (.tail _ hd)) hne (sg_336_name _) (sg_336_identity_tuple _) fun h4 t4 id nw4 c4 k4 hx4 => ?_
  have hd4 : (dx, od) ∈ nw4 := k4 _ (.tail _ (.tail _ hd)) hne
  refine _root_.PySem.wpAt_of_wpAny ?_
  walk_at "m:go"
  refine xsetSlot c4 hx4 hd4 (sg_336_literal _) rfl fun h5 t5 c5 => ?_
  have hx5 := mem_put_self (o' := inO 336 dx (setS (setS (setS [] 2 (.str nm tn)) 1 (.ref id)) 0 (.str lit tl))) hx4
  have hd5 : (dx, od) ∈ put nw4 x (inO 336 dx (setS (setS (setS [] 2 (.str nm tn)) 1 (.ref id)) 0 (.str lit tl))) := mem_put_ne hd4 hne
  walk_at "m:go"
  rename Fx _ _ _ _ _ _ _ _ _ => c6
  refine xsetSlot c6 (.tail _ hx5) (.tail _ hd5) (sg_336_identity_tuple _) rfl fun h7 t7 c7 => ?_
  walk_at "m:go"
  exact (back _ _ ⟨_, _, c7, fun cc => q _ _ _ _ cc (((((Keep.cons.trans Keep.cons).trans k4).trans Keep.put).trans Keep.cons).trans Keep.put) (mem_put_self (.tail _ hx5))⟩).2 rfl
end


section
variable {Γ : Gm} {A : Around} {env : Env} {outer : List Env} {h₀ : Heap} {L : Addr} {h h' : Heap} {l l' : Loc} {nw : Led} {t : Nat} {E : Value → Shared → Prop} {pos : Pos}
theorem Fx.low (c : Fx Γ A env outer h₀ L h l nw) {a : Addr} {o : Obj} (m : (a, o) ∈ nw) : (a == sysModules) = false := by
  rw [beq_eq_false_iff_ne]
  intro e
  have h1 : 3 < a := c.hi _ m
  rw [e] at h1
  exact absurd h1 (by decide)
/-- an own object is made: its object, its dict, then its class's own start -/
theorem xmake {C fI : Addr} {ps : List Value} {kw : List (Str × Value)} {Q : Value → Shared → Prop} {n : Nat} {p0 : Addr × Obj} (c : Fx Γ A env outer h₀ L h l nw) (r : Room A (n + 1)) (m0 : p0 ∈ nw)
    (hm : makesIn (KK Γ.w) C = true) (hi : findIn (KK Γ.w) (.ref C) (Str.ofString "__init__") = some (some (.ref fI))) (hf : isFn (KK Γ.w) (.ref fI) = true)
    (q : ∀ x dx h' A', Fx Γ A' env outer h₀ L h' l ((x, inO C dx []) :: (dx, dictOf [] 0) :: nw) → Room A' n → dx < x → (∀ p ∈ nw, p.1 < dx) →
      (∀ {h2 l2 nw2}, Fx Γ A' env outer h₀ L h2 l2 nw2 → Fx Γ A env outer h₀ L h2 l2 nw2) →
      codeAny (model PG Γ.w) A' (.call (.ref fI) ⟨.ref x :: ps, kw⟩) (RV (fun v s' => v = .none ∧ Q (.ref x) s') E) (S Γ h' t)) : wpAny (model PG Γ.w) A (call (.ref C) ps kw) Q E (S Γ h t) := by
  refine call_cls c.F c.X c.N hm hi hf fun x dx h' F' N' l1 l2 => ?_
  have nd : (((x, inO C dx []) :: (dx, dictOf [] 0) :: nw).map (·.1)).Nodup := by
    rw [List.map_cons, List.map_cons, List.nodup_cons, List.nodup_cons]
    refine ⟨fun q => ?_, fun q => ?_, c.nd⟩
    · rcases List.mem_cons.mp q with q | q
      · exact absurd l2 (by rw [show x = dx from q]; exact Nat.lt_irrefl _)
      · obtain ⟨p, hp, e⟩ := List.mem_map.mp q
        exact absurd (Nat.lt_trans (l1 p hp) l2) (by rw [e]; exact Nat.lt_irrefl _)
    · obtain ⟨p, hp, e⟩ := List.mem_map.mp q
      exact absurd (l1 p hp) (by rw [e]; exact Nat.lt_irrefl _)
  have big : 3 < dx := Nat.lt_trans (c.hi _ m0) (l1 _ m0)
  have hi : ∀ p ∈ ((x, inO C dx []) :: (dx, dictOf [] 0) :: nw), 3 < p.1 := by
    intro p hp
    rcases List.mem_cons.mp hp with rfl | hp
    · exact Nat.lt_trans big l2
    rcases List.mem_cons.mp hp with rfl | hp
    · exact big
    · exact c.hi p hp
  refine codeAny_mono (q x dx h' _ { c with F := F', N := N', nd := nd, hi := hi, hA := c.hA, hh := c.hh } (r.under _ _ _) l2 l1 fun c2 => { c2 with hA := c.hA, hh := c.hh }) fun res s' z => ?_
  rcases res with e | (_ | _ | _ | v) <;> exact z
/-- `*rest` and `**more` are bound -/
theorem bind_both {fd : FuncData} {args : Args} {vs : List Value} {ex front : List (Str × Value)} {nr nm : Str} {g₁ : Addr → Sem (List (Str × Value))} {g₂ : Addr → Addr → Sem (List (Str × Value))} {Q : List (Str × Value) → Shared → Prop}
    (c : Fx Γ A env outer h₀ L h l nw) {p0 : Addr × Obj} (m0 : p0 ∈ nw) (hn : kwDistinct ex = true)
    (hp : peekA (KK Γ.w) ⟨PG, Γ.w.params⟩ (bindArgs fd args) = some (({ cls := .type "tuple", data := .seq vs.toArray } : Obj), g₁))
    (hp₂ : ∀ D, peekA (KK Γ.w) ⟨PG, Γ.w.params⟩ (g₁ D) = some (dictOf [] 0, g₂ D))
    (hk₂ : ∀ C D, g₂ C D = (forIn ex PUnit.unit (fun x _ => (nsSet D x.1 x.2 >>= fun _ => pure (ForInStep.yield PUnit.unit))) >>= fun _ => pure (front ++ [(nr, Value.ref C)] ++ [(nm, Value.ref D)])))
    (q : ∀ C D o h' t', Fx Γ A env outer h₀ L h' l ((D, o) :: (C, seqO "tuple" vs 0) :: nw) → o.IsDictOf (strKind PG Γ.w) ex → (∀ p ∈ nw, p.1 < C) → C < D → Q (front ++ [(nr, Value.ref C)] ++ [(nm, Value.ref D)]) (S Γ h' t')) :
    wpAny (model PG Γ.w) A.in1 (bindArgs fd args) Q E (S Γ h t) := by
  have hn' := kwDistinct_nodup hn
  refine wp_of_peekA (o := ({ cls := .type "tuple", data := .seq vs.toArray } : Obj)) c.F c.N c.XI rfl _ g₁ hp fun h' F' N' l => ?_
  have c1 := c.ofCons m0 F' N' l
  refine wp_of_peekA (s := S Γ h' t) (o := dictOf [] 0) c1.F c1.N c1.XI rfl _ (g₂ h.objs.size) (hp₂ _) fun h'' F'' N'' l' => ?_
  have c2 := c1.ofCons (.head _) F'' N'' l'
  rw [hk₂]
  refine wpAny_bind (kp_fill ex (S Γ h'' t) [] 0 F'' N'' (fun p hp => Nat.ne_of_lt (l' p hp)) (fun _ he => nomatch he) (fun _ he => nomatch he) hn' fun h₃ F₃ N₃ => wpAny_pure ?_)
  exact q _ _ _ h₃ _ (c1.ofCons (.head _) F₃ N₃ l') (kp_isDict t (0 + ex.length) hn') l (l' _ (.head _))
/-- `**more` alone -/
theorem bind_more {fd : FuncData} {args : Args} {ex front : List (Str × Value)} {nm : Str} {g₁ : Addr → Sem (List (Str × Value))} {Q : List (Str × Value) → Shared → Prop}
    (c : Fx Γ A env outer h₀ L h l nw) {p0 : Addr × Obj} (m0 : p0 ∈ nw) (hn : kwDistinct ex = true)
    (hp : peekA (KK Γ.w) ⟨PG, Γ.w.params⟩ (bindArgs fd args) = some (dictOf [] 0, g₁))
    (hk₁ : ∀ D, g₁ D = (forIn ex PUnit.unit (fun x _ => (nsSet D x.1 x.2 >>= fun _ => pure (ForInStep.yield PUnit.unit))) >>= fun _ => pure (front ++ [(nm, Value.ref D)])))
    (q : ∀ D o h' t', Fx Γ A env outer h₀ L h' l ((D, o) :: nw) → o.IsDictOf (strKind PG Γ.w) ex → (∀ p ∈ nw, p.1 < D) → Q (front ++ [(nm, Value.ref D)]) (S Γ h' t')) :
    wpAny (model PG Γ.w) A.in1 (bindArgs fd args) Q E (S Γ h t) := by
  have hn' := kwDistinct_nodup hn
  refine wp_of_peekA (o := dictOf [] 0) c.F c.N c.XI rfl _ g₁ hp fun h' F' N' l => ?_
  have c1 := c.ofCons m0 F' N' l
  rw [hk₁]
  refine wpAny_bind (kp_fill ex (S Γ h' t) [] 0 F' N' (fun p hp => Nat.ne_of_lt (l p hp)) (fun _ he => nomatch he) (fun _ he => nomatch he) hn' fun h₃ F₃ N₃ => wpAny_pure ?_)
  exact q _ _ h₃ _ (c.ofCons m0 F₃ N₃ l) (kp_isDict t (0 + ex.length) hn') l
theorem via_both {fd : FuncData} {args : Args} {vs : List Value} {ex front : List (Str × Value)} {nr nm : Str} {Q : List (Str × Value) → Shared → Prop} (c : Fx Γ A env outer h₀ L h l nw)
    (q : ∀ C D o h' t', Fx Γ A env outer h₀ L h' l ((D, o) :: (C, seqO "tuple" vs 0) :: nw) → o.IsDictOf (strKind PG Γ.w) ex → (∀ p ∈ nw, p.1 < C) → C < D → Q (front ++ [(nr, Value.ref C)] ++ [(nm, Value.ref D)]) (S Γ h' t'))
    (k : (∀ C D o h' t', Fx Γ A env outer h₀ L h' l ((D, o) :: (C, seqO "tuple" vs 0) :: nw) → o.IsDictOf (strKind PG Γ.w) ex → (∀ p ∈ nw, p.1 < C) → C < D → Q (front ++ [(nr, Value.ref C)] ++ [(nm, Value.ref D)]) (S Γ h' t')) →
      wpAny (model PG Γ.w) A.in1 (bindArgs fd args) Q E (S Γ h t)) : wpAny (model PG Γ.w) A.in1 (bindArgs fd args) Q E (S Γ h t) := k q
set_option maxRecDepth 100000 in
set_option maxHeartbeats 8000000 in
theorem comp_init {x C dx i0 i1 i2 : Nat} {od : Obj} {nm : Str} {tn : Tok} {ms : List Value} {R : Value → Shared → Prop} {n : Nat} {sl : List (Option Value)}
   (c : Fx Γ A env outer h₀ L h l nw) (r : Room A (n + 2)) (hx : (x, inO C dx sl) ∈ nw) (hd : (dx, od) ∈ nw) (hne : dx ≠ x) (hex : (∃ a, ms = [.ref a]) ∨ (∃ a b, ms = [.ref a, .ref b]))
   (hsub : mroIn (KK Γ.w) C (.ref 367) = some true) (hsup : ks_superIn (KK Γ.w) C 367 (Str.ofString "__init__") = some (some (.ref 236)))
   (G1 : SlotG (KK Γ.w) C (Str.ofString "name") i2) (G2 : SlotG (KK Γ.w) C (Str.ofString "identity_tuple") i1) (G3 : SlotG (KK Γ.w) C (Str.ofString "members") i0)
   (q : ∀ h' t' id T nw', Fx Γ A env outer h₀ L h' l nw' → Keep (· = x) nw nw' → (x, inO C dx (setS (setS (setS sl i2 (.str nm tn)) i1 (.ref id)) i0 (.ref T))) ∈ nw' → IsQ "tuple" nw' T ms → R .none (S Γ h' t')) :
   codeAny (model PG Γ.w) A (.call (.ref 356) ⟨.ref x :: ms, [("name", .str nm tn)]⟩) (RV R E) (S Γ h t) := by
  refine enterS (args := ⟨.ref x :: ms, [("name", .str nm tn)]⟩) c (n + 1) r rfl (by rfl) ?_ rfl rfl rfl (by decide)
  refine via_both (c := c) (front := ([("self", .ref x)] : List (Str × Value))) (ex := ([("name", .str nm tn)] : List (Str × Value))) (nr := "members") (nm := "kwargs") (vs := ms) (fun T D o h1 t1 c1 ho l1 l2 => ?_) fun q => ?_
  rotate_left
  · rcases hex with ⟨a, rfl⟩ | ⟨a, b, rfl⟩
    · exact bind_both (ex := ([("name", .str nm tn)] : List (Str × Value))) (front := ([("self", .ref x)] : List (Str × Value))) c hx (by rfl) (by rfl) (fun D => by rfl) (fun C D => by rfl) q
    · exact bind_both (ex := ([("name", .str nm tn)] : List (Str × Value))) (front := ([("self", .ref x)] : List (Str × Value))) c hx (by rfl) (by rfl) (fun D => by rfl) (fun C D => by rfl) q
  refine ⟨h1, t1, _, [("self", some (.ref x)), ("members", some (.ref T)), ("kwargs", some (.ref D))], [], rfl, c1, rfl, rfl, by rfl, fun A' env' g L' h₁ t' Q he c' r' back => ?_⟩
  refine ks_wpAt_execs_cons ?_
  refine ks_wpAt_Expr_any ?_ (inter he rfl) rfl
  refine ks_wpAt_MethodCall ?_
  refine xsuper he c' (.tail _ (.tail _ hx)) (.tail _ (.tail _ hd)) rfl rfl LkR.hd rfl rfl (by rfl) rfl rfl hsub (by rfl) rfl rfl rfl rfl (by rfl) fun so h2 c2 => ?_
  refine xsuperM c2 (List.Mem.head _) (.tail _ (.tail _ (.tail _ hx))) (.tail _ (.tail _ (.tail _ hd))) (st_any _) (f2 := 236) hsup (by rfl) (by rfl) fun b h3 t3 c3 => ?_
  dsimp only
  walk_at "m:go"
  refine kdg_method (knd := PySem.strKind PG Γ.w) c3.N (.tail _ (.tail _ (.head _))) ho ?_
  walk_at "m:go"
  refine kdg_get2 (knd := PySem.strKind PG Γ.w) c3.N (.tail _ (.tail _ (.head _))) ho (c3.low (.tail _ (.tail _ (.head _)))) (strKind_is _ _ _ _) (some _) (by rfl) ?_
  walk_at "m:go"
  refine ⟨kp_m c3 (.head _) (fi_236 _), ?_⟩
  refine xcallM c3 (.head _) ?_
  refine expr_init c3 r' (.tail _ (.tail _ (.tail _ (.tail _ hx)))) (.tail _ (.tail _ (.tail _ (.tail _ hd)))) hne G1 G2 fun h4 t4 id nw4 c4 k4 hx4 => ?_
  have hd4 : (dx, od) ∈ nw4 := k4 _ (.tail _ (.tail _ (.tail _ (.tail _ hd)))) hne
  have hT : T ≠ x := fun e => absurd (l1 _ hx) (by rw [e]; exact Nat.lt_irrefl _)
  have hT4 : (T, seqO "tuple" ms 0) ∈ nw4 := k4 _ (.tail _ (.tail _ (.tail _ (.head _)))) hT
  refine _root_.PySem.wpAt_of_wpAny ?_
  walk_at "m:go"
  refine xsetSlot c4 hx4 hd4 G3 rfl fun h5 t5 c5 => ?_
  walk_at "m:go"
  exact (back _ _ ⟨_, _, c5, fun cc => q _ _ _ _ _ cc (((((Keep.cons.trans Keep.cons).trans Keep.cons).trans Keep.cons).trans k4).trans Keep.put) (mem_put_self hx4) ⟨by rcases hex with ⟨a, rfl⟩ | ⟨a, b, rfl⟩ <;> exact Nat.le_of_ble_eq_true rfl, 0, mem_put_ne hT4 hT⟩⟩).2 rfl
end


section
variable {prog : Program} {w : World} {A : Around} {E : Value → Shared → Prop} {s : Shared}
theorem xfind_none {d : Addr} {kvs : List (Str × Value)} {k : Str} {key : Value} {Q : Option Nat → Shared → Prop} (hkey : (PySem.strKind prog w).is k key = true) (hm : s.heap.DictOf (PySem.strKind prog w) d kvs)
    (hnew : ∀ p ∈ kvs, p.1 ≠ k) (q : Q none s) : wpAny (model prog w) A (dictFind d key ((PySem.strKind prog w).hash k)) Q E s := by
  obtain ⟨o, es, ep, ho, hc, hd, hk, hp, hn⟩ := hm
  have hidx : (es.findIdx? fun e => (PySem.strKind prog w).is k e.key) = kvs.findIdx? fun kv => decide (kv.1 = k) := by
    rw [← hp.findIdx k]; obtain ⟨l⟩ := es; simp
  have hnone : (kvs.findIdx? fun kv => decide (kv.1 = k)) = none := by
    rw [List.findIdx?_eq_none_iff]; intro p hp; simpa using hnew p hp
  rw [hnone] at hidx
  exact wpAny_dictFind_of hkey ho hd hk (by rw [hidx]; exact q)
theorem xput_new {d : Addr} {kvs : List (Str × Value)} {k : Str} {key v : Value} {Q : Unit → Shared → Prop} (hkey : (PySem.strKind prog w).is k key = true) (hm : s.heap.DictOf (PySem.strKind prog w) d kvs)
    (hnew : ∀ p ∈ kvs, p.1 ≠ k) (hz : kvs.length ≤ 10)
    (hQ : ∀ h', h'.DictOf (PySem.strKind prog w) d (kvs ++ [(k, v)]) → Heap.SameBut d s.heap h' → Q () { s with heap := h' }) :
    wpAny (model prog w) A (dictPut d ((PySem.strKind prog w).hash k) key v) Q E s := by
  unfold dictPut
  refine wpAny_bind (xfind_none hkey hm hnew ?_)
  obtain ⟨o, es, ep, ho, hc, hd, hk, hp, hn⟩ := hm
  have hes : es.size ≤ sizeLine := by
    have e1 := hp.length; have e2 : es.toList.length = es.size := by simp
    rw [line_is]; omega
  refine wpAny_updateDictKeys (hz := hes) ho hd (hQ _ ⟨_, _, ep + 1, Heap.get?_update_self _ ho (Obj.isFreed_of_dict (Obj.data_mapDictKeys hd _)),
      hc.mapDictKeys _, Obj.data_mapDictKeys hd _, hk.push hkey _, ?_, ?_⟩ (Heap.SameBut.update ..))
  · have := hp.append hkey ((PySem.strKind prog w).hash k) v
    obtain ⟨l⟩ := es
    simpa using this
  · rw [List.map_append, List.nodup_append]
    refine ⟨hn, by simp, ?_⟩
    intro a ha b hb
    simp only [List.map_cons, List.map_nil, List.mem_singleton] at hb
    subst hb
    obtain ⟨p, hp, rfl⟩ := List.mem_map.mp ha
    exact hnew p hp
theorem xmerge {d m : Addr} {kvd kvs : List (Str × Value)} {Q : Unit → Shared → Prop} (hd : s.heap.DictOf (PySem.strKind prog w) d kvd) (hm : s.heap.DictOf (PySem.strKind prog w) m kvs) (hS : (m == sysModules) = false)
    (hk : kvs = [] ∨ ∃ k v, kvs = [(k, v)] ∧ ∀ p ∈ kvd, p.1 ≠ k) (hz : kvd.length ≤ 10) (hdm : m ≠ d)
    (hQ : ∀ h', h'.DictOf (PySem.strKind prog w) d (kvd ++ kvs) → Heap.SameBut d s.heap h' → Q () { s with heap := h' }) : wpAny (model prog w) A (mergeMapping d (.ref m) true) Q E s := by
  obtain ⟨od, esd, epd, hod, hcd, hdd, hkd, hpd, hnd⟩ := id hd
  obtain ⟨om, esm, epm, hom, hcm, hdm', hkm, hpm, hnm⟩ := id hm
  have hT : s.TypeIs (.ref m) "dict" := hm.typeIs
  unfold mergeMapping
  refine wpAny_bind (wpAny_isInstance hT isSubtype_dict_dict ?_)
  simp only [if_true]
  refine wpAny_bind (wpAny_specialOf hT F.slot_dict_iter.lookup (wpAny_bind (wpAny_pure ?_)))
  simp only [beq_self_eq_true]
  rw [if_neg (by rw [hS]; exact Bool.false_ne_true)]
  refine wpAny_bind (wpAny_dictEntries hod hdd ?_)
  obtain ⟨l⟩ := esm
  rcases hk with rfl | ⟨k, v, rfl, hk⟩
  · cases hpm
    split
    · refine wpAny_bind (wpAny_dictEntries hom hdm' (wpAny_bind (wpAny_pure ?_)))
      refine wpAny_bind (wpAny_dictEntries hom hdm' ?_)
      refine wpAny_bind (wpAny_dictEpoch hom hdm' ?_)
      exact wpAny_bind (wpAny_pure (wpAny_pure (hQ s.heap (by rw [List.append_nil]; exact hd) (Heap.SameBut.refl _ _))))
    · refine wpAny_bind (wpAny_dictEntries hom hdm' ?_)
      refine wpAny_bind (wpAny_dictEpoch hom hdm' ?_)
      exact wpAny_bind (wpAny_pure (wpAny_pure (hQ s.heap (by rw [List.append_nil]; exact hd) (Heap.SameBut.refl _ _))))
  · cases hpm with
    | cons hkey hval hr =>
      cases hr
      rename_i e
      obtain ⟨k', hkey', hhash⟩ := hkm e (by simp)
      obtain rfl : k' = k := (PySem.strKind prog w).inj _ _ _ hkey' hkey
      obtain ⟨h, key, v'⟩ := e
      dsimp only at hkey hval hhash
      subst hval hhash
      obtain ⟨tk, rfl⟩ := Value.isStrOf_shape hkey
      have ar : ∀ (x : DictEntry) (f : DictEntry → PUnit → Sem (ForInStep PUnit)), forIn #[x] PUnit.unit f = forIn [x] PUnit.unit f := fun x f => by simp
      split
      · refine wpAny_bind (wpAny_dictEntries hom hdm' (wpAny_bind ?_))
        show wpAny _ _ (forIn #[(_ : DictEntry)] PUnit.unit _) _ _ _
        rw [ar, List.forIn_cons]
        refine wpAny_bind (wpAny_pure (wpAny_pure ?_))
        refine wpAny_bind (wpAny_dictEntries hom hdm' ?_)
        refine wpAny_bind (wpAny_dictEpoch hom hdm' ?_)
        refine wpAny_bind ?_
        show wpAny _ _ (forIn [0] PUnit.unit _) _ _ _
        rw [List.forIn_cons]
        refine wpAny_bind (wpAny_bind (wpAny_dictEntries hom hdm' ?_))
        show wpAny _ _ (holding _ _ >>= _) _ _ _
        refine wpAny_bind (wpAny_holding (wpAny_bind (xfind_none hkey hd hk ?_)))
        rw [if_neg (by simp)]
        refine xput_new hkey hd hk hz fun h' hD sb => ?_
        have hom' : h'.get? m = some om := (sb.2 m hdm).trans hom
        refine wpAny_bind (wpAny_dictEpoch hom' hdm' ?_)
        rw [if_neg (by simp)]
        exact wpAny_pure (wpAny_pure (wpAny_pure (hQ h' hD sb)))
      · refine wpAny_bind (wpAny_dictEntries hom hdm' ?_)
        refine wpAny_bind (wpAny_dictEpoch hom hdm' ?_)
        refine wpAny_bind ?_
        show wpAny _ _ (forIn [0] PUnit.unit _) _ _ _
        rw [List.forIn_cons]
        refine wpAny_bind (wpAny_bind (wpAny_dictEntries hom hdm' ?_))
        show wpAny _ _ (holding _ _ >>= _) _ _ _
        refine wpAny_bind (wpAny_holding (wpAny_bind (xfind_none hkey hd hk ?_)))
        rw [if_neg (by simp)]
        refine xput_new hkey hd hk hz fun h' hD sb => ?_
        have hom' : h'.get? m = some om := (sb.2 m hdm).trans hom
        refine wpAny_bind (wpAny_dictEpoch hom' hdm' ?_)
        rw [if_neg (by simp)]
        exact wpAny_pure (wpAny_pure (wpAny_pure (hQ h' hD sb)))
theorem xkwIn {d : Addr} {kvs : List (Str × Value)} {f : Value} {Q : List (Str × Value) → Shared → Prop} (hm : s.heap.DictOf (PySem.strKind prog w) d kvs) (hk : kvs = [] ∨ ∃ k v, kvs = [(k, v)])
    (q : Q kvs s) : wpAny (model prog w) A (keywordsIn f d) Q E s := by
  obtain ⟨om, esm, epm, hom, hcm, hdm', hkm, hpm, hnm⟩ := id hm
  unfold keywordsIn
  refine wpAny_bind (wpAny_dictEntries hom hdm' ?_)
  obtain ⟨l⟩ := esm
  rcases hk with rfl | ⟨k, v, rfl⟩
  · cases hpm
    exact wpAny_bind (wpAny_pure (wpAny_pure q))
  · cases hpm with
    | cons hkey hval hr =>
      cases hr
      rename_i e
      obtain ⟨h, key, v'⟩ := e
      dsimp only at hkey hval
      subst hval
      obtain ⟨tk, rfl⟩ := Value.isStrOf_shape hkey
      refine wpAny_bind ?_
      show wpAny _ _ (forIn #[(_ : DictEntry)] _ _) _ _ _
      rw [show ∀ (x : DictEntry) (b : List (Str × Value)) (f : DictEntry → List (Str × Value) → Sem (ForInStep (List (Str × Value)))), forIn #[x] b f = forIn [x] b f from fun x b f => by simp, List.forIn_cons]
      exact wpAny_bind (wpAny_pure (wpAny_pure (wpAny_pure q)))
end
section
variable {Γ : Gm} {A : Around} {env : Env} {outer : List Env} {h₀ : Heap} {L : Addr} {h h' : Heap} {l l' : Loc} {nw : Led} {t : Nat} {E : Value → Shared → Prop} {pos : Pos}
theorem mem_news (c : Fx Γ A env outer h₀ L h l nw) {a : Addr} {o : Obj} {kvs : List (Str × Value)} (m : (a, o) ∈ nw) (ho : o.IsDictOf (PySem.strKind PG Γ.w) kvs) : h.DictOf (PySem.strKind PG Γ.w) a kvs := Heap.dictOf_iff.mpr ⟨o, c.get m, ho⟩
theorem callWith_star {s : Shared} {f : Value} {first : List Value} {Q : Value → Shared → Prop} {args : List (Bool × Sem Value)} {keywords : List (Option Str × Sem Value)} (hst : (args.any (·.1) || keywords.any (·.1.isNone)) = true)
    (h : wpAny (model PG Γ.w) A (evalArgs f true args keywords) (fun a s₁ => Kp Γ f s₁.heap ∧ wpAny (model PG Γ.w) A (call f (first ++ a.pos) a.kw) Q E s₁) E s) : wpAny (model PG Γ.w) A (callWith pos f first args keywords) Q E s := by
  unfold callWith
  refine wpAny_bind (wpAny_holding (wpAny_mono h (fun a s₁ h₁ => wpAny_bind (wpAny_standAt ?_)) fun _ _ x => x))
  obtain ⟨k, hk', L⟩ := kp_keeps _ h₁.1
  simp only [hst]
  refine wpAny_bind (L.here ?_)
  have tail : ∀ {t : Sem Value}, wpAny (model PG Γ.w) A t Q E s₁ → wpAny (model PG Γ.w) A (t >>= fun r => holding [r] point >>= fun _ => pure r) Q E s₁ :=
    fun ht => wpAny_bind (wpAny_mono ht (fun r s₂ hr => wpAny_bind (wpAny_holding (wpAny_point (wpAny_pure hr)))) fun _ _ x => x)
  have marked (mk : Value) : wpAny (model PG Γ.w) A (callMarked mk f (first ++ a.pos) a.kw) Q E s₁ := by unfold callMarked; exact Calls.wpAny_keep h₁.2
  rcases hk' with rfl | rfl | rfl <;> dsimp only <;> first | exact tail (marked _) | exact tail (wpAny_operateT h₁.2)
theorem evalArgs_star {s : Shared} {f : Value} {e : Expr} {rest : List Expr} {keywords : List (Option Str × Sem Value)} {Q : Args → Shared → Prop} (hall : keywords.all (·.1.isSome) = false)
    (h : wpAny (model PG Γ.w) A (spliced (backTo pos (starEach (e :: rest) env))) (fun vs s₁ => wpAny (model PG Γ.w) A (mergedKeywords f keywords) (fun d s₂ => wpAny (model PG Γ.w) A (keywordsIn f d) (fun kw s₃ => Q ⟨vs, kw⟩ s₃) E s₂) E s₁) E s)
    (he : starEach (e :: rest) env = (false, eval e env) :: starEach rest env := by rfl) : wpAny (model PG Γ.w) A (evalArgs f true (backTo pos (starEach (e :: rest) env)) keywords) Q E s := by
  rw [he] at h ⊢
  unfold evalArgs
  show wpAny _ A (spliced (backTo pos ((false, eval e env) :: starEach rest env)) >>= _) Q E s
  refine wpAny_bind (wpAny_mono h (fun vs s₁ h₁ => ?_) fun _ _ x => x)
  refine wpAny_holding ?_
  simp only [hall, Bool.false_eq_true, if_false]
  refine wpAny_bind (wpAny_mono h₁ (fun d s₂ h₂ => ?_) fun _ _ x => x)
  refine wpAny_bind (wpAny_pure ?_)
  exact wpAny_bind (wpAny_holding (wpAny_mono h₂ (fun kw s₃ h₃ => wpAny_pure h₃) fun _ _ x => x))
theorem put_cons {nw : Led} {a : Addr} {o o' : Obj} (lt : ∀ p ∈ nw, p.1 < a) : put ((a, o) :: nw) a o' = (a, o') :: nw := by
  unfold put
  rw [List.map_cons, if_pos rfl]
  congr 1
  refine (List.map_congr_left fun x hx => ?_).trans (List.map_id nw)
  rw [if_neg (fun e => absurd (lt x hx) (by rw [e]; exact Nat.lt_irrefl _))]; rfl
theorem xmerged1 {f : Value} {x : Sem Value} {m : Addr} {o : Obj} {kvs : List (Str × Value)} {Q : Addr → Shared → Prop} (c : Fx Γ A env outer h₀ L h l nw) (hm : (m, o) ∈ nw) (ho : o.IsDictOf (PySem.strKind PG Γ.w) kvs) (hk : kvs = [] ∨ ∃ k v, kvs = [(k, v)])
    (hx : ∀ {Q' E' h' nw' t'}, Fx Γ A env outer h₀ L h' l nw' → Q' (.ref m) (S Γ h' t') → wpAny (model PG Γ.w) A x Q' E' (S Γ h' t'))
    (q : ∀ h' t' D oD, Fx Γ A env outer h₀ L h' l ((D, oD) :: nw) → (∀ p ∈ nw, p.1 < D) → oD.IsDictOf (PySem.strKind PG Γ.w) kvs → Q D (S Γ h' t')) :
    wpAny (model PG Γ.w) A (mergedKeywords f [(none, x)]) Q E (S Γ h t) := by
  unfold mergedKeywords
  refine wpAny_bind (wpAny_alloc ?_)
  have c1 := c.push (dictOf [] 0)
  have lt : ∀ p ∈ nw, p.1 < h.objs.size := fun p hp => c.lt hp
  have hne : m ≠ h.objs.size := fun e => absurd (lt _ hm) (by rw [← e]; exact Nat.lt_irrefl _)
  show wpAny _ _ _ _ _ (S Γ (h.push (dictOf [] 0)) t)
  refine wpAny_bind (wpAny_holding ?_)
  dsimp only
  refine wpAny_bind ?_
  rw [List.forIn_cons]
  refine wpAny_bind (wpAny_bind (wpAny_pure ?_))
  refine wpAny_bind (hx c1 ?_)
  refine wpAny_bind (wpAny_onRaise (wpAny_holding (wpAny_tryCatch (wpAny_onRaise ?_))))
  have hD : Heap.DictOf (PySem.strKind PG Γ.w) (h.push (dictOf [] 0)) h.objs.size [] := mem_news c1 (.head _) ⟨_, _, ⟨rfl, rfl, rfl⟩, rfl, (fun _ e => by simp at e), .nil, .nil⟩
  refine xmerge (s := S Γ (h.push (dictOf [] 0)) t) hD (mem_news c1 (.tail _ hm) ho) (c.low hm) (hk.imp id fun ⟨k, v, e⟩ => ⟨k, v, e, fun _ e => nomatch e⟩) (Nat.zero_le _) hne fun h' hD' sb => ?_
  obtain ⟨oD, hoD, hi⟩ := Heap.dictOf_iff.mp hD'
  have c2 := c1.upd (.head _) sb hoD
  refine wpAny_pure (wpAny_pure (wpAny_pure (wpAny_pure ?_)))
  exact q h' t _ oD (put_cons lt ▸ c2) lt hi
/-- `**{}` behind one keyword -/
theorem xmerged2 {f v : Value} {n : Str} {x y : Sem Value} {m : Addr} {o : Obj} {Q : Addr → Shared → Prop} (c : Fx Γ A env outer h₀ L h l nw) (hm : (m, o) ∈ nw) (ho : o.IsDictOf (PySem.strKind PG Γ.w) [])
    (hx : ∀ {Q' E' h' nw' t'}, Fx Γ A env outer h₀ L h' l nw' → Q' (.ref m) (S Γ h' t') → wpAny (model PG Γ.w) A x Q' E' (S Γ h' t'))
    (hy : ∀ {Q' E' h' nw' t'}, Fx Γ A env outer h₀ L h' l nw' → Q' v (S Γ h' t') → wpAny (model PG Γ.w) A y Q' E' (S Γ h' t'))
    (q : ∀ h' t' D oD T oT, Fx Γ A env outer h₀ L h' l ((T, oT) :: (D, oD) :: nw) → (∀ p ∈ nw, p.1 < D) → D < T → oD.IsDictOf (PySem.strKind PG Γ.w) [(n, v)] → Q D (S Γ h' t')) :
    wpAny (model PG Γ.w) A (mergedKeywords f [(some n, y), (none, x)]) Q E (S Γ h t) := by
  unfold mergedKeywords
  refine wpAny_bind (wpAny_alloc ?_)
  have c1 := c.push (dictOf [] 0)
  have lt : ∀ p ∈ nw, p.1 < h.objs.size := fun p hp => c.lt hp
  have hne : m ≠ h.objs.size := fun e => absurd (lt _ hm) (by rw [← e]; exact Nat.lt_irrefl _)
  show wpAny _ _ _ _ _ (S Γ (h.push (dictOf [] 0)) t)
  refine wpAny_bind (wpAny_holding ?_)
  dsimp only
  refine wpAny_bind ?_
  rw [List.forIn_cons]
  refine wpAny_bind (wpAny_pure ?_)
  dsimp only
  rw [List.forIn_cons]
  refine wpAny_bind (wpAny_bind ?_)
  show wpAny _ _ (evalAll [y] >>= _) _ _ _
  refine wpAny_bind (wpAny_evalAll_cons (hy c1 (wpAny_evalAll_nil ?_)))
  refine wpAny_bind (wpAny_alloc ?_)
  have c2 := c1.push (dictOf [] 0)
  have lt2 : ∀ p ∈ (h.objs.size, dictOf [] 0) :: nw, p.1 < (h.push (dictOf [] 0)).objs.size := fun p hp => c1.lt hp
  generalize hT : (h.push (dictOf [] 0)).objs.size = T at lt2 c2
  generalize hDD : h.objs.size = D at lt hne c1 lt2 c2
  show wpAny _ _ _ _ _ (S Γ ((h.push (dictOf [] 0)).push (dictOf [] 0)) t)
  refine wpAny_bind ?_
  have turn : (forIn (([] ++ [(n, y)] : List (Str × Sem Value)).zip [v]) PUnit.unit fun (x : (Str × Sem Value) × Value) (_ : PUnit) => (nsSet T x.1.1 x.2 >>= fun _ => pure (ForInStep.yield PUnit.unit) : Sem (ForInStep PUnit))) = forIn [(n, v)] PUnit.unit fun (x : Str × Value) (_ : PUnit) => (nsSet T x.1 x.2 >>= fun _ => pure (ForInStep.yield PUnit.unit)) := by simp
  rw [turn]
  have hnT : ∀ p ∈ (D, dictOf [] 0) :: nw, p.1 ≠ T := fun p hp e => absurd (lt2 p hp) (by rw [e]; exact Nat.lt_irrefl _)
  refine kp_fill (s := S Γ ((h.push (dictOf [] 0)).push (dictOf [] 0)) t) [(n, v)] [] 0 c2.F c2.N hnT (fun _ he => nomatch he) (fun _ he => nomatch he) (by simp) fun h₃ F₃ N₃ => ?_
  have hoT : (dictOf ([] ++ kwEs Γ.w.params t [(n, v)]) (0 + 1)).IsDictOf (PySem.strKind PG Γ.w) [(n, v)] := kp_isDict t _ (by simp)
  have c3 : Fx Γ A env outer h₀ L h₃ l ((T, dictOf ([] ++ kwEs Γ.w.params t [(n, v)]) (0 + 1)) :: (D, dictOf [] 0) :: nw) := c1.ofCons (.head _) F₃ N₃ lt2
  clear F₃ N₃
  generalize dictOf ([] ++ kwEs Γ.w.params t [(n, v)]) (0 + 1) = oT at hoT c3
  show wpAny _ _ _ _ _ (S Γ h₃ (t + 1))
  have hD : Heap.DictOf (PySem.strKind PG Γ.w) h₃ D [] := mem_news c3 (.tail _ (.head _)) ⟨_, _, ⟨rfl, rfl, rfl⟩, rfl, (fun _ e => by simp at e), .nil, .nil⟩
  have hDT : D < T := lt2 _ (.head _)
  refine wpAny_onRaise (wpAny_holding (wpAny_tryCatch (wpAny_onRaise ?_)))
  refine xmerge (s := S Γ h₃ (t + 1)) hD (mem_news c3 (.head _) hoT) (c3.low (.head _)) (.inr ⟨n, v, rfl, fun _ e => nomatch e⟩) (Nat.zero_le _) (fun e => absurd hDT (by rw [e]; exact Nat.lt_irrefl _)) fun h4 hD4 sb4 => ?_
  obtain ⟨oD, hoD, hi⟩ := Heap.dictOf_iff.mp hD4
  have c4 := c3.upd (.tail _ (.head _)) sb4 hoD
  have e4 : put ((T, oT) :: (D, dictOf [] 0) :: nw) D oD = (T, oT) :: (D, oD) :: nw := by
    have := put_cons (o := dictOf [] 0) (o' := oD) lt
    unfold put at this ⊢
    rw [List.map_cons, this, if_neg (fun e => absurd hDT (by rw [show T = D from e]; exact Nat.lt_irrefl _))]
  rw [e4] at c4
  refine wpAny_bind (hx c4 ?_)
  refine wpAny_bind (wpAny_onRaise (wpAny_holding (wpAny_tryCatch (wpAny_onRaise ?_))))
  refine xmerge (s := S Γ h4 (t + 1)) (mem_news c4 (.tail _ (.head _)) hi) (mem_news c4 (.tail _ (.tail _ hm)) ho) (c.low hm) (.inl rfl) (by simp) hne fun h5 hD5 sb5 => ?_
  obtain ⟨oD5, hoD5, hi5⟩ := Heap.dictOf_iff.mp hD5
  have c5 := c4.upd (.tail _ (.head _)) sb5 hoD5
  have e5 : put ((T, oT) :: (D, oD) :: nw) D oD5 = (T, oT) :: (D, oD5) :: nw := by
    have := put_cons (o := oD) (o' := oD5) lt
    unfold put at this ⊢
    rw [List.map_cons, this, if_neg (fun e => absurd hDT (by rw [show T = D from e]; exact Nat.lt_irrefl _))]
  rw [e5] at c5
  refine wpAny_pure (wpAny_pure (wpAny_pure (wpAny_pure ?_)))
  exact q h5 _ D _ T _ c5 lt hDT hi5
end

theorem super_getAttr {prog : Program} {w : World} {A : Around} {E : Value → Shared → Prop} {h : Heap} {g : Array GenState} {d : Drawn} {t : Nat} {os : OsState} {so D x C f : Addr} {of : Obj} {l₀ l : List Value} {K : Frag} {name : Str} {Q : Value → Shared → Prop}
    (hso : h.get? so = some { cls := .type "super", dict := none, data := .fields #[.ref D, .ref x, .ref C], slots := #[] }) (hno : Looks (model prog w) h (opaqueClassAbove (.ref C)) none)
    (hC : Looks (model prog w) h (mroOf (.ref C)) l₀) (hl : (l₀.dropWhile (· != .ref D)).drop 1 = l) (X : K.In h)
    (hf : alongIn K name l = some (some (.ref f))) (hfo : h.get? f = some of) (hfc : of.cls = .type "function") (hxC : x ≠ C) (hn : (name == ("__class__" : Str)) = false)
    (hq : Q (.ref h.objs.size) ⟨h.push { cls := .type "method", data := .fields #[.ref f, .ref x] }, g, d, t + 1, os⟩) :
    wpAny (model prog w) A (getAttr (.ref so) name true) Q E ⟨h, g, d, t, os⟩ := by
  have hlk := F.ks_slot_super_ga.lookup
  have hT : ∀ t', (⟨h, g, d, t', os⟩ : Shared).TypeIs (.ref so) "super" := fun _ => ⟨_, hso, rfl⟩
  unfold getAttr getAttrBy
  refine wpAny_bind (wpAny_mkText (wpAny_holding (wpAny_bind (wpAny_typeOf (hT _) (wpAny_bind (wpAny_of_eq hlk ?_))))))
  show wpAny _ _ (getAttrByItsOwn (.ref so) (.str name t) (.type "super") (.builtin "super.__getattribute__") true true) _ _ _
  unfold getAttrByItsOwn hookBefore callGetattribute boundAndCalled
  refine wpAny_bind (wpAny_of_eq (show (if onTheHeap (.type "super") then typeLookup (.type "super") "__getattr__" else pure none) = pure none from rfl) ?_)
  refine wpAny_bind (wpAny_attempt (wpAny_holding ?_))
  show wpAny _ _ (bindSpecial (.builtin "super.__getattribute__") (.ref so) >>= _) _ _ _
  refine wpAny_bind (wpAny_of_eq (F.ks_slot_super_ga.bind _) ?_)
  refine wpAny_mono (Q := fun v s' => v = .ref h.objs.size ∧ s' = ⟨h.push { cls := .type "method", data := .fields #[.ref f, .ref x] }, g, d, t + 1, os⟩) (E := fun _ _ => False)
    (wpAny_call_entry F.ks_slot_super_ga (hT _) F.ks_entry_super_ga (ks_wpAny_super_ga hso hno hC hl X hf hfo hfc hxC hn ⟨_, rfl, rfl, rfl⟩) (F.ks_gaArgs_super _ _)) (fun v s' hv => ?_) fun _ _ z => z.elim
  obtain ⟨rfl, rfl⟩ := hv
  exact wpAny_pure hq
section
variable {Γ : Gm} {A : Around} {env : Env} {outer : List Env} {h₀ : Heap} {L : Addr} {h h' : Heap} {l l' : Loc} {nw : Led} {t : Nat} {E : Value → Shared → Prop} {pos : Pos}
theorem xsuperA (c : Fx Γ A env outer h₀ L h l nw) {so x C D f2 : Addr} {od : Obj} {dx : Addr} {sl : List (Option Value)} {name : Str} {Q : Value → Shared → Prop} (hso : (so, ks_superObj D x C) ∈ nw) (hx : (x, inO C dx sl) ∈ nw) (hd : (dx, od) ∈ nw)
    (ho : nsIn (KK Γ.w) cStatics (Str.ofString "thirdparty.any") = some none) (hm : ks_superIn (KK Γ.w) C D name = some (some (.ref f2))) (ht : typeIn (KK Γ.w) (.ref f2) = some (.type "function")) (hn : (name == ("__class__" : Str)) = false)
    (q : ∀ b h' t', Fx Γ A env outer h₀ L h' l ((b, methodObj (.ref f2) (.ref x)) :: nw) → Q (.ref b) (S Γ h' t')) : wpAny (model PG Γ.w) A (getAttr (.ref so) name true) Q E (S Γ h t) := by
  have X : (KK Γ.w).In h := c.XI
  have I := InstAt.of_news c.N hx hd
  cases hc : clsIn (KK Γ.w) C with
  | none => unfold ks_superIn at hm; rw [hc] at hm; cases hm
  | some cd =>
    unfold ks_superIn at hm
    rw [hc] at hm
    obtain ⟨of, hof, hofc⟩ : ∃ of, h.get? f2 = some of ∧ of.cls = .type "function" := by
      have ht' : ((KK Γ.w).lookup f2).map (·.cls) = some (.type "function") := ht
      cases z : (KK Γ.w).lookup f2 with
      | none => rw [z] at ht'; cases ht'
      | some of => rw [z] at ht'; exact ⟨of, X _ _ z, Option.some.inj ht'⟩
    refine super_getAttr (c.N _ hso).1 (looks_opaque X ho) (l₀ := cd.mro) ?_ rfl X hm hof hofc (ks_ne X I hc) hn ?_
    · exact fun A Q E s k q => wpAny_bind ((looks_clsIn X hc) A _ E s k (wpAny_pure q))
    · exact q _ _ _ (c.push (methodObj (.ref f2) (.ref x)))
theorem wpAt_MethodCallS {M : Model} {c : Code} {s : Shared} {o : Expr} {name : Str} {apos pos : Pos} {args : List Expr} {kws : List Keyword} {Q : Value → Shared → Prop}
    (h : _root_.PySem.wpAt M A c (attributeBase o name env (eval o env)) (fun ov s₁ => wpAny M A (getAttr ov name true) (fun f s₂ => wpAny M A (callWith pos f [] (backTo pos (starEach args env)) (backToKw pos (keywordEach kws env))) Q E s₂) E s₁) E s)
    (he : eval (.Call (.Attribute o name apos) args kws pos) env = (do
      let ov ← attributeBase o name env (eval o env)
      standAt apos.atName
      let (f, first) ← holding [ov] (do pure (← getAttr ov name true, []))
      callWith pos f first (backTo pos (starEach args env)) (backToKw pos (keywordEach kws env))) := by rfl) :
    _root_.PySem.wpAt M A c (eval (.Call (.Attribute o name apos) args kws pos) env) Q E s := by
  rw [he]
  exact _root_.PySem.wpAt_bind (ks_wpAt_mono h (fun ov s₁ h₁ => _root_.PySem.wpAt_of_wpAny (wpAny_bind (wpAny_standAt (wpAny_bind (wpAny_holding (wpAny_bind (wpAny_mono h₁ (fun fx s₂ h₂ => wpAny_pure h₂) fun _ _ x => x))))))) fun _ _ x => x)
end


section
variable {Γ : Gm} {A : Around} {env : Env} {outer : List Env} {h₀ : Heap} {L : Addr} {h h' : Heap} {l l' : Loc} {nw : Led} {t : Nat} {E : Value → Shared → Prop} {pos : Pos}
set_option maxRecDepth 100000 in
set_option maxHeartbeats 8000000 in
theorem look_init {x dx a : Nat} {od : Obj} {nm : Str} {tn : Tok} {b : Bool} {R : Value → Shared → Prop} {n : Nat}
   (c : Fx Γ A env outer h₀ L h l nw) (r : Room A (n + 3)) (hx : (x, inO 458 dx []) ∈ nw) (hd : (dx, od) ∈ nw) (hne : dx ≠ x)
   (q : ∀ h' t' id T nw', Fx Γ A env outer h₀ L h' l nw' → Keep (· = x) nw nw' → (x, inO 458 dx [some (.bool b), some (.ref T), some (.ref id), some (.str nm tn)]) ∈ nw' → IsQ "tuple" nw' T [.ref a] → R .none (S Γ h' t')) :
   codeAny (model PG Γ.w) A (.call (.ref 440) ⟨[.ref x, .ref a], [("negative", .bool b), ("name", .str nm tn)]⟩) (RV R E) (S Γ h t) := by
  refine enterS (args := ⟨[.ref x, .ref a], [("negative", .bool b), ("name", .str nm tn)]⟩) c (n + 2) r rfl (by rfl) ?_ rfl rfl rfl (by decide)
  refine bind_more (ex := ([("name", .str nm tn)] : List (Str × Value))) (front := ([("self", .ref x), ("member", .ref a), ("negative", .bool b)] : List (Str × Value))) c hx (by rfl) (by rfl) (fun D => by rfl) fun D o h1 t1 c1 ho l1 => ?_
  refine ⟨h1, t1, _, [("self", some (.ref x)), ("member", some (.ref a)), ("negative", some (.bool b)), ("kwargs", some (.ref D))], [], rfl, c1, rfl, rfl, by rfl, fun A' env' g L' h₁ t' Q he c' r' back => ?_⟩
  refine ks_wpAt_execs_cons ?_
  refine ks_wpAt_Expr_any ?_ (inter he rfl) rfl
  refine wpAt_MethodCallS ?_
  refine xsuper he c' (.tail _ hx) (.tail _ hd) rfl rfl LkR.hd rfl rfl (by rfl) rfl rfl (by rfl) (by rfl) rfl rfl rfl rfl (by rfl) fun so h2 c2 => ?_
  refine xsuperA c2 (List.Mem.head _) (.tail _ (.tail _ hx)) (.tail _ (.tail _ hd)) (st_any _) (f2 := 356) (by rfl) (by rfl) (by rfl) fun bm h3 t3 c3 => ?_
  refine callWith_star rfl (evalArgs_star rfl ?_)
  walk_at "m:go"
  refine xmerged1 c3 (.tail _ (.tail _ (.head _))) ho (.inr ⟨_, _, rfl⟩) (fun cc q => ?_) fun h4 t4 D2 oD2 c4 l4 hi4 => ?_
  · refine wpAny_bind (xlocal cc (by walk_at "m:lk") (by walk_at "m:kd") (wpAny_bind (wpAny_standAt (wpAny_pure q))))
  refine xkwIn (mem_news c4 (.head _) hi4) (.inr ⟨_, _, rfl⟩) ?_
  refine ⟨kp_m c4 (.tail _ (.head _)) (fi_356 _), ?_⟩
  refine xcallM c4 (.tail _ (.head _)) ?_
  refine comp_init c4 r' (.tail _ (.tail _ (.tail _ (.tail _ hx)))) (.tail _ (.tail _ (.tail _ (.tail _ hd)))) hne (.inl ⟨a, rfl⟩) (by rfl) (by rfl) (sg_458_name _) (sg_458_identity_tuple _) (sg_458_members _) fun h5 t5 id T nw5 c5 k5 hx5 hT5 => ?_
  have hd5 : (dx, od) ∈ nw5 := k5 _ (.tail _ (.tail _ (.tail _ (.tail _ hd)))) hne
  refine _root_.PySem.wpAt_of_wpAny ?_
  walk_at "m:go"
  refine call_bool_bool ?_
  walk_at "m:go"
  refine xsetSlot c5 hx5 hd5 (sg_458_negativity _) rfl fun h6 t6 c6 => ?_
  walk_at "m:go"
  have hTx : T ≠ x := fun e => by
    obtain ⟨_, n, m⟩ := hT5
    have := c5.uniq (by rw [e] at m; exact m) hx5
    cases this
  refine (back _ _ ⟨_, _, c6, fun cc => q _ _ id T _ cc (((((Keep.cons.trans Keep.cons).trans Keep.cons).trans Keep.cons).trans k5).trans Keep.put) (mem_put_self hx5) (hT5.keep Keep.put hTx)⟩).2 rfl
end


/-- what a quantifier keeps as its `max` -/
def MaxV (v : Value) (most : Option Nat) : Prop := (most = none ∧ v = .float 9218868437227405312 809) ∨ ∃ (m : Nat) (t : Tok), most = some m ∧ v = .int m t
section
variable {Γ : Gm} {A : Around} {env : Env} {outer : List Env} {h₀ : Heap} {L : Addr} {h h' : Heap} {l l' : Loc} {nw : Led} {t : Nat} {E : Value → Shared → Prop} {pos : Pos}
theorem via_more {fd : FuncData} {args : Args} {ex front : List (Str × Value)} {nm : Str} {Q : List (Str × Value) → Shared → Prop} (c : Fx Γ A env outer h₀ L h l nw)
    (q : ∀ D o h' t', Fx Γ A env outer h₀ L h' l ((D, o) :: nw) → o.IsDictOf (strKind PG Γ.w) ex → (∀ p ∈ nw, p.1 < D) → Q (front ++ [(nm, Value.ref D)]) (S Γ h' t'))
    (k : (∀ D o h' t', Fx Γ A env outer h₀ L h' l ((D, o) :: nw) → o.IsDictOf (strKind PG Γ.w) ex → (∀ p ∈ nw, p.1 < D) → Q (front ++ [(nm, Value.ref D)]) (S Γ h' t')) → wpAny (model PG Γ.w) A.in1 (bindArgs fd args) Q E (S Γ h t)) :
    wpAny (model PG Γ.w) A.in1 (bindArgs fd args) Q E (S Γ h t) := k q
set_option maxRecDepth 100000 in
set_option maxHeartbeats 8000000 in
theorem quant_init {x dx a : Nat} {od : Obj} {nm : Str} {tn tm : Tok} {least : Nat} {mv : Value} {kw : List (Str × Value)} {R : Value → Shared → Prop} {n : Nat}
   (c : Fx Γ A env outer h₀ L h l nw) (r : Room A (n + 3)) (hx : (x, inO 497 dx []) ∈ nw) (hd : (dx, od) ∈ nw) (hne : dx ≠ x)
   (hkw : (kw = ([("min", .int least tm), ("name", .str nm tn)] : List (Str × Value)) ∧ mv = .float 9218868437227405312 809) ∨ kw = ([("min", .int least tm), ("max", mv), ("name", .str nm tn)] : List (Str × Value)))
   (q : ∀ h' t' id T nw', Fx Γ A env outer h₀ L h' l nw' → Keep (· = x) nw nw' → (x, inO 497 dx [some mv, some (.int least tm), some (.ref T), some (.ref id), some (.str nm tn)]) ∈ nw' → IsQ "tuple" nw' T [.ref a] → R .none (S Γ h' t')) :
   codeAny (model PG Γ.w) A (.call (.ref 479) ⟨[.ref x, .ref a], kw⟩) (RV R E) (S Γ h t) := by
  refine enterS (args := ⟨[.ref x, .ref a], kw⟩) c (n + 2) r rfl (by rfl) ?_ rfl rfl rfl (by decide)
  refine via_more (c := c) (ex := ([] : List (Str × Value))) (front := ([("self", .ref x), ("member", .ref a), ("min", .int least tm), ("max", mv), ("name", .str nm tn)] : List (Str × Value))) (nm := "kwargs") (fun D o h1 t1 c1 ho l1 => ?_) fun q => ?_
  rotate_left
  · rcases hkw with ⟨rfl, rfl⟩ | rfl
    · exact bind_more (ex := ([] : List (Str × Value))) (front := ([("self", .ref x), ("member", .ref a), ("min", .int least tm), ("max", .float 9218868437227405312 809), ("name", .str nm tn)] : List (Str × Value))) c hx (by rfl) (by rfl) (fun D => by rfl) q
    · exact bind_more (ex := ([] : List (Str × Value))) (front := ([("self", .ref x), ("member", .ref a), ("min", .int least tm), ("max", mv), ("name", .str nm tn)] : List (Str × Value))) c hx (by rfl) (by rfl) (fun D => by rfl) q
  refine ⟨h1, t1, _, [("self", some (.ref x)), ("member", some (.ref a)), ("min", some (.int least tm)), ("max", some mv), ("name", some (.str nm tn)), ("kwargs", some (.ref D))], [], rfl, c1, rfl, rfl, by rfl, fun A' env' g L' h₁ t' Q he c' r' back => ?_⟩
  refine ks_wpAt_execs_cons ?_
  refine ks_wpAt_Expr_any ?_ (inter he rfl) rfl
  refine wpAt_MethodCallS ?_
  refine xsuper he c' (.tail _ hx) (.tail _ hd) rfl rfl LkR.hd rfl rfl (by rfl) rfl rfl (by rfl) (by rfl) rfl rfl rfl rfl (by rfl) fun so h2 c2 => ?_
  refine xsuperA c2 (List.Mem.head _) (.tail _ (.tail _ hx)) (.tail _ (.tail _ hd)) (st_any _) (f2 := 356) (by rfl) (by rfl) (by rfl) fun bm h3 t3 c3 => ?_
  refine callWith_star rfl (evalArgs_star rfl ?_)
  walk_at "m:go"
  refine xmerged2 (v := .str nm tn) c3 (.tail _ (.tail _ (.head _))) ho (fun cc q => ?_) (fun cc q => ?_) fun h4 t4 D2 oD2 T2 oT2 c4 l4 l42 hi4 => ?_
  · refine wpAny_bind (xlocal cc (by walk_at "m:lk") (by walk_at "m:kd") (wpAny_bind (wpAny_standAt (wpAny_pure q))))
  · refine wpAny_bind (xlocal cc (by walk_at "m:lk") (by walk_at "m:kd") (wpAny_bind (wpAny_standAt (wpAny_pure q))))
  refine xkwIn (mem_news c4 (.tail _ (.head _)) hi4) (.inr ⟨_, _, rfl⟩) ?_
  refine ⟨kp_m c4 (.tail _ (.tail _ (.head _))) (fi_356 _), ?_⟩
  refine xcallM c4 (.tail _ (.tail _ (.head _))) ?_
  refine comp_init c4 r' (.tail _ (.tail _ (.tail _ (.tail _ (.tail _ hx))))) (.tail _ (.tail _ (.tail _ (.tail _ (.tail _ hd))))) hne (.inl ⟨a, rfl⟩) (by rfl) (by rfl) (sg_497_name _) (sg_497_identity_tuple _) (sg_497_members _) fun h5 t5 id T nw5 c5 k5 hx5 hT5 => ?_
  have hd5 : (dx, od) ∈ nw5 := k5 _ (.tail _ (.tail _ (.tail _ (.tail _ (.tail _ hd))))) hne
  have hTx : T ≠ x := fun e => by
    obtain ⟨_, n, m⟩ := hT5
    have := c5.uniq (by rw [e] at m; exact m) hx5
    cases this
  refine _root_.PySem.wpAt_of_wpAny ?_
  walk_at "m:go"
  refine xsetSlot c5 hx5 hd5 (sg_497_min _) rfl fun h6 t6 c6 => ?_
  have hx6 := mem_put_self (o' := inO 497 dx [none, some (.int least tm), some (.ref T), some (.ref id), some (.str nm tn)]) hx5
  have hd6 : (dx, od) ∈ put nw5 x (inO 497 dx [none, some (.int least tm), some (.ref T), some (.ref id), some (.str nm tn)]) := mem_put_ne hd5 hne
  walk_at "m:go"
  refine xsetSlot c6 hx6 hd6 (sg_497_max _) rfl fun h7 t7 c7 => ?_
  walk_at "m:go"
  refine (back _ _ ⟨_, _, c7, fun cc => q _ _ id T _ cc (((((((Keep.cons.trans Keep.cons).trans Keep.cons).trans Keep.cons).trans Keep.cons).trans k5).trans Keep.put).trans Keep.put) (mem_put_self hx6) ((hT5.keep Keep.put hTx).keep Keep.put hTx)⟩).2 rfl
end


section
variable {Γ : Gm} {A : Around} {env : Env} {outer : List Env} {h₀ : Heap} {L : Addr} {h h' : Heap} {l l' : Loc} {nw : Led} {t : Nat} {E : Value → Shared → Prop} {pos : Pos}
theorem xunpack (c : Fx Γ A env outer h₀ L h l nw) {elts : List Expr} {k} {a : Addr} {xs : List Value} {Q : Unit → Shared → Prop} (m : IsW "tuple" nw a xs) (hn : (assignEach elts env).length = xs.length) (hstar : (assignEach elts env).findIdx? (·.1) = none)
    (q : ∀ h', Fx Γ A env outer h₀ L h' l nw → wpAny (model PG Γ.w) A (assignInOrder ((assignEach elts env).map (·.2)) xs) Q E (S Γ h' t)) :
    wpAny (model PG Γ.w) A (assign (.Tuple elts k pos) env (.ref a)) Q E (S Γ h t) :=
  unpackN_ c.F c.N (m.isTup c) c.hh (by rw [hn]; simp) hstar fun h' F' N' => q h' { c with F := F', N := N' }
theorem xCallK {M : Model} {s : Shared} {id : Str} {np : Pos} {args : List Expr} {kws : List Keyword} {Q : Value → Shared → Prop}
    (hq : wpAny M A (eval (.Name id np) env) (fun f s₁ => wpAny M A (callWith pos f [] (backTo pos (starEach args env)) (backToKw pos (keywordEach kws env))) Q E s₁) E s)
    (he : eval (.Call (.Name id np) args kws pos) env = (do callWith pos (← eval (.Name id np) env) [] (backTo pos (starEach args env)) (backToKw pos (keywordEach kws env))) := by rfl) :
    wpAny M A (eval (.Call (.Name id np) args kws pos) env) Q E s := by
  rw [he]; exact wpAny_bind hq
theorem xkw_cons {M : Model} {s : Shared} {n : Option Str} {e : Expr} {p : Pos} {kws : List Keyword} {Q : List Value → Shared → Prop}
    (hq : wpAny M A (eval e env) (fun v s₁ => wpAny M A (evalAll ((backToKw pos (keywordEach kws env)).map (·.2))) (fun vs s₂ => Q (v :: vs) s₂) E s₁) E s) :
    wpAny M A (evalAll ((backToKw pos (keywordEach (⟨n, e, p⟩ :: kws) env)).map (·.2))) Q E s := by
  show wpAny M A (evalAll ((do let v ← eval e env; standAt pos; pure v) :: _)) Q E s
  exact wpAny_evalAll_cons (wpAny_bind (wpAny_mono hq (fun v s₁ h₁ => wpAny_bind (wpAny_standAt (wpAny_pure h₁))) fun _ _ x => x))
theorem xkw_nil {M : Model} {s : Shared} {Q : List Value → Shared → Prop} (hq : Q [] s) : wpAny M A (evalAll ((backToKw pos (keywordEach [] env)).map (·.2))) Q E s := wpAny_evalAll_nil hq
end


local macro_rules | `(tactic| walk_at "m:s") => `(tactic| first
  | ((with_reducible show wpAny _ _ (exec (PySem.Stmt.Assign [PySem.Expr.Tuple _ _ _] _ _) _) _ _ _); refine Assign_Tuple ?_)
  | ((with_reducible show wpAny _ _ (assignInOrder _ (_ :: _)) _ _ _); refine assignInOrder_cons ?_)
  | ((with_reducible show wpAny _ _ (assignInOrder _ []) _ _ _); refine assignInOrder_nil ?_)
  | ((with_reducible show wpAny _ _ (assign (PySem.Expr.Name _ _) _ _) _ _ _); refine wpAny_assign_Name ?_)
  | ((with_reducible show wpAny _ _ (eval (PySem.Expr.Call (PySem.Expr.Name _ _) _ (_ :: _) _) _) _ _ _); refine xCallK ?_)
  | ((with_reducible show wpAny _ _ (callWith _ _ _ (backTo _ (starEach (_ :: _) _)) (backToKw _ (keywordEach (_ :: _) _))) _ _ _); refine xcallK (by rfl) ?_)
  | ((with_reducible show wpAny _ _ (evalAll (List.map _ (backToKw _ (keywordEach (_ :: _) _)))) _ _ _); refine xkw_cons ?_)
  | ((with_reducible show wpAny _ _ (evalAll (List.map _ (backToKw _ (keywordEach [] _)))) _ _ _); refine xkw_nil ?_))
local macro_rules | `(tactic| walk_at "m:yes") => `(tactic| rw [if_pos (by rfl)])
local macro_rules | `(tactic| walk_at "m:no") => `(tactic| rw [if_neg (Bool.eq_false_iff.mp (by rfl))])


/-- an expression as it was built: all but its own dict -/
def IsExpr (nw : Led) (rs : Nat → Addr) (nm : Str) (e dx : Addr) : Plan → Prop
  | .word lit => ∃ id t1 t2, (e, inO 336 dx [some (.str lit t1), some (.ref id), some (.str nm t2)]) ∈ nw
  | .chain a b => ∃ T id t, (e, inO 394 dx [some (.ref T), some (.ref id), some (.str nm t)]) ∈ nw ∧ IsQ "tuple" nw T [.ref (rs a), .ref (rs b)]
  | .choice a b => ∃ T id t, (e, inO 420 dx [some (.ref T), some (.ref id), some (.str nm t)]) ∈ nw ∧ IsQ "tuple" nw T [.ref (rs a), .ref (rs b)]
  | .look neg a => ∃ T id t, (e, inO 458 dx [some (.bool neg), some (.ref T), some (.ref id), some (.str nm t)]) ∈ nw ∧ IsQ "tuple" nw T [.ref (rs a)]
  | .many a least most => ∃ mv T id t t', (e, inO 497 dx [some mv, some (.int least t'), some (.ref T), some (.ref id), some (.str nm t)]) ∈ nw ∧ MaxV mv most ∧ IsQ "tuple" nw T [.ref (rs a)]
section
variable {Γ : Gm} {A : Around} {env : Env} {outer : List Env} {h₀ : Heap} {L : Addr} {h h' : Heap} {l l' : Loc} {nw : Led} {t : Nat} {E : Value → Shared → Prop} {pos : Pos}
set_option maxRecDepth 100000 in
set_option maxHeartbeats 8000000 in
theorem built_ok {v : Value} {p : Plan} {k : Nat} {ra : Addr} {vs : List Value} {rs : Nat → Addr} {nm : Str} {tn : Tok} {R : Value → Shared → Prop} {n : Nat}
   (c : Fx Γ A env outer h₀ L h l nw) (r : Room A (n + 6)) (hp : IsPlan nw v p) (ok : p.ok k) (hr : IsW "list" nw ra vs) (hvs : ∀ j, j < k → vs[j]? = some (.ref (rs j)))
   (q : ∀ h' t' e dx nw', Fx Γ A env outer h₀ L h' l nw' → Keep (fun _ => False) nw nw' → IsExpr nw' rs nm e dx p → (dx, dictOf [] 0) ∈ nw' → dx < e → (∀ q ∈ nw, q.1 < dx) → R (.ref e) (S Γ h' t')) :
   wpAny (model PG Γ.w) A (call (.ref 529) [v, .ref ra, .str nm tn] []) R E (S Γ h t) := by
  obtain ⟨pa, t1, t2, t3, t4, t5, rfl, hp⟩ := hp
  refine enter0 (args := ⟨[.ref pa, .ref ra, .str nm tn], []⟩) (binds := [("plan", .ref pa), ("rows", .ref ra), ("name", .str nm tn)]) ["kind", "one", "two", "more", "most"] [("plan", some (.ref pa)), ("rows", some (.ref ra)), ("name", some (.str nm tn)), ("kind", none), ("one", none), ("two", none), ("more", none), ("most", none)] c (n+5) r rfl (by rfl) (BindsTo.of_eq rfl) rfl rfl (by rfl) ?_ rfl rfl rfl (by decide)
  intro A' env' g L' h₁ t' Q he c' r' back
  walk_at "m:go"
  refine xunpack c' hp.w (by rfl) (by rfl) fun h2 c2 => ?_
  walk_at "m:go"
  rename Fx _ _ _ _ _ _ _ _ _ => c3
  have key : ∀ (x dx : Addr) (o0 : Obj) (h4 : Heap) (t4 : Nat) (l4 : Loc) (nw4 : Led) (A4 : Around), Fx Γ A4 env' (env :: outer) g L' h4 l4 nw4 → (∀ {h2 l2 nw2}, Fx Γ A4 env' (env :: outer) g L' h2 l2 nw2 → Fx Γ A' env' (env :: outer) g L' h2 l2 nw2) →
      Keep (· = x) ((x, o0) :: (dx, dictOf [] 0) :: nw) nw4 → dx < x → (∀ p ∈ nw, p.1 < dx) → IsExpr nw4 rs nm x dx p → Q (.ret (.ref x)) (S Γ h4 t4) := fun x dx o0 h4 t4 l4 nw4 A4 c4 back4 k4 lt lt' ie => by
    refine (back _ _ ⟨_, _, back4 c4, fun cc => q _ _ x dx _ cc (fun p hp _ => ?_) ie ?_ lt lt'⟩).1
    · exact k4 _ (.tail _ (.tail _ hp)) (fun e => absurd (Nat.lt_trans (lt' _ hp) lt) (by rw [e]; exact Nat.lt_irrefl _))
    · exact k4 _ (.tail _ (.head _)) (fun e => absurd lt (by rw [show dx = x from e]; exact Nat.lt_irrefl _))
  obtain ⟨_, _, m0⟩ := hp
  cases p with
  | word lit =>
    walk_at "m:yes"
    walk_at "m:go"
    refine xmake c3 (n := n + 4) r' m0 (mk_336 _) (in_336 _) (fn_318 _) fun x dx h4 A4 c4 r4 lt lt' back4 => ?_
    refine lit_init c4 (r4.mono (by omega) : Room A4 (n + 2)) (.head _) (.tail _ (.head _)) (Nat.ne_of_lt lt) fun h5 t5 id nw5 c5 k5 hx5 => ⟨rfl, ?_⟩
    exact key x dx _ _ _ _ _ _ c5 back4 k5 lt lt' ⟨_, _, _, hx5⟩
  | chain a b =>
    walk_at "m:no"
    walk_at "m:go"
    walk_at "m:yes"
    walk_at "m:go"
    refine xitem c3 hr (Int.natCast_nonneg _) (hvs _ ok.1) ?_
    walk_at "m:go"
    refine xitem c3 hr (Int.natCast_nonneg _) (hvs _ ok.2) ?_
    walk_at "m:go"
    refine xmake c3 (n := n + 4) r' m0 (mk_394 _) (in_394 _) (fn_356 _) fun x dx h4 A4 c4 r4 lt lt' back4 => ?_
    refine comp_init c4 (r4.mono (by omega) : Room A4 (n + 2)) (.head _) (.tail _ (.head _)) (Nat.ne_of_lt lt) (.inr ⟨_, _, rfl⟩) (by rfl) (by rfl) (sg_394_name _) (sg_394_identity_tuple _) (sg_394_members _) fun h5 t5 id T nw5 c5 k5 hx5 hT5 => ⟨rfl, ?_⟩
    exact key x dx _ _ _ _ _ _ c5 back4 k5 lt lt' ⟨_, _, _, hx5, hT5⟩
  | choice a b =>
    walk_at "m:no"
    walk_at "m:go"
    walk_at "m:no"
    walk_at "m:go"
    walk_at "m:yes"
    walk_at "m:go"
    refine xitem c3 hr (Int.natCast_nonneg _) (hvs _ ok.1) ?_
    walk_at "m:go"
    refine xitem c3 hr (Int.natCast_nonneg _) (hvs _ ok.2) ?_
    walk_at "m:go"
    refine xmake c3 (n := n + 4) r' m0 (mk_420 _) (in_420 _) (fn_356 _) fun x dx h4 A4 c4 r4 lt lt' back4 => ?_
    refine comp_init c4 (r4.mono (by omega) : Room A4 (n + 2)) (.head _) (.tail _ (.head _)) (Nat.ne_of_lt lt) (.inr ⟨_, _, rfl⟩) (by rfl) (by rfl) (sg_420_name _) (sg_420_identity_tuple _) (sg_420_members _) fun h5 t5 id T nw5 c5 k5 hx5 hT5 => ⟨rfl, ?_⟩
    exact key x dx _ _ _ _ _ _ c5 back4 k5 lt lt' ⟨_, _, _, hx5, hT5⟩
  | look neg a =>
    have k1 : ((Plan.look neg a).kind == Str.ofString "word") = false := by cases neg <;> rfl
    have k2 : ((Plan.look neg a).kind == Str.ofString "chain") = false := by cases neg <;> rfl
    have k3 : ((Plan.look neg a).kind == Str.ofString "choice") = false := by cases neg <;> rfl
    have k4 : ((Plan.look neg a).kind == Str.ofString "many") = false := by cases neg <;> rfl
    have k5 : ((Plan.look neg a).kind == Str.ofString "unseen") = neg := by cases neg <;> rfl
    rw [if_neg (Bool.eq_false_iff.mp k1)]
    walk_at "m:go"
    rw [if_neg (Bool.eq_false_iff.mp k2)]
    walk_at "m:go"
    rw [if_neg (Bool.eq_false_iff.mp k3)]
    walk_at "m:go"
    rw [if_neg (Bool.eq_false_iff.mp k4)]
    rw [if_neg (by decide)]
    walk_at "m:go"
    rw [if_neg (Bool.eq_false_iff.mp k4)]
    walk_at "m:go"
    refine xitem c3 hr (Int.natCast_nonneg _) (hvs _ ok) ?_
    walk_at "m:go"
    refine xmake c3 (n := n + 4) r' m0 (mk_458 _) (in_458 _) (fn_440 _) fun x dx h4 A4 c4 r4 lt lt' back4 => ?_
    refine look_init c4 (r4.mono (by omega) : Room A4 (n + 3)) (.head _) (.tail _ (.head _)) (Nat.ne_of_lt lt) fun h5 t5 id T nw5 c5 k5' hx5 hT5 => ⟨rfl, ?_⟩
    rw [k5] at hx5
    exact key x dx _ _ _ _ _ _ c5 back4 k5' lt lt' ⟨_, _, _, hx5, hT5⟩
  | many a least most =>
    walk_at "m:no"
    walk_at "m:go"
    walk_at "m:no"
    walk_at "m:go"
    walk_at "m:no"
    walk_at "m:go"
    walk_at "m:yes"
    walk_at "m:go"
    obtain ⟨oa, ol, om⟩ := ok
    cases most with
    | none =>
      rw [if_pos (by rfl)]
      walk_at "m:go"
      rw [if_pos rfl]
      walk_at "m:go"
      refine xitem c3 hr (Int.natCast_nonneg _) (hvs _ oa) ?_
      walk_at "m:go"
      refine xmake c3 (n := n + 4) r' m0 (mk_497 _) (in_497 _) (fn_479 _) fun x dx h4 A4 c4 r4 lt lt' back4 => ?_
      refine quant_init c4 (r4.mono (by omega) : Room A4 (n + 3)) (.head _) (.tail _ (.head _)) (Nat.ne_of_lt lt) (.inl ⟨rfl, rfl⟩) fun h5 t5 id T nw5 c5 k5' hx5 hT5 => ⟨rfl, ?_⟩
      exact key x dx _ _ _ _ _ _ c5 back4 k5' lt lt' ⟨_, _, _, _, _, hx5, .inl ⟨rfl, rfl⟩, hT5⟩
    | some m =>
      have hm0 : ¬ (Plan.many a least (some m)).most < 0 := by show ¬ ((m : Int) < 0); omega
      rw [if_neg (by simpa using hm0)]
      rw [if_neg (by decide)]
      walk_at "m:go"
      walk_at "m:yes"
      walk_at "m:go"
      refine xitem c3 hr (Int.natCast_nonneg _) (hvs _ oa) ?_
      walk_at "m:go"
      refine xmake c3 (n := n + 4) r' m0 (mk_497 _) (in_497 _) (fn_479 _) fun x dx h4 A4 c4 r4 lt lt' back4 => ?_
      refine quant_init (mv := .int m t5) c4 (r4.mono (by omega) : Room A4 (n + 3)) (.head _) (.tail _ (.head _)) (Nat.ne_of_lt lt) (.inr rfl) fun h5 t5 id T nw5 c5 k5' hx5 hT5 => ⟨rfl, ?_⟩
      exact key x dx _ _ _ _ _ _ c5 back4 k5' lt lt' ⟨_, _, _, _, _, hx5, .inr ⟨_, _, rfl, rfl⟩, hT5⟩
end


/-! what the pieces read, without a program -/
inductive Tree where
  | node (k s e : Nat) (kids : List Tree)
def Tree.k : Tree → Nat | .node k _ _ _ => k
def Tree.s : Tree → Nat | .node _ s _ _ => s
def Tree.e : Tree → Nat | .node _ _ e _ => e
def Tree.kids : Tree → List Tree | .node _ _ _ ks => ks
def endI : Option Tree → Int
  | none => -1
  | some t => t.e
def litAt (tx lit : Str) (p : Nat) : Bool := decide (p + lit.length ≤ tx.length) && PySem.Builtin.Str.subAt tx lit p
/-- a quantifier's turns from a place: the places it asks, where it stops, what it has -/
def turns (f : Nat → Option Tree) (least : Nat) (most : Option Nat) (len : Nat) : Nat → Nat → List Tree → List Nat × Nat × List Tree
  | 0, p, ks => ([], p, ks)
  | fuel + 1, p, ks =>
    if len ≤ p ∨ most = some ks.length then ([], p, ks) else
    match f p with
    | none => ([p], p, ks)
    | some x => if least ≤ ks.length + 1 ∧ x.e = p then ([p], p, ks ++ [x]) else
      let r := turns f least most len fuel x.e (ks ++ [x])
      (p :: r.1, r.2)
def ev (pl : Nat → Plan) (tx : Str) (k p : Nat) : Option Tree :=
  match pl k with
  | .word lit => if litAt tx lit p then some (.node k p (p + lit.length) []) else none
  | .chain a b => if _h : a < k ∧ b < k then match ev pl tx a p with
      | none => none
      | some x => match ev pl tx b x.e with
        | none => none
        | some y => some (.node k p y.e [x, y])
    else none
  | .choice a b => if _h : a < k ∧ b < k then match ev pl tx a p with
      | some x => some (.node k p x.e [x])
      | none => match ev pl tx b p with
        | none => none
        | some y => some (.node k p y.e [y])
    else none
  | .look neg a => if _h : a < k then (if (ev pl tx a p).isNone = neg then some (.node k p p []) else none) else none
  | .many a least most => if _h : a < k then
      let r := turns (fun q => ev pl tx a q) least most tx.length (tx.length + 4) p []
      if least ≤ r.2.2.length then some (.node k p r.2.1 r.2.2) else none
    else none
termination_by k
abbrev Memo := Nat → Nat → Bool
def ins (k p : Nat) (M : Memo) : Memo := fun i j => (i == k && j == p) || M i j
/-- what is remembered when a piece was asked at a place -/
def run (pl : Nat → Plan) (tx : Str) (k p : Nat) (M : Memo) : Memo :=
  if M k p then M else ins k p (match pl k with
  | .word _ => M
  | .chain a b => if _h : a < k ∧ b < k then match ev pl tx a p with
      | none => run pl tx a p M
      | some x => run pl tx b x.e (run pl tx a p M)
    else M
  | .choice a b => if _h : a < k ∧ b < k then match ev pl tx a p with
      | some _ => run pl tx a p M
      | none => run pl tx b p (run pl tx a p M)
    else M
  | .look _ a => if _h : a < k then run pl tx a p M else M
  | .many a least most => if _h : a < k then (turns (fun q => ev pl tx a q) least most tx.length (tx.length + 4) p []).1.foldl (fun M q => run pl tx a q M) M else M)
termination_by k
/-- what asking does beside remembering its own -/
def asked (pl : Nat → Plan) (tx : Str) (k p : Nat) (M : Memo) : Memo :=
  match pl k with
  | .word _ => M
  | .chain a b => match ev pl tx a p with
      | none => run pl tx a p M
      | some x => run pl tx b x.e (run pl tx a p M)
  | .choice a b => match ev pl tx a p with
      | some _ => run pl tx a p M
      | none => run pl tx b p (run pl tx a p M)
  | .look _ a => run pl tx a p M
  | .many a least most => (turns (fun q => ev pl tx a q) least most tx.length (tx.length + 4) p []).1.foldl (fun M q => run pl tx a q M) M
theorem run_eq {pl : Nat → Plan} {tx : Str} {k p : Nat} {M : Memo} (ok : (pl k).ok k) : run pl tx k p M = if M k p then M else ins k p (asked pl tx k p M) := by
  rw [run]
  congr 2
  unfold asked
  cases e : pl k with
  | word lit => rfl
  | chain a b => rw [e] at ok; exact dif_pos ok
  | choice a b => rw [e] at ok; exact dif_pos ok
  | look neg a => rw [e] at ok; exact dif_pos ok
  | many a least most => rw [e] at ok; exact dif_pos ok.1
section
variable {pl : Nat → Plan} {tx : Str} {k p : Nat}
theorem ev_word {lit} (e : pl k = .word lit) : ev pl tx k p = if litAt tx lit p then some (.node k p (p + lit.length) []) else none := by rw [ev, e]
theorem ev_chain {a b} (e : pl k = .chain a b) (ok : (pl k).ok k) : ev pl tx k p = match ev pl tx a p with
      | none => none
      | some x => match ev pl tx b x.e with
        | none => none
        | some y => some (.node k p y.e [x, y]) := by rw [e] at ok; rw [ev, e]; exact dif_pos ok
theorem ev_choice {a b} (e : pl k = .choice a b) (ok : (pl k).ok k) : ev pl tx k p = match ev pl tx a p with
      | some x => some (.node k p x.e [x])
      | none => match ev pl tx b p with
        | none => none
        | some y => some (.node k p y.e [y]) := by rw [e] at ok; rw [ev, e]; exact dif_pos ok
theorem ev_look {neg a} (e : pl k = .look neg a) (ok : (pl k).ok k) : ev pl tx k p = if (ev pl tx a p).isNone = neg then some (.node k p p []) else none := by rw [e] at ok; rw [ev, e]; exact dif_pos ok
theorem ev_many {a least most} (e : pl k = .many a least most) (ok : (pl k).ok k) : ev pl tx k p =
      let r := turns (fun q => ev pl tx a q) least most tx.length (tx.length + 4) p []
      if least ≤ r.2.2.length then some (.node k p r.2.1 r.2.2) else none := by rw [e] at ok; rw [ev, e]; exact dif_pos ok.1
end
/-! facts of it -/
def linked : Nat → List Tree → Nat → Prop
  | p, [], q => p = q
  | p, x :: r, q => x.s = p ∧ linked x.e r q
theorem linked_snoc : ∀ {ks : List Tree} {p q : Nat} {x : Tree}, linked p ks q → x.s = q → linked p (ks ++ [x]) x.e
  | [], p, q, x, h, e => ⟨e.trans h.symm, rfl⟩
  | y :: r, p, q, x, h, e => ⟨h.1, linked_snoc h.2 e⟩
/-- places stay in the text, parts stand behind each other, the bounds are kept -/
theorem turns_ok {f : Nat → Option Tree} {least : Nat} {most : Option Nat} {len p0 : Nat} (hf : ∀ q x, q ≤ len → f q = some x → x.s = q ∧ q ≤ x.e ∧ x.e ≤ len) :
    ∀ (fuel p : Nat) (ks : List Tree), p ≤ len → linked p0 ks p → (∀ m, most = some m → ks.length ≤ m) →
      (∀ q ∈ (turns f least most len fuel p ks).1, q ≤ len) ∧ p ≤ (turns f least most len fuel p ks).2.1 ∧ (turns f least most len fuel p ks).2.1 ≤ len ∧
        linked p0 (turns f least most len fuel p ks).2.2 (turns f least most len fuel p ks).2.1 ∧ ∀ m, most = some m → (turns f least most len fuel p ks).2.2.length ≤ m
  | 0, p, ks, hp, hl, hm => ⟨by intro q hq; exact absurd hq (by simp [turns]), Nat.le_refl _, hp, hl, hm⟩
  | fuel + 1, p, ks, hp, hl, hm => by
    unfold turns
    split
    · exact ⟨by intro q hq; exact absurd hq (by simp), Nat.le_refl _, hp, hl, hm⟩
    · rename_i hb
      cases e : f p with
      | none =>
        dsimp only
        exact ⟨by intro q hq; rw [List.mem_singleton.mp hq]; exact hp, Nat.le_refl _, hp, hl, hm⟩
      | some x =>
        obtain ⟨h1, h2, h3⟩ := hf p x hp e
        have hm' : ∀ m, most = some m → (ks ++ [x]).length ≤ m := fun m hm1 => by
          have h5 := hm m hm1
          have h6 : ks.length ≠ m := fun e => hb (.inr (by rw [hm1, e]))
          simp only [List.length_append, List.length_cons, List.length_nil]
          omega
        dsimp only
        split
        · rename_i hz
          have h4 := linked_snoc hl h1
          rw [hz.2] at h4
          exact ⟨by intro q hq; rw [List.mem_singleton.mp hq]; exact hp, Nat.le_refl _, hp, h4, hm'⟩
        · obtain ⟨a, b, c, d, g⟩ := turns_ok hf fuel x.e (ks ++ [x]) h3 (linked_snoc hl h1) hm'
          refine ⟨fun q hq => ?_, Nat.le_trans h2 b, c, d, g⟩
          rcases List.mem_cons.mp hq with rfl | hq
          · exact hp
          · exact a q hq
theorem litAt_le {tx lit : Str} {p : Nat} (h : litAt tx lit p = true) : p + lit.length ≤ tx.length := by
  unfold litAt at h
  rw [Bool.and_eq_true] at h
  exact of_decide_eq_true h.1
section
variable {pl : Nat → Plan} {tx : Str} {n : Nat} (hok : ∀ j, j < n → (pl j).ok j)
theorem Plan.ok_lt {p : Plan} {k : Nat} (h : p.ok k) : (∀ a b, p = .chain a b → a < k ∧ b < k) ∧ (∀ a b, p = .choice a b → a < k ∧ b < k) ∧ (∀ s a, p = .look s a → a < k) ∧ ∀ a l m, p = .many a l m → a < k := by
  refine ⟨?_, ?_, ?_, ?_⟩
  · rintro a b rfl; exact h
  · rintro a b rfl; exact h
  · rintro a b rfl; exact h
  · rintro a l m rfl; exact h.1
include hok in
theorem ev_ok : ∀ (k : Nat), k < n → ∀ (p : Nat) (t : Tree), p ≤ tx.length → ev pl tx k p = some t → t.k = k ∧ t.s = p ∧ p ≤ t.e ∧ t.e ≤ tx.length := by
  intro k
  induction k using Nat.strongRecOn with
  | _ k ih =>
    intro hk p t hp h
    have ok := hok k hk
    have lt := Plan.ok_lt ok
    cases e : pl k with
    | word lit =>
      rw [ev_word e] at h
      split at h
      · rename_i hl
        cases h
        exact ⟨rfl, rfl, Nat.le_add_right _ _, litAt_le hl⟩
      · cases h
    | chain a b =>
      rw [ev_chain e ok] at h
      obtain ⟨l1, l2⟩ := lt.1 a b e
      cases ea : ev pl tx a p with
      | none => rw [ea] at h; cases h
      | some x =>
        obtain ⟨_, _, h3, h4⟩ := ih a l1 (Nat.lt_trans l1 hk) p x hp ea
        rw [ea] at h
        dsimp only at h
        cases eb : ev pl tx b x.e with
        | none => rw [eb] at h; cases h
        | some y =>
          obtain ⟨_, _, h5, h6⟩ := ih b l2 (Nat.lt_trans l2 hk) x.e y h4 eb
          rw [eb] at h
          cases h
          exact ⟨rfl, rfl, Nat.le_trans h3 h5, h6⟩
    | choice a b =>
      rw [ev_choice e ok] at h
      obtain ⟨l1, l2⟩ := lt.2.1 a b e
      cases ea : ev pl tx a p with
      | some x =>
        obtain ⟨_, _, h3, h4⟩ := ih a l1 (Nat.lt_trans l1 hk) p x hp ea
        rw [ea] at h
        cases h
        exact ⟨rfl, rfl, h3, h4⟩
      | none =>
        rw [ea] at h
        dsimp only at h
        cases eb : ev pl tx b p with
        | none => rw [eb] at h; cases h
        | some y =>
          obtain ⟨_, _, h5, h6⟩ := ih b l2 (Nat.lt_trans l2 hk) p y hp eb
          rw [eb] at h
          cases h
          exact ⟨rfl, rfl, h5, h6⟩
    | look neg a =>
      rw [ev_look e ok] at h
      split at h
      · cases h
        exact ⟨rfl, rfl, Nat.le_refl _, hp⟩
      · cases h
    | many a least most =>
      rw [ev_many e ok] at h
      have l1 := lt.2.2.2 a least most e
      obtain ⟨_, h2, h3, _⟩ := turns_ok (least := least) (most := most) (p0 := p) (fun q x hq hx => (ih a l1 (Nat.lt_trans l1 hk) q x hq hx).2) (tx.length + 4) p [] hp rfl (fun _ _ => Nat.zero_le _)
      dsimp only at h
      split at h
      · cases h
        exact ⟨rfl, rfl, h2, h3⟩
      · cases h
/-- memos keep to their bounds, grow, and keep higher pieces -/
def Memo.le (M : Memo) (n len : Nat) : Prop := ∀ i j, M i j = true → i < n ∧ j ≤ len
theorem ins_le {M : Memo} {len k p : Nat} (h : M.le n len) (hk : k < n) (hp : p ≤ len) : (ins k p M).le n len := by
  intro i j hi
  unfold ins at hi
  rw [Bool.or_eq_true] at hi
  rcases hi with hi | hi
  · rw [Bool.and_eq_true] at hi
    exact ⟨(eq_of_beq hi.1) ▸ hk, (eq_of_beq hi.2) ▸ hp⟩
  · exact h i j hi
theorem ins_self {M : Memo} {k p : Nat} : ins k p M k p = true := by simp [ins]
theorem ins_old {M : Memo} {k p i j : Nat} (h : M i j = true) : ins k p M i j = true := by simp [ins, h]
theorem ins_ne {M : Memo} {k p i j : Nat} (h : ¬ (i = k ∧ j = p)) : ins k p M i j = M i j := by
  unfold ins
  have : (i == k && j == p) = false := by
    rw [Bool.eq_false_iff]
    intro e
    rw [Bool.and_eq_true] at e
    exact h ⟨eq_of_beq e.1, eq_of_beq e.2⟩
  rw [this, Bool.false_or]
theorem run_self {k p : Nat} {M : Memo} (ok : (pl k).ok k) : run pl tx k p M k p = true := by
  rw [run_eq ok]
  split
  · assumption
  · exact ins_self
/-- what holds of every step holds of a fold -/
theorem fold_keeps {P : Memo → Prop} {g : Memo → Nat → Memo} : ∀ (qs : List Nat) (M : Memo), P M → (∀ M q, q ∈ qs → P M → P (g M q)) → P (qs.foldl g M)
  | [], _, h, _ => h
  | q :: r, M, h, hg => fold_keeps r (g M q) (hg M q (.head _) h) fun M q hq => hg M q (.tail _ hq)
include hok in
/-- a property of memos that every own insertion at or below `k` keeps -/
theorem run_keeps {P : Memo → Prop} {K : Nat} (hP : ∀ M i j, i ≤ K → i < n → j ≤ tx.length → P M → P (ins i j M)) : ∀ (k : Nat), k < n → k ≤ K → ∀ (p : Nat) (M : Memo), p ≤ tx.length → P M → P (asked pl tx k p M) ∧ P (run pl tx k p M) := by
  intro k
  induction k using Nat.strongRecOn with
  | _ k ih =>
    intro hk hK p M hp h
    have ok := hok k hk
    have lt := Plan.ok_lt ok
    have key : P (asked pl tx k p M) := by
      unfold asked
      cases e : pl k with
      | word lit => exact h
      | chain a b =>
        obtain ⟨l1, l2⟩ := lt.1 a b e
        have h1 := (ih a l1 (Nat.lt_trans l1 hk) (Nat.le_trans (Nat.le_of_lt l1) hK) p M hp h).2
        dsimp only
        cases ea : ev pl tx a p with
        | none => exact h1
        | some x =>
          obtain ⟨_, _, _, h4⟩ := ev_ok hok a (Nat.lt_trans l1 hk) p x hp ea
          exact (ih b l2 (Nat.lt_trans l2 hk) (Nat.le_trans (Nat.le_of_lt l2) hK) x.e _ h4 h1).2
      | choice a b =>
        obtain ⟨l1, l2⟩ := lt.2.1 a b e
        have h1 := (ih a l1 (Nat.lt_trans l1 hk) (Nat.le_trans (Nat.le_of_lt l1) hK) p M hp h).2
        dsimp only
        cases ea : ev pl tx a p with
        | some x => exact h1
        | none => exact (ih b l2 (Nat.lt_trans l2 hk) (Nat.le_trans (Nat.le_of_lt l2) hK) p _ hp h1).2
      | look neg a =>
        have l1 := lt.2.2.1 neg a e
        exact (ih a l1 (Nat.lt_trans l1 hk) (Nat.le_trans (Nat.le_of_lt l1) hK) p M hp h).2
      | many a least most =>
        have l1 := lt.2.2.2 a least most e
        have h2 := (turns_ok (least := least) (most := most) (p0 := p) (fun q x hq hx => (ev_ok hok a (Nat.lt_trans l1 hk) q x hq hx).2) (tx.length + 4) p [] hp rfl (fun _ _ => Nat.zero_le _)).1
        exact fold_keeps _ M h fun M q hq hM => (ih a l1 (Nat.lt_trans l1 hk) (Nat.le_trans (Nat.le_of_lt l1) hK) q M (h2 q hq) hM).2
    refine ⟨key, ?_⟩
    rw [run_eq ok]
    split
    · exact h
    · exact hP _ _ _ hK hk hp key
include hok in
theorem run_le {k p : Nat} {M : Memo} (hk : k < n) (hp : p ≤ tx.length) (h : M.le n tx.length) : (run pl tx k p M).le n tx.length :=
  (run_keeps hok (P := fun M => M.le n tx.length) (K := k) (fun _ _ _ _ hi hj h => ins_le h hi hj) k hk (Nat.le_refl _) p M hp h).2
include hok in
theorem asked_le {k p : Nat} {M : Memo} (hk : k < n) (hp : p ≤ tx.length) (h : M.le n tx.length) : (asked pl tx k p M).le n tx.length :=
  (run_keeps hok (P := fun M => M.le n tx.length) (K := k) (fun _ _ _ _ hi hj h => ins_le h hi hj) k hk (Nat.le_refl _) p M hp h).1
end


/-- a list without doubles is no longer than a list that holds its members -/
theorem nodup_le {α : Type} [DecidableEq α] : ∀ (l m : List α), l.Nodup → (∀ x ∈ l, x ∈ m) → l.length ≤ m.length
  | [], m, _, _ => Nat.zero_le _
  | x :: r, m, h, hs => by
    rw [List.nodup_cons] at h
    have h1 : x ∈ m := hs x (.head _)
    have := nodup_le r (m.erase x) h.2 fun y hy => (List.mem_erase_of_ne (fun e : y = x => h.1 (by rw [← e]; exact hy))).mpr (hs y (.tail _ hy))
    rw [List.length_erase_of_mem h1] at this
    have : 0 < m.length := List.length_pos_of_mem h1
    simp only [List.length_cons]
    omega
theorem two_keys {i j k p : Nat} (e : [(i : Int), (j : Int)] = [(k : Int), (p : Int)]) : i = k ∧ j = p := by
  simp only [List.cons.injEq, and_true] at e
  omega
section
variable {Γ : Gm} {A : Around} {env : Env} {outer : List Env} {h₀ : Heap} {L : Addr} {h h' : Heap} {l l' : Loc} {nw : Led} {t : Nat} {E : Value → Shared → Prop} {pos : Pos}
noncomputable abbrev TK (w : World) : HeapKind PG w (List Int) := tupleKind (intKind PG w)
/-- the own reading's dict: a pair of piece and place to an end -/
def SeenOk (Γ : Gm) (nw : Led) (d n len : Nat) (f : Nat → Nat → Int) (M : Memo) : Prop :=
  M.le n len ∧ ∃ o es ep, ∃ xs : List (List Int × Addr × Value), (d, o) ∈ nw ∧ o.ExactDict ∧ o.data = .dict es ep ∧ es.toList = xs.map (entryOfKey (TK Γ.w)) ∧ (xs.map (·.1)).Nodup ∧
    (∀ x ∈ xs, ∃ (k p : Nat) (t1 t2 t3 : Tok) (m : Nat), x.1 = [(k : Int), (p : Int)] ∧ (x.2.1, seqO "tuple" [.int k t1, .int p t2] m) ∈ nw ∧ M k p = true ∧ x.2.2 = .int (f k p) t3) ∧
    ∀ k p : Nat, M k p = true → (atKey xs [(k : Int), (p : Int)]).isSome = true
theorem atKey_mem {xs : List (List Int × Addr × Value)} {k : List Int} {p : Addr × Value} (h : atKey xs k = some p) : (k, p) ∈ xs := by
  unfold atKey at h
  obtain ⟨x, hx, rfl⟩ := Option.map_eq_some_iff.mp h
  have h1 := List.mem_of_find?_eq_some hx
  have h2 := List.find?_some hx
  have h3 : x.1 = k := by simpa using h2
  rw [← h3]; exact h1
theorem key_of {h : Heap} {w : World} {a : Addr} {k p : Int} {t1 t2 : Tok} {m : Nat} (ho : h.get? a = some (seqO "tuple" [.int k t1, .int p t2] m)) : (TK w).is h [k, p] a :=
  ⟨_, _, _, ho, rfl, rfl, .cons (intKind_is _ _ _ _) (.cons (intKind_is _ _ _ _) .nil)⟩
theorem SeenOk.dictOf (c : Fx Γ A env outer h₀ L h l nw) {d n len : Nat} {f : Nat → Nat → Int} {M : Memo} (S : SeenOk Γ nw d n len f M) :
    ∃ xs : List (List Int × Addr × Value), h.DictOfH (TK Γ.w) d xs ∧ (d == sysModules) = false ∧ (∀ k p : Nat, (atKey xs [(k : Int), (p : Int)]).isSome = M k p) ∧ ∀ k p : Nat, M k p = true → ∃ a t3, atKey xs [(k : Int), (p : Int)] = some (a, .int (f k p) t3) := by
  obtain ⟨_, o, es, ep, xs, hm, hc, hd, he, hn, hk, hs⟩ := S
  have back : ∀ (k p : Nat) (q : Addr × Value), atKey xs [(k : Int), (p : Int)] = some q → M k p = true ∧ ∃ a t3, q = (a, .int (f k p) t3) := fun k p q hq => by
    obtain ⟨k', p', t1, t2, t3, m, e, _, hM, hv⟩ := hk _ (atKey_mem hq)
    obtain ⟨rfl, rfl⟩ := two_keys e
    obtain ⟨a, v⟩ := q
    exact ⟨hM, a, t3, by rw [show v = _ from hv]⟩
  refine ⟨xs, ⟨o, es, ep, c.get hm, hc, hd, he, fun x hx => ?_, hn⟩, c.low hm, fun k p => ?_, fun k p hM => ?_⟩
  · obtain ⟨k, p, t1, t2, t3, m, e, hx, _⟩ := hk x hx
    rw [e]; exact key_of (c.get hx)
  · cases e : atKey xs [(k : Int), (p : Int)] with
    | some q => exact (back k p q e).1.symm
    | none =>
      cases hM : M k p with
      | false => rfl
      | true => have := hs k p hM; rw [e] at this; cases this
  · have := hs k p hM
    cases e : atKey xs [(k : Int), (p : Int)] with
    | none => rw [e] at this; cases this
    | some q =>
      obtain ⟨_, a, t3, rfl⟩ := back k p q e
      exact ⟨a, t3, rfl⟩
theorem xseen_notin (c : Fx Γ A env outer h₀ L h l nw) (r : Room A 0) {d n len k p a m : Nat} {f : Nat → Nat → Int} {M : Memo} {t1 t2 : Tok} {Q : Value → Shared → Prop} (S1 : SeenOk Γ nw d n len f M) (ha : (a, seqO "tuple" [.int k t1, .int p t2] m) ∈ nw)
    (q : ∀ t', Q (.bool (!M k p)) (S Γ h t')) : wpAny (model PG Γ.w) A (compareOp .NotIn (.ref a) (.ref d)) Q E (S Γ h t) := by
  obtain ⟨xs, hD, lo, h1, _⟩ := S1.dictOf c
  refine wpAny_notIn_heap (knd := TK Γ.w) (k := [(k : Int), (p : Int)]) (tupleKind_room_in1 ?_) (key_of (c.get ha)) lo hD ?_
  · have := r.units; omega
  · rw [h1]; exact q _
theorem xseen_in (c : Fx Γ A env outer h₀ L h l nw) (r : Room A 0) {d n len k p a m : Nat} {f : Nat → Nat → Int} {M : Memo} {t1 t2 : Tok} {Q : Value → Shared → Prop} (S1 : SeenOk Γ nw d n len f M) (ha : (a, seqO "tuple" [.int k t1, .int p t2] m) ∈ nw)
    (q : ∀ t', Q (.bool (M k p)) (S Γ h t')) : wpAny (model PG Γ.w) A (compareOp .In (.ref a) (.ref d)) Q E (S Γ h t) := by
  obtain ⟨xs, hD, lo, h1, _⟩ := S1.dictOf c
  refine wpAny_in_heap (knd := TK Γ.w) (k := [(k : Int), (p : Int)]) (tupleKind_room_in1 ?_) (key_of (c.get ha)) lo hD ?_
  · have := r.units; omega
  · rw [h1]; exact q _
theorem xseen_item (c : Fx Γ A env outer h₀ L h l nw) (r : Room A 0) {d n len k p a m : Nat} {f : Nat → Nat → Int} {M : Memo} {t1 t2 : Tok} {value slice : Expr} {Q : Value → Shared → Prop} (S1 : SeenOk Γ nw d n len f M) (ha : (a, seqO "tuple" [.int k t1, .int p t2] m) ∈ nw)
    (hM : M k p = true) (q : ∀ t' t3, Q (.int (f k p) t3) (S Γ h t'))
    (hs : subscripted slice false (.ref d) (.ref a) = operate [.ref d, .ref a] (getItem (.ref d) (.ref a)) := by with_unfolding_all rfl) (hg : ∀ r, letTemporaryGo value (.ref d) r = pure () := by intro _; with_unfolding_all rfl) :
    wpAny (model PG Γ.w) A (subscriptTail value slice (.ref d) (.ref a)) Q E (S Γ h t) := by
  obtain ⟨xs, hD, lo, _, h2⟩ := S1.dictOf c
  obtain ⟨b, t3, hb⟩ := h2 k p hM
  refine subscriptTail_builtin hD.typeIs slot_dict_getitem.lookup (wpAny_getItem_heap (knd := TK Γ.w) (k := [(k : Int), (p : Int)]) (tupleKind_room_in1 ?_) (key_of (c.get ha)) hD hb ?_) hs hg
  · have := r.units; omega
  · exact q _ t3
theorem xseen_set (c : Fx Γ A env outer h₀ L h l nw) (r : Room A 0) {d n len k p a m : Nat} {f : Nat → Nat → Int} {M : Memo} {t1 t2 t3 : Tok} {Q : Unit → Shared → Prop} (S1 : SeenOk Γ nw d n len f M) (ha : (a, seqO "tuple" [.int k t1, .int p t2] m) ∈ nw)
    (hk : k < n) (hp : p ≤ len) (hz : n * (len + 1) ≤ 1000)
    (q : ∀ h' t' o', Fx Γ A env outer h₀ L h' l (put nw d o') → SeenOk Γ (put nw d o') d n len f (ins k p M) → Q () (S Γ h' t')) :
    wpAny (model PG Γ.w) A (setItem (.ref d) (.ref a) (.int (f k p) t3)) Q E (S Γ h t) := by
  obtain ⟨xs', hD', lo, _⟩ := S1.dictOf c
  obtain ⟨hle, o, es, ep, xs, hm, hc, hd, he, hn, hkk, hs⟩ := S1
  have hD : h.DictOfH (TK Γ.w) d xs := ⟨o, es, ep, c.get hm, hc, hd, he, fun x hx => by
    obtain ⟨k, p, t1, t2, t3, m, e, hx, _⟩ := hkk x hx
    rw [e]; exact key_of (c.get hx), hn⟩
  have hlen : xs.length ≤ sizeLine := by
    have := nodup_le (xs.map (·.1)) ((List.range n).flatMap fun (i : Nat) => (List.range (len + 1)).map fun (j : Nat) => [(i : Int), (j : Int)]) hn fun y hy => by
      obtain ⟨x, hx, rfl⟩ := List.mem_map.mp hy
      obtain ⟨k, p, _, _, _, _, e, _, hM, _⟩ := hkk x hx
      obtain ⟨h1, h2⟩ := hle k p hM
      rw [e, List.mem_flatMap]
      exact ⟨k, List.mem_range.mpr h1, List.mem_map.mpr ⟨p, List.mem_range.mpr (by omega), rfl⟩⟩
    rw [List.length_map, List.length_flatMap] at this
    have e : ((List.range n).map fun (i : Nat) => ((List.range (len + 1)).map fun (j : Nat) => [(i : Int), (j : Int)]).length).sum = n * (len + 1) := by
      have : ((List.range n).map fun (i : Nat) => ((List.range (len + 1)).map fun (j : Nat) => [(i : Int), (j : Int)]).length) = List.replicate n (len + 1) := by
        simp only [List.length_map, List.length_range]
        rw [List.map_const', List.length_range]
      rw [this, List.sum_replicate_nat]
    rw [e] at this
    rw [line_is]
    omega
  have hdt : ∀ {b : Addr} {k p : Int} {t1 t2 : Tok} {m : Nat}, (b, seqO "tuple" [.int k t1, .int p t2] m) ∈ nw → b ≠ d := fun {b k p t1 t2 m} hb e => by
    subst e
    have := c.uniq hb hm
    rw [← this] at hd
    cases hd
  refine wpAny_setItem_heap (hsz := hlen) (knd := TK Γ.w) (k := [(k : Int), (p : Int)]) (tupleKind_room_in1 (by have := r.units; omega)) (key_of (c.get ha)) hD fun h' hm' sb => ?_
  obtain ⟨o', es', ep', ho', hc', hd', he', _, hn'⟩ := hm'
  refine q h' _ o' (c.upd hm sb ho') ⟨ins_le hle hk hp, o', es', ep', storedH xs [(k : Int), (p : Int)] a (.int (f k p) t3), mem_put_self hm, hc', hd', he', hn', fun x hx => ?_, fun i j hij => ?_⟩
  · unfold storedH at hx
    split at hx
    · obtain ⟨y, hy, rfl⟩ := List.mem_map.mp hx
      obtain ⟨k', p', u1, u2, u3, m', e, hy, hM, hv⟩ := hkk y hy
      unfold putAt
      split
      · rename_i ek
        rw [e] at ek
        obtain ⟨rfl, rfl⟩ := two_keys ek
        exact ⟨_, _, u1, u2, t3, m', e, mem_put_ne hy (hdt hy), ins_self, rfl⟩
      · exact ⟨k', p', u1, u2, u3, m', e, mem_put_ne hy (hdt hy), ins_old hM, hv⟩
    · rcases List.mem_append.mp hx with hx | hx
      · obtain ⟨k', p', u1, u2, u3, m', e, hy, hM, hv⟩ := hkk x hx
        exact ⟨k', p', u1, u2, u3, m', e, mem_put_ne hy (hdt hy), ins_old hM, hv⟩
      · rw [List.mem_singleton.mp hx]
        exact ⟨k, p, t1, t2, t3, m, rfl, mem_put_ne ha (hdt ha), ins_self, rfl⟩
  · have key : ∀ y ∈ storedH xs [(k : Int), (p : Int)] a (.int (f k p) t3), y.1 = [(i : Int), (j : Int)] → (atKey (storedH xs [(k : Int), (p : Int)] a (.int (f k p) t3)) [(i : Int), (j : Int)]).isSome = true := fun y hy e => by
      unfold atKey
      rw [Option.isSome_map, List.find?_isSome]
      exact ⟨y, hy, by rw [e]; simp⟩
    by_cases e : i = k ∧ j = p
    · obtain ⟨rfl, rfl⟩ := e
      unfold storedH at key ⊢
      split
      · rename_i hat
        rw [if_pos hat] at key
        obtain ⟨q, hq⟩ := Option.isSome_iff_exists.mp hat
        refine key (putAt _ _ (_, q)) (List.mem_map.mpr ⟨_, atKey_mem hq, rfl⟩) ?_
        simp [putAt]
      · rename_i hat
        rw [if_neg hat] at key
        exact key (_, a, _) (List.mem_append_right _ (.head _)) rfl
    · rw [ins_ne e] at hij
      obtain ⟨q, hq⟩ := Option.isSome_iff_exists.mp (hs i j hij)
      have hne : ¬ ([(i : Int), (j : Int)] = [(k : Int), (p : Int)]) := fun ek => e (two_keys ek)
      unfold storedH at key ⊢
      split
      · rename_i hat
        rw [if_pos hat] at key
        refine key (putAt _ _ (_, q)) (List.mem_map.mpr ⟨_, atKey_mem hq, rfl⟩) ?_
        unfold putAt
        rw [if_neg hne]
      · rename_i hat
        rw [if_neg hat] at key
        exact key _ (List.mem_append_left _ (atKey_mem hq)) rfl
end


/-! loops: an iterator of the ledger -/
theorem Fx.ext {Γ : Gm} {A : Around} {env : Env} {outer : List Env} {h₀ : Heap} {L : Addr} {h h' : Heap} {l : Loc} {nw : Led} (c : Fx Γ A env outer h₀ L h l nw) {I : Addr} {o : Obj} (m : (I, o) ∈ nw) (e : Heap.ExtBut I h h') :
    Fx Γ A env outer h₀ L h' l (nw.filter fun p => p.1 != I) := by
  have D := c.N (I, o) m
  have old : ∀ b x, h₀.get? b = some x → b ≠ I := fun b x q z => by rw [z, c.N.fresh m] at q; cases q
  have F' : Fr h₀ L h' (mp l) := ⟨c.F.ns.at' fun o q => e _ o (Ne.symm D.2.1) q, fun b x q => e b x (old b x q) (c.F.keep b x q), c.F.above⟩
  refine { c with F := F', N := fun p hp => ?_, nd := ?_, hi := fun p hp => c.hi _ (List.mem_filter.mp hp).1 }
  · obtain ⟨hp, hne⟩ := List.mem_filter.mp hp
    exact ⟨e _ _ (by simpa using hne) (c.N p hp).1, (c.N p hp).2⟩
  · exact c.nd.sublist ((List.filter_sublist).map _)
theorem keep_drop {nw : Led} {I : Addr} : Keep (· = I) nw (nw.filter fun p => p.1 != I) := fun p hp h => List.mem_filter.mpr ⟨hp, by simpa using h⟩
structure XIt (Γ : Gm) (A : Around) (I : Addr) (n : Nat) (P : Nat → Value → Prop) (It : Nat → Led → Prop) : Prop where
  item : ∀ {env outer h₀ L h l nw t} {Q : Option Value → Shared → Prop} {E : Value → Shared → Prop} {i : Nat}, i < n → Fx Γ A env outer h₀ L h l nw → It i nw →
    (∀ v h' t' o', P i v → Fx Γ A env outer h₀ L h' l (put nw I o') → It (i + 1) (put nw I o') → Q (some v) (S Γ h' t')) → wpAny (model PG Γ.w) A (pyNext (.ref I)) Q E (S Γ h t)
  done : ∀ {env outer h₀ L h l nw t} {Q : Option Value → Shared → Prop} {E : Value → Shared → Prop}, Fx Γ A env outer h₀ L h l nw → It n nw →
    (∀ h' nw', Fx Γ A env outer h₀ L h' l nw' → Keep (· = I) nw nw' → Q none (S Γ h' t)) → wpAny (model PG Γ.w) A (pyNext (.ref I)) Q E (S Γ h t)
section
variable {Γ : Gm} {A : Around} {env : Env} {outer : List Env} {h₀ : Heap} {L : Addr} {h h' : Heap} {l l' : Loc} {nw : Led} {t : Nat} {E : Value → Shared → Prop} {pos : Pos}
theorem xforLoop {R : Result → Shared → Prop} {I : Addr} {n : Nat} {P : Nat → Value → Prop} {It : Nat → Led → Prop} {target : Expr} {body orelse : List Stmt} (X : XIt Γ A I n P It) (INV : Nat → Loc → Led → Prop)
    (c : Fx Γ A env outer h₀ L h l nw) (it0 : It 0 nw) (i0 : INV 0 l nw)
    (step : ∀ i v h l nw t o' hb, i < n → P i v → Fx Γ A env outer h₀ L hb l nw → It i nw → Fx Γ A env outer h₀ L h l (put nw I o') → It (i + 1) (put nw I o') → INV i l nw →
      wpAny (model PG Γ.w) A (letOwnedTupleGo target (.ref I) v) (fun _ s₁ => wpAny (model PG Γ.w) A (assign target env v) (fun _ s₂ => wpAny (model PG Γ.w) A (execs body env) (fun f s₃ => match f with
        | .next | .cont => ∃ h' t' l' nw', s₃ = S Γ h' t' ∧ Fx Γ A env outer h₀ L h' l' nw' ∧ It (i + 1) nw' ∧ INV (i + 1) l' nw'
        | .brk => R (.ok .next) s₃
        | .ret v => R (.ok (.ret v)) s₃) (fun _ _ => False) s₂) (fun _ _ => False) s₁) (fun _ _ => False) (S Γ h t))
    (fin : ∀ h l nw nw' t hb, Fx Γ A env outer h₀ L hb l nw → It n nw → Fx Γ A env outer h₀ L h l nw' → Keep (· = I) nw nw' → INV n l nw → wpAny (model PG Γ.w) A (execs orelse env) (fun f s₃ => R (.ok f) s₃) (fun _ _ => False) (S Γ h t)) :
    codeAny (model PG Γ.w) A (.forLoop target (.ref I) body orelse env) R (S Γ h t) := by
  refine codeAny_forLoop_any (fun k s' => ∃ i h l nw t, s' = S Γ h t ∧ Fx Γ A env outer h₀ L h l nw ∧ It i nw ∧ INV i l nw ∧ i ≤ n ∧ k = n + 1 - i) ?_ (n + 1) ⟨0, h, l, nw, t, rfl, c, it0, i0, Nat.zero_le _, rfl⟩
  rintro k s' ⟨i, h, l, nw, t, rfl, c, hI, hV, hi, rfl⟩
  by_cases hlt : i < n
  · refine X.item hlt c hI fun v h' t' o' hP c' hI' => ?_
    refine wpAny_mono (step i v h' l nw t' o' h hlt hP c hI c' hI' hV) (fun _ s₁ h₁ => wpAny_mono h₁ (fun _ s₂ h₂ => wpAny_mono h₂ (fun f s₃ h₃ => ?_) fun _ _ x => x.elim) fun _ _ x => x.elim) fun _ _ x => x.elim
    cases f with
    | ret v => exact h₃
    | brk => exact h₃
    | next =>
      obtain ⟨h2, t2, l2, nw2, e, c2, it2, v2⟩ := h₃
      exact ⟨n + 1 - (i + 1), by omega, i + 1, h2, l2, nw2, t2, e, c2, it2, v2, hlt, rfl⟩
    | cont =>
      obtain ⟨h2, t2, l2, nw2, e, c2, it2, v2⟩ := h₃
      exact ⟨n + 1 - (i + 1), by omega, i + 1, h2, l2, nw2, t2, e, c2, it2, v2, hlt, rfl⟩
  · have : i = n := by omega
    subst this
    exact X.done c hI fun h' nw' c' k' => wpAny_mono (fin h' l nw nw' t h c hI c' k' hV) (fun _ _ x => x) fun _ _ x => x.elim
/-- the loop of a statement that never raises -/
theorem xFor {target iter : Expr} {body orelse : List Stmt} {Q : Flow → Shared → Prop} {s : Shared}
    (hq : wpAny (model PG Γ.w) A (eval iter env) (fun x s₁ => wpAny (model PG Γ.w) A (pyIter x) (fun it s₂ => codeAny (model PG Γ.w) A (.forLoop target it body orelse env) (fun r s' => match r with | .ok f => Q f s' | .error _ => False) s₂) (fun _ _ => False) s₁) (fun _ _ => False) s)
    (hs : ∀ x, foldedSetIterable iter env x = pure x := by intro _; rfl) : wpAny (model PG Γ.w) A (exec (.For target iter body orelse pos) env) Q (fun _ _ => False) s :=
  wpAny_For (wpAny_mono hq (fun _ _ h₁ => wpAny_mono h₁ (fun _ _ h₂ => codeAny_mono h₂ fun r s' h₃ => by
    cases r with
    | ok f => exact h₃
    | error e => exact h₃.elim) fun _ _ x => x.elim) fun _ _ x => x.elim) hs
/-! lists -/
def ListIt (I a : Addr) (xs : List Value) (i : Nat) (nw : Led) : Prop := (∃ o, (I, o) ∈ nw ∧ o.cls = .type "list_iterator" ∧ o.data = .fields #[.ref a, .int i 0]) ∧ IsW "list" nw a xs
theorem ListIt.keep {I a : Addr} {xs : List Value} {i : Nat} {nw nw' : Led} {W : Addr → Prop} (h : ListIt I a xs i nw) (k : Keep W nw nw') (h1 : ¬ W I) (h2 : ¬ W a) : ListIt I a xs i nw' :=
  let ⟨⟨o, m, r⟩, w⟩ := h; ⟨⟨o, k _ m h1, r⟩, w.keep k h2⟩
theorem xit_list (hne : a ≠ I) {xs : List Value} : XIt Γ A I xs.length (fun i v => xs[i]? = some v) (ListIt I a xs) where
  item := fun {env outer h₀ L h l nw t Q E i} hi c hI q => by
    obtain ⟨⟨o, m, hc, hd⟩, hw⟩ := hI
    refine wpAny_pyNext_list_item ⟨o, c.get m, hc, hd⟩ (hw.isList c) (x := xs[i]) (by simp [hi]) fun h' hit sb => ?_
    obtain ⟨o', ho', hc', hd'⟩ := hit
    exact q _ h' t o' (by simp [hi]) (c.upd m sb ho') ⟨⟨o', mem_put_self m, hc', hd'⟩, hw.keep Keep.put hne⟩
  done := fun {env outer h₀ L h l nw t Q E} c hI q => by
    obtain ⟨⟨o, m, hc, hd⟩, hw⟩ := hI
    exact wpAny_pyNext_list_end c.hh ⟨o, c.get m, hc, hd⟩ (hw.isList c) (by simp) fun h' e => q h' _ (c.ext m e) keep_drop
theorem xiter_list (c : Fx Γ A env outer h₀ L h l nw) {a : Addr} {xs : List Value} {Q : Value → Shared → Prop} (m : IsW "list" nw a xs)
    (q : ∀ I h' o, Fx Γ A env outer h₀ L h' l ((I, o) :: nw) → (∀ p ∈ nw, p.1 < I) → XIt Γ A I xs.length (fun i v => xs[i]? = some v) (ListIt I a xs) → ListIt I a xs 0 ((I, o) :: nw) → Q (.ref I) (S Γ h' t)) :
    wpAny (model PG Γ.w) A (pyIter (.ref a)) Q E (S Γ h t) := by
  have lt : ∀ p ∈ nw, p.1 < h.objs.size := fun p hp => c.lt hp
  have hne : a ≠ h.objs.size := by
    obtain ⟨_, o, n, m, _⟩ := m
    exact Nat.ne_of_lt (lt _ m)
  exact wpAny_pyIter_list (m.isList c) (q _ _ _ (c.push _) lt (xit_list hne) ⟨⟨_, .head _, rfl, rfl⟩, m.keep Keep.cons (W := fun _ => False) id⟩)
/-! tuples -/
def TupIt (I a : Addr) (xs : List Value) (i : Nat) (nw : Led) : Prop := (∃ o, (I, o) ∈ nw ∧ o.cls = .type "tuple_iterator" ∧ o.data = .fields #[.ref a, .int i 0]) ∧ IsW "tuple" nw a xs
theorem TupIt.keep {I a : Addr} {xs : List Value} {i : Nat} {nw nw' : Led} {W : Addr → Prop} (h : TupIt I a xs i nw) (k : Keep W nw nw') (h1 : ¬ W I) (h2 : ¬ W a) : TupIt I a xs i nw' :=
  let ⟨⟨o, m, r⟩, w⟩ := h; ⟨⟨o, k _ m h1, r⟩, w.keep k h2⟩
theorem xit_tup (hne : a ≠ I) {xs : List Value} : XIt Γ A I xs.length (fun i v => xs[i]? = some v) (TupIt I a xs) where
  item := fun {env outer h₀ L h l nw t Q E i} hi c hI q => by
    obtain ⟨⟨o, m, hc, hd⟩, hw⟩ := hI
    refine wpAny_pyNext_tuple_item ⟨o, c.get m, hc, hd⟩ (hw.isTup c) (x := xs[i]) (by simp [hi]) fun h' hit sb => ?_
    obtain ⟨o', ho', hc', hd'⟩ := hit
    exact q _ h' t o' (by simp [hi]) (c.upd m sb ho') ⟨⟨o', mem_put_self m, hc', hd'⟩, hw.keep Keep.put hne⟩
  done := fun {env outer h₀ L h l nw t Q E} c hI q => by
    obtain ⟨⟨o, m, hc, hd⟩, hw⟩ := hI
    exact wpAny_pyNext_tuple_end c.hh ⟨o, c.get m, hc, hd⟩ (hw.isTup c) (by simp) fun h' e => q h' _ (c.ext m e) keep_drop
theorem xiter_tup (c : Fx Γ A env outer h₀ L h l nw) {a : Addr} {xs : List Value} {Q : Value → Shared → Prop} (m : IsW "tuple" nw a xs)
    (q : ∀ I h' o, Fx Γ A env outer h₀ L h' l ((I, o) :: nw) → (∀ p ∈ nw, p.1 < I) → XIt Γ A I xs.length (fun i v => xs[i]? = some v) (TupIt I a xs) → TupIt I a xs 0 ((I, o) :: nw) → Q (.ref I) (S Γ h' t)) :
    wpAny (model PG Γ.w) A (pyIter (.ref a)) Q E (S Γ h t) := by
  have lt : ∀ p ∈ nw, p.1 < h.objs.size := fun p hp => c.lt hp
  have hne : a ≠ h.objs.size := by
    obtain ⟨_, o, n, m, _⟩ := m
    exact Nat.ne_of_lt (lt _ m)
  exact wpAny_pyIter_tuple (m.isTup c) (q _ _ _ (c.push _) lt (xit_tup hne) ⟨⟨_, .head _, rfl, rfl⟩, m.keep Keep.cons (W := fun _ => False) id⟩)
/-! `range(n)` -/
abbrev rangeItO (i n : Nat) : Obj := { cls := .type "range_iterator", dict := none, data := .fields #[rawInt i, rawInt ((n : Int) - i), rawInt 1], slots := #[] }
def RngIt (I : Addr) (n i : Nat) (nw : Led) : Prop := (I, rangeItO i n) ∈ nw
theorem xit_rng {n : Nat} : XIt Γ A I n (fun i v => ∃ t, v = .int i t) (RngIt I n) where
  item := fun {env outer h₀ L h l nw t Q E i} hi c hI q => by
    refine wpAny_pyNext_range_item (c.get hI) (by omega) fun h' hit sb => ?_
    have e : rangeItO (i + 1) n = { cls := .type "range_iterator", dict := none, data := .fields #[rawInt ((i : Int) + 1), rawInt ((n : Int) - i - 1), rawInt 1], slots := #[] } := by
      show rangeItO (i + 1) n = _
      unfold rangeItO
      rw [show ((n : Int) - (i + 1 : Nat)) = (n : Int) - i - 1 by omega]
      rfl
    refine q _ h' _ (rangeItO (i + 1) n) ⟨_, rfl⟩ (c.upd hI sb (by rw [e]; exact hit)) (mem_put_self hI)
  done := fun {env outer h₀ L h l nw t Q E} c hI q => wpAny_pyNext_range_end c.hh (c.get hI) (by omega) fun h' e => q h' _ (c.ext hI e) keep_drop
theorem xiter_rng (c : Fx Γ A env outer h₀ L h l nw) {n : Nat} {tn : Tok} {Q : Value → Shared → Prop} (hz : n ≤ 1000)
    (q : ∀ I h' t' r o, Fx Γ A env outer h₀ L h' l ((I, rangeItO 0 n) :: (r, o) :: nw) → (∀ p ∈ nw, p.1 < r) → r < I → XIt Γ A I n (fun i v => ∃ t, v = .int i t) (RngIt I n) → Q (.ref I) (S Γ h' t')) :
    wpAny (model PG Γ.w) A (call (.type "range") [.int n tn]) (fun x s₁ => wpAny (model PG Γ.w) A (pyIter x) Q E s₁) E (S Γ h t) := by
  refine call_range_1 ?_
  have c1 := c.push { cls := .type "range", data := .fields #[.int 0 t, .int n tn, .int 1 (t + 1)] }
  refine wpAny_pyIter_range (s := S Γ (h.push { cls := .type "range", data := .fields #[.int 0 t, .int n tn, .int 1 (t + 1)] }) (t + 1 + 1)) (IsRange.new ..) (small_one (by decide) (by decide) (by omega) (by omega)) ?_
  have e : rangeItO 0 n = { cls := .type "range_iterator", data := .fields #[rawInt 0, rawInt (Builtin.Range.rangeSize 0 n 1), rawInt 1] } := by
    unfold rangeItO
    rw [rangeSize_one]
    have : (if (0 : Int) < n then (n : Int) - 0 else 0) = (n : Int) - (0 : Nat) := by split <;> omega
    rw [this]
    rfl
  rw [← e]
  exact q _ _ _ _ _ (c1.push (rangeItO 0 n)) (fun p hp => c.lt hp) (c1.lt (.head _)) xit_rng
end

section
variable {Γ : Gm} {A : Around} {env : Env} {outer : List Env} {h₀ : Heap} {L : Addr} {h : Heap} {l : Loc} {nw : Led}
theorem IsW.ne_obj (c : Fx Γ A env outer h₀ L h l nw) {T : String} {a I : Addr} {xs : List Value} {o : Obj} (m : IsW T nw a xs) (hI : (I, o) ∈ nw) (e : ∀ xs n, o.data ≠ .seq xs n) : a ≠ I := fun q => by
  subst q
  obtain ⟨_, o', n, m, _, h2⟩ := m
  rw [c.uniq m hI] at h2
  exact e _ _ h2
theorem ListIt.ne (c : Fx Γ A env outer h₀ L h l nw) {I b : Addr} {xs : List Value} {i : Nat} (hI : ListIt I b xs i nw) {T : String} {a : Addr} {ys : List Value} (m : IsW T nw a ys) : a ≠ I := by
  obtain ⟨⟨o, mo, _, hd⟩, _⟩ := hI
  exact m.ne_obj c mo fun xs n e => by rw [hd] at e; cases e
theorem TupIt.ne (c : Fx Γ A env outer h₀ L h l nw) {I b : Addr} {xs : List Value} {i : Nat} (hI : TupIt I b xs i nw) {T : String} {a : Addr} {ys : List Value} (m : IsW T nw a ys) : a ≠ I := by
  obtain ⟨⟨o, mo, _, hd⟩, _⟩ := hI
  exact m.ne_obj c mo fun xs n e => by rw [hd] at e; cases e
theorem RngIt.ne (c : Fx Γ A env outer h₀ L h l nw) {I : Addr} {n i : Nat} (hI : RngIt I n i nw) {T : String} {a : Addr} {ys : List Value} (m : IsW T nw a ys) : a ≠ I := m.ne_obj c hI fun xs n e => by cases e
end


/-! a piece of a text -/
theorem slice_eq {x : Str} {p j : Nat} (h1 : p ≤ j) (h2 : j ≤ x.length) : Txt.slice x (some (p : Int)) (some (j : Int)) = ⟨((x.cps.toList.drop p).take (j - p)).toArray⟩ := by
  have := slice_closes (x := x) (i := p) (j := j) ⟨by omega, by omega, by show (j : Int) ≤ x.cps.size; have : x.length = x.cps.size := rfl; omega⟩
  have e := eq_of_beq this
  rw [e]
  congr 3
  omega
theorem slice_past {x : Str} {p j : Nat} (h : x.length ≤ j) : Txt.slice x (some (p : Int)) (some (j : Int)) = Txt.slice x (some (p : Int)) (some (x.length : Int)) := by
  have e : PySem.Builtin.Str.strSliceIndices (some (p : Int)) (some (j : Int)) 1 x.length = PySem.Builtin.Str.strSliceIndices (some (p : Int)) (some (x.length : Int)) 1 x.length := by
    have a1 : ¬ ((j : Int) < 0) := by omega
    have a2 : ¬ ((x.length : Int) < 0) := by omega
    have a3 : ¬ ((p : Int) < 0) := by omega
    have e : max (0 : Int) (min (j : Int) (x.length : Int)) = max 0 (min (x.length : Int) (x.length : Int)) := by omega
    simp [PySem.Builtin.Str.strSliceIndices, a1, a2, a3, e]
  unfold Txt.slice
  rw [e]
theorem slice_lit {tx lit : Str} {p : Nat} (hp : p ≤ tx.length) : (Txt.slice tx (some (p : Int)) (some ((p : Int) + (lit.length : Nat))) == lit) = litAt tx lit p := by
  rw [show ((p : Int) + (lit.length : Nat)) = ((p + lit.length : Nat) : Int) by omega]
  have hx : tx.length = tx.cps.size := rfl
  have hl : lit.length = lit.cps.size := rfl
  unfold litAt
  by_cases h : p + lit.length ≤ tx.length
  · rw [slice_eq (by omega) h, decide_eq_true h, Bool.true_and]
    unfold PySem.Builtin.Str.subAt
    have e : tx.cps.extract p (p + lit.length) = ((tx.cps.toList.drop p).take (p + lit.length - p)).toArray := by
      apply Array.ext'
      rw [Array.toList_extract]
    rw [e]
    obtain ⟨cps⟩ := lit
    rw [Bool.eq_iff_iff, beq_iff_eq, beq_iff_eq]
    exact ⟨fun q => congrArg Str.cps q, fun q => congrArg Str.mk q⟩
  · rw [slice_past (by omega), slice_eq hp (Nat.le_refl _), decide_eq_false h, Bool.false_and]
    rw [beq_eq_false_iff_ne]
    intro e
    have := congrArg (fun s : Str => s.cps.size) e
    simp only [List.size_toArray, List.length_take, List.length_drop, Array.length_toList] at this
    omega
section
variable {Γ : Gm} {A : Around} {env : Env} {outer : List Env} {h₀ : Heap} {L : Addr} {h h' : Heap} {l l' : Loc} {nw : Led} {t : Nat} {E : Value → Shared → Prop} {pos : Pos}
theorem xSlice2 {M : Model} {s : Shared} {lo hi : Expr} {p : Pos} {Q : Value → Shared → Prop}
    (hq : wpAny M A (eval lo env) (fun a s₁ => wpAny M A (eval hi env) (fun b s₂ => Q (.ref s₂.heap.objs.size) { s₂ with heap := s₂.heap.push { cls := .type "slice", data := .fields #[a, b, .none] } }) E s₁) E s) :
    wpAny M A (eval (.Slice (some lo) (some hi) none p) env) Q E s := by
  rw [arm_eval_Slice]
  refine wpAny_bind (wpAny_mono hq (fun a s₁ h₁ => ?_) fun _ _ x => x)
  refine wpAny_bind (wpAny_holding (wpAny_mono h₁ (fun b s₂ h₂ => ?_) fun _ _ x => x))
  refine wpAny_bind (wpAny_holding (wpAny_pure ?_))
  exact wpAny_newObj_type h₂
theorem xsliceS (c : Fx Γ A env outer h₀ L h l nw) {value slice : Expr} {x : Str} {u ui uj : Tok} {i j : Int} {Q : Value → Shared → Prop} (hsz : x.length ≤ 1000)
    (q : ∀ h' t' t2, Fx Γ A env outer h₀ L h' l nw → Q (.str (Txt.slice x (some i) (some j)) t2) (S Γ h' t'))
    (hs : subscripted slice false (.str x u) (.ref h.objs.size) = operate [.ref h.objs.size, .str x u] (getItem (.str x u) (.ref h.objs.size)) := by with_unfolding_all rfl)
    (ht : ∀ r, letTemporaryGo value (.str x u) r = pure () := by intro _; with_unfolding_all rfl) :
    wpAny (model PG Γ.w) A (subscriptTail value slice (.str x u) (.ref h.objs.size)) Q E (S Γ (h.push { cls := .type "slice", data := .fields #[.int i ui, .int j uj, .none] }) t) :=
  slice_strN_ss_len (s := S Γ h t) c.F c.N (fun h' t' k F' N' _ => q h' k t' { c with F := F', N := N' }) hs ht (by rw [line_is]; omega)
end


local macro_rules | `(tactic| walk_at "m:s") => `(tactic| first
  | ((with_reducible show wpAny _ _ (exec (PySem.Stmt.Assign [PySem.Expr.Subscript _ _ _] _ _) _) _ _ _); refine wpAny_Assign_Subscript ?_)
  | ((with_reducible show wpAny _ _ (compareOp PySem.CmpOp.Eq (Value.bool _) (Value.bool _)) _ _ _); refine eq_bool ?_)
  | ((with_reducible show wpAny _ _ (compareOp PySem.CmpOp.NotEq (Value.bool _) (Value.bool _)) _ _ _); refine ne_bool ?_))


/-! the own reading -/
section
variable {Γ : Gm} {A : Around} {env : Env} {outer : List Env} {h₀ : Heap} {L : Addr} {h h' : Heap} {l l' : Loc} {nw : Led} {t : Nat} {E : Value → Shared → Prop} {pos : Pos}
def PlansOk (nw : Led) (pa n : Nat) (pl : Nat → Plan) : Prop := ∃ vs, IsW "list" nw pa vs ∧ ∀ k, k < n → ∃ v, vs[k]? = some v ∧ IsPlan nw v (pl k)
theorem IsW.ne_dict (c : Fx Γ A env outer h₀ L h l nw) {T : String} {a d : Addr} {xs : List Value} {o : Obj} {es ep} (m : IsW T nw a xs) (hd : (d, o) ∈ nw) (e : o.data = .dict es ep) : a ≠ d := fun q => by
  subst q
  obtain ⟨_, o', n, m, _, h2⟩ := m
  rw [c.uniq m hd, e] at h2
  cases h2
theorem PlansOk.keep {pa n : Nat} {pl : Nat → Plan} {W : Addr → Prop} {nw' : Led} (P : PlansOk nw pa n pl) (k : Keep W nw nw') (hW : ∀ {T a xs}, IsW T nw a xs → ¬ W a) : PlansOk nw' pa n pl := by
  obtain ⟨vs, h1, h2⟩ := P
  refine ⟨vs, h1.keep k (hW h1), fun j hj => ?_⟩
  obtain ⟨v, hv, a, t1, t2, t3, t4, t5, e, q⟩ := h2 j hj
  exact ⟨v, hv, a, t1, t2, t3, t4, t5, e, q.keep k (hW q.w)⟩
theorem SeenOk.apart (c : Fx Γ A env outer h₀ L h l nw) {d n len : Nat} {f : Nat → Nat → Int} {M : Memo} (S1 : SeenOk Γ nw d n len f M) {T a xs} (m : IsW T nw a xs) : ¬ (a = d) := by
  obtain ⟨_, o, es, ep, _, hm, _, hd, _⟩ := S1
  exact m.ne_dict c hm hd
theorem SeenOk.keep {d n len : Nat} {f : Nat → Nat → Int} {M : Memo} {W : Addr → Prop} {nw' : Led} (S1 : SeenOk Γ nw d n len f M) (k : Keep W nw nw') (hd : ¬ W d) (hW : ∀ {T a xs}, IsW T nw a xs → ¬ W a) : SeenOk Γ nw' d n len f M := by
  obtain ⟨h0, o, es, ep, xs, hm, h1, h2, h3, h4, h5, h6⟩ := S1
  refine ⟨h0, o, es, ep, xs, k _ hm hd, h1, h2, h3, h4, fun x hx => ?_, h6⟩
  obtain ⟨i, j, t1, t2, t3, m, e, hx, r⟩ := h5 x hx
  exact ⟨i, j, t1, t2, t3, m, e, k _ hx (hW (T := "tuple") (xs := [.int i t1, .int j t2]) ⟨Nat.le_of_ble_eq_true rfl, _, _, hx, rfl, rfl⟩), r⟩
theorem SeenOk.cons {d n len : Nat} {f : Nat → Nat → Int} {M : Memo} {q : Addr × Obj} (S1 : SeenOk Γ nw d n len f M) : SeenOk Γ (q :: nw) d n len f M := S1.keep (Keep.cons (W := fun _ => False)) id (fun _ => id)
theorem PlansOk.cons {pa n : Nat} {pl : Nat → Plan} {q : Addr × Obj} (P : PlansOk nw pa n pl) : PlansOk (q :: nw) pa n pl := P.keep (Keep.cons (W := fun _ => False)) (fun _ => id)
abbrev fE (pl : Nat → Plan) (tx : Str) : Nat → Nat → Int := fun k p => endI (ev pl tx k p)
def CallOk (Γ : Gm) (n : Nat) (pl : Nat → Plan) (tx : Str) (fn : Addr) (rm k : Nat) (mem : Nat → Nat → Memo → Memo) : Prop :=
  ∀ {A : Around} {env : Env} {outer : List Env} {h₀ : Heap} {L : Addr} {h : Heap} {l : Loc} {nw : Led} {t : Nat} {E : Value → Shared → Prop} {pa sa p : Nat} {tk tt tp : Tok} {M : Memo} {R : Value → Shared → Prop},
    Fx Γ A env outer h₀ L h l nw → Room A rm → PlansOk nw pa n pl → SeenOk Γ nw sa n tx.length (fE pl tx) M → p ≤ tx.length →
    (∀ h' t' t3 nw', Fx Γ A env outer h₀ L h' l nw' → Keep (· = sa) nw nw' → SeenOk Γ nw' sa n tx.length (fE pl tx) (mem k p M) → R (.int (endI (ev pl tx k p)) t3) (S Γ h' t')) →
    wpAny (model PG Γ.w) A (call (.ref fn) [.ref pa, .int k tk, .str tx tt, .int p tp, .ref sa] []) R E (S Γ h t)
variable {n : Nat} {pl : Nat → Plan} {tx : Str} (hok : ∀ j, j < n → (pl j).ok j) (hz : n * (tx.length + 1) ≤ 1000) (htx : tx.length ≤ 900)
include hok hz
set_option maxRecDepth 100000 in
set_option maxHeartbeats 8000000 in
theorem read_of {k : Nat} (hk : k < n) (ask : CallOk Γ n pl tx 543 (3 * k + 2) k (asked pl tx)) : CallOk Γ n pl tx 536 (3 * k + 3) k (run pl tx) := by
  intro A env outer h₀ L h l nw t E pa sa p tk tt tp M R c r hP hS hp q
  refine enter0 (args := ⟨[.ref pa, .int k tk, .str tx tt, .int p tp, .ref sa], []⟩) (binds := [("plans", .ref pa), ("k", .int k tk), ("text", .str tx tt), ("place", .int p tp), ("seen", .ref sa)]) [] [("plans", some (.ref pa)), ("k", some (.int k tk)), ("text", some (.str tx tt)), ("place", some (.int p tp)), ("seen", some (.ref sa))] c (3 * k + 2) r rfl (by rfl) (BindsTo.of_eq rfl) rfl rfl (by rfl) ?_ rfl rfl rfl (by decide)
  intro A' env' g L' h₁ t' Q he c' r' back
  walk_at "m:go"
  rename Fx _ _ _ _ _ _ _ _ _ => c2
  rename IsQ "tuple" _ _ _ => m2
  obtain ⟨_, n2, m2⟩ := m2
  refine xseen_notin c2 (r'.mono (Nat.zero_le _)) hS.cons m2 fun t2 => ?_
  walk_at "m:go"
  have fin : ∀ {h3 t3 nw3 l3} (a : Nat) (u1 u2 : Tok) (m3 : Nat), Fx Γ A' env' (env :: outer) g L' h3 l3 nw3 → SeenOk Γ nw3 sa n tx.length (fE pl tx) (run pl tx k p M) → Keep (· = sa) nw nw3 → (a, seqO "tuple" [.int k u1, .int p u2] m3) ∈ nw3 →
      ∀ {value slice : Expr}, (subscripted slice false (.ref sa) (.ref a) = operate [.ref sa, .ref a] (getItem (.ref sa) (.ref a))) → (∀ r, letTemporaryGo value (.ref sa) r = pure ()) →
      wpAny (model PG Γ.w) A' (subscriptTail value slice (.ref sa) (.ref a)) (fun v s' => Q (.ret v) s') (fun _ _ => False) (S Γ h3 t3) := by
    intro h3 t3 nw3 l3 a u1 u2 m3 c3 S3 k3 ha value slice e1 e2
    exact xseen_item c3 (r'.mono (Nat.zero_le _)) S3 ha (run_self (hok k hk)) (fun t4 t5 => (back _ _ ⟨_, _, c3, fun cc => q _ _ _ _ cc k3 S3⟩).1) e1 e2
  have re := run_eq (pl := pl) (tx := tx) (k := k) (p := p) (M := M) (hok k hk)
  split
  · rename_i hM
    rw [if_neg (by simpa using hM)] at re
    walk_at "m:go"
    refine ask c2 r' hP.cons hS.cons hp fun h3 t3 t4 nw3 c3 k3 S3 => ?_
    walk_at "m:go"
    rename Fx _ _ _ _ _ _ _ _ _ => c4
    rename IsQ "tuple" (_ :: nw3) _ _ => m4
    obtain ⟨_, n4, m4⟩ := m4
    refine xseen_set (f := fE pl tx) (k := k) (p := p) c4 (r'.mono (Nat.zero_le _)) S3.cons m4 hk hp hz fun h5 t5 o5 c5 S5 => ?_
    walk_at "m:go"
    rename Fx _ _ _ _ _ _ _ _ _ => c6
    rename IsQ "tuple" (_ :: put _ _ _) _ _ => m6
    obtain ⟨_, n6, m6⟩ := m6
    exact fin _ _ _ _ c6 (re.symm ▸ S5.cons) ((((Keep.cons.trans k3).trans Keep.cons).trans Keep.put).trans Keep.cons) m6 (by with_unfolding_all rfl) (by intro _; with_unfolding_all rfl)
  · rename_i hM
    rw [if_pos (by simpa using hM)] at re
    walk_at "m:go"
    rename Fx _ _ _ _ _ _ _ _ _ => c4
    rename IsQ "tuple" (_ :: _ :: nw) _ _ => m4
    obtain ⟨_, n4, m4⟩ := m4
    exact fin _ _ _ _ c4 (re.symm ▸ hS.cons.cons) (Keep.cons.trans Keep.cons) m4 (by with_unfolding_all rfl) (by intro _; with_unfolding_all rfl)
end


section
variable {Γ : Gm} {A : Around} {env : Env} {outer : List Env} {h₀ : Heap} {L : Addr} {h h' : Heap} {l l' : Loc} {nw : Led} {t : Nat} {E : Value → Shared → Prop} {pos : Pos}
theorem xload (c : Fx Γ A env outer h₀ L h l nw) {x v} {Q : Value → Shared → Prop} (hl : LkR l x v) (hk : env.kindOf x = some .local) (q : Q v (S Γ h t)) : wpAny (model PG Γ.w) A (loadName env x) Q E (S Γ h t) :=
  wpAny_loadName_local c.hk hk (by rw [c.loc]; exact c.F.ns) (hl.look c.nl) q
theorem xlenS {x : Str} {u : Tok} {Q : Value → Shared → Prop} (hsz : x.length ≤ 1000) (q : ∀ t' u', Q (.int (x.length : Nat) u') (S Γ h t')) : wpAny (model PG Γ.w) A (call (.builtin "len") [.str x u]) Q E (S Γ h t) :=
  len_writK x.length rfl (by omega) (q _ _)
variable {n : Nat} {pl : Nat → Plan} {tx : Str} (hok : ∀ j, j < n → (pl j).ok j) (hz : n * (tx.length + 1) ≤ 1000) (htx : tx.length ≤ 900)
include hok hz htx
set_option maxRecDepth 100000 in
set_option maxHeartbeats 8000000 in
theorem ask_of {k : Nat} (hk : k < n) (many : ∀ a least most, pl k = .many a least most → CallOk Γ n pl tx 550 (3 * k + 1) k (asked pl tx)) (read : ∀ j, j < k → CallOk Γ n pl tx 536 (3 * j + 3) j (run pl tx)) : CallOk Γ n pl tx 543 (3 * k + 2) k (asked pl tx) := by
  intro A env outer h₀ L h l nw t E pa sa p tk tt tp M R c r hP hS hp q
  refine enter0 (args := ⟨[.ref pa, .int k tk, .str tx tt, .int p tp, .ref sa], []⟩) (binds := [("plans", .ref pa), ("k", .int k tk), ("text", .str tx tt), ("place", .int p tp), ("seen", .ref sa)]) ["kind", "one", "two", "more", "most", "end"] [("plans", some (.ref pa)), ("k", some (.int k tk)), ("text", some (.str tx tt)), ("place", some (.int p tp)), ("seen", some (.ref sa)), ("kind", none), ("one", none), ("two", none), ("more", none), ("most", none), ("end", none)] c (3 * k + 1) r rfl (by rfl) (BindsTo.of_eq rfl) rfl rfl (by rfl) ?_ rfl rfl rfl (by decide)
  intro A' env' g L' h₁ t' Q he c' r' back
  walk_at "m:go"
  obtain ⟨vs, hl, hpl⟩ := id hP
  obtain ⟨v, hv, pa2, t1, t2, t3, t4, t5, rfl, hpk⟩ := hpl k hk
  refine xitem c' hl (Int.natCast_nonneg _) hv ?_
  walk_at "m:go"
  refine xunpack c' hpk.w (by rfl) (by rfl) fun h2 c2 => ?_
  walk_at "m:go"
  rename Fx _ _ _ _ _ _ _ _ _ => c3
  have ok := hok k hk
  have fin : ∀ {h3 t3 nw3 l3} {x : Int} {u : Tok}, Fx Γ A' env' (env :: outer) g L' h3 l3 nw3 → SeenOk Γ nw3 sa n tx.length (fE pl tx) (asked pl tx k p M) → Keep (· = sa) nw nw3 → x = endI (ev pl tx k p) → Q (.ret (.int x u)) (S Γ h3 t3) := by
    intro h3 t3 nw3 l3 x u c3 S3 k3 e
    subst e
    exact (back _ _ ⟨_, _, c3, fun cc => q _ _ _ _ cc k3 S3⟩).1
  clear hpk hv hpl
  have rd : ∀ {j p' : Nat} {tj tp' : Tok} {h3 t3 nw3 l3} {M3 : Memo} {R : Value → Shared → Prop}, j < k → p' ≤ tx.length → Fx Γ A' env' (env :: outer) g L' h3 l3 nw3 → SeenOk Γ nw3 sa n tx.length (fE pl tx) M3 → Keep (· = sa) nw nw3 →
      (∀ h4 t4 t5 nw4, Fx Γ A' env' (env :: outer) g L' h4 l3 nw4 → SeenOk Γ nw4 sa n tx.length (fE pl tx) (run pl tx j p' M3) → Keep (· = sa) nw nw4 → R (.int (endI (ev pl tx j p')) t5) (S Γ h4 t4)) →
      wpAny (model PG Γ.w) A' (call (.ref 536) [.ref pa, .int j tj, .str tx tt, .int p' tp', .ref sa] []) R (fun _ _ => False) (S Γ h3 t3) := by
    intro j p' tj tp' h3 t3 nw3 l3 M3 R hj hp' c3 S3 k3 q3
    refine read j hj c3 (r'.mono (by omega)) (hP.keep k3 fun m => hS.apart c m) S3 hp' fun h4 t4 t5 nw4 c4 k4 S4 => ?_
    exact q3 h4 t4 t5 nw4 c4 S4 (k3.trans k4)
  have lt := Plan.ok_lt ok
  cases e : pl k with
  | word lit =>
    have ek := ev_word (tx := tx) (p := p) e
    have ea : asked pl tx k p M = M := by unfold asked; simp only [e]
    rw [e] at ok c3
    dsimp only [Plan.one, Plan.two, Plan.kind, Plan.most, Plan.more] at c3
    have hl2 : lit.length ≤ 2 := by
      have : ∀ x ∈ lits, x.length ≤ 2 := by decide
      exact this lit ok
    walk_at "m:yes"
    walk_at "m:go"
    refine xSlice2 ?_
    walk_at "m:go"
    refine xlenS (x := lit) (by omega) fun t6 u6 => ?_
    walk_at "m:go"
    refine xsliceS c3 (by omega) fun h7 t7 u7 c7 => ?_
    walk_at "m:go"
    rw [slice_lit hp]
    split
    · rename_i hl
      rw [if_pos hl] at ek
      walk_at "m:go"
      refine xlenS (x := lit) (by omega) fun t6 u6 => ?_
      walk_at "m:go"
      exact fin c7 (ea.symm ▸ hS) Keep.refl (by rw [ek]; show _ = ((p + lit.length : Nat) : Int); omega)
    · rename_i hl
      rw [if_neg hl] at ek
      walk_at "m:go"
      exact fin c7 (ea.symm ▸ hS) Keep.refl (by rw [ek]; rfl)
  | chain a b =>
    have ek := ev_chain (tx := tx) (p := p) e ok
    have ea : asked pl tx k p M = match ev pl tx a p with
      | none => run pl tx a p M
      | some x => run pl tx b x.e (run pl tx a p M) := by unfold asked; simp only [e] <;> cases ev pl tx a p <;> rfl
    obtain ⟨l1, l2⟩ := lt.1 a b e
    rw [e] at c3
    dsimp only [Plan.one, Plan.two, Plan.kind, Plan.most, Plan.more] at c3
    walk_at "m:no"
    walk_at "m:go"
    walk_at "m:no"
    walk_at "m:go"
    refine rd l1 hp c3 hS Keep.refl fun h4 t4 t5 nw4 c4 S4 k4 => ?_
    walk_at "m:go"
    rename Fx _ _ _ _ _ _ _ _ _ => c5
    walk_at "m:yes"
    walk_at "m:go"
    cases hev : ev pl tx a p with
    | none =>
      rw [hev] at ek ea c5
      dsimp only at ek ea
      walk_at "m:yes"
      walk_at "m:go"
      exact fin c5 (ea.symm ▸ S4) k4 (by rw [ek])
    | some x =>
      rw [hev] at ek ea c5
      dsimp only at ek ea
      obtain ⟨_, _, h5, h6⟩ := ev_ok hok a (Nat.lt_trans l1 hk) p x hp hev
      rw [if_neg (by show ¬ (decide ((x.e : Int) < 0) = true); simp)]
      walk_at "m:go"
      refine rd l2 h6 c5 S4 k4 fun h7 t7 t8 nw7 c7 S7 k7 => ?_
      refine fin c7 (ea.symm ▸ S7) k7 ?_
      rw [ek]
      cases hev2 : ev pl tx b x.e <;> rfl
  | choice a b =>
    have ek := ev_choice (tx := tx) (p := p) e ok
    have ea : asked pl tx k p M = match ev pl tx a p with
      | some _ => run pl tx a p M
      | none => run pl tx b p (run pl tx a p M) := by unfold asked; simp only [e] <;> cases ev pl tx a p <;> rfl
    obtain ⟨l1, l2⟩ := lt.2.1 a b e
    rw [e] at c3
    dsimp only [Plan.one, Plan.two, Plan.kind, Plan.most, Plan.more] at c3
    walk_at "m:no"
    walk_at "m:go"
    walk_at "m:no"
    walk_at "m:go"
    refine rd l1 hp c3 hS Keep.refl fun h4 t4 t5 nw4 c4 S4 k4 => ?_
    walk_at "m:go"
    rename Fx _ _ _ _ _ _ _ _ _ => c5
    walk_at "m:no"
    walk_at "m:go"
    walk_at "m:yes"
    walk_at "m:go"
    cases hev : ev pl tx a p with
    | some x =>
      rw [hev] at ek ea c5
      dsimp only at ek ea
      rw [if_pos (by show decide ((x.e : Int) ≥ 0) = true; simp)]
      walk_at "m:go"
      exact fin c5 (ea.symm ▸ S4) k4 (by rw [ek]; rfl)
    | none =>
      rw [hev] at ek ea c5
      dsimp only at ek ea
      walk_at "m:no"
      walk_at "m:go"
      refine rd l2 hp c5 S4 k4 fun h7 t7 t8 nw7 c7 S7 k7 => ?_
      refine fin c7 (ea.symm ▸ S7) k7 ?_
      rw [ek]
      cases hev2 : ev pl tx b p <;> rfl
  | look neg a =>
    have ek := ev_look (tx := tx) (p := p) e ok
    have ea : asked pl tx k p M = run pl tx a p M := by unfold asked; simp only [e]
    have l1 := lt.2.2.1 neg a e
    rw [e] at c3
    dsimp only [Plan.one, Plan.two, Plan.most, Plan.more] at c3
    have k1 : ((Plan.look neg a).kind == Str.ofString "word") = false := by cases neg <;> rfl
    have k2 : ((Plan.look neg a).kind == Str.ofString "many") = false := by cases neg <;> rfl
    have k3 : ((Plan.look neg a).kind == Str.ofString "chain") = false := by cases neg <;> rfl
    have k4 : ((Plan.look neg a).kind == Str.ofString "choice") = false := by cases neg <;> rfl
    have k5 : ((Plan.look neg a).kind == Str.ofString "unseen") = neg := by cases neg <;> rfl
    rw [if_neg (Bool.eq_false_iff.mp k1)]
    walk_at "m:go"
    rw [if_neg (Bool.eq_false_iff.mp k2)]
    walk_at "m:go"
    refine rd l1 hp c3 hS Keep.refl fun h4 t4 t5 nw4 c4 S4 k4' => ?_
    walk_at "m:go"
    rename Fx _ _ _ _ _ _ _ _ _ => c6
    rw [if_neg (Bool.eq_false_iff.mp k3)]
    walk_at "m:go"
    rw [if_neg (Bool.eq_false_iff.mp k4)]
    walk_at "m:go"
    have sg : decide (endI (ev pl tx a p) < 0) = (ev pl tx a p).isNone := by
      cases ev pl tx a p with
      | none => rfl
      | some x => show decide ((x.e : Int) < 0) = false; simp
    rw [sg, k5]
    split
    · rename_i hb
      rw [if_pos (eq_of_beq hb)] at ek
      walk_at "m:go"
      exact fin c6 (ea.symm ▸ S4) k4' (by rw [ek]; rfl)
    · rename_i hb
      rw [if_neg (fun e => hb (by rw [e]; exact beq_self_eq_true _))] at ek
      walk_at "m:go"
      exact fin c6 (ea.symm ▸ S4) k4' (by rw [ek]; rfl)
  | many a least most =>
    have l1 := lt.2.2.2 a least most e
    rw [e] at c3
    dsimp only [Plan.one, Plan.two, Plan.kind, Plan.most, Plan.more] at c3
    walk_at "m:no"
    walk_at "m:go"
    walk_at "m:yes"
    walk_at "m:go"
    refine many a least most e c3 r' hP hS hp fun h4 t4 t5 nw4 c4 k4 S4 => ?_
    exact fin c4 S4 k4 rfl
end


local macro_rules | `(tactic| walk_at "m:s") => `(tactic| first
  | ((with_reducible show wpAny _ _ (loadName _ _) _ _ _); refine xload (by assumption) (by walk_at "m:lk") (by walk_at "m:kd") ?_)
  | ((with_reducible show wpAny _ _ (exec (PySem.Stmt.For _ _ _ _ _) _) _ _ _); refine xFor ?_))


abbrev manyL (pa k : Nat) (tk : Tok) (tx : Str) (tt : Tok) (pe : Nat) (u1 : Tok) (sa : Nat) (t1 : Tok) (a : Nat) (t2 t3 : Tok) (least : Nat) (t4 : Tok) (mx : Int) (t5 : Tok) (cnt : Nat) (u2 : Tok) (av dv : Option Value) : Loc :=
  [("plans", some (.ref pa)), ("k", some (.int k tk)), ("text", some (.str tx tt)), ("place", some (.int pe u1)), ("seen", some (.ref sa)), ("kind", some (.str (Str.ofString "many") t1)), ("one", some (.int a t2)), ("two", some (.int (0 : Nat) t3)), ("least", some (.int least t4)), ("most", some (.int mx t5)), ("count", some (.int cnt u2)), ("again", av), ("end", dv)]
section
variable {Γ : Gm} {A : Around} {env : Env} {outer : List Env} {h₀ : Heap} {L : Addr} {h h' : Heap} {l l' : Loc} {nw : Led} {t : Nat} {E : Value → Shared → Prop} {pos : Pos}
variable {n : Nat} {pl : Nat → Plan} {tx : Str} (hok : ∀ j, j < n → (pl j).ok j) (hz : n * (tx.length + 1) ≤ 1000) (htx : tx.length ≤ 900)
include hok hz htx
set_option maxRecDepth 100000 in
set_option maxHeartbeats 8000000 in
theorem many_of {k : Nat} (hk : k < n) (read : ∀ j, j < k → CallOk Γ n pl tx 536 (3 * j + 3) j (run pl tx)) : ∀ a least most, pl k = .many a least most → CallOk Γ n pl tx 550 (3 * k + 1) k (asked pl tx) := by
  intro a least most e A env outer h₀ L h l nw t E pa sa p tk tt tp M R c r hP hS hp q
  refine enter0 (args := ⟨[.ref pa, .int k tk, .str tx tt, .int p tp, .ref sa], []⟩) (binds := [("plans", .ref pa), ("k", .int k tk), ("text", .str tx tt), ("place", .int p tp), ("seen", .ref sa)]) ["kind", "one", "two", "least", "most", "count", "again", "end"] [("plans", some (.ref pa)), ("k", some (.int k tk)), ("text", some (.str tx tt)), ("place", some (.int p tp)), ("seen", some (.ref sa)), ("kind", none), ("one", none), ("two", none), ("least", none), ("most", none), ("count", none), ("again", none), ("end", none)] c (3 * k) r rfl (by rfl) (BindsTo.of_eq rfl) rfl rfl (by rfl) ?_ rfl rfl rfl (by decide)
  intro A' env' g L' h₁ t' Q he c' r' back
  walk_at "m:go"
  obtain ⟨vs, hl, hpl⟩ := id hP
  obtain ⟨v, hv, pa2, t1, t2, t30, t4, t5, rfl, hpk⟩ := hpl k hk
  rw [e] at hpk
  refine xitem c' hl (Int.natCast_nonneg _) hv ?_
  walk_at "m:go"
  refine xunpack c' hpk.w (by rfl) (by rfl) fun h2 c2 => ?_
  dsimp only [Plan.one, Plan.two, Plan.kind, Plan.most, Plan.more]
  walk_at "m:go"
  rename Fx _ _ _ _ _ _ _ _ _ => c3
  have ok := hok k hk
  have l1 := (Plan.ok_lt ok).2.2.2 a least most e
  have ek := ev_many (tx := tx) (p := p) e ok
  have ea : asked pl tx k p M = (turns (fun q => ev pl tx a q) least most tx.length (tx.length + 4) p []).1.foldl (fun M q => run pl tx a q M) M := by unfold asked; simp only [e]
  walk_at "m:go"
  refine xlenS (by omega) fun t6 u6 => ?_
  walk_at "m:go"
  rw [show (tx.length : Int) + 4 = ((tx.length + 4 : Nat) : Int) from rfl]
  generalize hT : turns (fun q => ev pl tx a q) least most tx.length (tx.length + 4) p [] = T at ek ea
  have lt : ∀ {W : Addr → Prop} {nw3}, Keep (· = sa) nw nw3 → PlansOk nw3 pa n pl := fun k3 => hP.keep k3 fun m => hS.apart c m
  refine xiter_rng c3 (n := tx.length + 4) (by omega) fun I h5 t5' rr o5 c5 lr lI X => ?_
  have hI : ∀ p ∈ nw, p.1 < I := fun p hp => Nat.lt_trans (lr p hp) lI
  have mx0 : ∀ m : Nat, ((m : Int) == (Plan.many a least most).most) = true ↔ most = some m := fun m => by
    rw [beq_iff_eq]
    cases most with
    | none =>
      show (m : Int) = -1 ↔ none = some m
      exact ⟨fun q => by omega, fun q => by cases q⟩
    | some j =>
      show (m : Int) = (j : Int) ↔ some j = some m
      exact ⟨fun q => by rw [show j = m by omega], fun q => by cases q; rfl⟩
  refine codeAny_mono (R := fun r s' => match r with
    | .ok .next => ∃ h3 t3 nw3 pe ks u1 u2 av dv, s' = S Γ h3 t3 ∧ Fx Γ A' env' (env :: outer) g L' h3 (manyL pa k tk tx tt pe u1 sa t1 a t2 t30 least t4 (Plan.many a least most).most t5 (ks : List Tree).length u2 av dv) nw3 ∧
        SeenOk Γ nw3 sa n tx.length (fE pl tx) (asked pl tx k p M) ∧ Keep (· = sa) nw nw3 ∧ T.2 = (pe, ks)
    | _ => False) ?_ fun r s' z => ?_
  rotate_left
  · match r, z with
    | .ok .next, z =>
      obtain ⟨h3, t3, nw3, pe, ks, u1, u2, av, dv, rfl, cz, Sz, kz, ez⟩ := z
      dsimp only at ek
      rw [ez] at ek
      dsimp only
      dsimp only at ek
      walk_at "m:go"
      split
      · rename_i hc
        walk_at "m:go"
        refine (back _ _ ⟨_, _, cz, fun cc => ?_⟩).1
        rw [if_pos (by have := of_decide_eq_true hc; omega)] at ek
        have hq := fun t' => q h3 t' u1 nw3 cc kz Sz
        rw [ek] at hq
        exact hq _
      · rename_i hc
        walk_at "m:go"
        refine (back _ _ ⟨_, _, cz, fun cc => ?_⟩).1
        rw [if_neg (by intro e; exact hc (decide_eq_true (by omega)))] at ek
        have hq := fun t' u => q h3 t' u nw3 cc kz Sz
        rw [ek] at hq
        exact hq _ _
  refine xforLoop X (fun i l3 nw3 => ∃ (pe : Nat) (ks : List Tree) (Mi : Memo) (u1 u2 : Tok) (av dv : Option Value), l3 = manyL pa k tk tx tt pe u1 sa t1 a t2 t30 least t4 (Plan.many a least most).most t5 ks.length u2 av dv ∧ pe ≤ tx.length ∧ SeenOk Γ nw3 sa n tx.length (fE pl tx) Mi ∧ Keep (· = sa) nw nw3 ∧
      T.2 = (turns (fun q => ev pl tx a q) least most tx.length (tx.length + 4 - i) pe ks).2 ∧
      T.1.foldl (fun M q => run pl tx a q M) M = (turns (fun q => ev pl tx a q) least most tx.length (tx.length + 4 - i) pe ks).1.foldl (fun M q => run pl tx a q M) Mi) c5 (.head _) ?_ ?_ ?_
  · exact ⟨p, [], M, _, _, none, none, rfl, hp, hS.cons.cons, Keep.cons.trans Keep.cons, by rw [Nat.sub_zero, hT], by rw [Nat.sub_zero, hT]⟩
  · rintro i v h6 l6 nw6 t6' o6 hb hi ⟨ti, rfl⟩ cb itb c6 it6 ⟨pe, ks, Mi, u1, u2, av, dv, rfl, hpe, S6, k6, e1, e2⟩
    have aI : sa ≠ I := fun e => by
      obtain ⟨_, o, es, ep, _, hm, _, hd, _⟩ := S6
      rw [e] at hm
      rw [cb.uniq hm itb] at hd
      cases hd
    have S7 := S6.keep (Keep.put (a := I) (o := o6)) aI fun m => itb.ne cb m
    have k7 : Keep (· = sa) nw (put nw6 I o6) := fun p hp hn => by
      obtain ⟨b, ob⟩ := p
      exact mem_put_ne (k6 _ hp hn) (fun e => absurd (hI _ hp) (by rw [show b = I from e]; exact Nat.lt_irrefl _))
    clear S6 k6 cb itb
    have hF : tx.length + 4 - i = (tx.length + 4 - (i + 1)) + 1 := by omega
    rw [hF] at e1 e2
    unfold turns at e1 e2
    dsimp only at e1 e2
    refine wpAny_pure ?_
    walk_at "m:go"
    refine xlenS (by omega) fun t9 u9 => ?_
    walk_at "m:go"
    rename Fx _ _ _ _ _ _ _ _ _ => cX
    by_cases g1 : tx.length ≤ pe
    · rw [if_pos (by simpa using g1), if_pos rfl]
      walk_at "m:go"
      rw [if_pos (.inl g1)] at e1 e2
      exact ⟨_, _, _, pe, ks, u1, u2, _, dv, rfl, cX, by rw [ea, e2]; exact S7, k7, e1⟩
    rw [if_neg (by simpa using g1)]
    walk_at "m:go"
    by_cases g2 : most = some ks.length
    · rw [if_pos ((mx0 _).mpr g2), if_pos rfl]
      walk_at "m:go"
      rw [if_pos (.inr g2)] at e1 e2
      exact ⟨_, _, _, pe, ks, u1, u2, _, dv, rfl, cX, by rw [ea, e2]; exact S7, k7, e1⟩
    rw [if_neg fun q => g2 ((mx0 _).mp q)]
    walk_at "m:go"
    rw [if_neg (by decide)]
    rw [if_neg (fun q => q.elim g1 g2)] at e1 e2
    walk_at "m:go"
    refine read a l1 cX (r'.mono (by omega)) (lt (W := fun _ => False) k7) S7 hpe fun h8 t8 t81 nw8 c8 k8 S8 => ?_
    have it8 : RngIt I (tx.length + 4) (i + 1) nw8 := k8 _ it6 (fun e => aI e.symm)
    have k9 := k7.trans k8
    walk_at "m:go"
    rename Fx _ _ _ _ _ _ _ _ _ => c9
    cases hev : ev pl tx a pe with
    | none =>
      rw [hev] at e1 e2 c9
      walk_at "m:yes"
      walk_at "m:go"
      exact ⟨_, _, _, pe, ks, u1, u2, _, _, rfl, c9, by rw [ea, e2]; exact S8, k9, e1⟩
    | some x =>
      rw [hev] at e1 e2 c9
      obtain ⟨_, hs, h5', h6'⟩ := ev_ok hok a (Nat.lt_trans l1 hk) pe x hpe hev
      rw [if_neg (by show ¬ (decide ((x.e : Int) < 0) = true); simp)]
      walk_at "m:go"
      rename Fx _ _ _ _ _ _ _ _ _ => c10
      have ec : (ks.length : Int) + 1 = ((ks ++ [x]).length : Nat) := by simp
      rw [ec] at c10
      have more : ¬ (least ≤ ks.length + 1 ∧ x.e = pe) → ∀ {h11 l11 nw11 t11 u11 u12 av11}, Fx Γ A' env' (env :: outer) g L' h11 l11 nw11 → l11 = manyL pa k tk tx tt x.e u11 sa t1 a t2 t30 least t4 (Plan.many a least most).most t5 (ks ++ [x]).length u12 av11 (some (.int x.e u11)) → nw11 = nw8 →
          ∃ h' t' l' nw', S Γ h11 t11 = S Γ h' t' ∧ Fx Γ A' env' (env :: outer) g L' h' l' nw' ∧ RngIt I (tx.length + 4) (i + 1) nw' ∧
            ∃ (pe : Nat) (ks : List Tree) (Mi : Memo) (u1 u2 : Tok) (av dv : Option Value), l' = manyL pa k tk tx tt pe u1 sa t1 a t2 t30 least t4 (Plan.many a least most).most t5 ks.length u2 av dv ∧ pe ≤ tx.length ∧ SeenOk Γ nw' sa n tx.length (fE pl tx) Mi ∧ Keep (· = sa) nw nw' ∧
              T.2 = (turns (fun q => ev pl tx a q) least most tx.length (tx.length + 4 - (i + 1)) pe ks).2 ∧
              T.1.foldl (fun M q => run pl tx a q M) M = (turns (fun q => ev pl tx a q) least most tx.length (tx.length + 4 - (i + 1)) pe ks).1.foldl (fun M q => run pl tx a q M) Mi := by
        intro hn h11 l11 nw11 t11 u11 u12 av11 c11 el en
        subst en
        dsimp only at e1 e2
        rw [if_neg hn] at e1 e2
        exact ⟨h11, t11, l11, _, rfl, c11, it8, x.e, ks ++ [x], _, u11, u12, av11, _, el, h6', S8, k9, e1, e2⟩
      by_cases g3 : least ≤ ks.length + 1
      · rw [if_pos (decide_eq_true (by omega))]
        walk_at "m:go"
        by_cases g4 : x.e = pe
        · rw [if_pos (by show ((x.e : Int) == pe) = true; rw [g4]; exact beq_self_eq_true _)]
          walk_at "m:go"
          rw [if_pos rfl]
          walk_at "m:go"
          dsimp only at e1 e2
          rw [if_pos ⟨g3, g4⟩] at e1 e2
          exact ⟨_, _, _, pe, ks ++ [x], u1, _, _, _, rfl, c10, by rw [ea, e2]; exact S8, k9, e1⟩
        · rw [if_neg (by show ¬ ((x.e : Int) == pe) = true; rw [beq_iff_eq]; omega)]
          rw [if_neg (by decide)]
          walk_at "m:go"
          rename Fx _ _ _ _ _ _ _ _ _ => c11
          exact more (fun q => g4 q.2) c11 rfl rfl
      · rw [if_neg (by intro q; exact g3 (by have := of_decide_eq_true q; omega))]
        rw [if_neg (by decide)]
        walk_at "m:go"
        rename Fx _ _ _ _ _ _ _ _ _ => c11
        exact more (fun q => g3 q.1) c11 rfl rfl
  · rintro h6 l6 nw6 nw7 t6' hb cb itb c7 k7 ⟨pe, ks, Mi, u1, u2, av, dv, rfl, hpe, S6, k6, e1, e2⟩
    refine wpAny_execs_nil ?_
    have aI : sa ≠ I := fun e => by
      obtain ⟨_, o, es, ep, _, hm, _, hd, _⟩ := S6
      rw [e] at hm
      rw [cb.uniq hm itb] at hd
      cases hd
    have S7 := S6.keep k7 aI fun m => itb.ne cb m
    have k8 : Keep (· = sa) nw nw7 := fun p hp hn => k7 _ (k6 _ hp hn) (fun e => absurd (hI _ hp) (by rw [e]; exact Nat.lt_irrefl _))
    rw [Nat.sub_self] at e1 e2
    exact ⟨h6, t6', nw7, pe, ks, u1, u2, av, dv, rfl, c7, by rw [ea, e2]; exact S7, k8, e1⟩
/-- the own reading tells what the pieces read, and remembers just what was asked -/
theorem read_all : ∀ k, k < n → CallOk Γ n pl tx 536 (3 * k + 3) k (run pl tx) := by
  intro k
  induction k using Nat.strongRecOn with
  | _ k ih =>
    intro hk
    have rd : ∀ j, j < k → CallOk Γ n pl tx 536 (3 * j + 3) j (run pl tx) := fun j hj => ih j hj (Nat.lt_trans hj hk)
    exact @read_of Γ n pl tx hok hz k hk (@ask_of Γ n pl tx hok hz htx k hk (@many_of Γ n pl tx hok hz htx k hk @rd) @rd)
end


local macro_rules | `(tactic| walk_at "m:s") => `(tactic| first
  | ((with_reducible show wpAny _ _ (eval (PySem.Expr.BoolOp PySem.BoolOp.Or (_ :: _ :: _) _) _) _ _ _); refine BoolOp_or ?_)
  | ((with_reducible show wpAny _ _ (eval (PySem.Expr.BoolOp PySem.BoolOp.And (_ :: _ :: _) _) _) _ _ _); refine BoolOp_and ?_)
  | ((with_reducible show wpAny _ _ (eval (PySem.Expr.BoolOp _ [_] _) _) _ _ _); refine BoolOp_one ?_)
  | ((with_reducible show wpAny _ _ (truthy Value.none) _ _ _); refine truthy_none ?_))


section
variable {Γ : Gm} {A : Around} {env : Env} {outer : List Env} {h₀ : Heap} {L : Addr} {h h' : Heap} {l l' : Loc} {nw : Led} {t : Nat} {E : Value → Shared → Prop} {pos : Pos}
theorem xtruthyL (c : Fx Γ A env outer h₀ L h l nw) {a : Addr} {xs : List Value} {Q : Bool → Shared → Prop} (m : IsW "list" nw a xs) (q : ∀ t', Q (!xs.isEmpty) (S Γ h t')) :
    wpAny (model PG Γ.w) A (truthy (.ref a)) Q E (S Γ h t) := by
  have hz := m.1
  refine wpAny_truthy_list (m.isList c) (by simp only [List.size_toArray]; omega) ?_
  have e : xs.toArray.isEmpty = xs.isEmpty := by cases xs <;> rfl
  rw [e]
  exact q _
set_option maxRecDepth 100000 in
set_option maxHeartbeats 8000000 in
theorem node_init {x dx : Addr} {od : Obj} {ex : Addr} {tx : Str} {tt ts te : Tok} {s0 e0 : Nat} {cv : Value} {xs : List Value} {args : Args} {R : Value → Shared → Prop} {n : Nat}
   (c : Fx Γ A env outer h₀ L h l nw) (r : Room A (n + 1)) (hx : (x, inO 212 dx []) ∈ nw) (hd : (dx, od) ∈ nw) (hne : dx ≠ x) (hcv : (cv = .none ∧ xs = []) ∨ ∃ ch, cv = .ref ch ∧ IsQ "list" nw ch xs)
   (hargs : (cv = .none ∧ args = ⟨[.ref x, .ref ex, .str tx tt, .int s0 ts, .int e0 te], []⟩) ∨ args = ⟨[.ref x, .ref ex, .str tx tt, .int s0 ts, .int e0 te, cv], []⟩ ∨ args = ⟨[.ref x, .ref ex, .str tx tt, .int s0 ts, .int e0 te], [("children", cv)]⟩)
   (q : ∀ h' t' ch nw', Fx Γ A env outer h₀ L h' l nw' → Keep (· = x) nw nw' → (x, inO 212 dx [some (.ref ch), some (.int e0 te), some (.ref ex), some (.str tx tt), some (.int s0 ts)]) ∈ nw' → IsQ "list" nw' ch xs → ((cv = .ref ch ∧ xs ≠ []) ∨ ∀ p ∈ nw, p.1 ≠ ch) → R .none (S Γ h' t')) :
   codeAny (model PG Γ.w) A (.call (.ref 150) args) (RV R E) (S Γ h t) := by
  refine enter0C (args := args) (binds := [("self", .ref x), ("expr", .ref ex), ("full_text", .str tx tt), ("start", .int s0 ts), ("end", .int e0 te), ("children", cv)]) []
    [("self", some (.ref x)), ("expr", some (.ref ex)), ("full_text", some (.str tx tt)), ("start", some (.int s0 ts)), ("end", some (.int e0 te)), ("children", some cv)] c n r rfl (by rfl) (by rcases hargs with ⟨rfl, rfl⟩ | rfl | rfl <;> exact kp_binds c.XI fun _ => by rfl) rfl rfl (by rfl) ?_ rfl rfl rfl (by decide)
  intro A' env' g L' h₁ t' Q he c' r' back
  walk_at "m:go"
  refine xsetSlot (sl' := [none, none, some (.ref ex)]) c' hx hd (sg_212_expr _) rfl fun h2 t2 c2 => ?_
  have hx2 := mem_put_self (o' := inO 212 dx [none, none, some (.ref ex)]) hx
  have hd2 : (dx, od) ∈ put nw x (inO 212 dx [none, none, some (.ref ex)]) := mem_put_ne hd hne
  walk_at "m:go"
  refine xsetSlot (sl' := [none, none, some (.ref ex), some (.str tx tt)]) c2 hx2 hd2 (sg_212_full_text _) rfl fun h3 t3 c3 => ?_
  have hx3 := mem_put_self (o' := inO 212 dx [none, none, some (.ref ex), some (.str tx tt)]) hx2
  have hd3 := mem_put_ne (a := x) (o := inO 212 dx [none, none, some (.ref ex), some (.str tx tt)]) hd2 hne
  walk_at "m:go"
  refine xsetSlot (sl' := [none, none, some (.ref ex), some (.str tx tt), some (.int s0 ts)]) c3 hx3 hd3 (sg_212_start _) rfl fun h4 t4 c4 => ?_
  have hx4 := mem_put_self (o' := inO 212 dx [none, none, some (.ref ex), some (.str tx tt), some (.int s0 ts)]) hx3
  have hd4 := mem_put_ne (a := x) (o := inO 212 dx [none, none, some (.ref ex), some (.str tx tt), some (.int s0 ts)]) hd3 hne
  walk_at "m:go"
  refine xsetSlot (sl' := [none, some (.int e0 te), some (.ref ex), some (.str tx tt), some (.int s0 ts)]) c4 hx4 hd4 (sg_212_end _) rfl fun h5 t5 c5 => ?_
  have hx5 := mem_put_self (o' := inO 212 dx [none, some (.int e0 te), some (.ref ex), some (.str tx tt), some (.int s0 ts)]) hx4
  have hd5 := mem_put_ne (a := x) (o := inO 212 dx [none, some (.int e0 te), some (.ref ex), some (.str tx tt), some (.int s0 ts)]) hd4 hne
  have k5 : Keep (· = x) nw (put (put (put (put nw x (inO 212 dx [none, none, some (.ref ex)])) x (inO 212 dx [none, none, some (.ref ex), some (.str tx tt)])) x (inO 212 dx [none, none, some (.ref ex), some (.str tx tt), some (.int s0 ts)])) x (inO 212 dx [none, some (.int e0 te), some (.ref ex), some (.str tx tt), some (.int s0 ts)])) :=
    ((Keep.put.trans Keep.put).trans Keep.put).trans Keep.put
  revert hx5 hd5 k5 c5
  generalize put (put (put (put nw x (inO 212 dx [none, none, some (.ref ex)])) x (inO 212 dx [none, none, some (.ref ex), some (.str tx tt)])) x (inO 212 dx [none, none, some (.ref ex), some (.str tx tt), some (.int s0 ts)])) x (inO 212 dx [none, some (.int e0 te), some (.ref ex), some (.str tx tt), some (.int s0 ts)]) = nw5
  intro c5 hx5 hd5 k5
  have fin : ∀ {h6 t6 l6 nw6} (ch : Addr), Fx Γ A' env' (env :: outer) g L' h6 l6 nw6 → Keep (· = x) nw nw6 → (x, inO 212 dx [none, some (.int e0 te), some (.ref ex), some (.str tx tt), some (.int s0 ts)]) ∈ nw6 → (dx, od) ∈ nw6 → IsQ "list" nw6 ch xs → ((cv = .ref ch ∧ xs ≠ []) ∨ ∀ p ∈ nw, p.1 ≠ ch) →
      wpAny (model PG Γ.w) A' (setAttr (.ref x) (Str.ofString "children") (.ref ch)) (fun _ s' => Q .next s') (fun _ _ => False) (S Γ h6 t6) := by
    intro h6 t6 l6 nw6 ch c6 k6 hx6 hd6 m6 hf6
    refine xsetSlot c6 hx6 hd6 (sg_212_children _) rfl fun h7 t7 c7 => ?_
    have hne2 : ch ≠ x := m6.w.ne_obj c6 hx6 fun xs n e => by cases e
    exact (back _ _ ⟨_, _, c7, fun cc => q _ _ ch _ cc (k6.trans Keep.put) (mem_put_self hx6) (m6.keep Keep.put hne2) hf6⟩).2 rfl
  have fresh : ∀ {h6 l6 a o}, Fx Γ A' env' (env :: outer) g L' h6 l6 ((a, o) :: nw5) → ∀ p ∈ nw, p.1 ≠ a := by
    intro h6 l6 a o c6 p hp e
    have nd := c6.nd
    rw [List.map_cons, List.nodup_cons] at nd
    by_cases e2 : p.1 = x
    · exact nd.1 (by show a ∈ _; rw [← e, e2]; exact List.mem_map_of_mem (f := (·.1)) hx5)
    · exact nd.1 (by show a ∈ _; rw [← e]; exact List.mem_map_of_mem (f := (·.1)) (k5 p hp e2))
  rcases hcv with ⟨rfl, rfl⟩ | ⟨ch, rfl, mch⟩
  · walk_at "m:go"
    rw [if_neg (by decide)]
    walk_at "m:go"
    rename Fx _ _ _ _ _ _ _ _ _ => c6
    rename IsQ "list" _ _ _ => m6
    refine wpAny_mono (fin _ c6 (k5.trans Keep.cons) (.tail _ hx5) (.tail _ hd5) m6 (.inr (fresh c6))) (fun _ _ z => ?_) (fun _ _ z => z)
    walk_at "m:go"
    exact z
  · have hne2 : ch ≠ x := mch.w.ne_obj c hx fun xs n e => by cases e
    have m5 : IsQ "list" nw5 ch xs := mch.keep k5 hne2
    walk_at "m:go"
    refine xtruthyL c5 m5.w fun t6 => ?_
    cases xs with
    | cons y ys =>
      rw [if_pos (by rfl)]
      walk_at "m:go"
      refine wpAny_mono (fin _ c5 k5 hx5 hd5 m5 (.inl ⟨rfl, fun e => by cases e⟩)) (fun _ _ z => ?_) (fun _ _ z => z)
      walk_at "m:go"
      exact z
    | nil =>
      rw [if_neg (by decide)]
      walk_at "m:go"
      rename Fx _ _ _ _ _ _ _ _ _ => c6
      rename IsQ "list" (_ :: nw5) _ _ => m6
      refine wpAny_mono (fin _ c6 (k5.trans Keep.cons) (.tail _ hx5) (.tail _ hd5) m6 (.inr (fresh c6))) (fun _ _ z => ?_) (fun _ _ z => z)
      walk_at "m:go"
      exact z
/-- `Node(self, text, pos, end)`, with its children if any -/
theorem node_ok {ex : Addr} {tx : Str} {tt ts te : Tok} {s0 e0 : Nat} {cv : Value} {xs : List Value} {ps : List Value} {kw : List (Str × Value)} {R : Value → Shared → Prop} {n : Nat} {p0 : Addr × Obj}
   (c : Fx Γ A env outer h₀ L h l nw) (r : Room A (n + 2)) (m0 : p0 ∈ nw) (hcv : (cv = .none ∧ xs = []) ∨ ∃ ch, cv = .ref ch ∧ IsQ "list" nw ch xs)
   (hargs : (cv = .none ∧ ps = [.ref ex, .str tx tt, .int s0 ts, .int e0 te] ∧ kw = []) ∨ (ps = [.ref ex, .str tx tt, .int s0 ts, .int e0 te, cv] ∧ kw = []) ∨ (ps = [.ref ex, .str tx tt, .int s0 ts, .int e0 te] ∧ kw = ([("children", cv)] : List (Str × Value))))
   (q : ∀ h' t' x dx ch nw', Fx Γ A env outer h₀ L h' l nw' → Keep (fun _ => False) nw nw' → (x, inO 212 dx [some (.ref ch), some (.int e0 te), some (.ref ex), some (.str tx tt), some (.int s0 ts)]) ∈ nw' → (dx, dictOf [] 0) ∈ nw' → IsQ "list" nw' ch xs → ((cv = .ref ch ∧ xs ≠ []) ∨ ∀ p ∈ nw, p.1 ≠ ch) → R (.ref x) (S Γ h' t')) :
   wpAny (model PG Γ.w) A (call (.ref 212) ps kw) R E (S Γ h t) := by
  refine xmake c (n := n + 1) r m0 (mk_212 _) (in_212 _) (fn_150 _) fun x dx h4 A4 c4 r4 lt lt' back4 => ?_
  have kc : Keep (fun _ => False) nw ((x, inO 212 dx []) :: (dx, dictOf [] 0) :: nw) := Keep.cons.trans Keep.cons
  have hx' : ∀ p ∈ nw, p.1 ≠ x := fun p hp e => absurd (Nat.lt_trans (lt' _ hp) lt) (by rw [e]; exact Nat.lt_irrefl _)
  refine node_init (s0 := s0) (e0 := e0) (ts := ts) (te := te) (tx := tx) (tt := tt) (ex := ex) (cv := cv) (xs := xs) c4 r4 (.head _) (.tail _ (.head _)) (Nat.ne_of_lt lt) ?_ ?_ fun h5 t5 ch nw5 c5 k5 hx5 m5 f5 => ⟨rfl, ?_⟩
  · rcases hcv with h | ⟨ch, e, m⟩
    · exact .inl h
    · exact .inr ⟨ch, e, m.keep kc id⟩
  · rcases hargs with ⟨e1, rfl, rfl⟩ | ⟨rfl, rfl⟩ | ⟨rfl, rfl⟩
    · exact .inl ⟨e1, rfl⟩
    · exact .inr (.inl rfl)
    · exact .inr (.inr rfl)
  · exact q _ _ x dx ch nw5 (back4 c5) (fun p hp _ => k5 _ (.tail _ (.tail _ hp)) (hx' p hp)) hx5 (k5 _ (.tail _ (.head _)) (Nat.ne_of_lt lt)) m5 (f5.imp id fun z p hp => z p (.tail _ (.tail _ hp)))
end


theorem args_getattr_3 (a b c : Value) : argsOk "getattr" ⟨[a, b, c], []⟩ := by unfold argsOk; kernel_rfl
theorem looks_notModule {K : Frag} {M : Model} {h : Heap} (X : K.In h) {x C : Addr} {ox : Obj} {od : Option Obj} (I : InstAt h x ox C od) (e : subIn K (.ref C) (.type "module") = some false) : Looks M h (isInstance (.ref x) (.type "module")) false :=
  I.type.andThen (looks_subIn X e)
theorem getattr3 {prog : Program} {w : World} {A : Around} {E : Value → Shared → Prop} {s : Shared} {K : Frag} {x C : Addr} {ox : Obj} {od : Option Obj} {tk : Tok} {dflt : Value} {Q : Value → Shared → Prop}
    (X : K.In s.heap) (I : InstAt s.heap x ox C od) (e : subIn K (.ref C) (.type "module") = some false)
    (q : wpAny (model prog w) A.in1 (getAttrBy? (.ref x) (.str (Str.ofString "oids") tk)) (fun r s' => Q (r.getD dflt) s') E s) :
    wpAny (model prog w) A (call (.builtin "getattr") [.ref x, .str (Str.ofString "oids") tk, dflt]) Q E s := by
  refine Calls.call_function_entry KB.kind_getattr KB.plain_getattr KB.entry_getattr (args_getattr_3 _ _ _) ?_
  unfold Builtin.«getattr»
  refine wpAny_bind (wpAny_of_eq (a := [.ref x, .str (Str.ofString "oids") tk, dflt]) (by first | rfl | kernel_rfl) ?_)
  dsimp only
  refine wpAny_bind (wpAny_of_eq (a := ()) (by first | rfl | kernel_rfl) ?_)
  refine wpAny_bind (wpAny_of_eq (a := none) (by first | rfl | kernel_rfl) ?_)
  dsimp only
  refine wpAny_bind ?_
  show wpAny _ _ (isInstance (.ref x) (.type "module") >>= _) _ _ _
  refine wpAny_bind ((looks_notModule X I e).here (wpAny_pure ?_))
  rw [if_neg (by decide)]
  refine wpAny_bind (wpAny_mono q (fun r s' z => ?_) fun _ _ z => z)
  cases r with
  | some v => exact wpAny_pure ⟨_, rfl, z⟩
  | none =>
    dsimp only
    rw [if_neg (by decide)]
    exact wpAny_pure ⟨_, rfl, z⟩
theorem Fx.grow {Γ : Gm} {A : Around} {env : Env} {outer : List Env} {h₀ : Heap} {L : Addr} {h h' : Heap} {l : Loc} {nw : Led} (c : Fx Γ A env outer h₀ L h l nw) (k : ∀ b o, h.get? b = some o → h'.get? b = some o) : Fx Γ A env outer h₀ L h' l nw :=
  { c with F := ⟨c.F.ns.at' fun o q => k _ o q, fun b x q => k b x (c.F.keep b x q), c.F.above⟩, N := fun p hp => ⟨k _ _ (c.N p hp).1, (c.N p hp).2⟩ }
section
variable {prog : Program} {w : World} {A : Around} {E : Value → Shared → Prop} {s : Shared} {K : Frag} {x C : Addr} {ox : Obj} {od : Option Obj} {name : Str} {tk : Tok}
theorem getBy?_value {v : Value} {Q : Option Value → Shared → Prop} (X : K.In s.heap) (I : InstAt s.heap x ox C od) (hga : findIn K (.ref C) "__getattribute__" = some (some (.builtin "object.__getattribute__")))
    (hf : findObj K C od name = some (.value v)) (hh : handedIn v = true) (q : Q (some v) s) : wpAny (model prog w) A (getAttrBy? (.ref x) (.str name tk)) Q E s := by
  obtain ⟨hp, g, d, t, os⟩ := s
  have L0 := I.type (M := model prog w)
  have L1 := looks_findIn (M := model prog w) X hga
  have L2 := looks_find (M := model prog w) X I hf
  unfold getAttrBy?
  refine wpAny_bind (wpAny_attempt ?_)
  unfold getAttrBy
  refine wpAny_holding (wpAny_bind (L0.at (wpAny_bind (L1.at ?_))))
  show wpAny _ _ (getAttrEveryday _ _ _) _ _ _
  refine wpAny_bind (wpAny_onRaise (wpAny_runValue (codeAny_builtin F.plainObj_entry_getattr_hooked ?_)))
  refine wpAny_bind (wpAny_pure (wpAny_bind (L0.at (wpAny_bind (L2.at ?_)))))
  refine wpAny_pure ?_
  show wpAny _ _ (handedOut v) _ _ _
  rw [handedOut_of hh]
  exact wpAny_pure (wpAny_pure q)
theorem getBy?_miss {cd : ClassData} {Q : Option Value → Shared → Prop} (X : K.In s.heap) (I : InstAt s.heap x ox C od) (hg : plainGet K C name = true)
    (hf : findObj K C od name = some .missing) (hc : clsIn K C = some cd) (hn : cd.name.cps.foldl (fun k c => k + (Str.utf8Of c).length) 0 ≤ 100) (hm : (Str.ofString s!"'{cd.name.toString}' object has no attribute '" ++ name ++ Str.ofString "'").length ≤ sizeLine) (hA : A.handled = none)
    (q : ∀ h' t', (∀ b o, s.heap.get? b = some o → h'.get? b = some o) → Q none { s with heap := h', toks := t' }) : wpAny (model prog w) A (getAttrBy? (.ref x) (.str name tk)) Q E s := by
  obtain ⟨hp, g, d, t, os⟩ := s
  have L0 := I.type (M := model prog w)
  have L1 := looks_findIn (M := model prog w) X (plainGet_of hg).1
  have L2 := looks_find (M := model prog w) X I hf
  have L3 := looks_findIn (M := model prog w) X (plainGet_of hg).2
  have L4 := looks_clsIn (M := model prog w) X hc
  unfold getAttrBy?
  refine wpAny_bind (wpAny_attempt ?_)
  unfold getAttrBy
  refine wpAny_holding (wpAny_bind (L0.at (wpAny_bind (L1.at ?_))))
  show wpAny _ _ (getAttrEveryday _ _ _) _ _ _
  refine wpAny_bind (wpAny_onRaise (wpAny_runValue (codeAny_builtin F.plainObj_entry_getattr_hooked ?_)))
  refine wpAny_bind (wpAny_pure (wpAny_bind (L0.at (wpAny_bind (L2.at (wpAny_bind (L3.at ?_)))))))
  show wpAny _ _ (Builtin.ObjectAttr.noSuchAttribute _ _) _ _ _
  unfold Builtin.ObjectAttr.noSuchAttribute typeNameOfCut shownTypeOf
  refine wpAny_bind (wpAny_bind (wpAny_bind (L0.at (wpAny_pure ?_))))
  unfold typeNameCut
  refine wpAny_bind (L4.at ?_)
  rw [if_pos hn]
  refine wpAny_pure (wpAny_raiseAttrError hA (fun h' tk' e he => ?_) hm)
  show wpAny _ _ (pure ()) _ _ _
  refine wpAny_pure ?_
  show wpAny _ _ (isInstance (.ref e) (.type "AttributeError") >>= _) _ _ _
  obtain ⟨tt, uu, hthere⟩ := he.there
  refine wpAny_bind (wpAny_isInstance (T := "AttributeError") (U := "AttributeError") ⟨_, hthere, rfl⟩ sub_AttributeError ?_)
  rw [if_pos rfl]
  exact wpAny_pure (q h' tk' he.keeps)
end


/-- an own object's dict, as to `oids` -/
def OidD (od : Obj) (v : Option Value) : Prop := match v with
  | none => od = dictOf [] 0
  | some v => ∃ hs tk, od = dictOf [⟨hs, .str (Str.ofString "oids") tk, v⟩] 1
structure OidC (K : Frag) (C : Addr) : Prop where
  md : subIn K (.ref C) (.type "module") = some false
  pg : plainGet K C (Str.ofString "oids") = true
  hd : hasDictIn K C = true
  ha : findIn K (.ref C) (Str.ofString "oids") = some none
  cd : ∃ nm, (clsIn K C).map (·.name) = some (Str.ofString nm) ∧ (Str.ofString nm).cps.foldl (fun k c => k + (Str.utf8Of c).length) 0 ≤ 100 ∧ (Str.ofString s!"'{(Str.ofString nm).toString}' object has no attribute '" ++ Str.ofString "oids" ++ Str.ofString "'").length ≤ 1000
  st : findIn K (.ref C) (Str.ofString "__setattr__") = some (some (.builtin "object.__setattr__"))
  po : plainOver K C = true
  tk : takerIn K C (Str.ofString "oids") = some none
  mc : findIn K (.ref C) (Str.ofString "match_core") = some (some (.ref 266))
  mt : findIn K (.ref C) (Str.ofString "match") = some (some (.ref 259))
set_option maxRecDepth 100000
theorem oc_336 (w : World) : OidC (KK w) 336 := ⟨by kernel_rfl, by kernel_rfl, by kernel_rfl, by kernel_rfl, ⟨"Literal", by kernel_rfl, by decide +kernel, by decide +kernel⟩, by kernel_rfl, by kernel_rfl, by kernel_rfl, by kernel_rfl, by kernel_rfl⟩
theorem oc_394 (w : World) : OidC (KK w) 394 := ⟨by kernel_rfl, by kernel_rfl, by kernel_rfl, by kernel_rfl, ⟨"Sequence", by kernel_rfl, by decide +kernel, by decide +kernel⟩, by kernel_rfl, by kernel_rfl, by kernel_rfl, by kernel_rfl, by kernel_rfl⟩
theorem oc_420 (w : World) : OidC (KK w) 420 := ⟨by kernel_rfl, by kernel_rfl, by kernel_rfl, by kernel_rfl, ⟨"OneOf", by kernel_rfl, by decide +kernel, by decide +kernel⟩, by kernel_rfl, by kernel_rfl, by kernel_rfl, by kernel_rfl, by kernel_rfl⟩
theorem oc_458 (w : World) : OidC (KK w) 458 := ⟨by kernel_rfl, by kernel_rfl, by kernel_rfl, by kernel_rfl, ⟨"Lookahead", by kernel_rfl, by decide +kernel, by decide +kernel⟩, by kernel_rfl, by kernel_rfl, by kernel_rfl, by kernel_rfl, by kernel_rfl⟩
theorem oc_497 (w : World) : OidC (KK w) 497 := ⟨by kernel_rfl, by kernel_rfl, by kernel_rfl, by kernel_rfl, ⟨"Quantifier", by kernel_rfl, by decide +kernel, by decide +kernel⟩, by kernel_rfl, by kernel_rfl, by kernel_rfl, by kernel_rfl, by kernel_rfl⟩
theorem um_336 (w : World) : findIn (KK w) (.ref 336) (Str.ofString "_uncached_match") = some (some (.ref 325)) := by kernel_rfl
theorem um_394 (w : World) : findIn (KK w) (.ref 394) (Str.ofString "_uncached_match") = some (some (.ref 384)) := by kernel_rfl
theorem um_420 (w : World) : findIn (KK w) (.ref 420) (Str.ofString "_uncached_match") = some (some (.ref 410)) := by kernel_rfl
theorem um_458 (w : World) : findIn (KK w) (.ref 458) (Str.ofString "_uncached_match") = some (some (.ref 447)) := by kernel_rfl
theorem um_497 (w : World) : findIn (KK w) (.ref 497) (Str.ofString "_uncached_match") = some (some (.ref 486)) := by kernel_rfl
theorem fnd_259 (w : World) : isFn (KK w) (.ref 259) = true := by kernel_rfl
theorem fnd_266 (w : World) : isFn (KK w) (.ref 266) = true := by kernel_rfl
theorem fnd_325 (w : World) : isFn (KK w) (.ref 325) = true := by kernel_rfl
theorem fnd_384 (w : World) : isFn (KK w) (.ref 384) = true := by kernel_rfl
theorem fnd_410 (w : World) : isFn (KK w) (.ref 410) = true := by kernel_rfl
theorem fnd_447 (w : World) : isFn (KK w) (.ref 447) = true := by kernel_rfl
theorem fnd_486 (w : World) : isFn (KK w) (.ref 486) = true := by kernel_rfl
set_option maxRecDepth 512
theorem findObj_none {K : Frag} {C : Addr} {od : Obj} {name : Str} (hh : hasDictIn K C = true) (ha : findIn K (.ref C) name = some none) (hc : copiedNames.contains name = false) (hl : lookIn name od = some none) : findObj K C (some od) name = some .missing := by
  obtain ⟨cd, hc', hd⟩ := any_some hh
  unfold findObj
  have ho : PySem.W.ownOf cd (some od) name = some none := by unfold PySem.W.ownOf; rw [if_pos hd]; exact hl
  rw [hc', Option.bind_some, ha, Option.bind_some]
  simp only [Option.bind_some, ho, hc, Bool.false_and, Bool.false_eq_true, if_false]
section
variable {Γ : Gm} {A : Around} {env : Env} {outer : List Env} {h₀ : Heap} {L : Addr} {h h' : Heap} {l l' : Loc} {nw : Led} {t : Nat} {E : Value → Shared → Prop} {pos : Pos}
theorem xoidsGet (c : Fx Γ A env outer h₀ L h l nw) {x C dx : Addr} {sl : List (Option Value)} {od : Obj} {v : Option Value} {tk : Tok} {dflt : Value} {Q : Value → Shared → Prop} (hx : (x, inO C dx sl) ∈ nw) (hd : (dx, od) ∈ nw) (hv : OidD od v) (O : OidC (KK Γ.w) C)
    (hr : ∀ u, v = some u → handedIn u = true) (q : ∀ h' t', Fx Γ A env outer h₀ L h' l nw → Q (v.getD dflt) (S Γ h' t')) :
    wpAny (model PG Γ.w) A (call (.builtin "getattr") [.ref x, .str (Str.ofString "oids") tk, dflt]) Q E (S Γ h t) := by
  have I := InstAt.of_news c.N hx hd
  refine getattr3 (s := S Γ h t) c.XI I O.md ?_
  cases v with
  | none =>
    obtain rfl : od = dictOf [] 0 := hv
    obtain ⟨nm, h0, h3, h4⟩ := O.cd
    obtain ⟨cd, h1, h2⟩ := Option.map_eq_some_iff.mp h0
    refine getBy?_miss (s := S Γ h t) c.XI I O.pg (findObj_none O.hd O.ha (by decide +kernel) (by rfl)) h1 (by rw [h2]; exact h3) (by rw [h2, line_is]; exact Nat.le_trans h4 (by decide)) c.hh fun h' t' k => ?_
    exact q h' t' (c.grow k)
  | some u =>
    obtain ⟨hs, tk', rfl⟩ := hv
    refine getBy?_value (s := S Γ h t) c.XI I (plainGet_of O.pg).1 (findObj_own O.hd O.ha (by rfl) (by rfl)) (hr u rfl) (q h t c)
theorem xoidsSet (c : Fx Γ A env outer h₀ L h l nw) {x C dx : Addr} {sl : List (Option Value)} {od : Obj} {v : Option Value} {u : Value} {Q : Unit → Shared → Prop} (hx : (x, inO C dx sl) ∈ nw) (hd : (dx, od) ∈ nw) (hv : OidD od v) (O : OidC (KK Γ.w) C)
    (q : ∀ h' t' od', Fx Γ A env outer h₀ L h' l (put nw dx od') → OidD od' (some u) → Q () (S Γ h' t')) :
    wpAny (model PG Γ.w) A (setAttr (.ref x) (Str.ofString "oids") u) Q E (S Γ h t) := by
  cases v with
  | none =>
    obtain rfl : od = dictOf [] 0 := hv
    exact set_dict c.F c.X c.N (InstAt.of_news c.N hx hd) rfl O.st O.po O.tk O.hd (by rfl) rfl (upd_of c.nd hd) (Nat.le_of_ble_eq_true rfl) fun h' F' N' => q h' _ _ (c.ofPut hd F' N') ⟨_, _, rfl⟩
  | some v0 =>
    obtain ⟨hs, tk', rfl⟩ := hv
    exact set_dict (es' := [⟨hs, .str (Str.ofString "oids") tk', u⟩]) (n' := 1) c.F c.X c.N (InstAt.of_news c.N hx hd) rfl O.st O.po O.tk O.hd (by rfl) (by rfl) (upd_of c.nd hd) (Nat.le_of_ble_eq_true rfl) fun h' F' N' => q h' _ _ (c.ofPut hd F' N') ⟨_, _, rfl⟩
/-- a method of the class, on an expression -/
theorem xmeth (c : Fx Γ A env outer h₀ L h l nw) {x C dx f : Addr} {sl : List (Option Value)} {od : Obj} {v : Option Value} {name : Str} {pl : Sem Bool} {Q : Value × List Value → Shared → Prop} (hx : (x, inO C dx sl) ∈ nw) (hd : (dx, od) ∈ nw) (hv : OidD od v) (hg : plainGet (KK Γ.w) C name = true)
    (hf : findIn (KK Γ.w) (.ref C) name = some (some (.ref f))) (ht : isFn (KK Γ.w) (.ref f) = true) (hn : (Str.ofString "oids" == name) = false) (q : Q (.ref f, [.ref x]) (S Γ h t)) : wpAny (model PG Γ.w) A (getMethod (.ref x) name pl) Q E (S Γ h t) := by
  cases v with
  | none =>
    obtain rfl : od = dictOf [] 0 := hv
    exact method_inst c.F c.X (InstAt.of_news c.N hx hd) hg hf ht (by rfl) q
  | some v0 =>
    obtain ⟨hs, tk', rfl⟩ := hv
    refine method_inst c.F c.X (InstAt.of_news c.N hx hd) hg hf ht ?_ q
    unfold getL
    have : Value.isStr (.str (Str.ofString "oids") tk') name = false := hn
    simp only [List.find?_cons, this, List.find?_nil]
    rfl
end


/-! an own exception with an own `__init__` -/
def xmakesIn (K : Frag) (C : Addr) : Bool := match K.lookup C with
  | some ⟨_, _, .cls cd, sl⟩ => !cd.hasDel && (sl.toList[4]?).join == some (.builtin "Exception.__new__") && !cd.mro.isEmpty && cd.mro.contains (.ref C) && cd.mro.contains (.type "Exception") && !cd.mro.contains (.type "AttributeError") && !cd.mro.contains (.type "NameError") &&
      specialIn K (.ref C) "__call__" == some (some (.builtin "type.__call__")) && instIn K (.ref C) (.type "type") == some true
  | _ => false
structure XMakes (M : Model) (h : Heap) (C : Addr) : Prop where
  obj : ∃ oc od cd sl, h.get? C = some ⟨oc, od, .cls cd, sl⟩ ∧ cd.hasDel = false ∧ cd.mro.isEmpty = false
  made : Looks M h (Bind.madeBy (.ref C)) (some "Exception.__new__")
  base : Looks M h (Bind.staticBase (.ref C)) (.ref C)
  self : Looks M h (isSubtype (.ref C) (.ref C)) true
  top : Looks M h (isSubtype (.ref C) (.type "Exception")) true
  noA : Looks M h (isSubtype (.ref C) (.type "AttributeError")) false
  noN : Looks M h (isSubtype (.ref C) (.type "NameError")) false
  call : Looks M h (specialOf (.ref C) "__call__") (some (.builtin "type.__call__"))
  typ : Looks M h (isInstance (.ref C) (.type "type")) true
theorem xmakes_of {K : Frag} {M : Model} {h : Heap} (X : K.In h) {C : Addr} (e : xmakesIn K C = true) : XMakes M h C := by
  unfold xmakesIn at e
  split at e
  · rename_i oc od cd sl ho
    simp only [Bool.and_eq_true, Bool.not_eq_true', beq_iff_eq] at e
    obtain ⟨⟨⟨⟨⟨⟨⟨⟨e2, e3⟩, e4⟩, e5⟩, e6⟩, e6a⟩, e6b⟩, e7⟩, e8⟩ := e
    have hc : clsIn K C = some cd := by unfold clsIn; rw [ho]
    have hm : Looks M h (mroOf (.ref C)) cd.mro := (looks_clsIn X hc).andThen .now
    obtain ⟨c, l, hl⟩ : ∃ c l, cd.mro = c :: l := by cases q : cd.mro with | nil => rw [q] at e4; cases e4 | cons c l => exact ⟨c, l, rfl⟩
    have made : Looks M h (Bind.madeBy (.ref C)) (some "Exception.__new__") := by
      intro A Q E s k q
      unfold Bind.madeBy
      refine wpAny_bind (hm A _ E s k ?_)
      rw [hl, List.forIn_cons]
      refine wpAny_bind (wpAny_bind (wpAny_bind (wpAny_bind (wpAny_loadPart (k _ _ (X _ _ ho)) (wpAny_pure ?_)))))
      dsimp only
      rw [← Array.getElem?_toList, e3]
      exact wpAny_pure (wpAny_pure (wpAny_pure q))
    have sub : ∀ {b : Value} {r : Bool}, cd.mro.contains b = r → Looks M h (isSubtype (.ref C) b) r := fun e => looks_mroIn X (by unfold mroIn; rw [hc, Option.bind_some, if_neg (by rw [e4]; decide), e])
    refine ⟨⟨oc, od, cd, sl, X _ _ ho, e2, e4⟩, made, ?_, sub e5, sub e6, sub e6a, sub e6b, looks_specialIn X e7, looks_instIn X e8⟩
    intro A Q E s k q
    unfold Bind.staticBase
    refine wpAny_bind (hm A _ E s k ?_)
    rw [hl, List.forIn_cons]
    exact wpAny_bind (wpAny_bind (wpAny_bind (made A _ E s k (wpAny_pure (wpAny_pure (wpAny_pure q))))))
  · cases e
set_option maxRecDepth 100000 in
theorem xmk_94 (w : World) : xmakesIn (KK w) 94 = true := by kernel_rfl
abbrev excObj (C T : Addr) : Obj := { cls := .ref C, data := .fields #[.ref T, .none, .none, .none, .bool false, .none] }
section
variable {prog : Program} {w : World} {A : Around} {K : Frag} {C : Addr} {R : Result → Shared → Prop} {h : Heap} {g : Array GenState} {d : Drawn} {t : Nat} {os : OsState}
theorem new_X {rest : List Value} (Y : XMakes (model prog w) h C) (hrest : rest.length ≤ sizeLine)
    (hq : R (.ok (.ret (.ref (h.objs.size + 1)))) ⟨(h.push { cls := .type "tuple", data := .seq rest.toArray }).push (excObj C h.objs.size), g, d, t, os⟩) :
    codeAny (model prog w) A (.call (.builtin "Exception.__new__") ⟨.ref C :: rest, []⟩) R ⟨h, g, d, t, os⟩ := by
  obtain ⟨⟨oc, od, cd, sl, hC, e2, e4⟩, made, base, self, top, noA, noN, call, typ⟩ := Y
  have F := PySem.F.excBase_Exception
  refine codeAny_call_builtin_code (Code.quiet_builtin _ F.quiet) ?_
  simp only [checkBuiltinCall, F.newKind, F.newSplit, F.newRow]
  have hcan := F.canon
  have args : Bind.checkArgs "Exception.__new__" ⟨.any, "Exception", "Exception", .cls, [⟨"args", .varPos, false⟩, ⟨"kwargs", .varKw, false⟩]⟩ ⟨.ref C :: rest, []⟩ = pure () := by rfl
  repeat (first | simp only [bne_self_eq_false, Bool.false_eq_true, if_false, Bool.not_true] | lk)
  have hends := F.ends
  refine codeAny_builtinAt F.entry ?_
  unfold Builtin.«BaseException.__new__»
  refine _root_.PySem.wpAt_bind ?_
  show _root_.PySem.wpAt _ _ _ (stack >>= _) _ _ _
  refine _root_.PySem.wpAt_bind (_root_.PySem.wpAt_stack fun p below => _root_.PySem.wpAt_of_wpAny ?_)
  show wpAny _ _ (if ("Exception.__new__").endsWith ".__new__" = true then _ else _) _ _ _
  rw [if_pos hends]
  refine wpAny_pure (_root_.PySem.wpAt_of_wpAny ?_)
  rw [F.owner]
  have mh : Looks (model prog w) h (Bind.madeHere "BaseException.__new__" (.ref C)) () := by
    refine base.andThen (made.andThen (Looks.of_pure ?_))
    simp only [Option.map_some, hcan, bne_self_eq_false, Bool.false_eq_true, if_false]
  have hsz : (rest.toArray : Array Value).size ≤ sizeLine := by rw [List.size_toArray]; exact hrest
  repeat (first | simp only [bne_self_eq_false, Bool.false_eq_true, if_false, Bool.not_true] | lk)
  rw [if_neg (by omega)]
  unfold newObjAsIs classHasDel
  have hC' := Heap.get?_push_of_some { cls := .ref C, data := .fields (#[.ref h.objs.size, .none, .none, .none, .bool false, .none] ++ (List.replicate 0 (rawInt 0)).toArray) } (Heap.get?_push_of_some { cls := .type "tuple", data := .seq rest.toArray } hC)
  repeat (first | simp only [e2, bne_self_eq_false, Bool.false_eq_true, if_false, Bool.not_true] | lk)
  rw [Heap.size_push]
  exact hq
theorem make_X {rest : List Value} {init : Value} (Y : XMakes (model prog w) h C) (hrest : rest.length ≤ sizeLine) (hi : Looks (model prog w) h (typeLookup (.ref C) "__init__") (some init))
    (hb : ∀ self, Looks (model prog w) h (bindSpecial init self) (init, [self]))
    (hq : codeAny (model prog w) (A.under (.builtin "type.__call__" ⟨.ref C :: rest, []⟩)) (.call init ⟨.ref (h.objs.size + 1) :: rest, []⟩) (InitBack (h.objs.size + 1) R) ⟨(h.push { cls := .type "tuple", data := .seq rest.toArray }).push (excObj C h.objs.size), g, d, t, os⟩) :
    codeAny (model prog w) A (.call (.ref C) ⟨rest, []⟩) R ⟨h, g, d, t, os⟩ := by
  have Y' := Y
  obtain ⟨⟨oc, od, cd, sl, hC, e2, e4⟩, made, base, self, top, noA, noN, call, typ⟩ := Y
  refine codeAny_of_tree ?_
  show wpAny _ _ (callAny (.ref C) _) _ _ _
  refine nd_load hC ?_
  show wpAny _ _ (callAny.viaDunder (.ref C) _) _ _ _
  unfold callAny.viaDunder
  refine wpAny_bind (call.at ?_)
  dsimp only
  rw [tc_bind]
  refine wpAny_bind (wpAny_pure (wpAny_bind (wpAny_pure ?_)))
  refine wpAny_pure (a := Fin.again (.call (.builtin "type.__call__") ⟨.ref C :: rest, []⟩)) (And.intro rfl ?_)
  refine codeAny_call_builtin_at (Code.quiet_builtin _ (by decide +kernel)) entry_typeCall (check_slot tc_kind tc_split typ (tc_args _ _ _) ?_)
  unfold Builtin.«type.__call__»
  have hm : Looks (model prog w) h (mroOf (.ref C)) cd.mro := ((Looks.ld (part := none) hC).andThen .now).andThen .now
  repeat (first | simp only [e4, Bool.false_eq_true, if_false] | with_reducible refine wpAny_call ?_ | lk)
  refine new_X Y' hrest ?_
  have k : ∀ b o, h.get? b = some o → ((h.push { cls := .type "tuple", data := .seq rest.toArray }).push (excObj C h.objs.size)).get? b = some o := fun b o e => Heap.get?_push_of_some _ (Heap.get?_push_of_some _ e)
  have hx : ((h.push { cls := .type "tuple", data := .seq rest.toArray }).push (excObj C h.objs.size)).get? (h.objs.size + 1) = some (excObj C h.objs.size) := by heap_get
  have t1 : Looks (model prog w) ((h.push { cls := .type "tuple", data := .seq rest.toArray }).push (excObj C h.objs.size)) (typeOf (.ref (h.objs.size + 1))) (.ref C) := (Looks.ld hx).andThen .now
  have s1 := self.keeps k
  have i1 := hi.keeps k
  have b1 := (hb (.ref (h.objs.size + 1))).keeps k
  unfold isInstance callSpecial? specialOf
  repeat (first | with_reducible refine wpAny_call ?_ | lk)
  refine codeAny_mono hq fun r s' z => ?_
  rcases r with e | (v | _ | _ | _) <;> first | exact z | exact z.elim | skip
  obtain ⟨rfl, z⟩ := z
  exact wpAny_pure (wpAny_pure z)
end


/-! the attributes of an own exception -/
structure ErrC (K : Frag) (C : Addr) (cd : ClassData) : Prop where
  cl : clsIn K C = some cd
  ne : cd.mro.isEmpty = false
  ob : cd.mro.contains (.type "object") = true
  rf : ∀ self, refuseLoop self "__setattr__" cd.mro = pure ()
  hd : cd.hasDict = true
  st : findIn K (.ref C) "__setattr__" = some (some (.builtin "object.__setattr__"))
  ga : findIn K (.ref C) "__getattribute__" = some (some (.builtin "BaseException.__getattribute__"))
  gh : findIn K (.ref C) "__getattr__" = some none
set_option maxRecDepth 100000 in
theorem refuse_exc (self : Value) : refuseLoop self "__setattr__" [.ref 94, .ref 38, .ref 52, .type "Exception", .type "BaseException", .type "object"] = pure () := by
  rw [refuseLoop_ref, refuseLoop_ref, refuseLoop_ref]
  kernel_rfl
set_option maxRecDepth 100000 in
theorem errC_94 (w : World) : ∃ cd, ErrC (KK w) 94 cd ∧ cd.mro = [.ref 94, .ref 38, .ref 52, .type "Exception", .type "BaseException", .type "object"] := by
  have h : (clsIn (KK w) 94).map (fun c => (c.mro, c.hasDict)) = some ([.ref 94, .ref 38, .ref 52, .type "Exception", .type "BaseException", .type "object"], true) := by kernel_rfl
  obtain ⟨cd, h1, h2⟩ := Option.map_eq_some_iff.mp h
  obtain ⟨h3, h4⟩ := Prod.mk.inj h2
  exact ⟨cd, ⟨h1, by rw [h3]; rfl, by rw [h3]; rfl, fun self => by rw [h3]; exact refuse_exc self, h4, by kernel_rfl, by kernel_rfl, by kernel_rfl⟩, h3⟩
section
variable {prog : Program} {w : World} {A : Around} {E : Value → Shared → Prop} {s : Shared}
theorem storeD {d : Addr} {es es' : List DictEntry} {n n' : Nat} {name : Str} {tk : Tok} {v : Value} {Q : Fin → Shared → Prop} (D : s.heap.get? d = some (dictOf es n)) (hl : (getL name es).isSome = true)
    (e : (putL name (PyData.keyHash w.params name) (.str name s.toks) v es, putN name es n) = (es', n')) (hz : es'.length ≤ 1000)
    (q : ∀ h', h'.get? d = some (dictOf es' n') → Heap.SameBut d s.heap h' → Q (.done (.ret .none)) { s with heap := h', toks := s.toks + 1 }) :
    wpAny (model prog w) A (Builtin.ObjectAttr.storeInDict d (.str name tk) name v) Q E s := by
  obtain ⟨e1, e2⟩ := Prod.mk.inj e
  have eo : Obj.putName name (PyData.keyHash w.params name) (.str name s.toks) v (dictOf es n) = dictOf es' n' := by rw [putName_dict, e1, e2]
  have D' : (s.heap.update d (Obj.putName name (PyData.keyHash w.params name) (.str name s.toks) v)).get? d = some (dictOf es' n') := by
    have := Heap.get?_update_self (Obj.putName name (PyData.keyHash w.params name) (.str name s.toks) v) D (by rw [eo]; rfl)
    rw [eo] at this; exact this
  unfold Builtin.ObjectAttr.storeInDict
  refine wpAny_bind (wpAny_pure (wpAny_bind ?_))
  unfold nsSet
  refine wpAny_bind (wpAny_bind (wpAny_askSetting (wpAny_pure (wpAny_bind (wpAny_mkText (wpAny_bind (wpAny_loadPart D ?_)))))))
  dsimp only
  have c : (!(es.toArray).any (·.key.isStr name) && (es.toArray).any (·.refKey)) = false := by
    rw [← Array.any_toList, ← Array.any_toList]
    unfold getL at hl
    split at hl
    · rename_i en he
      rw [List.any_eq_true.mpr ⟨en, List.mem_of_find?_eq_some he, List.find?_some he⟩]; rfl
    · split at hl
      · cases hl
      · rename_i z; rw [Bool.not_eq_true] at z; rw [z, Bool.and_false]
  rw [aRefKeyMayBeTheName_at, c]
  refine wpAny_updatePart D ?_
  refine wpAny_bind (wpAny_lookBehind D' (by exact pastItsLine_dict (by rw [List.size_toArray, sizeLine_eq]; omega)) ?_)
  exact wpAny_pure (q _ D' (Heap.SameBut.update ..))
theorem osa_openX {K : Frag} {x C : Addr} {cd : ClassData} {ox : Obj} {od : Option Obj} {name : Str} {tk : Tok} {v : Value} {R : Result → Shared → Prop} (X : K.In s.heap) (I : InstAt s.heap x ox C od) (Z : ErrC K C cd) (ht : takerIn K C name = some none)
    (h : ∀ b, wpAny (model prog w) A.in1 (Builtin.ObjectAttr.storeInOwnDict (.ref x) (.ref C) (.str name tk) name v b)
      (fun fin s' => match fin with | .done f => R (.ok f) s' | .again c' => c'.quiet = true ∧ codeAny (model prog w) A c' R s') (fun e s' => R (.error e) s') s) :
    codeAny (model prog w) A (.call (.builtin "object.__setattr__") ⟨[.ref x, .str name tk, v], []⟩) R s := by
  have SF := PySem.F.store_object
  have sub : Looks (model prog w) s.heap (isInstance (.ref x) (.type "object")) true := I.type.andThen (looks_mroIn X (by unfold mroIn; rw [Z.cl, Option.bind_some, if_neg (by rw [Z.ne]; decide), Z.ob]))
  refine codeAny_call_builtin SF.slot.plain SF.entry (@check_slot (model prog w) _ _ s "object.__setattr__" "object" "__setattr__" (.ref x) [.str name tk, v] [] _ SF.kind SF.split sub (SF.args (.ref x) (.str name tk) v) ?_)
  obtain ⟨attr, ha, hr⟩ := Option.bind_eq_some_iff.mp ht
  have hm : Looks (model prog w) s.heap (mroOf (.ref C)) cd.mro := (looks_clsIn X Z.cl).andThen .now
  have L3 : Looks (model prog w) s.heap (Builtin.ObjectAttr.storeTaker? attr) none := by
    cases attr with
    | none => exact .now
    | some a =>
      obtain ⟨b, hb, e⟩ := Option.map_eq_some_iff.mp hr
      refine (looks_takesIn X hb).andThen ?_
      cases b
      · exact .now
      · cases e
  rw [osa_eq, refuse_eq]
  refine wpAny_bind (wpAny_bind (I.type.here (wpAny_bind (hm.here ?_))))
  rw [Z.rf]
  refine wpAny_pure (wpAny_bind (I.type.here (wpAny_bind ((looks_findIn X ha).here (wpAny_bind (L3.here ?_))))))
  exact h _
end
abbrev errO (T dE : Addr) : Obj := { cls := .ref 94, dict := some dE, data := .fields #[.ref T, .none, .none, .none, .bool false, .none] }
section
variable {Γ : Gm} {A : Around} {env : Env} {outer : List Env} {h₀ : Heap} {L : Addr} {h h' : Heap} {l l' : Loc} {nw : Led} {t : Nat} {E : Value → Shared → Prop} {pos : Pos}
theorem inst_exc (c : Fx Γ A env outer h₀ L h l nw) {e T : Addr} (he : (e, excObj 94 T) ∈ nw) : InstAt h e (excObj 94 T) 94 none := ⟨c.get he, rfl, rfl, trivial⟩
theorem inst_err (c : Fx Γ A env outer h₀ L h l nw) {e T dE : Addr} {od : Obj} (he : (e, errO T dE) ∈ nw) (hd : (dE, od) ∈ nw) : InstAt h e (errO T dE) 94 (some od) := ⟨c.get he, rfl, rfl, c.get hd⟩
theorem xerrSet (c : Fx Γ A env outer h₀ L h l nw) {e T dE : Addr} {es es' : List DictEntry} {n n' : Nat} {name : Str} {v : Value} {Q : Unit → Shared → Prop} (he : (e, errO T dE) ∈ nw) (hd : (dE, dictOf es n) ∈ nw) (ht : takerIn (KK Γ.w) 94 name = some none)
    (hl : (getL name es).isSome = true) (ep : (putL name (PyData.keyHash Γ.w.params name) (.str name (t + 1)) v es, putN name es n) = (es', n')) (hz : es'.length ≤ 1000)
    (q : ∀ h' t', Fx Γ A env outer h₀ L h' l (put nw dE (dictOf es' n')) → Q () (S Γ h' t')) : wpAny (model PG Γ.w) A (setAttr (.ref e) name v) Q E (S Γ h t) := by
  obtain ⟨cd, Z, _⟩ := errC_94 Γ.w
  have I := inst_err c he hd
  refine set_plain (s := S Γ h t) c.XI I Z.st (osa_openX (s := S Γ h (t + 1)) c.XI I Z ht fun b => ?_)
  refine wpAny_bind (wpAny_pure (wpAny_bind (wpAny_bind (wpAny_loadPart (c.get he) (wpAny_bind ((looks_clsIn c.XI Z.cl).here ?_))))))
  rw [Z.hd]
  refine wpAny_pure (a := some dE) (storeD (s := S Γ h (t + 1)) (c.get hd) hl ep hz fun h' D' sb => ?_)
  exact q h' _ (c.upd hd sb D')
theorem xerrSet0 (c : Fx Γ A env outer h₀ L h l nw) {e T : Addr} {name : Str} {v : Value} {Q : Unit → Shared → Prop} (he : (e, excObj 94 T) ∈ nw) (ht : takerIn (KK Γ.w) 94 name = some none)
    (q : ∀ h' t' dE hs tk, Fx Γ A env outer h₀ L h' l ((dE, dictOf [⟨hs, .str name tk, v⟩] 1) :: put nw e (errO T dE)) → (∀ p ∈ nw, p.1 < dE) → Q () (S Γ h' t')) : wpAny (model PG Γ.w) A (setAttr (.ref e) name v) Q E (S Γ h t) := by
  obtain ⟨cd, Z, _⟩ := errC_94 Γ.w
  have I := inst_exc c he
  refine set_plain (s := S Γ h t) c.XI I Z.st (osa_openX (s := S Γ h (t + 1)) c.XI I Z ht fun b => ?_)
  refine wpAny_bind (wpAny_pure (wpAny_bind (wpAny_bind (wpAny_loadPart (c.get he) (wpAny_bind ((looks_clsIn c.XI Z.cl).here ?_))))))
  rw [Z.hd]
  have c1 := c.push (dictOf [] 0)
  have lt : ∀ p ∈ nw, p.1 < h.objs.size := fun p hp => c.lt hp
  have gu : ((h.push (dictOf [] 0)).update e fun o => { o with dict := some h.objs.size }).get? e = some (errO T h.objs.size) := Heap.get?_update_self (fun o : Obj => { o with dict := some h.objs.size }) (c1.get (.tail _ he)) rfl
  have c2 := c1.upd (.tail _ he) (Heap.SameBut.update ..) gu
  have ne : h.objs.size ≠ e := fun q => absurd (lt _ he) (by rw [← q]; exact Nat.lt_irrefl _)
  have ep : put ((h.objs.size, dictOf [] 0) :: nw) e (errO T h.objs.size) = (h.objs.size, dictOf [] 0) :: put nw e (errO T h.objs.size) := by
    unfold put
    rw [List.map_cons, if_neg ne]
  rw [ep] at c2
  show wpAny _ _ (alloc (dictOf [] 0) >>= _) _ _ _
  refine wpAny_bind (wpAny_alloc ?_)
  show wpAny _ _ _ _ _ (S Γ (h.push (dictOf [] 0)) (t + 1))
  refine wpAny_bind (wpAny_update (s := S Γ (h.push (dictOf [] 0)) (t + 1)) (c1.get (.tail _ he)) (wpAny_pure ?_))
  refine storeD (s := S Γ ((h.push (dictOf [] 0)).update e fun o => { o with dict := some h.objs.size }) (t + 1)) (c2.get (.head _)) (by rfl) rfl (Nat.le_of_ble_eq_true rfl) fun h' D' sb => ?_
  have c3 := c2.upd (.head _) sb D'
  rw [put_cons (fun p hp => by
    obtain ⟨b, ob⟩ := p
    rcases of_mem_put hp with ⟨e1, _⟩ | ⟨_, hm⟩
    · show b < _; rw [show b = e from e1]; exact lt (e, excObj 94 T) he
    · exact lt _ hm)] at c3
  exact q h' _ _ _ _ c3 lt
theorem xerrGet (c : Fx Γ A env outer h₀ L h l nw) {e T dE : Addr} {es : List DictEntry} {n : Nat} {name : Str} {v : Value} {ex : Bool} {Q : Value → Shared → Prop} (he : (e, errO T dE) ∈ nw) (hd : (dE, dictOf es n) ∈ nw) (ha : findIn (KK Γ.w) (.ref 94) name = some none)
    (hh : hasDictIn (KK Γ.w) 94 = true) (hl : getL name es = some (some v)) (hv : handedIn v = true) (q : ∀ t', Q v (S Γ h t')) : wpAny (model PG Γ.w) A (getAttr (.ref e) name ex) Q E (S Γ h t) := by
  obtain ⟨cd, Z, hm⟩ := errC_94 Γ.w
  have I := inst_err c he hd
  have X := c.XI
  have L0 := I.type (M := model PG Γ.w)
  have L1 := looks_findIn (M := model PG Γ.w) X Z.ga
  have L3 := looks_findIn (M := model PG Γ.w) X Z.gh
  have L2 := looks_find (M := model PG Γ.w) X I (findObj_own (K := KK Γ.w) (od := dictOf es n) hh ha (by rfl) (by rw [lookIn_dict]; exact hl))
  have FB := PySem.F.attrBase_Exception
  have hk : builtinKind "BaseException.__getattribute__" = some .slot := by decide +kernel
  have hsplit : splitId "BaseException.__getattribute__" = some ("BaseException", "__getattribute__") := by decide +kernel
  have sub : Looks (model PG Γ.w) h (isInstance (.ref e) (.type "BaseException")) true := I.type.andThen (looks_mroIn X (by unfold mroIn; rw [Z.cl, Option.bind_some, if_neg (by rw [Z.ne]; decide), hm]; rfl))
  have hx0 : (ex && onTheHeap (Value.builtin "BaseException.__getattribute__")) = false := by cases ex <;> rfl
  have hx2 : (Value.builtin "BaseException.__getattribute__" == Value.builtin "object.__getattribute__") = false := by decide +kernel
  have hx1 : (onTheHeap (Value.ref 94) && Value.builtin "BaseException.__getattribute__" == Value.builtin "object.__getattribute__") = false := by rw [hx2]; rfl
  unfold getAttr getAttrBy
  refine wpAny_bind (wpAny_mkText (wpAny_holding (wpAny_bind (L0.here (wpAny_bind (L1.here ?_))))))
  dsimp only
  rw [hx1]
  show wpAny _ _ (getAttrByItsOwn _ _ _ _ _ _) _ _ _
  unfold getAttrByItsOwn hookBefore callGetattribute boundAndCalled
  refine wpAny_bind ?_
  show wpAny _ _ (typeLookup (.ref 94) "__getattr__") _ _ _
  refine L3.here (wpAny_bind (wpAny_attempt (wpAny_holding ?_)))
  rw [hx0]
  show wpAny _ _ (bindSpecial _ _ >>= _) _ _ _
  rw [FB.ga.bind]
  refine wpAny_bind (wpAny_pure (wpAny_call (codeAny_call_builtin FB.ga.plain PySem.F.entry_bexc_ga (@check_slot (model PG Γ.w) _ _ _ "BaseException.__getattribute__" "BaseException" "__getattribute__" (.ref e) [.str name t] [] _ hk hsplit sub (PySem.F.args_bexc_ga _ _) ?_))))
  unfold Builtin.«object.__getattribute__»
  refine wpAny_bind (wpAny_of_eq (a := (.ref e, [.str name t])) (by first | rfl | kernel_rfl) ?_)
  refine wpAny_bind (wpAny_pure (wpAny_bind (L0.here (wpAny_bind (L2.here ?_)))))
  refine wpAny_pure ?_
  show wpAny _ _ (handedOut v) _ _ _
  rw [handedOut_of hv]
  exact wpAny_pure (q _)
end
set_option maxRecDepth 100000
theorem ek_text (w : World) : takerIn (KK w) 94 (Str.ofString "text") = some none := by kernel_rfl
theorem ek_pos (w : World) : takerIn (KK w) 94 (Str.ofString "pos") = some none := by kernel_rfl
theorem ek_expr (w : World) : takerIn (KK w) 94 (Str.ofString "expr") = some none := by kernel_rfl
theorem ef_pos (w : World) : findIn (KK w) (.ref 94) (Str.ofString "pos") = some none := by kernel_rfl
theorem ed_94 (w : World) : hasDictIn (KK w) 94 = true := by kernel_rfl
theorem ei_94 (w : World) : findIn (KK w) (.ref 94) (Str.ofString "__init__") = some (some (.ref 70)) := by kernel_rfl
theorem fn_70 (w : World) : isFn (KK w) (.ref 70) = true := by kernel_rfl
set_option maxRecDepth 512


def ErrD (od : Obj) (p : Int) : Prop := ∃ h1 t1 v1 h2 t2 u h3 t3 v3 n, od = dictOf [⟨h1, .str (Str.ofString "text") t1, v1⟩, ⟨h2, .str (Str.ofString "pos") t2, .int p u⟩, ⟨h3, .str (Str.ofString "expr") t3, v3⟩] n
def ErrOk (nw : Led) (e dE : Addr) : Prop := ∃ T od p, (e, errO T dE) ∈ nw ∧ (dE, od) ∈ nw ∧ ErrD od p
section
variable {Γ : Gm} {A : Around} {env : Env} {outer : List Env} {h₀ : Heap} {L : Addr} {h h' : Heap} {l l' : Loc} {nw : Led} {t : Nat} {E : Value → Shared → Prop} {pos : Pos}
set_option maxRecDepth 100000 in
set_option maxHeartbeats 8000000 in
theorem pe_init {e T : Addr} {tx : Str} {tt : Tok} {R : Value → Shared → Prop} {n : Nat} (c : Fx Γ A env outer h₀ L h l nw) (r : Room A (n + 1)) (he : (e, excObj 94 T) ∈ nw)
   (q : ∀ h' t' dE nw', Fx Γ A env outer h₀ L h' l nw' → Keep (· = e) nw nw' → ErrOk nw' e dE → (∀ p ∈ nw, p.1 < dE) → R .none (S Γ h' t')) :
   codeAny (model PG Γ.w) A (.call (.ref 70) ⟨[.ref e, .str tx tt], []⟩) (RV R E) (S Γ h t) := by
  refine enter0C (args := ⟨[.ref e, .str tx tt], []⟩) (binds := [("self", .ref e), ("text", .str tx tt), ("pos", .int (-1) _), ("expr", .none)]) [] [("self", some (.ref e)), ("text", some (.str tx tt)), ("pos", some (.int (-1) _)), ("expr", some .none)] c n r rfl (by rfl) (kp_binds c.XI fun _ => by rfl) rfl rfl (by rfl) ?_ rfl rfl rfl (by decide)
  intro A' env' g L' h₁ t' Q he' c' r' back
  walk_at "m:go"
  refine xerrSet0 c' he (ek_text _) fun h2 t2 dE hs tk c2 l2 => ?_
  have e2 := List.Mem.tail (dE, dictOf [⟨hs, .str (Str.ofString "text") tk, .str tx tt⟩] 1) (mem_put_self (o' := errO T dE) he)
  have hne : dE ≠ e := fun q => absurd (l2 _ he) (by rw [q]; exact Nat.lt_irrefl _)
  walk_at "m:go"
  have lt' : ∀ p ∈ put nw e (errO T dE), p.1 < dE := fun p hp => by
    obtain ⟨b, ob⟩ := p
    rcases of_mem_put hp with ⟨e1, _⟩ | ⟨_, hm⟩
    · show b < _; rw [show b = e from e1]; exact l2 _ he
    · exact l2 _ hm
  have em := mem_put_self (o' := errO T dE) he
  refine xerrSet (es' := [⟨hs, .str (Str.ofString "text") tk, .str tx tt⟩, ⟨PyData.keyHash Γ.w.params (Str.ofString "pos"), .str (Str.ofString "pos") (t2 + 1), .int (-1) 258⟩]) (n' := 2) c2 e2 (.head _) (ek_pos _) (by rfl) (by rfl) (Nat.le_of_ble_eq_true rfl) fun h3 t3 c3 => ?_
  rw [put_cons lt'] at c3
  walk_at "m:go"
  refine xerrSet (es' := [⟨hs, .str (Str.ofString "text") tk, .str tx tt⟩, ⟨PyData.keyHash Γ.w.params (Str.ofString "pos"), .str (Str.ofString "pos") (t2 + 1), .int (-1) 258⟩, ⟨PyData.keyHash Γ.w.params (Str.ofString "expr"), .str (Str.ofString "expr") (t3 + 1), .none⟩]) (n' := 3) c3 (.tail _ em) (.head _) (ek_expr _) (by rfl) (by rfl) (Nat.le_of_ble_eq_true rfl) fun h4 t4 c4 => ?_
  rw [put_cons lt'] at c4
  walk_at "m:go"
  exact (back _ _ ⟨_, _, c4, fun cc => q _ _ dE _ cc (Keep.put.trans Keep.cons) ⟨T, _, -1, .tail _ em, .head _, _, _, _, _, _, _, _, _, _, _, rfl⟩ l2⟩).2 rfl
theorem pe_ok {tx : Str} {tt : Tok} {R : Value → Shared → Prop} {n : Nat} {p0 : Addr × Obj} (c : Fx Γ A env outer h₀ L h l nw) (r : Room A (n + 2)) (m0 : p0 ∈ nw)
   (q : ∀ h' t' e dE nw', Fx Γ A env outer h₀ L h' l nw' → Keep (fun _ => False) nw nw' → ErrOk nw' e dE → (∀ p ∈ nw, p.1 < e) → (∀ p ∈ nw, p.1 < dE) → R (.ref e) (S Γ h' t')) :
   wpAny (model PG Γ.w) A (call (.ref 94) [.str tx tt] []) R E (S Γ h t) := by
  have c1 := c.push { cls := .type "tuple", data := .seq [Value.str tx tt].toArray }
  have c2 := c1.push (excObj 94 h.objs.size)
  have c2' := c2.under 94 [.str tx tt] []
  have lt : ∀ p ∈ nw, p.1 < h.objs.size := fun p hp => c.lt hp
  have es : (h.push { cls := .type "tuple", data := .seq [Value.str tx tt].toArray }).objs.size = h.objs.size + 1 := Heap.size_push ..
  rw [es] at c2'
  refine wpAny_call (make_X (xmakes_of c.XI (xmk_94 _)) (Nat.le_of_ble_eq_true rfl) (looks_findIn c.XI (ei_94 _)) (fun self => bind_fn c.XI self (beq_iff_eq.mp (fn_70 _))) ?_)
  refine codeAny_mono (pe_init (R := fun v s' => v = .none ∧ R (.ref (h.objs.size + 1)) s') (E := E) (n := n) c2' (r.under _ _ _) (.head _) fun h3 t3 dE nw3 c3 k3 e3 l3 => ⟨rfl, ?_⟩) fun res s' z => ?_
  · refine q h3 t3 _ dE nw3 { c3 with hA := c.hA, hh := c.hh } (fun p hp _ => k3 _ (.tail _ (.tail _ hp)) (Nat.ne_of_lt (Nat.lt_succ_of_lt (lt _ hp)))) e3 (fun p hp => Nat.lt_succ_of_lt (lt _ hp)) fun p hp => l3 _ (.tail _ (.tail _ hp))
  · rcases res with e | (_ | _ | _ | v) <;> exact z
/-- `error.pos` -/
theorem xerrPos (c : Fx Γ A env outer h₀ L h l nw) {e dE : Addr} {ex : Bool} {Q : Value → Shared → Prop} (he : ErrOk nw e dE) (q : ∀ t' p u, Q (.int p u) (S Γ h t')) : wpAny (model PG Γ.w) A (getAttr (.ref e) (Str.ofString "pos") ex) Q E (S Γ h t) := by
  obtain ⟨T, od, p, h1, h2, a1, a2, a3, a4, a5, u, a7, a8, a9, n, rfl⟩ := he
  exact xerrGet c h1 h2 (ef_pos _) (ed_94 _) (by rfl) (by rfl) fun t' => q t' p u
theorem xerrSetE (c : Fx Γ A env outer h₀ L h l nw) {e dE : Addr} {v : Value} {Q : Unit → Shared → Prop} (he : ErrOk nw e dE) (q : ∀ h' t' od, Fx Γ A env outer h₀ L h' l (put nw dE od) → ErrOk (put nw dE od) e dE → Q () (S Γ h' t')) :
    wpAny (model PG Γ.w) A (setAttr (.ref e) (Str.ofString "expr") v) Q E (S Γ h t) := by
  obtain ⟨T, od, p, h1, h2, a1, a2, a3, a4, a5, u, a7, a8, a9, n, rfl⟩ := he
  have hne : e ≠ dE := fun q => by
    subst q
    have := c.uniq h1 h2
    have := congrArg Obj.data this
    cases this
  exact xerrSet (es' := [⟨a1, .str (Str.ofString "text") a2, a3⟩, ⟨a4, .str (Str.ofString "pos") a5, .int p u⟩, ⟨a7, .str (Str.ofString "expr") a8, v⟩]) (n' := n) c h1 h2 (ek_expr _) (by rfl) (by rfl) (Nat.le_of_ble_eq_true rfl) fun h' t' c' =>
    q h' t' _ c' ⟨T, _, p, mem_put_ne h1 hne, mem_put_self h2, _, _, _, _, _, _, _, _, _, _, rfl⟩
theorem xerrSetP (c : Fx Γ A env outer h₀ L h l nw) {e dE : Addr} {p' : Int} {u' : Tok} {Q : Unit → Shared → Prop} (he : ErrOk nw e dE) (q : ∀ h' t' od, Fx Γ A env outer h₀ L h' l (put nw dE od) → ErrOk (put nw dE od) e dE → Q () (S Γ h' t')) :
    wpAny (model PG Γ.w) A (setAttr (.ref e) (Str.ofString "pos") (.int p' u')) Q E (S Γ h t) := by
  obtain ⟨T, od, p, h1, h2, a1, a2, a3, a4, a5, u, a7, a8, a9, n, rfl⟩ := he
  have hne : e ≠ dE := fun q => by
    subst q
    have := c.uniq h1 h2
    have := congrArg Obj.data this
    cases this
  exact xerrSet (es' := [⟨a1, .str (Str.ofString "text") a2, a3⟩, ⟨a4, .str (Str.ofString "pos") a5, .int p' u'⟩, ⟨a7, .str (Str.ofString "expr") a8, a9⟩]) (n' := n) c h1 h2 (ek_pos _) (by rfl) (by rfl) (Nat.le_of_ble_eq_true rfl) fun h' t' c' =>
    q h' t' _ c' ⟨T, _, p', mem_put_ne h1 hne, mem_put_self h2, _, _, _, _, _, _, _, _, _, _, rfl⟩
end


/-! dicts keyed by ints -/
def IsD (Γ : Gm) (nw : Led) (a : Addr) (kvs : List (Int × Value)) : Prop := ∃ o, (a, o) ∈ nw ∧ o.IsDictOf (intKind PG Γ.w) kvs
section
variable {Γ : Gm} {A : Around} {env : Env} {outer : List Env} {h₀ : Heap} {L : Addr} {h h' : Heap} {l l' : Loc} {nw : Led} {t : Nat} {E : Value → Shared → Prop} {pos : Pos}
theorem IsD.keep {W : Addr → Prop} {nw' : Led} {a kvs} (m : IsD Γ nw a kvs) (k : Keep W nw nw') (hw : ¬ W a) : IsD Γ nw' a kvs := let ⟨o, m, d⟩ := m; ⟨o, k _ m hw, d⟩
theorem IsD.data {a kvs} (m : IsD Γ nw a kvs) : ∃ o es ep, (a, o) ∈ nw ∧ o.cls = .type "dict" ∧ o.data = .dict es ep := let ⟨o, m, es, ep, hc, hd, _⟩ := m; ⟨o, es, ep, m, hc.1, hd⟩
theorem IsD.nodup {a kvs} (m : IsD Γ nw a kvs) : (kvs.map (·.1)).Nodup := let ⟨_, _, _, _, _, _, _, _, n⟩ := m; n
theorem xdgetM (c : Fx Γ A env outer h₀ L h l nw) {a kvs} {pl : Sem Bool} {Q : Value × List Value → Shared → Prop} (m : IsD Γ nw a kvs) (q : Q (.builtin "dict.get", [.ref a]) (S Γ h t)) : wpAny (model PG Γ.w) A (getMethod (.ref a) (Str.ofString "get") pl) Q E (S Γ h t) :=
  let ⟨_, m, d⟩ := m; kdg_method (knd := intKind PG Γ.w) c.N m d q
theorem xdget (c : Fx Γ A env outer h₀ L h l nw) {a kvs} {k : Int} {u : Tok} {Q : Value → Shared → Prop} (m : IsD Γ nw a kvs) (q : ∀ t', Q ((valueAt kvs k).getD .none) (S Γ h t')) : wpAny (model PG Γ.w) A (call (.builtin "dict.get") [.ref a, .int k u]) Q E (S Γ h t) :=
  let ⟨_, m, d⟩ := m; kdg_get1 (knd := intKind PG Γ.w) c.N m d (c.low m) (intKind_is _ _ _ _) _ rfl (q _)
theorem xdin (c : Fx Γ A env outer h₀ L h l nw) {a kvs} {k : Int} {u : Tok} {Q : Value → Shared → Prop} (m : IsD Γ nw a kvs) (q : ∀ t', Q (.bool (valueAt kvs k).isSome) (S Γ h t')) : wpAny (model PG Γ.w) A (compareOp .In (.int k u) (.ref a)) Q E (S Γ h t) :=
  let ⟨_, m, d⟩ := m; kda_in (knd := intKind PG Γ.w) c.N m d (c.low m) (intKind_is _ _ _ _) _ rfl (q _)
theorem xditem (c : Fx Γ A env outer h₀ L h l nw) {value slice : Expr} {a kvs v} {k : Int} {u : Tok} {Q : Value → Shared → Prop} (m : IsD Γ nw a kvs) (hv : valueAt kvs k = some v) (q : ∀ t', Q v (S Γ h t'))
    (hs : subscripted slice false (.ref a) (.int k u) = operate [.ref a, .int k u] (getItem (.ref a) (.int k u)) := by with_unfolding_all rfl) (hg : ∀ r, letTemporaryGo value (.ref a) r = pure () := by intro _; with_unfolding_all rfl) :
    wpAny (model PG Γ.w) A (subscriptTail value slice (.ref a) (.int k u)) Q E (S Γ h t) :=
  let ⟨_, m, d⟩ := m; kda_item (knd := intKind PG Γ.w) c.N m d (intKind_is _ _ _ _) hv (q _) hs hg
theorem xdlen (c : Fx Γ A env outer h₀ L h l nw) {a kvs} {Q : Value → Shared → Prop} (m : IsD Γ nw a kvs) (hz : kvs.length ≤ 1000) (q : ∀ t' u, Q (.int kvs.length u) (S Γ h t')) : wpAny (model PG Γ.w) A (call (.builtin "len") [.ref a]) Q E (S Γ h t) :=
  let ⟨_, m, d⟩ := m; kda_len (knd := intKind PG Γ.w) c.N m d (c.low m) (by omega) (q _ _)
theorem xdset (c : Fx Γ A env outer h₀ L h l nw) {a kvs} {k : Int} {u : Tok} {v : Value} {Q : Unit → Shared → Prop} (m : IsD Γ nw a kvs) (hz : kvs.length ≤ 1000)
    (q : ∀ h' t' o, Fx Γ A env outer h₀ L h' l (put nw a o) → IsD Γ (put nw a o) a (stored kvs k v) → Q () (S Γ h' t')) : wpAny (model PG Γ.w) A (setItem (.ref a) (.int k u) v) Q E (S Γ h t) :=
  let ⟨_, m, d⟩ := m; kda_set (knd := intKind PG Γ.w) c.F c.N (updF_of c.nd m) d (intKind_is _ _ _ _) (by rw [line_is]; omega) fun h' o' F' N' d' => q h' _ o' (c.ofPut m F' N') ⟨o', mem_put_self m, d'⟩
theorem xdnew (c : Fx Γ A env outer h₀ L h l nw) {Q : Value → Shared → Prop} (q : ∀ h' a, Fx Γ A env outer h₀ L h' l ((a, dictOf [] 0) :: nw) → (∀ p ∈ nw, p.1 < a) → IsD Γ ((a, dictOf [] 0) :: nw) a [] → Q (.ref a) (S Γ h' t)) : wpAny (model PG Γ.w) A (eval (.Dict [] [] pos) env) Q E (S Γ h t) :=
  wpAny_Dict_empty (q _ _ (c.push (dictOf [] 0)) (fun p hp => c.lt hp) ⟨_, .head _, _, _, ⟨rfl, rfl, rfl⟩, rfl, (fun _ e => by simp at e), .nil, .nil⟩)
theorem isRef_other (c : Fx Γ A env outer h₀ L h l nw) {x y : Addr} {ox oy : Obj} {Q : Value → Shared → Prop} (hx : (x, ox) ∈ nw) (hy : (y, oy) ∈ nw) (hne : x ≠ y) (ht : ox.cls ≠ .type "tuple") (q : Q (.bool false) (S Γ h t)) : wpAny (model PG Γ.w) A (compareOp .Is (.ref x) (.ref y)) Q E (S Γ h t) :=
  wpAny_is_ref_other hne (c.get hx) (c.get hy) ht q
/-! values of a dict -/
theorem valueAt_mem {kvs : List (Int × Value)} {k : Int} {v : Value} (h : valueAt kvs k = some v) : (k, v) ∈ kvs := by
  unfold valueAt at h
  obtain ⟨x, hx, rfl⟩ := Option.map_eq_some_iff.mp h
  have h1 := List.mem_of_find?_eq_some hx
  have h2 : x.1 = k := by simpa using List.find?_some hx
  rw [← h2]; exact h1
theorem valueAt_isSome {kvs : List (Int × Value)} {k : Int} {v : Value} (h : (k, v) ∈ kvs) : (valueAt kvs k).isSome = true := by
  unfold valueAt
  rw [Option.isSome_map, List.find?_isSome]
  exact ⟨_, h, by simp⟩
theorem valueAt_none {kvs : List (Int × Value)} {k : Int} (h : ∀ v, (k, v) ∉ kvs) : valueAt kvs k = none := by
  cases e : valueAt kvs k with
  | none => rfl
  | some v => exact absurd (valueAt_mem e) (h v)
theorem mem_stored {kvs : List (Int × Value)} {k q : Int} {v u : Value} (nd : (kvs.map (·.1)).Nodup) : (q, u) ∈ stored kvs k v ↔ (q = k ∧ u = v) ∨ (q ≠ k ∧ (q, u) ∈ kvs) := by
  unfold stored
  split
  · rename_i ha
    obtain ⟨x, hx, hk⟩ := List.any_eq_true.mp ha
    have hk : x.1 = k := of_decide_eq_true hk
    constructor
    · intro h
      obtain ⟨y, hy, e⟩ := List.mem_map.mp h
      by_cases hyk : y.1 = k
      · rw [if_pos hyk] at e
        obtain ⟨rfl, rfl⟩ := Prod.mk.inj e
        exact .inl ⟨hyk, rfl⟩
      · rw [if_neg hyk] at e
        subst e
        exact .inr ⟨hyk, hy⟩
    · rintro (⟨rfl, rfl⟩ | ⟨hne, hm⟩)
      · exact List.mem_map.mpr ⟨x, hx, by rw [if_pos hk, hk]⟩
      · exact List.mem_map.mpr ⟨_, hm, by rw [if_neg hne]⟩
  · rename_i ha
    rw [List.mem_append, List.mem_singleton]
    constructor
    · rintro (h | h)
      · refine .inr ⟨fun e => ha (List.any_eq_true.mpr ⟨_, h, ?_⟩), h⟩
        exact decide_eq_true e
      · obtain ⟨rfl, rfl⟩ := Prod.mk.inj h
        exact .inl ⟨rfl, rfl⟩
    · rintro (⟨rfl, rfl⟩ | ⟨_, hm⟩)
      · exact .inr rfl
      · exact .inl hm
end


/-! what a matching keeps -/
def notDict (o : Obj) : Prop := ∀ es ep, o.data ≠ .dict es ep
def isDictO (o : Obj) : Prop := ∃ es ep, o.data = .dict es ep
/-- neither a tuple nor of an own class -/
def soft (o : Obj) : Prop := (o.cls ≠ .type "tuple" ∧ ∀ c, o.cls ≠ .ref c) ∨ ∃ v, o.data = .cell v
theorem soft.own {o : Obj} (h : soft o) (hd : ∀ v, o.data ≠ .cell v) : o.cls ≠ .type "tuple" ∧ ∀ c, o.cls ≠ .ref c := h.elim id fun ⟨v, e⟩ => absurd e (hd v)
mutual
/-- a node of the ledger; its list is none of `X` (the lists that callers still write to) -/
def NodeAt (X : List Addr) (nw : Led) (rs : Nat → Addr) (tx : Str) : Tree → Addr → Prop
  | .node k s e kids, a => ∃ (dx ch : Addr) (od : Obj) (xs : List Addr) (t1 t2 t3 : Tok), (a, inO 212 dx [some (.ref ch), some (.int e t1), some (.ref (rs k)), some (.str tx t2), some (.int s t3)]) ∈ nw ∧ (dx, od) ∈ nw ∧ isDictO od ∧ IsQ "list" nw ch (xs.map Value.ref) ∧ ch ∉ X ∧ NodesAt X nw rs tx kids xs
def NodesAt (X : List Addr) (nw : Led) (rs : Nat → Addr) (tx : Str) : List Tree → List Addr → Prop
  | [], xs => xs = []
  | t :: ts, xs => ∃ a r, xs = a :: r ∧ NodeAt X nw rs tx t a ∧ NodesAt X nw rs tx ts r
end
/-- what is no dict stays as it was, but for soft ones of `X`; dicts stay dicts -/
def Kd (X : List Addr) (nw nw' : Led) : Prop := (∀ p ∈ nw, notDict p.2 → ¬ (p.1 ∈ X ∧ soft p.2) → p ∈ nw') ∧ ∀ a o, (a, o) ∈ nw → isDictO o → ∃ o', (a, o') ∈ nw' ∧ isDictO o'
theorem uniq_nd {nw : Led} {a : Addr} {o q : Obj} (nd : (nw.map (·.1)).Nodup) (m : (a, o) ∈ nw) (hq : (a, q) ∈ nw) : q = o := by
  induction nw with
  | nil => cases hq
  | cons p r ih =>
    rw [List.map_cons, List.nodup_cons] at nd
    rcases List.mem_cons.mp m with e1 | m1
    · rcases List.mem_cons.mp hq with e2 | h2
      · rw [← e1] at e2; exact (Prod.mk.inj e2).2
      · exact absurd (List.mem_map_of_mem (f := (·.1)) h2) (by rw [← e1] at nd; exact nd.1)
    · rcases List.mem_cons.mp hq with e2 | h2
      · exact absurd (List.mem_map_of_mem (f := (·.1)) m1) (by rw [← e2] at nd; exact nd.1)
      · exact ih nd.2 m1 h2
section
variable {X : List Addr} {nw nw' n1 n2 n3 : Led} {rs : Nat → Addr} {tx : Str}
theorem Kd.refl : Kd X nw nw := ⟨fun _ h _ _ => h, fun a o h d => ⟨o, h, d⟩⟩
theorem Kd.trans (x : Kd X n1 n2) (y : Kd X n2 n3) : Kd X n1 n3 := ⟨fun p h d e => y.1 p (x.1 p h d e) d e, fun a o h d => let ⟨o', h', d'⟩ := x.2 a o h d; y.2 a o' h' d'⟩
theorem Kd.cons {p : Addr × Obj} : Kd X nw (p :: nw) := ⟨fun _ h _ _ => .tail _ h, fun a o h d => ⟨o, .tail _ h, d⟩⟩
theorem Kd.ofKeep (k : Keep (fun _ => False) nw nw') : Kd X nw nw' := ⟨fun p h _ _ => k p h id, fun a o h d => ⟨o, k _ h id, d⟩⟩
theorem Kd.mono {Y : List Addr} (k : Kd Y nw nw') (h : ∀ a ∈ Y, a ∈ X) : Kd X nw nw' := ⟨fun p hp d e => k.1 p hp d fun z => e ⟨h _ z.1, z.2⟩, k.2⟩
theorem Kd.any (k : Kd [] nw nw') : Kd X nw nw' := k.mono fun _ h => nomatch h
theorem Kd.put {a : Addr} {o o' : Obj} (nd : (nw.map (·.1)).Nodup) (m : (a, o) ∈ nw) (hd : isDictO o) (hd' : isDictO o') : Kd X nw (Mine.put nw a o') := by
  refine ⟨fun p hp hn _ => ?_, fun b q hq d => ?_⟩
  · obtain ⟨b, q⟩ := p
    refine mem_put_ne hp fun e => ?_
    subst e
    rw [uniq_nd nd m hp] at hn
    obtain ⟨es, ep, hd⟩ := hd
    exact hn es ep hd
  · by_cases e : b = a
    · subst e; exact ⟨o', mem_put_self hq, hd'⟩
    · exact ⟨q, mem_put_ne hq e, d⟩
theorem Kd.putL {a : Addr} {o o' : Obj} (nd : (nw.map (·.1)).Nodup) (m : (a, o) ∈ nw) (hn : notDict o) (hc : soft o) (hX : a ∈ X) : Kd X nw (Mine.put nw a o') := by
  refine ⟨fun p hp _ hx => ?_, fun b q hq d => ?_⟩
  · obtain ⟨b, q⟩ := p
    refine mem_put_ne hp fun e => ?_
    subst e
    exact hx ⟨hX, by show soft q; rw [uniq_nd nd m hp]; exact hc⟩
  · refine ⟨q, mem_put_ne hq fun e => ?_, d⟩
    subst e
    rw [uniq_nd nd m hq] at d
    obtain ⟨es, ep, d⟩ := d
    exact hn es ep d
/-- a soft object goes -/
theorem Kd.drop {a : Addr} {o : Obj} (nd : (nw.map (·.1)).Nodup) (m : (a, o) ∈ nw) (hn : notDict o) (hc : soft o) (hX : a ∈ X) (k : Keep (· = a) nw nw') : Kd X nw nw' := by
  refine ⟨fun p hp _ hx => k p hp fun e => ?_, fun b q hq d => ⟨q, k _ hq fun e => ?_, d⟩⟩
  · obtain ⟨b, q⟩ := p
    have e : b = a := e
    subst e
    exact hx ⟨hX, by show soft q; rw [uniq_nd nd m hp]; exact hc⟩
  · have e : b = a := e
    subst e
    rw [uniq_nd nd m hq] at d
    obtain ⟨es, ep, d⟩ := d
    exact hn es ep d
/-- a change at an address that is not of the old ledger -/
theorem Kd.late {a : Addr} {n2 : Led} (k : Kd X nw nw') (h : ∀ p ∈ nw, p.1 ≠ a) (w : Keep (· = a) nw' n2) (hd : ∀ b o, (b, o) ∈ nw' → b ≠ a → (b, o) ∈ n2) : Kd X nw n2 := by
  refine ⟨fun p hp d e => w _ (k.1 p hp d e) (h _ hp), fun b o hb d => ?_⟩
  obtain ⟨o1, h1, d1⟩ := k.2 b o hb d
  exact ⟨o1, hd b o1 h1 (h _ hb), d1⟩
theorem Kd.all (k : Kd [] nw nw') (a : Addr) (o : Obj) (h : (a, o) ∈ nw) : ∃ o', (a, o') ∈ nw' := by
  by_cases d : isDictO o
  · obtain ⟨o', h', _⟩ := k.2 a o h d; exact ⟨o', h'⟩
  · exact ⟨o, k.1 _ h (fun es ep e => d ⟨es, ep, e⟩) fun z => nomatch z.1⟩
theorem soft_list {T : String} {xs : List Value} {n : Nat} (h : soft (seqO T xs n)) : T ≠ "tuple" := fun e => (h.own fun v e => by cases e).1 (by rw [e])
theorem IsQ.kdT {a xs} (m : IsQ "tuple" nw a xs) (k : Kd X nw nw') : IsQ "tuple" nw' a xs := ⟨m.1, let ⟨n, m⟩ := m.2; ⟨n, k.1 _ m (fun es ep e => by cases e) fun z => soft_list z.2 rfl⟩⟩
theorem IsQ.kdL {T a xs} (m : IsQ T nw a xs) (k : Kd X nw nw') (ha : a ∉ X) : IsQ T nw' a xs := ⟨m.1, let ⟨n, m⟩ := m.2; ⟨n, k.1 _ m (fun es ep e => by cases e) fun z => ha z.1⟩⟩
theorem IsW.kdL {T a xs} (m : IsW T nw a xs) (k : Kd X nw nw') (ha : a ∉ X) : IsW T nw' a xs := ⟨m.1, let ⟨o, n, m, hc, hd⟩ := m.2; ⟨o, n, k.1 _ m (fun es ep e => by rw [show o.data = _ from hd] at e; cases e) (fun z => ha z.1), hc, hd⟩⟩
theorem IsW.kdT {a xs} (m : IsW "tuple" nw a xs) (k : Kd X nw nw') : IsW "tuple" nw' a xs := ⟨m.1, let ⟨o, n, m, hc, hd⟩ := m.2; ⟨o, n, k.1 _ m (fun es ep e => by rw [show o.data = _ from hd] at e; cases e) (fun z => (z.2.own fun v e => by rw [show o.data = _ from hd] at e; cases e).1 hc), hc, hd⟩⟩
theorem nd_inst {C dx : Addr} {sl : List (Option Value)} : notDict (inO C dx sl) := fun es ep e => by cases e
theorem Kd.inst (k : Kd X nw nw') {x C dx : Addr} {sl : List (Option Value)} (h : (x, inO C dx sl) ∈ nw) : (x, inO C dx sl) ∈ nw' := k.1 _ h nd_inst fun z => (z.2.own fun v e => by cases e).2 C rfl
variable {Y : List Addr}
mutual
/-- the lists of the nodes are not touched: `Y` bars what `X` bars -/
theorem NodeAt.kd (k : Kd Y nw nw') (hl : ∀ a xs n, (a, seqO "list" xs n) ∈ nw → a ∈ Y → a ∈ X) : ∀ {t : Tree} {a : Addr}, NodeAt X nw rs tx t a → NodeAt X nw' rs tx t a
  | .node _ _ _ kids, a, h => by
    unfold NodeAt at h ⊢
    obtain ⟨dx, ch, od, xs, t1, t2, t3, h1, h2, h2d, h3, hX, h4⟩ := h
    obtain ⟨od', h2', h2d'⟩ := k.2 _ _ h2 h2d
    exact ⟨dx, ch, od', xs, t1, t2, t3, k.inst h1, h2', h2d', h3.kdL k fun z => let ⟨_, n, m⟩ := h3; hX (hl _ _ _ m z), hX, NodesAt.kd k hl h4⟩
theorem NodesAt.kd (k : Kd Y nw nw') (hl : ∀ a xs n, (a, seqO "list" xs n) ∈ nw → a ∈ Y → a ∈ X) : ∀ {ts : List Tree} {xs : List Addr}, NodesAt X nw rs tx ts xs → NodesAt X nw' rs tx ts xs
  | [], xs, h => by unfold NodesAt at h ⊢; exact h
  | t :: ts, xs, h => by
    unfold NodesAt at h ⊢
    obtain ⟨a, r, e, h1, h2⟩ := h
    exact ⟨a, r, e, NodeAt.kd k hl h1, NodesAt.kd k hl h2⟩
end
mutual
/-- fewer lists are barred -/
theorem NodeAt.less {Y : List Addr} (hY : ∀ a ∈ Y, a ∈ X) : ∀ {t : Tree} {a : Addr}, NodeAt X nw rs tx t a → NodeAt Y nw rs tx t a
  | .node _ _ _ kids, a, h => by
    unfold NodeAt at h ⊢
    obtain ⟨dx, ch, od, xs, t1, t2, t3, h1, h2, h2d, h3, hX, h4⟩ := h
    exact ⟨dx, ch, od, xs, t1, t2, t3, h1, h2, h2d, h3, fun z => hX (hY _ z), NodesAt.less hY h4⟩
theorem NodesAt.less {Y : List Addr} (hY : ∀ a ∈ Y, a ∈ X) : ∀ {ts : List Tree} {xs : List Addr}, NodesAt X nw rs tx ts xs → NodesAt Y nw rs tx ts xs
  | [], xs, h => by unfold NodesAt at h ⊢; exact h
  | t :: ts, xs, h => by
    unfold NodesAt at h ⊢
    obtain ⟨a, r, e, h1, h2⟩ := h
    exact ⟨a, r, e, NodeAt.less hY h1, NodesAt.less hY h2⟩
end
mutual
/-- a list that is not of the ledger is barred for nothing -/
theorem NodeAt.more {ch : Addr} (hc : ∀ p ∈ nw, p.1 ≠ ch) : ∀ {t : Tree} {a : Addr}, NodeAt X nw rs tx t a → NodeAt (ch :: X) nw rs tx t a
  | .node _ _ _ kids, a, h => by
    unfold NodeAt at h ⊢
    obtain ⟨dx, ch', od, xs, t1, t2, t3, h1, h2, h2d, h3, hX, h4⟩ := h
    refine ⟨dx, ch', od, xs, t1, t2, t3, h1, h2, h2d, h3, fun z => ?_, NodesAt.more hc h4⟩
    rcases List.mem_cons.mp z with e | z
    · obtain ⟨_, n, m⟩ := h3
      exact hc _ m e
    · exact hX z
theorem NodesAt.more {ch : Addr} (hc : ∀ p ∈ nw, p.1 ≠ ch) : ∀ {ts : List Tree} {xs : List Addr}, NodesAt X nw rs tx ts xs → NodesAt (ch :: X) nw rs tx ts xs
  | [], xs, h => by unfold NodesAt at h ⊢; exact h
  | t :: ts, xs, h => by
    unfold NodesAt at h ⊢
    obtain ⟨a, r, e, h1, h2⟩ := h
    exact ⟨a, r, e, NodeAt.more hc h1, NodesAt.more hc h2⟩
end
def ResAt (X : List Addr) (nw : Led) (rs : Nat → Addr) (tx : Str) : Option Tree → Value → Prop
  | none, v => v = .none
  | some t, v => ∃ a, v = .ref a ∧ NodeAt X nw rs tx t a
theorem ResAt.kd (k : Kd Y nw nw') (hl : ∀ a xs n, (a, seqO "list" xs n) ∈ nw → a ∈ Y → a ∈ X) : ∀ {t : Option Tree} {v : Value}, ResAt X nw rs tx t v → ResAt X nw' rs tx t v
  | none, _, h => h
  | some _, _, ⟨a, e, h⟩ => ⟨a, e, h.kd k hl⟩
theorem ResAt.less {Y : List Addr} (hY : ∀ a ∈ Y, a ∈ X) : ∀ {t : Option Tree} {v : Value}, ResAt X nw rs tx t v → ResAt Y nw rs tx t v
  | none, _, h => h
  | some _, _, ⟨a, e, h⟩ => ⟨a, e, h.less hY⟩
theorem ResAt.more {ch : Addr} (hc : ∀ p ∈ nw, p.1 ≠ ch) : ∀ {t : Option Tree} {v : Value}, ResAt X nw rs tx t v → ResAt (ch :: X) nw rs tx t v
  | none, _, h => h
  | some _, _, ⟨a, e, h⟩ => ⟨a, e, h.more hc⟩
theorem IsExpr.kd {nm : Str} {e dx : Addr} {p : Plan} (k : Kd X nw nw') (h : IsExpr nw rs nm e dx p) : IsExpr nw' rs nm e dx p := by
  cases p with
  | word lit => obtain ⟨id, t1, t2, h1⟩ := h; exact ⟨id, t1, t2, k.inst h1⟩
  | chain a b => obtain ⟨T, id, t, h1, h2⟩ := h; exact ⟨T, id, t, k.inst h1, h2.kdT k⟩
  | choice a b => obtain ⟨T, id, t, h1, h2⟩ := h; exact ⟨T, id, t, k.inst h1, h2.kdT k⟩
  | look neg a => obtain ⟨T, id, t, h1, h2⟩ := h; exact ⟨T, id, t, k.inst h1, h2.kdT k⟩
  | many a least most => obtain ⟨mv, T, id, t, t', h1, h2, h3⟩ := h; exact ⟨mv, T, id, t, t', k.inst h1, h2, h3.kdT k⟩
end
structure Gr where
  n : Nat
  pl : Nat → Plan
  tx : Str
  rs : Nat → Addr
  nm : Nat → Str
  dx : Nat → Addr
structure Gr.Ok (g : Gr) : Prop where
  ok : ∀ j, j < g.n → (g.pl j).ok j
  n8 : g.n ≤ 8
  tx7 : g.tx.length ≤ 7
  nm1 : ∀ j, j < g.n → (g.nm j).length = 2
/-- the expressions stand as they were built -/
def GrAt (nw : Led) (g : Gr) : Prop := ∀ k, k < g.n → IsExpr nw g.rs (g.nm k) (g.rs k) (g.dx k) (g.pl k)
theorem GrAt.kd {X : List Addr} {nw nw' : Led} {g : Gr} (h : GrAt nw g) (k : Kd X nw nw') : GrAt nw' g := fun j hj => (h j hj).kd k
abbrev Oi := Nat → List (Nat × Addr)
def PairsAt (nw : Led) (Ts : List Addr) (L : List (Nat × Addr)) : Prop := Ts.length = L.length ∧ ∀ (i : Nat) (q : Nat × Addr), L[i]? = some q → ∃ a t o, Ts[i]? = some a ∧ IsQ "tuple" nw a [.int q.1 t, .ref q.2] ∧ (q.2, o) ∈ nw ∧ isDictO o
def OidsV (nw : Led) (v : Option Value) (L : List (Nat × Addr)) : Prop := (v = none ∧ L = []) ∨ ∃ T Ts, v = some (.ref T) ∧ IsQ "tuple" nw T (Ts.map Value.ref) ∧ PairsAt nw Ts L
def OidsAt (nw : Led) (g : Gr) (oi : Oi) : Prop := ∀ k, k < g.n → ∃ od v, (g.dx k, od) ∈ nw ∧ OidD od v ∧ OidsV nw v (oi k)
theorem OidsV.kd {X : List Addr} {nw nw' : Led} {v : Option Value} {L : List (Nat × Addr)} (h : OidsV nw v L) (k : Kd X nw nw') : OidsV nw' v L := by
  rcases h with h | ⟨T, Ts, e, h1, h2, h3⟩
  · exact .inl h
  · refine .inr ⟨T, Ts, e, h1.kdT k, h2, fun i q hq => ?_⟩
    obtain ⟨a, t, o, x1, x2, x3, x4⟩ := h3 i q hq
    obtain ⟨o', x3', x4'⟩ := k.2 _ _ x3 x4
    exact ⟨a, t, o', x1, x2.kdT k, x3', x4'⟩
/-- a cache: its rows, each the row of one piece -/
structure CS where
  rows : List Addr
  ow : List Nat
def cacheKvs (rows : List Addr) : List (Int × Value) := rows.mapIdx fun i r => ((i : Int), Value.ref r)
def RowKv (X : List Addr) (nw : Led) (g : Gr) (M G : Memo) (j : Nat) (kvs : List (Int × Value)) : Prop :=
  (∀ q v, (q, v) ∈ kvs → ∃ p : Nat, q = p ∧ p ≤ g.tx.length ∧ ((M j p = true ∧ ResAt X nw g.rs g.tx (ev g.pl g.tx j p) v) ∨ (G j p = true ∧ v = .ref 220))) ∧ ∀ p : Nat, M j p = true ∨ G j p = true → ∃ v, ((p : Int), v) ∈ kvs
structure CacheAt (Γ : Gm) (X : List Addr) (nw : Led) (g : Gr) (ca : Addr) (cs : CS) (M G : Memo) : Prop where
  len : cs.rows.length = cs.ow.length
  rnd : cs.rows.Nodup
  ond : cs.ow.Nodup
  olt : ∀ j ∈ cs.ow, j < g.n
  top : IsD Γ nw ca (cacheKvs cs.rows)
  row : ∀ (i j : Nat) (r : Addr), cs.ow[i]? = some j → cs.rows[i]? = some r → ∃ kvs, IsD Γ nw r kvs ∧ RowKv X nw g M G j kvs
  has : ∀ j p, M j p = true ∨ G j p = true → j ∈ cs.ow
  used : ∀ j ∈ cs.ow, ∃ p, M j p = true ∨ G j p = true
structure Linked (g : Gr) (cs : CS) (oi : Oi) (B : Nat) : Prop where
  to : ∀ j, j < g.n → ∀ q ∈ oi j, cs.rows[q.1]? = some q.2 → cs.ow[q.1]? = some j
  back : ∀ (o j : Nat), cs.ow[o]? = some j → ∃ r, cs.rows[o]? = some r ∧ (o, r) ∈ oi j
  few : ∀ j, (oi j).length ≤ B + (if j ∈ cs.ow then 1 else 0)
structure Apart (g : Gr) (ca dE : Addr) (cs : CS) : Prop where
  cr : ca ∉ cs.rows
  ce : ca ≠ dE
  er : dE ∉ cs.rows
  xc : ∀ j, j < g.n → g.dx j ≠ ca
  xr : ∀ j, j < g.n → g.dx j ∉ cs.rows
  xe : ∀ j, j < g.n → g.dx j ≠ dE
  xx : ∀ i j, i < g.n → j < g.n → g.dx i = g.dx j → i = j
structure MSt (Γ : Gm) (X : List Addr) (nw : Led) (g : Gr) (ca er dE : Addr) (cs : CS) (oi : Oi) (B : Nat) (M G : Memo) : Prop where
  gr : GrAt nw g
  oids : OidsAt nw g oi
  cache : CacheAt Γ X nw g ca cs M G
  link : Linked g cs oi B
  err : ErrOk nw er dE
  ap : Apart g ca dE cs
  le : M.le g.n g.tx.length
/-- what a matching may write to -/
def MW (g : Gr) (ca dE : Addr) (cs : CS) : Addr → Prop := fun a => a = ca ∨ a ∈ cs.rows ∨ (∃ j, j < g.n ∧ a = g.dx j) ∨ a = dE
/-- how the rows grow -/
structure Grew (nw : Led) (cs cs' : CS) (oi oi' : Oi) : Prop where
  ex : ∃ nr no, cs'.rows = cs.rows ++ nr ∧ cs'.ow = cs.ow ++ no ∧ (∀ r ∈ nr, ∀ p ∈ nw, p.1 ≠ r) ∧ ∀ j, ∀ q ∈ oi' j, q ∈ oi j ∨ q.2 ∈ nr
  old : ∀ j, ∀ q ∈ oi j, q ∈ oi' j

section
variable {Γ : Gm} {X Y : List Addr} {nw nw' : Led} {g : Gr} {ca er dE : Addr} {cs : CS} {oi : Oi} {B : Nat} {M G : Memo} {W : Addr → Prop}
theorem RowKv.kd {j : Nat} {kvs : List (Int × Value)} (h : RowKv X nw g M G j kvs) (k : Kd Y nw nw') (hl : ∀ a xs n, (a, seqO "list" xs n) ∈ nw → a ∈ Y → a ∈ X) : RowKv X nw' g M G j kvs :=
  ⟨fun q v hq => let ⟨p, e, hp, z⟩ := h.1 q v hq; ⟨p, e, hp, z.imp (fun ⟨a, b⟩ => ⟨a, b.kd k hl⟩) id⟩, h.2⟩
theorem CacheAt.keep (s : CacheAt Γ X nw g ca cs M G) (k : Kd Y nw nw') (hl : ∀ a xs n, (a, seqO "list" xs n) ∈ nw → a ∈ Y → a ∈ X) (w : Keep W nw nw') (h1 : ¬ W ca) (h2 : ∀ r ∈ cs.rows, ¬ W r) : CacheAt Γ X nw' g ca cs M G where
  len := s.len
  rnd := s.rnd
  ond := s.ond
  olt := s.olt
  top := s.top.keep w h1
  row := fun i j r hi hr => let ⟨kvs, hd, hk⟩ := s.row i j r hi hr; ⟨kvs, hd.keep w (h2 r (List.mem_of_getElem? hr)), hk.kd k hl⟩
  has := s.has
  used := s.used
theorem OidsAt.keep (s : OidsAt nw g oi) (k : Kd Y nw nw') (w : Keep W nw nw') (h1 : ∀ j, j < g.n → ¬ W (g.dx j)) : OidsAt nw' g oi := fun j hj =>
  let ⟨od, v, a, b, c⟩ := s j hj; ⟨od, v, w _ a (h1 j hj), b, c.kd k⟩
theorem ErrOk.keep (s : ErrOk nw er dE) (k : Kd Y nw nw') (w : Keep W nw nw') (h1 : ¬ W dE) : ErrOk nw' er dE :=
  let ⟨T, od, p, a, b, c⟩ := s; ⟨T, od, p, k.1 _ a (fun es ep e => by cases e) (fun z => (z.2.own fun v e => by cases e).2 94 rfl), w _ b h1, c⟩
theorem MSt.keep (s : MSt Γ X nw g ca er dE cs oi B M G) (k : Kd Y nw nw') (hl : ∀ a xs n, (a, seqO "list" xs n) ∈ nw → a ∈ Y → a ∈ X) (w : Keep W nw nw') (hW : ∀ a, MW g ca dE cs a → ¬ W a) : MSt Γ X nw' g ca er dE cs oi B M G where
  gr := s.gr.kd k
  oids := s.oids.keep k w fun j hj => hW _ (.inr (.inr (.inl ⟨j, hj, rfl⟩)))
  cache := s.cache.keep k hl w (hW _ (.inl rfl)) fun r hr => hW _ (.inr (.inl hr))
  link := s.link
  err := s.err.keep k w (hW _ (.inr (.inr (.inr rfl))))
  ap := s.ap
  le := s.le
theorem MSt.cons {p : Addr × Obj} (s : MSt Γ X nw g ca er dE cs oi B M G) : MSt Γ X (p :: nw) g ca er dE cs oi B M G := s.keep (Y := []) Kd.cons (fun _ _ _ _ h => nomatch h) (W := fun _ => False) Keep.cons fun _ _ => id
theorem MSt.ofKeep (s : MSt Γ X nw g ca er dE cs oi B M G) (k : Keep (fun _ => False) nw nw') : MSt Γ X nw' g ca er dE cs oi B M G := s.keep (Y := []) (Kd.ofKeep k) (fun _ _ _ _ h => nomatch h) k fun _ _ => id
end


local macro_rules | `(tactic| walk_at "m:s") => `(tactic| first
  | ((with_reducible show wpAny _ _ (isTrue (PySem.Expr.Call _ _ _ _) _ _) _ _ _); refine isTrue_plain ?_)
  | ((with_reducible show wpAny _ _ (isTrue (PySem.Expr.Name _ _) _ _) _ _ _); refine isTrue_plain ?_)
  | ((with_reducible show wpAny _ _ (isTrue (PySem.Expr.Attribute _ _ _) _ _) _ _ _); refine isTrue_plain ?_)
  | ((with_reducible show wpAny _ _ (getMethod (Value.str _ _) (Str.ofString "startswith") _) _ _ _); refine GM.startswith ?_))


def um : Plan → Addr
  | .word _ => 325
  | .chain _ _ => 384
  | .choice _ _ => 410
  | .look _ _ => 447
  | .many _ _ _ => 486
/-- a call of `match_core` or of an `_uncached_match`: what it gives, what it remembers -/
def MCall (Γ : Gm) (g : Gr) (fn : Addr) (rm k lo : Nat) (mem : Nat → Nat → Memo → Memo) : Prop :=
  ∀ {A : Around} {env : Env} {outer : List Env} {h₀ : Heap} {L : Addr} {h : Heap} {l : Loc} {nw : Led} {t : Nat} {E : Value → Shared → Prop} {X : List Addr} {ca er dE : Addr} {cs : CS} {oi : Oi} {B : Nat} {M G : Memo} {p : Nat} {tt tp : Tok} {R : Value → Shared → Prop},
    Fx Γ A env outer h₀ L h l nw → Room A rm → MSt Γ X nw g ca er dE cs oi B M G → (∀ x ∈ X, ∃ o, (x, o) ∈ nw ∧ notDict o) → (∀ j q, G j q = true → lo ≤ j) → p ≤ g.tx.length → B ≤ 900 →
    (∀ h' t' v nw' cs' oi', Fx Γ A env outer h₀ L h' l nw' → MSt Γ X nw' g ca er dE cs' oi' B (mem k p M) G → ResAt X nw' g.rs g.tx (ev g.pl g.tx k p) v → Kd [] nw nw' → Keep (MW g ca dE cs) nw nw' → Grew nw cs cs' oi oi' → R v (S Γ h' t')) →
    wpAny (model PG Γ.w) A (call (.ref fn) [.ref (g.rs k), .str g.tx tt, .int p tp, .ref ca, .ref er] []) R E (S Γ h t)
theorem Grew.refl {nw : Led} {cs : CS} {oi : Oi} : Grew nw cs cs oi oi := ⟨⟨[], [], by simp, by simp, fun _ h => (nomatch h), fun _ _ h => .inl h⟩, fun _ _ h => h⟩
theorem Grew.trans {n1 n2 : Led} {c1 c2 c3 : CS} {o1 o2 o3 : Oi} (x : Grew n1 c1 c2 o1 o2) (y : Grew n2 c2 c3 o2 o3) (k : ∀ a o, (a, o) ∈ n1 → ∃ o', (a, o') ∈ n2) : Grew n1 c1 c3 o1 o3 := by
  obtain ⟨nr, no, a1, a2, a3, a4⟩ := x.ex
  obtain ⟨mr, mo, b1, b2, b3, b4⟩ := y.ex
  refine ⟨⟨nr ++ mr, no ++ mo, by rw [b1, a1, List.append_assoc], by rw [b2, a2, List.append_assoc], fun r hr p hp => ?_, fun j q hq => ?_⟩, fun j q hq => y.old j q (x.old j q hq)⟩
  · rcases List.mem_append.mp hr with hr | hr
    · exact a3 r hr p hp
    · obtain ⟨o', h'⟩ := k p.1 p.2 hp
      exact b3 r hr (p.1, o') h'
  · rcases b4 j q hq with h | h
    · exact (a4 j q h).imp id fun z => List.mem_append_left _ z
    · exact .inr (List.mem_append_right _ h)
theorem starts_lit {tx lit : Str} {p : Nat} (hp : p ≤ tx.length) : Txt.startswith3 tx lit (p : Int) = litAt tx lit p := by
  unfold Txt.startswith3 litAt
  have : fromIndex tx.length (p : Int) = p := by
    unfold fromIndex
    rw [if_neg (by omega)]
    omega
  rw [this]
section
variable {Γ : Gm} {A : Around} {env : Env} {outer : List Env} {h₀ : Heap} {L : Addr} {h h' : Heap} {l l' : Loc} {nw : Led} {t : Nat} {E : Value → Shared → Prop} {pos : Pos} {g : Gr} (hg : g.Ok)
include hg
set_option maxRecDepth 100000 in
set_option maxHeartbeats 8000000 in
theorem um_word {k : Nat} {lit : Str} (hk : k < g.n) (e : g.pl k = .word lit) : MCall Γ g 325 4 k k (asked g.pl g.tx) := by
  intro A env outer h₀ L h l nw t E X ca er dE cs oi B M G p tt tp R c r s hX hG hp hB q
  refine enter0 (args := ⟨[.ref (g.rs k), .str g.tx tt, .int p tp, .ref ca, .ref er], []⟩) (binds := [("self", .ref (g.rs k)), ("text", .str g.tx tt), ("pos", .int p tp), ("cache", .ref ca), ("error", .ref er)]) [] [("self", some (.ref (g.rs k))), ("text", some (.str g.tx tt)), ("pos", some (.int p tp)), ("cache", some (.ref ca)), ("error", some (.ref er))] c 3 r rfl (by rfl) (BindsTo.of_eq rfl) rfl rfl (by rfl) ?_ rfl rfl rfl (by decide)
  intro A' env' b L' h₁ t' Q he c' r' back
  have ie := s.gr k hk
  rw [e] at ie
  obtain ⟨id, t1, t2, hx⟩ := ie
  obtain ⟨od, v, hd, hv, ho⟩ := s.oids k hk
  walk_at "m:go"
  refine xgetSlot c' hx hd (sg_336_literal _) rfl rfl fun t3 => ?_
  dsimp only
  walk_at "m:go"
  refine SC.startswith3 ?_
  rw [starts_lit hp]
  walk_at "m:go"
  have ea : asked g.pl g.tx k p M = M := by unfold asked; simp only [e]
  have ek := ev_word (tx := g.tx) (p := p) e
  have ok := hg.ok k hk
  rw [e] at ok
  have hl2 : lit.length ≤ 2 := by
    have : ∀ x ∈ lits, x.length ≤ 2 := by decide
    exact this lit ok
  split
  · rename_i hl
    rw [if_pos hl] at ek
    walk_at "m:go"
    refine xgetSlot c' hx hd (sg_336_literal _) rfl rfl fun t3 => ?_
    walk_at "m:go"
    refine xlenS (by omega) fun t4 u4 => ?_
    walk_at "m:go"
    rw [show (p : Int) + (lit.length : Nat) = ((p + lit.length : Nat) : Int) by omega]
    refine node_ok (cv := .none) (xs := []) (n := 1) c' (r'.mono (by omega)) hx (.inl ⟨rfl, rfl⟩) (.inl ⟨rfl, rfl, rfl⟩) fun h6 t6 x dxn ch nw6 c6 k6 hx6 hd6 m6 f6 => ?_
    have hch : ch ∉ X := fun z => by
      rcases f6 with ⟨f, _⟩ | f
      · cases f
      · obtain ⟨o, ho, _⟩ := hX _ z
        exact f _ ho rfl
    refine (back _ _ ⟨_, _, c6, fun cc => q _ _ _ _ _ _ cc (ea.symm ▸ s.ofKeep k6) ?_ (Kd.ofKeep k6) (k6.mono fun _ z => z.elim) Grew.refl⟩).1
    rw [ek]
    refine ⟨x, rfl, ?_⟩
    unfold NodeAt
    exact ⟨dxn, ch, _, [], _, _, _, hx6, hd6, ⟨_, _, rfl⟩, m6, hch, rfl⟩
  · rename_i hl
    rw [if_neg hl] at ek
    walk_at "m:go"
    refine (back _ _ ⟨_, _, c', fun cc => q _ _ _ _ _ _ cc (ea.symm ▸ s) (ek.symm ▸ rfl) Kd.refl Keep.refl Grew.refl⟩).2 rfl
end


theorem IsExpr.inst {w : World} {nw : Led} {rs : Nat → Addr} {nm : Str} {e dx : Addr} {p : Plan} (h : IsExpr nw rs nm e dx p) :
    ∃ C sl i t, (e, inO C dx sl) ∈ nw ∧ OidC (KK w) C ∧ findIn (KK w) (.ref C) (Str.ofString "_uncached_match") = some (some (.ref (um p))) ∧ isFn (KK w) (.ref (um p)) = true ∧ SlotG (KK w) C (Str.ofString "name") i ∧ sl[i]?.join = some (.str nm t) := by
  cases p with
  | word lit => obtain ⟨id, t1, t2, h1⟩ := h; exact ⟨_, _, _, _, h1, oc_336 w, um_336 w, fnd_325 w, sg_336_name w, rfl⟩
  | chain a b => obtain ⟨T, id, t, h1, h2⟩ := h; exact ⟨_, _, _, _, h1, oc_394 w, um_394 w, fnd_384 w, sg_394_name w, rfl⟩
  | choice a b => obtain ⟨T, id, t, h1, h2⟩ := h; exact ⟨_, _, _, _, h1, oc_420 w, um_420 w, fnd_410 w, sg_420_name w, rfl⟩
  | look neg a => obtain ⟨T, id, t, h1, h2⟩ := h; exact ⟨_, _, _, _, h1, oc_458 w, um_458 w, fnd_447 w, sg_458_name w, rfl⟩
  | many a least most => obtain ⟨mv, T, id, t, t', h1, h2, h3⟩ := h; exact ⟨_, _, _, _, h1, oc_497 w, um_497 w, fnd_486 w, sg_497_name w, rfl⟩
section
variable {Γ : Gm} {A : Around} {env : Env} {outer : List Env} {h₀ : Heap} {L : Addr} {h h' : Heap} {l l' : Loc} {nw : Led} {t : Nat} {E : Value → Shared → Prop} {pos : Pos} {g : Gr}
theorem MCall.mono {fn : Addr} {rm rm' k lo : Nat} {mem : Nat → Nat → Memo → Memo} (m : MCall Γ g fn rm k lo mem) (hr : rm ≤ rm') : MCall Γ g fn rm' k lo mem := by
  intro A env outer h₀ L h l nw t E X ca er dE cs oi B M G p tt tp R c r
  exact m c (r.mono hr)
/-- `m.match_core` of an expression -/
theorem xmatchM (c : Fx Γ A env outer h₀ L h l nw) {X : List Addr} {ca er dE : Addr} {cs : CS} {oi : Oi} {B : Nat} {M G : Memo} {k : Nat} {pl : Sem Bool} {Q : Value × List Value → Shared → Prop} (s : MSt Γ X nw g ca er dE cs oi B M G) (hk : k < g.n)
    (q : Q (.ref 266, [.ref (g.rs k)]) (S Γ h t)) : wpAny (model PG Γ.w) A (getMethod (.ref (g.rs k)) (Str.ofString "match_core") pl) Q E (S Γ h t) := by
  obtain ⟨C, sl, i, t1, hx, O, _⟩ := (s.gr k hk).inst (w := Γ.w)
  obtain ⟨od, v, hd, hv, ho⟩ := s.oids k hk
  exact xmeth c hx hd hv O.pg O.mc (fnd_266 _) (by decide) q
theorem xunM (c : Fx Γ A env outer h₀ L h l nw) {X : List Addr} {ca er dE : Addr} {cs : CS} {oi : Oi} {B : Nat} {M G : Memo} {k : Nat} {pl : Sem Bool} {Q : Value × List Value → Shared → Prop} (s : MSt Γ X nw g ca er dE cs oi B M G) (hk : k < g.n)
    (q : Q (.ref (um (g.pl k)), [.ref (g.rs k)]) (S Γ h t)) : wpAny (model PG Γ.w) A (getMethod (.ref (g.rs k)) (Str.ofString "_uncached_match") pl) Q E (S Γ h t) := by
  obtain ⟨C, sl, i, t1, hx, O, hu, hf, _⟩ := (s.gr k hk).inst (w := Γ.w)
  obtain ⟨od, v, hd, hv, ho⟩ := s.oids k hk
  exact xmeth c hx hd hv O.pg hu hf (by decide) q
theorem kf_266 (w : World) : keepIn (KK w) (.ref 266) = true := by kernel_rfl
theorem NodeAt.fields {X : List Addr} {nw : Led} {rs : Nat → Addr} {tx : Str} {tr : Tree} {a : Addr} (h : NodeAt X nw rs tx tr a) : ∃ (dx ch : Addr) (od : Obj) (xs : List Addr) (t1 t2 t3 : Tok), (a, inO 212 dx [some (.ref ch), some (.int tr.e t1), some (.ref (rs tr.k)), some (.str tx t2), some (.int tr.s t3)]) ∈ nw ∧ (dx, od) ∈ nw ∧ isDictO od ∧ IsQ "list" nw ch (xs.map Value.ref) ∧ ch ∉ X ∧ NodesAt X nw rs tx tr.kids xs := by
  cases tr with
  | node k s e kids => unfold NodeAt at h; exact h
/-- a node's end, its start, its children -/
theorem xnodeEnd (c : Fx Γ A env outer h₀ L h l nw) {X : List Addr} {rs : Nat → Addr} {tx : Str} {tr : Tree} {a : Addr} {ex : Bool} {Q : Value → Shared → Prop} (h1 : NodeAt X nw rs tx tr a) (q : ∀ t' u, Q (.int tr.e u) (S Γ h t')) : wpAny (model PG Γ.w) A (getAttr (.ref a) (Str.ofString "end") ex) Q E (S Γ h t) := by
  obtain ⟨dx, ch, od, xs, t1, t2, t3, hx, hd, _⟩ := h1.fields
  exact xgetSlot c hx hd (sg_212_end _) rfl rfl fun t' => q t' t1
theorem xnodeStart (c : Fx Γ A env outer h₀ L h l nw) {X : List Addr} {rs : Nat → Addr} {tx : Str} {tr : Tree} {a : Addr} {ex : Bool} {Q : Value → Shared → Prop} (h1 : NodeAt X nw rs tx tr a) (q : ∀ t' u, Q (.int tr.s u) (S Γ h t')) : wpAny (model PG Γ.w) A (getAttr (.ref a) (Str.ofString "start") ex) Q E (S Γ h t) := by
  obtain ⟨dx, ch, od, xs, t1, t2, t3, hx, hd, _⟩ := h1.fields
  exact xgetSlot c hx hd (sg_212_start _) rfl rfl fun t' => q t' t3
variable (hg : g.Ok)
include hg
set_option maxRecDepth 100000 in
set_option maxHeartbeats 8000000 in
theorem um_look {k : Nat} {neg : Bool} {a : Nat} (hk : k < g.n) (e : g.pl k = .look neg a) (mt : ∀ j, j < k → MCall Γ g 266 (2 * j + 6) j (j + 1) (run g.pl g.tx)) : MCall Γ g 447 (2 * k + 5) k k (asked g.pl g.tx) := by
  intro A env outer h₀ L h l nw t E X ca er dE cs oi B M G p tt tp R c r s hX hG hp hB q
  refine enter0 (args := ⟨[.ref (g.rs k), .str g.tx tt, .int p tp, .ref ca, .ref er], []⟩) (binds := [("self", .ref (g.rs k)), ("text", .str g.tx tt), ("pos", .int p tp), ("cache", .ref ca), ("error", .ref er)]) ["node"] [("self", some (.ref (g.rs k))), ("text", some (.str g.tx tt)), ("pos", some (.int p tp)), ("cache", some (.ref ca)), ("error", some (.ref er)), ("node", none)] c (2 * k + 4) r rfl (by rfl) (BindsTo.of_eq rfl) rfl rfl (by rfl) ?_ rfl rfl rfl (by decide)
  intro A' env' b L' h₁ t' Q he c' r' back
  have ok := hg.ok k hk
  have l1 := (Plan.ok_lt ok).2.2.1 neg a e
  have ea : asked g.pl g.tx k p M = run g.pl g.tx a p M := by unfold asked; simp only [e]
  have ek := ev_look (tx := g.tx) (p := p) e ok
  have ie := s.gr k hk
  rw [e] at ie
  obtain ⟨T, id, t1, hx, hT⟩ := ie
  obtain ⟨od, v, hd, hv, ho⟩ := s.oids k hk
  walk_at "m:go"
  refine xgetSlot c' hx hd (sg_458_members _) rfl rfl fun t3 => ?_
  walk_at "m:go"
  refine xtitem c' hT.w (by decide) rfl ?_
  refine xmatchM c' s (Nat.lt_trans l1 hk) ?_
  dsimp only
  walk_at "m:go"
  refine ⟨kp_f c' (kf_266 _), ?_⟩
  refine mt a l1 c' (r'.mono (by omega)) s hX (fun j q hj => Nat.lt_of_lt_of_le l1 (hG j q hj)) hp hB fun h4 t4 v4 nw4 cs4 oi4 c4 s4 res4 kd4 k4 gr4 => ?_
  have hx4 := kd4.inst hx
  obtain ⟨od4, v04, hd4, hv4, ho4⟩ := s4.oids k hk
  walk_at "m:go"
  rename Fx _ _ _ _ _ _ _ _ _ => c5
  have hb : (v4 == Value.none) = (ev g.pl g.tx a p).isNone := by
    cases hev : ev g.pl g.tx a p with
    | none => rw [hev] at res4; obtain rfl : v4 = .none := res4; rfl
    | some tr => rw [hev] at res4; obtain ⟨x4, rfl, _⟩ := res4; rfl
  walk_at "m:go"
  refine xgetSlot c5 hx4 hd4 (sg_458_negativity _) rfl rfl fun t6 => ?_
  rw [hb]
  walk_at "m:go"
  have kW : ∀ {nw6}, Keep (fun _ => False) nw4 nw6 → Keep (MW g ca dE cs) nw nw6 := fun k6 => k4.trans (k6.mono fun _ z => z.elim)
  split
  · rename_i hc
    rw [if_pos (eq_of_beq hc)] at ek
    walk_at "m:go"
    refine node_ok (cv := .none) (xs := []) (n := 1) c5 (r'.mono (by omega)) hx4 (.inl ⟨rfl, rfl⟩) (.inl ⟨rfl, rfl, rfl⟩) fun h6 t6 x dxn ch nw6 c6 k6 hx6 hd6 m6 f6 => ?_
    have hch : ch ∉ X := fun z => by
      rcases f6 with ⟨f, _⟩ | f
      · cases f
      · obtain ⟨o, ho, hn⟩ := hX _ z
        exact f _ (kd4.1 _ ho hn fun z => nomatch z.1) rfl
    refine (back _ _ ⟨_, _, c6, fun cc => q _ _ _ _ _ _ cc (ea.symm ▸ s4.ofKeep k6) ?_ (kd4.trans (Kd.ofKeep k6)) (kW k6) gr4⟩).1
    rw [ek]
    refine ⟨x, rfl, ?_⟩
    unfold NodeAt
    exact ⟨dxn, ch, _, [], _, _, _, hx6, hd6, ⟨_, _, rfl⟩, m6, hch, rfl⟩
  · rename_i hc
    rw [if_neg (fun z => hc (by rw [z]; exact beq_self_eq_true _))] at ek
    walk_at "m:go"
    exact (back _ _ ⟨_, _, c5, fun cc => q _ _ _ _ _ _ cc (ea.symm ▸ s4) (ek.symm ▸ rfl) kd4 k4 gr4⟩).2 rfl
end


theorem TupIt.kd {I a : Addr} {xs : List Value} {i : Nat} {nw nw' : Led} (h : TupIt I a xs i nw) (k : Kd [] nw nw') : TupIt I a xs i nw' :=
  let ⟨⟨o, m, hc, hd⟩, w⟩ := h; ⟨⟨o, k.1 _ m (fun es ep e => by rw [show o.data = _ from hd] at e; cases e) (fun z => nomatch z.1), hc, hd⟩, w.kdT k⟩
theorem RngIt.kd {I : Addr} {n i : Nat} {nw nw' : Led} (h : RngIt I n i nw) (k : Kd [] nw nw') : RngIt I n i nw' := k.1 _ h (fun es ep e => by cases e) fun z => nomatch z.1
section
variable {Γ : Gm} {A : Around} {env : Env} {outer : List Env} {h₀ : Heap} {L : Addr} {h h' : Heap} {l l' : Loc} {nw : Led} {t : Nat} {E : Value → Shared → Prop} {pos : Pos} {g : Gr}
theorem MSt.dicts {X : List Addr} {ca er dE : Addr} {cs : CS} {oi : Oi} {B : Nat} {M G : Memo} (s : MSt Γ X nw g ca er dE cs oi B M G) {a : Addr} (h : MW g ca dE cs a) : ∃ o, (a, o) ∈ nw ∧ isDictO o := by
  rcases h with rfl | hb | ⟨j, hj, rfl⟩ | rfl
  · obtain ⟨o, es, ep, m, _, d⟩ := s.cache.top.data
    exact ⟨o, m, es, ep, d⟩
  · obtain ⟨i, hi⟩ := List.mem_iff_getElem?.mp hb
    have hlt : i < cs.ow.length := by rw [← s.cache.len]; exact (List.getElem?_eq_some_iff.mp hi).1
    obtain ⟨kvs, hd, _⟩ := s.cache.row i _ _ (List.getElem?_eq_getElem hlt) hi
    obtain ⟨o, es, ep, m, _, d⟩ := hd.data
    exact ⟨o, m, es, ep, d⟩
  · obtain ⟨od, v, m, hv, _⟩ := s.oids j hj
    refine ⟨od, m, ?_⟩
    cases v with
    | none => obtain rfl : od = dictOf [] 0 := hv; exact ⟨_, _, rfl⟩
    | some v => obtain ⟨_, _, rfl⟩ := hv; exact ⟨_, _, rfl⟩
  · obtain ⟨T, od, p, _, m, h1, t1, v1, h2, t2, u, h3, t3, v3, n, rfl⟩ := s.err
    exact ⟨_, m, _, _, rfl⟩
/-- a change at an object that is soft and no list of `X`: what a matching keeps stays -/
theorem MSt.aside (c : Fx Γ A env outer h₀ L h l nw) {X : List Addr} {ca er dE : Addr} {cs : CS} {oi : Oi} {B : Nat} {M G : Memo} {I : Addr} {o : Obj} {nw' : Led} (s : MSt Γ X nw g ca er dE cs oi B M G) (m : (I, o) ∈ nw) (hn : notDict o) (k : Kd [I] nw nw') (w : Keep (· = I) nw nw')
    (hl : o.cls = .type "list" → I ∈ X) : MSt Γ X nw' g ca er dE cs oi B M G := by
  refine s.keep (Y := [I]) k (fun b ys n hb hY => ?_) w fun b hb e => ?_
  · rw [List.mem_singleton] at hY
    subst hY
    exact hl (by rw [c.uniq m hb])
  · subst e
    obtain ⟨q, hq, es, ep, hd⟩ := s.dicts hb
    rw [c.uniq hq m] at hd
    exact hn es ep hd
theorem TupIt.soft {I a : Addr} {xs : List Value} {i : Nat} (it : TupIt I a xs i nw) : ∃ o, (I, o) ∈ nw ∧ notDict o ∧ soft o ∧ o.cls ≠ .type "list" := by
  obtain ⟨⟨o, m, hc, hd⟩, _⟩ := it
  exact ⟨o, m, (fun es ep e => by rw [show o.data = _ from hd] at e; cases e), .inl ⟨(by rw [show o.cls = _ from hc]; decide), (fun c e => by rw [show o.cls = _ from hc] at e; cases e)⟩, (by rw [show o.cls = _ from hc]; decide)⟩
theorem MSt.iter (c : Fx Γ A env outer h₀ L h l nw) {X : List Addr} {ca er dE : Addr} {cs : CS} {oi : Oi} {B : Nat} {M G : Memo} {I a : Addr} {xs : List Value} {i : Nat} {o' : Obj} (s : MSt Γ X nw g ca er dE cs oi B M G) (it : TupIt I a xs i nw) : MSt Γ X (put nw I o') g ca er dE cs oi B M G := by
  obtain ⟨o, m, hn, hs, hl⟩ := it.soft
  exact s.aside c m hn (Kd.putL c.nd m hn hs (.head _)) Keep.put fun e => absurd e hl
theorem MSt.iterEnd (c : Fx Γ A env outer h₀ L h l nw) {X : List Addr} {ca er dE : Addr} {cs : CS} {oi : Oi} {B : Nat} {M G : Memo} {I a : Addr} {xs : List Value} {i : Nat} {nw' : Led} (s : MSt Γ X nw g ca er dE cs oi B M G) (it : TupIt I a xs i nw) (w : Keep (· = I) nw nw') : MSt Γ X nw' g ca er dE cs oi B M G := by
  obtain ⟨o, m, hn, hs, hl⟩ := it.soft
  exact s.aside c m hn (Kd.drop c.nd m hn hs (.head _) w) w fun e => absurd e hl
theorem Grew.mw {cs cs' : CS} {oi oi' : Oi} {ca dE : Addr} (x : Grew nw cs cs' oi oi') {p : Addr × Obj} (hp : p ∈ nw) (h : MW g ca dE cs' p.1) : MW g ca dE cs p.1 := by
  obtain ⟨nr, no, a1, _, a3, _⟩ := x.ex
  rcases h with h | h | h | h
  · exact .inl h
  · rw [a1] at h
    rcases List.mem_append.mp h with h | h
    · exact .inr (.inl h)
    · exact absurd rfl (a3 _ h _ hp)
  · exact .inr (.inr (.inl h))
  · exact .inr (.inr (.inr h))
theorem Grew.keep {cs cs' : CS} {oi oi' : Oi} {ca dE : Addr} {n1 n2 : Led} (x : Grew nw cs cs' oi oi') (k1 : Keep (MW g ca dE cs) nw n1) (k2 : Keep (MW g ca dE cs') n1 n2) : Keep (MW g ca dE cs) nw n2 :=
  fun p hp hn => k2 p (k1 p hp hn) fun z => hn (x.mw hp z)
variable (hg : g.Ok)
include hg
set_option maxRecDepth 100000 in
set_option maxHeartbeats 8000000 in
theorem um_choice {k : Nat} {a b : Nat} (hk : k < g.n) (e : g.pl k = .choice a b) (mt : ∀ j, j < k → MCall Γ g 266 (2 * j + 6) j (j + 1) (run g.pl g.tx)) : MCall Γ g 410 (2 * k + 5) k k (asked g.pl g.tx) := by
  intro A env outer h₀ L h l nw t E X ca er dE cs oi B M G p tt tp R c r s hX hG hp hB q
  refine enter0 (args := ⟨[.ref (g.rs k), .str g.tx tt, .int p tp, .ref ca, .ref er], []⟩) (binds := [("self", .ref (g.rs k)), ("text", .str g.tx tt), ("pos", .int p tp), ("cache", .ref ca), ("error", .ref er)]) ["m", "node"] [("self", some (.ref (g.rs k))), ("text", some (.str g.tx tt)), ("pos", some (.int p tp)), ("cache", some (.ref ca)), ("error", some (.ref er)), ("m", none), ("node", none)] c (2 * k + 4) r rfl (by rfl) (BindsTo.of_eq rfl) rfl rfl (by rfl) ?_ rfl rfl rfl (by decide)
  intro A' env' b0 L' h₁ t' Q he c' r' back
  have ok := hg.ok k hk
  obtain ⟨l1, l2⟩ := (Plan.ok_lt ok).2.1 a b e
  have ea : asked g.pl g.tx k p M = match ev g.pl g.tx a p with
      | some _ => run g.pl g.tx a p M
      | none => run g.pl g.tx b p (run g.pl g.tx a p M) := by unfold asked; simp only [e] <;> cases ev g.pl g.tx a p <;> rfl
  have ek := ev_choice (tx := g.tx) (p := p) e ok
  have ie := s.gr k hk
  rw [e] at ie
  obtain ⟨T, id, t1, hx, hT⟩ := ie
  obtain ⟨od, v, hd, hv, ho⟩ := s.oids k hk
  walk_at "m:go"
  refine xgetSlot c' hx hd (sg_420_members _) rfl rfl fun t3 => ?_
  refine xiter_tup c' hT.w fun I h2 o2 c2 lI X2 it2 => ?_
  refine xforLoop X2 (fun i l3 nw3 => ∃ (cs3 : CS) (oi3 : Oi) (M3 : Memo) (mv nv : Option Value), l3 = ([("self", some (.ref (g.rs k))), ("text", some (.str g.tx tt)), ("pos", some (.int p tp)), ("cache", some (.ref ca)), ("error", some (.ref er)), ("m", mv), ("node", nv)] : Loc) ∧
      MSt Γ X nw3 g ca er dE cs3 oi3 B M3 G ∧ Kd [] nw nw3 ∧ Keep (MW g ca dE cs) nw nw3 ∧ Grew nw cs cs3 oi oi3 ∧ (i = 0 → M3 = M) ∧ (i = 1 → ev g.pl g.tx a p = none ∧ M3 = run g.pl g.tx a p M) ∧ (i = 2 → ev g.pl g.tx a p = none ∧ ev g.pl g.tx b p = none ∧ M3 = run g.pl g.tx b p (run g.pl g.tx a p M))) c2 it2 ?_ ?_ ?_
  · exact ⟨cs, oi, M, none, none, rfl, s.cons, Kd.cons, Keep.cons, Grew.refl, fun _ => rfl, (by omega), (by omega)⟩
  · rintro i v3 h3 l3 nw3 t3 o3 hb hi hv3 cb itb c3 it3 ⟨cs3, oi3, M3, mv, nv, rfl, s3, kd3, k3, gr3, i0, i1, i2⟩
    have s4 := s3.iter cb (o' := o3) itb
    obtain ⟨oI, mI, nI, sI, lI2⟩ := itb.soft
    have fI : ∀ p ∈ nw, p.1 ≠ I := fun p hp e => absurd (lI _ hp) (by rw [e]; exact Nat.lt_irrefl _)
    have kd4 : Kd [] nw (put nw3 I o3) := kd3.late fI Keep.put fun b o hb hne => mem_put_ne hb hne
    have k4 : Keep (MW g ca dE cs) nw (put nw3 I o3) := fun p hp hn => by
      obtain ⟨b, ob⟩ := p
      exact mem_put_ne (k3 _ hp hn) (fI _ hp)
    clear s3 kd3 k3 cb itb mI
    refine wpAny_pure ?_
    have hj : ∃ j, j < k ∧ v3 = .ref (g.rs j) ∧ ((i = 0 ∧ j = a) ∨ (i = 1 ∧ j = b)) := by
      have hi2 : i < 2 := hi
      have : i = 0 ∨ i = 1 := by omega
      rcases this with rfl | rfl
      · exact ⟨a, l1, (Option.some.inj hv3).symm, .inl ⟨rfl, rfl⟩⟩
      · exact ⟨b, l2, (Option.some.inj hv3).symm, .inr ⟨rfl, rfl⟩⟩
    obtain ⟨j, lj, rfl, hj⟩ := hj
    walk_at "m:go"
    rename Fx _ _ _ _ _ _ _ _ _ => c5
    refine xmatchM c5 s4 (Nat.lt_trans lj hk) ?_
    dsimp only
    walk_at "m:go"
    refine ⟨kp_f c5 (kf_266 _), ?_⟩
    refine mt j lj c5 (r'.mono (by omega)) s4 (fun x hx => let ⟨o, m, n⟩ := hX x hx; ⟨o, kd4.1 _ m n (fun z => nomatch z.1), n⟩) (fun j' q hj => Nat.lt_of_lt_of_le lj (hG j' q hj)) hp hB fun h6 t6 v6 nw6 cs6 oi6 c6 s6 res6 kd6 k6 gr6 => ?_
    have it6 := it3.kd kd6
    have kd7 := kd4.trans kd6
    have gr7 := gr3.trans gr6 kd4.all
    walk_at "m:go"
    rename Fx _ _ _ _ _ _ _ _ _ => c7
    have k7 := gr3.keep k4 k6
    have hx7 := kd7.inst hx
    cases hev : ev g.pl g.tx j p with
    | none =>
      rw [hev] at res6
      obtain rfl : v6 = .none := res6
      walk_at "m:no"
      walk_at "m:go"
      refine ⟨_, _, _, _, rfl, c7, it6, cs6, oi6, _, _, _, rfl, s6, kd7, k7, gr7, (by omega), fun hi1 => ?_, fun hi2 => ?_⟩
      · rcases hj with ⟨rfl, rfl⟩ | ⟨rfl, _⟩
        · exact ⟨hev, by rw [i0 rfl]⟩
        · omega
      · rcases hj with ⟨rfl, _⟩ | ⟨rfl, rfl⟩
        · omega
        · obtain ⟨x1, x2⟩ := i1 rfl
          exact ⟨x1, hev, by rw [x2]⟩
    | some tr =>
      rw [hev] at res6
      obtain ⟨x6, rfl, hn6⟩ := res6
      walk_at "m:yes"
      walk_at "m:go"
      refine xnodeEnd c7 hn6 fun t8 u8 => ?_
      walk_at "m:go"
      rename Fx _ _ _ _ _ _ _ _ _ => c8
      rename IsQ "list" _ _ _ => m8
      refine node_ok (xs := [.ref x6]) (n := 1) c8 (r'.mono (by omega)) (.tail _ hx7) (.inr ⟨_, rfl, m8⟩) (.inr (.inr ⟨rfl, rfl⟩)) fun h9 t9 x9 dxn ch nw9 c9 k9 hx9 hd9 m9 f9 => ?_
      have nd8 := c8.nd
      rw [List.map_cons, List.nodup_cons] at nd8
      have hch : ch ∉ X := fun z => by
        obtain ⟨o, ho, hn⟩ := hX _ z
        have ho6 := kd7.1 _ ho hn (fun z => nomatch z.1)
        rcases f9 with ⟨f, _⟩ | f
        · injection f with f
          exact nd8.1 (by show _ ∈ _; rw [f]; exact List.mem_map_of_mem (f := (·.1)) ho6)
        · exact f _ (.tail _ ho6) rfl
      have kd9 : Kd [] nw nw9 := kd7.trans (Kd.cons.trans (Kd.ofKeep k9))
      have k9' : Keep (MW g ca dE cs) nw nw9 := k7.trans ((Keep.cons (W := fun _ => False)).mono (fun _ z => z.elim) |>.trans (k9.mono fun _ z => z.elim))
      have em : asked g.pl g.tx k p M = run g.pl g.tx j p M3 := by
        rcases hj with ⟨rfl, rfl⟩ | ⟨rfl, rfl⟩
        · rw [ea, hev, i0 rfl]
        · obtain ⟨x1, x2⟩ := i1 rfl
          rw [ea, x1, x2]
      have et : ev g.pl g.tx k p = some (.node k p tr.e [tr]) := by
        rcases hj with ⟨rfl, rfl⟩ | ⟨rfl, rfl⟩
        · rw [ek, hev]
        · obtain ⟨x1, x2⟩ := i1 rfl
          rw [ek, x1]
          dsimp only
          rw [hev]
      refine (back _ _ ⟨_, _, c9, fun cc => q _ _ _ _ _ _ cc (em.symm ▸ (s6.cons.ofKeep k9)) ?_ kd9 k9' gr7⟩).1
      rw [et]
      refine ⟨x9, rfl, ?_⟩
      unfold NodeAt
      refine ⟨dxn, ch, _, [x6], _, _, _, hx9, hd9, ⟨_, _, rfl⟩, m9, hch, x6, [], rfl, hn6.kd (Y := []) (Kd.cons.trans (Kd.ofKeep k9)) (fun _ _ _ _ h => nomatch h), rfl⟩
  · rintro h6 l6 nw6 nw7 t6 hb cb itb c7 k7 ⟨cs3, oi3, M3, mv, nv, rfl, s3, kd3, k3, gr3, i0, i1, i2⟩
    refine wpAny_execs_nil ?_
    obtain ⟨x1, x2, x3⟩ := i2 rfl
    have s7 := s3.iterEnd cb itb k7
    have fI : ∀ p ∈ nw, p.1 ≠ I := fun p hp e => absurd (lI _ hp) (by rw [e]; exact Nat.lt_irrefl _)
    have kd7 : Kd [] nw nw7 := kd3.late fI k7 fun b o hb hne => k7 _ hb hne
    have k8 : Keep (MW g ca dE cs) nw nw7 := fun p hp hn => k7 _ (k3 _ hp hn) (fI _ hp)
    have em : asked g.pl g.tx k p M = M3 := by rw [ea, x1, x3]
    have et : ev g.pl g.tx k p = none := by
      rw [ek, x1]
      dsimp only
      rw [x2]
    dsimp only
    walk_at "m:go"
    exact (back _ _ ⟨_, _, c7, fun cc => q _ _ _ _ _ _ cc (em.symm ▸ s7) (et.symm ▸ rfl) kd7 k8 gr3⟩).2 rfl
end


section
variable {Γ : Gm} {A : Around} {env : Env} {outer : List Env} {h₀ : Heap} {L : Addr} {h h' : Heap} {l l' : Loc} {nw : Led} {t : Nat} {E : Value → Shared → Prop} {pos : Pos} {g : Gr}
theorem IsQ.cons {T a xs} {p : Addr × Obj} (m : IsQ T nw a xs) : IsQ T (p :: nw) a xs := let ⟨z, n, m⟩ := m; ⟨z, n, .tail _ m⟩
theorem IsW.cons {T a xs} {p : Addr × Obj} (m : IsW T nw a xs) : IsW T (p :: nw) a xs := let ⟨z, o, n, m, r⟩ := m; ⟨z, o, n, .tail _ m, r⟩
theorem soft_seqL {xs : List Value} {n : Nat} : soft (seqO "list" xs n) := .inl ⟨fun e => by injection e with e; exact absurd e (by decide), fun c e => by cases e⟩
theorem ne_list (c : Fx Γ A env outer h₀ L h l nw) {b ch : Addr} {o : Obj} {xs : List Value} (m : IsQ "list" nw ch xs) (hb : (b, o) ∈ nw) (hc : o.cls ≠ .type "list") : b ≠ ch := fun e => by
  obtain ⟨_, n, m⟩ := m
  subst e
  exact hc (by rw [c.uniq hb m])
/-- a caller's own list grows: what a matching keeps stays -/
theorem MSt.listPut (c : Fx Γ A env outer h₀ L h l nw) {X : List Addr} {ca er dE : Addr} {cs : CS} {oi : Oi} {B : Nat} {M G : Memo} {ch : Addr} {xs : List Value} {o' : Obj} (s : MSt Γ X nw g ca er dE cs oi B M G) (m : IsQ "list" nw ch xs) (hX : ch ∈ X) : MSt Γ X (put nw ch o') g ca er dE cs oi B M G := by
  obtain ⟨_, n, m⟩ := m
  refine s.aside c m (fun es ep e => by cases e) (Kd.putL c.nd m (fun es ep e => by cases e) soft_seqL (.head _)) Keep.put fun _ => hX
theorem kd_list (c : Fx Γ A env outer h₀ L h l nw) {ch : Addr} {xs : List Value} {o' : Obj} (m : IsQ "list" nw ch xs) : Kd [ch] nw (put nw ch o') := by
  obtain ⟨_, n, m⟩ := m
  exact Kd.putL c.nd m (fun es ep e => by cases e) soft_seqL (.head _)
theorem MSt.more {X : List Addr} {ca er dE : Addr} {cs : CS} {oi : Oi} {B : Nat} {M G : Memo} {ch : Addr} (s : MSt Γ X nw g ca er dE cs oi B M G) (hc : ∀ p ∈ nw, p.1 ≠ ch) : MSt Γ (ch :: X) nw g ca er dE cs oi B M G :=
  { s with cache := { s.cache with row := fun i j r hi hr => let ⟨kvs, hd, hk⟩ := s.cache.row i j r hi hr; ⟨kvs, hd, fun q v hq => let ⟨p, e, hp, z⟩ := hk.1 q v hq; ⟨p, e, hp, z.imp (fun ⟨a, b⟩ => ⟨a, b.more hc⟩) id⟩, hk.2⟩ } }
theorem MSt.less {X Y : List Addr} {ca er dE : Addr} {cs : CS} {oi : Oi} {B : Nat} {M G : Memo} (s : MSt Γ X nw g ca er dE cs oi B M G) (hc : ∀ a ∈ Y, a ∈ X) : MSt Γ Y nw g ca er dE cs oi B M G :=
  { s with cache := { s.cache with row := fun i j r hi hr => let ⟨kvs, hd, hk⟩ := s.cache.row i j r hi hr; ⟨kvs, hd, fun q v hq => let ⟨p, e, hp, z⟩ := hk.1 q v hq; ⟨p, e, hp, z.imp (fun ⟨a, b⟩ => ⟨a, b.less hc⟩) id⟩, hk.2⟩ } }
/-- a piece's parts so far, as nodes in a list -/
theorem NodesAt.snoc {X : List Addr} {nw : Led} {rs : Nat → Addr} {tx : Str} : ∀ {ts : List Tree} {xs : List Addr} {t : Tree} {a : Addr}, NodesAt X nw rs tx ts xs → NodeAt X nw rs tx t a → NodesAt X nw rs tx (ts ++ [t]) (xs ++ [a])
  | [], xs, t, a, h, h2 => by
    unfold NodesAt at h
    subst h
    exact ⟨a, [], rfl, h2, rfl⟩
  | y :: ts, xs, t, a, h, h2 => by
    unfold NodesAt at h
    obtain ⟨b, r, rfl, h1, h3⟩ := h
    rw [List.cons_append, List.cons_append]
    unfold NodesAt
    exact ⟨b, r ++ [a], rfl, h1, NodesAt.snoc h3 h2⟩
theorem NodesAt.len {X : List Addr} {nw : Led} {rs : Nat → Addr} {tx : Str} : ∀ {ts : List Tree} {xs : List Addr}, NodesAt X nw rs tx ts xs → xs.length = ts.length
  | [], xs, h => by unfold NodesAt at h; subst h; rfl
  | y :: ts, xs, h => by
    unfold NodesAt at h
    obtain ⟨b, r, rfl, h1, h3⟩ := h
    rw [List.length_cons, List.length_cons, NodesAt.len h3]
abbrev chainL (k : Addr) (tx : Str) (tt : Tok) (p : Nat) (tp : Tok) (ca er : Addr) (np : Nat) (un : Tok) (ch : Addr) (mv nv lv : Option Value) : Loc :=
  [("self", some (.ref k)), ("text", some (.str tx tt)), ("pos", some (.int p tp)), ("cache", some (.ref ca)), ("error", some (.ref er)), ("new_pos", some (.int np un)), ("children", some (.ref ch)), ("m", mv), ("node", nv), ("length", lv)]
variable (hg : g.Ok)
include hg
set_option maxRecDepth 100000 in
set_option maxHeartbeats 8000000 in
theorem um_chain {k : Nat} {a b : Nat} (hk : k < g.n) (e : g.pl k = .chain a b) (mt : ∀ j, j < k → MCall Γ g 266 (2 * j + 6) j (j + 1) (run g.pl g.tx)) : MCall Γ g 384 (2 * k + 5) k k (asked g.pl g.tx) := by
  intro A env outer h₀ L h l nw t E X ca er dE cs oi B M G p tt tp R c r s hX hG hp hB q
  refine enter0 (args := ⟨[.ref (g.rs k), .str g.tx tt, .int p tp, .ref ca, .ref er], []⟩) (binds := [("self", .ref (g.rs k)), ("text", .str g.tx tt), ("pos", .int p tp), ("cache", .ref ca), ("error", .ref er)]) ["new_pos", "children", "m", "node", "length"] [("self", some (.ref (g.rs k))), ("text", some (.str g.tx tt)), ("pos", some (.int p tp)), ("cache", some (.ref ca)), ("error", some (.ref er)), ("new_pos", none), ("children", none), ("m", none), ("node", none), ("length", none)] c (2 * k + 4) r rfl (by rfl) (BindsTo.of_eq rfl) rfl rfl (by rfl) ?_ rfl rfl rfl (by decide)
  intro A' env' b0 L' h₁ t' Q he c' r' back
  have ok := hg.ok k hk
  obtain ⟨l1, l2⟩ := (Plan.ok_lt ok).1 a b e
  have ea : asked g.pl g.tx k p M = match ev g.pl g.tx a p with
      | none => run g.pl g.tx a p M
      | some x => run g.pl g.tx b x.e (run g.pl g.tx a p M) := by unfold asked; simp only [e] <;> cases ev g.pl g.tx a p <;> rfl
  have ek := ev_chain (tx := g.tx) (p := p) e ok
  have ie := s.gr k hk
  rw [e] at ie
  obtain ⟨T, id, t1, hx, hT⟩ := ie
  obtain ⟨od, v, hd, hv, ho⟩ := s.oids k hk
  walk_at "m:go"
  rename Fx _ _ _ _ _ _ _ _ _ => c2
  rename IsQ "list" _ _ _ => m2
  rename_i chL _ _ _ _ _ _
  have f2 : ∀ p ∈ nw, p.1 ≠ chL := by
    have nd := c2.nd
    rw [List.map_cons, List.nodup_cons] at nd
    exact fun p hp e => nd.1 (by show chL ∈ _; rw [← e]; exact List.mem_map_of_mem (f := (·.1)) hp)
  have s2 : MSt Γ (chL :: X) ((chL, seqO "list" [] 0) :: nw) g ca er dE cs oi B M G := (s.more f2).cons
  have hXn : ∀ {nw'} {ys : List Value}, Kd [] nw nw' → IsQ "list" nw' chL ys → ∀ x ∈ chL :: X, ∃ o, (x, o) ∈ nw' ∧ notDict o := by
    intro nw' ys kd m x hx
    rcases List.mem_cons.mp hx with rfl | hx
    · obtain ⟨_, n, m⟩ := m
      exact ⟨_, m, fun es ep e => by cases e⟩
    · obtain ⟨o, m, n⟩ := hX x hx
      exact ⟨o, kd.1 _ m n (fun z => nomatch z.1), n⟩
  refine xgetSlot c2 (.tail _ hx) (.tail _ hd) (sg_394_members _) rfl rfl fun t3 => ?_
  refine xiter_tup c2 hT.w.cons fun I h2 o2 c3 lI X3 it3 => ?_
  have fI : ∀ p ∈ nw, p.1 ≠ I := fun p hp e => absurd (lI _ (.tail _ hp)) (by rw [e]; exact Nat.lt_irrefl _)
  refine xforLoop X3 (fun i l3 nw3 => ∃ (cs3 : CS) (oi3 : Oi) (M3 : Memo) (np : Nat) (un : Tok) (mv nv lv : Option Value) (ts : List Tree) (xs : List Addr), l3 = chainL (g.rs k) g.tx tt p tp ca er np un chL mv nv lv ∧ np ≤ g.tx.length ∧
      MSt Γ (chL :: X) nw3 g ca er dE cs3 oi3 B M3 G ∧ IsQ "list" nw3 chL (xs.map Value.ref) ∧ NodesAt (chL :: X) nw3 g.rs g.tx ts xs ∧ Kd [] nw nw3 ∧ Keep (MW g ca dE cs) nw nw3 ∧ Grew nw cs cs3 oi oi3 ∧
      (i = 0 → ts = [] ∧ np = p ∧ M3 = M) ∧ (i = 1 → ∃ x, ev g.pl g.tx a p = some x ∧ ts = [x] ∧ np = x.e ∧ M3 = run g.pl g.tx a p M) ∧
      (i = 2 → ∃ x y, ev g.pl g.tx a p = some x ∧ ev g.pl g.tx b x.e = some y ∧ ts = [x, y] ∧ np = y.e ∧ M3 = run g.pl g.tx b x.e (run g.pl g.tx a p M))) c3 it3 ?_ ?_ ?_
  · exact ⟨cs, oi, M, p, tp, none, none, none, [], [], rfl, hp, s2.cons, m2.cons, rfl, Kd.cons.trans Kd.cons, Keep.cons.trans Keep.cons, Grew.refl, fun _ => ⟨rfl, rfl, rfl⟩, (by omega), (by omega)⟩
  · rintro i v3 h3 l3 nw3 t3 o3 hb hi hv3 cb itb c4 it4 ⟨cs3, oi3, M3, np, un, mv, nv, lv, ts, xs, rfl, hnp, s3, m3, n3, kd3, k3, gr3, i0, i1, i2⟩
    have s4 := s3.iter cb (o' := o3) itb
    obtain ⟨oI, mI, nI, sI, lI2⟩ := itb.soft
    have kdI : Kd [I] nw3 (put nw3 I o3) := Kd.putL cb.nd mI nI sI (.head _)
    have hlI : ∀ a xs n, (a, seqO "list" xs n) ∈ nw3 → a ∈ [I] → a ∈ chL :: X := fun a xs n ha hY => by
      rw [List.mem_singleton] at hY
      subst hY
      exact absurd (by rw [cb.uniq mI ha]) lI2
    have m4 : IsQ "list" (put nw3 I o3) chL (xs.map Value.ref) := m3.keep Keep.put (Ne.symm (ne_list cb m3 mI lI2))
    have n4 := NodesAt.kd kdI hlI n3
    have kd4 : Kd [] nw (put nw3 I o3) := kd3.late fI Keep.put fun b o hb hne => mem_put_ne hb hne
    have k4 : Keep (MW g ca dE cs) nw (put nw3 I o3) := fun p hp hn => by
      obtain ⟨b, ob⟩ := p
      exact mem_put_ne (k3 _ hp hn) (fI _ hp)
    have hj : ∃ j, j < k ∧ v3 = .ref (g.rs j) ∧ ((i = 0 ∧ j = a) ∨ (i = 1 ∧ j = b)) := by
      have hi2 : i < 2 := hi
      have : i = 0 ∨ i = 1 := by omega
      rcases this with rfl | rfl
      · exact ⟨a, l1, (Option.some.inj hv3).symm, .inl ⟨rfl, rfl⟩⟩
      · exact ⟨b, l2, (Option.some.inj hv3).symm, .inr ⟨rfl, rfl⟩⟩
    clear s3 m3 n3 kd3 k3 cb itb mI kdI hlI
    obtain ⟨j, lj, rfl, hj⟩ := hj
    refine wpAny_pure ?_
    walk_at "m:go"
    rename Fx _ _ _ _ _ _ _ _ _ => c5
    refine xmatchM c5 s4 (Nat.lt_trans lj hk) ?_
    dsimp only
    walk_at "m:go"
    refine ⟨kp_f c5 (kf_266 _), ?_⟩
    refine mt j lj c5 (r'.mono (by omega)) s4 (hXn kd4 m4) (fun j' q hj => Nat.lt_of_lt_of_le lj (hG j' q hj)) hnp hB fun h6 t6 v6 nw6 cs6 oi6 c6 s6 res6 kd6 k6 gr6 => ?_
    have it6 := it4.kd kd6
    have kd7 := kd4.trans kd6
    have gr7 := gr3.trans gr6 kd4.all
    have k7 := gr3.keep k4 k6
    have m6 := m4.kdL kd6 (fun z => nomatch z)
    have n6 := NodesAt.kd kd6 (fun _ _ _ _ h => nomatch h) n4
    walk_at "m:go"
    rename Fx _ _ _ _ _ _ _ _ _ => c7
    cases hev : ev g.pl g.tx j np with
    | none =>
      rw [hev] at res6
      obtain rfl : v6 = .none := res6
      walk_at "m:yes"
      walk_at "m:go"
      have em : asked g.pl g.tx k p M = run g.pl g.tx j np M3 := by
        rcases hj with ⟨rfl, rfl⟩ | ⟨rfl, rfl⟩
        · obtain ⟨_, x2, x3⟩ := i0 rfl
          subst x2 x3
          rw [ea, hev]
        · obtain ⟨x, x1, _, x2, x3⟩ := i1 rfl
          subst x2 x3
          rw [ea, x1]
      have et : ev g.pl g.tx k p = none := by
        rcases hj with ⟨rfl, rfl⟩ | ⟨rfl, rfl⟩
        · obtain ⟨_, x2, x3⟩ := i0 rfl
          subst x2 x3
          rw [ek, hev]
        · obtain ⟨x, x1, _, x2, x3⟩ := i1 rfl
          subst x2 x3
          rw [ek, x1]
          dsimp only
          rw [hev]
      exact (back _ _ ⟨_, _, c7, fun cc => q _ _ _ _ _ _ cc (em.symm ▸ s6.less fun a h => .tail _ h) (et.symm ▸ rfl) kd7 k7 gr7⟩).1
    | some tr =>
      rw [hev] at res6
      obtain ⟨x6, rfl, hn6⟩ := res6
      obtain ⟨_, hst, hle1, hle2⟩ := ev_ok hg.ok j (Nat.lt_trans lj hk) np tr hnp hev
      walk_at "m:no"
      walk_at "m:go"
      refine xappendM c7 m6 ?_
      dsimp only
      walk_at "m:go"
      have hlen : xs.length ≤ 1 := by
        rw [n6.len]
        rcases hj with ⟨rfl, rfl⟩ | ⟨rfl, rfl⟩
        · rw [(i0 rfl).1]; simp
        · obtain ⟨x, _, x2, _⟩ := i1 rfl
          rw [x2]; simp
      refine xappend c7 m6 (by rw [List.length_map]; omega) fun h8 o8 hs8 c8 m8 => ?_
      have s8 := s6.listPut c7 (o' := o8) m6 (.head _)
      have kl := kd_list c7 (o' := o8) m6
      have hlL : ∀ a xs n, (a, seqO "list" xs n) ∈ nw6 → a ∈ [chL] → a ∈ chL :: X := fun a xs n _ hY => by
        rw [List.mem_singleton] at hY; rw [hY]; exact .head _
      have n8 := NodesAt.kd kl hlL n6
      have hn8 := hn6.kd kl hlL
      have kd8 : Kd [] nw (put nw6 chL o8) := kd7.late f2 Keep.put fun b o hb hne => mem_put_ne hb hne
      have k8 : Keep (MW g ca dE cs) nw (put nw6 chL o8) := fun p hp hn => by
        obtain ⟨b, ob⟩ := p
        exact mem_put_ne (k7 _ hp hn) (f2 _ hp)
      have it8 : TupIt I T [.ref (g.rs a), .ref (g.rs b)] (i + 1) (put nw6 chL o8) := by
        obtain ⟨oI6, mI6, _, _, lI6⟩ := it6.soft
        obtain ⟨_, oT, _, mT, hTc, _⟩ := it6.2
        exact it6.keep Keep.put (ne_list c7 m6 mI6 lI6) (ne_list c7 m6 mT (by rw [hTc]; decide))
      walk_at "m:go"
      refine xnodeEnd c8 hn8 fun t9 u9 => ?_
      walk_at "m:go"
      refine xnodeStart c8 hn8 fun t10 u10 => ?_
      walk_at "m:go"
      rename Fx _ _ _ _ _ _ _ _ _ => c11
      have e0 : (np : Int) + ((tr.e : Int) - tr.s) = (tr.e : Int) := by rw [hst]; omega
      rw [e0] at c11
      refine ⟨_, _, _, _, rfl, c11, it8, cs6, oi6, _, tr.e, _, _, _, _, ts ++ [tr], xs ++ [x6], rfl, hle2, s8, by rw [List.map_append]; exact m8, NodesAt.snoc n8 hn8, kd8, k8, gr7, (by omega), fun hi1 => ?_, fun hi2 => ?_⟩
      · rcases hj with ⟨rfl, rfl⟩ | ⟨rfl, _⟩
        · obtain ⟨x1, x2, x3⟩ := i0 rfl
          subst x1 x2 x3
          exact ⟨tr, hev, rfl, rfl, rfl⟩
        · omega
      · rcases hj with ⟨rfl, _⟩ | ⟨rfl, rfl⟩
        · omega
        · obtain ⟨x, x0, x1, x2, x3⟩ := i1 rfl
          subst x1 x2 x3
          exact ⟨x, tr, x0, hev, rfl, rfl, rfl⟩
  · rintro h6 l6 nw6 nw7 t6 hb cb itb c7 k7 ⟨cs3, oi3, M3, np, un, mv, nv, lv, ts, xs, rfl, hnp, s3, m3, n3, kd3, k3, gr3, i0, i1, i2⟩
    refine wpAny_execs_nil ?_
    obtain ⟨x, y, x1, x2, x3, x4, x5⟩ := i2 rfl
    subst x3 x4 x5
    obtain ⟨oI, mI, nI, sI, lI2⟩ := itb.soft
    have s7 := s3.iterEnd cb itb k7
    have m7 : IsQ "list" nw7 chL (xs.map Value.ref) := m3.keep k7 (Ne.symm (ne_list cb m3 mI lI2))
    have n7 := NodesAt.kd (Y := [I]) (Kd.drop cb.nd mI nI sI (.head _) k7) (fun a xs n ha hY => by
      rw [List.mem_singleton] at hY
      subst hY
      exact absurd (by rw [cb.uniq mI ha]) lI2) n3
    have kd7 : Kd [] nw nw7 := kd3.late fI k7 fun b o hb hne => k7 _ hb hne
    have k8 : Keep (MW g ca dE cs) nw nw7 := fun p hp hn => k7 _ (k3 _ hp hn) (fI _ hp)
    have em : asked g.pl g.tx k p M = run g.pl g.tx b x.e (run g.pl g.tx a p M) := by rw [ea, x1]
    have et : ev g.pl g.tx k p = some (.node k p y.e [x, y]) := by
      rw [ek, x1]
      dsimp only
      rw [x2]
    dsimp only
    walk_at "m:go"
    have hx7 := kd7.inst hx
    have hl := n7.len
    refine node_ok (xs := xs.map Value.ref) (n := 1) c7 (r'.mono (by omega)) hx7 (.inr ⟨_, rfl, m7⟩) (.inr (.inl ⟨rfl, rfl⟩)) fun h9 t9 x9 dxn ch nw9 c9 k9 hx9 hd9 m9 f9 => ?_
    have hch : ch ∉ X := fun z => by
      obtain ⟨o, ho, hn⟩ := hX _ z
      rcases f9 with ⟨f, _⟩ | f
      · injection f with f
        exact f2 _ ho f.symm
      · exact f _ (kd7.1 _ ho hn (fun z => nomatch z.1)) rfl
    refine (back _ _ ⟨_, _, c9, fun cc => q _ _ _ _ _ _ cc (em.symm ▸ ((s7.less fun a h => .tail _ h).ofKeep k9)) ?_ (kd7.trans (Kd.ofKeep k9)) (k8.trans (k9.mono fun _ z => z.elim)) gr3⟩).1
    rw [et]
    refine ⟨x9, rfl, ?_⟩
    unfold NodeAt
    exact ⟨dxn, ch, _, xs, _, _, _, hx9, hd9, ⟨_, _, rfl⟩, m9, hch, NodesAt.kd (Y := []) (Kd.ofKeep k9) (fun _ _ _ _ h => nomatch h) (NodesAt.less (fun a h => .tail _ h) n7)⟩
end


/-! `while`, and a quantifier's matching -/
section
variable {Γ : Gm} {A : Around} {env : Env} {outer : List Env} {h₀ : Heap} {L : Addr} {h h' : Heap} {l l' : Loc} {nw : Led} {t : Nat} {E : Value → Shared → Prop} {pos : Pos} {g : Gr}
theorem xwhileLoop {R : Result → Shared → Prop} {test : Expr} {body orelse : List Stmt} (INV : Nat → Loc → Led → Prop) (m : Nat)
    (c : Fx Γ A env outer h₀ L h l nw) (i0 : INV m l nw)
    (step : ∀ m h l nw t, Fx Γ A env outer h₀ L h l nw → INV m l nw →
      wpAny (model PG Γ.w) A (isTrue test env (eval test env)) (fun b s₂ =>
        if b = true then wpAny (model PG Γ.w) A (execs body env) (fun f s₃ => match f with
        | .next | .cont => ∃ h' t' l' nw' m', s₃ = S Γ h' t' ∧ Fx Γ A env outer h₀ L h' l' nw' ∧ m' < m ∧ INV m' l' nw'
        | .brk => R (.ok .next) s₃
        | .ret v => R (.ok (.ret v)) s₃) (fun _ _ => False) s₂
        else wpAny (model PG Γ.w) A (execs orelse env) (fun f s₃ => R (.ok f) s₃) (fun _ _ => False) s₂) (fun _ _ => False) (S Γ h t)) :
    codeAny (model PG Γ.w) A (.whileLoop test body orelse env) R (S Γ h t) := by
  refine codeAny_whileLoop (fun k s' => ∃ h l nw t, s' = S Γ h t ∧ Fx Γ A env outer h₀ L h l nw ∧ INV k l nw) ?_ m ⟨h, l, nw, t, rfl, c, i0⟩
  rintro k s' ⟨h, l, nw, t, rfl, c, hV⟩
  refine wpAny_mono (step k h l nw t c hV) (fun b s₁ h₁ => ?_) fun _ _ x => x.elim
  split at h₁
  · rename_i hb
    rw [if_pos hb]
    refine wpAny_mono h₁ (fun f s₃ h₃ => ?_) fun _ _ x => x.elim
    cases f with
    | ret v => exact h₃
    | brk => exact h₃
    | next =>
      obtain ⟨h2, t2, l2, nw2, m2, e, c2, lt, v2⟩ := h₃
      exact ⟨m2, lt, h2, l2, nw2, t2, e, c2, v2⟩
    | cont =>
      obtain ⟨h2, t2, l2, nw2, m2, e, c2, lt, v2⟩ := h₃
      exact ⟨m2, lt, h2, l2, nw2, t2, e, c2, v2⟩
  · rename_i hb
    rw [if_neg hb]
    exact wpAny_mono h₁ (fun _ _ x => x) fun _ _ x => x.elim
theorem xWhile {test : Expr} {body orelse : List Stmt} {Q : Flow → Shared → Prop} {s : Shared}
    (hq : codeAny (model PG Γ.w) A (.whileLoop test body orelse env) (fun r s' => match r with | .ok f => Q f s' | .error _ => False) s) : wpAny (model PG Γ.w) A (exec (.While test body orelse pos) env) Q (fun _ _ => False) s :=
  wpAny_While (codeAny_mono hq fun r s' h₃ => by
    cases r with
    | ok f => exact h₃
    | error e => exact h₃.elim)
/-- how many a quantifier may yet take -/
theorem lt_max {v : Value} {most : Option Nat} {n : Nat} {tn : Tok} {Q : Value → Shared → Prop} {s : Shared} (hv : MaxV v most) (hn : n ≤ 100) (hm : ∀ m, most = some m → n ≤ m) (q : Q (.bool (decide (most ≠ some n))) s) : wpAny (model PG Γ.w) A (compareOp .Lt (.int n tn) v) Q E s := by
  rcases hv with ⟨rfl, rfl⟩ | ⟨m, t, rfl, rfl⟩
  · refine PyProof.Rows.lt_if ?_
    have e : (Float64.cmpInt 9218868437227405312 (n : Int) == some Ordering.gt) = true := by
      have : ∀ k : Fin 101, (Float64.cmpInt 9218868437227405312 ((k.1 : Nat) : Int) == some Ordering.gt) = true := by decide +kernel
      exact this ⟨n, by omega⟩
    rw [e]
    exact q
  · refine lt_int ?_
    have h := hm m rfl
    have e : decide ((n : Int) < m) = decide (some m ≠ some n) := by
      by_cases h2 : m = n
      · subst h2; rw [decide_eq_false (by omega), decide_eq_false (p := some m ≠ some m) (fun e => e rfl)]
      · rw [decide_eq_true (by omega), decide_eq_true (p := some m ≠ some n) (fun e => h2 (Option.some.inj e))]
    rw [e]
    exact q
end


section
variable {Γ : Gm} {A : Around} {env : Env} {outer : List Env} {h₀ : Heap} {L : Addr} {h h' : Heap} {l l' : Loc} {nw : Led} {t : Nat} {E : Value → Shared → Prop} {pos : Pos} {g : Gr}
abbrev quantL (k : Addr) (tx : Str) (tt : Tok) (p : Nat) (tp : Tok) (ca er : Addr) (np : Nat) (un : Tok) (ch : Addr) (sz : Tok) (nv lv : Option Value) : Loc :=
  [("self", some (.ref k)), ("text", some (.str tx tt)), ("pos", some (.int p tp)), ("cache", some (.ref ca)), ("error", some (.ref er)), ("new_pos", some (.int np un)), ("children", some (.ref ch)), ("size", some (.int tx.length sz)), ("node", nv), ("length", lv)]
variable (hg : g.Ok)
include hg
set_option maxRecDepth 100000 in
set_option maxHeartbeats 8000000 in
theorem um_many {k : Nat} {a least : Nat} {most : Option Nat} (hk : k < g.n) (e : g.pl k = .many a least most) (mt : ∀ j, j < k → MCall Γ g 266 (2 * j + 6) j (j + 1) (run g.pl g.tx)) : MCall Γ g 486 (2 * k + 5) k k (asked g.pl g.tx) := by
  intro A env outer h₀ L h l nw t E X ca er dE cs oi B M G p tt tp R c r s hX hG hp hB q
  refine enter0 (args := ⟨[.ref (g.rs k), .str g.tx tt, .int p tp, .ref ca, .ref er], []⟩) (binds := [("self", .ref (g.rs k)), ("text", .str g.tx tt), ("pos", .int p tp), ("cache", .ref ca), ("error", .ref er)]) ["new_pos", "children", "size", "node", "length"] [("self", some (.ref (g.rs k))), ("text", some (.str g.tx tt)), ("pos", some (.int p tp)), ("cache", some (.ref ca)), ("error", some (.ref er)), ("new_pos", none), ("children", none), ("size", none), ("node", none), ("length", none)] c (2 * k + 4) r rfl (by rfl) (BindsTo.of_eq rfl) rfl rfl (by rfl) ?_ rfl rfl rfl (by decide)
  intro A' env' b0 L' h₁ t' Q he c' r' back
  have ok := hg.ok k hk
  have l1 := (Plan.ok_lt ok).2.2.2 a least most e
  have ok2 : least < 3 ∧ ∀ m, most = some m → 0 < m ∧ m < 4 := by
    have := ok
    rw [e] at this
    exact this.2
  have ea : asked g.pl g.tx k p M = (turns (fun q => ev g.pl g.tx a q) least most g.tx.length (g.tx.length + 4) p []).1.foldl (fun M q => run g.pl g.tx a q M) M := by unfold asked; simp only [e]
  have ek := ev_many (tx := g.tx) (p := p) e ok
  have ie := s.gr k hk
  rw [e] at ie
  obtain ⟨mv, T, id, t1, t2, hx, hmv, hT⟩ := ie
  obtain ⟨od, v, hd, hv, ho⟩ := s.oids k hk
  walk_at "m:go"
  rename Fx _ _ _ _ _ _ _ _ _ => c2
  rename IsQ "list" _ _ _ => m2
  rename_i chL _ _ _ _ _ _
  have f2 : ∀ p ∈ nw, p.1 ≠ chL := by
    have nd := c2.nd
    rw [List.map_cons, List.nodup_cons] at nd
    exact fun p hp e => nd.1 (by show chL ∈ _; rw [← e]; exact List.mem_map_of_mem (f := (·.1)) hp)
  have s2 : MSt Γ (chL :: X) ((chL, seqO "list" [] 0) :: nw) g ca er dE cs oi B M G := (s.more f2).cons
  have hXn : ∀ {nw'} {ys : List Value}, Kd [] nw nw' → IsQ "list" nw' chL ys → ∀ x ∈ chL :: X, ∃ o, (x, o) ∈ nw' ∧ notDict o := by
    intro nw' ys kd m x hx
    rcases List.mem_cons.mp hx with rfl | hx
    · obtain ⟨_, n, m⟩ := m
      exact ⟨_, m, fun es ep e => by cases e⟩
    · obtain ⟨o, m, n⟩ := hX x hx
      exact ⟨o, kd.1 _ m n (fun z => nomatch z.1), n⟩
  refine xlenS (by have := hg.tx7; omega) fun t6 u6 => ?_
  walk_at "m:go"
  rename Fx _ _ _ _ _ _ _ _ _ => c3
  generalize hT' : turns (fun q => ev g.pl g.tx a q) least most g.tx.length (g.tx.length + 4) p [] = TT at ek ea
  refine xWhile ?_
  refine codeAny_mono (R := fun r s' => match r with
    | .ok .next => ∃ (h3 : Heap) (t3 : Nat) (nw3 : Led) (cs3 : CS) (oi3 : Oi) (np : Nat) (un : Tok) (nv lv : Option Value) (ts : List Tree) (xs : List Addr), s' = S Γ h3 t3 ∧ Fx Γ A' env' (env :: outer) b0 L' h3 (quantL (g.rs k) g.tx tt p tp ca er np un chL u6 nv lv) nw3 ∧ np ≤ g.tx.length ∧ ts.length ≤ 20 ∧
        MSt Γ (chL :: X) nw3 g ca er dE cs3 oi3 B (asked g.pl g.tx k p M) G ∧ IsQ "list" nw3 chL (xs.map Value.ref) ∧ NodesAt (chL :: X) nw3 g.rs g.tx ts xs ∧ Kd [] nw nw3 ∧ Keep (MW g ca dE cs) nw nw3 ∧ Grew nw cs cs3 oi oi3 ∧ TT.2 = (np, ts)
    | _ => False) ?_ fun r s' z => ?_
  rotate_left
  · match r, z with
    | .ok .next, z =>
      obtain ⟨h3, t3, nw3, cs3, oi3, np, un, nv, lv, ts, xs, rfl, cz, hnp, hts, sz, mz, nz, kdz, kz, grz, ez⟩ := z
      dsimp only at ek
      rw [ez] at ek
      dsimp only
      dsimp only at ek
      have hxz := kdz.inst hx
      obtain ⟨odz, vz, hdz, hvz, hoz⟩ := sz.oids k hk
      have hl := nz.len
      walk_at "m:go"
      refine xlen cz mz.w fun t8 => ?_
      walk_at "m:go"
      refine xgetSlot cz hxz hdz (sg_497_min _) rfl rfl fun t9 => ?_
      walk_at "m:go"
      rw [List.length_map, hl]
      split
      · rename_i hc
        have hc : least ≤ ts.length := by have := of_decide_eq_true hc; omega
        rw [if_pos hc] at ek
        walk_at "m:go"
        refine node_ok (xs := xs.map Value.ref) (n := 1) cz (r'.mono (by omega)) hxz (.inr ⟨_, rfl, mz⟩) (.inr (.inl ⟨rfl, rfl⟩)) fun h9 t9 x9 dxn ch nw9 c9 k9 hx9 hd9 m9 f9 => ?_
        have hch : ch ∉ X := fun z => by
          obtain ⟨o, ho, hn⟩ := hX _ z
          rcases f9 with ⟨f, _⟩ | f
          · injection f with f
            exact f2 _ ho f.symm
          · exact f _ (kdz.1 _ ho hn (fun z => nomatch z.1)) rfl
        refine (back _ _ ⟨_, _, c9, fun cc => q _ _ _ _ _ _ cc ((sz.less fun a h => .tail _ h).ofKeep k9) ?_ (kdz.trans (Kd.ofKeep k9)) (kz.trans (k9.mono fun _ z => z.elim)) grz⟩).1
        rw [ek]
        refine ⟨x9, rfl, ?_⟩
        unfold NodeAt
        exact ⟨dxn, ch, _, xs, _, _, _, hx9, hd9, ⟨_, _, rfl⟩, m9, hch, NodesAt.kd (Y := []) (Kd.ofKeep k9) (fun _ _ _ _ h => nomatch h) (NodesAt.less (fun a h => .tail _ h) nz)⟩
      · rename_i hc
        have hc : ¬ least ≤ ts.length := fun h => hc (decide_eq_true (by omega))
        rw [if_neg hc] at ek
        walk_at "m:go"
        exact (back _ _ ⟨_, _, cz, fun cc => q _ _ _ _ _ _ cc (sz.less fun a h => .tail _ h) (ek.symm ▸ rfl) kdz kz grz⟩).2 rfl
  refine xwhileLoop (fun f l3 nw3 => ∃ (cs3 : CS) (oi3 : Oi) (M3 : Memo) (np : Nat) (un : Tok) (nv lv : Option Value) (ts : List Tree) (xs : List Addr), l3 = quantL (g.rs k) g.tx tt p tp ca er np un chL u6 nv lv ∧ np ≤ g.tx.length ∧ g.tx.length + 4 ≤ f + np + min 1 ts.length ∧ ts.length + f ≤ g.tx.length + 4 ∧ (∀ m, most = some m → ts.length ≤ m) ∧
      MSt Γ (chL :: X) nw3 g ca er dE cs3 oi3 B M3 G ∧ IsQ "list" nw3 chL (xs.map Value.ref) ∧ NodesAt (chL :: X) nw3 g.rs g.tx ts xs ∧ Kd [] nw nw3 ∧ Keep (MW g ca dE cs) nw nw3 ∧ Grew nw cs cs3 oi oi3 ∧
      TT.2 = (turns (fun q => ev g.pl g.tx a q) least most g.tx.length f np ts).2 ∧
      TT.1.foldl (fun M q => run g.pl g.tx a q M) M = (turns (fun q => ev g.pl g.tx a q) least most g.tx.length f np ts).1.foldl (fun M q => run g.pl g.tx a q M) M3) (g.tx.length + 4) c3 ?_ ?_
  · exact ⟨cs, oi, M, p, _, none, none, [], [], rfl, hp, by omega, by simp, fun m _ => Nat.zero_le _, s2, m2, rfl, Kd.cons, Keep.cons, Grew.refl, by rw [hT'], by rw [hT']⟩
  rintro f h3 l3 nw3 t3 c3 ⟨cs3, oi3, M3, np, un, nv, lv, ts, xs, rfl, hnp, hf1, hf2, hmo, s3, m3, n3, kd3, k3, gr3, e1, e2⟩
  have h7 := hg.tx7
  obtain ⟨f, rfl⟩ : ∃ f', f = f' + 1 := ⟨f - 1, by omega⟩
  unfold turns at e1 e2
  dsimp only at e1 e2
  have hx3 := kd3.inst hx
  have hT3 := hT.kdT kd3
  obtain ⟨od3, v3, hd3, hv3, ho3⟩ := s3.oids k hk
  walk_at "m:go"
  by_cases g1 : g.tx.length ≤ np
  · rw [if_neg (by simpa using g1)]
    rw [if_pos (.inl g1)] at e1 e2
    refine wpAny_execs_nil ?_
    exact ⟨_, _, _, cs3, oi3, np, un, nv, lv, ts, xs, rfl, c3, hnp, by omega, by rw [ea, e2]; exact s3, m3, n3, kd3, k3, gr3, e1⟩
  rw [if_pos (by simpa using g1)]
  walk_at "m:go"
  refine xlen c3 m3.w fun t8 => ?_
  walk_at "m:go"
  refine xgetSlot c3 hx3 hd3 (sg_497_max _) rfl (by rcases hmv with ⟨_, rfl⟩ | ⟨_, _, _, rfl⟩ <;> rfl) fun t9 => ?_
  walk_at "m:go"
  rw [List.length_map, n3.len]
  refine lt_max hmv (by omega) hmo ?_
  walk_at "m:go"
  by_cases g2 : most = some ts.length
  · rw [if_neg (by rw [decide_eq_true_iff]; exact fun z => z g2)]
    rw [if_pos (.inr g2)] at e1 e2
    walk_at "m:go"
    rw [if_neg (by decide)]
    refine wpAny_execs_nil ?_
    exact ⟨_, _, _, cs3, oi3, np, un, nv, lv, ts, xs, rfl, c3, hnp, by omega, by rw [ea, e2]; exact s3, m3, n3, kd3, k3, gr3, e1⟩
  rw [if_pos (decide_eq_true g2)]
  rw [if_neg (fun q => q.elim g1 g2)] at e1 e2
  walk_at "m:go"
  rw [if_pos rfl]
  walk_at "m:go"
  refine xgetSlot c3 hx3 hd3 (sg_497_members _) rfl rfl fun t10 => ?_
  walk_at "m:go"
  refine xtitem c3 hT3.w (by decide) rfl ?_
  refine xmatchM c3 s3 (Nat.lt_trans l1 hk) ?_
  dsimp only
  walk_at "m:go"
  refine ⟨kp_f c3 (kf_266 _), ?_⟩
  refine mt a l1 c3 (r'.mono (by omega)) s3 (hXn kd3 m3) (fun j' q hj => Nat.lt_of_lt_of_le l1 (hG j' q hj)) hnp hB fun h6 t6 v6 nw6 cs6 oi6 c6 s6 res6 kd6 k6 gr6 => ?_
  have kd7 := kd3.trans kd6
  have gr7 := gr3.trans gr6 kd3.all
  have k7 := gr3.keep k3 k6
  have m6 := m3.kdL kd6 (fun z => nomatch z)
  have n6 := NodesAt.kd kd6 (fun _ _ _ _ h => nomatch h) n3
  walk_at "m:go"
  rename Fx _ _ _ _ _ _ _ _ _ => c7
  cases hev : ev g.pl g.tx a np with
  | none =>
    rw [hev] at res6 e1 e2
    obtain rfl : v6 = .none := res6
    walk_at "m:yes"
    walk_at "m:go"
    exact ⟨_, _, _, cs6, oi6, np, un, _, lv, ts, xs, rfl, c7, hnp, by omega, by rw [ea, e2]; exact s6, m6, n6, kd7, k7, gr7, e1⟩
  | some tr =>
    rw [hev] at res6 e1 e2
    dsimp only at e1 e2
    obtain ⟨x6, rfl, hn6⟩ := res6
    obtain ⟨_, hst, hle1, hle2⟩ := ev_ok hg.ok a (Nat.lt_trans l1 hk) np tr hnp hev
    walk_at "m:no"
    walk_at "m:go"
    refine xappendM c7 m6 ?_
    dsimp only
    walk_at "m:go"
    refine xappend c7 m6 (by rw [List.length_map, n6.len]; omega) fun h8 o8 hs8 c8 m8 => ?_
    have s8 := s6.listPut c7 (o' := o8) m6 (.head _)
    have kl := kd_list c7 (o' := o8) m6
    have hlL : ∀ a xs n, (a, seqO "list" xs n) ∈ nw6 → a ∈ [chL] → a ∈ chL :: X := fun a xs n _ hY => by
      rw [List.mem_singleton] at hY; rw [hY]; exact .head _
    have n8 := NodesAt.snoc (NodesAt.kd kl hlL n6) (hn6.kd kl hlL)
    have hn8 := hn6.kd kl hlL
    have kd8 : Kd [] nw (put nw6 chL o8) := kd7.late f2 Keep.put fun b o hb hne => mem_put_ne hb hne
    have k8 : Keep (MW g ca dE cs) nw (put nw6 chL o8) := fun p hp hn => by
      obtain ⟨b, ob⟩ := p
      exact mem_put_ne (k7 _ hp hn) (f2 _ hp)
    have m8' : IsQ "list" (put nw6 chL o8) chL ((xs ++ [x6]).map Value.ref) := by rw [List.map_append]; exact m8
    have hx8 := kd8.inst hx
    obtain ⟨od8, v8, hd8, hv8, ho8⟩ := s8.oids k hk
    have hlen := n8.len
    have htl : (ts ++ [tr]).length = ts.length + 1 := by simp
    clear m8
    walk_at "m:go"
    refine xnodeEnd c8 hn8 fun t9 u9 => ?_
    walk_at "m:go"
    refine xnodeStart c8 hn8 fun t10 u10 => ?_
    walk_at "m:go"
    rename Fx _ _ _ _ _ _ _ _ _ => c11
    have e0 : (np : Int) + ((tr.e : Int) - tr.s) = (tr.e : Int) := by rw [hst]; omega
    have more : ¬ (least ≤ ts.length + 1 ∧ tr.e = np) → ∀ {h12 l12 t12 u12 v12 w12}, Fx Γ A' env' (env :: outer) b0 L' h12 l12 (put nw6 chL o8) → l12 = quantL (g.rs k) g.tx tt p tp ca er tr.e u12 chL u6 v12 w12 →
        ∃ h' t' l' nw' m', S Γ h12 t12 = S Γ h' t' ∧ Fx Γ A' env' (env :: outer) b0 L' h' l' nw' ∧ m' < f + 1 ∧ ∃ (cs3 : CS) (oi3 : Oi) (M3 : Memo) (np : Nat) (un : Tok) (nv lv : Option Value) (ts : List Tree) (xs : List Addr), l' = quantL (g.rs k) g.tx tt p tp ca er np un chL u6 nv lv ∧ np ≤ g.tx.length ∧ g.tx.length + 4 ≤ m' + np + min 1 ts.length ∧ ts.length + m' ≤ g.tx.length + 4 ∧ (∀ m, most = some m → ts.length ≤ m) ∧
          MSt Γ (chL :: X) nw' g ca er dE cs3 oi3 B M3 G ∧ IsQ "list" nw' chL (xs.map Value.ref) ∧ NodesAt (chL :: X) nw' g.rs g.tx ts xs ∧ Kd [] nw nw' ∧ Keep (MW g ca dE cs) nw nw' ∧ Grew nw cs cs3 oi oi3 ∧
          TT.2 = (turns (fun q => ev g.pl g.tx a q) least most g.tx.length m' np ts).2 ∧
          TT.1.foldl (fun M q => run g.pl g.tx a q M) M = (turns (fun q => ev g.pl g.tx a q) least most g.tx.length m' np ts).1.foldl (fun M q => run g.pl g.tx a q M) M3 := by
      intro hn h12 l12 t12 u12 v12 w12 c12 el
      rw [if_neg hn] at e1 e2
      refine ⟨h12, t12, l12, _, f, rfl, c12, Nat.lt_succ_self _, cs6, oi6, _, tr.e, u12, v12, w12, ts ++ [tr], xs ++ [x6], el, hle2, ?_, by omega, fun m hm => ?_, s8, m8', n8, kd8, k8, gr7, e1, e2⟩
      · by_cases h0 : tr.e = np
        · have : ¬ least ≤ ts.length + 1 := fun z => hn ⟨z, h0⟩
          have := ok2.1
          have h1 : min 1 ts.length = 0 := by omega
          have h2 : min 1 (ts ++ [tr]).length = 1 := by omega
          omega
        · have h2 : min 1 (ts ++ [tr]).length = 1 := by omega
          omega
      · have h1 := hmo m hm
        have h2 : ts.length ≠ m := fun z => g2 (by rw [hm, z])
        omega
    refine xlen c11 m8'.w fun t12 => ?_
    walk_at "m:go"
    refine xgetSlot c11 hx8 hd8 (sg_497_min _) rfl rfl fun t13 => ?_
    walk_at "m:go"
    rw [List.length_map, hlen, htl]
    by_cases g3 : least ≤ ts.length + 1
    · rw [if_pos (decide_eq_true (by omega))]
      walk_at "m:go"
      by_cases g4 : tr.e = np
      · rw [if_pos (by rw [hst, g4, Int.sub_self]; rfl)]
        walk_at "m:go"
        rw [if_pos rfl]
        walk_at "m:go"
        rw [if_pos ⟨g3, g4⟩] at e1 e2
        exact ⟨_, _, _, cs6, oi6, np, un, _, _, ts ++ [tr], xs ++ [x6], rfl, c11, hnp, by omega, by rw [ea, e2]; exact s8, m8', n8, kd8, k8, gr7, e1⟩
      · rw [if_neg (by rw [beq_iff_eq, hst]; omega)]
        rw [if_neg (by decide)]
        walk_at "m:go"
        rename Fx _ _ _ _ _ _ _ _ _ => c12
        rw [e0] at c12
        exact more (fun z => g4 z.2) c12 rfl
    · rw [if_neg (fun z => g3 (by have := of_decide_eq_true z; omega))]
      rw [if_neg (by decide)]
      walk_at "m:go"
      rename Fx _ _ _ _ _ _ _ _ _ => c12
      rw [e0] at c12
      exact more (fun z => g3 z.1) c12 rfl
end


section
variable {Γ : Gm} {A : Around} {env : Env} {outer : List Env} {h₀ : Heap} {L : Addr} {h h' : Heap} {l l' : Loc} {nw : Led} {t : Nat} {E : Value → Shared → Prop} {pos : Pos}
/-- `x = o[i] = value` -/
theorem xAssign2 {M : Model} {s : Shared} {x : Str} {px : Pos} {o i : Expr} {pi : Pos} {value : Expr} {Q : Flow → Shared → Prop}
    (hq : wpAny M A (eval value env) (fun v s₁ => wpAny M A (storeName env x v) (fun _ s₂ => wpAny M A (eval o env) (fun ov s₃ => wpAny M A (eval i env) (fun iv s₄ => wpAny M A (setItem ov iv v) (fun _ => Q .next) E s₄) E s₃) E s₂) E s₁) E s)
    (hw : swappedStores [.Name x px, .Subscript o i pi] value env = pure none := by rfl) :
    wpAny M A (exec (.Assign [.Name x px, .Subscript o i pi] value pos) env) Q E s := by
  rw [arm_exec_Assign]
  refine wpAny_bind (wpAny_standAt ?_)
  show wpAny M A ((pure false : Sem Bool) >>= _) Q E s
  refine wpAny_bind (wpAny_pure ?_)
  rw [if_neg (by decide)]
  refine wpAny_bind (wpAny_mono hq (fun v s₁ h₁ => ?_) fun _ _ x => x)
  rw [hw]
  refine wpAny_bind (wpAny_pure ?_)
  show wpAny M A (do assignAll v [assign (.Name x px) env, assign (.Subscript o i pi) env]; pure .next) Q E s₁
  refine wpAny_bind ?_
  show wpAny M A (do holding [v] (assign (.Name x px) env v); assign (.Subscript o i pi) env v) _ E s₁
  refine wpAny_bind (wpAny_holding (wpAny_assign_Name (wpAny_mono h₁ (fun _ s₂ h₂ => ?_) fun _ _ x => x)))
  rw [assign_Subscript]
  refine wpAny_bind (wpAny_holding (wpAny_mono h₂ (fun ov s₃ h₃ => ?_) fun _ _ x => x))
  refine wpAny_bind (wpAny_holding (wpAny_mono h₃ (fun iv s₄ h₄ => ?_) fun _ _ x => x))
  refine wpAny_bind (wpAny_standAt (wpAny_bind (wpAny_holding (wpAny_mono h₄ (fun _ s₅ h₅ => ?_) fun _ _ x => x))))
  exact wpAny_release (wpAny_pure h₅)
/-- a walk over a tuple of tuples owns none of them -/
theorem xowned (c : Fx Γ A env outer h₀ L h l nw) {I a : Addr} {xs : List Value} {i : Nat} {elts : List Expr} {k} {v : Value} {Q : Unit → Shared → Prop} (it : TupIt I a xs i nw) (q : Q () (S Γ h t)) : wpAny (model PG Γ.w) A (letOwnedTupleGo (.Tuple elts k pos) (.ref I) v) Q E (S Γ h t) := by
  obtain ⟨⟨o, m, hc, hd⟩, _⟩ := it
  unfold letOwnedTupleGo
  cases v with
  | ref b =>
    refine wpAny_bind (wpAny_load (c.get m) ?_)
    rw [hc, hd]
    show wpAny _ A (if (["enumerate", "zip", "dict_itemiterator", "dict_reverseitemiterator", "odict_iterator", "itertools.zip_longest", "itertools.pairwise"].contains "tuple_iterator" &&
        (#[.ref a, .int i 0] : Array Value)[0]? == some (rawInt b)) = true then _ else _) Q E (S Γ h t)
    rw [if_neg (by
      intro h
      rw [show (["enumerate", "zip", "dict_itemiterator", "dict_reverseitemiterator", "odict_iterator", "itertools.zip_longest", "itertools.pairwise"].contains "tuple_iterator") = false from by decide, Bool.false_and] at h
      cases h)]
    exact wpAny_pure q
  | _ => exact wpAny_pure q
theorem xaddT (c : Fx Γ A env outer h₀ L h l nw) {a b : Addr} {x : Value} {ys : List Value} {Q : Value → Shared → Prop} (m : IsQ "tuple" nw a [x]) (m2 : IsW "tuple" nw b ys) (hy : ys.length < 1000)
    (q : ∀ h' t' D nw', Fx Γ A env outer h₀ L h' l nw' → Keep (fun _ => False) nw nw' → IsQ "tuple" nw' D (x :: ys) → Q (.ref D) (S Γ h' t')) : wpAny (model PG Γ.w) A (binaryOp .Add (.ref a) (.ref b)) Q E (S Γ h t) := by
  cases ys with
  | nil => exact kde_addT1 c.F c.N (m.w.isTup c) (m2.isTup c) (by simp) (by simp) (by simp) (q _ _ _ _ c (fun p hp _ => hp) m)
  | cons y r =>
    refine kde_addT (zs := x :: y :: r) c.F c.N (m.w.isTup c) (m2.isTup c) (by simp) (by simp) (by simp at hy ⊢; omega) (by simp) fun D h' F' N' lt => ?_
    have nd : (((D, ({ cls := .type "tuple", data := .seq (x :: y :: r).toArray } : Obj)) :: nw).map (·.1)).Nodup := by
      rw [List.map_cons, List.nodup_cons]
      refine ⟨fun hm => ?_, c.nd⟩
      obtain ⟨p, hp, e⟩ := List.mem_map.mp hm
      exact absurd (lt p hp) (by rw [e]; exact Nat.lt_irrefl _)
    have hi : ∀ p ∈ ((D, ({ cls := .type "tuple", data := .seq (x :: y :: r).toArray } : Obj)) :: nw), 3 < p.1 := by
      intro p hp
      rcases List.mem_cons.mp hp with rfl | hp
      · obtain ⟨_, n, m⟩ := m
        exact Nat.lt_trans (c.hi _ m) (lt _ m)
      · exact c.hi p hp
    exact q h' _ D _ { c with F := F', N := N', nd := nd, hi := hi } Keep.cons ⟨by simp at hy ⊢; omega, 0, .head _⟩
end


/-! the rows of a cache -/
section
variable {Γ : Gm} {A : Around} {env : Env} {outer : List Env} {h₀ : Heap} {L : Addr} {h h' : Heap} {l l' : Loc} {nw nw' : Led} {t : Nat} {E : Value → Shared → Prop} {pos : Pos} {g : Gr} {X : List Addr} {ca er dE : Addr} {cs : CS} {oi : Oi} {B : Nat} {M G : Memo}
theorem cache_at {rows : List Addr} {i : Nat} : valueAt (cacheKvs rows) (i : Int) = (rows[i]?).map Value.ref := by
  unfold valueAt cacheKvs
  cases e : rows[i]? with
  | none =>
    rw [List.find?_eq_none.mpr]
    · rfl
    · intro x hx
      obtain ⟨j, hj, rfl⟩ := List.mem_mapIdx.mp hx
      rw [List.getElem?_eq_none_iff] at e
      simp only [decide_eq_true_eq]
      omega
  | some r =>
    obtain ⟨hlt, hr⟩ := List.getElem?_eq_some_iff.mp e
    have : (rows.mapIdx fun i r => ((i : Int), Value.ref r)).find? (fun x => x.1 = (i : Int)) = some ((i : Int), Value.ref r) := by
      rw [List.find?_eq_some_iff_getElem]
      refine ⟨by simp, i, by simpa using hlt, by simp [hr], fun j hj => ?_⟩
      simp only [List.getElem_mapIdx, Bool.not_eq_true', decide_eq_false_iff_not]
      omega
    rw [this]
    rfl
theorem cache_new {rows : List Addr} {r : Addr} : stored (cacheKvs rows) (rows.length : Int) (Value.ref r) = cacheKvs (rows ++ [r]) := by
  unfold stored
  rw [if_neg]
  · unfold cacheKvs
    rw [List.mapIdx_append]
    simp
  · intro h
    obtain ⟨x, hx, e⟩ := List.any_eq_true.mp h
    unfold cacheKvs at hx
    obtain ⟨j, hj, rfl⟩ := List.mem_mapIdx.mp hx
    simp only [decide_eq_true_eq] at e
    omega
theorem OidsV.tuple {v : Option Value} {L : List (Nat × Addr)} {e : Addr} (h : OidsV nw v L) (m : IsQ "tuple" nw e []) : ∃ T Ts, v.getD (.ref e) = .ref T ∧ IsQ "tuple" nw T (Ts.map Value.ref) ∧ PairsAt nw Ts L := by
  rcases h with ⟨rfl, rfl⟩ | ⟨T, Ts, rfl, h1, h2⟩
  · exact ⟨e, [], rfl, m, rfl, fun i q hq => by simp at hq⟩
  · exact ⟨T, Ts, rfl, h1, h2⟩
theorem Keep.more {W : Addr → Prop} {n1 n2 n3 : Led} (k : Keep W n1 n2) (k2 : Keep (fun _ => False) n2 n3) : Keep W n1 n3 := fun p hp hn => k2 p (k p hp hn) id
theorem IsQ.oids {v : Option Value} {L : List (Nat × Addr)} {e : Addr} (m : IsQ "tuple" nw e []) (h : OidsV nw v L) : ∃ T Ts, v.getD (.ref e) = .ref T ∧ IsQ "tuple" nw T (Ts.map Value.ref) ∧ PairsAt nw Ts L := h.tuple m
theorem PairsAt.kd {Y : List Addr} {Ts : List Addr} {L : List (Nat × Addr)} (h : PairsAt nw Ts L) (k : Kd Y nw nw') : PairsAt nw' Ts L := ⟨h.1, fun i q hq => by
  obtain ⟨a, t, o, x1, x2, x3, x4⟩ := h.2 i q hq
  obtain ⟨o', x3', x4'⟩ := k.2 _ _ x3 x4
  exact ⟨a, t, o', x1, x2.kdT k, x3', x4'⟩⟩
theorem MSt.rowIn (s : MSt Γ X nw g ca er dE cs oi B M G) {r : Addr} (h : r ∈ cs.rows) : ∃ o, (r, o) ∈ nw ∧ isDictO o := s.dicts (.inr (.inl h))
theorem MSt.rowCls (s : MSt Γ X nw g ca er dE cs oi B M G) {r : Addr} (h : r ∈ cs.rows) : ∃ o, (r, o) ∈ nw ∧ o.cls = .type "dict" := by
  obtain ⟨i, hi⟩ := List.mem_iff_getElem?.mp h
  have hlt : i < cs.ow.length := by rw [← s.cache.len]; exact (List.getElem?_eq_some_iff.mp hi).1
  obtain ⟨kvs, hd, _⟩ := s.cache.row i _ _ (List.getElem?_eq_getElem hlt) hi
  obtain ⟨o, es, ep, m, e, d⟩ := hd.data
  exact ⟨o, m, e⟩
theorem MSt.rowsLen (s : MSt Γ X nw g ca er dE cs oi B M G) : cs.rows.length ≤ g.n := by
  rw [s.cache.len]
  have := nodup_le cs.ow (List.range g.n) s.cache.ond fun j hj => List.mem_range.mpr (s.cache.olt j hj)
  rwa [List.length_range] at this
theorem OidD.isDict {od : Obj} {v : Option Value} (h : OidD od v) : isDictO od := by
  cases v with
  | none => obtain rfl : od = dictOf [] 0 := h; exact ⟨_, _, rfl⟩
  | some v => obtain ⟨_, _, rfl⟩ := h; exact ⟨_, _, rfl⟩
theorem IsD.isDict (c : Fx Γ A env outer h₀ L h l nw) {a : Addr} {o : Obj} {kvs : List (Int × Value)} (h : IsD Γ nw a kvs) (m : (a, o) ∈ nw) : isDictO o := by
  obtain ⟨o', es, ep, m', _, d⟩ := h.data
  rw [c.uniq m m']
  exact ⟨es, ep, d⟩
/-- a row is written to -/
theorem MSt.setRow (c : Fx Γ A env outer h₀ L h l nw) {M' G' : Memo} {i k : Nat} {r : Addr} {o : Obj} {kvs : List (Int × Value)} (s : MSt Γ X nw g ca er dE cs oi B M G) (hi : cs.ow[i]? = some k) (hr : cs.rows[i]? = some r)
    (hd : IsD Γ (put nw r o) r kvs) (hk : RowKv X (put nw r o) g M' G' k kvs) (ho : ∀ j q, j ≠ k → M' j q = M j q ∧ G' j q = G j q) (hu : ∃ p, M' k p = true ∨ G' k p = true) (hl : M'.le g.n g.tx.length) :
    MSt Γ X (put nw r o) g ca er dE cs oi B M' G' ∧ Kd [] nw (put nw r o) ∧ Keep (· = r) nw (put nw r o) := by
  have hrm : r ∈ cs.rows := List.mem_of_getElem? hr
  obtain ⟨o1, m1, d1⟩ := s.rowIn hrm
  have d2 : isDictO o := by
    obtain ⟨o', es, ep, m, _, d⟩ := hd.data
    have nd : ((put nw r o).map (·.1)).Nodup := by rw [put_names]; exact c.nd
    rw [uniq_nd nd (mem_put_self m1) m] at d
    exact ⟨es, ep, d⟩
  have kd : Kd [] nw (put nw r o) := Kd.put c.nd m1 d1 d2
  refine ⟨?_, kd, Keep.put⟩
  exact {
    gr := s.gr.kd kd
    oids := s.oids.keep kd Keep.put fun j hj e => s.ap.xr j hj (by rw [show g.dx j = r from e]; exact hrm)
    cache := {
      len := s.cache.len
      rnd := s.cache.rnd
      ond := s.cache.ond
      olt := s.cache.olt
      top := s.cache.top.keep (W := (· = r)) Keep.put fun e => s.ap.cr (by rw [show ca = r from e]; exact hrm)
      row := fun i' j r' h1 h2 => by
        by_cases e : i' = i
        · subst e
          rw [hi] at h1
          rw [hr] at h2
          injection h1 with h1
          injection h2 with h2
          subst h1 h2
          exact ⟨kvs, hd, hk⟩
        · have hne : r' ≠ r := fun z => e (by
            subst z
            exact (List.getElem?_inj (List.getElem?_eq_some_iff.mp h2).1 s.cache.rnd).mp (by rw [h2, hr]))
          have hjk : j ≠ k := fun z => e (by
            subst z
            exact (List.getElem?_inj (List.getElem?_eq_some_iff.mp h1).1 s.cache.ond).mp (by rw [h1, hi]))
          obtain ⟨kvs', hd', hk'⟩ := s.cache.row i' j r' h1 h2
          have hk2 := hk'.kd kd (fun _ _ _ _ h => nomatch h)
          refine ⟨kvs', hd'.keep (W := (· = r)) Keep.put hne, fun q v hq => ?_, fun p hp => ?_⟩
          · obtain ⟨p, e1, e2, z⟩ := hk2.1 q v hq
            exact ⟨p, e1, e2, by rw [(ho j p hjk).1, (ho j p hjk).2]; exact z⟩
          · rw [(ho j p hjk).1, (ho j p hjk).2] at hp
            exact hk2.2 p hp
      has := fun j q h => by
        by_cases e : j = k
        · rw [e]; exact List.mem_of_getElem? hi
        · rw [(ho j q e).1, (ho j q e).2] at h
          exact s.cache.has j q h
      used := fun j hj => by
        by_cases e : j = k
        · rw [e]; exact hu
        · obtain ⟨p, hp⟩ := s.cache.used j hj
          exact ⟨p, by rw [(ho j p e).1, (ho j p e).2]; exact hp⟩ }
    link := s.link
    err := s.err.keep kd (W := (· = r)) Keep.put fun e => s.ap.er (by rw [show dE = r from e]; exact hrm)
    ap := s.ap
    le := hl }
/-- a row is made -/
theorem MSt.newRow {k p : Nat} {r T : Addr} {od' : Obj} {n4 : Led} (s : MSt Γ X nw g ca er dE cs oi B M G) (hk : k < g.n) (hp : p ≤ g.tx.length) (hn : k ∉ cs.ow) (kd : Kd [] nw n4) (w : Keep (fun a => a = ca ∨ a = g.dx k) nw n4)
    (hr : IsD Γ n4 r [((p : Int), .ref 220)]) (hc : IsD Γ n4 ca (cacheKvs (cs.rows ++ [r]))) (hx : (g.dx k, od') ∈ n4) (hv : OidD od' (some (.ref T))) (ho : OidsV n4 (some (.ref T)) ((cs.rows.length, r) :: oi k)) (fr : ∀ p ∈ nw, p.1 ≠ r) :
    MSt Γ X n4 g ca er dE ⟨cs.rows ++ [r], cs.ow ++ [k]⟩ (fun j => if j = k then (cs.rows.length, r) :: oi k else oi j) B M (ins k p G) := by
  have frow : r ∉ cs.rows := fun z => by obtain ⟨o, m, _⟩ := s.rowIn z; exact fr _ m rfl
  have fd : ∀ a, MW g ca dE cs a → a ≠ r := fun a h e => by obtain ⟨o, m, _⟩ := s.dicts h; exact fr _ m e
  have hG : ∀ j q, j ≠ k → ins k p G j q = G j q := fun j q e => by
    unfold ins
    rw [show (j == k) = false from beq_eq_false_iff_ne.mpr e]
    simp
  exact {
    gr := s.gr.kd kd
    oids := fun j hj => by
      dsimp only
      by_cases e : j = k
      · subst e
        rw [if_pos rfl]
        exact ⟨od', _, hx, hv, ho⟩
      · rw [if_neg e]
        obtain ⟨od, v, h1, h2, h3⟩ := s.oids j hj
        exact ⟨od, v, w _ h1 (fun z => z.elim (s.ap.xc j hj) fun z => e (s.ap.xx j k hj hk z)), h2, h3.kd kd⟩
    cache := {
      len := by simp [s.cache.len]
      rnd := by
        rw [List.nodup_append]
        exact ⟨s.cache.rnd, by simp, fun a ha b hb e => by rw [List.mem_singleton] at hb; subst hb; subst e; exact frow ha⟩
      ond := by
        rw [List.nodup_append]
        exact ⟨s.cache.ond, by simp, fun a ha b hb e => by rw [List.mem_singleton] at hb; subst hb; subst e; exact hn ha⟩
      olt := fun j hj => by
        rcases List.mem_append.mp hj with h | h
        · exact s.cache.olt j h
        · rw [List.mem_singleton] at h; rw [h]; exact hk
      top := hc
      row := fun i j r' h1 h2 => by
        have hlen := s.cache.len
        by_cases e : i < cs.ow.length
        · rw [List.getElem?_append_left e] at h1
          rw [List.getElem?_append_left (by omega)] at h2
          have hjk : j ≠ k := fun z => hn (by rw [← z]; exact List.mem_of_getElem? h1)
          obtain ⟨kvs, hd, hkv⟩ := s.cache.row i j r' h1 h2
          have hk2 := hkv.kd kd (fun _ _ _ _ h => nomatch h)
          have hm : r' ∈ cs.rows := List.mem_of_getElem? h2
          refine ⟨kvs, hd.keep w fun z => z.elim (fun z => s.ap.cr (by rw [← z]; exact hm)) fun z => s.ap.xr k hk (by rw [← z]; exact hm), fun q v hq => ?_, fun q hq => ?_⟩
          · obtain ⟨p', e1, e2, z⟩ := hk2.1 q v hq
            exact ⟨p', e1, e2, by rw [hG j p' hjk]; exact z⟩
          · rw [hG j q hjk] at hq
            exact hk2.2 q hq
        · rw [List.getElem?_append_right (by omega)] at h1
          rw [List.getElem?_append_right (by omega)] at h2
          have : i = cs.ow.length := by
            have := (List.getElem?_eq_some_iff.mp h1).1
            simp at this
            omega
          subst this
          simp only [Nat.sub_self, hlen, List.getElem?_cons_zero, Option.some.injEq] at h1 h2
          subst h1 h2
          refine ⟨_, hr, fun q v hq => ?_, fun q hq => ?_⟩
          · rw [List.mem_singleton] at hq
            obtain ⟨rfl, rfl⟩ := Prod.mk.inj hq
            exact ⟨p, rfl, hp, .inr ⟨by simp [ins], rfl⟩⟩
          · rcases hq with hq | hq
            · exact absurd (s.cache.has _ q (.inl hq)) hn
            · by_cases e : q = p
              · subst e; exact ⟨_, .head _⟩
              · have : G k q = true := by
                  unfold ins at hq
                  rw [show (q == p) = false from beq_eq_false_iff_ne.mpr e] at hq
                  simpa using hq
                exact absurd (s.cache.has _ q (.inr this)) hn
      has := fun j q h => by
        by_cases e : j = k
        · rw [e]; simp
        · rw [hG j q e] at h
          exact List.mem_append_left _ (s.cache.has j q h)
      used := fun j hj => by
        rcases List.mem_append.mp hj with h | h
        · obtain ⟨p', hp'⟩ := s.cache.used j h
          have hjk : j ≠ k := fun z => hn (by rw [← z]; exact h)
          exact ⟨p', by rw [hG j p' hjk]; exact hp'⟩
        · rw [List.mem_singleton] at h
          subst h
          exact ⟨p, .inr (by simp [ins])⟩ }
    link := {
      to := fun j hj q hq h => by
        have hlen := s.cache.len
        have old : q ∈ oi j → (cs.ow ++ [k])[q.1]? = some j := fun hq => by
          by_cases e : q.1 < cs.rows.length
          · rw [List.getElem?_append_left e] at h
            rw [List.getElem?_append_left (by omega)]
            exact s.link.to j hj q hq h
          · rw [List.getElem?_append_right (by omega)] at h
            have e2 : q.1 = cs.rows.length := by
              have := (List.getElem?_eq_some_iff.mp h).1
              simp at this
              omega
            rw [e2] at h
            simp only [Nat.sub_self, List.getElem?_cons_zero, Option.some.injEq] at h
            obtain ⟨od, v, _, _, h3⟩ := s.oids j hj
            rcases h3 with ⟨_, z⟩ | ⟨T, Ts, _, _, h4⟩
            · rw [z] at hq; cases hq
            · obtain ⟨i, hi⟩ := List.mem_iff_getElem?.mp hq
              obtain ⟨_, _, o, _, _, m, _⟩ := h4.2 i q hi
              exact absurd h.symm (fr _ m)
        by_cases e : j = k
        · subst e
          rw [if_pos rfl] at hq
          rcases List.mem_cons.mp hq with rfl | hq
          · show (cs.ow ++ [j])[cs.rows.length]? = some j
            rw [hlen, List.getElem?_append_right (Nat.le_refl _)]
            simp
          · exact old hq
        · rw [if_neg e] at hq
          exact old hq
      back := fun o j h => by
        have hlen := s.cache.len
        by_cases e : o < cs.ow.length
        · rw [List.getElem?_append_left e] at h
          obtain ⟨r', h1, h2⟩ := s.link.back o j h
          refine ⟨r', by rw [List.getElem?_append_left (by omega)]; exact h1, ?_⟩
          by_cases e : j = k
          · subst e; rw [if_pos rfl]; exact .tail _ h2
          · rw [if_neg e]; exact h2
        · rw [List.getElem?_append_right (by omega)] at h
          have : o = cs.ow.length := by
            have := (List.getElem?_eq_some_iff.mp h).1
            simp at this
            omega
          subst this
          simp only [Nat.sub_self, List.getElem?_cons_zero, Option.some.injEq] at h
          subst h
          refine ⟨r, ?_, ?_⟩
          · rw [← hlen, List.getElem?_append_right (Nat.le_refl _)]
            simp
          · rw [if_pos rfl, hlen]; exact .head _
      few := fun j => by
        dsimp only
        have := s.link.few j
        by_cases e : j = k
        · subst e
          rw [if_neg hn] at this
          rw [if_pos rfl, if_pos (by simp), List.length_cons]
          omega
        · rw [if_neg e]
          split at this
          · rename_i h
            rw [if_pos (List.mem_append_left _ h)]
            exact this
          · omega }
    err := s.err.keep kd w fun z => z.elim (fun z => s.ap.ce z.symm) fun z => s.ap.xe k hk z.symm
    ap := {
      cr := fun z => (List.mem_append.mp z).elim s.ap.cr fun z => fd ca (.inl rfl) (List.mem_singleton.mp z)
      ce := s.ap.ce
      er := fun z => (List.mem_append.mp z).elim s.ap.er fun z => fd dE (.inr (.inr (.inr rfl))) (List.mem_singleton.mp z)
      xc := s.ap.xc
      xr := fun j hj z => (List.mem_append.mp z).elim (s.ap.xr j hj) fun z => fd _ (.inr (.inr (.inl ⟨j, hj, rfl⟩))) (List.mem_singleton.mp z)
      xe := s.ap.xe
      xx := s.ap.xx }
    le := s.le }
/-- the error's dict is written to -/
theorem MSt.errPut (c : Fx Γ A env outer h₀ L h l nw) {od : Obj} (s : MSt Γ X nw g ca er dE cs oi B M G) (he : ErrOk (put nw dE od) er dE) : MSt Γ X (put nw dE od) g ca er dE cs oi B M G ∧ Kd [] nw (put nw dE od) := by
  obtain ⟨o1, m1, d1⟩ := s.dicts (.inr (.inr (.inr rfl)))
  have d2 : isDictO od := by
    obtain ⟨T, od2, p, _, m, h1, t1, v1, h2, t2, u, h3, t3, v3, n, e⟩ := he
    have nd : ((put nw dE od).map (·.1)).Nodup := by rw [put_names]; exact c.nd
    rw [← uniq_nd nd (mem_put_self m1) m, e]
    exact ⟨_, _, rfl⟩
  have kd : Kd [] nw (put nw dE od) := Kd.put c.nd m1 d1 d2
  refine ⟨{ s with gr := s.gr.kd kd, oids := ?_, cache := ?_, err := he }, kd⟩
  · exact s.oids.keep kd Keep.put fun j hj e => s.ap.xe j hj e
  · exact s.cache.keep kd (fun _ _ _ _ h => nomatch h) Keep.put s.ap.ce fun r hr e => s.ap.er (by rw [← show r = dE from e]; exact hr)
end


section
variable {Γ : Gm} {A : Around} {env : Env} {outer : List Env} {h₀ : Heap} {L : Addr} {h h' : Heap} {l l' : Loc} {nw nw' : Led} {t : Nat} {E : Value → Shared → Prop} {pos : Pos} {g : Gr} {X : List Addr} {ca er dE : Addr} {cs : CS} {oi : Oi} {B : Nat} {M G : Memo}
theorem RowKv.store {M' G' : Memo} {k p : Nat} {kvs : List (Int × Value)} {v : Value} (h : RowKv X nw g M G k kvs) (nd : (kvs.map (·.1)).Nodup) (hp : p ≤ g.tx.length) (hq : ∀ q, q ≠ p → M' k q = M k q ∧ G' k q = G k q)
    (hv : (M' k p = true ∧ ResAt X nw g.rs g.tx (ev g.pl g.tx k p) v) ∨ (G' k p = true ∧ v = .ref 220)) : RowKv X nw g M' G' k (stored kvs (p : Int) v) := by
  refine ⟨fun q u hu => ?_, fun q hq' => ?_⟩
  · rcases (mem_stored nd).mp hu with ⟨rfl, rfl⟩ | ⟨hne, hm⟩
    · exact ⟨p, rfl, hp, hv⟩
    · obtain ⟨p', rfl, h1, h2⟩ := h.1 q u hm
      have : p' ≠ p := fun e => hne (by rw [e])
      exact ⟨p', rfl, h1, by rw [(hq p' this).1, (hq p' this).2]; exact h2⟩
  · by_cases e : q = p
    · subst e
      exact ⟨v, (mem_stored nd).mpr (.inl ⟨rfl, rfl⟩)⟩
    · rw [(hq q e).1, (hq q e).2] at hq'
      obtain ⟨u, hu⟩ := h.2 q hq'
      exact ⟨u, (mem_stored nd).mpr (.inr ⟨fun z => e (by omega), hu⟩)⟩
theorem RowKv.len {k : Nat} {kvs : List (Int × Value)} (h : RowKv X nw g M G k kvs) (nd : (kvs.map (·.1)).Nodup) : kvs.length ≤ g.tx.length + 1 := by
  have := nodup_le (kvs.map (·.1)) ((List.range (g.tx.length + 1)).map fun (n : Nat) => (n : Int)) nd fun q hq => by
    obtain ⟨x, hx, rfl⟩ := List.mem_map.mp hq
    obtain ⟨p, e, h1, _⟩ := h.1 x.1 x.2 hx
    exact List.mem_map.mpr ⟨p, List.mem_range.mpr (by omega), e.symm⟩
  simpa using this
/-- what a row says of a place -/
theorem RowKv.asks {k p : Nat} {kvs : List (Int × Value)} (h : RowKv X nw g M G k kvs) (nG : G k p = false) : (valueAt kvs (p : Int)).isSome = M k p := by
  cases e : M k p with
  | true =>
    obtain ⟨v, hv⟩ := h.2 p (.inl e)
    exact valueAt_isSome hv
  | false =>
    rw [valueAt_none fun v hv => ?_]
    · rfl
    · obtain ⟨p', e1, _, z⟩ := h.1 _ v hv
      obtain rfl : p = p' := by omega
      rw [e, nG] at z
      rcases z with ⟨z, _⟩ | ⟨z, _⟩ <;> cases z
theorem RowKv.tells {k p : Nat} {kvs : List (Int × Value)} (h : RowKv X nw g M G k kvs) (nG : G k p = false) (hM : M k p = true) : ∃ v, valueAt kvs (p : Int) = some v ∧ ResAt X nw g.rs g.tx (ev g.pl g.tx k p) v := by
  have h1 := h.asks nG
  rw [hM] at h1
  obtain ⟨v, hv⟩ := Option.isSome_iff_exists.mp h1
  refine ⟨v, hv, ?_⟩
  obtain ⟨p', e1, _, z⟩ := h.1 _ v (valueAt_mem hv)
  obtain rfl : p = p' := by omega
  rw [nG] at z
  rcases z with ⟨_, z⟩ | ⟨z, _⟩
  · exact z
  · cases z
end
section
variable {Γ : Gm} {A : Around} {env : Env} {outer : List Env} {h₀ : Heap} {L : Addr} {h h' : Heap} {l l' : Loc} {nw nw' : Led} {t : Nat} {E : Value → Shared → Prop} {pos : Pos} {g : Gr} {X : List Addr} {ca er dE : Addr} {cs : CS} {oi : Oi} {B : Nat} {M G : Memo}
set_option maxRecDepth 100000 in
theorem kum (w : World) : ∀ p : Plan, keepIn (KK w) (.ref (um p)) = true
  | .word _ => by show keepIn (KK w) (.ref 325) = true; kernel_rfl
  | .chain _ _ => by show keepIn (KK w) (.ref 384) = true; kernel_rfl
  | .choice _ _ => by show keepIn (KK w) (.ref 410) = true; kernel_rfl
  | .look _ _ => by show keepIn (KK w) (.ref 447) = true; kernel_rfl
  | .many _ _ _ => by show keepIn (KK w) (.ref 486) = true; kernel_rfl
set_option maxRecDepth 100000 in
/-- a reading's answer is not the mark of what is under way -/
theorem not_under_way (c : Fx Γ A env outer h₀ L h l nw) {tr : Option Tree} {v : Value} {Q : Value → Shared → Prop} (r : ResAt X nw g.rs g.tx tr v) (q : Q (.bool false) (S Γ h t)) : wpAny (model PG Γ.w) A (compareOp .Is v (.ref 220)) Q E (S Γ h t) := by
  cases tr with
  | none =>
    obtain rfl : v = .none := r
    exact wpAny_is_other (by rfl) (fun z => nomatch z) q
  | some tr =>
    obtain ⟨x, rfl, hn⟩ := r
    obtain ⟨dx, ch, od, xs, t1, t2, t3, hx, _⟩ := hn.fields
    obtain ⟨o2, e2⟩ : ∃ o, (KK Γ.w).lookup 220 = some o := ⟨_, rfl⟩
    have hne : x ≠ 220 := fun e => by
      have h1 := c.N.fresh hx
      have h2 := c.X 220 _ e2
      rw [e] at h1
      have : (none : Option Obj) = some o2 := h1.symm.trans h2
      cases this
    exact wpAny_is_ref_other hne (c.get hx) (c.XI 220 _ e2) (by intro e; cases e) q
end


section
variable {Γ : Gm} {A : Around} {env : Env} {outer : List Env} {h₀ : Heap} {L : Addr} {h h' : Heap} {l l' : Loc} {nw : Led} {t : Nat} {E : Value → Shared → Prop} {pos : Pos} {g : Gr}
abbrev coreL (k : Addr) (tx : Str) (tt : Tok) (p : Nat) (tp : Tok) (ca er : Addr) (ov xv nv : Option Value) : Loc :=
  [("self", some (.ref k)), ("text", some (.str tx tt)), ("pos", some (.int p tp)), ("cache", some (.ref ca)), ("error", some (.ref er)), ("oid", ov), ("expr_cache", xv), ("node", nv)]
variable (hg : g.Ok)
include hg
set_option maxRecDepth 100000 in
set_option maxHeartbeats 8000000 in
theorem core_of {k : Nat} (hk : k < g.n) (mt : MCall Γ g (um (g.pl k)) (2 * k + 5) k k (asked g.pl g.tx)) : MCall Γ g 266 (2 * k + 6) k (k + 1) (run g.pl g.tx) := by
  intro A env outer h₀ L h l nw t E X ca er dE cs oi B M G p tt tp R c r s hX hG hp hB q
  refine enter0 (args := ⟨[.ref (g.rs k), .str g.tx tt, .int p tp, .ref ca, .ref er], []⟩) (binds := [("self", .ref (g.rs k)), ("text", .str g.tx tt), ("pos", .int p tp), ("cache", .ref ca), ("error", .ref er)]) ["oid", "expr_cache", "node"] [("self", some (.ref (g.rs k))), ("text", some (.str g.tx tt)), ("pos", some (.int p tp)), ("cache", some (.ref ca)), ("error", some (.ref er)), ("oid", none), ("expr_cache", none), ("node", none)] c (2 * k + 5) r rfl (by rfl) (BindsTo.of_eq rfl) rfl rfl (by rfl) ?_ rfl rfl rfl (by decide)
  intro A' env' b0 L' h₁ t' Q he c' r' back
  have ok := hg.ok k hk
  obtain ⟨od, v, hd, hv, ho⟩ := s.oids k hk
  refine wpAny_execs_cons ?_
  refine xFor ?_
  walk_at "m:go"
  rename Fx _ _ _ _ _ _ _ _ _ => c5
  rename IsQ "tuple" _ _ _ => m5
  obtain ⟨C, sl, ni, tn, hx, O, _, _, hnG, hnS⟩ := (s.gr k hk).inst (w := Γ.w)
  refine xoidsGet c5 (.tail _ hx) (.tail _ hd) hv O (fun u e => by rcases ho with ⟨e2, _⟩ | ⟨T, Ts, e2, _⟩ <;> rw [e2] at e <;> cases e; rfl) fun h6 t6 c6 => ?_
  obtain ⟨T, Ts, eT, mT, hP⟩ := (ho.kd (Kd.cons (X := []))).tuple m5
  rw [eT]
  refine xiter_tup c6 mT.w fun I h7 o7 c7 lI X7 it7 => ?_
  have fI : ∀ p ∈ nw, p.1 ≠ I := fun p hp e => absurd (lI _ (.tail _ hp)) (by rw [e]; exact Nat.lt_irrefl _)
  refine codeAny_mono (R := fun r s' => match r with
    | .ok .next => ∃ (h3 : Heap) (t3 : Nat) (nw3 : Led) (cs3 : CS) (oi3 : Oi) (r i : Nat) (ov : Option Value), s' = S Γ h3 t3 ∧ Fx Γ A' env' (env :: outer) b0 L' h3 (coreL (g.rs k) g.tx tt p tp ca er ov (some (.ref r)) none) nw3 ∧
        Kd [] nw nw3 ∧ Keep (MW g ca dE cs) nw nw3 ∧ Grew nw cs cs3 oi oi3 ∧ cs3.ow[i]? = some k ∧ cs3.rows[i]? = some r ∧
        (MSt Γ X nw3 g ca er dE cs3 oi3 B M G ∨ (k ∉ cs.ow ∧ IsD Γ nw3 r [] ∧ (∀ p ∈ nw, p.1 ≠ r) ∧ ∀ nw4, IsD Γ nw4 r [((p : Int), .ref 220)] → Kd [] nw3 nw4 → Keep (· = r) nw3 nw4 → MSt Γ X nw4 g ca er dE cs3 oi3 B M (ins k p G)))
    | _ => False) ?_ fun r s' z => ?_
  rotate_left
  · match r, z with
    | .ok .next, z =>
      obtain ⟨h3, t3, nw3, cs3, oi3, r, i, ov, rfl, c3, kd3, k3, gr3, hi, hr, hs⟩ := z
      dsimp only
      have hrun := run_eq (tx := g.tx) (p := p) (M := M) ok
      have nG : G k p = false := by
        cases e : G k p with
        | false => rfl
        | true => exact absurd (hG k p e) (by omega)
      have rowD : ∃ kvs, IsD Γ nw3 r kvs ∧ ((valueAt kvs (p : Int)).isSome = M k p) ∧ (M k p = true → ∃ v, valueAt kvs (p : Int) = some v ∧ ResAt X nw3 g.rs g.tx (ev g.pl g.tx k p) v ∧ MSt Γ X nw3 g ca er dE cs3 oi3 B M G) ∧
          (M k p = false → kvs.length ≤ 900 ∧ ∀ o, IsD Γ (put nw3 r o) r (stored kvs (p : Int) (.ref 220)) → Fx Γ A' env' (env :: outer) b0 L' h3 (coreL (g.rs k) g.tx tt p tp ca er ov (some (.ref r)) none) nw3 → MSt Γ X (put nw3 r o) g ca er dE cs3 oi3 B M (ins k p G) ∧ Kd [] nw3 (put nw3 r o)) := by
        have h7 := hg.tx7
        have hGq : ∀ q, q ≠ p → ins k p G k q = G k q := fun q e => ins_ne fun z => e z.2
        rcases hs with s3 | ⟨hn, dr, fr, mk⟩
        · obtain ⟨kvs, dr, hkv⟩ := s3.cache.row i k r hi hr
          refine ⟨kvs, dr, hkv.asks nG, fun hM => ?_, fun hM => ⟨?_, fun o d4 c => ?_⟩⟩
          · obtain ⟨v, h1, h2⟩ := hkv.tells nG hM
            exact ⟨v, h1, h2, s3⟩
          · have := hkv.len dr.nodup
            omega
          · have hrm : r ∈ cs3.rows := List.mem_of_getElem? hr
            obtain ⟨o1, m1, d1⟩ := s3.rowIn hrm
            have d2 : isDictO o := by
              obtain ⟨o', es, ep, m, _, d⟩ := d4.data
              have nd : ((put nw3 r o).map (·.1)).Nodup := by rw [put_names]; exact c.nd
              rw [uniq_nd nd (mem_put_self m1) m] at d
              exact ⟨es, ep, d⟩
            have kd4 : Kd [] nw3 (put nw3 r o) := Kd.put c.nd m1 d1 d2
            obtain ⟨s4, kd, _⟩ := s3.setRow (M' := M) (G' := ins k p G) c hi hr d4 ((hkv.kd kd4 (fun _ _ _ _ h => nomatch h)).store dr.nodup hp (fun q e => ⟨rfl, hGq q e⟩) (.inr ⟨ins_self, rfl⟩)) (fun j q e => ⟨rfl, ins_ne fun z => e z.1⟩) ⟨p, .inr ins_self⟩ s3.le
            exact ⟨s4, kd⟩
        · have nM : M k p = false := by
            cases e : M k p with
            | false => rfl
            | true => exact absurd (s.cache.has k p (.inl e)) hn
          refine ⟨[], dr, by rw [nM]; rfl, fun hM => (by rw [nM] at hM; cases hM), fun hM => ⟨by simp, fun o d4 c => ?_⟩⟩
          obtain ⟨o1, m1, d1⟩ := dr
          have e1 : isDictO o1 := let ⟨es, ep, _, hd, _⟩ := d1; ⟨es, ep, hd⟩
          have d2 : isDictO o := by
            obtain ⟨o', es, ep, m, _, d⟩ := d4.data
            have nd : ((put nw3 r o).map (·.1)).Nodup := by rw [put_names]; exact c.nd
            rw [uniq_nd nd (mem_put_self m1) m] at d
            exact ⟨es, ep, d⟩
          have kd4 : Kd [] nw3 (put nw3 r o) := Kd.put c.nd m1 e1 d2
          exact ⟨mk _ d4 kd4 Keep.put, kd4⟩
      obtain ⟨kvs, dr, hin, hyes, hno⟩ := rowD
      refine wpAny_execs_cons ?_
      refine wpAny_mono (Q := fun f s' => f = .next ∧ ∃ (h4 : Heap) (t4 : Nat) (nw4 : Led) (cs4 : CS) (oi4 : Oi) (v : Value), s' = S Γ h4 t4 ∧ Fx Γ A' env' (env :: outer) b0 L' h4 (coreL (g.rs k) g.tx tt p tp ca er ov (some (.ref r)) (some v)) nw4 ∧
        Kd [] nw nw4 ∧ Keep (MW g ca dE cs) nw nw4 ∧ Grew nw cs cs4 oi oi4 ∧ MSt Γ X nw4 g ca er dE cs4 oi4 B (run g.pl g.tx k p M) G ∧ ResAt X nw4 g.rs g.tx (ev g.pl g.tx k p) v) ?_ (fun f s' z => ?_) (fun _ _ z => z)
      · walk_at "m:go"
        refine xdin c3 dr fun t4 => ?_
        rw [hin]
        walk_at "m:go"
        split
        · rename_i hM
          obtain ⟨v, h1, h2, h3⟩ := hyes hM
          rw [if_pos hM] at hrun
          walk_at "m:go"
          refine xditem c3 dr h1 fun t5 => ?_
          walk_at "m:go"
          rename Fx _ _ _ _ _ _ _ _ _ => c9
          exact ⟨rfl, _, _, _, cs3, oi3, v, rfl, c9, kd3, k3, gr3, hrun.symm ▸ h3, h2⟩
        · rename_i hM
          obtain ⟨hl, hno⟩ := hno (Bool.eq_false_iff.mpr hM)
          rw [if_neg hM] at hrun
          walk_at "m:go"
          refine xdset c3 dr (by omega) fun h5 t5 o5 c5 d5 => ?_
          obtain ⟨s5, kd5⟩ := hno o5 d5 c3
          walk_at "m:go"
          refine xAssign2 ?_
          walk_at "m:go"
          refine xunM c5 s5 hk ?_
          dsimp only
          walk_at "m:go"
          refine ⟨kp_f c5 (kum _ _), ?_⟩
          have kd35 := kd3.trans kd5
          refine mt c5 r' s5 (fun x hx => let ⟨o, m, n⟩ := hX x hx; ⟨o, kd35.1 _ m n (fun z => nomatch z.1), n⟩) (fun j q hj => by
            by_cases e : j = k
            · exact Nat.le_of_eq e.symm
            · rw [ins_ne fun z => e z.1] at hj
              exact Nat.le_of_succ_le (hG j q hj)) hp hB fun h6 t6 v6 nw6 cs6 oi6 c6 s6 res6 kd6 k6 gr6 => ?_
          have gr7 := gr3.trans gr6 kd35.all
          obtain ⟨nr, no, er1, er2, _⟩ := id gr6.ex
          have hi6 : cs6.ow[i]? = some k := by rw [er2, List.getElem?_append_left (List.getElem?_eq_some_iff.mp hi).1]; exact hi
          have hr6 : cs6.rows[i]? = some r := by rw [er1, List.getElem?_append_left (List.getElem?_eq_some_iff.mp hr).1]; exact hr
          obtain ⟨kvs6, dr6, hkv6⟩ := s6.cache.row i k r hi6 hr6
          have hl6 := hkv6.len dr6.nodup
          have h7 := hg.tx7
          walk_at "m:go"
          rename Fx _ _ _ _ _ _ _ _ _ => c7
          refine xdset c7 dr6 (by omega) fun h8 t8 o8 c8 d8 => ?_
          obtain ⟨o1, m1, d1⟩ := s6.rowIn (List.mem_of_getElem? hr6)
          have kd8 : Kd [] nw6 (put nw6 r o8) := Kd.put c7.nd m1 d1 (d8.isDict c8 (mem_put_self m1))
          have res8 := res6.kd kd8 (fun _ _ _ _ h => nomatch h)
          obtain ⟨s8, _, _⟩ := s6.setRow (M' := ins k p (asked g.pl g.tx k p M)) (G' := G) c7 hi6 hr6 d8 ((hkv6.kd kd8 (fun _ _ _ _ h => nomatch h)).store dr6.nodup hp (fun q e => ⟨ins_ne fun z => e z.2, (ins_ne fun z => e z.2).symm⟩) (.inl ⟨ins_self, res8⟩)) (fun j q e => ⟨ins_ne fun z => e z.1, (ins_ne fun z => e z.1).symm⟩) ⟨p, .inl ins_self⟩ (ins_le s6.le hk hp)
          have kr : ∀ {n1 : Led} {o : Obj}, Keep (MW g ca dE cs3) n1 (put n1 r o) := Keep.put.mono fun a z => .inr (.inl (by rw [z]; exact List.mem_of_getElem? hr))
          walk_at "m:go"
          exact ⟨rfl, _, _, _, cs6, oi6, v6, rfl, c8, (kd35.trans kd6).trans kd8, gr3.keep k3 ((kr.trans k6).trans kr), gr7, hrun.symm ▸ s8, res8⟩
      · obtain ⟨rfl, h4, t4, nw4, cs4, oi4, v4, rfl, c4, kd4, k4, gr4, s4, res4⟩ := z
        dsimp only
        walk_at "m:go"
        refine not_under_way c4 res4 ?_
        walk_at "m:go"
        rw [if_neg (by decide)]
        walk_at "m:go"
        cases hev : ev g.pl g.tx k p with
        | some tr =>
          rw [hev] at res4
          obtain ⟨x4, rfl, hn4⟩ := res4
          walk_at "m:no"
          rw [if_neg (by decide)]
          walk_at "m:go"
          exact (back _ _ ⟨_, _, c4, fun cc => q _ _ _ _ _ _ cc s4 (hev.symm ▸ ⟨_, rfl, hn4⟩) kd4 k4 gr4⟩).1
        | none =>
          rw [hev] at res4
          obtain rfl : v4 = .none := res4
          walk_at "m:yes"
          walk_at "m:go"
          refine xerrPos c4 s4.err fun t5 pe ue => ?_
          walk_at "m:go"
          obtain ⟨od4, v04, hd4, _⟩ := s4.oids k hk
          split
          · walk_at "m:go"
            refine xgetSlot c4 (kd4.inst hx) hd4 hnG hnS rfl fun t6 => ?_
            walk_at "m:go"
            have hnm := hg.nm1 k hk
            refine PySem.P.truthy_str (by rw [hnm]; decide) ?_
            rw [show (((g.nm k).length : Int) != 0) = true by rw [hnm]; rfl]
            rw [if_pos rfl, if_pos rfl]
            walk_at "m:go"
            rw [if_pos rfl]
            walk_at "m:go"
            refine xerrSetE c4 s4.err fun h7 t7 od7 c7 e7 => ?_
            obtain ⟨s7, kd7⟩ := s4.errPut c4 e7
            walk_at "m:go"
            refine xerrSetP c7 e7 fun h8 t8 od8 c8 e8 => ?_
            obtain ⟨s8, kd8⟩ := s7.errPut c7 e8
            have ke : Keep (MW g ca dE cs) nw (put (put nw4 dE od7) dE od8) := (k4.trans (Keep.put.mono fun a z => .inr (.inr (.inr z)))).trans (Keep.put.mono fun a z => .inr (.inr (.inr z)))
            walk_at "m:go"
            exact (back _ _ ⟨_, _, c8, fun cc => q _ _ _ _ _ _ cc s8 (hev.symm ▸ rfl) ((kd4.trans kd7).trans kd8) ke gr4⟩).1
          · walk_at "m:go"
            rw [if_neg (by decide)]
            walk_at "m:go"
            exact (back _ _ ⟨_, _, c4, fun cc => q _ _ _ _ _ _ cc s4 (hev.symm ▸ rfl) kd4 k4 gr4⟩).1
  have c7' : Fx Γ A' env' (env :: outer) b0 L' h7 (coreL (g.rs k) g.tx tt p tp ca er none none none) ((I, o7) :: _ :: nw) := c7
  refine xforLoop X7 (fun i l3 nw3 => ∃ (ov xv : Option Value), l3 = coreL (g.rs k) g.tx tt p tp ca er ov xv none ∧ MSt Γ X nw3 g ca er dE cs oi B M G ∧ Kd [] nw nw3 ∧ Keep (fun _ => False) nw nw3 ∧ PairsAt nw3 Ts (oi k) ∧
      ∀ i' q, i' < i → (oi k)[i']? = some q → cs.rows[q.1]? ≠ some q.2) c7' it7 ?_ ?_ ?_
  · exact ⟨none, none, rfl, s.cons.cons, Kd.cons.trans Kd.cons, Keep.cons.trans Keep.cons, hP.kd (Kd.cons (X := [])), fun _ _ h => nomatch h⟩
  · rintro i v3 h3 l3 nw3 t3 o3 hb hi hv3 cb itb c4 it4 ⟨ov, xv, rfl, s3, kd3, k3, p3, n3⟩
    obtain ⟨oI, mI, nI, sI, lI2⟩ := itb.soft
    have s4 := s3.iter cb (o' := o3) itb
    have p4 := p3.kd (Kd.putL (o' := o3) cb.nd mI nI sI (.head []))
    have kd4 : Kd [] nw (put nw3 I o3) := kd3.late fI Keep.put fun b o hb hne => mem_put_ne hb hne
    have k4 : Keep (fun _ => False) nw (put nw3 I o3) := fun p hp hn => by
      obtain ⟨b, ob⟩ := p
      exact mem_put_ne (k3 _ hp hn) (fI _ hp)
    clear s3 p3 kd3 k3 cb itb mI
    rw [List.length_map] at hi
    obtain ⟨q0, hq0⟩ : ∃ q, (oi k)[i]? = some q := ⟨_, List.getElem?_eq_getElem (by rw [← hP.1]; exact hi)⟩
    obtain ⟨a0, tq, oq, x1, x2, x3, x4⟩ := p4.2 i q0 hq0
    have hv3 : v3 = .ref a0 := by
      have := hv3
      rw [List.getElem?_map, x1] at this
      exact (Option.some.inj this).symm
    subst hv3
    refine xowned c4 it4 ?_
    refine xunpack c4 x2.w (by rfl) (by rfl) fun h5 c5 => ?_
    walk_at "m:go"
    rename Fx _ _ _ _ _ _ _ _ _ => c8
    refine xdgetM c8 s4.cache.top ?_
    dsimp only
    walk_at "m:go"
    refine xdget c8 s4.cache.top fun t9 => ?_
    rw [cache_at]
    walk_at "m:go"
    have next : cs.rows[q0.1]? ≠ some q0.2 → ∀ i' q, i' < i + 1 → (oi k)[i']? = some q → cs.rows[q.1]? ≠ some q.2 := by
      intro hne i' q hi' hq
      by_cases z : i' = i
      · subst z
        rw [hq0] at hq
        injection hq with hq
        subst hq
        exact hne
      · exact n3 i' q (by omega) hq
    cases e : cs.rows[q0.1]? with
    | none =>
      refine wpAny_is_other (by rfl) (fun z => nomatch z) ?_
      walk_at "m:go"
      rw [if_neg (by decide)]
      walk_at "m:go"
      exact ⟨_, _, _, _, rfl, c8, it4, _, _, rfl, s4, kd4, k4, p4, next (by rw [e]; exact fun z => nomatch z)⟩
    | some r0 =>
      have hrow := s4.link.to k hk q0 (List.mem_of_getElem? hq0)
      by_cases er : r0 = q0.2
      · subst er
        refine wpAny_is_ref_self ?_
        walk_at "m:go"
        rw [if_pos rfl]
        walk_at "m:go"
        exact ⟨_, _, _, cs, oi, q0.2, q0.1, _, rfl, c8, kd4, k4.mono fun _ z => z.elim, Grew.refl, hrow e, e, .inl s4⟩
      · obtain ⟨ox, mx, cx⟩ := s4.rowCls (List.mem_of_getElem? e)
        refine isRef_other c8 mx x3 er (by rw [cx]; decide) ?_
        walk_at "m:go"
        rw [if_neg (by decide)]
        walk_at "m:go"
        exact ⟨_, _, _, _, rfl, c8, it4, _, _, rfl, s4, kd4, k4, p4, next (by rw [e]; exact fun z => er (Option.some.inj z))⟩
  · rintro h6 l6 nw6 nw7 t6 hb cb itb c7 k7 ⟨ov, xv, rfl, s3, kd3, k3, p3, n3⟩
    walk_at "m:go"
    obtain ⟨oI, mI, nI, sI, lI2⟩ := itb.soft
    have s7 := s3.iterEnd cb itb k7
    have kd7 : Kd [] nw nw7 := kd3.late fI k7 fun b o hb hne => k7 _ hb hne
    have k8 : Keep (fun _ => False) nw nw7 := fun p hp hn => k7 _ (k3 _ hp hn) (fI _ hp)
    have p7 := p3.kd (Kd.drop cb.nd mI nI sI (.head []) k7)
    have hn : k ∉ cs.ow := fun z => by
      obtain ⟨o, ho⟩ := List.mem_iff_getElem?.mp z
      obtain ⟨r, h1, h2⟩ := s7.link.back o k ho
      obtain ⟨i', hi'⟩ := List.mem_iff_getElem?.mp h2
      refine n3 i' (o, r) ?_ hi' h1
      rw [List.length_map, hP.1]
      exact (List.getElem?_eq_some_iff.mp hi').1
    have hrl := s7.rowsLen
    have hn8 := hg.n8
    refine xAssign2 ?_
    refine xdnew c7 fun h8 r c8 lr dr => ?_
    walk_at "m:go"
    rename Fx _ _ _ _ _ _ _ _ _ => c9
    refine xdlen c9 s7.cons.cache.top (by unfold cacheKvs; simp; omega) fun t9 u9 => ?_
    walk_at "m:go"
    have ln : ∀ rows : List Addr, (cacheKvs rows).length = rows.length := fun rows => by unfold cacheKvs; simp
    rw [ln]
    refine xdset c9 s7.cons.cache.top (by rw [ln]; omega) fun h10 t10 oc c10 dc => ?_
    rw [cache_new] at dc
    walk_at "m:go"
    refine xdlen c10 dc (by rw [ln]; simp; omega) fun t11 u11 => ?_
    rw [ln]
    walk_at "m:go"
    rename Fx _ _ _ _ _ _ _ _ _ => c13
    rename IsQ "tuple" _ _ [] => mE
    rename IsQ "tuple" _ _ [Value.ref _] => mW
    rename IsQ "tuple" _ _ [Value.int _ _, Value.ref _] => mPr
    have fr : ∀ p ∈ nw, p.1 ≠ r := fun p hp e => absurd (lr p (k8 p hp id)) (by rw [e]; exact Nat.lt_irrefl _)
    obtain ⟨oc0, moc0, dc0⟩ := (s7.cons (p := (r, dictOf [] 0))).dicts (.inl rfl)
    have kd10 : Kd [] nw (put ((r, dictOf [] 0) :: nw7) ca oc) := (kd7.trans Kd.cons).trans (Kd.put c9.nd moc0 dc0 (dc.isDict c10 (mem_put_self moc0)))
    have k10 : Keep (· = ca) nw (put ((r, dictOf [] 0) :: nw7) ca oc) := ((k8.trans Keep.cons).mono fun _ z => z.elim).trans Keep.put
    have kd13 : ∀ {x1 x2 x3 : Addr × Obj}, Kd [] nw (x1 :: x2 :: x3 :: put ((r, dictOf [] 0) :: nw7) ca oc) := ((kd10.trans Kd.cons).trans Kd.cons).trans Kd.cons
    refine xoidsGet c13 (kd13.inst hx) (.tail _ (.tail _ (.tail _ (k10 _ hd (s.ap.xc k hk))))) hv O (fun u e => by rcases ho with ⟨e2, _⟩ | ⟨T, Ts, e2, _⟩ <;> rw [e2] at e <;> cases e; rfl) fun h14 t14 c14 => ?_
    obtain ⟨T2, Ts2, eT2, mT2, hP2⟩ := mE.oids (ho.kd kd13)
    rw [eT2]
    have few := s.link.few k
    rw [if_neg hn] at few
    refine xaddT c14 (mW.cons) mT2.w (by rw [List.length_map, hP2.1]; omega) fun h15 t15 D nw15 c15 k15 mD => ?_
    walk_at "m:go"
    have kd15 := kd13.trans (Kd.ofKeep k15)
    have k16 : Keep (· = ca) nw nw15 := (((k10.more Keep.cons).more Keep.cons).more Keep.cons).more k15
    have hd15 := k16 _ hd (s.ap.xc k hk)
    refine xoidsSet c15 (kd15.inst hx) hd15 hv O fun h16 t16 od' c16 hv' => ?_
    refine wpAny_execs_nil ?_
    have mcx : ca ≠ g.dx k := fun z => s.ap.xc k hk z.symm
    have kdp : Kd [] nw15 (put nw15 (g.dx k) od') := Kd.put c15.nd hd15 hv.isDict hv'.isDict
    have kd16 := kd15.trans kdp
    have k17 : Keep (fun a => a = ca ∨ a = g.dx k) nw (put nw15 (g.dx k) od') := fun p hp hn => by
      obtain ⟨b, ob⟩ := p
      exact mem_put_ne (k16 _ hp fun z => hn (.inl z)) fun z => hn (.inr z)
    have dr15 : IsD Γ nw15 r [] := ⟨dictOf [] 0, k15 _ (.tail _ (.tail _ (.tail _ (mem_put_ne (.head _) (fun z => by
      obtain ⟨o, m, _⟩ := s.dicts (.inl rfl)
      exact fr _ m z.symm))))) id, by
        obtain ⟨o, m, d⟩ := dr
        rw [c8.uniq (.head _) m]
        exact d⟩
    have hrx : r ≠ g.dx k := fun z => fr _ hd z.symm
    have hca : r ≠ ca := fun z => by
      obtain ⟨o, m, _⟩ := s.dicts (.inl rfl)
      exact fr _ m z.symm
    have dc15 : IsD Γ nw15 ca (cacheKvs (cs.rows ++ [r])) := dc.keep (W := fun _ => False) (((Keep.cons.more Keep.cons).more Keep.cons).more k15) id
    have hlen := s.cache.len
    refine ⟨_, _, _, ⟨cs.rows ++ [r], cs.ow ++ [k]⟩, (fun j => if j = k then (cs.rows.length, r) :: oi k else oi j), r, cs.rows.length, _, rfl, c16, kd16, k17.mono fun a z => ?_, ⟨⟨[r], [k], rfl, rfl, fun x hx => ?_, fun j x hx => ?_⟩, fun j x hx0 => ?_⟩, ?_, ?_, .inr ⟨hn, dr15.keep (W := (· = g.dx k)) Keep.put hrx, fr, fun nw4 d4 kd4 k4 => ?_⟩⟩
    · exact z.elim .inl fun z => .inr (.inr (.inl ⟨k, hk, z⟩))
    · rw [List.mem_singleton] at hx
      rw [hx]
      exact fr
    · split at hx
      · rename_i e
        subst e
        rcases List.mem_cons.mp hx with rfl | hx
        · exact .inr (.head _)
        · exact .inl hx
      · exact .inl hx
    · show x ∈ if j = k then (cs.rows.length, r) :: oi k else oi j
      split
      · rename_i e
        subst e
        exact .tail _ hx0
      · exact hx0
    · show (cs.ow ++ [k])[cs.rows.length]? = some k
      rw [hlen, List.getElem?_append_right (Nat.le_refl _)]
      simp
    · show (cs.rows ++ [r])[cs.rows.length]? = some r
      rw [List.getElem?_append_right (Nat.le_refl _)]
      simp
    · have kd5 := kdp.trans kd4
      refine MSt.newRow s hk hp hn (kd16.trans kd4) (fun p hp hn => k4 _ (k17 p hp hn) (fr p hp)) d4 ((dc15.keep (W := (· = g.dx k)) Keep.put mcx).keep k4 hca.symm) (k4 _ (mem_put_self hd15) hrx.symm) hv' (.inr ⟨D, _ :: Ts2, rfl, mD.kdT kd5, ?_, fun i x hi => ?_⟩) fr
      · rw [List.length_cons, List.length_cons, hP2.1]
      · cases i with
        | zero =>
          obtain rfl : (cs.rows.length, r) = x := Option.some.inj hi
          obtain ⟨o4, es4, ep4, m4, _, e4⟩ := d4.data
          have e1 : ((cs.rows ++ [r]).length : Int) - 1 = (cs.rows.length : Nat) := by simp
          have mPr5 := (mPr.keep (W := fun _ => False) ((Keep.cons.more Keep.cons).more k15) id).kdT kd5
          rw [e1] at mPr5
          exact ⟨_, _, o4, rfl, mPr5, m4, es4, ep4, e4⟩
        | succ i =>
          obtain ⟨a0, t0, o0, x1, x2, x3, x4⟩ := (hP2.kd ((Kd.ofKeep (X := []) k15).trans kd5)).2 i x hi
          exact ⟨a0, t0, o0, x1, x2, x3, x4⟩
theorem core_all : ∀ k, k < g.n → MCall Γ g 266 (2 * k + 6) k (k + 1) (run g.pl g.tx) := by
  intro k
  induction k using Nat.strongRecOn with
  | _ k ih =>
    intro hk
    have mt : ∀ j, j < k → MCall Γ g 266 (2 * j + 6) j (j + 1) (run g.pl g.tx) := fun j hj => ih j hj (Nat.lt_trans hj hk)
    refine @core_of Γ g hg k hk ?_
    cases e : g.pl k with
    | word lit => exact (@um_word Γ g hg k lit hk e).mono (by omega)
    | chain a b => exact @um_chain Γ g hg k a b hk e @mt
    | choice a b => exact @um_choice Γ g hg k a b hk e @mt
    | look neg a => exact @um_look Γ g hg k neg a hk e @mt
    | many a least most => exact @um_many Γ g hg k a least most hk e @mt
end


/-! an own exception is raised, and caught -/
section
variable {Γ : Gm} {A : Around} {env : Env} {outer : List Env} {h₀ : Heap} {L : Addr} {h h' : Heap} {l l' : Loc} {nw : Led} {t : Nat} {E : Value → Shared → Prop} {pos : Pos}
set_option maxRecDepth 100000 in
theorem cls_94 (w : World) : ∃ nm q N bs bm hdct sn sub ab col dd k0 k1 k2 k3 k5 newId, (KK w).lookup 94 = some (excClassObj nm q 94 N bs bm hdct sn sub ab col dd k0 k1 k2 k3 k5 newId) ∧ bm.contains (.type "BaseException") = true :=
  ⟨_, _, _, _, _, _, _, _, _, _, _, _, _, _, _, _, _, rfl, by rfl⟩
set_option maxRecDepth 100000 in
theorem ty_94 (w : World) : ∃ oc od cd sl, (KK w).lookup 94 = some ⟨.type "type", od, .cls cd, sl⟩ ∧ oc = sl := ⟨_, _, _, _, rfl, rfl⟩
end
section
variable {Γ : Gm} {A : Around} {env : Env} {outer : List Env} {h₀ : Heap} {L : Addr} {h h' : Heap} {l l' : Loc} {nw : Led} {t : Nat} {E : Value → Shared → Prop} {pos : Pos}
theorem err_base (c : Fx Γ A env outer h₀ L h l nw) {e T dE : Addr} {od : Obj} (he : (e, errO T dE) ∈ nw) (hd : (dE, od) ∈ nw) : Looks (model PG Γ.w) h (isInstance (.ref e) (.type "BaseException")) true := by
  obtain ⟨cd, Z, hm⟩ := errC_94 Γ.w
  have I := inst_err c he hd
  exact I.type.andThen (looks_mroIn c.XI (by unfold mroIn; rw [Z.cl, Option.bind_some, if_neg (by rw [Z.ne]; decide), hm]; rfl))
/-- `raise` of an own exception that is there -/
theorem xRaise {x : Expr} {e T dE : Addr} {od : Obj} {Q : Flow → Shared → Prop} {s : Shared}
    (hq : wpAny (model PG Γ.w) A (eval x env) (fun v s₁ => ∃ h t l nw, v = .ref e ∧ s₁ = S Γ h t ∧ Fx Γ A env outer h₀ L h l nw ∧ (e, errO T dE) ∈ nw ∧ (dE, od) ∈ nw ∧ E (.ref e) (S Γ h t)) E s) :
    wpAny (model PG Γ.w) A (exec (.Raise (some x) none pos) env) Q E s := by
  show wpAny _ A (do standAt pos; raiseStmt env (some (do let v ← eval x env; standAt pos; pure v)) none) Q E s
  refine wpAny_bind (wpAny_standAt ?_)
  unfold raiseStmt
  dsimp only
  refine wpAny_bind (wpAny_bind (wpAny_mono hq (fun v s₁ h₁ => wpAny_bind (wpAny_standAt (wpAny_pure ?_))) fun _ _ x => x))
  obtain ⟨h, t, l, nw, rfl, rfl, c, he, hd, hE⟩ := h₁
  have I := inst_err c he hd
  have hnt : ∀ {Q' : Bool → Shared → Prop}, Q' false (S Γ h t) → wpAny (model PG Γ.w) A (isType (.ref e)) Q' E (S Γ h t) := by
    intro Q' hq
    simp only [isType, loadHead]
    exact wpAny_bind (wpAny_loadPart (c.get he) (wpAny_pure hq))
  refine wpAny_bind (wpAny_pure ?_)
  dsimp only
  refine wpAny_bind (wpAny_holding ?_)
  unfold excFromValue isExcClass
  refine wpAny_bind (wpAny_bind (hnt ?_))
  simp only [Bool.false_eq_true, if_false]
  refine wpAny_pure ?_
  simp only [Bool.false_eq_true, if_false]
  refine wpAny_bind ((err_base c he hd).here ?_)
  simp only [if_true]
  refine wpAny_pure ?_
  refine wpAny_bind (hnt ?_)
  simp only [Bool.false_eq_true, if_false]
  unfold raisedInstance
  obtain ⟨oc, od', cd, sl, e94, _⟩ := ty_94 Γ.w
  have T94 : (S Γ h t).TypeIs (.ref 94) "type" := ⟨_, c.XI _ _ e94, rfl⟩
  refine wpAny_bind (wpAny_bind ((I.type (M := model PG Γ.w)).here (wpAny_bind (wpAny_typeOf T94 ?_))))
  rw [if_pos (by rfl)]
  refine wpAny_pure ?_
  unfold setFlight raiseNew
  refine wpAny_bind (wpAny_bind (wpAny_field (c.get he) rfl (x := .none) rfl ?_))
  rw [if_neg (by decide)]
  refine wpAny_pure (wpAny_bind (wpAny_handled ?_))
  rw [c.hh]
  first
    | exact wpAny_throw hE
    | exact wpAny_bind (wpAny_pure (wpAny_throw hE))
end
abbrev frs (l : List Env) : List Addr := l.filterMap (·.frame)
/-- an own exception is under way out of a call -/
structure Flown (env : Env) (outer : List Env) (h₀ : Heap) (L : Addr) (nw : Led) (e : Addr) (h' : Heap) : Prop where
  fly : ∃ B a0, Heap.FlyingW B (env :: outer) e (.ref 94) a0 h' ∧ (∀ b o, h₀.get? b = some o → b ∉ frs (env :: outer) → B.get? b = some o) ∧ ∀ q ∈ nw, B.get? q.1 = some q.2
  up : h₀.UpToSlots h'
  led : ∀ q ∈ nw, q.1 ≠ L ∧ h₀.get? q.1 = none ∧ 3 < q.1
  nd : (nw.map (·.1)).Nodup
section
variable {Γ : Gm} {A : Around} {env : Env} {outer : List Env} {h₀ : Heap} {L : Addr} {h h' : Heap} {l l' : Loc} {nw : Led} {t : Nat} {E : Value → Shared → Prop} {pos : Pos}
theorem leave_err {A' : Around} {env' : Env} {g : Heap} {L' e T dE : Addr} {m : Str → Option Value} {od : Obj} (FG : Fr h₀ L g m) (c : Fx Γ A' env' (env :: outer) g L' h l' nw) (he : (e, errO T dE) ∈ nw) (hd : (dE, od) ∈ nw) :
    wpAny (model PG Γ.w) A' (leaving env' (.ref e)) (fun _ s' => ∃ h', s' = S Γ h' t ∧ Flown env outer h₀ L (nw.filter fun p => p.1 != e) e h') E (S Γ h t) := by
  obtain ⟨A₀, B⟩ := c.B
  have K' := pushX B c.F c.hf c.hk
  have hin : ∀ en ∈ (env' :: env :: outer), ∀ b, en.frame = some b → b ∈ e :: frs (env' :: env :: outer) := fun en hen b hb => .tail _ (List.mem_filterMap.mpr ⟨en, hen, hb⟩)
  have ge : g.get? e = none := c.N.fresh he
  have gN : ∀ q ∈ nw, g.get? q.1 = none := fun q hq => (c.N q hq).2.2
  have fr2 : frs (env' :: env :: outer) = L' :: frs (env :: outer) := by unfold frs; rw [List.filterMap_cons, c.hf]
  have gL' : g.get? L' = none := Heap.get?_none_of_le c.F.above
  have K1 := K'.frames
  refine wpAny_leaving_firstW (base := hideAll h (e :: frs (env' :: env :: outer))) c.hA (funFrames_hide K1 hin) c.hf (c.get he) (fun b o q => of_hideAll _ q) (hideAll_none _ (.head _)) rfl rfl rfl fun h' hL => ?_
  obtain ⟨k1, ⟨_, _, k2⟩, k3, k4⟩ := hL
  refine ⟨h', rfl, ⟨⟨_, _, ⟨k1, hideAll_none _ (.head _), k2, k3⟩, fun b o q hb => hideAll_get _ (c.F.keep _ _ (FG.keep _ _ q)) ?_, fun q hq => ?_⟩, (Heap.UpToSlots.of_keeps fun b o q => c.F.keep _ _ (FG.keep _ _ q)).trans k4, fun q hq => ?_, c.nd.sublist ((List.filter_sublist).map _)⟩⟩
  · have hg := FG.keep _ _ q
    rw [fr2]
    intro hm
    rcases List.mem_cons.mp hm with z | hm
    · rw [z, ge] at hg; cases hg
    · rcases List.mem_cons.mp hm with z | hm
      · rw [z, gL'] at hg; cases hg
      · exact hb hm
  · obtain ⟨hq, hne⟩ := List.mem_filter.mp hq
    refine hideAll_get _ (c.get (a := q.1) (o := q.2) hq) ?_
    rw [fr2]
    intro hm
    rcases List.mem_cons.mp hm with z | hm
    · simp [z] at hne
    · rcases List.mem_cons.mp hm with z | hm
      · exact (c.N q hq).2.1 z
      · obtain ⟨_, o, ho, _⟩ := B.frames.mem hm
        rw [gN q hq] at ho; cases ho
  · obtain ⟨hq, hne⟩ := List.mem_filter.mp hq
    refine ⟨fun z => ?_, ?_, c.hi q hq⟩
    · obtain ⟨o, es, ep, ho, _⟩ := FG.ns
      rw [← z, gN q hq] at ho; cases ho
    · cases z : h₀.get? q.1 with
      | none => rfl
      | some o => have := FG.keep _ _ z; rw [gN q hq] at this; cases this
end
section
variable {Γ : Gm} {A : Around} {env : Env} {outer : List Env} {h₀ : Heap} {L : Addr} {h h' : Heap} {l l' : Loc} {nw : Led} {t : Nat} {E : Value → Shared → Prop} {pos : Pos}
/-- `enter` for a def that may raise an own exception -/
theorem enterR {R : Value → Shared → Prop} {name qual : Str} {params : Arguments} {body : List Stmt} {scope : Scope} {dV kV doc pm cdv ct oc : Value} {an od : Option Addr} {osl : Array (Option Value)} {f : Addr} {args : Args} {binds : List (Str × Value)} (more : List Str) (l0 : Loc)
    (c : Fx Γ A env outer h₀ L h l nw) (n : Nat) (r : Room A (n + 1))
    (ho : (KK Γ.w).lookup f = some ⟨oc, od, .func (fnOf name qual params body scope dV kV doc pm an cdv ct), osl⟩) (hcd : codeIn (KK Γ.w) cdv qual = true)
    (hbind : BindsTo (S Γ h t) (fnOf name qual params body scope dV kV doc pm an cdv ct) args binds) (hl0 : (binds.map fun p => (p.1, some p.2)) ++ nones more = l0) (hloc : (binds.all fun y => decide (scope.names.lookup y.1 = some .local)) = true)
    (hnd : decide ((binds.map (·.1) ++ more).Nodup) = true)
    (k : ∀ A' env' g L' h₁ t' (Q : Flow → Shared → Prop) (E' : Value → Shared → Prop), env' = envOf qual scope L' f cdv →
      Fx Γ A' env' (env :: outer) g L' h₁ l0 nw → Room A' n →
      (∀ v s', Back Γ A env outer h₀ L l A' env' g L' R v s' → Q (.ret v) s' ∧ (v = .none → Q .next s')) →
      (∀ {e T dE od h2 t2 l2 nw2}, Fx Γ A' env' (env :: outer) g L' h2 l2 nw2 → (e, errO T dE) ∈ nw2 → (dE, od) ∈ nw2 → (∀ h', Flown env outer h₀ L (nw2.filter fun p => p.1 != e) e h' → E (.ref e) (S Γ h' t2)) → E' (.ref e) (S Γ h2 t2)) →
      wpAny (model PG Γ.w) A' (execs body env') Q E' (S Γ h₁ t'))
    (hco : scope.isCoroutine = false := by rfl) (hgen : scope.isGenerator = false := by rfl) (hk : scope.kind = .function := by rfl)
    (hcell : ∀ x ∈ scope.names, x.2 ≠ .cell := by decide) : wpAny (model PG Γ.w) A (call (.ref f) args.pos args.kw) R E (S Γ h t) := by
  have hnd := of_decide_eq_true hnd
  have hnb : (binds.map (·.1)).Nodup := (List.nodup_append.mp hnd).1
  obtain ⟨A₀, B⟩ := c.B
  refine wpAny_call (code_def B c.F c.X c.N c.T c.hA c.hf c.hk ho hcd r.depth hbind (locs hloc) ?_ hco hgen hk hcell)
  intro g' L' h' FG' F' N' B' X' T'
  have hm : mp ((binds.map fun p => (p.1, some p.2)) ++ nones more) = fun y => binds.reverse.lookup y := by
    rw [mp_nones, mp_binds]; funext y; exact (lookup_rev hnb y).symm
  have c0 : Fx Γ (A.deeper (envOf qual scope L' f cdv)) (envOf qual scope L' f cdv) (env :: outer) g' L' h' l0 nw := by
    rw [← hl0]
    refine ⟨⟨_, B'⟩, by rw [hm]; exact F', X', N', T', Around.frames_deeper c.hA, c.hh, rfl, hk, rfl, rfl, rfl, c.nd, ?_, c.hi⟩
    rw [List.map_append, List.map_map]
    have : (nones more).map (·.1) = more := by unfold nones; rw [List.map_map]; exact List.map_id' more
    rw [this]; exact hnd
  refine wpAny_mono (k _ _ g' L' h' _ (fun fl s' => Back Γ A env outer h₀ L l _ _ g' L' R (match fl with | .ret v => v | _ => .none) s') (fun e s' => wpAny (model PG Γ.w) (A.deeper (envOf qual scope L' f cdv)) (leaving (envOf qual scope L' f cdv) e) (fun _ s'' => E e s'') E s') rfl c0 (r.deeper _) (fun v s' z => ⟨z, fun e => e ▸ z⟩) fun {e T dE od h2 t2 l2 nw2} c2 he hd z => ?_) (fun fl s' z => ?_) fun _ _ z => z
  · refine wpAny_mono (leave_err FG' c2 he hd) (fun _ s' y => ?_) fun _ _ y => y
    obtain ⟨h', rfl, fl⟩ := y
    exact z h' fl
  · obtain ⟨l', nw', c', z⟩ := z
    exact leaveK_ c'.F c'.N fun F N => z { c with F := F, N := N, nd := c'.nd, hi := c'.hi }
/-- an own exception lands: the frame that called goes on -/
theorem Flown.held {l2 : List Env} {e : Addr} : True := trivial
end


/-! `match`: a reading with a cache of its own -/
abbrev M0 : Memo := fun _ _ => false
structure LSt (Γ : Gm) (nw : Led) (g : Gr) (ca : Addr) (cs : CS) (oi : Oi) (B : Nat) (M : Memo) : Prop where
  gr : GrAt nw g
  oids : OidsAt nw g oi
  cache : CacheAt Γ [] nw g ca cs M M0
  link : Linked g cs oi B
  cr : ca ∉ cs.rows
  xc : ∀ j, j < g.n → g.dx j ≠ ca
  xr : ∀ j, j < g.n → g.dx j ∉ cs.rows
  xx : ∀ i j, i < g.n → j < g.n → g.dx i = g.dx j → i = j
  le : M.le g.n g.tx.length
def DX (g : Gr) : Addr → Prop := fun a => ∃ j, j < g.n ∧ a = g.dx j
section
variable {Γ : Gm} {A : Around} {env : Env} {outer : List Env} {h₀ : Heap} {L : Addr} {h h' : Heap} {l l' : Loc} {nw nw' : Led} {t : Nat} {E : Value → Shared → Prop} {pos : Pos} {g : Gr} {ca er dE : Addr} {cs : CS} {oi : Oi} {B : Nat} {M : Memo}
theorem LSt.toM (s : LSt Γ nw g ca cs oi B M) (e : ErrOk nw er dE) (h1 : ca ≠ dE) (h2 : dE ∉ cs.rows) (h3 : ∀ j, j < g.n → g.dx j ≠ dE) : MSt Γ [] nw g ca er dE cs oi B M M0 :=
  { gr := s.gr, oids := s.oids, cache := s.cache, link := s.link, err := e, ap := ⟨s.cr, h1, h2, s.xc, s.xr, h3, s.xx⟩, le := s.le }
theorem MSt.toL (s : MSt Γ [] nw g ca er dE cs oi B M M0) : LSt Γ nw g ca cs oi B M :=
  { gr := s.gr, oids := s.oids, cache := s.cache, link := s.link, cr := s.ap.cr, xc := s.ap.xc, xr := s.ap.xr, xx := s.ap.xx, le := s.le }
theorem LSt.dicts (s : LSt Γ nw g ca cs oi B M) {a : Addr} (h : a = ca ∨ a ∈ cs.rows ∨ DX g a) : ∃ o, (a, o) ∈ nw ∧ isDictO o := by
  rcases h with rfl | hb | ⟨j, hj, rfl⟩
  · obtain ⟨o, es, ep, m, _, d⟩ := s.cache.top.data
    exact ⟨o, m, es, ep, d⟩
  · obtain ⟨i, hi⟩ := List.mem_iff_getElem?.mp hb
    have hlt : i < cs.ow.length := by rw [← s.cache.len]; exact (List.getElem?_eq_some_iff.mp hi).1
    obtain ⟨kvs, hd, _⟩ := s.cache.row i _ _ (List.getElem?_eq_getElem hlt) hi
    obtain ⟨o, es, ep, m, _, d⟩ := hd.data
    exact ⟨o, m, es, ep, d⟩
  · obtain ⟨od, v, m, hv, _⟩ := s.oids j hj
    exact ⟨od, m, hv.isDict⟩
theorem LSt.ofKeep (s : LSt Γ nw g ca cs oi B M) (k : Keep (fun _ => False) nw nw') : LSt Γ nw' g ca cs oi B M :=
  { s with gr := s.gr.kd (Kd.ofKeep (X := []) k), oids := s.oids.keep (Kd.ofKeep (X := []) k) k fun _ _ => id, cache := s.cache.keep (Y := []) (Kd.ofKeep k) (fun _ _ _ _ h => nomatch h) k id fun _ _ => id }
/-- an empty cache -/
theorem LSt.fresh {M' : Memo} {ca2 : Addr} (s : LSt Γ nw g ca cs oi B M) (hc : IsD Γ nw ca2 []) (h1 : ∀ j, j < g.n → g.dx j ≠ ca2) (hM : ∀ j q, M' j q = false) : LSt Γ nw g ca2 ⟨[], []⟩ oi (B + 1) M' :=
  { gr := s.gr, oids := s.oids
    cache := { len := rfl, rnd := .nil, ond := .nil, olt := fun _ h => (nomatch h), top := hc, row := fun i j r h1 h2 => (by simp at h1), has := fun j p h => (by rw [hM] at h; simp at h), used := fun _ h => (nomatch h) }
    link := { to := fun j hj q hq h => (by simp at h), back := fun o j h => (by simp at h), few := fun j => (by have := s.link.few j; split at this <;> (simp; omega)) }
    cr := fun h => (nomatch h), xc := h1, xr := fun _ _ h => (nomatch h), xx := s.xx, le := fun i j h => (by rw [hM] at h; cases h) }
/-- a reading with another cache leaves this one as it was -/
theorem LSt.other {ca2 : Addr} {cs2 : CS} {oi2 : Oi} {B2 : Nat} {M2 : Memo} {W : Addr → Prop} {n1 : Led} (s : LSt Γ nw g ca cs oi B M) (k0 : Keep (fun _ => False) nw n1) (s2 : LSt Γ nw' g ca2 cs2 oi2 B2 M2) (gr : Grew n1 ⟨[], []⟩ cs2 oi oi2) (kd : Kd [] nw nw') (w : Keep W nw nw') (h1 : ¬ W ca) (h2 : ∀ r ∈ cs.rows, ¬ W r) : LSt Γ nw' g ca cs oi2 (B2 + 1) M :=
  { gr := s2.gr, oids := s2.oids
    cache := s.cache.keep kd (fun _ _ _ _ h => nomatch h) w h1 h2
    link := {
      to := fun j hj q hq h => by
        obtain ⟨nr, no, e1, e2, e3, e4⟩ := gr.ex
        rcases e4 j q hq with hq | hq
        · exact s.link.to j hj q hq h
        · obtain ⟨o, m, _⟩ := s.dicts (.inr (.inl (List.mem_of_getElem? h)))
          exact absurd rfl (e3 _ hq _ (k0 _ m id))
      back := fun o j h => let ⟨r, a, b⟩ := s.link.back o j h; ⟨r, a, gr.old j _ b⟩
      few := fun j => (by have := s2.link.few j; split at this <;> split <;> omega) }
    cr := s.cr, xc := s.xc, xr := s.xr, xx := s.xx, le := s.le }
theorem LSt.matchM (c : Fx Γ A env outer h₀ L h l nw) {k : Nat} {pl : Sem Bool} {Q : Value × List Value → Shared → Prop} (s : LSt Γ nw g ca cs oi B M) (hk : k < g.n)
    (q : Q (.ref 259, [.ref (g.rs k)]) (S Γ h t)) : wpAny (model PG Γ.w) A (getMethod (.ref (g.rs k)) (Str.ofString "match") pl) Q E (S Γ h t) := by
  obtain ⟨C, sl, i, t1, hx, O, _⟩ := (s.gr k hk).inst (w := Γ.w)
  obtain ⟨od, v, hd, hv, ho⟩ := s.oids k hk
  exact xmeth c hx hd hv O.pg O.mt (fnd_259 _) (by decide) q
theorem LSt.coreM (c : Fx Γ A env outer h₀ L h l nw) {k : Nat} {pl : Sem Bool} {Q : Value × List Value → Shared → Prop} (s : LSt Γ nw g ca cs oi B M) (hk : k < g.n)
    (q : Q (.ref 266, [.ref (g.rs k)]) (S Γ h t)) : wpAny (model PG Γ.w) A (getMethod (.ref (g.rs k)) (Str.ofString "match_core") pl) Q E (S Γ h t) := by
  obtain ⟨C, sl, i, t1, hx, O, _⟩ := (s.gr k hk).inst (w := Γ.w)
  obtain ⟨od, v, hd, hv, ho⟩ := s.oids k hk
  exact xmeth c hx hd hv O.pg O.mc (fnd_266 _) (by decide) q
end


/-! an exception goes out of the ledger -/
section
variable {Γ : Gm} {nw : Led} {e T dE : Addr}
abbrev less (nw : Led) (e : Addr) : Led := nw.filter fun p => p.1 != e
variable (m : (e, errO T dE) ∈ nw) (nd : (nw.map (·.1)).Nodup)
include m nd
theorem less_mem {a : Addr} {o : Obj} (h : (a, o) ∈ nw) (hne : o ≠ errO T dE) : (a, o) ∈ less nw e :=
  List.mem_filter.mpr ⟨h, by
    simp only [bne_iff_ne, ne_eq]
    intro z
    subst z
    exact hne (uniq_nd nd m h)⟩
theorem less_dict {a : Addr} {o : Obj} (h : (a, o) ∈ nw) (hd : isDictO o) : (a, o) ∈ less nw e := less_mem m nd h fun z => by
  obtain ⟨es, ep, hd⟩ := hd
  rw [z] at hd; cases hd
theorem less_Q {S : String} {a : Addr} {xs : List Value} (h : IsQ S nw a xs) : IsQ S (less nw e) a xs := ⟨h.1, let ⟨n, h⟩ := h.2; ⟨n, less_mem m nd h fun z => by have := congrArg Obj.data z; cases this⟩⟩
theorem less_D {a : Addr} {kvs : List (Int × Value)} (h : IsD Γ nw a kvs) : IsD Γ (less nw e) a kvs :=
  let ⟨o, h, d⟩ := h; ⟨o, less_dict m nd h (let ⟨es, ep, _, hd, _⟩ := d; ⟨es, ep, hd⟩), d⟩
theorem less_inst {a C dx : Addr} {sl : List (Option Value)} (h : (a, inO C dx sl) ∈ nw) (hC : C ≠ 94) : (a, inO C dx sl) ∈ less nw e := less_mem m nd h fun z => by
  have h1 := congrArg Obj.cls z
  injection h1 with h1
  exact hC h1
theorem less_expr {rs : Nat → Addr} {nm : Str} {a dx : Addr} {p : Plan} (h : IsExpr nw rs nm a dx p) : IsExpr (less nw e) rs nm a dx p := by
  cases p with
  | word lit => obtain ⟨id, t1, t2, h1⟩ := h; exact ⟨id, t1, t2, less_inst m nd h1 (by decide)⟩
  | chain a b => obtain ⟨T, id, t, h1, h2⟩ := h; exact ⟨T, id, t, less_inst m nd h1 (by decide), less_Q m nd h2⟩
  | choice a b => obtain ⟨T, id, t, h1, h2⟩ := h; exact ⟨T, id, t, less_inst m nd h1 (by decide), less_Q m nd h2⟩
  | look neg a => obtain ⟨T, id, t, h1, h2⟩ := h; exact ⟨T, id, t, less_inst m nd h1 (by decide), less_Q m nd h2⟩
  | many a least most => obtain ⟨mv, T, id, t, t', h1, h2, h3⟩ := h; exact ⟨mv, T, id, t, t', less_inst m nd h1 (by decide), h2, less_Q m nd h3⟩
mutual
theorem less_node {X : List Addr} {rs : Nat → Addr} {tx : Str} : ∀ {t : Tree} {a : Addr}, NodeAt X nw rs tx t a → NodeAt X (less nw e) rs tx t a
  | .node _ _ _ kids, a, h => by
    unfold NodeAt at h ⊢
    obtain ⟨dx, ch, od, xs, t1, t2, t3, h1, h2, h2d, h3, hX, h4⟩ := h
    exact ⟨dx, ch, od, xs, t1, t2, t3, less_inst m nd h1 (by decide), less_dict m nd h2 h2d, h2d, less_Q m nd h3, hX, less_nodes h4⟩
theorem less_nodes {X : List Addr} {rs : Nat → Addr} {tx : Str} : ∀ {ts : List Tree} {xs : List Addr}, NodesAt X nw rs tx ts xs → NodesAt X (less nw e) rs tx ts xs
  | [], xs, h => by unfold NodesAt at h ⊢; exact h
  | t :: ts, xs, h => by
    unfold NodesAt at h ⊢
    obtain ⟨a, r, e, h1, h2⟩ := h
    exact ⟨a, r, e, less_node h1, less_nodes h2⟩
end
theorem less_res {X : List Addr} {rs : Nat → Addr} {tx : Str} : ∀ {t : Option Tree} {v : Value}, ResAt X nw rs tx t v → ResAt X (less nw e) rs tx t v
  | none, _, h => h
  | some _, _, ⟨a, z, h⟩ => ⟨a, z, less_node m nd h⟩
theorem LSt.less {g : Gr} {ca : Addr} {cs : CS} {oi : Oi} {B : Nat} {M : Memo} (s : LSt Γ nw g ca cs oi B M) : LSt Γ (Mine.less nw e) g ca cs oi B M :=
  { s with
    gr := fun k hk => less_expr m nd (s.gr k hk)
    oids := fun k hk => by
      obtain ⟨od, v, h1, h2, h3⟩ := s.oids k hk
      refine ⟨od, v, less_dict m nd h1 h2.isDict, h2, ?_⟩
      rcases h3 with h | ⟨T, Ts, z, h4, h5, h6⟩
      · exact .inl h
      · refine .inr ⟨T, Ts, z, less_Q m nd h4, h5, fun i q hq => ?_⟩
        obtain ⟨a, t, o, x1, x2, x3, x4⟩ := h6 i q hq
        exact ⟨a, t, o, x1, less_Q m nd x2, less_dict m nd x3 x4, x4⟩
    cache := { s.cache with
      top := less_D m nd s.cache.top
      row := fun i j r hi hr => by
        obtain ⟨kvs, hd, hk⟩ := s.cache.row i j r hi hr
        exact ⟨kvs, less_D m nd hd, fun q v hq => let ⟨p, z, hp, y⟩ := hk.1 q v hq; ⟨p, z, hp, y.imp (fun ⟨a, b⟩ => ⟨a, less_res m nd b⟩) id⟩, hk.2⟩ } }
theorem Kd.less {n0 : Led} {X : List Addr} (k : Kd X n0 nw) (h : ∀ p ∈ n0, p.1 ≠ e) : Kd X n0 (Mine.less nw e) :=
  k.late h keep_drop fun _ _ hb hne => List.mem_filter.mpr ⟨hb, by simpa using hne⟩
end


section
variable {Γ : Gm} {A : Around} {env : Env} {outer : List Env} {h₀ : Heap} {L : Addr} {h h' : Heap} {l l' : Loc} {nw nw' : Led} {t : Nat} {E : Value → Shared → Prop} {pos : Pos} {g : Gr} {ca er dE : Addr} {cs : CS} {oi : Oi} {B : Nat} {M : Memo}
variable (hg : g.Ok)
include hg
set_option maxRecDepth 100000 in
set_option maxHeartbeats 8000000 in
theorem match_ok {k p : Nat} {tt tp : Tok} {R : Value → Shared → Prop} (hk : k < g.n) (c : Fx Γ A env outer h₀ L h l nw) (r : Room A 30) (s : LSt Γ nw g ca cs oi B M) (hp : p ≤ g.tx.length) (hB : B ≤ 890)
    (q1 : ∀ tr h' t' x nw' oi', ev g.pl g.tx k p = some tr → Fx Γ A env outer h₀ L h' l nw' → LSt Γ nw' g ca cs oi' (B + 2) M → NodeAt [] nw' g.rs g.tx tr x → Kd [] nw nw' → Keep (DX g) nw nw' → R (.ref x) (S Γ h' t'))
    (q2 : ∀ e h' t' nw' oi', ev g.pl g.tx k p = none → Flown env outer h₀ L nw' e h' → LSt Γ nw' g ca cs oi' (B + 2) M → Kd [] nw nw' → Keep (DX g) nw nw' → E (.ref e) (S Γ h' t')) :
    wpAny (model PG Γ.w) A (call (.ref 259) [.ref (g.rs k), .str g.tx tt] [("pos", .int p tp)]) R E (S Γ h t) := by
  refine enterR (args := ⟨[.ref (g.rs k), .str g.tx tt], [("pos", .int p tp)]⟩) (binds := [("self", .ref (g.rs k)), ("text", .str g.tx tt), ("pos", .int p tp)]) ["error", "node"] [("self", some (.ref (g.rs k))), ("text", some (.str g.tx tt)), ("pos", some (.int p tp)), ("error", none), ("node", none)] c 29 r rfl (by rfl) (kp_binds c.XI fun _ => by rfl) rfl rfl (by rfl) ?_ rfl rfl rfl (by decide)
  intro A' env' b0 L' h₁ t' Q E' he c' r' back ret
  obtain ⟨oc, mc, dc⟩ := s.dicts (.inl rfl)
  walk_at "m:go"
  refine pe_ok (n := 27) c' (r'.mono (by omega)) mc fun h2 t2 e dE nw2 c2 k2 e2 l2 l2' => ?_
  have s2 := s.ofKeep k2
  walk_at "m:go"
  rename Fx _ _ _ _ _ _ _ _ _ => c3
  refine LSt.coreM c3 s2 hk ?_
  dsimp only
  walk_at "m:go"
  refine xdnew c3 fun h4 a c4 l4 d4 => ?_
  walk_at "m:go"
  refine ⟨kp_f c4 (kf_266 _), ?_⟩
  have hdE : ∃ od, (dE, od) ∈ nw2 := let ⟨T, od, p, _, m, _⟩ := e2; ⟨od, m⟩
  obtain ⟨odE, mdE⟩ := hdE
  have xdE : ∀ j, j < g.n → g.dx j ≠ dE := fun j hj z => by
    obtain ⟨o, m, _⟩ := s.dicts (.inr (.inr ⟨j, hj, rfl⟩))
    exact absurd (l2' _ m) (by show ¬ g.dx j < dE; rw [z]; exact Nat.lt_irrefl _)
  have xa : ∀ j, j < g.n → g.dx j ≠ a := fun j hj z => by
    obtain ⟨o, m, _⟩ := s2.dicts (.inr (.inr ⟨j, hj, rfl⟩))
    exact absurd (l4 _ m) (by show ¬ g.dx j < a; rw [z]; exact Nat.lt_irrefl _)
  have ma : a ≠ dE := fun z => absurd (l4 _ mdE) (by show ¬ dE < a; rw [z]; exact Nat.lt_irrefl _)
  have e4 := e2.keep (Kd.cons (X := []) (p := (a, dictOf [] 0))) (W := fun _ => False) Keep.cons id
  have s4 := ((s2.ofKeep (Keep.cons (p := (a, dictOf [] 0)))).fresh (M' := M0) d4 xa fun _ _ => rfl).toM e4 ma (fun z => nomatch z) xdE
  refine @core_all Γ g hg k hk _ _ _ _ _ _ _ _ _ _ _ _ _ _ _ _ _ _ _ _ _ _ _ c4 (r'.mono (by have := hg.n8; omega)) s4 (fun x hx => nomatch hx) (fun j q hj => nomatch hj) hp (by omega) fun h5 t5 v5 nw5 cs5 oi5 c5 s5 res5 kd5 k5 gr5 => ?_
  walk_at "m:go"
  rename Fx _ _ _ _ _ _ _ _ _ => c6
  have kn : Keep (fun _ => False) nw ((a, dictOf [] 0) :: nw2) := k2.trans Keep.cons
  have kd : Kd [] nw nw5 := (Kd.ofKeep kn).trans kd5
  have kk : Keep (DX g) nw nw5 := fun p hp hn => k5 p (kn p hp id) fun z => by
    rcases z with z | z | z | z
    · exact absurd (l4 _ (k2 p hp id)) (by rw [z]; exact Nat.lt_irrefl _)
    · exact nomatch z
    · exact hn z
    · exact absurd (l2' _ hp) (by rw [z]; exact Nat.lt_irrefl _)
  have sL : LSt Γ nw5 g ca cs oi5 (B + 2) M := s.other kn s5.toL gr5 kd kk (fun ⟨j, hj, z⟩ => s.xc j hj z.symm) fun r hr ⟨j, hj, z⟩ => s.xr j hj (z ▸ hr)
  cases hev : ev g.pl g.tx k p with
  | some tr =>
    rw [hev] at res5
    obtain ⟨x, rfl, hn⟩ := res5
    walk_at "m:no"
    walk_at "m:go"
    exact (back _ _ ⟨_, _, c6, fun cc => q1 tr _ _ x _ _ hev cc sL hn kd kk⟩).1
  | none =>
    rw [hev] at res5
    obtain rfl : v5 = .none := res5
    obtain ⟨T, od5, pe, m1, m2, _⟩ := s5.err
    have fe : ∀ p ∈ nw, p.1 ≠ e := fun p hp z => absurd (l2 p hp) (by rw [z]; exact Nat.lt_irrefl _)
    walk_at "m:yes"
    walk_at "m:go"
    refine xRaise (e := e) (T := T) (dE := dE) (od := od5) (outer := env :: outer) (h₀ := b0) (L := L') ?_
    walk_at "m:go"
    exact ⟨_, _, _, _, rfl, rfl, c6, m1, m2, ret c6 m1 m2 fun h' fl => q2 e _ _ _ _ hev fl (sL.less m1 c6.nd) (kd.less m1 c6.nd fe) fun p hp hn => List.mem_filter.mpr ⟨kk p hp hn, by simpa using fe p hp⟩⟩
end


/-! list comprehensions -/
section
variable {Γ : Gm} {A : Around} {env : Env} {outer : List Env} {h₀ : Heap} {L : Addr} {h h' : Heap} {l l' : Loc} {nw : Led} {t : Nat} {E : Value → Shared → Prop} {pos : Pos}
theorem ns_same {h h' : Heap} {C : Addr} {o : Obj} {m : Str → Option Value} (n : h.Ns C m) (e : h.get? C = some o) (e' : h'.get? C = some o) : h'.Ns C m := by
  obtain ⟨o1, es, ep, h1, r⟩ := n
  rw [e] at h1
  injection h1 with h1
  subst h1
  exact ⟨o, es, ep, e', r⟩
/-- the names of a block: a dict `C` of the ledger -/
def InBlk (h : Heap) (nw : Led) (C : Addr) (x : Str) (v : Value) : Prop := ∃ oC m, (C, oC) ∈ nw ∧ h.Ns C m ∧ m x = some v
def HasBlk (h : Heap) (nw : Led) (C : Addr) : Prop := ∃ oC m, (C, oC) ∈ nw ∧ h.Ns C m
theorem InBlk.has {C : Addr} {x : Str} {v : Value} (b : InBlk h nw C x v) : HasBlk h nw C := let ⟨o, m, a, n, _⟩ := b; ⟨o, m, a, n⟩
theorem InBlk.later {C : Addr} {x : Str} {v : Value} {W : Addr → Prop} {h1 : Heap} {n1 : Led} (b : InBlk h nw C x v) (c : Fx Γ A env outer h₀ L h l nw) (c1 : Fx Γ A env outer h₀ L h1 l' n1) (k : Keep W nw n1) (hW : ¬ W C) : InBlk h1 n1 C x v :=
  let ⟨o, m, a, n, e⟩ := b; ⟨o, m, k _ a hW, ns_same n (c.get a) (c1.get (k _ a hW)), e⟩
theorem HasBlk.later {C : Addr} {W : Addr → Prop} {h1 : Heap} {n1 : Led} (b : HasBlk h nw C) (c : Fx Γ A env outer h₀ L h l nw) (c1 : Fx Γ A env outer h₀ L h1 l' n1) (k : Keep W nw n1) (hW : ¬ W C) : HasBlk h1 n1 C :=
  let ⟨o, m, a, n⟩ := b; ⟨o, m, k _ a hW, ns_same n (c.get a) (c1.get (k _ a hW))⟩
theorem xcompLoop {R : Result → Shared → Prop} {elt iter : Expr} {x : Str} {px : Pos} {ifs : List Expr} {scope : Scope} {cl : List (Str × Addr)} {I C D : Addr} {n : Nat} {P : Nat → Value → Prop} {It : Nat → Led → Prop}
    (X : XIt Γ A I n P It) (INV : Nat → List Value → Led → Prop) (hkind : scope.kind = .function) (hx : scope.names.lookup x = some .local)
    (c : Fx Γ A env outer h₀ L h l nw) (b0 : HasBlk h nw C) (d0 : IsQ "list" nw D []) (it0 : It 0 nw) (i0 : INV 0 [] nw) (hn : n < 1000) (hCI : C ≠ I) (hDI : D ≠ I) (hDC : D ≠ C)
    (stab : ∀ i n1 n2 a, a = C ∨ a = D → It i n1 → Keep (· = a) n1 n2 → It i n2)
    (istab : ∀ i ys n1 n2 a, a = I ∨ a = C ∨ a = D → INV i ys n1 → Keep (· = a) n1 n2 → INV i ys n2)
    (step : ∀ i v ys h nw t, i < n → P i v → ys.length ≤ i → Fx Γ A env outer h₀ L h l nw → InBlk h nw C x v → IsQ "list" nw D ys → It (i + 1) nw → INV i ys nw →
      wpAny (model PG Γ.w) A (forIn ifs true fun e r => if r = true then do let ok ← isTrue e (compEnvC scope cl C env) (eval e (compEnvC scope cl C env)); pure (ForInStep.yield ok) else pure (ForInStep.yield r)) (fun ok s₃ =>
        if ok = true then wpAny (model PG Γ.w) A (eval elt (compEnvC scope cl C env)) (fun y s₄ => ∃ h' t' nw', s₄ = S Γ h' t' ∧ Fx Γ A env outer h₀ L h' l nw' ∧ HasBlk h' nw' C ∧ IsQ "list" nw' D ys ∧ It (i + 1) nw' ∧ INV (i + 1) (ys ++ [y]) nw') (fun _ _ => False) s₃
        else ∃ h' t' nw', s₃ = S Γ h' t' ∧ Fx Γ A env outer h₀ L h' l nw' ∧ HasBlk h' nw' C ∧ IsQ "list" nw' D ys ∧ It (i + 1) nw' ∧ INV (i + 1) ys nw') (fun _ _ => False) (S Γ h t))
    (fin : ∀ ys h nw t, Fx Γ A env outer h₀ L h l nw → HasBlk h nw C → IsQ "list" nw D ys → INV n ys nw → R (.ok .next) (S Γ h t)) :
    codeAny (model PG Γ.w) A (.compLoop (.ListComp elt [⟨.Name x px, iter, ifs, 0⟩] scope pos) 0 (.ref I) (.ref D) (compEnvC scope cl C env)) R (S Γ h t) := by
  refine codeAny_compLoop_tests (fun k s' => ∃ i ys h nw t, s' = S Γ h t ∧ Fx Γ A env outer h₀ L h l nw ∧ HasBlk h nw C ∧ IsQ "list" nw D ys ∧ It i nw ∧ INV i ys nw ∧ ys.length ≤ i ∧ i ≤ n ∧ k = n + 1 - i) ?_ (n + 1) ⟨0, [], h, nw, t, rfl, c, b0, d0, it0, i0, Nat.le_refl _, Nat.zero_le _, rfl⟩
  rintro k s' ⟨i, ys, h, nw, t, rfl, c, b, d, hI, hV, hy, hi, rfl⟩
  by_cases hlt : i < n
  · refine X.item hlt c hI fun v h1 t1 o' hP c1 hI1 => ?_
    have k1 : Keep (· = I) nw (put nw I o') := Keep.put
    obtain ⟨oC, m, mC, nC⟩ := b.later c c1 k1 hCI
    have d1 := d.keep k1 hDI
    have v1 := istab _ _ _ _ _ (.inl rfl) hV k1
    refine wpAny_assign_Name (wpAny_storeName_local (s := S Γ h1 t1) (lookup_relabel_local hx) nC (fun h2 nC2 sb2 => ?_) (by simp [compEnvC, relabel, hkind]))
    obtain ⟨oC2, es2, ep2, g2, r2⟩ := id nC2
    have c2 := c1.upd mC sb2 g2
    have k2 : Keep (· = C) (put nw I o') (put (put nw I o') C oC2) := Keep.put
    refine wpAny_mono (step i v ys h2 _ (t1 + 1) hlt hP hy c2 ⟨oC2, _, mem_put_self mC, nC2, if_pos rfl⟩ (d1.keep k2 hDC) (stab _ _ _ _ (.inl rfl) hI1 k2) (istab _ _ _ _ _ (.inr (.inl rfl)) v1 k2)) (fun ok s₃ h₃ => ?_) fun _ _ z => z.elim
    cases ok with
    | false =>
      obtain ⟨h', t', nw', rfl, c', b', d', it', v'⟩ := h₃
      exact ⟨n + 1 - (i + 1), by omega, i + 1, ys, h', nw', t', rfl, c', b', d', it', v', Nat.le_succ_of_le hy, hlt, rfl⟩
    | true =>
      refine wpAny_mono h₃ (fun y s₄ h₄ => ?_) fun _ _ z => z.elim
      obtain ⟨h', t', nw', rfl, c', b', d', it', v'⟩ := h₄
      refine xappend c' d' (by omega) fun h5 o5 _ c5 d5 => ?_
      have k5 : Keep (· = D) nw' (put nw' D o5) := Keep.put
      exact ⟨n + 1 - (i + 1), by omega, i + 1, ys ++ [y], h5, _, t', rfl, c5, b'.later c' c5 k5 hDC.symm, d5, stab _ _ _ _ (.inr rfl) it' k5, istab _ _ _ _ _ (.inr (.inr rfl)) v' k5, by simp; omega, hlt, rfl⟩
  · have : i = n := by omega
    subst this
    refine X.done c hI fun h1 nw1 c1 k1 => ?_
    exact fin ys h1 nw1 t c1 (b.later c c1 k1 hCI) (d.keep k1 hDI) (istab _ _ _ _ _ (.inl rfl) hV k1)
end
section
variable {Γ : Gm} {A : Around} {env : Env} {outer : List Env} {h₀ : Heap} {L : Addr} {h h' : Heap} {l l' : Loc} {nw : Led} {t : Nat} {E : Value → Shared → Prop} {pos : Pos}
theorem xcompBlock {RR : Value → Addr → Result → Shared → Prop} {elt iter : Expr} {x : Str} {px : Pos} {ifs : List Expr} {scope : Scope} {cl : List (Str × Addr)} {I : Addr}
    (c : Fx Γ A env outer h₀ L h l nw) (hcell : ∀ y ∈ scope.names, y.2 ≠ .cell) (hkind : scope.kind = .function)
    (self : ∀ {nw' : Led} {h' : Heap} {t' : Nat} {Q : Value → Shared → Prop} {E' : Value → Shared → Prop}, Fx Γ A env outer h₀ L h' l nw' → Keep (fun _ => False) nw nw' → Q (.ref I) (S Γ h' t') → wpAny (model PG Γ.w) A (pyIter (.ref I)) Q E' (S Γ h' t'))
    (k : ∀ C D oC h' t', Fx Γ A env outer h₀ L h' l ((C, oC) :: (D, seqO "list" [] 0) :: nw) → HasBlk h' ((C, oC) :: (D, seqO "list" [] 0) :: nw) C → IsQ "list" ((C, oC) :: (D, seqO "list" [] 0) :: nw) D [] → (∀ p ∈ nw, p.1 < D) → D < C →
      codeAny (model PG Γ.w) A (.compLoop (.ListComp elt [⟨.Name x px, iter, ifs, 0⟩] scope pos) 0 (.ref I) (.ref D) (compEnvC scope cl C env)) (RR (.ref D) C) (S Γ h' t')) :
    wpAny (model PG Γ.w) A (newList []) (fun acc s₃ => wpAny (model PG Γ.w) A (newFunctionEnv scope env.globals cl [] env.qual none .none (some env)) (fun cenv s₄ =>
      codeAny (model PG Γ.w) A (.compStart (.ListComp elt [⟨.Name x px, iter, ifs, 0⟩] scope pos) 0 (.ref I) acc { cenv with scope := relabel scope env }) (RR acc cenv.locals) s₄) E s₃) E (S Γ h t) := by
  refine xnewList c (vs := []) (by simp) fun h2 D eD hsz c2 m2 => ?_
  have ltD : ∀ p ∈ nw, p.1 < D := fun p hp => by rw [eD]; exact c.lt hp
  refine wpAny_newFunctionEnv (s := S Γ h2 t) hcell (by intro y hy; simp at hy) (fun h3 ns sb => ?_) hkind
  obtain ⟨oC, es, ep, gC, rC⟩ := id ns
  have c3 := (c2.push { cls := .type (if (some env).isSome then "dict" else "frame"), data := .dict #[] }).upd (.head _) sb gC
  rw [show put (_ :: _) h2.objs.size oC = (h2.objs.size, oC) :: (D, seqO "list" [] 0) :: nw from by
    unfold put
    rw [List.map_cons, if_pos rfl]
    congr 1
    have : ((D, seqO "list" [] 0) :: nw).map (fun p => if p.1 = h2.objs.size then (h2.objs.size, oC) else p) = ((D, seqO "list" [] 0) :: nw).map id := List.map_congr_left fun p hp => if_neg (Nat.ne_of_lt (c2.lt hp))
    rw [this, List.map_id]] at c3
  have hDC : D < h2.objs.size := c2.lt (.head _)
  have L1 := k h2.objs.size D oC h3 t c3 ⟨oC, _, .head _, ns⟩ m2.cons ltD hDC
  exact codeAny_compStart_list L1 (self c3 (Keep.cons.trans Keep.cons) L1)
/-- a comprehension's list is made: its block goes -/
theorem comp_end {Q : Value → Shared → Prop} {acc : Value} {C : Addr} (c : Fx Γ A env outer h₀ L h l nw) (b : HasBlk h nw C) (q : ∀ h', Fx Γ A env outer h₀ L h' l (nw.filter fun p => p.1 != C) → Q acc (S Γ h' t)) :
    compPost (model PG Γ.w) A E none Q acc C (.ok .next) (S Γ h t) := by
  obtain ⟨oC, m, mC, nC⟩ := b
  exact ⟨m, nC, fun h' sb => q h' (c.ext mC sb.extBut)⟩
theorem xListComp {elt iter : Expr} {x : Str} {px : Pos} {ifs : List Expr} {scope : Scope} {cl : List (Str × Addr)} {Q : Value → Shared → Prop} {s : Shared}
    (hclos : closureFor scope env = pure cl) (hkind : scope.kind = .function) (hnames : ∀ y ∈ scope.names, y.2 = .local → scope.names.lookup y.1 = some .local)
    (hq : wpAny (model PG Γ.w) A (eval iter env) (fun xv s₁ => wpAny (model PG Γ.w) A (pyIter xv) (fun it s₂ => wpAny (model PG Γ.w) A (newList []) (fun acc s₃ => wpAny (model PG Γ.w) A (newFunctionEnv scope env.globals cl [] env.qual none .none (some env)) (fun cenv s₄ =>
      codeAny (model PG Γ.w) A (.compStart (.ListComp elt [⟨.Name x px, iter, ifs, 0⟩] scope pos) 0 it acc { cenv with scope := relabel scope env }) (compPost (model PG Γ.w) A E none Q acc cenv.locals) s₄) E s₃) E s₂) E s₁) E s)
    (hs : ∀ x, foldedSetIterable iter env x = pure x := by intro _; rfl) : wpAny (model PG Γ.w) A (eval (.ListComp elt [⟨.Name x px, iter, ifs, 0⟩] scope pos) env) Q E s := by
  rw [eval_ListComp]
  exact wpAny_comprehension_free (use := none) rfl hs hclos hkind hnames hq
end
section
variable {Γ : Gm} {A : Around} {env : Env} {outer : List Env} {h₀ : Heap} {L : Addr} {h h' : Heap} {l l' : Loc} {nw : Led} {t : Nat} {E : Value → Shared → Prop} {pos : Pos}
theorem xbloc (c : Fx Γ A env outer h₀ L h l nw) {scope : Scope} {cl : List (Str × Addr)} {C : Addr} {x : Str} {v : Value} {Q : Value → Shared → Prop} (b : InBlk h nw C x v) (hk : (compEnvC scope cl C env).kindOf x = some .local) (hf : (compEnvC scope cl C env).scope.kind = .function)
    (q : Q v (S Γ h t)) (hd : (x == ("__debug__" : Str)) = false := by decide) : wpAny (model PG Γ.w) A (eval (.Name x pos) (compEnvC scope cl C env)) Q E (S Γ h t) :=
  let ⟨_, _, _, n, e⟩ := b
  wpAny_Name (wpAny_loadName_local (s := S Γ h t) hf hk n e q) hd
theorem xbglob (c : Fx Γ A env outer h₀ L h l nw) {scope : Scope} {cl : List (Str × Addr)} {C : Addr} {x : Str} {v : Value} {Q : Value → Shared → Prop} (e : nsIn (KK Γ.w) mainGlobals x = some (some v)) (hk : (compEnvC scope cl C env).kindOf x = some .globalImplicit) (hf : (compEnvC scope cl C env).scope.kind = .function)
    (q : Q v (S Γ h t)) (hd : (x == ("__debug__" : Str)) = false := by decide) : wpAny (model PG Γ.w) A (eval (.Name x pos) (compEnvC scope cl C env)) Q E (S Γ h t) :=
  Name_function_global hf hk (loadGlobal_global (by show Heap.Ns _ env.globals _; rw [c.glo]; exact c.T.g.keeps c.F.keep) (mg_of c.X c.T.g e) q) hd
end


local macro_rules | `(tactic| walk_at "m:s") => `(tactic| first
  | ((with_reducible show wpAny _ _ (eval (PySem.Expr.Name _ _) (compEnvC _ _ _ _)) _ _ _); first | refine xbloc (by assumption) (by assumption) (by rfl) rfl ?_ | refine xbglob (by assumption) (by walk_at "m:gname") (by rfl) rfl ?_))


section
variable {Γ : Gm} {A : Around} {env : Env} {outer : List Env} {h₀ : Heap} {L : Addr} {h h' : Heap} {l l' : Loc} {nw : Led} {t : Nat} {E : Value → Shared → Prop} {pos : Pos} {g : Gr}
set_option maxRecDepth 100000 in
set_option maxHeartbeats 8000000 in
theorem name_157 {X : List Addr} {tr : Tree} {a : Addr} {oi : Oi} {R : Value → Shared → Prop} (c : Fx Γ A env outer h₀ L h l nw) (r : Room A 1) (hn : NodeAt X nw g.rs g.tx tr a) (hk : tr.k < g.n) (gr : GrAt nw g) (oa : OidsAt nw g oi)
    (q : ∀ h' t' u, Fx Γ A env outer h₀ L h' l nw → R (.str (g.nm tr.k) u) (S Γ h' t')) : codeAny (model PG Γ.w) A (.call (.ref 157) ⟨[.ref a], []⟩) (RV R E) (S Γ h t) := by
  refine enter0C (args := ⟨[.ref a], []⟩) (binds := [("self", .ref a)]) [] [("self", some (.ref a))] c 0 r rfl (by rfl) (BindsTo.of_eq rfl) rfl rfl (by rfl) ?_ rfl rfl rfl (by decide)
  intro A' env' b0 L' h₁ t' Q he c' r' back
  walk_at "m:go"
  obtain ⟨dx, ch, od, xs, t1, t2, t3, hx, hd, _⟩ := hn.fields
  refine xgetSlot c' hx hd (sg_212_expr _) rfl rfl fun t4 => ?_
  obtain ⟨C, sl, ni, tn, hx2, O, _, _, hnG, hnS⟩ := (gr _ hk).inst (w := Γ.w)
  obtain ⟨od2, v2, hd2, _⟩ := oa _ hk
  refine xgetSlot c' hx2 hd2 hnG hnS rfl fun t5 => ?_
  exact (back _ _ ⟨_, _, c', fun cc => q _ _ _ cc⟩).1
set_option maxRecDepth 100000
theorem pn_pg (w : World) : plainGet (KK w) 212 (Str.ofString "expr_name") = true := by kernel_rfl
theorem pn_hd (w : World) : (clsIn (KK w) 212).isSome = true := by kernel_rfl
theorem pn_fi (w : World) : findIn (KK w) (.ref 212) (Str.ofString "expr_name") = some (some (.ref 158)) := by kernel_rfl
theorem pn_sp (w : World) : specialIn (KK w) (.ref 158) "__get__" = some (some (.builtin "property.__get__")) := by kernel_rfl
theorem pn_tk (w : World) : takesIn (KK w) (.ref 158) = some true := by kernel_rfl
theorem pn_rc (w : World) : ∃ rest, recIn (KK w) 158 "property" = some (.ref 157 :: rest) := ⟨_, rfl⟩
set_option maxRecDepth 512
theorem Room.in1 {A : Around} {n : Nat} (r : Room A (n + 1)) : Room A.in1 n := by
  obtain ⟨a, b⟩ := r
  exact ⟨by show A.depth + n ≤ 900; omega, by show A.units + 1 + 16 * n ≤ 9000; omega⟩
theorem xexprName {X : List Addr} {tr : Tree} {a : Addr} {oi : Oi} {ex : Bool} {Q : Value → Shared → Prop} (c : Fx Γ A env outer h₀ L h l nw) (r : Room A 2) (hn : NodeAt X nw g.rs g.tx tr a) (hk : tr.k < g.n) (gr : GrAt nw g) (oa : OidsAt nw g oi)
    (q : ∀ h' t' u, Fx Γ A env outer h₀ L h' l nw → Q (.str (g.nm tr.k) u) (S Γ h' t')) : wpAny (model PG Γ.w) A (getAttr (.ref a) (Str.ofString "expr_name") ex) Q E (S Γ h t) := by
  obtain ⟨dx, ch, od, xs, t1, t2, t3, hx, hd, _⟩ := hn.fields
  obtain ⟨rest, hr⟩ := pn_rc Γ.w
  have c1 : Fx Γ A.in1 env outer h₀ L h l nw := { c with hA := c.hA, hh := c.hh }
  refine get_bind (s := S Γ h t) c.XI (InstAt.of_news c.N hx hd) (plainGet_of (pn_pg _)).1 (findObj_data (pn_hd _) (pn_fi _) (pn_sp _) (pn_tk _)) (plainGet_of (pn_pg _)).2 (wpAny_call (prop_get (s := S Γ h (t + 1)) c.XI hr ?_))
  refine codeAny_mono (name_157 (R := fun v s' => wpAny (model PG Γ.w) A (handedOut v) Q E s') (E := fun _ _ => False) c1 r.in1 hn hk gr oa fun h' t' u c' => ?_) fun res s' z => ?_
  · rw [handedOut_of (by rfl)]
    exact wpAny_pure (q _ _ _ { c' with hA := c'.hA, hh := c'.hh })
  · rcases res with e | (_ | _ | _ | v)
    · exact z.elim
    all_goals exact z
end


/-! trees of a reading: parts have lower numbers -/
mutual
def TOk (len b : Nat) : Tree → Prop
  | .node k s e kids => k < b ∧ s ≤ len ∧ e ≤ len ∧ kids.length ≤ len + 4 ∧ TsOk len k kids
def TsOk (len b : Nat) : List Tree → Prop
  | [] => True
  | t :: r => TOk len b t ∧ TsOk len b r
end
theorem TsOk.snoc {len b : Nat} {t : Tree} : ∀ {ts : List Tree}, TsOk len b ts → TOk len b t → TsOk len b (ts ++ [t])
  | [], _, h => by show TsOk len b [t]; unfold TsOk; exact ⟨h, by unfold TsOk; trivial⟩
  | y :: r, h, h2 => by
    rw [List.cons_append]
    unfold TsOk at h ⊢
    exact ⟨h.1, h.2.snoc h2⟩
theorem TOk.mono {len b b' : Nat} (hb : b ≤ b') : ∀ {t : Tree}, TOk len b t → TOk len b' t
  | .node k s e kids, h => by unfold TOk at h ⊢; exact ⟨Nat.lt_of_lt_of_le h.1 hb, h.2⟩
theorem turns_tok {f : Nat → Option Tree} {least : Nat} {most : Option Nat} {len b : Nat} (hf : ∀ q x, q ≤ len → f q = some x → TOk len b x ∧ x.e ≤ len) :
    ∀ (fuel p : Nat) (ks : List Tree), p ≤ len → TsOk len b ks → TsOk len b (turns f least most len fuel p ks).2.2 ∧ (turns f least most len fuel p ks).2.2.length ≤ ks.length + fuel
  | 0, p, ks, hp, hk => ⟨hk, Nat.le_refl _⟩
  | fuel + 1, p, ks, hp, hk => by
    unfold turns
    split
    · exact ⟨hk, by show ks.length ≤ _; omega⟩
    · cases e : f p with
      | none => dsimp only; exact ⟨hk, by omega⟩
      | some x =>
        obtain ⟨h1, h2⟩ := hf p x hp e
        dsimp only
        split
        · refine ⟨hk.snoc h1, ?_⟩
          show (ks ++ [x]).length ≤ _
          rw [List.length_append]
          show ks.length + 1 ≤ _
          omega
        · obtain ⟨a, c⟩ := turns_tok hf fuel x.e (ks ++ [x]) h2 (hk.snoc h1)
          rw [List.length_append] at c
          refine ⟨a, ?_⟩
          show (turns f least most len fuel x.e (ks ++ [x])).2.2.length ≤ _
          have : [x].length = 1 := rfl
          omega
section
variable {pl : Nat → Plan} {tx : Str} {n : Nat} (hok : ∀ j, j < n → (pl j).ok j)
include hok
theorem ev_tok : ∀ (k : Nat), k < n → ∀ (p : Nat) (t : Tree), p ≤ tx.length → ev pl tx k p = some t → TOk tx.length (k + 1) t := by
  intro k
  induction k using Nat.strongRecOn with
  | _ k ih =>
    intro hk p t hp h
    have ok := hok k hk
    have low := fun j (hj : j < k) q x (hq : q ≤ tx.length) (hx : ev pl tx j q = some x) => (And.intro ((ih j hj (Nat.lt_trans hj hk) q x hq hx).mono (b' := k) hj) (ev_ok hok j (Nat.lt_trans hj hk) q x hq hx) : _ ∧ _)
    obtain ⟨ho1, ho2, ho3, ho4⟩ := ev_ok hok k hk p t hp h
    cases e : pl k with
    | word lit =>
      rw [ev_word e] at h
      split at h
      · cases h
        unfold TOk
        exact ⟨Nat.lt_succ_self _, hp, ho4, Nat.zero_le _, by unfold TsOk; trivial⟩
      · cases h
    | chain a b =>
      obtain ⟨l1, l2⟩ := (Plan.ok_lt ok).1 a b e
      rw [ev_chain e ok] at h
      cases e1 : ev pl tx a p with
      | none => rw [e1] at h; cases h
      | some x =>
        rw [e1] at h
        dsimp only at h
        obtain ⟨x1, _, _, x4, x5⟩ := low a l1 p x hp e1
        cases e2 : ev pl tx b x.e with
        | none => rw [e2] at h; cases h
        | some y =>
          rw [e2] at h
          cases h
          obtain ⟨y1, _⟩ := low b l2 x.e y x5 e2
          unfold TOk TsOk TsOk TsOk
          exact ⟨Nat.lt_succ_self _, hp, ho4, by simp, x1, y1, trivial⟩
    | choice a b =>
      obtain ⟨l1, l2⟩ := (Plan.ok_lt ok).2.1 a b e
      rw [ev_choice e ok] at h
      cases e1 : ev pl tx a p with
      | some x =>
        rw [e1] at h
        cases h
        obtain ⟨x1, _⟩ := low a l1 p x hp e1
        unfold TOk TsOk TsOk
        exact ⟨Nat.lt_succ_self _, hp, ho4, by simp, x1, trivial⟩
      | none =>
        rw [e1] at h
        dsimp only at h
        cases e2 : ev pl tx b p with
        | none => rw [e2] at h; cases h
        | some y =>
          rw [e2] at h
          cases h
          obtain ⟨y1, _⟩ := low b l2 p y hp e2
          unfold TOk TsOk TsOk
          exact ⟨Nat.lt_succ_self _, hp, ho4, by simp, y1, trivial⟩
    | look neg a =>
      rw [ev_look e ok] at h
      split at h
      · cases h
        unfold TOk
        exact ⟨Nat.lt_succ_self _, hp, ho4, Nat.zero_le _, by unfold TsOk; trivial⟩
      · cases h
    | many a least most =>
      have l1 := (Plan.ok_lt ok).2.2.2 a least most e
      rw [ev_many e ok] at h
      dsimp only at h
      split at h
      · cases h
        obtain ⟨w1, w2⟩ := turns_tok (f := fun q => ev pl tx a q) (least := least) (most := most) (len := tx.length) (b := k) (fun q x hq hx => let ⟨y1, _, _, _, y5⟩ := low a l1 q x hq hx; ⟨y1, y5⟩) (tx.length + 4) p [] hp (by unfold TsOk; trivial)
        unfold TOk
        exact ⟨Nat.lt_succ_self _, hp, ho4, by simpa using w2, w1⟩
      · cases h
end


/-! `_law_shape` -/
mutual
def ShapeAt (X : List Addr) (nw : Led) (nm : Nat → Str) : Tree → Value → Prop
  | .node k s e kids, v => ∃ (T D : Addr) (u t1 t2 : Tok) (xs : List Value), v = .ref T ∧ IsQ "tuple" nw T [.str (nm k) u, .int s t1, .int e t2, .ref D] ∧ IsQ "list" nw D xs ∧ T ∉ X ∧ D ∉ X ∧ ShapesAt X nw nm kids xs
def ShapesAt (X : List Addr) (nw : Led) (nm : Nat → Str) : List Tree → List Value → Prop
  | [], xs => xs = []
  | t :: ts, xs => ∃ v r, xs = v :: r ∧ ShapeAt X nw nm t v ∧ ShapesAt X nw nm ts r
end
section
variable {X Y : List Addr} {nw nw' : Led} {nm : Nat → Str} {W : Addr → Prop}
mutual
/-- what is written to is barred -/
theorem ShapeAt.keep (k : Keep W nw nw') (hW : ∀ a, W a → a ∈ X) : ∀ {t : Tree} {v : Value}, ShapeAt X nw nm t v → ShapeAt X nw' nm t v
  | .node _ _ _ kids, v, h => by
    unfold ShapeAt at h ⊢
    obtain ⟨T, D, u, t1, t2, xs, e, m1, m2, hT, hD, h⟩ := h
    exact ⟨T, D, u, t1, t2, xs, e, m1.keep k fun z => hT (hW _ z), m2.keep k fun z => hD (hW _ z), hT, hD, ShapesAt.keep k hW h⟩
theorem ShapesAt.keep (k : Keep W nw nw') (hW : ∀ a, W a → a ∈ X) : ∀ {ts : List Tree} {xs : List Value}, ShapesAt X nw nm ts xs → ShapesAt X nw' nm ts xs
  | [], xs, h => by unfold ShapesAt at h ⊢; exact h
  | t :: ts, xs, h => by
    unfold ShapesAt at h ⊢
    obtain ⟨a, r, e, h3, h4⟩ := h
    exact ⟨a, r, e, ShapeAt.keep k hW h3, ShapesAt.keep k hW h4⟩
end
mutual
theorem ShapeAt.less (hY : ∀ a ∈ Y, a ∈ X) : ∀ {t : Tree} {v : Value}, ShapeAt X nw nm t v → ShapeAt Y nw nm t v
  | .node _ _ _ kids, v, h => by
    unfold ShapeAt at h ⊢
    obtain ⟨T, D, u, t1, t2, xs, e, m1, m2, hT, hD, h⟩ := h
    exact ⟨T, D, u, t1, t2, xs, e, m1, m2, fun z => hT (hY _ z), fun z => hD (hY _ z), ShapesAt.less hY h⟩
theorem ShapesAt.less (hY : ∀ a ∈ Y, a ∈ X) : ∀ {ts : List Tree} {xs : List Value}, ShapesAt X nw nm ts xs → ShapesAt Y nw nm ts xs
  | [], xs, h => by unfold ShapesAt at h ⊢; exact h
  | t :: ts, xs, h => by
    unfold ShapesAt at h ⊢
    obtain ⟨a, r, e, h3, h4⟩ := h
    exact ⟨a, r, e, ShapeAt.less hY h3, ShapesAt.less hY h4⟩
end
theorem ShapesAt.snoc : ∀ {ts : List Tree} {xs : List Value} {t : Tree} {v : Value}, ShapesAt X nw nm ts xs → ShapeAt X nw nm t v → ShapesAt X nw nm (ts ++ [t]) (xs ++ [v])
  | [], xs, t, a, h, h2 => by
    unfold ShapesAt at h
    subst h
    exact ⟨a, [], rfl, h2, rfl⟩
  | y :: ts, xs, t, a, h, h2 => by
    unfold ShapesAt at h
    obtain ⟨b, r, rfl, h1, h3⟩ := h
    rw [List.cons_append, List.cons_append]
    unfold ShapesAt
    exact ⟨b, r ++ [a], rfl, h1, ShapesAt.snoc h3 h2⟩
theorem NodesAt.at {rs : Nat → Addr} {tx : Str} : ∀ {ts : List Tree} {xs : List Addr} {i : Nat} {a : Addr}, NodesAt X nw rs tx ts xs → xs[i]? = some a → ∃ t, ts[i]? = some t ∧ NodeAt X nw rs tx t a
  | [], xs, i, a, h, e => by unfold NodesAt at h; subst h; simp at e
  | y :: ts, xs, i, a, h, e => by
    unfold NodesAt at h
    obtain ⟨b, r, rfl, h1, h3⟩ := h
    cases i with
    | zero => simp at e; subst e; exact ⟨y, rfl, h1⟩
    | succ i =>
      obtain ⟨t, h5, h6⟩ := NodesAt.at (i := i) h3 (by simpa using e)
      exact ⟨t, by simpa using h5, h6⟩
theorem TsOk.at {len b : Nat} : ∀ {ts : List Tree} {i : Nat} {t : Tree}, TsOk len b ts → ts[i]? = some t → TOk len b t
  | [], i, t, h, e => by simp at e
  | y :: ts, i, t, h, e => by
    unfold TsOk at h
    cases i with
    | zero => simp at e; subst e; exact h.1
    | succ i => exact h.2.at (by simpa using e)
end
section
variable {Γ : Gm} {A : Around} {env : Env} {outer : List Env} {h₀ : Heap} {L : Addr} {h h' : Heap} {l l' : Loc} {nw : Led} {t : Nat} {E : Value → Shared → Prop} {pos : Pos} {g : Gr}
def ShapeCall (Γ : Gm) (g : Gr) (b : Nat) : Prop := ∀ {A : Around} {env : Env} {outer : List Env} {h₀ : Heap} {L : Addr} {h : Heap} {l : Loc} {nw : Led} {t : Nat} {E : Value → Shared → Prop} {oi : Oi} {tr : Tree} {a : Addr} {X : List Addr} {R : Value → Shared → Prop},
    Fx Γ A env outer h₀ L h l nw → Room A (2 * b + 4) → TOk g.tx.length b tr → NodeAt [] nw g.rs g.tx tr a → GrAt nw g → OidsAt nw g oi → (∀ x ∈ X, ∃ o, (x, o) ∈ nw) →
    (∀ h' t' v nw', Fx Γ A env outer h₀ L h' l nw' → Keep (fun _ => False) nw nw' → ShapeAt X nw' g.nm tr v → R v (S Γ h' t')) →
    wpAny (model PG Γ.w) A (call (.ref 555) [.ref a] []) R E (S Γ h t)
variable (hg : g.Ok)
include hg
set_option maxRecDepth 100000 in
set_option maxHeartbeats 8000000 in
theorem shape_of {b : Nat} (hb : b ≤ g.n) (ih : ∀ j, j < b → ShapeCall Γ g j) : ShapeCall Γ g b := by
  intro A env outer h₀ L h l nw t E oi tr a X R c r tk hn gr oa hX q
  refine enter0 (args := ⟨[.ref a], []⟩) (binds := [("node", .ref a)]) [] [("node", some (.ref a))] c (2 * b + 3) r rfl (by rfl) (BindsTo.of_eq rfl) rfl rfl (by rfl) ?_ rfl rfl rfl (by decide)
  intro A' env' b0 L' h₁ t' Q he c' r' back
  obtain ⟨k, s, e, kids⟩ := tr
  unfold TOk at tk
  obtain ⟨hk, hs, hee, hlen, tks⟩ := tk
  obtain ⟨dx, ch, od, xs, t1, t2, t3, hx, hd, _, hch, _, hkids⟩ := hn.fields
  walk_at "m:go"
  refine xexprName c' (r'.mono (by omega)) hn (Nat.lt_of_lt_of_le hk hb) gr oa fun h2 t2 u2 c2 => ?_
  walk_at "m:go"
  refine xnodeStart c2 hn fun t3 u3 => ?_
  walk_at "m:go"
  refine xnodeEnd c2 hn fun t4 u4 => ?_
  walk_at "m:go"
  refine xListComp (cl := []) (by rfl) rfl (by decide) ?_
  walk_at "m:go"
  refine xgetSlot c2 hx hd (sg_212_children _) rfl rfl fun t5 => ?_
  refine xiter_list c2 hch.w fun I h6 o6 c6 lI X6 it6 => ?_
  have hfI : ∀ p ∈ nw, p.1 ≠ I := fun p hp z => absurd (lI p hp) (by rw [z]; exact Nat.lt_irrefl _)
  refine xcompBlock c6 (by decide) rfl (fun {nw' h' t' Q E'} c k q => ?_) fun C D oC h7 t7 c7 b7 m7 lD lC => ?_
  · obtain ⟨⟨o, m, hc, hd⟩, _⟩ := it6
    exact PySem.wpAny_pyIter_listiter ⟨o, c.get (k _ m id), hc, hd⟩ q
  have hfD : ∀ p ∈ nw, p.1 ≠ D := fun p hp z => absurd (lD p (.tail _ hp)) (by rw [z]; exact Nat.lt_irrefl _)
  have hfC : ∀ p ∈ nw, p.1 ≠ C := fun p hp z => absurd (Nat.lt_trans (lD p (.tail _ hp)) lC) (by rw [z]; exact Nat.lt_irrefl _)
  have hID : D ≠ I := fun z => absurd (lD _ (.head _)) (by rw [z]; exact Nat.lt_irrefl _)
  have hIC : C ≠ I := fun z => absurd (Nat.lt_trans (lD _ (.head _)) lC) (by rw [z]; exact Nat.lt_irrefl _)
  have hDC : D ≠ C := Nat.ne_of_lt lC
  have hchm : ∃ o, (ch, o) ∈ nw := let ⟨_, n, m⟩ := hch; ⟨_, m⟩
  obtain ⟨oh, hchm⟩ := hchm
  have hl := hkids.len
  have h7 := hg.tx7
  refine xcompLoop X6 (fun i ys n => Keep (fun _ => False) nw n ∧ ShapesAt (D :: C :: I :: X) n g.nm (kids.take i) ys) rfl (by rfl) c7 b7 m7 (it6.keep (W := fun _ => False) (Keep.cons.trans Keep.cons) id id) ⟨((Keep.cons.trans Keep.cons).trans Keep.cons), rfl⟩ (by rw [List.length_map, hl]; show kids.length < 1000; omega) hIC hID hDC ?_ ?_ ?_ ?_
  · intro i n1 n2 a' ha it k
    refine it.keep k (fun z => ?_) fun z => ?_
    · rcases ha with rfl | rfl
      · exact hIC z.symm
      · exact hID z.symm
    · rcases ha with rfl | rfl
      · exact hfC _ hchm z
      · exact hfD _ hchm z
  · rintro i ys n1 n2 a' ha ⟨v1, v2⟩ k
    refine ⟨fun p hp hn => k p (v1 p hp hn) fun z => ?_, v2.keep k fun x z => ?_⟩
    · rcases ha with rfl | rfl | rfl
      · exact hfI p hp z
      · exact hfC p hp z
      · exact hfD p hp z
    · rw [show x = a' from z]
      rcases ha with rfl | rfl | rfl <;> simp
  · rintro i v ys h8 nw8 t8 hi hv hy c8 b8 m8 it8 ⟨v1, v2⟩
    refine wpAny_tests_nil ?_
    rw [if_pos rfl]
    walk_at "m:go"
    obtain ⟨x, hxx, rfl⟩ : ∃ x, xs[i]? = some x ∧ v = .ref x := by
      rw [List.getElem?_map] at hv
      obtain ⟨x, h1, h2⟩ := Option.map_eq_some_iff.mp hv
      exact ⟨x, h1, h2.symm⟩
    obtain ⟨tr, htr, hnx⟩ := NodesAt.at hkids hxx
    have v3 := hnx.kd (Kd.ofKeep (X := []) v1) (fun _ _ _ _ h => nomatch h)
    refine ih k hk c8 (r'.mono (by omega)) (tks.at htr) v3 (gr.kd (Kd.ofKeep (X := []) v1)) (oa.keep (Kd.ofKeep (X := []) v1) v1 fun _ _ => id) (X := D :: C :: I :: X) (fun x hx => ?_) fun h9 t9 v9 nw9 c9 k9 s9 => ?_
    · rcases List.mem_cons.mp hx with rfl | hx
      · obtain ⟨_, n, m⟩ := m8; exact ⟨_, m⟩
      · rcases List.mem_cons.mp hx with rfl | hx
        · obtain ⟨o, _, m, _⟩ := b8; exact ⟨o, m⟩
        · rcases List.mem_cons.mp hx with rfl | hx
          · obtain ⟨⟨o, m, _⟩, _⟩ := it8; exact ⟨o, m⟩
          · obtain ⟨o, m⟩ := hX x hx; exact ⟨o, v1 _ m id⟩
    · refine ⟨_, _, _, rfl, c9, b8.has.later c8 c9 k9 id, m8.keep k9 id, it8.keep k9 id id, v1.trans k9, ?_⟩
      rw [List.take_add_one, show kids[i]? = some tr from htr]
      exact (v2.keep k9 (fun _ z => z.elim)).snoc s9
  · rintro ys h8 nw8 t8 c8 b8 m8 ⟨v1, v2⟩
    refine comp_end c8 b8 fun h9 c9 => ?_
    walk_at "m:go"
    rename Fx _ _ _ _ _ _ _ _ _ => c10
    rename IsQ "tuple" _ _ _ => mT
    have vK : ShapesAt (D :: C :: I :: X) nw8 g.nm kids ys := by
      rw [List.length_map, hl, show (Tree.node k s e kids).kids = kids from rfl, List.take_length] at v2
      exact v2
    have nd := c10.nd
    rw [List.map_cons, List.nodup_cons] at nd
    refine (back _ _ ⟨_, _, c10, fun cc => q _ _ _ _ cc (fun p hp hn => .tail _ (List.mem_filter.mpr ⟨v1 p hp id, by simpa using hfC p hp⟩)) ?_⟩).1
    unfold ShapeAt
    refine ⟨_, D, u2, u3, u4, ys, rfl, mT, (m8.keep keep_drop hDC).cons, fun z => ?_, fun z => ?_, (vK.keep (keep_drop.more Keep.cons) fun x z => ?_).less fun x hx => ?_⟩
    · obtain ⟨o, m⟩ := hX _ z
      exact nd.1 (List.mem_map_of_mem (f := (·.1)) (List.mem_filter.mpr ⟨v1 _ m id, by simpa using hfC _ m⟩))
    · obtain ⟨o, m⟩ := hX _ z
      exact hfD _ m rfl
    · rw [show x = C from z]; simp
    · simp [hx]
theorem shape_all : ∀ b, b ≤ g.n → ShapeCall Γ g b := by
  intro b
  induction b using Nat.strongRecOn with
  | _ b ih =>
    intro hb
    exact @shape_of Γ g hg b hb fun j hj => ih j hj (Nat.le_trans (Nat.le_of_lt hj) hb)
end


/-! a def that catches, called from the law itself -/
section
variable {Γ : Gm} {A : Around} {env : Env} {outer : List Env} {h₀ : Heap} {L : Addr} {h h' : Heap} {l l' : Loc} {nw : Led} {t : Nat} {E : Value → Shared → Prop} {pos : Pos}
theorem enterT {R : Value → Shared → Prop} {name qual : Str} {params : Arguments} {body : List Stmt} {scope : Scope} {dV kV doc pm cdv ct oc : Value} {an od : Option Addr} {osl : Array (Option Value)} {f : Addr} {args : Args} {binds : List (Str × Value)} (more : List Str) (l0 : Loc)
    (c : Fx Γ A env [] h₀ L h l nw) (n : Nat) (r : Room A (n + 1))
    (ho : (KK Γ.w).lookup f = some ⟨oc, od, .func (fnOf name qual params body scope dV kV doc pm an cdv ct), osl⟩) (hcd : codeIn (KK Γ.w) cdv qual = true)
    (hbind : BindsTo (S Γ h t) (fnOf name qual params body scope dV kV doc pm an cdv ct) args binds) (hl0 : (binds.map fun p => (p.1, some p.2)) ++ nones more = l0) (hloc : (binds.all fun y => decide (scope.names.lookup y.1 = some .local)) = true)
    (hnd : decide ((binds.map (·.1) ++ more).Nodup) = true)
    (k : ∀ A' env' g L' h₁ t' (Q : Flow → Shared → Prop), env' = envOf qual scope L' f cdv → Fr h₀ L g (mp l) →
      Fx Γ A' env' [env] g L' h₁ l0 nw → Room A' n → (∀ v s', R v s' → Q (.ret v) s') →
      wpAny (model PG Γ.w) A' (execs body env') Q (fun _ _ => False) (S Γ h₁ t'))
    (hco : scope.isCoroutine = false := by rfl) (hgen : scope.isGenerator = false := by rfl) (hk : scope.kind = .function := by rfl)
    (hcell : ∀ x ∈ scope.names, x.2 ≠ .cell := by decide) : wpAny (model PG Γ.w) A (call (.ref f) args.pos args.kw) R E (S Γ h t) := by
  have hnd := of_decide_eq_true hnd
  have hnb : (binds.map (·.1)).Nodup := (List.nodup_append.mp hnd).1
  obtain ⟨A₀, B⟩ := c.B
  obtain ⟨FG, BG, st, _⟩ := groundX (R := RV R E) (s := S Γ h t) B c.F c.N c.hA c.hf c.hk
  refine wpAny_call (codeAny_call_def (fd := fnX name qual params body scope [] dV kV doc pm an cdv ct) (body := body) (binds := binds) r.depth (c.XI _ _ ho) rfl (c.T.nolimit.keeps c.F.keep) (codeRec_of c.XI hcd) rfl hbind hcell (locs hloc) (fun h₁ hns hk₁ => ?_) hco hgen hk)
  have hm : mp ((binds.map fun p => (p.1, some p.2)) ++ nones more) = fun y => binds.reverse.lookup y := by
    rw [mp_nones, mp_binds]; funext y; exact (lookup_rev hnb y).symm
  have c0 : Fx Γ (A.deeper (envOf qual scope h.objs.size f cdv)) (envOf qual scope h.objs.size f cdv) [env] (hideAll h (nw.map (·.1))) h.objs.size h₁ l0 nw := by
    rw [← hl0]
    refine ⟨⟨_, BG⟩, by rw [hm]; exact ⟨hns, fun b o e => hk₁ b o (of_hideAll _ e), Nat.le_of_eq (hideAll_size _ _)⟩, c.X.keeps st, fun p hp => ⟨hk₁ _ _ (c.N p hp).1, Nat.ne_of_lt (Heap.lt_size (c.N p hp).1), hideAll_none _ (List.mem_map_of_mem hp)⟩, c.T.keeps st, Around.frames_deeper c.hA, c.hh, rfl, hk, rfl, rfl, rfl, c.nd, ?_, c.hi⟩
    rw [List.map_append, List.map_map]
    have : (nones more).map (·.1) = more := by unfold nones; rw [List.map_map]; exact List.map_id' more
    rw [this]; exact hnd
  refine wpAny_mono (k _ _ (hideAll h (nw.map (·.1))) h.objs.size h₁ _ (fun fl s' => RV R E (.ok (.ret (match fl with | .ret v => v | _ => .none))) s') rfl FG c0 (r.deeper _) fun v s' z => z) (fun fl s' z => z) fun _ _ z => z.elim
/-- back from a def that ended -/
theorem Fx.back {A' : Around} {env' : Env} {g h2 : Heap} {L' : Addr} {l2 : Loc} {nw2 : Led} (c : Fx Γ A env [] h₀ L h l nw) (FG : Fr h₀ L g (mp l)) (c2 : Fx Γ A' env' [env] g L' h2 l2 nw2) : Fx Γ A env [] h₀ L h2 l nw2 := by
  obtain ⟨oL, es, ep, hL, r⟩ := FG.ns
  exact { c with
    F := ⟨⟨oL, es, ep, c2.F.keep _ _ hL, r⟩, fun b o q => c2.F.keep _ _ (FG.keep b o q), FG.above⟩
    N := fun p hp => ⟨(c2.N p hp).1, fun z => (by have := (c2.N p hp).2.2; rw [z, hL] at this; cases this), by
      cases z : h₀.get? p.1 with
      | none => rfl
      | some o => have := FG.keep _ _ z; rw [(c2.N p hp).2.2] at this; cases this⟩
    nd := c2.nd
    hi := c2.hi }
/-- an own exception lands -/
theorem Fx.land {env' : Env} {g h3 : Heap} {L' e : Addr} {nw2 : Led} {B : Heap} {a0 : Value} (c : Fx Γ A env [] h₀ L h l nw) (FG : Fr h₀ L g (mp l)) (hf' : env'.frame = some L') (gL : g.objs.size ≤ L')
    (up : g.UpToSlots h3) (fly : Heap.FlyingW B (env' :: [env]) e (.ref 94) a0 h3) (hB : ∀ b o, g.get? b = some o → b ∉ frs (env' :: [env]) → B.get? b = some o) (hN : ∀ q ∈ nw2, B.get? q.1 = some q.2)
    (led : ∀ q ∈ nw2, q.1 ≠ L' ∧ g.get? q.1 = none ∧ 3 < q.1) (nd : (nw2.map (·.1)).Nodup) : Fx Γ A env [] h₀ L h3 l nw2 := by
  have hLg := FG.ns
  obtain ⟨oL, es, ep, hL, r⟩ := FG.ns
  exact { c with
    F := ⟨up.ns hLg, fun b o q => fly.1 _ _ (hB _ _ (FG.keep b o q) fun hm => by
      have e2 : frs (env' :: [env]) = [L', L] := by unfold frs; simp [hf', c.hf]
      rw [e2] at hm
      rcases List.mem_cons.mp hm with z | hm
      · have := Heap.lt_size (FG.keep b o q)
        rw [z] at this
        exact absurd (Nat.lt_of_lt_of_le this gL) (Nat.lt_irrefl _)
      · rw [List.mem_singleton] at hm
        have := Heap.lt_size q
        rw [hm] at this
        exact absurd (Nat.lt_of_lt_of_le this FG.above) (Nat.lt_irrefl _)), FG.above⟩
    N := fun p hp => ⟨fly.1 _ _ (hN p hp), fun z => (by have := (led p hp).2.1; rw [z, hL] at this; cases this), by
      cases z : h₀.get? p.1 with
      | none => rfl
      | some o => have := FG.keep _ _ z; rw [(led p hp).2.1] at this; cases this⟩
    nd := nd
    hi := fun p hp => (led p hp).2.2 }
end
theorem xMethodK {M : Model} {A : Around} {E : Value → Shared → Prop} {env : Env} {s : Shared} {o : Expr} {name : Str} {apos pos : Pos} {args : List Expr} {kws : List Keyword} {pl : Sem Bool} {Q : Value → Shared → Prop}
    (h : wpAny M A (eval o env) (fun ov s₁ => wpAny M A (getMethod ov name pl) (fun fx s₂ => wpAny M A (callWith pos fx.1 fx.2 (backTo pos (starEach args env)) (backToKw pos (keywordEach kws env))) Q E s₂) E s₁) E s)
    (he : eval (.Call (.Attribute o name apos) args kws pos) env = (do
      let ov ← eval o env
      standAt apos.atName
      let (f, first) ← holding [ov] (getMethod ov name pl)
      callWith pos f first (backTo pos (starEach args env)) (backToKw pos (keywordEach kws env))) := by rfl) :
    wpAny M A (eval (.Call (.Attribute o name apos) args kws pos) env) Q E s := by
  rw [he]
  refine wpAny_bind (wpAny_mono h (fun ov s₁ h₁ => wpAny_bind (wpAny_standAt (wpAny_bind (wpAny_holding (wpAny_mono h₁ (fun fx s₂ h₂ => ?_) fun _ _ x => x))))) fun _ _ x => x)
  exact h₂
set_option maxRecDepth 100000 in
theorem kf_259 (w : World) : keepIn (KK w) (.ref 259) = true := by kernel_rfl


section
variable {Γ : Gm} {A : Around} {env : Env} {outer : List Env} {h₀ : Heap} {L : Addr} {h h' : Heap} {l l' : Loc} {nw nw' : Led} {t : Nat} {E : Value → Shared → Prop} {pos : Pos} {g : Gr} {ca er dE : Addr} {cs : CS} {oi : Oi} {B : Nat} {M : Memo}
variable (hg : g.Ok)
include hg
set_option maxRecDepth 100000 in
set_option maxHeartbeats 8000000 in
theorem fresh_ok {k p : Nat} {tt tp : Tok} {X : List Addr} {R : Value → Shared → Prop} (hk : k < g.n) (c : Fx Γ A env [] h₀ L h l nw) (r : Room A 40) (s : LSt Γ nw g ca cs oi B M) (hp : p ≤ g.tx.length) (hB : B ≤ 890) (hX : ∀ x ∈ X, ∃ o, (x, o) ∈ nw ∧ notDict o)
    (q : ∀ h' t' D xs nw' oi', Fx Γ A env [] h₀ L h' l nw' → LSt Γ nw' g ca cs oi' (B + 2) M → Kd [] nw nw' → Keep (DX g) nw nw' → IsQ "list" nw' D xs → D ∉ X → ShapesAt X nw' g.nm (ev g.pl g.tx k p).toList xs → R (.ref D) (S Γ h' t')) :
    wpAny (model PG Γ.w) A (call (.ref 567) [.ref (g.rs k), .str g.tx tt, .int p tp] []) R E (S Γ h t) := by
  refine enterT (args := ⟨[.ref (g.rs k), .str g.tx tt, .int p tp], []⟩) (binds := [("rule", .ref (g.rs k)), ("text", .str g.tx tt), ("place", .int p tp)]) [] [("rule", some (.ref (g.rs k))), ("text", some (.str g.tx tt)), ("place", some (.int p tp))] c 39 r rfl (by rfl) (BindsTo.of_eq rfl) rfl rfl (by rfl) ?_ rfl rfl rfl (by decide)
  intro A' env' b0 L' h₁ t' Q he FG c' r' back
  refine wpAny_execs_cons ?_
  refine wpAny_Try_except ?_
  walk_at "m:go"
  refine xMethodK ?_
  walk_at "m:go"
  refine LSt.matchM c' s hk ?_
  dsimp only
  walk_at "m:go"
  refine ⟨kp_f c' (kf_259 _), ?_⟩
  refine match_ok hg hk c' (r'.mono (by omega)) s hp hB (fun tr h2 t2 x nw2 oi2 hev c2 s2 hn2 kd2 k2 => ?_) (fun e h2 t2 nw2 oi2 hev fl s2 kd2 k2 => ?_)
  · walk_at "m:go"
    obtain ⟨htk, _⟩ := ev_ok hg.ok k hk p tr hp hev
    refine shape_all hg g.n (Nat.le_refl _) c2 (r'.mono (by have := hg.n8; omega)) ((ev_tok hg.ok k hk p tr hp hev).mono (Nat.succ_le_of_lt hk)) hn2 s2.gr s2.oids (X := X) (fun x hx => ?_) fun h3 t3 v3 nw3 c3 k3 s3 => ?_
    · obtain ⟨o, m, n⟩ := hX x hx
      exact ⟨o, kd2.1 _ m n fun z => nomatch z.1⟩
    · walk_at "m:go"
      rename Fx _ _ _ _ _ _ _ _ _ => c4
      rename IsQ "list" _ _ _ => m4
      have nd := c4.nd
      rw [List.map_cons, List.nodup_cons] at nd
      refine back _ _ (q _ _ _ [v3] _ oi2 (c.back FG c4) (s2.ofKeep (k3.trans Keep.cons)) (kd2.trans (Kd.ofKeep (k3.trans Keep.cons))) (k2.more (k3.trans Keep.cons)) m4 (fun z => ?_) ?_)
      · obtain ⟨o, m, n⟩ := hX _ z
        exact nd.1 (List.mem_map_of_mem (f := (·.1)) (k3 _ (kd2.1 _ m n fun z => nomatch z.1) id))
      · rw [hev]
        exact ⟨v3, [], rfl, s3.keep (W := fun _ => False) Keep.cons (fun _ z => z.elim), rfl⟩
  · obtain ⟨⟨B', a0, fly, hB', hN'⟩, up, led, nd⟩ := fl
    refine wpAny_looks_onW c'.hA c'.hf fly fun h4 held4 up4 => ?_
    refine wpAny_landsW held4 fun h5 fly5 up5 => ?_
    have c5 : Fx Γ A env [] h₀ L h5 l nw2 := c.land FG c'.hf c'.F.above ((up.trans up4).trans up5) fly5 hB' hN' led nd
    obtain ⟨nm, qn, N, bs, bm, hdct, sn, sub, ab, col, dd, x0, x1, x2, x3, x5, newId, e94, hbase⟩ := cls_94 Γ.w
    obtain ⟨ob, hob, hobc⟩ := fly5.there
    refine wpAny_handleBy_cons (codeAny_handlers_test ?_) (by intro z; cases z)
    refine Name_function_global c'.hk (kd he (by rfl)) (loadGlobal_global (by rw [c'.glo]; exact c5.T.g.keeps c5.F.keep) (mg_of c5.X c5.T.g (gn_ParseError _)) ?_) (by decide)
    refine wpAny_excMatches_sub_self (c5.XI 94 _ e94) hob hobc hbase ?_
    refine codeAny_handlers_suite ?_
    refine lands_againW fly5 fun h6 fly6 up6 => ?_
    have c6 : Fx Γ A env [] h₀ L h6 l nw2 := c.land FG c'.hf c'.F.above (((up.trans up4).trans up5).trans up6) fly6 hB' hN' led nd
    have c7 := c6.push (seqO "list" [] 0)
    have fin := back (.ref h6.objs.size) (S Γ (h6.push (seqO "list" [] 0)) t2) (q _ _ _ [] _ oi2 c7 (s2.ofKeep Keep.cons) (kd2.trans Kd.cons) (k2.more Keep.cons) ⟨by simp, 0, .head _⟩ (fun z => ?_) (by rw [hev]; rfl))
    · walk_at "m:go"
      unfold newList
      exact wpAny_newObj_type fin
    · obtain ⟨o, m, n⟩ := hX _ z
      exact absurd (c6.lt (kd2.1 _ m n fun z => nomatch z.1)) (Nat.lt_irrefl _)
end


/-! two shapes of one tree are equal -/
section
variable {Γ : Gm} {env : Env} {outer : List Env} {h₀ : Heap} {L : Addr} {h h' : Heap} {l l' : Loc} {nw : Led} {t : Nat} {X : List Addr} {nm : Nat → Str} {len : Nat}
theorem IsQ.tup {A0 : Around} (c : Fx Γ A0 env outer h₀ L h l nw) {a : Addr} {xs : List Value} (m : IsQ "tuple" nw a xs) : h.IsTuple a xs.toArray := let ⟨_, n, m⟩ := m; ⟨_, c.get m, rfl, n, rfl⟩
mutual
theorem shape_eq {A0 : Around} (c : Fx Γ A0 env outer h₀ L h l nw) : ∀ (tr : Tree) {A : Around} {b : Nat} {v v' : Value}, TOk len b tr → A.units + 2 * b + 2 ≤ 9800 → ShapeAt X nw nm tr v → ShapeAt X nw nm tr v' → PySem.SeqAt.EqAt A (S Γ h t) v v' true
  | .node k s e kids, A, b, v, v', tk, hu, h1, h2 => by
    unfold ShapeAt at h1 h2
    unfold TOk at tk
    obtain ⟨T, D, u, t1, t2, xs, rfl, m1, m2, _, _, hs⟩ := h1
    obtain ⟨T', D', u', t1', t2', xs', rfl, m1', m2', _, _, hs'⟩ := h2
    by_cases hT : T = T'
    · subst hT; exact PySem.SeqAt.EqAt.same _
    · refine PySem.SeqAt.EqAt.of_refs hT ?_
      have := PySem.SeqAt.RcAt.tuples (A := A) (s := S Γ h t) (e := fun _ => true) (m1.tup c) (m1'.tup c) (show A.units < 9900 by omega) fun j j1 j2 => ?_
      · exact this
      · match j, j1, j2 with
        | 0, _, _ =>
          have := PySem.SeqAt.EqAt.str_str (A := A.in1) (s := S Γ h t) (nm k) u (nm k) u'
          simpa using this
        | 1, _, _ =>
          have := PySem.SeqAt.EqAt.int_int (A := A.in1) (s := S Γ h t) s t1 s t1'
          simpa using this
        | 2, _, _ =>
          have := PySem.SeqAt.EqAt.int_int (A := A.in1) (s := S Γ h t) e t2 e t2'
          simpa using this
        | 3, _, _ =>
          show PySem.SeqAt.EqAt A.in1 (S Γ h t) (.ref D) (.ref D') true
          by_cases hD : D = D'
          · subst hD; exact PySem.SeqAt.EqAt.same _
          · refine PySem.SeqAt.EqAt.of_refs hD ?_
            obtain ⟨e1, e2⟩ := shapes_eq c kids (A := A.in1.in1) tk.2.2.2.2 (show A.units + 1 + 1 + 2 * k + 2 ≤ 9800 by omega) hs hs'
            have := PySem.SeqAt.RcAt.lists (A := A.in1) (s := S Γ h t) (e := fun _ => true) (m2.w.isList c) (m2'.w.isList c) (by simpa using e1) (show A.units + 1 < 9900 by omega) fun j j1 j2 => by
              simpa using e2 j (by simpa using j1) (by simpa using j2)
            rw [show ((List.range xs.toArray.size).all fun _ => true) = true from List.all_eq_true.mpr fun _ _ => rfl] at this
            exact this
theorem shapes_eq {A0 : Around} (c : Fx Γ A0 env outer h₀ L h l nw) : ∀ (ts : List Tree) {A : Around} {b : Nat} {xs xs' : List Value}, TsOk len b ts → A.units + 2 * b + 2 ≤ 9800 → ShapesAt X nw nm ts xs → ShapesAt X nw nm ts xs' →
    xs.length = xs'.length ∧ ∀ j (j1 : j < xs.length) (j2 : j < xs'.length), PySem.SeqAt.EqAt A (S Γ h t) xs[j] xs'[j] true
  | [], A, b, xs, xs', _, _, h1, h2 => by
    unfold ShapesAt at h1 h2
    subst h1 h2
    exact ⟨rfl, fun j j1 => by simp at j1⟩
  | y :: ts, A, b, xs, xs', tk, hu, h1, h2 => by
    unfold ShapesAt at h1 h2
    unfold TsOk at tk
    obtain ⟨v, r, rfl, a1, a2⟩ := h1
    obtain ⟨v', r', rfl, b1, b2⟩ := h2
    obtain ⟨e1, e2⟩ := shapes_eq c ts tk.2 hu a2 b2
    refine ⟨by simp [e1], fun j j1 j2 => ?_⟩
    cases j with
    | zero => exact shape_eq c y tk.1 hu a1 b1
    | succ j => exact e2 j (by simpa using j1) (by simpa using j2)
end
end


/-! pairs of ints -/
def PairAt (nw : Led) (p : Int × Int) (v : Value) : Prop := ∃ T t1 t2, v = .ref T ∧ IsQ "tuple" nw T [.int p.1 t1, .int p.2 t2]
theorem PairAt.kd {X : List Addr} {nw nw' : Led} {p : Int × Int} {v : Value} (h : PairAt nw p v) (k : Kd X nw nw') : PairAt nw' p v :=
  let ⟨T, t1, t2, e, m⟩ := h; ⟨T, t1, t2, e, m.kdT k⟩
theorem PairAt.keep {W : Addr → Prop} {nw nw' : Led} {p : Int × Int} {v : Value} (h : PairAt nw p v) (k : Keep W nw nw') (hW : ∀ {a xs}, IsQ "tuple" nw a xs → ¬ W a) : PairAt nw' p v :=
  let ⟨T, t1, t2, e, m⟩ := h; ⟨T, t1, t2, e, m.keep k (hW m)⟩
section
variable {Γ : Gm} {env : Env} {outer : List Env} {h₀ : Heap} {L : Addr} {h h' : Heap} {l l' : Loc} {nw : Led} {t : Nat}
theorem pair_eq {A0 A : Around} (c : Fx Γ A0 env outer h₀ L h l nw) {p p' : Int × Int} {v v' : Value} (hu : A.units ≤ 9800) (m : PairAt nw p v) (m' : PairAt nw p' v') : PySem.SeqAt.EqAt A (S Γ h t) v v' (p == p') := by
  obtain ⟨T, t1, t2, rfl, m⟩ := m
  obtain ⟨T', t1', t2', rfl, m'⟩ := m'
  by_cases hT : T = T'
  · subst hT
    obtain ⟨_, n, x⟩ := m
    obtain ⟨_, n', x'⟩ := m'
    have e := c.uniq x x'
    have e := congrArg Obj.data e
    injection e with e _
    have e := congrArg Array.toList e
    simp only [List.cons.injEq, Value.int.injEq, and_true] at e
    rw [show (p == p') = true from beq_iff_eq.mpr (Prod.ext e.1.1 e.2.1)]
    exact PySem.SeqAt.EqAt.same _
  · refine PySem.SeqAt.EqAt.of_refs hT ?_
    have := PySem.SeqAt.RcAt.tuples (A := A) (s := S Γ h t) (e := fun j => if j = 0 then p.1 == p'.1 else p.2 == p'.2) (m.tup c) (m'.tup c) (show A.units < 9900 by omega) fun j j1 j2 => ?_
    · have e : ((List.range (min [Value.int p.1 t1, .int p.2 t2].toArray.size [Value.int p'.1 t1', .int p'.2 t2'].toArray.size)).all (fun j => if j = 0 then p.1 == p'.1 else p.2 == p'.2) && [Value.int p.1 t1, .int p.2 t2].toArray.size == [Value.int p'.1 t1', .int p'.2 t2'].toArray.size) = (p == p') := by
        show (((if 0 = 0 then p.1 == p'.1 else p.2 == p'.2) && ((if 1 = 0 then p.1 == p'.1 else p.2 == p'.2) && true)) && true) = ((p.1 == p'.1) && (p.2 == p'.2))
        simp
      rw [e] at this
      exact this
    · match j, j1, j2 with
      | 0, _, _ => exact PySem.SeqAt.EqAt.int_int (A := A.in1) (s := S Γ h t) p.1 t1 p'.1 t1'
      | 1, _, _ => exact PySem.SeqAt.EqAt.int_int (A := A.in1) (s := S Γ h t) p.2 t2 p'.2 t2'
end


/-! `y = [.. for x in ..]` -/
section
variable {Γ : Gm} {A : Around} {env : Env} {outer : List Env} {h₀ : Heap} {L : Addr} {h h' : Heap} {l l' : Loc} {nw : Led} {t : Nat} {E : Value → Shared → Prop} {pos : Pos}
theorem xAssignComp {elt iter : Expr} {x y : Str} {px py : Pos} {ifs : List Expr} {scope : Scope} {cl : List (Str × Addr)} {spos : Pos} {Q : Flow → Shared → Prop} {s : Shared}
    (hsw : swapsWith (.ListComp elt [⟨.Name x px, iter, ifs, 0⟩] scope pos) (some (.Name y py)) spos.line env = pure true)
    (hclos : closureFor scope env = pure cl) (hkind : scope.kind = .function) (hnames : ∀ z ∈ scope.names, z.2 = .local → scope.names.lookup z.1 = some .local)
    (hq : wpAny (model PG Γ.w) A (eval iter env) (fun xv s₁ => wpAny (model PG Γ.w) A (pyIter xv) (fun it s₂ => wpAny (model PG Γ.w) A (newList []) (fun acc s₃ => wpAny (model PG Γ.w) A (newFunctionEnv scope env.globals cl [] env.qual none .none (some env)) (fun cenv s₄ =>
      codeAny (model PG Γ.w) A (.compStart (.ListComp elt [⟨.Name x px, iter, ifs, 0⟩] scope pos) 0 it acc { cenv with scope := relabel scope env }) (compPost (model PG Γ.w) A E (some (assign (.Name y py) env)) (fun _ s' => Q .next s') acc cenv.locals) s₄) E s₃) E s₂) E s₁) E s)
    (hs : ∀ x, foldedSetIterable iter env x = pure x := by intro _; rfl) : wpAny (model PG Γ.w) A (exec (.Assign [.Name y py] (.ListComp elt [⟨.Name x px, iter, ifs, 0⟩] scope pos) spos) env) Q E s := by
  rw [exec_Assign_Name_used _ _ _ _ hsw]
  refine wpAny_bind (wpAny_standAt (wpAny_bind ?_))
  show wpAny _ A (do let _ ← comprehension (.ListComp elt [⟨.Name x px, iter, ifs, 0⟩] scope pos) scope env _ (newList []) false (eval iter env) (some (assign (.Name y py) env))) _ _ s
  exact wpAny_bind (wpAny_mono (wpAny_comprehension_free (use := some (assign (.Name y py) env)) (Q := fun _ s' => Q .next s') rfl hs hclos hkind hnames hq) (fun _ s' hq => wpAny_pure (wpAny_pure hq)) fun _ _ e => e)
/-- the list goes to its name, then its block goes -/
theorem comp_endA {Q : Value → Shared → Prop} {acc : Value} {C : Addr} {y : Str} {py : Pos} (c : Fx Γ A env outer h₀ L h l nw) (b : HasBlk h nw C)
    (q : wpAny (model PG Γ.w) A (storeName env y acc) (fun _ s' => ∃ h1 t1 l1, s' = S Γ h1 t1 ∧ Fx Γ A env outer h₀ L h1 l1 nw ∧ ∀ h2, Fx Γ A env outer h₀ L h2 l1 (nw.filter fun p => p.1 != C) → Q .none (S Γ h2 t1)) E (S Γ h t)) :
    compPost (model PG Γ.w) A E (some (assign (.Name y py) env)) Q acc C (.ok .next) (S Γ h t) := by
  show wpAny _ A (assign (.Name y py) env acc) _ _ _
  refine wpAny_assign_Name (wpAny_mono q (fun _ s' z => ?_) fun _ _ z => z)
  obtain ⟨h1, t1, l1, rfl, c1, k⟩ := z
  have b1 := b.later c c1 (Keep.refl (W := fun _ => False)) id
  obtain ⟨oC, m, mC, nC⟩ := b1
  exact ⟨m, nC, fun h' sb => k h' (c1.ext mC sb.extBut)⟩
end


section
variable {pl : Nat → Plan} {tx : Str} {n : Nat} (hok : ∀ j, j < n → (pl j).ok j) {k p : Nat} {t : Tree}
include hok
/-- how a reading is parted -/
theorem ev_choice_kids {a b : Nat} (hk : k < n) (hp : p ≤ tx.length) (e : pl k = .choice a b) (h : ev pl tx k p = some t) : ∃ x, t.kids = [x] ∧ x.s = t.s ∧ x.e = t.e := by
  have ok := hok k hk
  obtain ⟨l1, l2⟩ := (Plan.ok_lt ok).2.1 a b e
  rw [ev_choice e ok] at h
  cases e1 : ev pl tx a p with
  | some x =>
    rw [e1] at h
    cases h
    exact ⟨x, rfl, (ev_ok hok a (Nat.lt_trans l1 hk) p x hp e1).2.1, rfl⟩
  | none =>
    rw [e1] at h
    dsimp only at h
    cases e2 : ev pl tx b p with
    | none => rw [e2] at h; cases h
    | some y =>
      rw [e2] at h
      cases h
      exact ⟨y, rfl, (ev_ok hok b (Nat.lt_trans l2 hk) p y hp e2).2.1, rfl⟩
theorem ev_chain_kids {a b : Nat} (hk : k < n) (hp : p ≤ tx.length) (e : pl k = .chain a b) (h : ev pl tx k p = some t) : ∃ x y, t.kids = [x, y] ∧ x.s = t.s ∧ x.e = y.s ∧ y.e = t.e := by
  have ok := hok k hk
  obtain ⟨l1, l2⟩ := (Plan.ok_lt ok).1 a b e
  rw [ev_chain e ok] at h
  cases e1 : ev pl tx a p with
  | none => rw [e1] at h; cases h
  | some x =>
    rw [e1] at h
    dsimp only at h
    obtain ⟨_, x2, _, x4⟩ := ev_ok hok a (Nat.lt_trans l1 hk) p x hp e1
    cases e2 : ev pl tx b x.e with
    | none => rw [e2] at h; cases h
    | some y =>
      rw [e2] at h
      cases h
      exact ⟨x, y, rfl, x2, (ev_ok hok b (Nat.lt_trans l2 hk) x.e y x4 e2).2.1.symm, rfl⟩
theorem ev_word_kids {lit : Str} (e : pl k = .word lit) (h : ev pl tx k p = some t) : t.kids = [] := by
  rw [ev_word e] at h
  split at h
  · cases h; rfl
  · cases h
theorem ev_look_kids {neg : Bool} {a : Nat} (hk : k < n) (e : pl k = .look neg a) (h : ev pl tx k p = some t) : t.kids = [] := by
  rw [ev_look e (hok k hk)] at h
  split at h
  · cases h; rfl
  · cases h
theorem ev_many_kids {a least : Nat} {most : Option Nat} (hk : k < n) (hp : p ≤ tx.length) (e : pl k = .many a least most) (h : ev pl tx k p = some t) : linked t.s t.kids t.e ∧ least ≤ t.kids.length ∧ ∀ m, most = some m → t.kids.length ≤ m := by
  have ok := hok k hk
  have l1 := (Plan.ok_lt ok).2.2.2 a least most e
  rw [ev_many e ok] at h
  dsimp only at h
  split at h
  · rename_i hl
    cases h
    obtain ⟨_, _, _, w4, w5⟩ := turns_ok (f := fun q => ev pl tx a q) (least := least) (most := most) (len := tx.length) (p0 := p) (fun q x hq hx => let ⟨_, y2, y3, y4⟩ := ev_ok hok a (Nat.lt_trans l1 hk) q x hq hx; ⟨y2, y3, y4⟩) (tx.length + 4) p [] hp rfl fun m _ => Nat.zero_le _
    exact ⟨w4, hl, w5⟩
  · cases h
end


/-! `_law_parted` -/
section
variable {Γ : Gm} {A : Around} {env : Env} {outer : List Env} {h₀ : Heap} {L : Addr} {h h' : Heap} {l l' : Loc} {nw : Led} {t : Nat} {E : Value → Shared → Prop} {pos : Pos} {g : Gr}
/-- begin and end of each part, as a list of pairs -/
def EndsAt (X : List Addr) (nw : Led) : List Tree → List Value → Prop
  | [], xs => xs = []
  | t :: ts, xs => ∃ (T : Addr) (r : List Value) (t1 t2 : Tok), xs = .ref T :: r ∧ IsQ "tuple" nw T [.int t.s t1, .int t.e t2] ∧ T ∉ X ∧ EndsAt X nw ts r
theorem EndsAt.keep {X : List Addr} {nw nw' : Led} {W : Addr → Prop} (k : Keep W nw nw') (hW : ∀ a, W a → a ∈ X) : ∀ {ts : List Tree} {xs : List Value}, EndsAt X nw ts xs → EndsAt X nw' ts xs
  | [], _, h => h
  | _ :: _, _, ⟨T, r, t1, t2, e, m, hT, h⟩ => ⟨T, r, t1, t2, e, m.keep k fun z => hT (hW _ z), hT, EndsAt.keep k hW h⟩
theorem EndsAt.less {X Y : List Addr} {nw : Led} (hY : ∀ a ∈ Y, a ∈ X) : ∀ {ts : List Tree} {xs : List Value}, EndsAt X nw ts xs → EndsAt Y nw ts xs
  | [], _, h => h
  | _ :: _, _, ⟨T, r, t1, t2, e, m, hT, h⟩ => ⟨T, r, t1, t2, e, m, fun z => hT (hY _ z), EndsAt.less hY h⟩
theorem EndsAt.snoc {X : List Addr} {nw : Led} {T : Addr} {tr : Tree} {t1 t2 : Tok} (m : IsQ "tuple" nw T [.int tr.s t1, .int tr.e t2]) (hT : T ∉ X) : ∀ {ts : List Tree} {xs : List Value}, EndsAt X nw ts xs → EndsAt X nw (ts ++ [tr]) (xs ++ [.ref T])
  | [], xs, h => by obtain rfl : xs = [] := h; exact ⟨T, [], t1, t2, rfl, m, hT, rfl⟩
  | _ :: _, _, ⟨T', r, u1, u2, e, m', hT', h⟩ => by subst e; exact ⟨T', _, u1, u2, rfl, m', hT', EndsAt.snoc m hT h⟩
theorem EndsAt.len {X : List Addr} {nw : Led} : ∀ {ts : List Tree} {xs : List Value}, EndsAt X nw ts xs → ts.length = xs.length
  | [], xs, h => by obtain rfl : xs = [] := h; rfl
  | _ :: _, _, ⟨_, _, _, _, e, _, _, h⟩ => by subst e; simp [EndsAt.len h]
theorem EndsAt.at {X : List Addr} {nw : Led} : ∀ {ts : List Tree} {xs : List Value} {i : Nat} {v : Value}, EndsAt X nw ts xs → xs[i]? = some v → ∃ T t t1 t2, ts[i]? = some t ∧ v = .ref T ∧ IsQ "tuple" nw T [.int t.s t1, .int t.e t2]
  | [], xs, i, v, h, e => by obtain rfl : xs = [] := h; simp at e
  | y :: _, _, i, v, ⟨T, r, t1, t2, e0, m, _, h⟩, e => by
    subst e0
    cases i with
    | zero => simp at e; exact ⟨T, y, t1, t2, rfl, e.symm, m⟩
    | succ i =>
      obtain ⟨T', t, u1, u2, h1, h2, h3⟩ := EndsAt.at (i := i) h (by simpa using e)
      exact ⟨T', t, u1, u2, by simpa using h1, h2, h3⟩
variable (hg : g.Ok)
include hg
set_option maxRecDepth 100000 in
set_option maxHeartbeats 8000000 in
theorem parted_ok {pa k a p : Nat} {tr : Tree} {oi : Oi} {R : Value → Shared → Prop} (hk : k < g.n) (hev : ev g.pl g.tx k p = some tr) (hp : p ≤ g.tx.length) (c : Fx Γ A env outer h₀ L h l nw) (r : Room A 10) (hn : NodeAt [] nw g.rs g.tx tr a) (hpl : IsPlan nw (.ref pa) (g.pl k))
    (q0 : ∀ h' t' nw', Fx Γ A env outer h₀ L h' l nw' → Keep (fun _ => False) nw nw' → R (.bool true) (S Γ h' t')) :
    wpAny (model PG Γ.w) A (call (.ref 560) [.ref pa, .ref a] []) R E (S Γ h t) := by
  refine enter0 (args := ⟨[.ref pa, .ref a], []⟩) (binds := [("plan", .ref pa), ("node", .ref a)]) ["ends", "here", "begin", "end"] [("plan", some (.ref pa)), ("node", some (.ref a)), ("ends", none), ("here", none), ("begin", none), ("end", none)] c 9 r rfl (by rfl) (BindsTo.of_eq rfl) rfl rfl (by rfl) ?_ rfl rfl rfl (by decide)
  intro A' env' b0 L' h₁ t' Q he c' r' back
  obtain ⟨dx, ch, od, xs, t1, t2, t3, hx, hd, _, hch, _, hkids⟩ := hn.fields
  walk_at "m:go"
  refine xAssignComp (cl := []) (by rw [he]; rfl) (by rfl) rfl (by decide) ?_
  walk_at "m:go"
  refine xgetSlot c' hx hd (sg_212_children _) rfl rfl fun t5 => ?_
  refine xiter_list c' hch.w fun I h6 o6 c6 lI X6 it6 => ?_
  have hfI : ∀ p ∈ nw, p.1 ≠ I := fun p hp z => absurd (lI p hp) (by rw [z]; exact Nat.lt_irrefl _)
  refine xcompBlock c6 (by decide) rfl (fun {nw' h' t' Q E'} c k q => ?_) fun C D oC h7 t7 c7 b7 m7 lD lC => ?_
  · obtain ⟨⟨o, m, hc, hd⟩, _⟩ := it6
    exact PySem.wpAny_pyIter_listiter ⟨o, c.get (k _ m id), hc, hd⟩ q
  have hfD : ∀ p ∈ nw, p.1 ≠ D := fun p hp z => absurd (lD p (.tail _ hp)) (by rw [z]; exact Nat.lt_irrefl _)
  have hfC : ∀ p ∈ nw, p.1 ≠ C := fun p hp z => absurd (Nat.lt_trans (lD p (.tail _ hp)) lC) (by rw [z]; exact Nat.lt_irrefl _)
  have hID : D ≠ I := fun z => absurd (lD _ (.head _)) (by rw [z]; exact Nat.lt_irrefl _)
  have hIC : C ≠ I := fun z => absurd (Nat.lt_trans (lD _ (.head _)) lC) (by rw [z]; exact Nat.lt_irrefl _)
  have hDC : D ≠ C := Nat.ne_of_lt lC
  obtain ⟨oh, hchm⟩ : ∃ o, (ch, o) ∈ nw := let ⟨_, n, m⟩ := hch; ⟨_, m⟩
  have hl := hkids.len
  have htk := ev_tok hg.ok k hk p tr hp hev
  have hlen : tr.kids.length ≤ g.tx.length + 4 := by
    obtain ⟨k, s, e, kids⟩ := tr
    unfold TOk at htk
    exact htk.2.2.2.1
  have h7 := hg.tx7
  refine xcompLoop X6 (fun i ys n => Keep (fun _ => False) nw n ∧ EndsAt [D, C, I] n (tr.kids.take i) ys) rfl (by rfl) c7 b7 m7 (it6.keep (W := fun _ => False) (Keep.cons.trans Keep.cons) id id) ⟨((Keep.cons.trans Keep.cons).trans Keep.cons), rfl⟩ (by rw [List.length_map, hl]; omega) hIC hID hDC ?_ ?_ ?_ ?_
  · intro i n1 n2 a' ha it k
    refine it.keep k (fun z => ?_) fun z => ?_
    · rcases ha with rfl | rfl
      · exact hIC z.symm
      · exact hID z.symm
    · rcases ha with rfl | rfl
      · exact hfC _ hchm z
      · exact hfD _ hchm z
  · rintro i ys n1 n2 a' ha ⟨v1, v2⟩ k
    refine ⟨fun p hp hn => k p (v1 p hp hn) fun z => ?_, v2.keep k fun x z => ?_⟩
    · rcases ha with rfl | rfl | rfl
      · exact hfI p hp z
      · exact hfC p hp z
      · exact hfD p hp z
    · rw [show x = a' from z]
      rcases ha with rfl | rfl | rfl <;> simp
  · rintro i v ys h8 nw8 t8 hi hv hy c8 b8 m8 it8 ⟨v1, v2⟩
    refine wpAny_tests_nil ?_
    rw [if_pos rfl]
    walk_at "m:go"
    obtain ⟨x, hxx, rfl⟩ : ∃ x, xs[i]? = some x ∧ v = .ref x := by
      rw [List.getElem?_map] at hv
      obtain ⟨x, h1, h2⟩ := Option.map_eq_some_iff.mp hv
      exact ⟨x, h1, h2.symm⟩
    obtain ⟨tk, htr, hnx⟩ := NodesAt.at hkids hxx
    have v3 := hnx.kd (Kd.ofKeep (X := []) v1) (fun _ _ _ _ h => nomatch h)
    refine xnodeStart c8 v3 fun t9 u9 => ?_
    walk_at "m:go"
    refine xnodeEnd c8 v3 fun t10 u10 => ?_
    walk_at "m:go"
    rename Fx _ _ _ _ _ _ _ _ _ => c11
    rename IsQ "tuple" _ _ _ => mT
    have nd := c11.nd
    rw [List.map_cons, List.nodup_cons] at nd
    refine ⟨_, _, _, rfl, c11, b8.has.later c8 c11 (W := fun _ => False) Keep.cons id, m8.cons, it8.keep (W := fun _ => False) Keep.cons id id, v1.trans Keep.cons, ?_⟩
    rw [List.take_add_one, htr]
    refine (v2.keep (W := fun _ => False) Keep.cons (fun _ z => z.elim)).snoc mT fun z => nd.1 ?_
    rcases List.mem_cons.mp z with z | z
    · obtain ⟨_, n, m⟩ := m8; rw [z]; exact List.mem_map_of_mem (f := (·.1)) m
    · rcases List.mem_cons.mp z with z | z
      · obtain ⟨o, _, m, _⟩ := b8; rw [z]; exact List.mem_map_of_mem (f := (·.1)) m
      · rw [List.mem_singleton] at z
        obtain ⟨⟨o, m, _⟩, _⟩ := it8; rw [z]; exact List.mem_map_of_mem (f := (·.1)) m
  · rintro ys h8 nw8 t8 c8 b8 m8 ⟨v1, v2⟩
    refine comp_endA c8 b8 ?_
    walk_at "m:go"
    rename Fx _ _ _ _ _ _ _ _ _ => c9
    refine ⟨_, _, _, rfl, c9, fun h10 c10 => ?_⟩
    have vK : EndsAt [] (nw8.filter fun p => p.1 != C) tr.kids ys := by
      rw [List.length_map, hl, List.take_length] at v2
      exact (v2.keep keep_drop fun x z => by rw [show x = C from z]; simp).less (Y := []) fun x hx => nomatch hx
    have mD := m8.keep keep_drop hDC
    have k10 : Keep (fun _ => False) nw (nw8.filter fun p => p.1 != C) := fun p hp hn => List.mem_filter.mpr ⟨v1 p hp id, by simpa using hfC p hp⟩
    dsimp only
    walk_at "m:go"
    obtain ⟨pa2, p1, p2, p3, p4, p5, epa, hpk⟩ := hpl
    injection epa with epa
    subst epa
    have hpk10 := hpk.keep k10 id
    have hn10 := hn.kd (Kd.ofKeep (X := []) k10) (fun _ _ _ _ h => nomatch h)
    refine xtitem c10 hpk10.w (by decide) rfl ?_
    walk_at "m:go"
    cases e : g.pl k with
    | word lit =>
      have hk0 := ev_word_kids hg.ok e hev
      rw [e] at hpk10
      walk_at "m:no"
      walk_at "m:go"
      refine xtitem c10 hpk10.w (by decide) rfl ?_
      walk_at "m:go"
      walk_at "m:no"
      walk_at "m:go"
      refine xtitem c10 hpk10.w (by decide) rfl ?_
      walk_at "m:go"
      walk_at "m:yes"
      walk_at "m:go"
      rename Fx _ _ _ _ _ _ _ _ _ => c12
      rename IsQ "list" _ _ [] => mE
      rw [hk0] at vK
      obtain rfl : ys = [] := vK
      refine PySem.SeqAt.eq_listAt (e := fun _ => true) (mD.cons.w.isList c12) (mE.w.isList c12) rfl (show A'.units < 9900 by have := r'.2; omega) (fun j h1 => by simp at h1) ?_
      walk_at "m:go"
      exact (back _ _ ⟨_, _, c12, fun cc => q0 _ _ _ cc (k10.trans Keep.cons)⟩).1
    | chain a b =>
      obtain ⟨x, y, hk0, hx1, hx2, hx3⟩ := ev_chain_kids hg.ok hk hp e hev
      rw [e] at hpk10
      rw [hk0] at vK
      obtain ⟨T1, r1, w1, w2, rfl, mT1, _, T2, r2, w3, w4, rfl, mT2, _, vK⟩ := vK
      obtain rfl : r2 = [] := vK
      walk_at "m:no"
      walk_at "m:go"
      refine xtitem c10 hpk10.w (by decide) rfl ?_
      walk_at "m:go"
      walk_at "m:yes"
      walk_at "m:go"
      refine xlen c10 mD.w fun t => ?_
      walk_at "m:go"
      walk_at "m:yes"
      walk_at "m:go"
      refine xitem c10 mD.w (by decide) rfl ?_
      walk_at "m:go"
      refine xtitem c10 mT1.w (by decide) rfl ?_
      walk_at "m:go"
      refine xnodeStart c10 hn10 fun t u => ?_
      walk_at "m:go"
      rw [if_pos (by rw [beq_iff_eq]; omega)]
      walk_at "m:go"
      refine xitem c10 mD.w (by decide) rfl ?_
      walk_at "m:go"
      refine xtitem c10 mT1.w (by decide) rfl ?_
      walk_at "m:go"
      refine xitem c10 mD.w (by decide) rfl ?_
      walk_at "m:go"
      refine xtitem c10 mT2.w (by decide) rfl ?_
      walk_at "m:go"
      rw [if_pos (by rw [beq_iff_eq]; omega)]
      walk_at "m:go"
      refine xitem c10 mD.w (by decide) rfl ?_
      walk_at "m:go"
      refine xtitem c10 mT2.w (by decide) rfl ?_
      walk_at "m:go"
      refine xnodeEnd c10 hn10 fun t u => ?_
      walk_at "m:go"
      have hb : ((y.e : Int) == (tr.e : Int)) = true := by rw [beq_iff_eq]; omega
      rw [hb]
      exact (back _ _ ⟨_, _, c10, fun cc => q0 _ _ _ cc k10⟩).1
    | choice a b =>
      obtain ⟨x, hk0, hx1, hx2⟩ := ev_choice_kids hg.ok hk hp e hev
      rw [e] at hpk10
      rw [hk0] at vK
      obtain ⟨T1, r1, w1, w2, rfl, mT1, _, vK⟩ := vK
      obtain rfl : r1 = [] := vK
      walk_at "m:yes"
      walk_at "m:go"
      refine xnodeStart c10 hn10 fun t u => ?_
      walk_at "m:go"
      refine xnodeEnd c10 hn10 fun t u => ?_
      walk_at "m:go"
      rename Fx _ _ _ _ _ _ _ _ _ => c12
      rename IsQ "list" _ _ _ => mE
      rename IsQ "tuple" (_ :: _) _ _ => mT
      refine PySem.SeqAt.eq_listAt (e := fun _ => true) (mD.cons.cons.w.isList c12) (mE.w.isList c12) rfl (show A'.units < 9900 by have := r'.2; omega) (fun j h1 h2 => ?_) ?_
      · obtain rfl : j = 0 := by have h1 : j < 1 := h1; omega
        have hb : (((x.s : Int), (x.e : Int)) == ((tr.s : Int), (tr.e : Int))) = true := by rw [hx1, hx2]; exact beq_self_eq_true _
        have e := fun t => hb ▸ pair_eq (A := A'.in1) (t := t) c12 (p := ((x.s : Int), (x.e : Int))) (p' := ((tr.s : Int), (tr.e : Int))) (by show A'.units + 1 ≤ 9800; have := r'.2; omega) ⟨_, _, _, rfl, mT1.cons.cons⟩ ⟨_, _, _, rfl, mT.cons⟩
        exact e _
      walk_at "m:go"
      exact (back _ _ ⟨_, _, c12, fun cc => q0 _ _ _ cc ((k10.trans Keep.cons).trans Keep.cons)⟩).1
    | look neg a =>
      have hk0 := ev_look_kids hg.ok hk e hev
      rw [e] at hpk10
      cases neg <;> (
        walk_at "m:no"
        walk_at "m:go"
        refine xtitem c10 hpk10.w (by decide) rfl ?_
        walk_at "m:go"
        walk_at "m:no"
        walk_at "m:go"
        refine xtitem c10 hpk10.w (by decide) rfl ?_
        walk_at "m:go"
        walk_at "m:yes"
        walk_at "m:go"
        rename Fx _ _ _ _ _ _ _ _ _ => c12
        rename IsQ "list" _ _ [] => mE
        rw [hk0] at vK
        obtain rfl : ys = [] := vK
        refine PySem.SeqAt.eq_listAt (e := fun _ => true) (mD.cons.w.isList c12) (mE.w.isList c12) rfl (show A'.units < 9900 by have := r'.2; omega) (fun j h1 => by simp at h1) ?_
        walk_at "m:go"
        exact (back _ _ ⟨_, _, c12, fun cc => q0 _ _ _ cc (k10.trans Keep.cons)⟩).1)
    | many ma least most =>
      obtain ⟨hl1, hl2, hl3⟩ := ev_many_kids hg.ok hk hp e hev
      rw [e] at hpk10
      walk_at "m:no"
      walk_at "m:go"
      refine xtitem c10 hpk10.w (by decide) rfl ?_
      walk_at "m:go"
      walk_at "m:no"
      walk_at "m:go"
      refine xtitem c10 hpk10.w (by decide) rfl ?_
      walk_at "m:go"
      walk_at "m:no"
      walk_at "m:go"
      refine xnodeStart c10 hn10 fun t u => ?_
      walk_at "m:go"
      rename Fx _ _ _ _ _ _ _ _ _ => c12
      refine xiter_list c12 mD.w fun I2 h13 o13 c13 lI2 X13 it13 => ?_
      have hfI2 : ∀ p ∈ nw8.filter fun p => p.1 != C, p.1 ≠ I2 := fun p hp z => absurd (lI2 p hp) (by rw [z]; exact Nat.lt_irrefl _)
      have hly := EndsAt.len vK
      refine xforLoop X13 (fun i l n => Keep (fun _ => False) (nw8.filter fun p => p.1 != C) n ∧ ∃ (q : Nat) (u : Tok) (bv ev : Option Value), linked q (tr.kids.drop i) tr.e ∧
        l = ([("plan", some (.ref pa)), ("node", some (.ref a)), ("ends", some (.ref D)), ("here", some (.int q u)), ("begin", bv), ("end", ev)] : Loc)) c13 it13 ⟨Keep.cons, tr.s, u, none, none, hl1, rfl⟩ ?_ ?_
      · rintro i v h14 l14 nw14 t14 o14 hb hi hv cb itb c14 it14 ⟨k14, q, u, bv, ev, hq, rfl⟩
        have k15 : Keep (fun _ => False) (nw8.filter fun p => p.1 != C) (put nw14 I2 o14) := fun p hp hn => by
          obtain ⟨b, ob⟩ := p
          exact mem_put_ne (k14 _ hp hn) (hfI2 _ hp)
        obtain ⟨T, x, w1, w2, hx, rfl, mT⟩ := EndsAt.at vK hv
        refine wpAny_letOwnedTupleGo_listiter (s := S Γ h14 t14) ⟨_, c14.get it14.1.choose_spec.1, it14.1.choose_spec.2⟩ ?_
        refine xunpack c14 (mT.keep k15 id).w (by rfl) (by rfl) fun h16 c16 => ?_
        have hlt : i < tr.kids.length := by rw [hly]; exact hi
        have ed : tr.kids.drop i = x :: tr.kids.drop (i + 1) := by
          rw [List.drop_eq_getElem_cons hlt]
          congr 1
          rw [List.getElem?_eq_getElem hlt] at hx
          exact Option.some.inj hx
        rw [ed] at hq
        obtain ⟨hq1, hq2⟩ := hq
        walk_at "m:go"
        rw [if_neg (by rw [bne_iff_ne]; intro z; exact z (by omega))]
        walk_at "m:go"
        rename Fx _ _ _ _ _ _ _ _ _ => c17
        exact ⟨_, _, _, _, rfl, c17, it14, k15, _, _, _, _, hq2, rfl⟩
      · rintro h14 l14 nw14 nw15 t14 hb cb itb c15 k15 ⟨k14, q, u, bv, ev, hq, rfl⟩
        have k16 : Keep (fun _ => False) (nw8.filter fun p => p.1 != C) nw15 := fun p hp hn => k15 _ (k14 _ hp hn) (hfI2 _ hp)
        have hpk15 := hpk10.keep k16 id
        have hq0 : q = tr.e := by
          rw [List.drop_eq_nil_of_le (by omega)] at hq
          exact hq
        walk_at "m:go"
        refine xnodeEnd c15 (hn10.kd (Kd.ofKeep (X := []) k16) (fun _ _ _ _ h => nomatch h)) fun t u => ?_
        walk_at "m:go"
        rw [if_pos (by rw [beq_iff_eq]; omega)]
        walk_at "m:go"
        refine xlen c15 (mD.keep k16 id).w fun t => ?_
        walk_at "m:go"
        refine xtitem c15 hpk15.w (by decide) rfl ?_
        walk_at "m:go"
        dsimp only [Plan.more]
        walk_at "m:go"
        rw [if_pos (decide_eq_true (by rw [← hly]; omega))]
        walk_at "m:go"
        refine xtitem c15 hpk15.w (by decide) rfl ?_
        walk_at "m:go"
        cases most with
        | none =>
          rw [if_pos (by rfl)]
          exact (back _ _ ⟨_, _, c15, fun cc => q0 _ _ _ cc (k10.trans k16)⟩).1
        | some m =>
          have hm := hl3 m rfl
          rw [if_neg (by show ¬ (decide ((m : Int) < 0) = true); simp)]
          walk_at "m:go"
          refine xlen c15 (mD.keep k16 id).w fun t => ?_
          walk_at "m:go"
          refine xtitem c15 hpk15.w (by decide) rfl ?_
          walk_at "m:go"
          rw [show decide ((ys.length : Int) ≤ (Plan.many ma least (some m)).most) = true from decide_eq_true (by rw [← hly]; show (tr.kids.length : Int) ≤ (m : Int); omega)]
          exact (back _ _ ⟨_, _, c15, fun cc => q0 _ _ _ cc (k10.trans k16)⟩).1
end


/-! the law's frame: its cells are objects of the ledger -/
set_option maxRecDepth 100000 in
noncomputable def lawX (w : World) : { fd : FuncData // ∃ oc od sl, (KK w).lookup 572 = some ⟨oc, od, .func fd, sl⟩ } := ⟨_, _, _, _, rfl⟩
noncomputable def lawScope (w : World) : Scope := (lawX w).1.scope
noncomputable def lawB (w : World) : List Stmt := match (lawX w).1.body with | .stmts b => b | _ => []
noncomputable def lawAt (w : World) (i : Nat) : Stmt := (lawB w).getD i default
noncomputable def lawE (w : World) (L fa : Addr) (cd : Value) : Env := envOfC (Str.ofString "law") (lawScope w) L fa cd
def lawC (L : Addr) : List (Str × Addr) := [(Str.ofString "own", L + 9), (Str.ofString "kept", L + 8), (Str.ofString "due", L + 7), (Str.ofString "seen", L + 6), (Str.ofString "text", L + 5), (Str.ofString "k", L + 4), (Str.ofString "named", L + 3), (Str.ofString "plans", L + 2), (Str.ofString "state", L + 1)]
set_option maxRecDepth 100000 in
theorem lawE_cells (w : World) (L fa : Addr) (cd : Value) : (lawE w L fa cd).cells = lawC L := by rfl
inductive CellsAt (nw : Led) : List (Str × Addr) → Loc → Prop
  | nil : CellsAt nw [] []
  | cons {x c o v cs l} : (c, o) ∈ nw → o.data = .cell v → CellsAt nw cs l → CellsAt nw ((x, c) :: cs) ((x, v) :: l)
theorem CellsAt.names {nw cs l} (h : CellsAt nw cs l) : cs.map (·.1) = l.map (·.1) := by
  induction h with
  | nil => rfl
  | cons _ _ _ ih => simp only [List.map_cons, ih]
theorem CellsAt.get {nw cs l x v} (h : CellsAt nw cs l) (k : LkR l x v) (nd : (cs.map (·.1)).Nodup) : ∃ c o, cs.lookup x = some c ∧ c ∈ cs.map (·.2) ∧ (c, o) ∈ nw ∧ o.data = .cell (some v) := by
  induction h with
  | nil => cases k
  | @cons y c o u cs l m d h ih =>
    cases k with
    | hd => exact ⟨c, o, by rw [List.lookup_cons, beq_self_eq_true], .head _, m, d⟩
    | tl k =>
      rw [List.map_cons, List.nodup_cons] at nd
      obtain ⟨c', o', h1, h2, h3, h4⟩ := ih k nd.2
      refine ⟨c', o', ?_, .tail _ h2, h3, h4⟩
      have hne : x ≠ y := fun e => nd.1 (by rw [h.names, ← e]; exact List.mem_map_of_mem (f := (·.1)) k.mem)
      rw [List.lookup_cons, beq_eq_false_iff_ne.mpr hne]
      exact h1
theorem CellsAt.keep {nw nw' cs l} {W : Addr → Prop} (h : CellsAt nw cs l) (k : Keep W nw nw') (hW : ∀ c ∈ cs.map (·.2), ¬ W c) : CellsAt nw' cs l := by
  induction h with
  | nil => exact .nil
  | @cons y c o u cs l m d h ih => exact .cons (k _ m (hW c (.head _))) d (ih fun c hc => hW c (.tail _ hc))
theorem CellsAt.keepO {nw nw' cs l} {W : Addr → Prop} (h : CellsAt nw cs l) (k : Keep W nw nw') (hW : ∀ c o v, (c, o) ∈ nw → o.data = .cell v → ¬ W c) : CellsAt nw' cs l := by
  induction h with
  | nil => exact .nil
  | @cons y c o u cs l m d h ih => exact .cons (k _ m (hW c _ _ m d)) d ih
theorem CellsAt.kd {nw nw' cs l} {X : List Addr} (h : CellsAt nw cs l) (k : Kd X nw nw') (hX : ∀ c ∈ cs.map (·.2), c ∉ X) : CellsAt nw' cs l := by
  induction h with
  | nil => exact .nil
  | @cons y c o u cs l m d h ih => exact .cons (k.1 _ m (fun es ep e => by rw [show o.data = _ from d] at e; cases e) fun z => hX c (.head _) z.1) d (ih fun c hc => hX c (.tail _ hc))
theorem CellsAt.cons_ {nw cs l} {p : Addr × Obj} (h : CellsAt nw cs l) : CellsAt (p :: nw) cs l := h.keep (Keep.cons (W := fun _ => False)) fun _ _ => id
theorem CellsAt.set {nw cs l l' x v} (h : CellsAt nw cs l) (k : SetR x v l l') (nd : (cs.map (·.1)).Nodup) (nd2 : (cs.map (·.2)).Nodup) : ∃ c o v0, cs.lookup x = some c ∧ c ∈ cs.map (·.2) ∧ (c, o) ∈ nw ∧ o.data = .cell v0 ∧ ∀ o', o'.data = .cell (some v) → CellsAt (put nw c o') cs l' := by
  induction h generalizing l' with
  | nil => cases k
  | @cons y c o u cs l m d h ih =>
    rw [List.map_cons, List.nodup_cons] at nd nd2
    cases k with
    | hd => exact ⟨c, o, u, by rw [List.lookup_cons, beq_self_eq_true], .head _, m, d, fun o' d' => .cons (mem_put_self m) d' (h.keep Keep.put fun b hb e => nd2.1 (e ▸ hb))⟩
    | tl k =>
      obtain ⟨c', o', v0, h1, h2, h3, h4, h5⟩ := ih k nd.2 nd2.2
      refine ⟨c', o', v0, ?_, .tail _ h2, h3, h4, fun o'' d'' => .cons (mem_put_ne m fun e => nd2.1 (e ▸ h2)) d (h5 o'' d'')⟩
      have hne : x ≠ y := fun e => nd.1 (by rw [h.names, ← e]; exact k.mem)
      rw [List.lookup_cons, beq_eq_false_iff_ne.mpr hne]
      exact h1
theorem CellsAt.of {cm : Str → Option Value} {cs : List (Str × Addr)} {cells nw : Led} (h : CellsAre cm cs cells) (hs : ∀ p ∈ cells, p ∈ nw) : CellsAt nw cs (cs.map fun p => (p.1, cm p.1)) := by
  induction h with
  | nil => exact .nil
  | cons d h ih => exact .cons (hs _ (.head _)) d (ih fun p hp => hs p (.tail _ hp))
theorem CellsAt.mem {nw cs l c} (h : CellsAt nw cs l) (hc : c ∈ cs.map (·.2)) : ∃ o, (c, o) ∈ nw := by
  induction h with
  | nil => cases hc
  | @cons y a o u cs l m d h ih =>
    rcases List.mem_cons.mp hc with rfl | hc
    · exact ⟨_, m⟩
    · exact ih hc
theorem lawC_nd1 (L : Addr) : ((lawC L).map (·.1)).Nodup := by
  show [Str.ofString "own", Str.ofString "kept", Str.ofString "due", Str.ofString "seen", Str.ofString "text", Str.ofString "k", Str.ofString "named", Str.ofString "plans", Str.ofString "state"].Nodup
  decide
theorem lawC_nd2 (L : Nat) : ((lawC L).map (·.2)).Nodup := by
  show [L + 9, L + 8, L + 7, L + 6, L + 5, L + 4, L + 3, L + 2, L + 1].Nodup
  simp
abbrev hotC (L : Addr) : List Addr := (lawC L).map (·.2)
/-- neither a list, a tuple, a dict nor of an own class: a cell, an iterator -/
def odd (o : Obj) : Prop := (∀ xs n, o.data ≠ .seq xs n) ∧ notDict o ∧ soft o
section
variable {Γ : Gm} {A : Around} {env : Env} {outer : List Env} {h₀ : Heap} {L : Addr} {h h' : Heap} {l l' : Loc} {nw : Led} {t : Nat} {E : Value → Shared → Prop} {pos : Pos} {fa : Addr} {cd : Value} {cv cv' : Loc}
theorem xcell (c : Fx Γ A env outer h₀ L h l nw) (he : env = lawE Γ.w L fa cd) {x v} {Q : Value → Shared → Prop} (C : CellsAt nw (lawC L) cv) (hl : LkR cv x v) (hk : env.kindOf x = some .cell) (q : Q v (S Γ h t)) (hd : (x == ("__debug__" : Str)) = false := by decide) :
    wpAny (model PG Γ.w) A (eval (.Name x pos) env) Q E (S Γ h t) := by
  obtain ⟨a, o, h1, _, h3, h4⟩ := C.get hl (lawC_nd1 L)
  exact wpAny_Name (wpAny_loadName_cell (s := S Γ h t) c.hk hk (by rw [he, lawE_cells]; exact h1) ⟨o, c.get h3, h4⟩ q) hd
theorem xcellSet (c : Fx Γ A env outer h₀ L h l nw) (he : env = lawE Γ.w L fa cd) {x v} {Q : Unit → Shared → Prop} (C : CellsAt nw (lawC L) cv) (hs : SetR x v cv cv') (hk : env.kindOf x = some .cell)
    (q : ∀ h' nw', Fx Γ A env outer h₀ L h' l nw' → CellsAt nw' (lawC L) cv' → (∃ a o, (a, o) ∈ nw ∧ odd o ∧ a ∈ hotC L ∧ Keep (· = a) nw nw') → Kd (hotC L) nw nw' → Q () (S Γ h' t)) : wpAny (model PG Γ.w) A (storeName env x v) Q E (S Γ h t) := by
  obtain ⟨a, o, v0, h1, h2, h3, h4, h5⟩ := C.set hs (lawC_nd1 L) (lawC_nd2 L)
  refine wpAny_storeName_cell (s := S Γ h t) c.hk hk (by rw [he, lawE_cells]; exact h1) ⟨o, c.get h3, h4⟩ fun h' hv sb => ?_
  obtain ⟨o', ho', hd'⟩ := hv
  have c' := c.upd h3 sb ho'
  have hn : notDict o := fun es ep e => by rw [h4] at e; cases e
  exact q h' _ c' (h5 o' hd') ⟨a, o, h3, ⟨(fun xs n e => by rw [h4] at e; cases e), hn, .inr ⟨_, h4⟩⟩, h2, Keep.put⟩ (Kd.putL c.nd h3 hn (.inr ⟨_, h4⟩) h2)
theorem xbcell (c : Fx Γ A env outer h₀ L h l nw) (he : env = lawE Γ.w L fa cd) {scope : Scope} {cl : List (Str × Addr)} {D : Addr} {x : Str} {v : Value} {Q : Value → Shared → Prop} (C : CellsAt nw (lawC L) cv) (hl : LkR cv x v) (hlk : cl.lookup x = (lawC L).lookup x)
    (hk : (compEnvC scope cl D (lawE Γ.w L fa cd)).kindOf x = some .cell) (hf : scope.kind = .function) (q : Q v (S Γ h t)) (hd : (x == ("__debug__" : Str)) = false := by decide) :
    wpAny (model PG Γ.w) A (eval (.Name x pos) (compEnvC scope cl D env)) Q E (S Γ h t) := by
  obtain ⟨a, o, h1, _, h3, h4⟩ := C.get hl (lawC_nd1 L)
  subst he
  exact wpAny_Name (wpAny_loadName_cell (s := S Γ h t) (show (compEnvC scope cl D (lawE Γ.w L fa cd)).scope.kind = .function from hf) hk (show cl.lookup x = some a from hlk.trans h1) ⟨o, c.get h3, h4⟩ q) hd
theorem xbblt (c : Fx Γ A env outer h₀ L h l nw) {scope : Scope} {cl : List (Str × Addr)} {C : Addr} {x : Str} {v : Value} {Q : Value → Shared → Prop} (e : nsIn (KK Γ.w) mainGlobals x = some none) (hb : bootBuiltins x = some v) (hn : x ≠ "__name__") (hk : (compEnvC scope cl C env).kindOf x = some .globalImplicit) (hf : (compEnvC scope cl C env).scope.kind = .function)
    (q : Q v (S Γ h t)) (hd : (x == ("__debug__" : Str)) = false := by decide) : wpAny (model PG Γ.w) A (eval (.Name x pos) (compEnvC scope cl C env)) Q E (S Γ h t) :=
  Name_function_global hf hk (loadGlobal_builtin (by show Heap.Ns _ env.globals _; rw [c.glo]; exact c.T.g.keeps c.F.keep) (mg_none_of c.X c.T.g e) (by show Heap.Ns _ env.builtins _; rw [c.blt]; exact c.T.b.keeps c.F.keep) ((c.T.builtins x hn).trans hb) q) hd
end


section
variable {Γ : Gm} {A : Around} {env : Env} {outer : List Env} {h₀ : Heap} {L : Addr} {h h' : Heap} {l l' : Loc} {nw : Led} {t : Nat} {E : Value → Shared → Prop} {pos : Pos}
theorem Fx.ofNew (c : Fx Γ A env outer h₀ L h l nw) {a : Addr} {o : Obj} (F' : Fr h₀ L h' (mp l)) (N' : News h₀ L h' ((a, o) :: nw)) (hle : h.objs.size ≤ a) : Fx Γ A env outer h₀ L h' l ((a, o) :: nw) := by
  have lt : ∀ p ∈ nw, p.1 < a := fun p hp => Nat.lt_of_lt_of_le (c.lt hp) hle
  have hi : ∀ p ∈ (a, o) :: nw, 3 < p.1 := fun q hp => by
    rcases List.mem_cons.mp hp with rfl | hp
    · exact Nat.lt_of_lt_of_le c.big hle
    · exact c.hi _ hp
  have nd : (((a, o) :: nw).map (·.1)).Nodup := by
    rw [List.map_cons, List.nodup_cons]
    refine ⟨fun q => ?_, c.nd⟩
    obtain ⟨p, hp, e⟩ := List.mem_map.mp q
    exact absurd (lt p hp) (by rw [e]; exact Nat.lt_irrefl _)
  exact { c with F := F', N := N', nd := nd, hi := hi }
theorem xSliceTo {M : Model} {s : Shared} {hi : Expr} {p : Pos} {Q : Value → Shared → Prop}
    (hq : wpAny M A (eval hi env) (fun b s₂ => Q (.ref s₂.heap.objs.size) { s₂ with heap := s₂.heap.push { cls := .type "slice", data := .fields #[.none, b, .none] } }) E s) :
    wpAny M A (eval (.Slice none (some hi) none p) env) Q E s := by
  refine wpAny_Slice ?_
  rw [evalPart_none]
  refine wpAny_pure ?_
  rw [evalPart_some]
  exact wpAny_mono hq (fun b s₂ h₂ => wpAny_pure h₂) fun _ _ x => x
theorem xsliceL (c : Fx Γ A env outer h₀ L h l nw) {value slice : Expr} {a : Addr} {xs : List Value} {k : Nat} {u : Tok} {Q : Value → Shared → Prop} (m : h.IsList a xs.toArray) (hz : xs.length ≤ 1000)
    (q : ∀ h' D, Fx Γ A env outer h₀ L h' l ((D, seqO "list" (xs.take k) 0) :: nw) → (∀ p ∈ nw, p.1 < D) → IsQ "list" ((D, seqO "list" (xs.take k) 0) :: nw) D (xs.take k) → Q (.ref D) (S Γ h' t))
    (hs : subscripted slice false (.ref a) (.ref h.objs.size) = operate [.ref h.objs.size, .ref a] (getItem (.ref a) (.ref h.objs.size)) := by with_unfolding_all rfl)
    (ht : ∀ r, letTemporaryGo value (.ref a) r = pure () := by intro _; with_unfolding_all rfl) :
    wpAny (model PG Γ.w) A (subscriptTail value slice (.ref a) (.ref h.objs.size)) Q E (S Γ (h.push { cls := .type "slice", data := .fields #[.none, .int k u, .none] }) t) := by
  refine slice_list (s := S Γ h t) (lo := none) (hi := some (k : Int)) c.F c.N m .none (.int _ _) (fun h' F' N' => ?_) hs ht (by rw [List.size_toArray, line_is]; omega)
  have e : slicePick xs.toArray none (some (k : Int)) none = (xs.take k).toArray := slicePick_upto' _ _
  rw [e] at N'
  exact q h' _ (c.ofNew F' N' (Nat.le_succ _)) (fun p hp => Nat.lt_succ_of_lt (c.lt hp)) ⟨by rw [List.length_take]; omega, 0, .head _⟩
theorem xitemS {value slice : Expr} {x : Str} {tx : Tok} {i : Nat} {u : Tok} {Q : Value → Shared → Prop} (hx : x.length ≤ 1000) (hi : i < x.length)
    (q : ∀ t' y u', y.length = 1 → Q (.str y u') (S Γ h t'))
    (hs : subscripted slice false (.str x tx) (.int i u) = operate [.str x tx, .int i u] (getItem (.str x tx) (.int i u)) := by with_unfolding_all rfl)
    (ht : ∀ r, letTemporaryGo value (.str x tx) r = pure () := by intro _; with_unfolding_all rfl) :
    wpAny (model PG Γ.w) A (subscriptTail value slice (.str x tx) (.int i u)) Q E (S Γ h t) :=
  item_str (s := S Γ h t) (fitsSsize_of (N := 9223372036854775808) (by omega) (by omega) (Int.le_refl _)) (by omega) (by omega) (fun hl => q _ _ _ (by omega)) hs ht
theorem xstrI {i : Nat} {u : Tok} {Q : Value → Shared → Prop} (hi : i < 2) (q : ∀ t' u' y, y.length = 1 → Q (.str y u') (S Γ h t')) : wpAny (model PG Γ.w) A (call (.type "str") [.int i u]) Q E (S Γ h t) := by
  have : i = 0 ∨ i = 1 := by omega
  rcases this with rfl | rfl
  · exact P.str_of_int (s := S Γ h t) (by decide) (q _ _ _ (by decide))
  · exact P.str_of_int (s := S Γ h t) (by decide) (q _ _ _ (by decide))
theorem xaddS {x y : Str} {u v : Tok} {Q : Value → Shared → Prop} (hx : x.length ≤ 1000) (hy : y.length ≤ 1000) (q : ∀ t' u', Q (.str (x ++ y) u') (S Γ h t')) : wpAny (model PG Γ.w) A (binaryOp .Add (.str x u) (.str y v)) Q E (S Γ h t) :=
  add_str (s := S Γ h t) (fun t' k => q _ _) (by rw [line_is]; omega)
theorem xjoin (c : Fx Γ A env outer h₀ L h l nw) {D : Addr} {ss : List (Str × Tok)} {u : Tok} {Q : Value → Shared → Prop} (m : IsW "list" nw D (strValues ss)) (h1 : ∀ p ∈ ss, p.1.length = 1)
    (q : ∀ t' u' y, y.length = ss.length → Q (.str y u') (S Γ h t')) : wpAny (model PG Γ.w) A (call (.builtin "str.join") [.str (Str.ofString "") u, .ref D]) Q E (S Γ h t) := by
  have hz : (ss.map (·.1)).length ≤ 1000 := by
    have := m.1
    unfold strValues at this
    rw [List.length_map] at this ⊢
    exact this
  have hl : ∀ y ∈ ss.map (·.1), y.length = 1 := fun y hy => by
    obtain ⟨p, hp, rfl⟩ := List.mem_map.mp hy
    exact h1 p hp
  refine SC.join (s := S Γ h t) (texts := ss.map (·.1)) (m.isList c) rfl ?_ fun t' k => q _ _ _ ((KT.join_ones _ hl).trans (List.length_map ..))
  unfold JoinOk
  rw [StrLaws.joinFits (B := 1) (fun y hy => Nat.le_of_eq (hl y hy)) (by rw [show (Str.ofString "").length = 0 from by decide]; omega)]
  rfl
end


/-! a comprehension whose turns may write to old objects -/
section
variable {Γ : Gm} {A : Around} {env : Env} {outer : List Env} {h₀ : Heap} {L : Addr} {h h' : Heap} {l l' : Loc} {nw : Led} {t : Nat} {E : Value → Shared → Prop} {pos : Pos}
def CNext (Γ : Gm) (A : Around) (env : Env) (outer : List Env) (h₀ : Heap) (L : Addr) (l : Loc) (old src : Addr → Prop) (INV : Nat → List Value → Led → Prop) (nw : Led) (i : Nat) (ys : List Value) (s : Shared) : Prop :=
  ∃ h' t' nw' W, s = S Γ h' t' ∧ Fx Γ A env outer h₀ L h' l nw' ∧ Keep W nw nw' ∧ (∀ b, W b → old b ∧ ¬ src b) ∧ INV i ys nw'
theorem xcomp {RR : Value → Addr → Result → Shared → Prop} {elt iter : Expr} {x : Str} {px : Pos} {ifs : List Expr} {scope : Scope} {cl : List (Str × Addr)} {I : Addr} {n : Nat} {P : Nat → Value → Prop} {It : Nat → Led → Prop} (old src : Addr → Prop) (INV : Nat → List Value → Led → Prop)
    (X : XIt Γ A I n P It) (c : Fx Γ A env outer h₀ L h l nw) (hcell : ∀ y ∈ scope.names, y.2 ≠ .cell) (hkind : scope.kind = .function) (hx : scope.names.lookup x = some .local)
    (self : ∀ {nw' : Led} {h' : Heap} {t' : Nat} {Q : Value → Shared → Prop} {E' : Value → Shared → Prop}, Fx Γ A env outer h₀ L h' l nw' → Keep (fun _ => False) nw nw' → Q (.ref I) (S Γ h' t') → wpAny (model PG Γ.w) A (pyIter (.ref I)) Q E' (S Γ h' t'))
    (hold : ∀ b, old b → (∃ o, (b, o) ∈ nw) ∨ b < I) (hI : ¬ old I) (hIn : ∃ o, (I, o) ∈ nw) (hsrc : ∀ b, src b → ∃ o, (b, o) ∈ nw) (hn : n < 1000)
    (itk : ∀ i n1 n2 (W : Addr → Prop), It i n1 → Keep W n1 n2 → ¬ W I → (∀ b, W b → ¬ src b) → It i n2) (it0 : It 0 nw)
    (stab : ∀ i ys n1 n2 b, ¬ old b → Keep (· = b) n1 n2 → INV i ys n1 → INV i ys n2) (i0 : ∀ n2, Keep (fun _ => False) nw n2 → INV 0 [] n2)
    (step : ∀ i v ys h nw' t C, i < n → P i v → ys.length ≤ i → Fx Γ A env outer h₀ L h l nw' → InBlk h nw' C x v → ¬ old C → INV i ys nw' →
      wpAny (model PG Γ.w) A (forIn ifs true fun e r => if r = true then do let ok ← isTrue e (compEnvC scope cl C env) (eval e (compEnvC scope cl C env)); pure (ForInStep.yield ok) else pure (ForInStep.yield r)) (fun ok s₃ =>
        if ok = true then wpAny (model PG Γ.w) A (eval elt (compEnvC scope cl C env)) (fun y s₄ => CNext Γ A env outer h₀ L l old src INV nw' (i + 1) (ys ++ [y]) s₄) (fun _ _ => False) s₃
        else CNext Γ A env outer h₀ L l old src INV nw' (i + 1) ys s₃) (fun _ _ => False) (S Γ h t))
    (fin : ∀ ys h nw' t C D, Fx Γ A env outer h₀ L h l nw' → HasBlk h nw' C → IsQ "list" nw' D ys → ¬ old C → ¬ old D → D ≠ C → INV n ys nw' → RR (.ref D) C (.ok .next) (S Γ h t)) :
    wpAny (model PG Γ.w) A (newList []) (fun acc s₃ => wpAny (model PG Γ.w) A (newFunctionEnv scope env.globals cl [] env.qual none .none (some env)) (fun cenv s₄ =>
      codeAny (model PG Γ.w) A (.compStart (.ListComp elt [⟨.Name x px, iter, ifs, 0⟩] scope pos) 0 (.ref I) acc { cenv with scope := relabel scope env }) (RR acc cenv.locals) s₄) E s₃) E (S Γ h t) := by
  refine xcompBlock c hcell hkind self fun C D oC h7 t7 c7 b7 m7 lD lC => ?_
  have nD : ∀ b o, (b, o) ∈ nw → b ≠ D := fun b o m z => absurd (lD _ m) (by rw [← z]; exact Nat.lt_irrefl _)
  have nC : ∀ b o, (b, o) ∈ nw → b ≠ C := fun b o m z => absurd (Nat.lt_trans (lD _ m) lC) (by rw [← z]; exact Nat.lt_irrefl _)
  obtain ⟨oI, mI⟩ := hIn
  have oD : ¬ old D := fun z => (hold _ z).elim (fun ⟨o, m⟩ => nD _ _ m rfl) fun z => Nat.lt_irrefl _ (Nat.lt_trans z (lD _ mI))
  have oC' : ¬ old C := fun z => (hold _ z).elim (fun ⟨o, m⟩ => nC _ _ m rfl) fun z => Nat.lt_irrefl _ (Nat.lt_trans z (Nat.lt_trans (lD _ mI) lC))
  have hDC : D ≠ C := Nat.ne_of_lt lC
  have hk : Keep (fun _ => False) nw ((C, oC) :: (D, seqO "list" [] 0) :: nw) := Keep.cons.trans Keep.cons
  refine xcompLoop X INV hkind hx c7 b7 m7 (itk _ _ _ _ it0 hk id fun _ h => h.elim) (i0 _ hk) hn (nC _ _ mI).symm (nD _ _ mI).symm hDC ?_ ?_ ?_ ?_
  · intro i n1 n2 a ha it k
    refine itk _ _ _ _ it k (fun z => ?_) fun b hb hs => ?_
    · rcases ha with rfl | rfl
      · exact nC _ _ mI z
      · exact nD _ _ mI z
    · obtain ⟨o, m⟩ := hsrc _ hs
      have hb : b = a := hb
      subst hb
      rcases ha with rfl | rfl
      · exact nC _ _ m rfl
      · exact nD _ _ m rfl
  · intro i ys n1 n2 a ha v k
    refine stab _ _ _ _ _ (fun z => ?_) k v
    rcases ha with rfl | rfl | rfl
    · exact hI z
    · exact oC' z
    · exact oD z
  · intro i v ys h8 nw8 t8 hi hv hy c8 b8 m8 it8 v8
    have key : ∀ {j zs s}, CNext Γ A env outer h₀ L l old src INV nw8 j zs s → ∃ h' t' nw', s = S Γ h' t' ∧ Fx Γ A env outer h₀ L h' l nw' ∧ HasBlk h' nw' C ∧ IsQ "list" nw' D ys ∧ It (i + 1) nw' ∧ INV j zs nw' := by
      rintro j zs s ⟨h9, t9, nw9, W, rfl, c9, k9, hW, v9⟩
      exact ⟨h9, t9, nw9, rfl, c9, b8.has.later c8 c9 k9 (fun z => oC' (hW _ z).1), m8.keep k9 (fun z => oD (hW _ z).1), itk _ _ _ _ it8 k9 (fun z => hI (hW _ z).1) (fun b hb => (hW _ hb).2), v9⟩
    refine wpAny_mono (step i v ys h8 nw8 t8 C hi hv hy c8 b8 oC' v8) (fun ok s₃ h₃ => ?_) fun _ _ z => z
    cases ok with
    | false => exact key h₃
    | true => exact wpAny_mono h₃ (fun y s₄ h₄ => key h₄) fun _ _ z => z
  · intro ys h8 nw8 t8 c8 b8 m8 v8
    exact fin ys h8 nw8 t8 C D c8 b8 m8 oC' oD hDC v8
theorem self_rng {I : Addr} {i n : Nat} (it : RngIt I n i nw) {nw' : Led} {Q : Value → Shared → Prop} {E' : Value → Shared → Prop} (c : Fx Γ A env outer h₀ L h' l nw') (k : Keep (fun _ => False) nw nw') (q : Q (.ref I) (S Γ h' t)) : wpAny (model PG Γ.w) A (pyIter (.ref I)) Q E' (S Γ h' t) :=
  wpAny_pyIter_rangeiter (c.get (k _ it id)) q
theorem self_list {I a : Addr} {xs : List Value} {i : Nat} (it : ListIt I a xs i nw) {nw' : Led} {Q : Value → Shared → Prop} {E' : Value → Shared → Prop} (c : Fx Γ A env outer h₀ L h' l nw') (k : Keep (fun _ => False) nw nw') (q : Q (.ref I) (S Γ h' t)) : wpAny (model PG Γ.w) A (pyIter (.ref I)) Q E' (S Γ h' t) := by
  obtain ⟨⟨o, m, hc, hd⟩, _⟩ := it
  exact PySem.wpAny_pyIter_listiter ⟨o, c.get (k _ m id), hc, hd⟩ q
theorem itk_list {I a : Addr} {xs : List Value} (i : Nat) (n1 n2 : Led) (W : Addr → Prop) (it : ListIt I a xs i n1) (k : Keep W n1 n2) (h1 : ¬ W I) (h2 : ∀ b, W b → ¬ b = a) : ListIt I a xs i n2 := it.keep k h1 fun w => h2 _ w rfl
theorem itk_rng {I : Addr} {n : Nat} (i : Nat) (n1 n2 : Led) (W : Addr → Prop) (it : RngIt I n i n1) (k : Keep W n1 n2) (h1 : ¬ W I) (_ : ∀ b, W b → ¬ False) : RngIt I n i n2 := k _ it h1
end
/-- the ledger below an address -/
abbrev lo (I : Addr) (nw : Led) : Led := nw.filter fun p => decide (p.1 < I)
theorem lo_sub {I : Addr} {n : Led} : Keep (fun _ => False) (lo I n) n := fun p hp _ => (List.mem_filter.mp hp).1
theorem lo_keep {I : Addr} {n1 n2 : Led} {W : Addr → Prop} (k : Keep W n1 n2) : Keep W (lo I n1) (lo I n2) := fun p hp hn =>
  let ⟨h1, h2⟩ := List.mem_filter.mp hp
  List.mem_filter.mpr ⟨k p h1 hn, h2⟩
theorem lo_new {I b : Addr} {n1 n2 : Led} (hb : ¬ b < I) (k : Keep (· = b) n1 n2) : Keep (fun _ => False) (lo I n1) (lo I n2) := fun p hp _ => by
  obtain ⟨h1, h2⟩ := List.mem_filter.mp hp
  have h3 : p.1 < I := of_decide_eq_true h2
  exact List.mem_filter.mpr ⟨k p h1 fun e => hb (by rw [← show p.1 = b from e]; exact h3), h2⟩
theorem lo_all {I : Addr} {n n' : Led} (hI : ∀ p ∈ n, p.1 < I) (k : Keep (fun _ => False) n n') : Keep (fun _ => False) n (lo I n') := fun p hp _ => List.mem_filter.mpr ⟨k p hp id, decide_eq_true (hI p hp)⟩
theorem lo_mem {I a : Addr} {o : Obj} {n : Led} (m : (a, o) ∈ n) (h : a < I) : (a, o) ∈ lo I n := List.mem_filter.mpr ⟨m, decide_eq_true h⟩
theorem lo_lt {I a : Addr} {o : Obj} {n : Led} (m : (a, o) ∈ lo I n) : a < I := of_decide_eq_true (List.mem_filter.mp m).2
theorem lo_nd {I : Addr} {n : Led} (nd : (n.map (·.1)).Nodup) : ((lo I n).map (·.1)).Nodup := nd.sublist ((List.filter_sublist).map _)
theorem IsW.lt {I a : Addr} {T : String} {xs : List Value} {n : Led} (m : IsW T (lo I n) a xs) : a < I := let ⟨_, _, _, m, _⟩ := m; lo_lt m
theorem IsQ.lt {I a : Addr} {T : String} {xs : List Value} {n : Led} (m : IsQ T (lo I n) a xs) : a < I := let ⟨_, _, m⟩ := m; lo_lt m
theorem IsW.lo {I a : Addr} {T : String} {xs : List Value} {n : Led} (m : IsW T n a xs) (h : a < I) : IsW T (lo I n) a xs := ⟨m.1, let ⟨o, k, m, r⟩ := m.2; ⟨o, k, lo_mem m h, r⟩⟩
theorem IsQ.lo {I a : Addr} {T : String} {xs : List Value} {n : Led} (m : IsQ T n a xs) (h : a < I) : IsQ T (lo I n) a xs := ⟨m.1, let ⟨k, m⟩ := m.2; ⟨k, lo_mem m h⟩⟩
theorem StOk.lt {I st lst : Addr} {n : Led} (s : StOk (lo I n) st lst) : st < I ∧ lst < I := let ⟨_, _, _, _, a, b, _⟩ := s; ⟨a.lt, b.lt⟩
theorem StOk.lo {I st lst : Addr} {n : Led} (s : StOk n st lst) (h : st < I ∧ lst < I) : StOk (lo I n) st lst := let ⟨i, ti, vs, ns, a, b, d, e⟩ := s; ⟨i, ti, vs, ns, a.lo h.1, b.lo h.2, d, e⟩


/-! the law's state while the pieces are made -/
structure Lw (nw : Led) (L : Addr) (cv : Loc) (st lst pa ra na : Addr) (g : Gr) : Prop where
  cells : CellsAt nw (lawC L) cv
  sto : StOk nw st lst
  nd : [st, lst, pa, ra, na].Nodup
  plans : ∃ vs, IsQ "list" nw pa vs ∧ vs.length = g.n ∧ ∀ j, j < g.n → ∃ v, vs[j]? = some v ∧ IsPlan nw v (g.pl j)
  rows : IsQ "list" nw ra ((List.range g.n).map fun j => .ref (g.rs j))
  named : ∃ ts : Nat → Tok, IsQ "list" nw na ((List.range g.n).map fun j => .str (g.nm j) (ts j))
  ok : ∀ j, j < g.n → (g.pl j).ok j
  nm2 : ∀ j, j < g.n → (g.nm j).length = 2
  gr : GrAt nw g
  dxs : ∀ j, j < g.n → (g.dx j, dictOf [] 0) ∈ nw
  inj : ∀ i j, i < g.n → j < g.n → g.dx i = g.dx j → i = j
/-- what is written to holds no tuple, no dict and no own object -/
def Soft (W : Addr → Prop) (nw : Led) : Prop := ∀ a o, (a, o) ∈ nw → W a → notDict o ∧ soft o
theorem IsQ.soft {a : Addr} {xs : List Value} {nw : Led} (nd : (nw.map (·.1)).Nodup) (m : IsQ "list" nw a xs) : Soft (· = a) nw := fun b o h e => by
  obtain ⟨_, n, m⟩ := m
  have e : b = a := e
  subst e
  rw [uniq_nd nd m h]
  exact ⟨(fun es ep e => by cases e), soft_seqL⟩
theorem IsW.soft {a : Addr} {xs : List Value} {nw : Led} (nd : (nw.map (·.1)).Nodup) (m : IsW "list" nw a xs) : Soft (· = a) nw := fun b o h e => by
  obtain ⟨_, o', n, m, hc, hd⟩ := m
  have e : b = a := e
  subst e
  rw [uniq_nd nd m h]
  exact ⟨(fun es ep e => by rw [hd] at e; cases e), .inl ⟨(by rw [hc]; decide), (fun c e => by rw [hc] at e; cases e)⟩⟩
theorem odd.soft {a : Addr} {o : Obj} {nw : Led} (nd : (nw.map (·.1)).Nodup) (m : (a, o) ∈ nw) (h : odd o) : Soft (· = a) nw := fun b q hq e => by
  have e : b = a := e
  subst e
  rw [uniq_nd nd m hq]
  exact h.2
theorem Soft.noT {W : Addr → Prop} {nw : Led} (h : Soft W nw) {a : Addr} {xs : List Value} (m : IsW "tuple" nw a xs) : ¬ W a := fun w => by
  obtain ⟨_, o, n, m, hc, hd⟩ := m
  exact ((h _ _ m w).2.own fun v e => by rw [hd] at e; cases e).1 hc
theorem Soft.noI {W : Addr → Prop} {nw : Led} (h : Soft W nw) {x C dx : Addr} {sl : List (Option Value)} (m : (x, inO C dx sl) ∈ nw) : ¬ W x := fun w =>
  ((h _ _ m w).2.own fun v e => by cases e).2 C rfl
theorem Soft.noD {W : Addr → Prop} {nw : Led} (h : Soft W nw) {a : Addr} {o : Obj} (m : (a, o) ∈ nw) (d : isDictO o) : ¬ W a := fun w => let ⟨es, ep, d⟩ := d; (h _ _ m w).1 es ep d
section
variable {nw nw' : Led}
theorem odd.noL {a b : Addr} {o : Obj} {T : String} {xs : List Value} (nd : (nw.map (·.1)).Nodup) (m : (b, o) ∈ nw) (h : odd o) (w : IsW T nw a xs) : a ≠ b := fun e => by
  obtain ⟨_, o', n, m', _, hd⟩ := w
  subst e
  rw [uniq_nd nd m m'] at hd
  exact h.1 _ _ hd
theorem IsW.oddk {a b : Addr} {o : Obj} {T : String} {xs : List Value} (w : IsW T nw a xs) (nd : (nw.map (·.1)).Nodup) (m : (b, o) ∈ nw) (h : odd o) (k : Keep (· = b) nw nw') : IsW T nw' a xs := w.keep k (h.noL nd m w)
theorem IsQ.oddk {a b : Addr} {o : Obj} {T : String} {xs : List Value} (w : IsQ T nw a xs) (nd : (nw.map (·.1)).Nodup) (m : (b, o) ∈ nw) (h : odd o) (k : Keep (· = b) nw nw') : IsQ T nw' a xs := w.keep k (h.noL nd m w.w)
end
section
variable {W : Addr → Prop} {nw nw' : Led} {g : Gr}
theorem IsPlan.sf (h : Soft W nw) (k : Keep W nw nw') {v : Value} {p : Plan} (m : IsPlan nw v p) : IsPlan nw' v p :=
  let ⟨a, t1, t2, t3, t4, t5, e, m⟩ := m; ⟨a, t1, t2, t3, t4, t5, e, m.keep k (h.noT m.w)⟩
theorem IsExpr.sf (h : Soft W nw) (k : Keep W nw nw') {rs : Nat → Addr} {nm : Str} {e dx : Addr} {p : Plan} (m : IsExpr nw rs nm e dx p) : IsExpr nw' rs nm e dx p := by
  cases p with
  | word lit => obtain ⟨id, t1, t2, h1⟩ := m; exact ⟨id, t1, t2, k _ h1 (h.noI h1)⟩
  | chain a b => obtain ⟨T, id, t, h1, h2⟩ := m; exact ⟨T, id, t, k _ h1 (h.noI h1), h2.keep k (h.noT h2.w)⟩
  | choice a b => obtain ⟨T, id, t, h1, h2⟩ := m; exact ⟨T, id, t, k _ h1 (h.noI h1), h2.keep k (h.noT h2.w)⟩
  | look neg a => obtain ⟨T, id, t, h1, h2⟩ := m; exact ⟨T, id, t, k _ h1 (h.noI h1), h2.keep k (h.noT h2.w)⟩
  | many a least most => obtain ⟨mv, T, id, t, t', h1, h2, h3⟩ := m; exact ⟨mv, T, id, t, t', k _ h1 (h.noI h1), h2, h3.keep k (h.noT h3.w)⟩
theorem GrAt.sf (h : Soft W nw) (k : Keep W nw nw') (m : GrAt nw g) : GrAt nw' g := fun j hj => (m j hj).sf h k
theorem IsExpr.congr {rs rs' : Nat → Addr} {nm : Str} {e dx : Addr} {p : Plan} {n : Nat} (ok : p.ok n) (hr : ∀ j, j < n → rs j = rs' j) (m : IsExpr nw rs nm e dx p) : IsExpr nw rs' nm e dx p := by
  cases p with
  | word lit => exact m
  | chain a b => obtain ⟨T, id, t, h1, h2⟩ := m; rw [hr a ok.1, hr b ok.2] at h2; exact ⟨T, id, t, h1, h2⟩
  | choice a b => obtain ⟨T, id, t, h1, h2⟩ := m; rw [hr a ok.1, hr b ok.2] at h2; exact ⟨T, id, t, h1, h2⟩
  | look neg a => obtain ⟨T, id, t, h1, h2⟩ := m; rw [hr a ok] at h2; exact ⟨T, id, t, h1, h2⟩
  | many a least most => obtain ⟨mv, T, id, t, t', h1, h2, h3⟩ := m; rw [hr a ok.1] at h3; exact ⟨mv, T, id, t, t', h1, h2, h3⟩
/-- one more piece -/
def Gr.add (g : Gr) (p : Plan) (r : Addr) (nm : Str) (dx : Addr) : Gr :=
  { n := g.n + 1, pl := fun j => if j = g.n then p else g.pl j, tx := g.tx, rs := fun j => if j = g.n then r else g.rs j, nm := fun j => if j = g.n then nm else g.nm j, dx := fun j => if j = g.n then dx else g.dx j }
variable {L : Addr} {cv cv' : Loc} {st lst pa ra na : Addr}
theorem Lw.odd (s : Lw nw L cv st lst pa ra na g) (nd : (nw.map (·.1)).Nodup) {a : Addr} {o : Obj} (m : (a, o) ∈ nw) (h : odd o) (k : Keep (· = a) nw nw') (cells : CellsAt nw' (lawC L) cv') : Lw nw' L cv' st lst pa ra na g := by
  have sf := h.soft nd m
  have lq : ∀ {b xs}, IsW "list" nw b xs → ¬ b = a := fun {b xs} w e => by
    obtain ⟨_, o', n, m', _, hd⟩ := w
    subst e
    rw [uniq_nd nd m m'] at hd
    exact h.1 _ _ hd
  obtain ⟨vs, p1, p2, p3⟩ := s.plans
  obtain ⟨ts, n1⟩ := s.named
  obtain ⟨i, ti, vs', ns, x1, x2, x3, x4⟩ := s.sto
  exact { s with
    cells := cells
    sto := ⟨i, ti, vs', ns, x1.keep k (lq x1), x2.keep k (lq x2.w), x3, x4⟩
    plans := ⟨vs, p1.keep k (lq p1.w), p2, fun j hj => let ⟨v, e, q⟩ := p3 j hj; ⟨v, e, q.sf sf k⟩⟩
    rows := s.rows.keep k (lq s.rows.w)
    named := ⟨ts, n1.keep k (lq n1.w)⟩
    gr := s.gr.sf sf k
    dxs := fun j hj => k _ (s.dxs j hj) (sf.noD (s.dxs j hj) ⟨_, _, rfl⟩) }
theorem Lw.kept (s : Lw nw L cv st lst pa ra na g) (k : Keep (fun _ => False) nw nw') : Lw nw' L cv st lst pa ra na g := by
  have sf : Soft (fun _ => False) nw := fun _ _ _ w => w.elim
  obtain ⟨vs, p1, p2, p3⟩ := s.plans
  obtain ⟨ts, n1⟩ := s.named
  exact { s with
    cells := s.cells.keep k fun _ _ => id
    sto := s.sto.keep k id id
    plans := ⟨vs, p1.keep k id, p2, fun j hj => let ⟨v, e, q⟩ := p3 j hj; ⟨v, e, q.sf sf k⟩⟩
    rows := s.rows.keep k id
    named := ⟨ts, n1.keep k id⟩
    gr := s.gr.sf sf k
    dxs := fun j hj => k _ (s.dxs j hj) id }
theorem Lw.atSt (s : Lw nw L cv st lst pa ra na g) (nd : (nw.map (·.1)).Nodup) (k : Keep (· = st) nw nw') (st' : StOk nw' st lst) : Lw nw' L cv st lst pa ra na g := by
  obtain ⟨i, ti, vs', ns, x1, _⟩ := s.sto
  have sf := x1.soft nd
  obtain ⟨vs, p1, p2, p3⟩ := s.plans
  obtain ⟨ts, n1⟩ := s.named
  have h := s.nd
  simp only [List.nodup_cons, List.mem_cons, not_or, List.not_mem_nil, not_false_eq_true, and_true] at h
  obtain ⟨⟨h1, h2, h3, h4⟩, _⟩ := h
  refine { s with
    cells := s.cells.keepO k fun c o v m d e => ?_
    sto := st'
    plans := ⟨vs, p1.keep k (Ne.symm h2), p2, fun j hj => let ⟨v, e, q⟩ := p3 j hj; ⟨v, e, q.sf sf k⟩⟩
    rows := s.rows.keep k (Ne.symm h3)
    named := ⟨ts, n1.keep k (Ne.symm h4)⟩
    gr := s.gr.sf sf k
    dxs := fun j hj => k _ (s.dxs j hj) (sf.noD (s.dxs j hj) ⟨_, _, rfl⟩) }
  obtain ⟨_, o', n, m', _, hd⟩ := x1
  have e : c = st := e
  subst e
  rw [uniq_nd nd m' m] at d
  rw [hd] at d
  cases d
/-- one draw, below an address -/
theorem Lw.stIn {I : Addr} {n1 n2 : Led} (s : Lw (lo I n1) L cv st lst pa ra na g) (nd : (n1.map (·.1)).Nodup) (k : Keep (· = st) n1 n2) (st' : StOk n2 st lst) : Lw (lo I n2) L cv st lst pa ra na g :=
  s.atSt (lo_nd nd) (lo_keep k) (st'.lo s.sto.lt)
theorem Lw.next (s : Lw nw L cv st lst pa ra na g) (k : Keep W nw nw') (sf : Soft W nw) {p : Plan} {r dx : Addr} {nm : Str} {vs : List Value} {ts : Nat → Tok}
    (cells : CellsAt nw' (lawC L) cv') (st' : StOk nw' st lst) (p1 : IsQ "list" nw' pa vs) (p2 : vs.length = g.n + 1) (p3 : ∀ j, j < g.n + 1 → ∃ v, vs[j]? = some v ∧ IsPlan nw' v ((g.add p r nm dx).pl j))
    (r1 : IsQ "list" nw' ra ((List.range (g.n + 1)).map fun j => .ref ((g.add p r nm dx).rs j))) (n1 : IsQ "list" nw' na ((List.range (g.n + 1)).map fun j => .str ((g.add p r nm dx).nm j) (ts j)))
    (ok : p.ok g.n) (h2 : nm.length = 2) (ex : IsExpr nw' g.rs nm r dx p) (hd : (dx, dictOf [] 0) ∈ nw') (hn : ∀ q ∈ nw, q.1 < dx) : Lw nw' L cv' st lst pa ra na (g.add p r nm dx) := by
  have old : ∀ j, j < g.n + 1 → j ≠ g.n → j < g.n := fun j h1 h2 => by omega
  refine { cells := cells, sto := st', nd := s.nd, plans := ⟨vs, p1, p2, p3⟩, rows := r1, named := ⟨ts, n1⟩, ok := fun j hj => ?_, nm2 := fun j hj => ?_, gr := fun j hj => ?_, dxs := fun j hj => ?_, inj := fun i j hi hj e => ?_ }
  · show (if j = g.n then p else g.pl j).ok j
    split
    · rename_i e; rw [e]; exact ok
    · rename_i e; exact s.ok j (old j hj e)
  · show (if j = g.n then nm else g.nm j).length = 2
    split
    · exact h2
    · rename_i e; exact s.nm2 j (old j hj e)
  · have hr : ∀ i, i < g.n → g.rs i = (g.add p r nm dx).rs i := fun i hi => (if_neg (Nat.ne_of_lt hi)).symm
    show IsExpr nw' (g.add p r nm dx).rs (if j = g.n then nm else g.nm j) (if j = g.n then r else g.rs j) (if j = g.n then dx else g.dx j) (if j = g.n then p else g.pl j)
    by_cases e : j = g.n
    · simp only [if_pos e]
      exact ex.congr ok hr
    · simp only [if_neg e]
      have hj := old j hj e
      exact ((s.gr j hj).sf sf k).congr (s.ok j hj) fun i hi => hr i (Nat.lt_trans hi hj)
  · show ((if j = g.n then dx else g.dx j), dictOf [] 0) ∈ nw'
    split
    · exact hd
    · rename_i e
      have m := s.dxs j (old j hj e)
      exact k _ m (sf.noD m ⟨_, _, rfl⟩)
  · have e : (if i = g.n then dx else g.dx i) = (if j = g.n then dx else g.dx j) := e
    split at e <;> split at e
    · omega
    · rename_i h1 h2
      have := hn _ (s.dxs j (old j hj h2))
      rw [← e] at this
      exact absurd this (Nat.lt_irrefl _)
    · rename_i h1 h2
      have := hn _ (s.dxs i (old i hi h1))
      rw [e] at this
      exact absurd this (Nat.lt_irrefl _)
    · rename_i h1 h2
      exact s.inj i j (old i hi h1) (old j hj h2) e
end


local macro_rules | `(tactic| walk_at "m:cells") => `(tactic| first | assumption | (apply CellsAt.cons_; walk_at "m:cells"))
local macro_rules | `(tactic| walk_at "m:s") => `(tactic| first
  | ((with_reducible show wpAny _ _ (eval (PySem.Expr.Name _ _) (compEnvC _ _ _ _)) _ _ _); first | refine xbloc (by assumption) (by assumption) (by rfl) rfl ?_ | refine xbcell (by assumption) (by assumption) (by walk_at "m:cells") (by walk_at "m:lk") (by rfl) (by rfl) rfl ?_ | refine xbglob (by assumption) (by walk_at "m:gname") (by rfl) rfl ?_ | refine xbblt (by assumption) (gb_len _) bb_len (by decide) (by rfl) rfl ?_ | refine xbblt (by assumption) (gb_range _) bb_range (by decide) (by rfl) rfl ?_)
  | ((with_reducible show wpAny _ _ (eval (PySem.Expr.Name _ _) _) _ _ _); refine xcell (by assumption) (by assumption) (by walk_at "m:cells") (by walk_at "m:lk") (by walk_at "m:kd") ?_)
  | ((with_reducible show wpAny _ _ (storeName _ _ _) _ _ _); refine xcellSet (by assumption) (by assumption) (by walk_at "m:cells") (by walk_at "m:set") (by walk_at "m:kd") ?_; intro _ _ _ _ ⟨_, _, _, _, _, _⟩ _))


abbrev lawL (la : Addr) (rows starts top cache start stop node told : Option Value) : Loc :=
  [("script", some (.ref la)), ("rows", rows), ("starts", starts), ("top", top), ("cache", cache), ("start", start), ("end", stop), ("node", node), ("told", told)]
abbrev lawV (own kept due seen text k named plans state : Option Value) : Loc :=
  [("own", own), ("kept", kept), ("due", due), ("seen", seen), ("text", text), ("k", k), ("named", named), ("plans", plans), ("state", state)]
theorem odd_rng {i n : Nat} : odd (rangeItO i n) := ⟨(fun xs n e => by cases e), (fun es ep e => by cases e), .inl ⟨(fun e => by injection e with e; exact absurd e (by decide)), fun c e => by cases e⟩⟩
theorem Lw.ne {nw : Led} {L : Addr} {cv : Loc} {st lst pa ra na : Addr} {g : Gr} (s : Lw nw L cv st lst pa ra na g) : (lst ≠ st ∧ pa ≠ st ∧ ra ≠ st ∧ na ≠ st) ∧ (pa ≠ lst ∧ ra ≠ lst ∧ na ≠ lst) ∧ (ra ≠ pa ∧ na ≠ pa) ∧ na ≠ ra := by
  have h := s.nd
  simp only [List.nodup_cons, List.mem_cons, not_or, List.not_mem_nil, not_false_eq_true, and_true] at h
  obtain ⟨⟨h1, h2, h3, h4⟩, ⟨h5, h6, h7⟩, ⟨h8, h9⟩, h10⟩ := h
  exact ⟨⟨Ne.symm h1, Ne.symm h2, Ne.symm h3, Ne.symm h4⟩, ⟨Ne.symm h5, Ne.symm h6, Ne.symm h7⟩, ⟨Ne.symm h8, Ne.symm h9⟩, Ne.symm h10.1⟩
theorem StOk.soft {nw : Led} {st lst : Addr} (nd : (nw.map (·.1)).Nodup) (s : StOk nw st lst) : Soft (· = st) nw := let ⟨_, _, _, _, x, _⟩ := s; x.soft nd
section
variable {Γ : Gm} {A : Around} {env : Env} {h₀ : Heap} {L : Addr} {h h' : Heap} {l l' : Loc} {nw : Led} {t : Nat} {pos : Pos} {fa : Addr} {cd : Value} {la st lst pa ra na : Addr} {g : Gr} {Q : Flow → Shared → Prop}
set_option maxRecDepth 100000 in
set_option maxHeartbeats 8000000 in
theorem law_for1 (he : env = lawE Γ.w L fa cd) (c : Fx Γ A env [] h₀ L h (lawL la (some (.ref ra)) none none none none none none none) nw) (r : Room A 60)
    (s : Lw nw L (lawV none none none none none none (some (.ref na)) (some (.ref pa)) (some (.ref st))) st lst pa ra na g) (hg0 : g.n = 0)
    (q : ∀ h' t' nw' kv g', Fx Γ A env [] h₀ L h' (lawL la (some (.ref ra)) none none none none none none none) nw' → Lw nw' L (lawV none none none none none kv (some (.ref na)) (some (.ref pa)) (some (.ref st))) st lst pa ra na g' → 1 ≤ g'.n → g'.n ≤ 8 → Q .next (S Γ h' t')) :
    wpAny (model PG Γ.w) A (exec (lawAt Γ.w 4) env) Q (fun _ _ => False) (S Γ h t) := by
  have cl := s.cells
  show wpAny _ _ (exec (Stmt.For _ _ _ _ _) _) _ _ _
  refine xFor ?_
  walk_at "m:go"
  refine next_ok2 (lim := 8) (n := 50) c (r.mono (by omega)) s.sto (by decide) fun h2 t2 t3 x nw2 hx c2 s2 k2 => ?_
  have w2 := s.atSt c.nd k2 s2
  walk_at "m:go"
  rw [show (1 : Int) + (x : Int) = ((1 + x : Nat) : Int) by omega]
  refine xiter_rng c2 (by omega) fun I h3 t4 r3 o3 c3 l3 lr X3 => ?_
  have k3 : Keep (fun _ => False) nw2 ((I, rangeItO 0 (1 + x)) :: (r3, o3) :: nw2) := Keep.cons.trans Keep.cons
  have w3 := w2.kept k3
  refine xforLoop X3 (fun i l n => l = lawL la (some (.ref ra)) none none none none none none none ∧ ∃ kv g', g'.n = i ∧ Lw n L (lawV none none none none none kv (some (.ref na)) (some (.ref pa)) (some (.ref st))) st lst pa ra na g') c3 (.head _) ⟨rfl, none, g, hg0, w3⟩ ?_ ?_
  · rintro i v h6 l6 nw6 t6 o6 hb hi ⟨ti, rfl⟩ cb itb c6 it6 ⟨rfl, kv, g6, hn6, w6⟩
    have w7 := w6.odd cb.nd itb odd_rng (Keep.put (o := o6)) (w6.cells.keepO Keep.put fun c o v m d e => by
      have e : c = I := e
      subst e
      rw [uniq_nd cb.nd itb m] at d
      cases d)
    refine wpAny_pure ?_
    clear w6 itb cb
    have cl7 := w7.cells
    walk_at "m:go"
    rename_i h8 nw8 c8 cl8 ca co mco oco _ k8 kd8
    have w8 := w7.odd c6.nd mco oco k8 cl8
    have it8 : RngIt I (1 + x) (i + 1) nw8 := k8 _ it6 fun e => by
      obtain ⟨o, m⟩ := w2.cells.mem (by assumption : ca ∈ (lawC L).map (·.2))
      exact absurd (Nat.lt_trans (l3 _ m) lr) (by rw [show I = ca from e]; exact Nat.lt_irrefl _)
    clear w7 cl7 k8 kd8 mco
    obtain ⟨vs, p1, p2, p3⟩ := w8.plans
    obtain ⟨⟨n1, n2, n3, n4⟩, ⟨n5, n6, n7⟩, ⟨n8, n9⟩, n10⟩ := w8.ne
    refine xappendM c8 p1 ?_
    dsimp only
    walk_at "m:go"
    refine plan_ok (n := 40) c8 (r.mono (by omega)) w8.sto fun h9 t9 v9 p9 nw9 c9 s9 k9 ok9 ip9 => ?_
    have w9 := w8.atSt c8.nd k9 s9
    have q9 := p1.keep k9 n2
    walk_at "m:go"
    refine xappend c9 q9 (by omega) fun h10 o10 _ c10 q10 => ?_
    have k10 : Keep (· = pa) nw9 (put nw9 pa o10) := Keep.put
    have sf10 := q9.soft c9.nd
    have cl10 : CellsAt (put nw9 pa o10) (lawC L) _ := w9.cells.keepO k10 fun c o v m d e => by
      have e : c = pa := e
      subst e
      obtain ⟨_, n, m'⟩ := q9
      rw [uniq_nd c9.nd m' m] at d
      cases d
    have s10 := s9.keep k10 n2.symm n5.symm
    have ra10 := w9.rows.keep k10 n8
    obtain ⟨ts, na9⟩ := w9.named
    have na10 := na9.keep k10 n9
    walk_at "m:go"
    refine xappendM c10 na10 ?_
    dsimp only
    walk_at "m:go"
    refine xListComp (cl := [("plans", L + 2), ("k", L + 4)]) (by rw [he]; rfl) rfl (by decide) ?_
    walk_at "m:go"
    refine xSliceTo ?_
    walk_at "m:go"
    have P10 : ∀ j, j < i + 1 → ∃ v, (vs ++ [v9])[j]? = some v ∧ IsPlan (put nw9 pa o10) v (if j = g6.n then p9 else g6.pl j) := fun j hj => by
      by_cases e : j = g6.n
      · rw [if_pos e]
        exact ⟨v9, by rw [e, ← p2, List.getElem?_append_right (Nat.le_refl _)]; simp, ip9.sf sf10 k10⟩
      · rw [if_neg e]
        obtain ⟨v, hv, ip⟩ := p3 j (by omega)
        have hl := (List.getElem?_eq_some_iff.mp hv).1
        exact ⟨v, by rw [List.getElem?_append_left hl]; exact hv, (ip.sf (w8.sto.soft c8.nd) k9).sf sf10 k10⟩
    generalize hpl6 : (fun j => if j = g6.n then p9 else g6.pl j) = pl6
    replace P10 : ∀ j, j < i + 1 → ∃ v, (vs ++ [v9])[j]? = some v ∧ IsPlan (put nw9 pa o10) v (pl6 j) := by rw [← hpl6]; exact P10
    refine xsliceL c10 (q10.w.isList c10) q10.1 fun h11 D0 c11 l11 m11 => ?_
    refine xiter_list c11 m11.w fun I2 h12 o12 c12 l12 X12 it12 => ?_
    have f12 : ∀ p ∈ ((D0, seqO "list" ((vs ++ [v9]).take i) 0) :: put nw9 pa o10), p.1 ≠ I2 := fun p hp z => absurd (l12 p hp) (by rw [z]; exact Nat.lt_irrefl _)
    have hln : ((vs ++ [v9]).take i).length = i := by rw [List.length_take, List.length_append]; simp only [List.length_cons, List.length_nil]; omega
    refine xcomp (fun b => ∃ o, (b, o) ∈ ((D0, seqO "list" ((vs ++ [v9]).take i) 0) :: put nw9 pa o10)) (· = D0) (fun j ys n => ys.length ≤ j ∧ Keep (fun _ => False) ((D0, seqO "list" ((vs ++ [v9]).take i) 0) :: put nw9 pa o10) n) X12 c12 (by decide) rfl (by rfl) (self_list it12) (fun b ⟨o, m⟩ => .inl ⟨o, .tail _ m⟩) (fun ⟨o, m⟩ => f12 _ m rfl) ⟨_, .head _⟩ (fun b (e : b = D0) => by subst e; exact ⟨_, .tail _ (.head _)⟩) (by omega)
      itk_list it12 (fun j ys n1 n2 b hb k ⟨v1, v2⟩ => ⟨v1, fun p hp _ => k p (v2 p hp id) fun e => hb ⟨p.2, by rw [← show p.1 = b from e]; exact hp⟩⟩) (fun n2 k => ⟨Nat.le_refl _, Keep.cons.trans k⟩) ?_ ?_
    · rintro j v ys h13 nw13 t13 C hj hv hy c13 b13 oC ⟨v1, v2⟩
      have cl13 := cl10.cons_.keep v2 fun _ _ => id
      have m13 := q10.cons.keep v2 id
      have P13 : ∀ j, j < i + 1 → ∃ v, (vs ++ [v9])[j]? = some v ∧ IsPlan nw13 v (pl6 j) := fun j hj => let ⟨v, e, q⟩ := P10 j hj; ⟨v, e, (q.sf (fun _ _ _ w => w.elim) (Keep.cons (W := fun _ => False))).sf (fun _ _ _ w => w.elim) v2⟩
      rw [hln] at hj
      rw [List.getElem?_take, if_pos hj] at hv
      obtain ⟨v', hv', ipj⟩ := P13 j (by omega)
      obtain rfl : v = v' := Option.some.inj (hv.symm.trans hv')
      obtain ⟨vi, hvi, ipi⟩ := P13 i (by omega)
      refine wpAny_tests_one ?_
      walk_at "m:go"
      refine sort_ok (n := 40) c13 (r.mono (by omega)) ipj fun h14 t14 u14 nw14 c14 k14 => ?_
      have cl14 := cl13.keep k14 fun _ _ => id
      have b14 := b13.later c13 c14 k14 id
      walk_at "m:go"
      refine xitem c14 (m13.keep k14 id).w (by omega) (by simpa using hvi) ?_
      walk_at "m:go"
      refine sort_ok (n := 40) c14 (r.mono (by omega)) (ipi.sf (fun _ _ _ w => w.elim) k14) fun h15 t15 u15 nw15 c15 k15 => ?_
      have b15 := b14.later c14 c15 k15 id
      walk_at "m:go"
      split
      · walk_at "m:go"
        exact ⟨_, _, _, fun _ => False, rfl, c15, k14.trans k15, fun _ z => z.elim, by rw [List.length_append]; simp only [List.length_cons, List.length_nil]; omega, (v2.trans k14).trans k15⟩
      · exact ⟨_, _, _, fun _ => False, rfl, c15, k14.trans k15, fun _ z => z.elim, by omega, (v2.trans k14).trans k15⟩
    · rintro ys h13 nw13 t13 C D c13 b13 m13 oC oD hDC ⟨v1, v2⟩
      refine comp_end c13 b13 fun h16 c16 => ?_
      have k16 : Keep (fun _ => False) (put nw9 pa o10) (nw13.filter fun p => p.1 != C) := fun p hp _ => List.mem_filter.mpr ⟨v2 p (.tail _ hp) id, by
        simp only [bne_iff_ne, ne_eq]
        exact fun e => oC ⟨p.2, e ▸ .tail _ hp⟩⟩
      have m16 := m13.keep keep_drop hDC
      walk_at "m:go"
      refine xlen c16 m16.w fun t17 => ?_
      walk_at "m:go"
      refine xmod (by decide) fun t18 => ?_
      walk_at "m:go"
      rw [show ((ys.length : Int).fmod 2) = ((ys.length % 2 : Nat) : Int) by rw [Int.fmod_eq_emod_of_nonneg _ (by decide)]; omega]
      refine xstrI (Nat.mod_lt _ (by decide)) fun t19 u19 y hy => ?_
      walk_at "m:go"
      refine xaddS (by decide) (by omega) fun t20 u20 => ?_
      have hnm : (Str.ofString "e" ++ y).length = 2 := by rw [Str.length_append, hy]; decide
      generalize Str.ofString "e" ++ y = nm at hnm
      walk_at "m:go"
      have na16 := na10.keep k16 id
      refine xappend c16 na16 (by simp; omega) fun h21 o21 _ c21 na21 => ?_
      have sf16 := na16.soft c16.nd
      have k21 : Keep (· = na) (nw13.filter fun p => p.1 != C) (put (nw13.filter fun p => p.1 != C) na o21) := Keep.put
      have cl21 := (cl10.keep k16 fun _ _ => id).keepO k21 fun c o v m d e => by
        have e : c = na := e
        subst e
        obtain ⟨_, n, m'⟩ := na16
        rw [uniq_nd c16.nd m' m] at d
        cases d
      have s21 := (s10.keep k16 id id).keep k21 n4.symm n7.symm
      have q21 := (q10.keep k16 id).keep k21 n9.symm
      have ra21 := (ra10.keep k16 id).keep k21 n10.symm
      walk_at "m:go"
      refine xappendM c21 ra21 ?_
      dsimp only
      walk_at "m:go"
      have P21 : ∀ j, j < i + 1 → ∃ v, (vs ++ [v9])[j]? = some v ∧ IsPlan (put (nw13.filter fun p => p.1 != C) na o21) v (pl6 j) := fun j hj => let ⟨v, e, q⟩ := P10 j hj; ⟨v, e, (q.sf (fun _ _ _ w => w.elim) k16).sf sf16 k21⟩
      have hv9 : (vs ++ [v9])[i]? = some v9 := by rw [← hn6, ← p2, List.getElem?_append_right (Nat.le_refl _)]; simp
      have ip21 : IsPlan (put (nw13.filter fun p => p.1 != C) na o21) v9 p9 := ((ip9.sf sf10 k10).sf (fun _ _ _ w => w.elim) k16).sf sf16 k21
      refine xitem c21 q21.w (by omega) (by simpa using hv9) ?_
      walk_at "m:go"
      refine xitem c21 na21.w (by omega) (v := .str nm u20) (by rw [Int.toNat_natCast, ← hn6, List.getElem?_append_right (by simp)]; simp) ?_
      walk_at "m:go"
      subst hn6
      refine built_ok (n := 40) c21 (r.mono (by omega)) ip21 ok9 ra21.w (rs := g6.rs) (fun j hj => by rw [List.getElem?_map, List.getElem?_range hj]; rfl) fun h22 t22 e dx nw22 c22 k22 ex22 hd22 le22 lt22 => ?_
      walk_at "m:go"
      have ra22 := ra21.keep k22 id
      refine xappend c22 ra22 (by simp; omega) fun h23 o23 _ c23 ra23 => ?_
      walk_at "m:go"
      have k23 : Keep (· = ra) nw22 (put nw22 ra o23) := Keep.put
      have sf22 := ra22.soft c22.nd
      have kW : Keep (fun a => a = st ∨ a = pa ∨ a = na ∨ a = ra) nw8 (put nw22 ra o23) :=
        ((((k9.mono fun a e => .inl e).trans (k10.mono fun a e => .inr (.inl e))).trans (k16.mono fun a e => e.elim)).trans (k21.mono fun a e => .inr (.inr (.inl e)))).trans ((k22.mono fun a e => e.elim).trans (k23.mono fun a e => .inr (.inr (.inr e))))
      have sfW : Soft (fun a => a = st ∨ a = pa ∨ a = na ∨ a = ra) nw8 := fun a o m w => by
        rcases w with w | w | w | w
        · exact w8.sto.soft c8.nd a o m w
        · exact p1.soft c8.nd a o m w
        · exact w8.named.choose_spec.soft c8.nd a o m w
        · exact w8.rows.soft c8.nd a o m w
      have hdx : ∀ q ∈ nw8, q.1 < dx := fun q hq => by
        have k821 : Keep (fun a => a = st ∨ a = pa ∨ a = na) nw8 (put (nw13.filter fun p => p.1 != C) na o21) :=
          (((k9.mono fun a e => .inl e).trans (k10.mono fun a e => .inr (.inl e))).trans (k16.mono fun a e => e.elim)).trans (k21.mono fun a e => .inr (.inr e))
        by_cases w : q.1 = st ∨ q.1 = pa ∨ q.1 = na
        · rcases w with w | w | w
          · obtain ⟨_, _, _, _, ⟨_, o, _, m, _⟩, _⟩ := s21
            rw [w]; exact lt22 _ m
          · obtain ⟨_, n, m⟩ := q21
            rw [w]; exact lt22 _ m
          · obtain ⟨_, n, m⟩ := na21
            rw [w]; exact lt22 _ m
        · exact lt22 _ (k821 q hq w)
      have it23 : RngIt I (1 + x) (g6.n + 1) (put nw22 ra o23) := kW _ it8 fun w => by
        have := (sfW _ _ it8 w).2.own fun v e => by cases e
        rcases w with w | w | w | w
        · obtain ⟨_, _, _, _, x1, _⟩ := w8.sto
          exact it8.ne c8 x1 w.symm
        · exact it8.ne c8 p1.w w.symm
        · exact it8.ne c8 w8.named.choose_spec.w w.symm
        · exact it8.ne c8 w8.rows.w w.symm
      have hne : ∀ {α : Type} (a b : α) (f : Nat → α), (List.range (g6.n + 1)).map (fun j => if j = g6.n then a else f j) = (List.range g6.n).map f ++ [a] := fun a b f => by
        rw [List.range_succ, List.map_append]
        congr 1
        · exact List.map_congr_left fun j hj => if_neg (Nat.ne_of_lt (List.mem_range.mp hj))
        · simp
      have cl23 : CellsAt (put nw22 ra o23) (lawC L) _ := (cl21.keep k22 fun _ _ => id).keepO k23 fun c o v m d e => by
        have e : c = ra := e
        subst e
        obtain ⟨_, n, m'⟩ := ra22
        rw [uniq_nd c22.nd m' m] at d
        cases d
      refine ⟨_, _, _, _, rfl, c23, it23, rfl, _, g6.add p9 e nm dx, rfl, w8.next (ts := fun j => if j = g6.n then u20 else ts j) kW sfW cl23 ((s21.keep k22 id id).keep k23 n3.symm n6.symm) ((q21.keep k22 id).keep k23 n8.symm) (by rw [List.length_append, p2]; rfl) (fun j hj => ?_) ?_ ?_ ok9 hnm (ex22.sf sf22 k23) (k23 _ hd22 (sf22.noD hd22 ⟨_, _, rfl⟩)) hdx⟩
      · obtain ⟨v, hv, ip⟩ := P21 j hj
        refine ⟨v, hv, ?_⟩
        rw [← hpl6] at ip
        exact (ip.sf (fun _ _ _ w => w.elim) k22).sf sf22 k23
      · have e2 : ((List.range (g6.n + 1)).map fun j => Value.ref ((g6.add p9 e nm dx).rs j)) = (List.range g6.n).map (fun j => Value.ref (g6.rs j)) ++ [Value.ref e] := by
          rw [← hne (Value.ref e) (Value.ref e) (fun j => Value.ref (g6.rs j))]
          exact List.map_congr_left fun j _ => by show Value.ref (if j = g6.n then e else g6.rs j) = _; split <;> rfl
        rw [e2]
        exact ra23
      · have e2 : ((List.range (g6.n + 1)).map fun j => Value.str ((g6.add p9 e nm dx).nm j) (if j = g6.n then u20 else ts j)) = (List.range g6.n).map (fun j => Value.str (g6.nm j) (ts j)) ++ [Value.str nm u20] := by
          rw [← hne (Value.str nm u20) (Value.str nm u20) (fun j => Value.str (g6.nm j) (ts j))]
          exact List.map_congr_left fun j _ => by show Value.str (if j = g6.n then nm else g6.nm j) (if j = g6.n then u20 else ts j) = _; split <;> rfl
        rw [e2]
        exact (na21.keep k22 id).keep k23 n10
  · rintro h6 l6 nw6 nw7 t6 hb cb itb c7 k7 ⟨rfl, kv, g6, hn6, w6⟩
    walk_at "m:go"
    have w7 := w6.odd cb.nd itb odd_rng k7 (w6.cells.keepO k7 fun c o v m d e => by
      have e : c = I := e
      subst e
      rw [uniq_nd cb.nd itb m] at d
      cases d)
    exact q _ _ _ kv g6 c7 w7 (by omega) (by omega)
end


section
variable {Γ : Gm} {A : Around} {env : Env} {h₀ : Heap} {L : Addr} {h h' : Heap} {l l' : Loc} {nw : Led} {t : Nat} {pos : Pos} {fa : Addr} {cd : Value} {la : Addr} {Q : Flow → Shared → Prop} {rest : List Stmt}
theorem ints_of {vs : List Value} {ns : List Int} (h : IntsAre vs ns) : IsInts vs ns := by
  induction h with
  | nil => exact ⟨rfl, fun j n e => by simp at e⟩
  | cons n t h ih =>
    refine ⟨by simp [ih.1], fun j m e => ?_⟩
    cases j with
    | zero => simp at e; subst e; exact ⟨t, rfl⟩
    | succ j => exact ih.2 j m (by simpa using e)
set_option maxRecDepth 100000 in
set_option maxHeartbeats 8000000 in
theorem law_head {vs : List Value} {ns : List Int} (he : env = lawE Γ.w L fa cd) (c : Fx Γ A env [] h₀ L h (lawL la none none none none none none none none) nw) (cl : CellsAt nw (lawC L) (lawV none none none none none none none none none)) (hL : h₀.IsList la vs.toArray) (hI : IntsAre vs ns) (hlen : vs.length ≤ 100)
    (q : ∀ h' t' nw' st lst pa ra na g, g.n = 0 → Fx Γ A env [] h₀ L h' (lawL la (some (.ref ra)) none none none none none none none) nw' → Lw nw' L (lawV none none none none none none (some (.ref na)) (some (.ref pa)) (some (.ref st))) st lst pa ra na g → wpAny (model PG Γ.w) A (execs rest env) Q (fun _ _ => False) (S Γ h' t')) :
    wpAny (model PG Γ.w) A (execs (lawAt Γ.w 0 :: lawAt Γ.w 1 :: lawAt Γ.w 2 :: lawAt Γ.w 3 :: rest) env) Q (fun _ _ => False) (S Γ h t) := by
  refine wpAny_execs_cons ?_
  show wpAny _ _ (exec (Stmt.Assign [Expr.Name _ _] _ _) _) _ _ _
  walk_at "m:go"
  refine xSliceTo ?_
  walk_at "m:go"
  have hL' : h.IsList la vs.toArray := let ⟨o, ho, x⟩ := hL; ⟨o, c.F.keep _ _ ho, x⟩
  refine xsliceL (k := 60) c hL' (by omega) fun h2 lst c2 l2 m2 => ?_
  walk_at "m:go"
  rename_i h4 st _ _ c4 m4 h5 nw5 c5 cl5 ca5 co5 mc5 oc5 _ k5 _
  have lst5 := m2.cons.oddk c4.nd mc5 oc5 k5
  have st5 := m4.oddk c4.nd mc5 oc5 k5
  have ne1 : lst ≠ st := fun z => by
    have := c4.nd
    rw [List.map_cons, List.nodup_cons] at this
    exact this.1 (by rw [← z]; exact .head _)
  clear k5 mc5 m4 m2
  show wpAny _ _ (exec (Stmt.Assign [Expr.Name _ _] _ _) _) _ _ _
  walk_at "m:go"
  rename_i h6 pa _ _ c6 m6 h7 nw7 c7 cl7 ca7 co7 mc7 oc7 _ k7 _
  have lst7 := lst5.cons.oddk c6.nd mc7 oc7 k7
  have st7 := st5.cons.oddk c6.nd mc7 oc7 k7
  have pa7 := m6.oddk c6.nd mc7 oc7 k7
  have f6 : ∀ {T b xs}, IsQ T nw5 b xs → b ≠ pa := fun {T b xs} m z => by
    have := c6.nd
    rw [List.map_cons, List.nodup_cons] at this
    obtain ⟨_, n, m⟩ := m
    exact this.1 (by rw [← z]; exact List.mem_map_of_mem (f := (·.1)) m)
  have ne2 := f6 lst5
  have ne3 := f6 st5
  clear k7 mc7 m6
  show wpAny _ _ (exec (Stmt.Assign [Expr.Name _ _] _ _) _) _ _ _
  walk_at "m:go"
  rename_i h8 ra _ _ c8 m8 h9 t9 c9 _
  have f8 : ∀ {T b xs}, IsQ T nw7 b xs → b ≠ ra := fun {T b xs} m z => by
    have := c8.nd
    rw [List.map_cons, List.nodup_cons] at this
    obtain ⟨_, n, m⟩ := m
    exact this.1 (by rw [← z]; exact List.mem_map_of_mem (f := (·.1)) m)
  show wpAny _ _ (exec (Stmt.Assign [Expr.Name _ _] _ _) _) _ _ _
  walk_at "m:go"
  rename_i h10 na _ _ c10 m10 h11 nw11 c11 cl11 ca11 co11 mc11 oc11 _ k11 _
  have f10 : ∀ {T b xs}, IsQ T ((ra, seqO "list" [] 0) :: nw7) b xs → b ≠ na := fun {T b xs} m z => by
    have := c10.nd
    rw [List.map_cons, List.nodup_cons] at this
    obtain ⟨_, n, m⟩ := m
    exact this.1 (by rw [← z]; exact List.mem_map_of_mem (f := (·.1)) m)
  have lst11 := lst7.cons.cons.oddk c10.nd mc11 oc11 k11
  have st11 := st7.cons.cons.oddk c10.nd mc11 oc11 k11
  have pa11 := pa7.cons.cons.oddk c10.nd mc11 oc11 k11
  have ra11 := m8.cons.oddk c10.nd mc11 oc11 k11
  have na11 := m10.oddk c10.nd mc11 oc11 k11
  refine q _ _ _ st lst pa ra na ⟨0, fun _ => .word (Str.ofString ""), Str.ofString "", fun _ => 0, fun _ => Str.ofString "", fun _ => 0⟩ rfl c11 ⟨cl11, ⟨0, _, vs.take 60, ns.take 60, st11.w, lst11, ints_of (hI.take 60), ne1⟩, ?_, ⟨[], pa11, rfl, fun j hj => absurd hj (Nat.not_lt_zero _)⟩, ra11, ⟨fun _ => 0, na11⟩, ?_, ?_, ?_, ?_, ?_⟩
  · simp only [List.nodup_cons, List.mem_cons, not_or, List.not_mem_nil, not_false_eq_true, and_true, List.nodup_nil]
    exact ⟨⟨Ne.symm ne1, ne3, f8 st7, f10 st7.cons⟩, ⟨ne2, f8 lst7, f10 lst7.cons⟩, ⟨f8 pa7, f10 pa7.cons⟩, f10 m8⟩
  all_goals first | exact fun i j hi => absurd hi (Nat.not_lt_zero _) | exact fun j hj => absurd hj (Nat.not_lt_zero _)
end


section
variable {Γ : Gm} {A : Around} {env : Env} {h₀ : Heap} {L : Addr} {h h' : Heap} {l l' : Loc} {nw : Led} {t : Nat} {pos : Pos} {fa : Addr} {cd : Value} {la st lst pa ra na : Addr} {g : Gr} {Q : Flow → Shared → Prop}
set_option maxRecDepth 100000 in
set_option maxHeartbeats 8000000 in
theorem law_text {kv : Option Value} (he : env = lawE Γ.w L fa cd) (c : Fx Γ A env [] h₀ L h (lawL la (some (.ref ra)) none none none none none none none) nw) (r : Room A 60)
    (s : Lw nw L (lawV none none none none none kv (some (.ref na)) (some (.ref pa)) (some (.ref st))) st lst pa ra na g)
    (q : ∀ h' t' nw' tx tt, tx.length ≤ 7 → Fx Γ A env [] h₀ L h' (lawL la (some (.ref ra)) none none none none none none none) nw' → Lw nw' L (lawV none none none none (some (.str tx tt)) kv (some (.ref na)) (some (.ref pa)) (some (.ref st))) st lst pa ra na g → Q .next (S Γ h' t')) :
    wpAny (model PG Γ.w) A (exec (lawAt Γ.w 5) env) Q (fun _ _ => False) (S Γ h t) := by
  have cl := s.cells
  show wpAny _ _ (exec (Stmt.Assign [Expr.Name _ _] _ _) _) _ _ _
  walk_at "m:go"
  refine GM.join ?_
  dsimp only
  walk_at "m:go"
  refine xListComp (cl := [("state", L + 1)]) (by rw [he]; rfl) rfl (by decide) ?_
  walk_at "m:go"
  refine next_ok2 (lim := 8) (n := 50) c (r.mono (by omega)) s.sto (by decide) fun h2 t2 t3 x nw2 hx c2 s2 k2 => ?_
  have w2 := s.atSt c.nd k2 s2
  walk_at "m:go"
  refine xiter_rng c2 (by omega) fun I h3 t4 r3 o3 c3 l3 lr X3 => ?_
  have hI2 : ∀ p ∈ nw2, p.1 < I := fun p hp => Nat.lt_trans (l3 p hp) lr
  have it3 : RngIt I x 0 ((I, rangeItO 0 x) :: (r3, o3) :: nw2) := .head _
  refine xcomp (· < I) (fun _ => False) (fun j ys n => ∃ ss : List (Str × Tok), ys = strValues ss ∧ ss.length = j ∧ (∀ p ∈ ss, p.1.length = 1) ∧ Lw (lo I n) L (lawV none none none none none kv (some (.ref na)) (some (.ref pa)) (some (.ref st))) st lst pa ra na g) X3 c3 (by decide) rfl (by rfl) (self_rng it3) (fun b hb => .inr hb) (Nat.lt_irrefl _) ⟨_, .head _⟩ (fun b hb => hb.elim) (by omega)
    itk_rng it3 (fun j ys n1 n2 b hb k ⟨ss, e1, e2, e3, w⟩ => ⟨ss, e1, e2, e3, w.kept (lo_new hb k)⟩) (by intro n2 k; refine ⟨[], ?_, ?_, ?_, ?_⟩; rfl; rfl; (intro p hp; cases hp); exact w2.kept (lo_all hI2 ((Keep.cons.trans Keep.cons).trans k))) ?_ ?_
  · rintro j v ys h13 nw13 t13 C hj ⟨tj, rfl⟩ hy c13 b13 oC ⟨ss, rfl, e2, e3, w⟩
    refine wpAny_tests_nil ?_
    rw [if_pos rfl]
    have w13 := w.kept lo_sub
    have cl13 := w13.cells
    walk_at "m:go"
    refine next_ok2 (lim := 2) (n := 50) c13 (r.mono (by omega)) w13.sto (by decide) fun h14 t14 u14 y nw14 hy c14 s14 k14 => ?_
    refine xitemS (x := Str.ofString "ab") (by decide) hy fun t15 z u15 hz => ?_
    refine ⟨_, _, _, (· = st), rfl, c14, k14, fun b e => ⟨by rw [show b = st from e]; exact w.sto.lt.1, id⟩, ss ++ [(z, u15)], by unfold strValues; rw [List.map_append]; rfl, by rw [List.length_append, e2]; rfl, fun p hp => ?_, w.stIn c13.nd k14 s14⟩
    rcases List.mem_append.mp hp with hp | hp
    · exact e3 p hp
    · rw [List.mem_singleton.mp hp]; exact hz
  · rintro ys h13 nw13 t13 C D c13 b13 m13 oC oD hDC ⟨ss, rfl, e2, e3, w⟩
    refine comp_end c13 b13 fun h16 c16 => ?_
    have w16 := (w.kept (lo_new oC keep_drop)).kept lo_sub
    have m16 := m13.keep keep_drop hDC
    have cl16 := w16.cells
    walk_at "m:go"
    refine xjoin c16 m16.w e3 fun t17 u17 y hy => ?_
    walk_at "m:go"
    rename_i h18 nw18 c18 cl18 ca18 co18 mc18 oc18 _ k18 _
    exact q _ _ _ y u17 (by omega) c18 (w16.odd c16.nd mc18 oc18 k18 cl18)
end


/-! the law's state while it asks -/
theorem Kd.ofDict {nw nw' : Led} {d : Addr} {o o' : Obj} (nd : (nw.map (·.1)).Nodup) (k : Keep (· = d) nw nw') (m : (d, o) ∈ nw) (hd : isDictO o) (m' : (d, o') ∈ nw') (hd' : isDictO o') : Kd [] nw nw' := by
  refine ⟨fun p hp hn _ => k p hp fun e => ?_, fun a q hq hqd => ?_⟩
  · obtain ⟨b, q⟩ := p
    have e : b = d := e
    subst e
    rw [uniq_nd nd m hp] at hn
    obtain ⟨es, ep, hd⟩ := hd
    exact hn es ep hd
  · by_cases e : a = d
    · subst e; exact ⟨o', m', hd'⟩
    · exact ⟨q, k _ hq e, hqd⟩
theorem Kd.ofOdd {nw nw' : Led} {a : Addr} {o : Obj} (nd : (nw.map (·.1)).Nodup) (m : (a, o) ∈ nw) (h : odd o) (k : Keep (· = a) nw nw') : Kd [a] nw nw' := Kd.drop nd m h.2.1 h.2.2 (.head _) k
section
variable {Γ : Gm} {nw nw' : Led} {g : Gr} {ca : Addr} {cs : CS} {oi : Oi} {B : Nat} {M : Memo} {W : Addr → Prop}
theorem LSt.keepW {Y : List Addr} (s : LSt Γ nw g ca cs oi B M) (k : Kd Y nw nw') (hl : ∀ a xs n, (a, seqO "list" xs n) ∈ nw → a ∈ Y → False) (w : Keep W nw nw') (hW : ∀ a, a = ca ∨ a ∈ cs.rows ∨ DX g a → ¬ W a) : LSt Γ nw' g ca cs oi B M :=
  { s with
    gr := s.gr.kd k
    oids := s.oids.keep k w fun j hj => hW _ (.inr (.inr ⟨j, hj, rfl⟩))
    cache := s.cache.keep k (fun a xs n h1 h2 => (hl a xs n h1 h2).elim) w (hW _ (.inl rfl)) fun r hr => hW _ (.inr (.inl hr)) }
theorem LSt.odd (s : LSt Γ nw g ca cs oi B M) (nd : (nw.map (·.1)).Nodup) {a : Addr} {o : Obj} (m : (a, o) ∈ nw) (h : odd o) (k : Keep (· = a) nw nw') : LSt Γ nw' g ca cs oi B M := by
  refine s.keepW (Kd.ofOdd nd m h k) (fun b xs n hb hY => ?_) k fun b hb e => ?_
  · rw [List.mem_singleton] at hY
    subst hY
    exact h.1 xs.toArray n (by rw [uniq_nd nd hb m])
  · have e : b = a := e
    subst e
    obtain ⟨q, hq, es, ep, hd⟩ := s.dicts hb
    exact h.2.1 es ep (by rw [uniq_nd nd hq m]; exact hd)
end
structure Lx (Γ : Gm) (nw : Led) (L : Addr) (cv : Loc) (pa ra na ta sa ca : Addr) (g : Gr) (sv : List (Nat × Tok)) (cs : CS) (oi : Oi) (B : Nat) (M : Memo) : Prop where
  cells : CellsAt nw (lawC L) cv
  plans : ∃ vs, IsQ "list" nw pa vs ∧ vs.length = g.n ∧ ∀ j, j < g.n → ∃ v, vs[j]? = some v ∧ IsPlan nw v (g.pl j)
  rows : IsQ "list" nw ra ((List.range g.n).map fun j => .ref (g.rs j))
  named : ∃ ts : Nat → Tok, IsQ "list" nw na ((List.range g.n).map fun j => .str (g.nm j) (ts j))
  sta : IsQ "list" nw ta (sv.map fun p => .int p.1 p.2)
  seen : SeenOk Γ nw sa g.n g.tx.length (fE g.pl g.tx) M
  law : LSt Γ nw g ca cs oi B M
  ok : g.Ok
  n1 : 1 ≤ g.n
  sle : ∀ p ∈ sv, p.1 ≤ g.tx.length
  apart1 : ca ≠ sa
  apart2 : sa ∉ cs.rows
  apart3 : ∀ j, j < g.n → g.dx j ≠ sa
section
variable {Γ : Gm} {nw nw' : Led} {L : Addr} {cv cv' : Loc} {pa ra na ta sa ca : Addr} {g : Gr} {sv : List (Nat × Tok)} {cs : CS} {oi : Oi} {B : Nat} {M : Memo} {W : Addr → Prop}
theorem SeenOk.dictM {d n len : Nat} {f : Nat → Nat → Int} (s : SeenOk Γ nw d n len f M) : ∃ o, (d, o) ∈ nw ∧ isDictO o := let ⟨_, o, es, ep, _, m, _, hd, _⟩ := s; ⟨o, m, es, ep, hd⟩
/-- what is written to holds no list, no tuple, no own object -/
theorem Lx.lists (s : Lx Γ nw L cv pa ra na ta sa ca g sv cs oi B M) (k : Keep W nw nw') (hW : ∀ {T a xs}, IsW T nw a xs → ¬ W a) :
    (∃ vs, IsQ "list" nw' pa vs ∧ vs.length = g.n ∧ ∀ j, j < g.n → ∃ v, vs[j]? = some v ∧ IsPlan nw' v (g.pl j)) ∧ IsQ "list" nw' ra ((List.range g.n).map fun j => .ref (g.rs j)) ∧
      (∃ ts : Nat → Tok, IsQ "list" nw' na ((List.range g.n).map fun j => .str (g.nm j) (ts j))) ∧ IsQ "list" nw' ta (sv.map fun p => .int p.1 p.2) := by
  obtain ⟨vs, p1, p2, p3⟩ := s.plans
  obtain ⟨ts, n1⟩ := s.named
  exact ⟨⟨vs, p1.keep k (hW p1.w), p2, fun j hj => let ⟨v, e, a, t1, t2, t3, t4, t5, e2, q⟩ := p3 j hj; ⟨v, e, a, t1, t2, t3, t4, t5, e2, q.keep k (hW q.w)⟩⟩, s.rows.keep k (hW s.rows.w), ⟨ts, n1.keep k (hW n1.w)⟩, s.sta.keep k (hW s.sta.w)⟩
theorem Lx.odd (s : Lx Γ nw L cv pa ra na ta sa ca g sv cs oi B M) (nd : (nw.map (·.1)).Nodup) {a : Addr} {o : Obj} (m : (a, o) ∈ nw) (h : odd o) (k : Keep (· = a) nw nw') (cells : CellsAt nw' (lawC L) cv') : Lx Γ nw' L cv' pa ra na ta sa ca g sv cs oi B M := by
  have hW : ∀ {T b xs}, IsW T nw b xs → ¬ b = a := fun w => h.noL nd m w
  obtain ⟨l1, l2, l3, l4⟩ := s.lists k hW
  refine { s with cells := cells, plans := l1, rows := l2, named := l3, sta := l4, law := s.law.odd nd m h k, seen := s.seen.keep k (fun e => ?_) hW }
  obtain ⟨q, hq, es, ep, hd⟩ := s.seen.dictM
  have e : sa = a := e
  subst e
  exact h.2.1 es ep (by rw [uniq_nd nd hq m]; exact hd)
theorem Lx.kept (s : Lx Γ nw L cv pa ra na ta sa ca g sv cs oi B M) (k : Keep (fun _ => False) nw nw') : Lx Γ nw' L cv pa ra na ta sa ca g sv cs oi B M := by
  obtain ⟨l1, l2, l3, l4⟩ := s.lists k fun _ => id
  exact { s with cells := s.cells.keep k fun _ _ => id, plans := l1, rows := l2, named := l3, sta := l4, law := s.law.ofKeep k, seen := s.seen.keep k id fun _ => id }
end


section
variable {Γ : Gm} {A : Around} {env : Env} {h₀ : Heap} {L : Addr} {h h' : Heap} {l l' : Loc} {nw : Led} {t : Nat} {pos : Pos} {fa : Addr} {cd : Value} {la st lst pa ra na : Addr} {g : Gr} {Q : Flow → Shared → Prop} {rest : List Stmt}
theorem seen_empty {nw : Led} {a n len : Nat} {f : Nat → Nat → Int} (m : (a, dictOf [] 0) ∈ nw) : SeenOk Γ nw a n len f M0 :=
  ⟨(fun i j h => by cases h), dictOf [] 0, _, _, [], m, ⟨rfl, rfl, rfl⟩, rfl, rfl, .nil, (fun x h => nomatch h), (fun k p h => by cases h)⟩
set_option maxRecDepth 100000 in
set_option maxHeartbeats 8000000 in
theorem law_starts {kv : Option Value} {tx : Str} {tt : Tok} (he : env = lawE Γ.w L fa cd) (c : Fx Γ A env [] h₀ L h (lawL la (some (.ref ra)) none none none none none none none) nw) (r : Room A 60) (htx : tx.length ≤ 7)
    (s : Lw nw L (lawV none none none none (some (.str tx tt)) kv (some (.ref na)) (some (.ref pa)) (some (.ref st))) st lst pa ra na g)
    (q : ∀ h' t' nw' ta (sv : List (Nat × Tok)), (∀ p ∈ sv, p.1 ≤ tx.length) → sv.length ≤ 3 → IsQ "list" nw' ta (sv.map fun (p : Nat × Tok) => .int p.1 p.2) → Fx Γ A env [] h₀ L h' (lawL la (some (.ref ra)) (some (.ref ta)) none none none none none none) nw' → Lw nw' L (lawV none none none none (some (.str tx tt)) kv (some (.ref na)) (some (.ref pa)) (some (.ref st))) st lst pa ra na g → Q .next (S Γ h' t')) :
    wpAny (model PG Γ.w) A (exec (lawAt Γ.w 6) env) Q (fun _ _ => False) (S Γ h t) := by
  have cl := s.cells
  show wpAny _ _ (exec (Stmt.Assign [Expr.Name _ _] (Expr.ListComp _ _ _ _) _) _) _ _ _
  refine xAssignComp (cl := [("text", L + 5), ("state", L + 1)]) (by rw [he]; rfl) (by rw [he]; rfl) rfl (by decide) ?_
  walk_at "m:go"
  refine next_ok2 (lim := 3) (n := 50) c (r.mono (by omega)) s.sto (by decide) fun h2 t2 t3 x nw2 hx c2 s2 k2 => ?_
  have w2 := s.atSt c.nd k2 s2
  walk_at "m:go"
  rw [show (1 : Int) + (x : Int) = ((1 + x : Nat) : Int) by omega]
  refine xiter_rng c2 (by omega) fun I h3 t4 r3 o3 c3 l3 lr X3 => ?_
  have hI2 : ∀ p ∈ nw2, p.1 < I := fun p hp => Nat.lt_trans (l3 p hp) lr
  have it3 : RngIt I (1 + x) 0 ((I, rangeItO 0 (1 + x)) :: (r3, o3) :: nw2) := .head _
  refine xcomp (· < I) (fun _ => False) (fun j ys n => ∃ sv : List (Nat × Tok), (ys = sv.map fun (p : Nat × Tok) => .int p.1 p.2) ∧ sv.length = j ∧ (∀ p ∈ sv, p.1 ≤ tx.length) ∧ Lw (lo I n) L (lawV none none none none (some (.str tx tt)) kv (some (.ref na)) (some (.ref pa)) (some (.ref st))) st lst pa ra na g) X3 c3 (by decide) rfl (by rfl) (self_rng it3) (fun b hb => .inr hb) (Nat.lt_irrefl _) ⟨_, .head _⟩ (fun b hb => hb.elim) (by omega)
    itk_rng it3 (fun j ys n1 n2 b hb k ⟨ss, e1, e2, e3, w⟩ => ⟨ss, e1, e2, e3, w.kept (lo_new hb k)⟩) (by intro n2 k; refine ⟨[], ?_, ?_, ?_, ?_⟩; rfl; rfl; (intro p hp; cases hp); exact w2.kept (lo_all hI2 ((Keep.cons.trans Keep.cons).trans k))) ?_ ?_
  · rintro j v ys h13 nw13 t13 C hj ⟨tj, rfl⟩ hy c13 b13 oC ⟨ss, rfl, e2, e3, w⟩
    refine wpAny_tests_nil ?_
    rw [if_pos rfl]
    have w13 := w.kept lo_sub
    have cl13 := w13.cells
    walk_at "m:go"
    refine xlenS (by omega) fun t9 u9 => ?_
    walk_at "m:go"
    rw [show (tx.length : Int) + 1 = ((tx.length + 1 : Nat) : Int) by omega]
    refine next_ok2 (n := 50) c13 (r.mono (by omega)) w13.sto (by omega) fun h14 t14 u14 y nw14 hy c14 s14 k14 => ?_
    refine ⟨_, _, _, (· = st), rfl, c14, k14, fun b e => ⟨by rw [show b = st from e]; exact w.sto.lt.1, id⟩, ss ++ [(y, u14)], by rw [List.map_append]; rfl, by rw [List.length_append, e2]; rfl, fun p hp => ?_, w.stIn c13.nd k14 s14⟩
    rcases List.mem_append.mp hp with hp | hp
    · exact e3 p hp
    · rw [List.mem_singleton.mp hp]; show y ≤ tx.length; omega
  · rintro ys h13 nw13 t13 C D c13 b13 m13 oC oD hDC ⟨ss, rfl, e2, e3, w⟩
    refine comp_endA c13 b13 ?_
    walk_at "m:go"
    rename_i c14 _
    refine ⟨_, _, _, rfl, c14, fun h16 c16 => ?_⟩
    exact q _ _ _ D ss e3 (by omega) (m13.keep keep_drop hDC) c16 ((w.kept (lo_new oC keep_drop)).kept lo_sub)
end


section
variable {Γ : Gm} {A : Around} {env : Env} {h₀ : Heap} {L : Addr} {h h' : Heap} {l l' : Loc} {nw : Led} {t : Nat} {pos : Pos} {fa : Addr} {cd : Value} {la st lst pa ra na ta : Addr} {g : Gr} {Q : Flow → Shared → Prop} {rest : List Stmt}
set_option maxRecDepth 100000 in
set_option maxHeartbeats 8000000 in
theorem law_dicts {kv : Option Value} {tx : Str} {tt : Tok} {sv : List (Nat × Tok)} (he : env = lawE Γ.w L fa cd) (c : Fx Γ A env [] h₀ L h (lawL la (some (.ref ra)) (some (.ref ta)) none none none none none none) nw) (htx : tx.length ≤ 7) (hn1 : 1 ≤ g.n) (hn8 : g.n ≤ 8)
    (s : Lw nw L (lawV none none none none (some (.str tx tt)) kv (some (.ref na)) (some (.ref pa)) (some (.ref st))) st lst pa ra na g) (hsv : ∀ p ∈ sv, p.1 ≤ tx.length) (m : IsQ "list" nw ta (sv.map fun (p : Nat × Tok) => .int p.1 p.2))
    (q : ∀ h' t' nw' sa ca, Fx Γ A env [] h₀ L h' (lawL la (some (.ref ra)) (some (.ref ta)) (some (.ref (g.rs (g.n - 1)))) (some (.ref ca)) none none none none) nw' →
      Lx Γ nw' L (lawV none none none (some (.ref sa)) (some (.str tx tt)) kv (some (.ref na)) (some (.ref pa)) (some (.ref st))) pa ra na ta sa ca { g with tx := tx } sv ⟨[], []⟩ (fun _ => []) 0 M0 → wpAny (model PG Γ.w) A (execs rest env) Q (fun _ _ => False) (S Γ h' t')) :
    wpAny (model PG Γ.w) A (execs (lawAt Γ.w 7 :: lawAt Γ.w 8 :: lawAt Γ.w 9 :: rest) env) Q (fun _ _ => False) (S Γ h t) := by
  have cl := s.cells
  refine wpAny_execs_cons ?_
  show wpAny _ _ (exec (Stmt.Assign [Expr.Name _ _] _ _) _) _ _ _
  walk_at "m:go"
  refine xlen c s.rows.w fun t2 => ?_
  walk_at "m:go"
  rw [show (((List.range g.n).map fun j => Value.ref (g.rs j)).length : Int) - 1 = ((g.n - 1 : Nat) : Int) by rw [List.length_map, List.length_range]; omega]
  refine xitem c s.rows.w (Int.natCast_nonneg _) (v := .ref (g.rs (g.n - 1))) (by rw [Int.toNat_natCast, List.getElem?_map, List.getElem?_range (by omega)]; rfl) ?_
  walk_at "m:go"
  rename_i c3 _
  show wpAny _ _ (exec (Stmt.Assign [Expr.Name _ _] _ _) _) _ _ _
  walk_at "m:go"
  refine xdnew c3 fun h4 sa c4 l4 d4 => ?_
  have cl4 := cl.cons_ (p := (sa, dictOf [] 0))
  walk_at "m:go"
  rename_i h5 nw5 c5 cl5 ca5 co5 mc5 oc5 _ k5 _
  have w5 := (s.kept (Keep.cons (p := (sa, dictOf [] 0)))).odd c4.nd mc5 oc5 k5 cl5
  have m5 := m.cons.oddk c4.nd mc5 oc5 k5
  have sa5 : (sa, dictOf [] 0) ∈ nw5 := k5 _ (.head _) fun e => by
    have e : sa = ca5 := e
    subst e
    have := uniq_nd c4.nd mc5 (.head _)
    subst this
    exact oc5.2.1 _ _ rfl
  show wpAny _ _ (exec (Stmt.Assign [Expr.Name _ _] _ _) _) _ _ _
  walk_at "m:go"
  refine xdnew c5 fun h6 ca c6 l6 d6 => ?_
  walk_at "m:go"
  rename_i c7 _
  have w7 := w5.kept (Keep.cons (p := (ca, dictOf [] 0)))
  have h1 : ca ≠ sa := fun e => absurd (l6 _ sa5) (by show ¬ sa < ca; rw [e]; exact Nat.lt_irrefl _)
  have h2 : ∀ j, j < g.n → g.dx j ≠ ca := fun j hj e => absurd (l6 _ (w5.dxs j hj)) (by show ¬ g.dx j < ca; rw [e]; exact Nat.lt_irrefl _)
  have h3 : ∀ j, j < g.n → g.dx j ≠ sa := fun j hj e => absurd (l4 _ (s.dxs j hj)) (by show ¬ g.dx j < sa; rw [e]; exact Nat.lt_irrefl _)
  refine q _ _ _ sa ca c7 ⟨w7.cells, w7.plans, w7.rows, w7.named, m5.cons, seen_empty (.tail _ sa5), ?_, ⟨w7.ok, hn8, htx, w7.nm2⟩, hn1, hsv, h1, (fun h => nomatch h), h3⟩
  exact {
    gr := w7.gr
    oids := fun j hj => ⟨_, none, w7.dxs j hj, rfl, .inl ⟨rfl, rfl⟩⟩
    cache := { len := rfl, rnd := .nil, ond := .nil, olt := fun _ h => (nomatch h), top := d6, row := fun i j r h1 h2 => (by simp at h1), has := fun j p h => (by rcases h with h | h <;> cases h), used := fun _ h => (nomatch h) }
    link := { to := fun j hj q hq h => (by simp at h), back := fun o j h => (by simp at h), few := fun j => (by simp) }
    cr := fun h => (nomatch h)
    xc := h2
    xr := fun _ _ h => (nomatch h)
    xx := w7.inj
    le := fun i j h => (by cases h) }
end


section
variable {Γ : Gm} {A : Around} {env : Env} {h₀ : Heap} {L : Addr} {h h' : Heap} {l l' : Loc} {nw : Led} {t : Nat} {pos : Pos} {fa : Addr} {cd : Value} {la pa ra na ta sa ca : Addr} {g : Gr} {Q : Flow → Shared → Prop} {rest : List Stmt}
/-- what is written to are dicts -/
def Dic (W : Addr → Prop) (nw : Led) : Prop := ∀ a o, (a, o) ∈ nw → W a → isDictO o
theorem Dic.noW {W : Addr → Prop} {nw : Led} (h : Dic W nw) {T : String} {a : Addr} {xs : List Value} (m : IsW T nw a xs) : ¬ W a := fun w => by
  obtain ⟨_, o, n, m, _, hd⟩ := m
  obtain ⟨es, ep, e⟩ := h _ _ m w
  rw [hd] at e; cases e
theorem CellsAt.dic {W : Addr → Prop} {nw nw' : Led} {cs : List (Str × Addr)} {cv : Loc} (C : CellsAt nw cs cv) (h : Dic W nw) (k : Keep W nw nw') : CellsAt nw' cs cv := C.keepO k fun c o v m d w => by
  obtain ⟨es, ep, e⟩ := h _ _ m w
  rw [d] at e; cases e
abbrev dxs (g : Gr) : List Addr := (List.range g.n).map g.dx
theorem mem_dxs {g : Gr} {a : Addr} : a ∈ dxs g ↔ DX g a := by
  unfold DX
  rw [List.mem_map]
  constructor
  · rintro ⟨j, hj, rfl⟩; exact ⟨j, List.mem_range.mp hj, rfl⟩
  · rintro ⟨j, hj, rfl⟩; exact ⟨j, List.mem_range.mpr hj, rfl⟩
set_option maxRecDepth 100000 in
set_option maxHeartbeats 8000000 in
theorem law_for2 {kv : Option Value} {tt : Tok} {stv : Value} {sv : List (Nat × Tok)} (he : env = lawE Γ.w L fa cd) (c : Fx Γ A env [] h₀ L h (lawL la (some (.ref ra)) (some (.ref ta)) (some (.ref (g.rs (g.n - 1)))) (some (.ref ca)) none none none none) nw) (r : Room A 60) (hs3 : sv.length ≤ 3)
    (s : Lx Γ nw L (lawV none none none (some (.ref sa)) (some (.str g.tx tt)) kv (some (.ref na)) (some (.ref pa)) (some stv)) pa ra na ta sa ca g sv ⟨[], []⟩ (fun _ => []) 0 M0)
    (q : ∀ h' t' nw' v1 v2 v3 v4 cs oi B M, Fx Γ A env [] h₀ L h' (lawL la (some (.ref ra)) (some (.ref ta)) (some (.ref (g.rs (g.n - 1)))) (some (.ref ca)) v1 v2 v3 v4) nw' →
      Lx Γ nw' L (lawV none none none (some (.ref sa)) (some (.str g.tx tt)) kv (some (.ref na)) (some (.ref pa)) (some stv)) pa ra na ta sa ca g sv cs oi B M → Q .next (S Γ h' t')) :
    wpAny (model PG Γ.w) A (exec (lawAt Γ.w 10) env) Q (fun _ _ => False) (S Γ h t) := by
  have cl := s.cells
  have hg := s.ok
  have h7 := hg.tx7
  have h8 := hg.n8
  have hk : g.n - 1 < g.n := by have := s.n1; omega
  show wpAny _ _ (exec (Stmt.For _ _ _ _ _) _) _ _ _
  refine xFor ?_
  walk_at "m:go"
  refine xiter_list c s.sta.w fun I h1 o1 c1 l1 X1 it1 => ?_
  have fI : ∀ p ∈ nw, p.1 ≠ I := fun p hp e => absurd (l1 _ hp) (by rw [e]; exact Nat.lt_irrefl _)
  refine xforLoop X1 (fun i l n => ∃ v1 v2 v3 v4 cs oi M, l = lawL la (some (.ref ra)) (some (.ref ta)) (some (.ref (g.rs (g.n - 1)))) (some (.ref ca)) v1 v2 v3 v4 ∧
    Lx Γ n L (lawV none none none (some (.ref sa)) (some (.str g.tx tt)) kv (some (.ref na)) (some (.ref pa)) (some stv)) pa ra na ta sa ca g sv cs oi (2 * i) M) c1 it1 ⟨none, none, none, none, _, _, _, rfl, s.kept Keep.cons⟩ ?_ ?_
  · rintro i v h6 l6 nw6 t6 o6 hb hi hv cb itb c6 it6 ⟨v1, v2, v3, v4, cs, oi, M, rfl, s6⟩
    rw [List.length_map] at hi
    obtain ⟨⟨oI, mI, cI, dI⟩, _⟩ := id itb
    have oddI : odd oI := ⟨(fun xs n e => by rw [dI] at e; cases e), (fun es ep e => by rw [dI] at e; cases e), .inl ⟨(by rw [cI]; decide), (fun c e => by rw [cI] at e; cases e)⟩⟩
    have s7 := s6.odd cb.nd mI oddI (Keep.put (o := o6)) (s6.cells.keepO Keep.put fun c o v m d e => by
      have e : c = I := e
      subst e
      rw [uniq_nd cb.nd mI m] at d
      rw [dI] at d; cases d)
    clear s6 mI itb cb
    rw [List.getElem?_map, List.getElem?_eq_getElem hi] at hv
    obtain rfl : v = .int (sv[i].1 : Nat) sv[i].2 := (Option.some.inj hv).symm
    have hp : sv[i].1 ≤ g.tx.length := s.sle _ (List.getElem_mem hi)
    generalize sv[i].1 = p at hp
    generalize sv[i].2 = tp
    clear hv
    have cl7 := s7.cells
    refine wpAny_pure ?_
    walk_at "m:go"
    refine xlen (by assumption) s7.rows.w fun t8 => ?_
    walk_at "m:go"
    rw [show (((List.range g.n).map fun j => Value.ref (g.rs j)).length : Int) - 1 = ((g.n - 1 : Nat) : Int) by rw [List.length_map, List.length_range]; omega]
    walk_at "m:go"
    rename Fx _ _ _ _ _ _ _ _ _ => c8
    have P8 : PlansOk (put nw6 I o6) pa g.n g.pl := let ⟨vs, a, _, b⟩ := s7.plans; ⟨vs, a.w, b⟩
    refine read_all hg.ok (Nat.le_trans (Nat.mul_le_mul h8 (Nat.succ_le_succ h7)) (by decide)) (by omega) (g.n - 1) hk c8 (r.mono (by omega)) P8 s7.seen hp fun h9 t9 t10 nw9 c9 k9 S9 => ?_
    obtain ⟨os, ms, ds⟩ := s7.seen.dictM
    obtain ⟨os9, ms9, ds9⟩ := S9.dictM
    have D7 : Dic (· = sa) (put nw6 I o6) := fun a o m e => by
      have e : a = sa := e
      subst e
      rw [uniq_nd c8.nd ms m]; exact ds
    have cl9 := cl7.dic D7 k9
    have law9 : LSt Γ nw9 g ca cs oi (2 * i) M := s7.law.keepW (Kd.ofDict c8.nd k9 ms ds ms9 ds9) (fun _ _ _ _ h => nomatch h) k9 fun a ha e => by
      have e : a = sa := e
      subst e
      rcases ha with ha | ha | ⟨j, hj, ha⟩
      · exact s7.apart1 ha.symm
      · exact s7.apart2 ha
      · exact s7.apart3 j hj ha.symm
    walk_at "m:go"
    rename Fx _ _ _ _ _ _ _ _ _ => c10
    refine LSt.coreM c10 law9 hk ?_
    dsimp only
    walk_at "m:go"
    refine pe_ok (n := 40) c10 (r.mono (by omega)) ms9 fun h11 t11 e dE nw11 c11 k11 e11 l11 l11' => ?_
    have cl11 := cl9.keep k11 fun _ _ => id
    walk_at "m:go"
    refine ⟨kp_f c11 (kf_266 _), ?_⟩
    have law11 := law9.ofKeep k11
    have ltE : ∀ a, (a = ca ∨ a ∈ cs.rows ∨ DX g a) → a ≠ dE := fun a ha z => by
      obtain ⟨o, m, _⟩ := law9.dicts ha
      exact absurd (l11' _ m) (by show ¬ a < dE; rw [z]; exact Nat.lt_irrefl _)
    have saE : sa ≠ dE := fun z => absurd (l11' _ ms9) (by show ¬ sa < dE; rw [z]; exact Nat.lt_irrefl _)
    have m11 := law11.toM e11 (ltE _ (.inl rfl)) (fun z => ltE _ (.inr (.inl z)) rfl) (fun j hj => ltE _ (.inr (.inr ⟨j, hj, rfl⟩)))
    refine core_all hg (g.n - 1) hk c11 (r.mono (by omega)) m11 (fun x hx => nomatch hx) (fun j q hj => nomatch hj) hp (by omega) fun h12 t12 v12 nw12 cs12 oi12 c12 s12 res12 kd12 k12 gr12 => ?_
    have D11 : Dic (MW g ca dE cs) nw11 := fun a o m w => by
      obtain ⟨q, hq, d⟩ := m11.dicts w
      rw [uniq_nd c11.nd hq m]; exact d
    have cl12 := cl11.dic D11 k12
    have law12 := s12.toL
    have nsa : ¬ MW g ca dE cs sa := fun w => by
      rcases w with w | w | ⟨j, hj, w⟩ | w
      · exact s7.apart1 w.symm
      · exact s7.apart2 w
      · exact s7.apart3 j hj w.symm
      · exact saE w
    have S12 := (S9.keep k11 id fun _ => id).keep k12 nsa D11.noW
    have ap12 : sa ∉ cs12.rows := by
      obtain ⟨nr, no, e1, _, e3, _⟩ := gr12.ex
      rw [e1]
      intro z
      rcases List.mem_append.mp z with z | z
      · exact s7.apart2 z
      · exact e3 _ z _ (k11 _ ms9 id) rfl
    have run12 := s12.le
    walk_at "m:go"
    rename Fx _ _ _ _ _ _ _ _ _ => c13
    have hX13 : ∀ x ∈ dxs g, ∃ o, (x, o) ∈ nw12 := fun x hx => let ⟨o, m, _⟩ := law12.dicts (.inr (.inr (mem_dxs.mp hx))); ⟨o, m⟩
    have D12 : Dic (DX g) nw12 := fun a o m w => by
      obtain ⟨q, hq, d⟩ := law12.dicts (.inr (.inr w))
      rw [uniq_nd c12.nd hq m]; exact d
    have kW7 : Keep (fun a => a = sa ∨ MW g ca dE cs a) (put nw6 I o6) nw12 := ((k9.mono fun a e => .inl e).trans (k11.mono fun a e => e.elim)).trans (k12.mono fun a e => .inr e)
    have noL : ∀ {T b xs}, IsW T (put nw6 I o6) b xs → ¬ (b = sa ∨ MW g ca dE cs b) := fun {T b xs} m w => by
      by_cases e : b = sa
      · exact D7.noW m e
      · exact D11.noW ((m.keep k9 e).keep k11 id) (w.elim (fun z => absurd z e) id)
    have mk : ∀ {nwF : Led} {oiF : Oi}, Keep (DX g) nw12 nwF → LSt Γ nwF g ca cs12 oiF (2 * i + 2) (run g.pl g.tx (g.n - 1) p M) →
        ListIt I ta (sv.map fun p => .int p.1 p.2) (i + 1) nwF ∧ Lx Γ nwF L (lawV none none none (some (.ref sa)) (some (.str g.tx tt)) kv (some (.ref na)) (some (.ref pa)) (some stv)) pa ra na ta sa ca g sv cs12 oiF (2 * (i + 1)) (run g.pl g.tx (g.n - 1) p M) := fun {nwF oiF} kF lawF => by
      have kA : Keep (fun a => a = sa ∨ MW g ca dE cs a) (put nw6 I o6) nwF := kW7.trans (kF.mono fun a w => .inr (.inr (.inr (.inl w))))
      obtain ⟨x1, x2, x3, x4⟩ := s7.lists kA noL
      refine ⟨it6.keep kA (fun w => ?_) (noL it6.2), { s7 with cells := cl12.dic D12 kF, plans := x1, rows := x2, named := x3, sta := x4, seen := S12.keep kF (fun w => nsa (.inr (.inr (.inl w)))) D12.noW, law := lawF, apart2 := ap12 }⟩
      obtain ⟨o, mo, _, dd⟩ := it6.1
      by_cases e : I = sa
      · obtain ⟨es, ep, d⟩ := D7 _ _ mo e
        rw [dd] at d; cases d
      · obtain ⟨es, ep, d⟩ := D11 _ _ (k11 _ (k9 _ mo e) id) (w.elim (fun z => absurd z e) id)
        rw [dd] at d; cases d
    cases hev : ev g.pl g.tx (g.n - 1) p with
    | none =>
      rw [hev] at res12
      obtain rfl : v12 = .none := res12
      walk_at "m:yes"
      walk_at "m:go"
      rename_i A0 _ _ _ mA h14' t14' c14' _
      have lawA := law12.ofKeep (Keep.cons (p := (A0, seqO "list" [] 0)))
      refine fresh_ok hg hk c14' (r.mono (by omega)) lawA hp (by omega) (X := []) (fun x h => nomatch h) fun h14 t14 D xs nw14 oi14 c14 law14 kd14 k14 mD _ sh14 => ?_
      have kF : Keep (DX g) nw12 nw14 := Keep.cons.trans k14
      rw [hev] at sh14
      obtain rfl : xs = [] := sh14
      have mA14 := mA.keep k14 (Dic.noW (fun a o m w => by
        obtain ⟨q, hq, d⟩ := lawA.dicts (.inr (.inr w))
        rw [uniq_nd c14'.nd hq m]; exact d) mA.w)
      obtain ⟨itF, xF⟩ := mk kF law14
      have clF := xF.cells
      refine PySem.SeqAt.RcNeAt.lists (e := fun _ => true) (mA14.w.isList c14) (mD.w.isList c14) rfl (show A.units < 9900 by have := r.2; omega) (fun j h1 h2 => by simp at h1) PG Γ.w _ _ ?_
      walk_at "m:go"
      rw [if_neg (by simp)]
      walk_at "m:go"
      rw [hev]
      rw [if_neg (by decide)]
      walk_at "m:go"
      rw [if_neg (by decide)]
      walk_at "m:go"
      rw [if_neg (by decide)]
      walk_at "m:go"
      rw [if_neg (by decide)]
      walk_at "m:go"
      exact ⟨_, _, _, _, rfl, c14, itF, _, _, _, _, _, _, _, rfl, xF⟩
    | some tr =>
      rw [hev] at res12
      obtain ⟨x, rfl, hn⟩ := res12
      walk_at "m:no"
      walk_at "m:go"
      obtain ⟨htk, _⟩ := ev_ok hg.ok _ hk p tr hp hev
      refine shape_all hg g.n (Nat.le_refl _) c13 (r.mono (by omega)) ((ev_tok hg.ok _ hk p tr hp hev).mono (Nat.succ_le_of_lt hk)) hn law12.gr law12.oids (X := dxs g) hX13 fun h15 t15 v15 nw15 c15 k15 s15 => ?_
      have cl15 := cl12.keep k15 fun _ _ => id
      walk_at "m:go"
      rename_i A0 _ _ _ mA h14' t14' c14' _
      have lawA := law12.ofKeep (k15.trans (Keep.cons (p := (A0, seqO "list" [v15] 0))))
      refine fresh_ok hg hk c14' (r.mono (by omega)) lawA hp (by omega) (X := []) (fun x h => nomatch h) fun h14 t14 D xs nw14 oi14 c14 law14 kd14 k14 mD _ sh14 => ?_
      have kF : Keep (DX g) nw12 nw14 := ((k15.mono fun _ e => e.elim).trans Keep.cons).trans k14
      rw [hev] at sh14
      have DA : Dic (DX g) ((A0, seqO "list" [v15] 0) :: nw15) := fun a o m w => by
        obtain ⟨q, hq, d⟩ := lawA.dicts (.inr (.inr w))
        rw [uniq_nd c14'.nd hq m]; exact d
      have mA14 := mA.keep k14 (DA.noW mA.w)
      have shA : ShapesAt [] nw14 g.nm [tr] [v15] := ⟨v15, [], rfl, ((s15.keep (W := fun _ => False) Keep.cons (fun _ z => z.elim)).keep k14 fun a w => mem_dxs.mpr w).less (Y := []) (fun _ h => nomatch h), rfl⟩
      obtain ⟨itF, xF⟩ := mk kF law14
      have clF := xF.cells
      have tk : TsOk g.tx.length g.n [tr] := by unfold TsOk TsOk; exact ⟨(ev_tok hg.ok _ hk p tr hp hev).mono (Nat.succ_le_of_lt hk), trivial⟩
      obtain ⟨hsz, heq⟩ := shapes_eq (t := t14) c14 [tr] (A := A.in1) tk (show A.units + 1 + 2 * g.n + 2 ≤ 9800 by have := r.2; omega) shA sh14
      refine PySem.SeqAt.RcNeAt.lists (e := fun _ => true) (mA14.w.isList c14) (mD.w.isList c14) (by simpa using hsz) (show A.units < 9900 by have := r.2; omega) (fun j h1 h2 => heq j (by simpa using h1) (by simpa using h2)) PG Γ.w _ _ ?_
      walk_at "m:go"
      rw [if_neg (by rw [show ((List.range [v15].toArray.size).all fun _ => true) = true from List.all_eq_true.mpr fun _ _ => rfl]; decide)]
      walk_at "m:go"
      rw [hev, if_neg (by
        rw [show decide (endI (some tr) < 0) = false from decide_eq_false (by show ¬ ((tr.e : Int) < 0); omega)]
        exact Bool.eq_false_iff.mp (by rfl))]
      walk_at "m:go"
      rw [if_neg (by decide)]
      walk_at "m:go"
      walk_at "m:yes"
      walk_at "m:go"
      obtain ⟨vs, p1, p2, p3⟩ := xF.plans
      refine xlen c14 p1.w fun t16 => ?_
      walk_at "m:go"
      rw [show (vs.length : Int) - 1 = ((g.n - 1 : Nat) : Int) by rw [p2]; omega]
      obtain ⟨vp, hvp, ip⟩ := p3 (g.n - 1) hk
      refine xitem c14 p1.w (Int.natCast_nonneg _) (by rw [Int.toNat_natCast]; exact hvp) ?_
      walk_at "m:go"
      obtain ⟨pp, _, _, _, _, _, rfl, _⟩ := id ip
      have hn14 := ((hn.kd (Kd.ofKeep (X := []) k15) (fun _ _ _ _ h => nomatch h)).kd (Kd.cons (X := []) (p := (A0, seqO "list" [v15] 0))) (fun _ _ _ _ h => nomatch h)).kd kd14 (fun _ _ _ _ h => nomatch h)
      refine parted_ok hg hk hev hp c14 (r.mono (by omega)) hn14 ip (oi := oi14) fun h17 t17 nw17 c17 k17 => ?_
      walk_at "m:go"
      rw [if_neg (by decide)]
      walk_at "m:go"
      rw [if_neg (by decide)]
      walk_at "m:go"
      exact ⟨_, _, _, _, rfl, c17, itF.keep k17 id id, _, _, _, _, _, _, _, rfl, xF.kept k17⟩
  · rintro h6 l6 nw6 nw7 t6 hb cb itb c7 k7 ⟨v1, v2, v3, v4, cs, oi, M, rfl, s6⟩
    obtain ⟨⟨oI, mI, cI, dI⟩, _⟩ := id itb
    have oddI : odd oI := ⟨(fun xs n e => by rw [dI] at e; cases e), (fun es ep e => by rw [dI] at e; cases e), .inl ⟨(by rw [cI]; decide), (fun c e => by rw [cI] at e; cases e)⟩⟩
    have s7 := s6.odd cb.nd mI oddI k7 (s6.cells.keepO k7 fun c o v m d e => by
      have e : c = I := e
      subst e
      rw [uniq_nd cb.nd mI m] at d
      rw [dI] at d; cases d)
    walk_at "m:go"
    exact q _ _ _ v1 v2 v3 v4 cs oi _ M c7 s7
end


section
variable {Γ : Gm} {A : Around} {env : Env} {outer : List Env} {h₀ : Heap} {L : Addr} {h h' : Heap} {l l' : Loc} {nw : Led} {t : Nat} {E : Value → Shared → Prop} {pos : Pos}
theorem xcompD {RR : Value → Addr → Result → Shared → Prop} {elt iter : Expr} {x : Str} {px : Pos} {ifs : List Expr} {scope : Scope} {cl : List (Str × Addr)} {I : Addr} {n : Nat} {P : Nat → Value → Prop} {It : Nat → Led → Prop} (old src : Addr → Prop) (INV : Addr → Addr → Nat → List Value → Led → Prop)
    (X : XIt Γ A I n P It) (c : Fx Γ A env outer h₀ L h l nw) (hcell : ∀ y ∈ scope.names, y.2 ≠ .cell) (hkind : scope.kind = .function) (hx : scope.names.lookup x = some .local)
    (self : ∀ {nw' : Led} {h' : Heap} {t' : Nat} {Q : Value → Shared → Prop} {E' : Value → Shared → Prop}, Fx Γ A env outer h₀ L h' l nw' → Keep (fun _ => False) nw nw' → Q (.ref I) (S Γ h' t') → wpAny (model PG Γ.w) A (pyIter (.ref I)) Q E' (S Γ h' t'))
    (hold : ∀ b, old b → (∃ o, (b, o) ∈ nw) ∨ b < I) (hI : ¬ old I) (hIn : ∃ o, (I, o) ∈ nw) (hsrc : ∀ b, src b → ∃ o, (b, o) ∈ nw) (hn : n < 1000)
    (itm : ∀ i n1, It i n1 → ∃ o, (I, o) ∈ n1) (itk : ∀ i n1 n2 (W : Addr → Prop), It i n1 → Keep W n1 n2 → ¬ W I → (∀ b, W b → ¬ src b) → It i n2) (it0 : It 0 nw)
    (stab : ∀ C D i ys n1 n2 b, ¬ old b → (b = I ∨ b = C ∨ b = D) → Keep (· = b) n1 n2 → INV C D i ys n1 → INV C D i ys n2) (i0 : ∀ C D n2, Keep (fun _ => False) nw n2 → INV C D 0 [] n2)
    (step : ∀ i v ys h nw' t C D, i < n → P i v → ys.length ≤ i → Fx Γ A env outer h₀ L h l nw' → InBlk h nw' C x v → ¬ old C → (∀ b, b = I ∨ b = C ∨ b = D → ∃ o, (b, o) ∈ nw') → INV C D i ys nw' →
      wpAny (model PG Γ.w) A (forIn ifs true fun e r => if r = true then do let ok ← isTrue e (compEnvC scope cl C env) (eval e (compEnvC scope cl C env)); pure (ForInStep.yield ok) else pure (ForInStep.yield r)) (fun ok s₃ =>
        if ok = true then wpAny (model PG Γ.w) A (eval elt (compEnvC scope cl C env)) (fun y s₄ => CNext Γ A env outer h₀ L l old src (INV C D) nw' (i + 1) (ys ++ [y]) s₄) (fun _ _ => False) s₃
        else CNext Γ A env outer h₀ L l old src (INV C D) nw' (i + 1) ys s₃) (fun _ _ => False) (S Γ h t))
    (fin : ∀ ys h nw' t C D, Fx Γ A env outer h₀ L h l nw' → HasBlk h nw' C → IsQ "list" nw' D ys → ¬ old C → ¬ old D → D ≠ C → INV C D n ys nw' → RR (.ref D) C (.ok .next) (S Γ h t)) :
    wpAny (model PG Γ.w) A (newList []) (fun acc s₃ => wpAny (model PG Γ.w) A (newFunctionEnv scope env.globals cl [] env.qual none .none (some env)) (fun cenv s₄ =>
      codeAny (model PG Γ.w) A (.compStart (.ListComp elt [⟨.Name x px, iter, ifs, 0⟩] scope pos) 0 (.ref I) acc { cenv with scope := relabel scope env }) (RR acc cenv.locals) s₄) E s₃) E (S Γ h t) := by
  refine xcompBlock c hcell hkind self fun C D oC h7 t7 c7 b7 m7 lD lC => ?_
  have nD : ∀ b o, (b, o) ∈ nw → b ≠ D := fun b o m z => absurd (lD _ m) (by rw [← z]; exact Nat.lt_irrefl _)
  have nC : ∀ b o, (b, o) ∈ nw → b ≠ C := fun b o m z => absurd (Nat.lt_trans (lD _ m) lC) (by rw [← z]; exact Nat.lt_irrefl _)
  obtain ⟨oI, mI⟩ := hIn
  have oD : ¬ old D := fun z => (hold _ z).elim (fun ⟨o, m⟩ => nD _ _ m rfl) fun z => Nat.lt_irrefl _ (Nat.lt_trans z (lD _ mI))
  have oC' : ¬ old C := fun z => (hold _ z).elim (fun ⟨o, m⟩ => nC _ _ m rfl) fun z => Nat.lt_irrefl _ (Nat.lt_trans z (Nat.lt_trans (lD _ mI) lC))
  have hDC : D ≠ C := Nat.ne_of_lt lC
  have hk : Keep (fun _ => False) nw ((C, oC) :: (D, seqO "list" [] 0) :: nw) := Keep.cons.trans Keep.cons
  refine xcompLoop X (INV C D) hkind hx c7 b7 m7 (itk _ _ _ _ it0 hk id fun _ h => h.elim) (i0 _ _ _ hk) hn (nC _ _ mI).symm (nD _ _ mI).symm hDC ?_ ?_ ?_ ?_
  · intro i n1 n2 a ha it k
    refine itk _ _ _ _ it k (fun z => ?_) fun b hb hs => ?_
    · rcases ha with rfl | rfl
      · exact nC _ _ mI z
      · exact nD _ _ mI z
    · obtain ⟨o, m⟩ := hsrc _ hs
      have hb : b = a := hb
      subst hb
      rcases ha with rfl | rfl
      · exact nC _ _ m rfl
      · exact nD _ _ m rfl
  · intro i ys n1 n2 a ha v k
    refine stab _ _ _ _ _ _ _ (fun z => ?_) ha k v
    rcases ha with rfl | rfl | rfl
    · exact hI z
    · exact oC' z
    · exact oD z
  · intro i v ys h8 nw8 t8 hi hv hy c8 b8 m8 it8 v8
    have key : ∀ {j zs s}, CNext Γ A env outer h₀ L l old src (INV C D) nw8 j zs s → ∃ h' t' nw', s = S Γ h' t' ∧ Fx Γ A env outer h₀ L h' l nw' ∧ HasBlk h' nw' C ∧ IsQ "list" nw' D ys ∧ It (i + 1) nw' ∧ INV C D j zs nw' := by
      rintro j zs s ⟨h9, t9, nw9, W, rfl, c9, k9, hW, v9⟩
      exact ⟨h9, t9, nw9, rfl, c9, b8.has.later c8 c9 k9 (fun z => oC' (hW _ z).1), m8.keep k9 (fun z => oD (hW _ z).1), itk _ _ _ _ it8 k9 (fun z => hI (hW _ z).1) (fun b hb => (hW _ hb).2), v9⟩
    refine wpAny_mono (step i v ys h8 nw8 t8 C D hi hv hy c8 b8 oC' (fun b hb => by
      rcases hb with rfl | rfl | rfl
      · exact itm _ _ it8
      · obtain ⟨o, _, m, _⟩ := b8; exact ⟨o, m⟩
      · obtain ⟨_, k, m⟩ := m8; exact ⟨_, m⟩) v8) (fun ok s₃ h₃ => ?_) fun _ _ z => z
    cases ok with
    | false => exact key h₃
    | true => exact wpAny_mono h₃ (fun y s₄ h₄ => key h₄) fun _ _ z => z
  · intro ys h8 nw8 t8 c8 b8 m8 v8
    exact fin ys h8 nw8 t8 C D c8 b8 m8 oC' oD hDC v8
theorem itm_rng {I : Addr} {n : Nat} (i : Nat) (n1 : Led) (it : RngIt I n i n1) : ∃ o, (I, o) ∈ n1 := ⟨_, it⟩
theorem itm_list {I a : Addr} {xs : List Value} (i : Nat) (n1 : Led) (it : ListIt I a xs i n1) : ∃ o, (I, o) ∈ n1 := let ⟨⟨o, m, _⟩, _⟩ := it; ⟨o, m⟩
end
/-! rows: lists of pairs of ints -/
def PrsAt (Y : List Addr) (nw : Led) : List (Int × Int) → List Value → Prop
  | [], xs => xs = []
  | p :: ps, xs => ∃ (T : Addr) (r : List Value) (t1 t2 : Tok), xs = .ref T :: r ∧ IsQ "tuple" nw T [.int p.1 t1, .int p.2 t2] ∧ T ∉ Y ∧ PrsAt Y nw ps r
theorem PrsAt.keep {Y : List Addr} {nw nw' : Led} {W : Addr → Prop} (k : Keep W nw nw') (hW : ∀ a, W a → a ∈ Y) : ∀ {ts : List (Int × Int)} {xs : List Value}, PrsAt Y nw ts xs → PrsAt Y nw' ts xs
  | [], _, h => h
  | _ :: _, _, ⟨T, r, t1, t2, e, m, hT, h⟩ => ⟨T, r, t1, t2, e, m.keep k fun z => hT (hW _ z), hT, PrsAt.keep k hW h⟩
theorem PrsAt.sf {Y : List Addr} {nw nw' : Led} {W : Addr → Prop} (h : Soft W nw) (k : Keep W nw nw') : ∀ {ts : List (Int × Int)} {xs : List Value}, PrsAt Y nw ts xs → PrsAt Y nw' ts xs
  | [], _, h => h
  | _ :: _, _, ⟨T, r, t1, t2, e, m, hT, q⟩ => ⟨T, r, t1, t2, e, m.keep k (h.noT m.w), hT, PrsAt.sf h k q⟩
theorem PrsAt.less {X Y : List Addr} {nw : Led} (hY : ∀ a ∈ Y, a ∈ X) : ∀ {ts : List (Int × Int)} {xs : List Value}, PrsAt X nw ts xs → PrsAt Y nw ts xs
  | [], _, h => h
  | _ :: _, _, ⟨T, r, t1, t2, e, m, hT, h⟩ => ⟨T, r, t1, t2, e, m, fun z => hT (hY _ z), PrsAt.less hY h⟩
theorem PrsAt.snoc {X : List Addr} {nw : Led} {T : Addr} {p : Int × Int} {t1 t2 : Tok} (m : IsQ "tuple" nw T [.int p.1 t1, .int p.2 t2]) (hT : T ∉ X) : ∀ {ts : List (Int × Int)} {xs : List Value}, PrsAt X nw ts xs → PrsAt X nw (ts ++ [p]) (xs ++ [.ref T])
  | [], xs, h => by obtain rfl : xs = [] := h; exact ⟨T, [], t1, t2, rfl, m, hT, rfl⟩
  | _ :: _, _, ⟨T', r, u1, u2, e, m', hT', h⟩ => by subst e; exact ⟨T', _, u1, u2, rfl, m', hT', PrsAt.snoc m hT h⟩
theorem PrsAt.len {X : List Addr} {nw : Led} : ∀ {ts : List (Int × Int)} {xs : List Value}, PrsAt X nw ts xs → ts.length = xs.length
  | [], xs, h => by obtain rfl : xs = [] := h; rfl
  | _ :: _, _, ⟨_, _, _, _, e, _, _, h⟩ => by subst e; simp [PrsAt.len h]
theorem PrsAt.at {X : List Addr} {nw : Led} : ∀ {ts : List (Int × Int)} {xs : List Value} {i : Nat} {v : Value}, PrsAt X nw ts xs → xs[i]? = some v → ∃ t, ts[i]? = some t ∧ PairAt nw t v
  | [], xs, i, v, h, e => by obtain rfl : xs = [] := h; simp at e
  | y :: _, _, i, v, ⟨T, r, t1, t2, e0, m, _, h⟩, e => by
    subst e0
    cases i with
    | zero => simp at e; exact ⟨y, rfl, T, t1, t2, e.symm, m⟩
    | succ i =>
      obtain ⟨t, h1, h2⟩ := PrsAt.at (i := i) h (by simpa using e)
      exact ⟨t, by simpa using h1, h2⟩
theorem PrsAt.of {nw : Led} : ∀ {ts : List (Int × Int)} {xs : List Value}, ts.length = xs.length → (∀ (i : Nat) (t : Int × Int) (v : Value), ts[i]? = some t → xs[i]? = some v → PairAt nw t v) → PrsAt [] nw ts xs
  | [], [], _, _ => rfl
  | [], _ :: _, h, _ => by simp at h
  | _ :: _, [], h, _ => by simp at h
  | t :: ts, x :: xs, h, q => by
    obtain ⟨T, t1, t2, e, m⟩ := q 0 t x rfl rfl
    exact ⟨T, xs, t1, t2, by rw [e], m, (fun z => nomatch z), PrsAt.of (by simpa using h) fun i t' v h1 h2 => q (i + 1) t' v (by simpa using h1) (by simpa using h2)⟩
/-- a list of pairs, none of `X` -/
def RowAt (X : List Addr) (nw : Led) (r : List (Int × Int)) (v : Value) : Prop := ∃ D vs, v = .ref D ∧ IsQ "list" nw D vs ∧ D ∉ X ∧ PrsAt [] nw r vs
theorem RowAt.keep {X : List Addr} {nw nw' : Led} {W : Addr → Prop} {r : List (Int × Int)} {v : Value} (m : RowAt X nw r v) (h : Soft W nw) (k : Keep W nw nw') (hl : ∀ a xs n, (a, seqO "list" xs n) ∈ nw → W a → a ∈ X) : RowAt X nw' r v := by
  obtain ⟨D, vs, e, m, hD, p⟩ := m
  refine ⟨D, vs, e, m.keep k fun w => ?_, hD, p.sf h k⟩
  obtain ⟨_, n, m⟩ := m
  exact hD (hl _ _ _ m w)
theorem RowAt.kept {X : List Addr} {nw nw' : Led} {r : List (Int × Int)} {v : Value} (m : RowAt X nw r v) (k : Keep (fun _ => False) nw nw') : RowAt X nw' r v := m.keep (fun _ _ _ w => w.elim) k fun _ _ _ _ w => w.elim
theorem RowAt.more {X : List Addr} {nw : Led} {ch : Addr} {r : List (Int × Int)} {v : Value} (m : RowAt X nw r v) (hc : ∀ p ∈ nw, p.1 ≠ ch) : RowAt (ch :: X) nw r v := by
  obtain ⟨D, vs, e, m, hD, p⟩ := m
  refine ⟨D, vs, e, m, fun z => ?_, p⟩
  rcases List.mem_cons.mp z with z | z
  · obtain ⟨_, n, m⟩ := m
    exact hc _ m z
  · exact hD z


/-! the law's state when it has asked -/
structure Ly (Γ : Gm) (nw : Led) (L : Addr) (cv : Loc) (X : List Addr) (ra na ca sa : Addr) (g : Gr) (cs : CS) (oi : Oi) (M : Memo) : Prop where
  cells : CellsAt nw (lawC L) cv
  rows : IsQ "list" nw ra ((List.range g.n).map fun j => .ref (g.rs j))
  rX : ra ∉ X
  named : ∃ ts : Nat → Tok, IsQ "list" nw na ((List.range g.n).map fun j => .str (g.nm j) (ts j))
  nX : na ∉ X
  seen : SeenOk Γ nw sa g.n g.tx.length (fE g.pl g.tx) M
  gr : GrAt nw g
  oids : OidsAt nw g oi
  cache : CacheAt Γ X nw g ca cs M M0
  ok : g.Ok
section
variable {Γ : Gm} {nw nw' : Led} {L : Addr} {cv cv' : Loc} {X : List Addr} {ra na ca sa : Addr} {g : Gr} {cs : CS} {oi : Oi} {M G : Memo} {W : Addr → Prop}
theorem CacheAt.more {ch : Addr} (hc : ∀ p ∈ nw, p.1 ≠ ch) (s : CacheAt Γ X nw g ca cs M G) : CacheAt Γ (ch :: X) nw g ca cs M G :=
  { s with row := fun i j r hi hr => let ⟨kvs, hd, hk⟩ := s.row i j r hi hr; ⟨kvs, hd, fun q v hq => let ⟨p, e, hp, z⟩ := hk.1 q v hq; ⟨p, e, hp, z.imp (fun ⟨a, b⟩ => ⟨a, b.more hc⟩) id⟩, hk.2⟩ }
/-- one object is written to: a cell, an iterator, or a list of `X` -/
theorem Ly.at (s : Ly Γ nw L cv X ra na ca sa g cs oi M) (nd : (nw.map (·.1)).Nodup) {a : Addr} {o : Obj} (m : (a, o) ∈ nw) (hn : notDict o) (hs : soft o) (hl : (∀ xs n, o.data ≠ .seq xs n) ∨ a ∈ X) (k : Keep (· = a) nw nw') (cells : CellsAt nw' (lawC L) cv') : Ly Γ nw' L cv' X ra na ca sa g cs oi M := by
  have kd : Kd [a] nw nw' := Kd.drop nd m hn hs (.head _) k
  have nl : ∀ {b xs}, IsW "list" nw b xs → b ∉ X → ¬ b = a := fun {b xs} w hb e => by
    obtain ⟨_, o', n, m', _, hd⟩ := w
    subst e
    rcases hl with hl | hl
    · rw [uniq_nd nd m m'] at hd; exact hl _ _ hd
    · exact hb hl
  have nD : ∀ {b q}, (b, q) ∈ nw → isDictO q → ¬ b = a := fun {b q} hq d e => by
    subst e
    obtain ⟨es, ep, d⟩ := d
    rw [uniq_nd nd m hq] at d
    exact hn es ep d
  obtain ⟨ts, n1⟩ := s.named
  have nt : ∀ {T b xs}, IsW T nw b xs → T = "tuple" → ¬ b = a := fun {T b xs} w hT e => by
    obtain ⟨_, o', n, m', hc, hd⟩ := w
    subst e
    subst hT
    rw [uniq_nd nd m m'] at hc hd
    exact (hs.own fun v e => by rw [hd] at e; cases e).1 hc
  obtain ⟨h0, os, es, ep, xs, hm, h1, h2, h3, h4, h5, h6⟩ := s.seen
  exact { s with
    cells := cells
    rows := s.rows.keep k (nl s.rows.w s.rX)
    named := ⟨ts, n1.keep k (nl n1.w s.nX)⟩
    seen := ⟨h0, os, es, ep, xs, k _ hm (nD hm ⟨_, _, h2⟩), h1, h2, h3, h4, fun x hx => let ⟨i, j, t1, t2, t3, m', e, hx, r⟩ := h5 x hx; ⟨i, j, t1, t2, t3, m', e, k _ hx (nt (T := "tuple") (xs := [.int i t1, .int j t2]) ⟨Nat.le_of_ble_eq_true rfl, _, _, hx, rfl, rfl⟩ rfl), r⟩, h6⟩
    gr := s.gr.kd kd
    oids := s.oids.keep kd k fun j hj => by
      obtain ⟨od, v, h1, h2, _⟩ := s.oids j hj
      exact nD h1 h2.isDict
    cache := s.cache.keep kd (fun b xs n hb hY => by
        rw [List.mem_singleton] at hY
        subst hY
        rcases hl with hl | hl
        · rw [uniq_nd nd hb m] at hl; exact absurd rfl (hl xs.toArray n)
        · exact hl) k (by
        obtain ⟨o', es, ep, m', _, d⟩ := s.cache.top.data
        exact nD m' ⟨es, ep, d⟩) fun r hr => by
        obtain ⟨i, hi⟩ := List.mem_iff_getElem?.mp hr
        have hlt : i < cs.ow.length := by rw [← s.cache.len]; exact (List.getElem?_eq_some_iff.mp hi).1
        obtain ⟨kvs, hd, _⟩ := s.cache.row i _ _ (List.getElem?_eq_getElem hlt) hi
        obtain ⟨o', es, ep, m', _, d⟩ := hd.data
        exact nD m' ⟨es, ep, d⟩ }
theorem Ly.kept (s : Ly Γ nw L cv X ra na ca sa g cs oi M) (k : Keep (fun _ => False) nw nw') : Ly Γ nw' L cv X ra na ca sa g cs oi M := by
  obtain ⟨ts, n1⟩ := s.named
  exact { s with
    cells := s.cells.keep k fun _ _ => id
    rows := s.rows.keep k id
    named := ⟨ts, n1.keep k id⟩
    seen := s.seen.keep k id fun _ => id
    gr := s.gr.kd (Kd.ofKeep (X := []) k)
    oids := s.oids.keep (Kd.ofKeep (X := []) k) k fun _ _ => id
    cache := s.cache.keep (Y := []) (Kd.ofKeep k) (fun _ _ _ _ h => nomatch h) k id fun _ _ => id }
/-- a new list that will be written to -/
theorem Ly.more (s : Ly Γ nw L cv X ra na ca sa g cs oi M) {ch : Addr} (hc : ∀ p ∈ nw, p.1 ≠ ch) : Ly Γ nw L cv (ch :: X) ra na ca sa g cs oi M :=
  { s with
    rX := fun z => (List.mem_cons.mp z).elim (fun z => let ⟨_, n, m⟩ := s.rows; hc _ m z) s.rX
    nX := fun z => (List.mem_cons.mp z).elim (fun z => let ⟨ts, _, n, m⟩ := s.named; hc _ m z) s.nX
    cache := s.cache.more hc }
theorem Lx.toY {pa ta : Addr} {sv : List (Nat × Tok)} {B : Nat} (s : Lx Γ nw L cv pa ra na ta sa ca g sv cs oi B M) : Ly Γ nw L cv [] ra na ca sa g cs oi M :=
  { cells := s.cells, rows := s.rows, rX := (fun h => nomatch h), named := s.named, nX := (fun h => nomatch h), seen := s.seen, gr := s.law.gr, oids := s.law.oids, cache := s.law.cache, ok := s.ok }
end
/-- what the own reading tells of a piece -/
def dueRow (g : Gr) (M : Memo) (k : Nat) : List (Int × Int) := ((List.range (g.tx.length + 1)).filter fun p => M k p).map fun (p : Nat) => ((p : Int), fE g.pl g.tx k p)
/-- a list of rows -/
def RowsAt (X : List Addr) (nw : Led) (rs : List (List (Int × Int))) (a : Addr) : Prop := ∃ vs, IsQ "list" nw a vs ∧ vs.length = rs.length ∧ ∀ (j : Nat) (r : List (Int × Int)) (v : Value), rs[j]? = some r → vs[j]? = some v → RowAt X nw r v
section
variable {X : List Addr} {nw nw' : Led} {W : Addr → Prop} {rs : List (List (Int × Int))} {a : Addr}
theorem RowsAt.keep (m : RowsAt X nw rs a) (h : Soft W nw) (k : Keep W nw nw') (hl : ∀ a xs n, (a, seqO "list" xs n) ∈ nw → W a → a ∈ X) (ha : ¬ W a) : RowsAt X nw' rs a := by
  obtain ⟨vs, m, e, q⟩ := m
  exact ⟨vs, m.keep k ha, e, fun j r v h1 h2 => (q j r v h1 h2).keep h k hl⟩
theorem RowsAt.kept (m : RowsAt X nw rs a) (k : Keep (fun _ => False) nw nw') : RowsAt X nw' rs a := m.keep (fun _ _ _ w => w.elim) k (fun _ _ _ _ w => w.elim) id
theorem RowsAt.odd (m : RowsAt X nw rs a) (nd : (nw.map (·.1)).Nodup) {b : Addr} {o : Obj} (mb : (b, o) ∈ nw) (h : odd o) (k : Keep (· = b) nw nw') : RowsAt X nw' rs a := by
  obtain ⟨vs, m1, _⟩ := id m
  refine m.keep (h.soft nd mb) k (fun c xs n hc e => ?_) (h.noL nd mb m1.w)
  have e : c = b := e
  subst e
  exact absurd (by rw [uniq_nd nd hc mb]) (h.1 xs.toArray n)
theorem RowsAt.more {ch : Addr} (m : RowsAt X nw rs a) (hc : ∀ p ∈ nw, p.1 ≠ ch) : RowsAt (ch :: X) nw rs a := by
  obtain ⟨vs, m, e, q⟩ := m
  exact ⟨vs, m, e, fun j r v h1 h2 => (q j r v h1 h2).more hc⟩
theorem RowsAt.append {vs : List Value} {r : List (Int × Int)} {x : Value} (m : IsQ "list" nw a vs) (e : vs.length = rs.length) (q : ∀ (j : Nat) (r : List (Int × Int)) (v : Value), rs[j]? = some r → vs[j]? = some v → RowAt X nw r v) (nd : (nw.map (·.1)).Nodup)
    (rx : RowAt X nw r x) (ha : a ∈ X) (k : Keep (· = a) nw nw') (m' : IsQ "list" nw' a (vs ++ [x])) : RowsAt X nw' (rs ++ [r]) a := by
  have keep : ∀ {r v}, RowAt X nw r v → RowAt X nw' r v := fun h => h.keep (m.soft nd) k fun b xs n hb w => by rw [show b = a from w]; exact ha
  refine ⟨vs ++ [x], m', by simp [e], fun j r' v h1 h2 => ?_⟩
  by_cases hj : j < rs.length
  · rw [List.getElem?_append_left hj] at h1
    rw [List.getElem?_append_left (by omega)] at h2
    exact keep (q j r' v h1 h2)
  · rw [List.getElem?_append_right (by omega)] at h1 h2
    have h3 : j - rs.length = 0 := by
      have := (List.getElem?_eq_some_iff.mp h1).1
      simp at this
      omega
    rw [h3] at h1
    rw [e, h3] at h2
    simp at h1 h2
    rw [← h1, ← h2]
    exact keep rx
end


section
variable {Γ : Gm} {A : Around} {env : Env} {h₀ : Heap} {L : Addr} {h h' : Heap} {l l' : Loc} {nw : Led} {t : Nat} {pos : Pos} {fa : Addr} {cd : Value} {ra na sa ca : Addr} {g : Gr} {cs : CS} {oi : Oi} {M : Memo} {Q : Flow → Shared → Prop} {rest : List Stmt} {la : Addr} {w1 w2 w3 w4 w5 w6 : Option Value}
/-- the first `j` places of a row -/
def dueTo (g : Gr) (M : Memo) (k j : Nat) : List (Int × Int) := ((List.range j).filter fun p => M k p).map fun (p : Nat) => ((p : Int), fE g.pl g.tx k p)
theorem dueTo_succ (g : Gr) (M : Memo) (k j : Nat) : dueTo g M k (j + 1) = if M k j = true then dueTo g M k j ++ [((j : Int), fE g.pl g.tx k j)] else dueTo g M k j := by
  unfold dueTo
  rw [List.range_succ, List.filter_append, List.map_append]
  split
  · rename_i h; simp [h]
  · rename_i h; simp [h]
set_option maxRecDepth 100000 in
set_option maxHeartbeats 8000000 in
theorem law_due {kv nv pv stv : Option Value} {tt : Tok} (he : env = lawE Γ.w L fa cd) (c : Fx Γ A env [] h₀ L h (lawL la (some (.ref ra)) w1 w2 (some (.ref ca)) w3 w4 w5 w6) nw) (r : Room A 60)
    (s : Ly Γ nw L (lawV none none none (some (.ref sa)) (some (.str g.tx tt)) kv nv pv stv) [] ra na ca sa g cs oi M)
    (q : ∀ h' t' nw' kv du, Fx Γ A env [] h₀ L h' (lawL la (some (.ref ra)) w1 w2 (some (.ref ca)) w3 w4 w5 w6) nw' →
      Ly Γ nw' L (lawV none none (some (.ref du)) (some (.ref sa)) (some (.str g.tx tt)) kv nv pv stv) [du] ra na ca sa g cs oi M → RowsAt [du] nw' ((List.range g.n).map (dueRow g M)) du → wpAny (model PG Γ.w) A (execs rest env) Q (fun _ _ => False) (S Γ h' t')) :
    wpAny (model PG Γ.w) A (execs (lawAt Γ.w 11 :: lawAt Γ.w 12 :: rest) env) Q (fun _ _ => False) (S Γ h t) := by
  have hg := s.ok
  have h7 := hg.tx7
  have h8 := hg.n8
  have cl := s.cells
  refine wpAny_execs_cons ?_
  show wpAny _ _ (exec (Stmt.Assign [Expr.Name _ _] _ _) _) _ _ _
  walk_at "m:go"
  rename_i h2 du _ _ c2 m2 h3 nw3 c3 cl3 ca3 co3 mc3 oc3 _ k3 _
  have hdu : ∀ p ∈ nw, p.1 ≠ du := fun p hp z => by
    have := c2.nd
    rw [List.map_cons, List.nodup_cons] at this
    exact this.1 (by rw [← z]; exact List.mem_map_of_mem (f := (·.1)) hp)
  have s3 := ((s.more hdu).kept (Keep.cons (p := (du, seqO "list" [] 0)))).at c2.nd mc3 oc3.2.1 oc3.2.2 (.inl oc3.1) k3 cl3
  have r2 : RowsAt [du] ((du, seqO "list" [] 0) :: nw) [] du := ⟨[], m2, rfl, fun j r v h => by simp at h⟩
  have r3 := r2.odd c2.nd mc3 oc3 k3
  clear k3 mc3 m2
  show wpAny _ _ (exec (Stmt.For _ _ _ _ _) _) _ _ _
  refine xFor ?_
  walk_at "m:go"
  refine xlen c3 s3.rows.w fun t4 => ?_
  walk_at "m:go"
  rw [show (((List.range g.n).map fun j => Value.ref (g.rs j)).length : Int) = (g.n : Int) by rw [List.length_map, List.length_range]]
  refine xiter_rng c3 (by omega) fun I h5 t5 r5 o5 c5 l5 lr X5 => ?_
  refine xforLoop X5 (fun i l n => l = lawL la (some (.ref ra)) w1 w2 (some (.ref ca)) w3 w4 w5 w6 ∧ ∃ kv, Ly Γ n L (lawV none none (some (.ref du)) (some (.ref sa)) (some (.str g.tx tt)) kv nv pv stv) [du] ra na ca sa g cs oi M ∧ RowsAt [du] n ((List.range i).map (dueRow g M)) du) c5 (.head _)
    ⟨rfl, kv, s3.kept (Keep.cons.trans Keep.cons), r3.kept (Keep.cons.trans Keep.cons)⟩ ?_ ?_
  · rintro i v h6 l6 nw6 t6 o6 hb hi ⟨ti, rfl⟩ cb itb c6 it6 ⟨rfl, kv6, s6, r6⟩
    have s7 := s6.at cb.nd itb odd_rng.2.1 odd_rng.2.2 (.inl odd_rng.1) (Keep.put (o := o6)) (s6.cells.keepO Keep.put fun c o v m d e => by
      have e : c = I := e
      subst e
      rw [uniq_nd cb.nd itb m] at d
      cases d)
    have r7 := r6.odd cb.nd itb odd_rng (Keep.put (o := o6))
    clear s6 r6 itb cb
    have cl7 := s7.cells
    refine wpAny_pure ?_
    walk_at "m:go"
    rename_i h8 nw8 c8 cl8 ca8 co8 mc8 oc8 hot8 k8 _
    have s8 := s7.at c6.nd mc8 oc8.2.1 oc8.2.2 (.inl oc8.1) k8 cl8
    have r8 := r7.odd c6.nd mc8 oc8 k8
    have it8 : RngIt I g.n (i + 1) nw8 := k8 _ it6 fun e => by
      obtain ⟨o, m⟩ := s3.cells.mem (by assumption : ca8 ∈ (lawC L).map (·.2))
      exact absurd (Nat.lt_trans (l5 _ m) lr) (by rw [show I = ca8 from e]; exact Nat.lt_irrefl _)
    clear s7 r7 k8 mc8
    obtain ⟨vs, m8, e8, q8⟩ := id r8
    refine xappendM c8 m8 ?_
    dsimp only
    walk_at "m:go"
    refine xListComp (cl := [("seen", L + 6), ("k", L + 4)]) (by rw [he]; rfl) rfl (by decide) ?_
    walk_at "m:go"
    refine xlenS (by omega) fun t9 u9 => ?_
    walk_at "m:go"
    rw [show (g.tx.length : Int) + 1 = ((g.tx.length + 1 : Nat) : Int) by omega]
    refine xiter_rng c8 (by omega) fun I2 h9 t9 r9 o9 c9 l9 lr9 X9 => ?_
    have hI2 : ∀ p ∈ nw8, p.1 < I2 := fun p hp => Nat.lt_trans (l9 p hp) lr9
    have it9 : RngIt I2 (g.tx.length + 1) 0 ((I2, rangeItO 0 (g.tx.length + 1)) :: (r9, o9) :: nw8) := .head _
    refine xcompD (· < I2) (fun _ => False) (fun C D j ys n => Keep (fun _ => False) nw8 (lo I2 n) ∧ PrsAt [I2, C, D] n (dueTo g M i j) ys) X9 c9 (by decide) rfl (by rfl) (self_rng it9) (fun b hb => .inr hb) (Nat.lt_irrefl _) ⟨_, .head _⟩ (fun b hb => hb.elim) (by omega)
      itm_rng itk_rng it9 (fun C D j ys n1 n2 b hb hb2 k ⟨v1, v2⟩ => ⟨v1.trans (lo_new hb k), v2.keep k fun a e => by rw [show a = b from e]; rcases hb2 with rfl | rfl | rfl <;> simp⟩) (by intro C D n2 k; exact ⟨lo_all hI2 ((Keep.cons.trans Keep.cons).trans k), rfl⟩) ?_ ?_
    · rintro j v ys h13 nw13 t13 C D hj ⟨tj, rfl⟩ hy c13 b13 oC hm ⟨v1, v2⟩
      have s13 := s8.kept (v1.trans lo_sub)
      have cl13 := s13.cells
      refine wpAny_tests_one ?_
      walk_at "m:go"
      rename_i h14 T0 _ _ c14 m14
      have b14 := b13.later c13 c14 (Keep.cons (W := fun _ => False)) id
      obtain ⟨_, n14, m14⟩ := m14
      refine xseen_in c14 (r.mono (Nat.zero_le _)) s13.seen.cons m14 fun t15 => ?_
      walk_at "m:go"
      have es := dueTo_succ g M i j
      cases hM : M i j with
      | false =>
        rw [if_neg (by simp)]
        rw [hM, if_neg (by simp)] at es
        exact ⟨_, _, _, fun _ => False, rfl, c14, Keep.cons, fun _ z => z.elim, lo_all hI2 ((v1.trans lo_sub).trans Keep.cons), by rw [es]; exact v2.keep (W := fun _ => False) Keep.cons fun _ z => z.elim⟩
      | true =>
        rw [if_pos rfl]
        rw [hM, if_pos rfl] at es
        walk_at "m:go"
        rename_i h16 T1 _ _ c16 m16
        obtain ⟨_, n16, m16⟩ := m16
        refine xseen_item c16 (r.mono (Nat.zero_le _)) s13.seen.cons.cons m16 hM (fun t17 u17 => ?_) (by with_unfolding_all rfl) (by intro _; with_unfolding_all rfl)
        walk_at "m:go"
        rename_i h18 T2 _ _ c18 m18
        have hT : T2 ∉ [I2, C, D] := fun z => by
          have nd := c18.nd
          rw [List.map_cons, List.nodup_cons] at nd
          obtain ⟨o, m⟩ := hm T2 (by simpa using z)
          exact nd.1 (List.mem_map_of_mem (f := (·.1)) (.tail _ (.tail _ m)))
        exact ⟨_, _, _, fun _ => False, rfl, c18, (Keep.cons.trans Keep.cons).trans Keep.cons, fun _ z => z.elim, lo_all hI2 ((v1.trans lo_sub).trans ((Keep.cons.trans Keep.cons).trans Keep.cons)), by rw [es]; exact (v2.keep (W := fun _ => False) ((Keep.cons.trans Keep.cons).trans Keep.cons) fun _ z => z.elim).snoc m18 hT⟩
    · rintro ys h13 nw13 t13 C D c13 b13 m13 oC oD hDC ⟨v1, v2⟩
      refine comp_end c13 b13 fun h16 c16 => ?_
      have k16 : Keep (fun _ => False) nw8 (nw13.filter fun p => p.1 != C) := (v1.trans (lo_new oC keep_drop)).trans lo_sub
      have m16 := m13.keep keep_drop hDC
      have s16 := s8.kept k16
      have r16 := r8.kept k16
      have v16 := (v2.keep (keep_drop (I := C)) fun x z => by rw [show x = C from z]; simp).less (Y := []) fun _ h => nomatch h
      walk_at "m:go"
      obtain ⟨vs16, m17, e17, q17⟩ := id r16
      have hDu : D ∉ [du] := fun z => by
        rw [List.mem_singleton] at z
        obtain ⟨_, n, m⟩ := m8
        exact oD (by rw [z]; exact hI2 _ m)
      refine xappend c16 m17 (by rw [e17, List.length_map, List.length_range]; omega) fun h20 o20 _ c20 m20 => ?_
      have k20 : Keep (· = du) (nw13.filter fun p => p.1 != C) (put (nw13.filter fun p => p.1 != C) du o20) := Keep.put
      have s20 := s16.at c16.nd m17.2.choose_spec (fun es ep e => by cases e) soft_seqL (.inr (.head _)) k20 (s16.cells.keepO k20 fun c o v m d e => by
        have e : c = du := e
        subst e
        obtain ⟨_, n, m'⟩ := m17
        rw [uniq_nd c16.nd m' m] at d
        cases d)
      have r20 := RowsAt.append m17 e17 q17 c16.nd (r := dueRow g M i) (x := .ref D) ⟨D, ys, rfl, m16, hDu, v16⟩ (.head _) k20 m20
      walk_at "m:go"
      refine ⟨_, _, _, _, rfl, c20, k20 _ (k16 _ it8 id) (fun e => (RngIt.ne c8 it8 m8.w) e.symm), rfl, _, s20, ?_⟩
      rw [List.range_succ, List.map_append]
      exact r20
  · rintro h6 l6 nw6 nw7 t6 hb cb itb c7 k7 ⟨rfl, kv6, s6, r6⟩
    have s7 := s6.at cb.nd itb odd_rng.2.1 odd_rng.2.2 (.inl odd_rng.1) k7 (s6.cells.keepO k7 fun c o v m d e => by
      have e : c = I := e
      subst e
      rw [uniq_nd cb.nd itb m] at d
      cases d)
    walk_at "m:go"
    exact q _ _ _ kv6 du c7 s7 (r6.odd cb.nd itb odd_rng k7)
end


/-! the sort's questions put it in order -/
section
variable {n : Nat} {lt : Nat → Nat → Bool} {cmp : Nat → Nat → (Bool → Shared → Prop) → Shared → Prop} {J : Shared → Prop}
/-- a strict weak order -/
structure Weak (lt : Nat → Nat → Bool) : Prop where
  asymm : ∀ a b, lt a b = true → lt b a = false
  trans : ∀ a b c, lt b a = false → lt c b = false → lt c a = false
abbrev le (lt : Nat → Nat → Bool) (a b : Nat) : Prop := lt b a = false
abbrev at' (p : Array Nat) (i : Nat) : Nat := p.getD i 0
def Good (n : Nat) (p : Array Nat) : Prop := p.toList.Perm (List.range n)
def Sd (lt : Nat → Nat → Bool) (p : Array Nat) (k : Nat) : Prop := ∀ i j, i < j → j < k → le lt (at' p i) (at' p j)
def Dd (lt : Nat → Nat → Bool) (p : Array Nat) (k : Nat) : Prop := ∀ i j, i < j → j < k → le lt (at' p j) (at' p i)
theorem Good.size {p : Array Nat} (h : Good n p) : p.size = n := by
  have := h.length_eq
  rw [Array.length_toList, List.length_range] at this
  exact this
theorem Good.bnd {p : Array Nat} (h : Good n p) {i : Nat} (hi : i < n) : at' p i < n := by
  have hs := h.size
  have e : at' p i = p[i] := by simp [at', Array.getD, hs, hi]
  rw [e]
  have : p[i] ∈ p.toList := by simp
  exact List.mem_range.mp (h.mem_iff.mp this)
theorem Good.mirror {p : Array Nat} (h : Good n p) (i j : Nat) : Good n (kas_rev p i j) := (Array.perm_iff_toList_perm.mp (mirror_perm p i j _)).trans h
theorem Good.bubble {p : Array Nat} (h : Good n p) (i j : Nat) : Good n (bubble p i j) := (Array.perm_iff_toList_perm.mp (bubble_perm p i j)).trans h
theorem getD_rev {p : Array Nat} {i j : Nat} (hj : j ≤ p.size) (k : Nat) : at' (kas_rev p i j) k = if i ≤ k ∧ k < j then at' p (i + j - 1 - k) else at' p k := by
  have := getElem?_mirror_all (xs := p) (i := i) hj k
  show (mirror p i j ((j - i) / 2)).getD k 0 = _
  unfold at'
  simp only [Array.getD_eq_getD_getElem?, this]
  split <;> rfl
theorem getD_bubble {p : Array Nat} {k d : Nat} (hk : k < p.size) (hd : d ≤ k) (i : Nat) : at' (bubble p k d) i = if i = k - d then at' p k else if k - d < i ∧ i ≤ k then at' p (i - 1) else at' p i := by
  have := getElem?_bubble (xs := p) hk d hd i
  show (bubble p k d).getD i 0 = _
  unfold at'
  simp only [Array.getD_eq_getD_getElem?, this]
  split
  · rfl
  · split <;> rfl
variable (w : Weak lt) (hc : ∀ i j C s, i < n → j < n → J s → (∀ s', J s' → C (lt i j) s') → cmp i j C s)
include w
theorem Weak.irr (a : Nat) : lt a a = false := by
  cases e : lt a a with
  | false => rfl
  | true => have := w.asymm a a e; rw [e] at this; exact this
include hc
theorem asc_ok {p : Array Nat} {G : Nat → Shared → Prop} (g : Good n p) : ∀ (f k : Nat) (s : Shared), 1 ≤ k → k + f ≤ n → Sd lt p k → J s →
    (∀ m s', J s' → k ≤ m → m ≤ k + f → Sd lt p m → (m = k + f ∨ lt (at' p m) (at' p (m - 1)) = true) → G m s') → (kas_asc p f k).kasWp cmp G s
  | 0, k, s, _, _, hs, hJ, q => q k s hJ (Nat.le_refl _) (Nat.le_refl _) hs (.inl rfl)
  | f + 1, k, s, h1, hn, hs, hJ, q => by
    show cmp (at' p k) (at' p (k - 1)) (fun c s' => (if c = true then KasT.ret k else kas_asc p f (k + 1)).kasWp cmp G s') s
    refine hc _ _ _ _ (g.bnd (by omega)) (g.bnd (by omega)) hJ fun s' hJ' => ?_
    cases e : lt (at' p k) (at' p (k - 1)) with
    | true => rw [if_pos rfl]; exact q k s' hJ' (Nat.le_refl _) (by omega) hs (.inr e)
    | false =>
      rw [if_neg (by simp)]
      refine asc_ok g f (k + 1) s' (by omega) (by omega) (fun i j hij hj => ?_) hJ' fun m s'' hJ'' a1 a2 a3 a4 => q m s'' hJ'' (by omega) (by omega) a3 (a4.imp (fun z => by omega) id)
      by_cases hjk : j = k
      · subst hjk
        by_cases hi : i = j - 1
        · subst hi; exact e
        · exact w.trans _ _ _ (hs i (j - 1) (by omega) (by omega)) e
      · exact hs i j hij (by omega)
theorem desc_ok {G : Array Nat × Nat × Nat → Shared → Prop} : ∀ (f : Nat) (p : Array Nat) (k q : Nat) (s : Shared), Good n p → 1 ≤ k → k + f ≤ n → Dd lt p k → q + 1 ≤ k → (∀ i, k - (q + 1) ≤ i → i < k → le lt (at' p i) (at' p (k - 1))) → J s →
    (∀ p' m q' s', J s' → Good n p' → k ≤ m → m ≤ k + f → Dd lt p' m → q' + 1 ≤ m → (∀ i, m - (q' + 1) ≤ i → i < m → le lt (at' p' i) (at' p' (m - 1))) → G (p', m, q') s') → (kas_desc f p k q).kasWp cmp G s
  | 0, p, k, q, s, g, _, _, hd, hq, hr, hJ, z => z p k q s hJ g (Nat.le_refl _) (Nat.le_refl _) hd hq hr
  | f + 1, p, k, q, s, g, h1, hn, hd, hq, hr, hJ, z => by
    show cmp (at' p k) (at' p (k - 1)) (fun c s' => (if c = true then (if q > 0 then kas_desc f (kas_rev p (k - (q + 1)) k) (k + 1) 0 else kas_desc f p (k + 1) 0)
      else KasT.ask (at' p (k - 1)) (at' p k) fun d => if d = true then KasT.ret (p, k, q) else kas_desc f p (k + 1) (q + 1)).kasWp cmp G s') s
    have hs := g.size
    refine hc _ _ _ _ (g.bnd (by omega)) (g.bnd (by omega)) hJ fun s' hJ' => ?_
    have top : ∀ {i}, i < k → le lt (at' p (k - 1)) (at' p i) := fun {i} hi => by
      by_cases e : i = k - 1
      · subst e; exact w.irr _
      · exact hd i (k - 1) (by omega) (by omega)
    cases e : lt (at' p k) (at' p (k - 1)) with
    | true =>
      rw [if_pos rfl]
      have low : ∀ {i}, i < k → le lt (at' p k) (at' p i) := fun {i} hi => w.trans _ _ _ (w.asymm _ _ e) (top hi)
      by_cases hq0 : q > 0
      · rw [if_pos hq0]
        have e1 : ∀ i, at' (kas_rev p (k - (q + 1)) k) i = if k - (q + 1) ≤ i ∧ i < k then at' p (k - (q + 1) + k - 1 - i) else at' p i := getD_rev (by omega)
        refine desc_ok f _ (k + 1) 0 s' (g.mirror _ _) (by omega) (by omega) (fun i j hij hj => ?_) (by omega) (fun i h2 h3 => ?_) hJ' fun p' m q' s'' hJ'' a1 a2 a3 a4 a5 a6 => z p' m q' s'' hJ'' a1 (by omega) (by omega) a4 a5 a6
        · rw [e1 i, e1 j]
          by_cases hjk : j = k
          · subst hjk
            rw [if_neg (by omega)]
            split <;> exact low (by omega)
          · by_cases a : k - (q + 1) ≤ i ∧ i < k
            · rw [if_pos a, if_pos (by omega)]
              exact w.trans _ _ _ (hr _ (by omega) (by omega)) (top (by omega))
            · rw [if_neg a]
              split
              · exact hd _ _ (by omega) (by omega)
              · exact hd _ _ (by omega) (by omega)
        · have : i = k := by omega
          subst this
          exact w.irr _
      · rw [if_neg hq0]
        refine desc_ok f _ (k + 1) 0 s' g (by omega) (by omega) (fun i j hij hj => ?_) (by omega) (fun i h2 h3 => ?_) hJ' fun p' m q' s'' hJ'' a1 a2 a3 a4 a5 a6 => z p' m q' s'' hJ'' a1 (by omega) (by omega) a4 a5 a6
        · by_cases hjk : j = k
          · subst hjk; exact low (by omega)
          · exact hd i j hij (by omega)
        · have : i = k := by omega
          subst this
          exact w.irr _
    | false =>
      rw [if_neg (by simp)]
      show cmp (at' p (k - 1)) (at' p k) (fun d s' => (if d = true then KasT.ret (p, k, q) else kas_desc f p (k + 1) (q + 1)).kasWp cmp G s') s'
      refine hc _ _ _ _ (g.bnd (by omega)) (g.bnd (by omega)) hJ' fun s'' hJ'' => ?_
      cases e2 : lt (at' p (k - 1)) (at' p k) with
      | true => rw [if_pos rfl]; exact z p k q s'' hJ'' g (Nat.le_refl _) (by omega) hd hq hr
      | false =>
        rw [if_neg (by simp)]
        refine desc_ok f _ (k + 1) (q + 1) s'' g (by omega) (by omega) (fun i j hij hj => ?_) (by omega) (fun i h2 h3 => ?_) hJ'' fun p' m q' s3 hJ3 a1 a2 a3 a4 a5 a6 => z p' m q' s3 hJ3 a1 (by omega) (by omega) a4 a5 a6
        · by_cases hjk : j = k
          · subst hjk; exact w.trans _ _ _ e2 (top (by omega))
          · exact hd i j hij (by omega)
        · show le lt (at' p i) (at' p (k + 1 - 1))
          rw [Nat.add_sub_cancel]
          by_cases hik : i = k
          · subst hik; exact w.irr _
          · exact w.trans _ _ _ (hr i (by omega) (by omega)) e
theorem tail3_ok {p : Array Nat} {G : Nat × Array Nat → Shared → Prop} {m nr : Nat} {s : Shared} (hnr : nr = n) (g : Good n p) (h1 : 1 ≤ m) (hm : m ≤ n) (hd : Dd lt p m) (hJ : J s)
    (q : ∀ m' p' s', J s' → Good n p' → 1 ≤ m' → m' ≤ n → Sd lt p' m' → G (m', p') s') : (kas_tail3 m nr p).kasWp cmp G s := by
  subst hnr
  have hs := g.size
  unfold kas_tail3
  rw [KasT.kasWp_bind]
  have e1 : ∀ i, at' (kas_rev p 0 m) i = if 0 ≤ i ∧ i < m then at' p (0 + m - 1 - i) else at' p i := getD_rev (by omega)
  have sd : Sd lt (kas_rev p 0 m) m := fun i j hij hj => by
    rw [e1 i, e1 j, if_pos (by omega), if_pos (by omega)]
    exact hd _ _ (by omega) (by omega)
  exact asc_ok w hc (g.mirror 0 m) (nr - m) m s h1 (by omega) sd hJ fun m' s' hJ' a1 a2 a3 _ => q m' _ s' hJ' (g.mirror 0 m) (by omega) (by omega) a3
theorem descPart_ok {p : Array Nat} {G : Nat × Array Nat → Shared → Prop} {m nr : Nat} {s : Shared} (hnr : nr = n) (g : Good n p) (h1 : 1 ≤ m) (hm : m + 1 ≤ n) (hd : Dd lt p (m + 1)) (hJ : J s)
    (q : ∀ m' p' s', J s' → Good n p' → 1 ≤ m' → m' ≤ n → Sd lt p' m' → G (m', p') s') : (kas_descPart m nr p).kasWp cmp G s := by
  unfold kas_descPart
  rw [KasT.kasWp_bind]
  refine desc_ok w hc (nr - (m + 1)) p (m + 1) 0 s g (by omega) (by omega) hd (by omega) (fun i h2 h3 => ?_) hJ fun p' m' q' s' hJ' g' a1 a2 d' a3 r' => ?_
  · have : i = m + 1 - 1 := by omega
    subst this; exact w.irr _
  · have hs := g'.size
    show (if q' > 0 then kas_tail3 m' nr (kas_rev p' (m' - (q' + 1)) m') else kas_tail3 m' nr p').kasWp cmp G s'
    split
    · refine tail3_ok w hc hnr (g'.mirror _ _) (by omega) (by omega) (fun i j hij hj => ?_) hJ' q
      have e1 : ∀ i, at' (kas_rev p' (m' - (q' + 1)) m') i = if m' - (q' + 1) ≤ i ∧ i < m' then at' p' (m' - (q' + 1) + m' - 1 - i) else at' p' i := getD_rev (by omega)
      have top : ∀ {i}, i < m' → le lt (at' p' (m' - 1)) (at' p' i) := fun {i} hi => by
        by_cases e : i = m' - 1
        · subst e; exact w.irr _
        · exact d' i (m' - 1) (by omega) (by omega)
      rw [e1 i, e1 j]
      by_cases a : m' - (q' + 1) ≤ i ∧ i < m'
      · rw [if_pos a, if_pos (by omega)]
        exact w.trans _ _ _ (r' _ (by omega) (by omega)) (top (by omega))
      · rw [if_neg a]
        split
        · exact d' _ _ (by omega) (by omega)
        · exact d' _ _ (by omega) (by omega)
    · exact tail3_ok w hc hnr g' (by omega) (by omega) d' hJ' q
theorem count_ok {p : Array Nat} {G : Nat × Array Nat → Shared → Prop} {nr : Nat} {s : Shared} (hnr : nr = n) (g : Good n p) (h1 : 1 ≤ n) (hJ : J s)
    (q : ∀ m' p' s', J s' → Good n p' → 1 ≤ m' → m' ≤ n → Sd lt p' m' → G (m', p') s') : (kas_count nr p).kasWp cmp G s := by
  have hs := g.size
  unfold kas_count
  rw [KasT.kasWp_bind]
  refine asc_ok w hc g (nr - 1) 1 s (Nat.le_refl _) (by omega) (fun i j hij hj => by omega) hJ fun m s' hJ' a1 a2 a3 a4 => ?_
  show (if (m == nr) = true then KasT.ret (m, p) else if m > 1 then .ask (at' p 0) (at' p (m - 1)) fun c => if c = true then .ret (m, p) else kas_descPart m nr (kas_rev p 0 m) else kas_descPart m nr p).kasWp cmp G s'
  by_cases e : m = nr
  · subst e
    rw [if_pos (beq_self_eq_true _)]
    exact q m p s' hJ' g a1 (by omega) a3
  · rw [if_neg (by simpa using e)]
    have a4 : lt (at' p m) (at' p (m - 1)) = true := a4.elim (fun z => by omega) id
    by_cases e2 : m > 1
    · rw [if_pos e2]
      show cmp (at' p 0) (at' p (m - 1)) (fun c s' => (if c = true then KasT.ret (m, p) else kas_descPart m nr (kas_rev p 0 m)).kasWp cmp G s') s'
      refine hc _ _ _ _ (g.bnd (by omega)) (g.bnd (by omega)) hJ' fun s'' hJ'' => ?_
      cases e3 : lt (at' p 0) (at' p (m - 1)) with
      | true => rw [if_pos rfl]; exact q m p s'' hJ'' g a1 (by omega) a3
      | false =>
        rw [if_neg (by simp)]
        have e1 : ∀ i, at' (kas_rev p 0 m) i = if 0 ≤ i ∧ i < m then at' p (0 + m - 1 - i) else at' p i := getD_rev (by omega)
        have lo0 : ∀ {i}, i < m → le lt (at' p 0) (at' p i) := fun {i} hi => by
          by_cases z : i = 0
          · subst z; exact w.irr _
          · exact a3 0 i (by omega) hi
        have hi1 : ∀ {i}, i < m → le lt (at' p i) (at' p (m - 1)) := fun {i} hi => by
          by_cases z : i = m - 1
          · subst z; exact w.irr _
          · exact a3 i (m - 1) (by omega) (by omega)
        have all : ∀ {i j}, i < m → j < m → le lt (at' p i) (at' p j) := fun {i j} hi hj => w.trans _ _ _ (w.trans _ _ _ (hi1 hi) e3) (lo0 hj)
        refine descPart_ok w hc hnr (g.mirror 0 m) a1 (by omega) (fun i j hij hj => ?_) hJ'' q
        rw [e1 i, e1 j, if_pos (show 0 ≤ i ∧ i < m by omega)]
        by_cases z : j = m
        · subst z
          rw [if_neg (by omega)]
          exact w.trans _ _ _ (w.asymm _ _ a4) (all (by omega) (by omega))
        · rw [if_pos (by omega)]
          exact all (by omega) (by omega)
    · rw [if_neg e2]
      have : m = 1 := by omega
      subst this
      refine descPart_ok w hc hnr g (Nat.le_refl _) (by omega) (fun i j hij hj => ?_) hJ' q
      have : i = 0 ∧ j = 1 := by omega
      obtain ⟨rfl, rfl⟩ := this
      exact w.asymm _ _ a4
theorem place_ok {p : Array Nat} {G : Nat → Shared → Prop} {k : Nat} (g : Good n p) (hk : k < n) : ∀ (f l r : Nat) (s : Shared), l ≤ r → r ≤ k → r - l ≤ f → (∀ i, i < l → le lt (at' p i) (at' p k)) → (∀ i, r ≤ i → i < k → le lt (at' p k) (at' p i)) → Sd lt p k → J s →
    (∀ m s', J s' → m ≤ k → (∀ i, i < m → le lt (at' p i) (at' p k)) → (∀ i, m ≤ i → i < k → le lt (at' p k) (at' p i)) → G m s') → (kas_place p k f l r).kasWp cmp G s
  | 0, l, r, s, h1, h2, h3, a, b, _, hJ, q => by
    have : l = r := by omega
    subst this
    exact q l s hJ h2 a b
  | f + 1, l, r, s, h1, h2, h3, a, b, sd, hJ, q => by
    show (if l ≥ r then KasT.ret l else .ask (at' p k) (at' p ((l + r) / 2)) fun c => if c = true then kas_place p k f l ((l + r) / 2) else kas_place p k f ((l + r) / 2 + 1) r).kasWp cmp G s
    by_cases e : l ≥ r
    · rw [if_pos e]
      have : l = r := by omega
      subst this
      exact q l s hJ h2 a b
    · rw [if_neg e]
      show cmp (at' p k) (at' p ((l + r) / 2)) (fun c s' => (if c = true then kas_place p k f l ((l + r) / 2) else kas_place p k f ((l + r) / 2 + 1) r).kasWp cmp G s') s
      refine hc _ _ _ _ (g.bnd (by omega)) (g.bnd (by omega)) hJ fun s' hJ' => ?_
      cases e2 : lt (at' p k) (at' p ((l + r) / 2)) with
      | true =>
        rw [if_pos rfl]
        refine place_ok g hk f l _ s' (by omega) (by omega) (by omega) a (fun i h4 h5 => ?_) sd hJ' q
        have h6 := w.asymm _ _ e2
        by_cases z : i = (l + r) / 2
        · subst z; exact h6
        · exact w.trans _ _ _ h6 (sd _ _ (by omega) h5)
      | false =>
        rw [if_neg (by simp)]
        refine place_ok g hk f _ r s' (by omega) h2 (by omega) (fun i h4 => ?_) b sd hJ' q
        by_cases z : i = (l + r) / 2
        · subst z; exact e2
        · exact w.trans _ _ _ (sd i ((l + r) / 2) (by omega) (by omega)) e2
theorem bin_ok {G : Array Nat → Shared → Prop} : ∀ (f : Nat) (p : Array Nat) (k : Nat) (s : Shared), Good n p → 1 ≤ k → k + f = n → Sd lt p k → J s → (∀ p' s', J s' → Good n p' → Sd lt p' n → G p' s') → (kas_bin f p k).kasWp cmp G s
  | 0, p, k, s, g, _, hk, sd, hJ, q => by
    have : k = n := by omega
    subst this
    exact q p s hJ g sd
  | f + 1, p, k, s, g, h1, hk, sd, hJ, q => by
    have hs := g.size
    show ((kas_place p k k 0 k).bind fun l => kas_bin f (bubble p k (k - l)) (k + 1)).kasWp cmp G s
    rw [KasT.kasWp_bind]
    refine place_ok w hc g (by omega) k 0 k s (Nat.zero_le _) (Nat.le_refl _) (by omega) (fun i hi => by omega) (fun i h2 h3 => by omega) sd hJ fun m s' hJ' hm a b => ?_
    refine bin_ok f _ (k + 1) s' (g.bubble _ _) (by omega) (by omega) (fun i j hij hj => ?_) hJ' q
    have e1 : ∀ i, at' (bubble p k (k - m)) i = if i = k - (k - m) then at' p k else if k - (k - m) < i ∧ i ≤ k then at' p (i - 1) else at' p i := getD_bubble (by omega) (by omega)
    rw [show k - (k - m) = m by omega] at e1
    rw [e1 i, e1 j]
    by_cases z1 : i = m
    · rw [if_pos z1, if_neg (by omega), if_pos (by omega)]
      exact b _ (by omega) (by omega)
    · rw [if_neg z1]
      by_cases z2 : j = m
      · rw [if_pos z2, if_neg (by omega)]
        exact a _ (by omega)
      · rw [if_neg z2]
        split <;> split <;> exact sd _ _ (by omega) (by omega)
theorem sort_tree {G : Array Nat → Shared → Prop} {s : Shared} (h1 : 1 ≤ n) (hJ : J s) (q : ∀ p s', J s' → Good n p → Sd lt p n → G p s') : (kas_sort n).kasWp cmp G s := by
  unfold kas_sort
  rw [KasT.kasWp_bind]
  refine count_ok w hc rfl (show ((List.range n).toArray).toList.Perm _ by rw [List.toList_toArray]) h1 hJ fun m p s' hJ' g a1 a2 sd => ?_
  show (if m < n then kas_bin (n - max m 1) p (max m 1) else .ret p).kasWp cmp G s'
  split
  · have e : max m 1 = m := by omega
    rw [e]
    exact bin_ok w hc (n - m) p m s' g a1 (by omega) sd hJ' q
  · have : m = n := by omega
    subst this
    exact q p s' hJ' g sd
end


/-! `<` of tuples, of lists -/
section
open PySem.SeqAt PySem.MeetsSeq PySem.MeetsSeq2 PySem.MeetsSeq3
open PySem.AutoSeq1 (wpAny_loadPart')
def LtAt (A : Around) (s : Shared) (x y : Value) (b : Bool) : Prop :=
  ∀ (prog : Program) (w : World) (E : Value → Shared → Prop) (Q : Value → Shared → Prop), Q (.bool b) s → wpAny (model prog w) A (richCompare .Lt x y) Q E s
/-- the first place that differs decides -/
def lexL (e lt : Nat → Bool) (fin : Bool) : List Nat → Bool
  | [] => fin
  | j :: r => if e j = true then lexL e lt fin r else lt j
theorem lt_loopAt (l b : Addr) (items items2 : Array Value) (n n2 : Nat) (dd dd2 : Option Addr) (sl sl2 : Array (Option Value)) (e lt : Nat → Bool) (k : Nat) :
    ∀ i : Nat, i ≤ min items.size items2.size → min items.size items2.size - i = k → Meets (Builtin.«list.__eq__.loop» ⟨[.ref l, .ref b, rawInt i, rawInt 0], []⟩)
      (fun A R s => s.heap.get? l = some { cls := .type "list", dict := dd, data := .seq items n, slots := sl } ∧ s.heap.get? b = some { cls := .type "list", dict := dd2, data := .seq items2 n2, slots := sl2 } ∧
        (∀ j (h1 : j < items.size) (h2 : j < items2.size), EqAt A.in1 s items[j] items2[j] (e j)) ∧ (∀ j (h1 : j < items.size) (h2 : j < items2.size), LtAt A.in1 s items[j] items2[j] (lt j)) ∧
        R (.ok (.ret (.bool (lexL e lt (decide (items.size < items2.size)) ((List.range (min items.size items2.size)).drop i))))) s) := by
  induction k with
  | zero =>
    intro i hi hk prog w A R s h
    obtain ⟨hp, g, d, tk, os⟩ := s; obtain ⟨hl, hb, he, hlt, h⟩ := h
    have e1 : i = min items.size items2.size := by omega
    rw [List.drop_of_length_le (by simp; omega)] at h
    by_cases hs : items.size ≤ items2.size
    · have hi1 : items[((i : Nat) : Int).toNat]? = none := by simp; omega
      wp_walk using wpAny_loadPart' hl, wpAny_loadPart' hb
      rw [hi1]
      wp_walk using wpAny_loadPart' hl, wpAny_loadPart' hb
      exact h
    · have hi2 : items2[((i : Nat) : Int).toNat]? = none := by simp; omega
      wp_walk using wpAny_loadPart' hl, wpAny_loadPart' hb
      rw [hi2]
      cases hx : items[((i : Nat) : Int).toNat]? <;>
      · wp_walk using wpAny_loadPart' hl, wpAny_loadPart' hb
        exact h
  | succ k ih =>
    intro i hi hk prog w A R s h
    obtain ⟨hp, g, d, tk, os⟩ := s; obtain ⟨hl, hb, he, hlt, h⟩ := h
    wp_walk using wpAny_loadPart' hl, wpAny_loadPart' hb
    have hlt1 : i < items.size := by omega
    have hlt2 : i < items2.size := by omega
    have hi1 : items[((i : Nat) : Int).toNat]? = some items[i] := by simp [hlt1]
    have hi2 : items2[((i : Nat) : Int).toNat]? = some items2[i] := by simp [hlt2]
    have hd : (List.range (min items.size items2.size)).drop i = i :: (List.range (min items.size items2.size)).drop (i + 1) := by
      rw [List.drop_eq_getElem_cons (by simp; omega)]; simp
    have hc : ((i : Int) + 1) = ((i + 1 : Nat) : Int) := by push_cast; rfl
    rw [hd] at h
    rw [hi1, hi2]
    refine wpAny_bind (he i hlt1 hlt2 prog w _ _ ?_)
    cases hb' : e i with
    | true =>
      have h : R (.ok (.ret (.bool (lexL e lt (decide (items.size < items2.size)) ((List.range (min items.size items2.size)).drop (i + 1)))))) ⟨hp, g, d, tk, os⟩ := by
        unfold lexL at h
        rw [hb', if_pos rfl] at h
        exact h
      wp_walk
      rw [hc]
      exact ⟨plainId_quiet plain_eq_loop _, codeAny_builtin entry_eq_loop (by
        rw [Around.under_plainId plain_eq_loop _]
        exact ih (i + 1) (by omega) (by omega) prog w A R _ ⟨hl, hb, he, hlt, h⟩)⟩
    | false =>
      have h : R (.ok (.ret (.bool (lt i)))) ⟨hp, g, d, tk, os⟩ := by
        unfold lexL at h
        rw [hb', if_neg (by simp)] at h
        exact h
      wp_walk using wpAny_loadPart' hl, wpAny_loadPart' hb
      rw [hi1, hi2]
      refine wpAny_bind (hlt i hlt1 hlt2 prog w _ _ ?_)
      wp_walk
      exact h
theorem list_ltAt (l b : Addr) (items items2 : Array Value) (n n2 : Nat) (dd dd2 : Option Addr) (sl sl2 : Array (Option Value)) (e lt : Nat → Bool) :
    Meets (Builtin.«list.__lt__» ⟨[.ref l, .ref b], []⟩)
      (fun A R s => s.heap.get? l = some { cls := .type "list", dict := dd, data := .seq items n, slots := sl } ∧ s.heap.get? b = some { cls := .type "list", dict := dd2, data := .seq items2 n2, slots := sl2 } ∧
        (∀ j (h1 : j < items.size) (h2 : j < items2.size), EqAt A.in1 s items[j] items2[j] (e j)) ∧ (∀ j (h1 : j < items.size) (h2 : j < items2.size), LtAt A.in1 s items[j] items2[j] (lt j)) ∧
        R (.ok (.ret (.bool (lexL e lt (decide (items.size < items2.size)) (List.range (min items.size items2.size)))))) s) := by
  intro prog w A R s h
  obtain ⟨hp, g, d, tk, os⟩ := s; obtain ⟨hl, hb, he, hlt, h⟩ := h
  have f3 := AutoSeq1.sub_list_list
  wp_walk using wpAny_loadPart' hl, wpAny_loadPart' hb
  exact ⟨plainId_quiet plain_eq_loop _, codeAny_builtin entry_eq_loop (by
    rw [Around.under_plainId plain_eq_loop _]
    exact lt_loopAt l b items items2 n n2 dd dd2 sl sl2 e lt _ 0 (Nat.zero_le _) rfl prog w A R _ ⟨hl, hb, he, hlt, by simpa using h⟩)⟩
theorem LtAt.lists {A : Around} {s : Shared} {l b : Addr} {items items2 : Array Value} {e lt : Nat → Bool} (hl : s.heap.IsList l items) (hb : s.heap.IsList b items2) (hu : A.units < cLine)
    (he : ∀ j (h1 : j < items.size) (h2 : j < items2.size), EqAt A.in1 s items[j] items2[j] (e j)) (hlt : ∀ j (h1 : j < items.size) (h2 : j < items2.size), LtAt A.in1 s items[j] items2[j] (lt j)) :
    LtAt A s (.ref l) (.ref b) (lexL e lt (decide (items.size < items2.size)) (List.range (min items.size items2.size))) := fun prog w E Q h => by
  obtain ⟨⟨cls, dd, data, sl⟩, ho, hc, n, hd⟩ := id hl
  obtain ⟨⟨cls2, dd2, data2, sl2⟩, ho2, hc2, n2, hd2⟩ := id hb
  simp only at hc hd hc2 hd2
  subst hc hd hc2 hd2
  exact richCompare_meets_room (op := .Lt) ⟨_, ho, rfl⟩ ⟨_, ho2, rfl⟩ F.slot_list_lt F.entry_list_lt (F.args_list_lt_2 _ _) (list_ltAt l b items items2 n n2 dd dd2 sl sl2 e lt)
    ⟨ho, ho2, he, hlt, ⟨(fun x => nomatch x), h⟩⟩ hu
theorem tuple_ltAt (l b : Addr) (items items2 : Array Value) (n n2 : Nat) (dd dd2 : Option Addr) (sl sl2 : Array (Option Value)) (e lt : Nat → Bool) :
    Meets (Builtin.«tuple.__lt__» ⟨[.ref l, .ref b], []⟩)
      (fun A R s => s.heap.get? l = some { cls := .type "tuple", dict := dd, data := .seq items n, slots := sl } ∧ s.heap.get? b = some { cls := .type "tuple", dict := dd2, data := .seq items2 n2, slots := sl2 } ∧
        (∀ j (h1 : j < items.size) (h2 : j < items2.size), EqAt A.in1 s items[j] items2[j] (e j)) ∧ (∀ j (h1 : j < items.size) (h2 : j < items2.size), LtAt A.in1 s items[j] items2[j] (lt j)) ∧
        R (.ok (.ret (.bool (lexL e lt (decide (items.size < items2.size)) (List.range (min items.size items2.size)))))) s) :=
  .of_wp fun prog w A R s h => by
    obtain ⟨hp, g, d, tk, os⟩ := s; obtain ⟨hl, hb, he, hlt, h⟩ := h
    have f2 := AutoSeq1.sub_tuple_tuple
    have hZ : (items.toList.zip items2.toList).length = min items.size items2.size := by simp
    wp_walk using wpAny_loadPart' hl, wpAny_loadPart' hb, wpAny_forIn_list _ (fun rest b s' => b.1 = none ∧ s' = ⟨hp, g, d, tk, os⟩ ∧ ∃ i, rest = (items.toList.zip items2.toList).drop i ∧
      R (.ok (.ret (.bool (lexL e lt (decide (items.size < items2.size)) ((List.range (min items.size items2.size)).drop i))))) ⟨hp, g, d, tk, os⟩) _
    case turn =>
      rintro ⟨y, x⟩ rest b s' ⟨hb', rfl, i, hz, hR⟩
      have hlt0 : i < (items.toList.zip items2.toList).length := by
        rcases Nat.lt_or_ge i (items.toList.zip items2.toList).length with h' | h'
        · exact h'
        · rw [List.drop_of_length_le h'] at hz; cases hz
      have hm : i < min items.size items2.size := hZ ▸ hlt0
      have h1 : i < items.size := by omega
      have h2 : i < items2.size := by omega
      rw [List.drop_eq_getElem_cons hlt0] at hz
      injection hz with hyx hrest
      obtain rfl : y = items[i] := by have := congrArg Prod.fst hyx; simpa using this
      obtain rfl : x = items2[i] := by have := congrArg Prod.snd hyx; simpa using this
      have hd : (List.range (min items.size items2.size)).drop i = i :: (List.range (min items.size items2.size)).drop (i + 1) := by
        rw [List.drop_eq_getElem_cons (by simp; omega)]; simp
      rw [hd] at hR
      refine wpAny_bind (he i h1 h2 prog w _ _ ?_)
      cases hy : e i with
      | true =>
        have hR : R (.ok (.ret (.bool (lexL e lt (decide (items.size < items2.size)) ((List.range (min items.size items2.size)).drop (i + 1)))))) ⟨hp, g, d, tk, os⟩ := by
          unfold lexL at hR
          rw [hy, if_pos rfl] at hR
          exact hR
        wp_walk
        exact ⟨rfl, rfl, i + 1, hrest, hR⟩
      | false =>
        have hR : R (.ok (.ret (.bool (lt i)))) ⟨hp, g, d, tk, os⟩ := by
          unfold lexL at hR
          rw [hy, if_neg (by simp)] at hR
          exact hR
        simp only [Bool.not_false, if_true]
        refine wpAny_bind (wpAny_rule (wpAny_bind (hlt i h1 h2 prog w _ _ ?_)))
        refine wpAny_bind (m := ret (.bool (lt i))) (wpAny_pure (wpAny_pure ?_))
        exact wpAny_pure ⟨_, rfl, hR⟩
    case fin =>
      rintro ⟨b1, b2⟩ s' ⟨hb', rfl, i, hz, hR⟩
      simp only at hb'
      subst hb'
      have hge : min items.size items2.size ≤ i := by
        rcases Nat.lt_or_ge i (items.toList.zip items2.toList).length with h' | h'
        · rw [List.drop_eq_getElem_cons h'] at hz; cases hz
        · exact hZ ▸ h'
      rw [List.drop_of_length_le (by simpa using hge)] at hR
      wp_walk
      exact ⟨_, rfl, hR⟩
    case h =>
      exact ⟨rfl, rfl, 0, rfl, by simpa using h⟩
theorem LtAt.tuples {A : Around} {s : Shared} {l b : Addr} {items items2 : Array Value} {e lt : Nat → Bool} (hl : s.heap.IsTuple l items) (hb : s.heap.IsTuple b items2) (hu : A.units < cLine)
    (he : ∀ j (h1 : j < items.size) (h2 : j < items2.size), EqAt A.in1 s items[j] items2[j] (e j)) (hlt : ∀ j (h1 : j < items.size) (h2 : j < items2.size), LtAt A.in1 s items[j] items2[j] (lt j)) :
    LtAt A s (.ref l) (.ref b) (lexL e lt (decide (items.size < items2.size)) (List.range (min items.size items2.size))) := fun prog w E Q h => by
  obtain ⟨⟨cls, dd, data, sl⟩, ho, hc, n, hd⟩ := id hl
  obtain ⟨⟨cls2, dd2, data2, sl2⟩, ho2, hc2, n2, hd2⟩ := id hb
  simp only at hc hd hc2 hd2
  subst hc hd hc2 hd2
  exact richCompare_meets_room (op := .Lt) ⟨_, ho, rfl⟩ ⟨_, ho2, rfl⟩ F.slot_tuple_lt F.entry_tuple_lt (F.args_tuple_lt_2 _ _) (tuple_ltAt l b items items2 n n2 dd dd2 sl sl2 e lt)
    ⟨ho, ho2, he, hlt, ⟨(fun x => nomatch x), h⟩⟩ hu
theorem LtAt.ints {A : Around} {s : Shared} (a b : Int) (t u : Tok) : LtAt A s (.int a t) (.int b u) (decide (a < b)) := fun prog w E Q h => lt_int h
/-- pairs in order -/
def pairLt (p q : Int × Int) : Bool := if p.1 == q.1 then (if p.2 == q.2 then false else decide (p.2 < q.2)) else decide (p.1 < q.1)
theorem pair_lt {Γ : Gm} {env : Env} {outer : List Env} {h₀ : Heap} {L : Addr} {h : Heap} {l : Loc} {nw : Led} {t : Nat} {A0 A : Around} (c : Fx Γ A0 env outer h₀ L h l nw) {p p' : Int × Int} {v v' : Value} (hu : A.units ≤ 9800) (m : PairAt nw p v) (m' : PairAt nw p' v') : LtAt A (S Γ h t) v v' (pairLt p p') := by
  obtain ⟨T, t1, t2, rfl, m⟩ := m
  obtain ⟨T', t1', t2', rfl, m'⟩ := m'
  have := LtAt.tuples (A := A) (s := S Γ h t) (e := fun j => if j = 0 then p.1 == p'.1 else p.2 == p'.2) (lt := fun j => if j = 0 then decide (p.1 < p'.1) else decide (p.2 < p'.2)) (m.tup c) (m'.tup c) (show A.units < 9900 by omega) (fun j j1 j2 => ?_) (fun j j1 j2 => ?_)
  · have e : lexL (fun j => if j = 0 then p.1 == p'.1 else p.2 == p'.2) (fun j => if j = 0 then decide (p.1 < p'.1) else decide (p.2 < p'.2)) (decide ([Value.int p.1 t1, .int p.2 t2].toArray.size < [Value.int p'.1 t1', .int p'.2 t2'].toArray.size)) (List.range (min [Value.int p.1 t1, .int p.2 t2].toArray.size [Value.int p'.1 t1', .int p'.2 t2'].toArray.size)) = pairLt p p' := by
      show (if (p.1 == p'.1) = true then (if (p.2 == p'.2) = true then false else decide (p.2 < p'.2)) else decide (p.1 < p'.1)) = pairLt p p'
      rfl
    rw [e] at this
    exact this
  · match j, j1, j2 with
    | 0, _, _ => exact PySem.SeqAt.EqAt.int_int (A := A.in1) (s := S Γ h t) p.1 t1 p'.1 t1'
    | 1, _, _ => exact PySem.SeqAt.EqAt.int_int (A := A.in1) (s := S Γ h t) p.2 t2 p'.2 t2'
  · match j, j1, j2 with
    | 0, _, _ => exact LtAt.ints (A := A.in1) (s := S Γ h t) p.1 p'.1 t1 t1'
    | 1, _, _ => exact LtAt.ints (A := A.in1) (s := S Γ h t) p.2 p'.2 t2 t2'
end


/-! `sorted` -/
section
variable {prog : Program} {w : World} {A : Around} {E : Value → Shared → Prop} {s : Shared} {h₀ : Heap} {L a : Addr} {m : Str → Option Value} {news : List (Addr × Obj)} {vs : List Value}
theorem small_list_sort {n : Nat} {P : PySem.Fin → Shared → Prop} (F : Fr h₀ L s.heap m) (N : News h₀ L s.heap news) (ho : s.heap.get? a = some (seqObj "list" vs.toArray n)) (haL : a ≠ L) (ha0 : h₀.get? a = none) (hna : ∀ p ∈ news, p.1 ≠ a) (h2 : vs.length < 2)
    (h : ∀ h' c, Fr h₀ L h' m → News h₀ L h' ((a, seqObj "list" vs.toArray c) :: news) → P (.done (.ret .none)) { s with heap := h' }) : wpAny (model prog w) A (Builtin.«list.sort» ⟨[.ref a], []⟩) P E s := by
  have s1 := Heap.SameBut.update s.heap a (Obj.mapSeq fun _ => (#[] : Array Value))
  obtain ⟨e1, ho1⟩ : ∃ e1, (s.heap.update a (Obj.mapSeq fun _ => (#[] : Array Value))).get? a = some (seqObj "list" #[] e1) := ⟨_, get?_update_seq ho fun _ => #[]⟩
  have F3 : Fr h₀ L (((s.heap.update a (Obj.mapSeq fun _ => (#[] : Array Value))).push (seqObj "tuple" vs.toArray 0)).push (seqObj "list" #[] 0)) m := ((kas_fr F s1 haL ha0).push _).push _
  have ho3 : (((s.heap.update a (Obj.mapSeq fun _ => (#[] : Array Value))).push (seqObj "tuple" vs.toArray 0)).push (seqObj "list" #[] 0)).get? a = some (seqObj "list" #[] e1) := Heap.get?_push_of_some _ (Heap.get?_push_of_some _ ho1)
  have N3 : News h₀ L (((s.heap.update a (Obj.mapSeq fun _ => (#[] : Array Value))).push (seqObj "tuple" vs.toArray 0)).push (seqObj "list" #[] 0)) news :=
    (kas_news N s1 hna).grown fun b x e => Heap.get?_push_of_some _ (Heap.get?_push_of_some _ e)
  rw [list_sort_plain]
  refine wpAny_bind (listItems_at ho rfl ?_)
  refine wpAny_bind (listUpdate_at ho rfl ?_ (by rw [List.size_toArray, line_is]; omega) (Nat.zero_le _))
  refine wpAny_bind (seqEpoch_at ho1 rfl ?_)
  refine wpAny_bind (wpAny_newTuple ?_ (by show vs.length ≤ _; rw [line_is]; omega))
  refine wpAny_bind (wpAny_newList ?_ (Nat.zero_le _))
  refine wpAny_holding ?_
  show wpAny (model prog w) A _ P E { s with heap := ((s.heap.update a (Obj.mapSeq fun _ => (#[] : Array Value))).push (seqObj "tuple" vs.toArray 0)).push (seqObj "list" #[] 0) }
  dsimp only
  have hn2 : vs.toArray.size < 2 := by rw [List.size_toArray]; omega
  rw [if_pos hn2, if_pos hn2]
  refine wpAny_bind (wpAny_pure ?_)
  rw [StateT.run_pure]
  refine wpAny_bind (wpAny_pure ?_)
  dsimp only
  have hout : (arrOf (SortSt.mk' general' (vs.toArray.zip vs.toArray) #[] 7 none)).map (·.2) = vs.toArray := by
    show (vs.toArray.zip vs.toArray).map (·.2) = _
    apply Array.ext'
    simp [List.map_snd_zip]
  rw [hout]
  have s2 := Heap.SameBut.update (((s.heap.update a (Obj.mapSeq fun _ => (#[] : Array Value))).push (seqObj "tuple" vs.toArray 0)).push (seqObj "list" #[] 0)) a (Obj.mapSeq fun _ => vs.toArray)
  obtain ⟨c2, hc2⟩ : ∃ c2, ((((s.heap.update a (Obj.mapSeq fun _ => (#[] : Array Value))).push (seqObj "tuple" vs.toArray 0)).push (seqObj "list" #[] 0)).update a (Obj.mapSeq fun _ => vs.toArray)).get? a = some (seqObj "list" vs.toArray c2) := ⟨_, get?_update_seq ho3 fun _ => vs.toArray⟩
  refine wpAny_bind (seqEpoch_at ho3 rfl ?_)
  refine wpAny_bind (listUpdate_at ho3 rfl ?_ (Nat.zero_le _) (by rw [List.size_toArray, line_is]; omega))
  simp only [bne_self_eq_false, Bool.false_eq_true, if_false]
  refine wpAny_pure (h _ c2 (kas_fr F3 s2 haL ha0) fun p hp => ?_)
  rcases List.mem_cons.mp hp with rfl | hp
  · exact ⟨hc2, haL, ha0⟩
  · exact kas_news N3 s2 hna p hp
theorem small_sorted {l : Addr} {Q : Value → Shared → Prop} (F : Fr h₀ L s.heap m) (N : News h₀ L s.heap news) (hl : s.heap.IsList l vs.toArray) (h2 : vs.length < 2)
    (h : ∀ D h' c, s.heap.objs.size ≤ D → Fr h₀ L h' m → News h₀ L h' ((D, seqObj "list" vs.toArray c) :: news) → Q (.ref D) { s with heap := h' }) :
    wpAny (model prog w) A (call (.builtin "sorted") [.ref l]) Q E s := by
  refine Calls.call_function_entry kind_sorted plain_sorted entry_sorted (args_sorted1 _) ?_
  unfold Builtin.«sorted»
  refine wpAny_bind (m := checkCount "sorted" 1 1 _) (wpAny_pure ?_)
  refine wpAny_bind (collect_list hl ?_ (by rw [line_is]; omega))
  refine wpAny_bind (wpAny_newList ?_ (by rw [line_is]; omega))
  have hsz : ((s.heap.push (seqObj "list" #[] 0)).update s.heap.objs.size (Obj.mapSeq (· ++ vs.toArray))).objs.size = s.heap.objs.size + 1 := by
    rw [Heap.size_update, size_push']
  have hoL : (((s.heap.push (seqObj "list" #[] 0)).update s.heap.objs.size (Obj.mapSeq (· ++ vs.toArray))).push (seqObj "list" vs.toArray 0)).get? (s.heap.objs.size + 1) = some (seqObj "list" vs.toArray 0) := by
    rw [← hsz]; exact Heap.get?_push_size _ rfl
  have keep : ∀ b o, s.heap.get? b = some o → (((s.heap.push (seqObj "list" #[] 0)).update s.heap.objs.size (Obj.mapSeq (· ++ vs.toArray))).push (seqObj "list" vs.toArray 0)).get? b = some o := fun b o q => by
    have hlt : b < s.heap.objs.size := Heap.lt_size q
    rw [Heap.get?_push_ne _ _ _ (by rw [hsz]; exact Nat.ne_of_lt (Nat.lt_succ_of_lt hlt)), Heap.get?_update_ne _ _ _ _ (Nat.ne_of_lt hlt), Heap.get?_push_ne _ _ _ (Nat.ne_of_lt hlt)]
    exact q
  have hL : L < s.heap.objs.size := F.ns.lt
  show wpAny _ _ _ _ _ { s with heap := ((s.heap.push (seqObj "list" #[] 0)).update s.heap.objs.size (Obj.mapSeq (· ++ vs.toArray))).push (seqObj "list" vs.toArray 0) }
  rw [hsz]
  refine wpAny_bind (wpAny_holding (wpAny_call_entry slot_list_sort ⟨_, hoL, rfl⟩ entry_list_sort ?body (args_list_sort _)))
  case body =>
    refine small_list_sort (s := { s with heap := ((s.heap.push (seqObj "list" #[] 0)).update s.heap.objs.size (Obj.mapSeq (· ++ vs.toArray))).push (seqObj "list" vs.toArray 0) })
      (F.kept keep) (N.grown keep) hoL (Nat.ne_of_gt (Nat.lt_succ_of_lt hL)) (Heap.get?_none_of_le (Nat.le_trans F.above (Nat.le_succ_of_le (Nat.le_of_lt hL))))
      (fun p hp => Nat.ne_of_lt (Nat.lt_succ_of_lt (Heap.lt_size (N p hp).1))) h2 fun h' c' F' N' => ?_
    exact ⟨_, rfl, wpAny_pure ⟨_, rfl, h _ _ c' (Nat.le_succ _) F' N'⟩⟩
end
section
variable {Γ : Gm} {A : Around} {env : Env} {outer : List Env} {h₀ : Heap} {L : Addr} {h h' : Heap} {l l' : Loc} {nw : Led} {t : Nat} {E : Value → Shared → Prop} {pos : Pos}
/-- `sorted` of a list whose items are told apart by a weak order -/
theorem xsorted (c : Fx Γ A env outer h₀ L h l nw) {a : Addr} {vs : List Value} {Q : Value → Shared → Prop} {lt : Nat → Nat → Bool} (w : Weak lt) (κ : SortKind) (m : IsW "list" nw a vs) (h1 : 1 ≤ vs.length) (h64 : vs.length < 64) {p0 : Addr × Obj} (m0 : p0 ∈ nw)
    (hK : ∀ h' nw', Fx Γ A env outer h₀ L h' l nw' → Keep (fun _ => False) nw nw' → 2 ≤ vs.length → ∀ (R : SortKind → Shared → Prop), R κ (S Γ h' t) → wpAny (model PG Γ.w) A.in1.in1 (keyKind' vs.toArray) R (fun _ _ => False) (S Γ h' t))
    (hC : ∀ h' nw' t', Fx Γ A env outer h₀ L h' l nw' → Keep (fun _ => False) nw nw' → ∀ i j, i < vs.length → j < vs.length → ∀ (R : Bool → Shared → Prop), R (lt i j) (S Γ h' t') → wpAny (model PG Γ.w) A.in1.in1 (keyLt' κ (vs.getD i .none) (vs.getD j .none)) R (fun _ _ => False) (S Γ h' t'))
    (q : ∀ h' t' D p vs' nw', Good vs.length p → Sd lt p vs.length → vs' = (p.toList.map fun i => vs.getD i Value.none) → (∀ q ∈ nw, q.1 < D) → Fx Γ A env outer h₀ L h' l nw' → Keep (fun _ => False) nw nw' → IsQ "list" nw' D vs' → Q (.ref D) (S Γ h' t')) :
    wpAny (model PG Γ.w) A (call (.builtin "sorted") [.ref a]) Q E (S Γ h t) := by
  by_cases hs : vs.length < 2
  · have : vs.length = 1 := by omega
    refine small_sorted (s := S Γ h t) c.F c.N (m.isList c) hs fun D h' c' hD F' N' => ?_
    have ev : vs = ((#[0] : Array Nat).toList.map fun i => vs.getD i Value.none) := by
      match vs, this with
      | [x], _ => rfl
    refine q h' _ D #[0] vs ((D, seqO "list" vs c') :: nw) (by rw [this]; exact List.Perm.refl _) (fun i j h1 h2 => by omega) ev (fun p hp => Nat.lt_of_lt_of_le (c.lt hp) hD) (c.ofNew F' N' hD) Keep.cons ⟨by omega, c', .head _⟩
  · refine kat_sorted (s := S Γ h t) c.F c.N (m.isList c) (by omega) h64 fun D e1 h' F' N' hD => ?_
    have c1 : Fx Γ A env outer h₀ L h' l ((D, seqObj "list" #[] e1) :: nw) := c.ofCons m0 F' N' hD
    refine hK h' _ c1 Keep.cons (by omega) _ ?_
    have hcmp : ∀ (i j : Nat) (C : Bool → Shared → Prop) (s : Shared), i < vs.length → j < vs.length → (∃ t', s = S Γ h' t') → (∀ s', (∃ t', s' = S Γ h' t') → C (lt i j) s') → kas_ask PG Γ.w A.in1.in1 κ vs i j C s := by
      rintro i j C s hi hj ⟨t', rfl⟩ hR
      exact hC h' _ t' c1 Keep.cons i j hi hj _ (hR _ ⟨t', rfl⟩)
    refine sort_tree (J := fun s => ∃ t', s = S Γ h' t') w hcmp h1 ⟨t, rfl⟩ ?_
    rintro p s' ⟨t', rfl⟩ g sd
    refine ⟨_, _, c1.F, c1.N, updF_of c1.nd (.head _), fun h2 c2 F2 N2 => ?_⟩
    have c3 : Fx Γ A env outer h₀ L h2 l (put ((D, seqObj "list" #[] e1) :: nw) D (seqO "list" (p.toList.map fun i => vs.getD i Value.none) c2)) := c1.ofPut (.head _) F2 N2
    have k3 : Keep (fun _ => False) nw (put ((D, seqObj "list" #[] e1) :: nw) D (seqO "list" (p.toList.map fun i => vs.getD i Value.none) c2)) := fun q hq _ => by
      obtain ⟨b, o⟩ := q
      exact mem_put_ne (.tail _ hq) fun e => absurd (hD _ hq) (by show ¬ b < D; rw [e]; exact Nat.lt_irrefl _)
    refine q h2 t' D p _ _ g sd rfl hD c3 k3 ⟨?_, c2, mem_put_self (.head _)⟩
    rw [List.length_map, Array.length_toList, g.size]
    exact m.1
end


/-! orders, without a program -/
theorem pairLt_asymm (a b : Int × Int) (h : pairLt a b = true) : pairLt b a = false := by
  unfold pairLt at *
  obtain ⟨a1, a2⟩ := a
  obtain ⟨b1, b2⟩ := b
  simp only [beq_iff_eq] at *
  repeat' split at h
  all_goals repeat' split
  all_goals simp only [decide_eq_true_eq, decide_eq_false_iff_not, Bool.false_eq_true, reduceCtorEq] at *
  all_goals first | rfl | omega
theorem pairLt_trans (a b c : Int × Int) (h1 : pairLt b a = false) (h2 : pairLt c b = false) : pairLt c a = false := by
  unfold pairLt at *
  obtain ⟨a1, a2⟩ := a
  obtain ⟨b1, b2⟩ := b
  obtain ⟨c1, c2⟩ := c
  simp only [beq_iff_eq] at *
  repeat' split at h1
  all_goals repeat' split at h2
  all_goals repeat' split
  all_goals simp only [decide_eq_true_eq, decide_eq_false_iff_not, Bool.false_eq_true, reduceCtorEq] at *
  all_goals first | rfl | omega
theorem pairLt_anti (a b : Int × Int) (h1 : pairLt a b = false) (h2 : pairLt b a = false) : a = b := by
  unfold pairLt at *
  obtain ⟨a1, a2⟩ := a
  obtain ⟨b1, b2⟩ := b
  simp only [beq_iff_eq] at *
  repeat' split at h1
  all_goals repeat' split at h2
  all_goals simp only [decide_eq_true_eq, decide_eq_false_iff_not, Bool.false_eq_true, reduceCtorEq] at *
  all_goals first | rfl | (exfalso; omega) | (rw [Prod.mk.injEq]; omega)
theorem pairLt_irr (a : Int × Int) : pairLt a a = false := by unfold pairLt; simp
/-- rows in order -/
def rowLt : List (Int × Int) → List (Int × Int) → Bool
  | [], [] => false
  | [], _ :: _ => true
  | _ :: _, [] => false
  | a :: r, b :: q => if a = b then rowLt r q else pairLt a b
theorem rowLt_asymm : ∀ (a b : List (Int × Int)), rowLt a b = true → rowLt b a = false
  | [], [], h => by cases h
  | [], _ :: _, _ => rfl
  | _ :: _, [], h => by cases h
  | a :: r, b :: q, h => by
    unfold rowLt at h ⊢
    by_cases e : a = b
    · rw [if_pos e] at h; rw [if_pos e.symm]; exact rowLt_asymm r q h
    · rw [if_neg e] at h; rw [if_neg (Ne.symm e)]; exact pairLt_asymm a b h
theorem rowLt_anti : ∀ (a b : List (Int × Int)), rowLt a b = false → rowLt b a = false → a = b
  | [], [], _, _ => rfl
  | [], _ :: _, h, _ => by cases h
  | _ :: _, [], _, h => by cases h
  | a :: r, b :: q, h1, h2 => by
    unfold rowLt at h1 h2
    by_cases e : a = b
    · rw [if_pos e] at h1; rw [if_pos e.symm] at h2
      rw [e, rowLt_anti r q h1 h2]
    · rw [if_neg e] at h1; rw [if_neg (Ne.symm e)] at h2
      exact absurd (pairLt_anti a b h1 h2) e
theorem rowLt_trans : ∀ (a b c : List (Int × Int)), rowLt b a = false → rowLt c b = false → rowLt c a = false
  | [], [], c, _, h2 => h2
  | [], _ :: _, [], _, _ => rfl
  | [], _ :: _, _ :: _, _, _ => rfl
  | _ :: _, [], _, h, _ => by cases h
  | _ :: _, _ :: _, [], _, h => by cases h
  | a :: r, b :: q, c :: p, h1, h2 => by
    unfold rowLt at h1 h2 ⊢
    by_cases e1 : b = a
    · by_cases e2 : c = b
      · rw [if_pos e1] at h1; rw [if_pos e2] at h2; rw [if_pos (e2.trans e1)]
        exact rowLt_trans r q p h1 h2
      · rw [if_neg e2] at h2; rw [if_neg (fun z => e2 (z.trans e1.symm))]
        rw [← e1]; exact h2
    · rw [if_neg e1] at h1
      by_cases e2 : c = b
      · rw [if_neg (fun z => e1 (e2.symm.trans z)), e2]; exact h1
      · rw [if_neg e2] at h2
        have := pairLt_trans a b c h1 h2
        by_cases e3 : c = a
        · subst e3
          exact absurd (pairLt_anti _ _ h2 h1) e2
        · rw [if_neg e3]; exact this
theorem lexL_map (e lt : Nat → Bool) (fin : Bool) (f : Nat → Nat) : ∀ l : List Nat, lexL e lt fin (l.map f) = lexL (fun j => e (f j)) (fun j => lt (f j)) fin l
  | [] => rfl
  | j :: r => by
    rw [List.map_cons]
    unfold lexL
    rw [lexL_map e lt fin f r]
theorem lexL_row (d : Int × Int) : ∀ (a b : List (Int × Int)), lexL (fun j => a.getD j d == b.getD j d) (fun j => pairLt (a.getD j d) (b.getD j d)) (decide (a.length < b.length)) (List.range (min a.length b.length)) = rowLt a b
  | [], [] => rfl
  | [], _ :: _ => by simp [lexL, rowLt]
  | _ :: _, [] => by simp [lexL, rowLt]
  | x :: r, y :: q => by
    have e : min (x :: r).length (y :: q).length = min r.length q.length + 1 := by simp only [List.length_cons]; omega
    rw [e, List.range_succ_eq_map]
    unfold lexL rowLt
    show (if (x == y) = true then _ else pairLt x y) = _
    by_cases h : x = y
    · rw [if_pos (beq_iff_eq.mpr h), if_pos h, lexL_map]
      have e2 : decide ((x :: r).length < (y :: q).length) = decide (r.length < q.length) := by simp
      rw [e2]
      exact lexL_row d r q
    · rw [if_neg (by simpa using h), if_neg h]
/-- the sort's list -/
theorem good_perm {α : Type} (xs : List α) (d : α) {p : Array Nat} (g : Good xs.length p) : (p.toList.map fun i => xs.getD i d).Perm xs := by
  have h : (p.toList.map fun i => xs.getD i d).Perm ((List.range xs.length).map fun i => xs.getD i d) := List.Perm.map _ g
  refine h.trans (List.Perm.of_eq ?_)
  refine List.ext_getElem (by simp) fun i h1 h2 => ?_
  simp [h2]
theorem good_pair {α : Type} (xs : List α) (d : α) (lt : α → α → Bool) {p : Array Nat} (g : Good xs.length p) (s : Sd (fun i j => lt (xs.getD i d) (xs.getD j d)) p xs.length) : (p.toList.map fun i => xs.getD i d).Pairwise fun a b => lt b a = false := by
  rw [List.pairwise_iff_getElem]
  intro i j hi hj hij
  have hs := g.size
  have hi' : i < p.size := by simpa using hi
  have hj' : j < p.size := by simpa using hj
  have := s i j hij (by omega)
  simp only [List.getElem_map, Array.getElem_toList]
  have e1 : at' p i = p[i] := by simp [at', Array.getD, hi']
  have e2 : at' p j = p[j] := by simp [at', Array.getD, hj']
  rw [← e1, ← e2]
  exact this
theorem sorted_uniq {α : Type} {lt : α → α → Bool} (anti : ∀ a b, lt a b = false → lt b a = false → a = b) {a b : List α} (h : a.Perm b) (ha : a.Pairwise fun x y => lt y x = false) (hb : b.Pairwise fun x y => lt y x = false) : a = b :=
  h.eq_of_pairwise (fun x y _ _ h1 h2 => anti x y h2 h1) ha hb
theorem weak_of {α : Type} (lt : α → α → Bool) (f : Nat → α) (h1 : ∀ a b, lt a b = true → lt b a = false) (h2 : ∀ a b c, lt b a = false → lt c b = false → lt c a = false) : Weak fun i j => lt (f i) (f j) :=
  ⟨fun a b h => h1 _ _ h, fun a b c x y => h2 _ _ _ x y⟩
/-- what the own reading tells is in order -/
theorem dueRow_sorted (g : Gr) (M : Memo) (k : Nat) : (dueRow g M k).Pairwise fun x y => pairLt y x = false := by
  unfold dueRow
  rw [List.pairwise_map]
  refine List.Pairwise.imp (fun {a b} h => ?_) ((List.pairwise_lt_range).filter _)
  unfold pairLt
  rw [if_neg (by rw [beq_iff_eq]; show ¬ ((b : Int) = (a : Int)); omega)]
  exact decide_eq_false (by show ¬ ((b : Int) < (a : Int)); omega)


section
variable {Γ : Gm} {A : Around} {env : Env} {outer : List Env} {h₀ : Heap} {L : Addr} {h h' : Heap} {l l' : Loc} {nw : Led} {t : Nat} {E : Value → Shared → Prop} {pos : Pos}
theorem PrsAt.tups (c : Fx Γ A env outer h₀ L h l nw) {Y : List Addr} : ∀ {ps : List (Int × Int)} {vs : List Value}, PrsAt Y nw ps vs → ∃ fs, KatTups h vs fs ∧ fs.length = ps.length ∧ ∀ v ∈ fs, ∃ i t, v = Value.int i t
  | [], vs, q => by obtain rfl : vs = [] := q; exact ⟨[], KatTups.nil, rfl, fun _ h => nomatch h⟩
  | p :: ps, vs, ⟨T, r, t1, t2, e, m, _, q⟩ => by
    subst e
    obtain ⟨fs, k, e, hf⟩ := PrsAt.tups c q
    obtain ⟨_, n, m⟩ := m
    refine ⟨.int p.1 t1 :: fs, KatTups.cons (c.get m) rfl rfl rfl k, by simp [e], fun v hv => ?_⟩
    rcases List.mem_cons.mp hv with rfl | hv
    · exact ⟨_, _, rfl⟩
    · exact hf v hv
theorem pair_key (c : Fx Γ A env outer h₀ L h l nw) {A' : Around} {p q : Int × Int} {v u : Value} {R : Bool → Shared → Prop} (mv : PairAt nw p v) (mu : PairAt nw q u) (hR : R (pairLt p q) (S Γ h t)) :
    wpAny (model PG Γ.w) A' (keyLt' (tuples' true) v u) R E (S Γ h t) := by
  obtain ⟨T, t1, t2, rfl, _, n, m⟩ := mv
  obtain ⟨T', t1', t2', rfl, _, n', m'⟩ := mu
  refine kat_lt (c.get m) rfl (c.get m') rfl ?_
  show KatLex _ _ _ _ _ _ [(Value.int p.1 t1, Value.int q.1 t1'), (Value.int p.2 t2, Value.int q.2 t2')] 0 _
  refine kat_cons (PySem.SeqAt.EqAt.int_int p.1 t1 q.1 t1' PG Γ.w _ _ ?_)
  unfold pairLt at hR
  cases e : p.1 == q.1 with
  | false =>
    rw [e, if_neg (by simp)] at hR
    exact kat_no (oneLt_int hR)
  | true =>
    rw [e, if_pos rfl] at hR
    refine kat_yes (kat_cons (PySem.SeqAt.EqAt.int_int p.2 t2 q.2 t2' PG Γ.w _ _ ?_))
    cases e2 : p.2 == q.2 with
    | false =>
      rw [e2, if_neg (by simp)] at hR
      exact kat_no (kat_one _ _ (lt_int hR))
    | true =>
      rw [e2, if_pos rfl] at hR
      exact kat_yes (kat_nil hR)
theorem PrsAt.get {Y : List Addr} {nw : Led} {ps : List (Int × Int)} {vs : List Value} (q : PrsAt Y nw ps vs) {i : Nat} (hi : i < vs.length) (d : Int × Int) : PairAt nw (ps.getD i d) (vs.getD i .none) := by
  obtain ⟨p, e, m⟩ := PrsAt.at q (List.getElem?_eq_getElem hi)
  rw [List.getD_eq_getElem?_getD, e, List.getD_eq_getElem?_getD, List.getElem?_eq_getElem hi]
  exact m
theorem xsortP (c : Fx Γ A env outer h₀ L h l nw) {a : Addr} {vs : List Value} {ps : List (Int × Int)} {Q : Value → Shared → Prop} (m : IsW "list" nw a vs) (pr : PrsAt [] nw ps vs) (h1 : 1 ≤ vs.length) (h64 : vs.length < 64) {p0 : Addr × Obj} (m0 : p0 ∈ nw)
    (q : ∀ h' t' D vs' qs nw', qs.Perm ps → (qs.Pairwise fun x y => pairLt y x = false) → (∀ q ∈ nw, q.1 < D) → Fx Γ A env outer h₀ L h' l nw' → Keep (fun _ => False) nw nw' → IsQ "list" nw' D vs' → PrsAt [] nw' qs vs' → Q (.ref D) (S Γ h' t')) :
    wpAny (model PG Γ.w) A (call (.builtin "sorted") [.ref a]) Q E (S Γ h t) := by
  have hl := pr.len
  refine xsorted c (weak_of pairLt (fun i => ps.getD i (0, 0)) pairLt_asymm pairLt_trans) (tuples' true) m h1 h64 m0 (fun h' nw' c' k' h2 R hR => ?_) (fun h' nw' t' c' k' i j hi hj R hR => ?_) fun h' t' D p vs' nw' g sd ev hD c' k' m' => ?_
  · have pr' := pr.keep k' fun _ z => z.elim
    obtain ⟨fs, kt, e, hf⟩ := pr'.tups c'
    refine kat_kind (T := .type "int") kt (by omega) (fun v hv => ?_) (by rfl) hR
    obtain ⟨i, u, rfl⟩ := hf v hv
    exact Looks.of_pure rfl
  · have pr' := pr.keep k' fun _ z => z.elim
    exact pair_key c' (pr'.get hi (0, 0)) (pr'.get hj (0, 0)) hR
  · have pr' := pr.keep k' fun _ z => z.elim
    rw [← hl] at g sd
    refine q h' t' D vs' (p.toList.map fun i => ps.getD i (0, 0)) nw' (good_perm ps (0, 0) g) (good_pair ps (0, 0) pairLt g sd) hD c' k' m' (PrsAt.of (by rw [ev]; simp) fun i r v h1 h2 => ?_)
    rw [ev] at h2
    rw [List.getElem?_map] at h1 h2
    obtain ⟨x, hx, e1⟩ := Option.map_eq_some_iff.mp h1
    rw [hx] at h2
    have e2 := Option.some.inj h2
    rw [← e1, ← e2]
    have hxl : x < ps.length := List.mem_range.mp (g.mem_iff.mp (List.mem_of_getElem? hx))
    exact pr'.get (by omega) (0, 0)
/-- rows -/
theorem row_eq {A0 A' : Around} (c : Fx Γ A0 env outer h₀ L h l nw) {X Y : List Addr} {r r' : List (Int × Int)} {v v' : Value} (hu : A'.units ≤ 9790) (m : RowAt X nw r v) (m' : RowAt Y nw r' v') : PySem.SeqAt.EqAt A' (S Γ h t) v v' (decide (r = r')) := by
  obtain ⟨D, vs, rfl, mD, _, q⟩ := m
  obtain ⟨D', vs', rfl, mD', _, q'⟩ := m'
  have l1 := q.len
  have l2 := q'.len
  by_cases hD : D = D'
  · subst hD
    have e : r = r' := by
      obtain ⟨_, n, x⟩ := mD
      obtain ⟨_, n', x'⟩ := mD'
      have e := congrArg Obj.data (c.uniq x x')
      injection e with e _
      have e := congrArg Array.toList e
      have e : vs = vs' := e
      subst e
      refine List.ext_getElem? fun i => ?_
      by_cases hi : i < vs.length
      · obtain ⟨p, e1, p1⟩ := PrsAt.at q (List.getElem?_eq_getElem hi)
        obtain ⟨p', e2, p2⟩ := PrsAt.at q' (List.getElem?_eq_getElem hi)
        rw [e1, e2]
        obtain ⟨T, a1, a2, e3, _, k1, m1⟩ := p1
        obtain ⟨T', b1, b2, e4, _, k2, m2⟩ := p2
        rw [e3] at e4
        injection e4 with e4
        subst e4
        have e := congrArg Obj.data (c.uniq m1 m2)
        injection e with e _
        have e := congrArg Array.toList e
        simp only [List.cons.injEq, Value.int.injEq, and_true] at e
        rw [show p = p' from Prod.ext e.1.1 e.2.1]
      · rw [List.getElem?_eq_none (by omega), List.getElem?_eq_none (by omega)]
    rw [decide_eq_true e]
    exact PySem.SeqAt.EqAt.same _
  · refine PySem.SeqAt.EqAt.of_refs hD ?_
    by_cases hs : vs.length = vs'.length
    · have := PySem.SeqAt.RcAt.lists (A := A') (s := S Γ h t) (e := fun j => r.getD j (0, 0) == r'.getD j (0, 0)) (mD.w.isList c) (mD'.w.isList c) (by simpa using hs) (show A'.units < 9900 by omega) fun j j1 j2 => by
        have := pair_eq (A := A'.in1) (t := t) c (show A'.units + 1 ≤ 9800 by omega) (q.get (i := j) (by simpa using j1) (0, 0)) (q'.get (i := j) (by simpa using j2) (0, 0))
        simp only [List.size_toArray] at j1 j2
        rw [List.getD_eq_getElem?_getD (l := vs), List.getElem?_eq_getElem j1, List.getD_eq_getElem?_getD (l := vs'), List.getElem?_eq_getElem j2] at this
        exact this
      have e : ((List.range vs.toArray.size).all fun j => r.getD j (0, 0) == r'.getD j (0, 0)) = decide (r = r') := by
        rw [Bool.eq_iff_iff, List.all_eq_true, decide_eq_true_iff]
        constructor
        · intro z
          refine List.ext_getElem (by omega) fun i h1 h2 => ?_
          have := z i (by simp; omega)
          rw [beq_iff_eq] at this
          rw [List.getD_eq_getElem?_getD, List.getElem?_eq_getElem h1, List.getD_eq_getElem?_getD, List.getElem?_eq_getElem h2] at this
          exact this
        · rintro rfl i _
          exact beq_self_eq_true _
      rw [e] at this
      exact this
    · rw [decide_eq_false (fun z => hs (by rw [← l1, ← l2, z]))]
      exact PySem.SeqAt.RcAt.lists_lengths (mD.w.isList c) (mD'.w.isList c) (by simpa using hs) (show A'.units < 9900 by omega)
theorem row_lt {A0 A' : Around} (c : Fx Γ A0 env outer h₀ L h l nw) {X Y : List Addr} {r r' : List (Int × Int)} {v v' : Value} (hu : A'.units ≤ 9790) (m : RowAt X nw r v) (m' : RowAt Y nw r' v') : LtAt A' (S Γ h t) v v' (rowLt r r') := by
  obtain ⟨D, vs, rfl, mD, _, q⟩ := m
  obtain ⟨D', vs', rfl, mD', _, q'⟩ := m'
  have l1 := q.len
  have l2 := q'.len
  have := LtAt.lists (A := A') (s := S Γ h t) (e := fun j => r.getD j (0, 0) == r'.getD j (0, 0)) (lt := fun j => pairLt (r.getD j (0, 0)) (r'.getD j (0, 0))) (mD.w.isList c) (mD'.w.isList c) (show A'.units < 9900 by omega)
    (fun j j1 j2 => by
      have := pair_eq (A := A'.in1) (t := t) c (show A'.units + 1 ≤ 9800 by omega) (q.get (i := j) (by simpa using j1) (0, 0)) (q'.get (i := j) (by simpa using j2) (0, 0))
      simp only [List.size_toArray] at j1 j2
      rw [List.getD_eq_getElem?_getD (l := vs), List.getElem?_eq_getElem j1, List.getD_eq_getElem?_getD (l := vs'), List.getElem?_eq_getElem j2] at this
      exact this)
    (fun j j1 j2 => by
      have := pair_lt (A := A'.in1) (t := t) c (show A'.units + 1 ≤ 9800 by omega) (q.get (i := j) (by simpa using j1) (0, 0)) (q'.get (i := j) (by simpa using j2) (0, 0))
      simp only [List.size_toArray] at j1 j2
      rw [List.getD_eq_getElem?_getD (l := vs), List.getElem?_eq_getElem j1, List.getD_eq_getElem?_getD (l := vs'), List.getElem?_eq_getElem j2] at this
      exact this)
  simp only [List.size_toArray] at this
  rw [← l1, ← l2, lexL_row] at this
  exact this
theorem row_key {A0 A' : Around} (c : Fx Γ A0 env outer h₀ L h l nw) {X Y : List Addr} {r r' : List (Int × Int)} {v v' : Value} {R : Bool → Shared → Prop} (hu : A'.units ≤ 9790) (m : RowAt X nw r v) (m' : RowAt Y nw r' v') (hR : R (rowLt r r') (S Γ h t)) :
    wpAny (model PG Γ.w) A' (keyLt' oneType' v v') R E (S Γ h t) := by
  obtain ⟨D, vs, rfl, mD, _, q⟩ := m
  obtain ⟨D', vs', rfl, mD', _, q'⟩ := m'
  have l1 := q.len
  have l2 := q'.len
  obtain ⟨_, n, x⟩ := id mD
  obtain ⟨_, n', x'⟩ := id mD'
  rw [keyLt'_oneType, oneLt'_eq]
  simp only [if_true]
  refine wpAny_bind (wpAny_cRoomFor (show A'.units < 9900 by omega) ?_)
  refine wpAny_bind (wpAny_callSpecialIfBound?_slot (s := S Γ h t) (T := "list") ⟨_, c.get x, rfl⟩ F.slot_list_lt ?_)
  refine call_meets F.slot_list_lt ⟨_, c.get x, rfl⟩ F.entry_list_lt (F.args_list_lt_2 _ _) (list_ltAt D D' vs.toArray vs'.toArray n n' none none #[] #[] (fun j => r.getD j (0, 0) == r'.getD j (0, 0)) (fun j => pairLt (r.getD j (0, 0)) (r'.getD j (0, 0)))) ⟨c.get x, c.get x', fun j j1 j2 => ?_, fun j j1 j2 => ?_, ?_⟩
  · have := pair_eq (A := A'.in1) (t := t) c (show A'.units + 1 ≤ 9800 by omega) (q.get (i := j) (by simpa using j1) (0, 0)) (q'.get (i := j) (by simpa using j2) (0, 0))
    simp only [List.size_toArray] at j1 j2
    rw [List.getD_eq_getElem?_getD (l := vs), List.getElem?_eq_getElem j1, List.getD_eq_getElem?_getD (l := vs'), List.getElem?_eq_getElem j2] at this
    exact this
  · have := pair_lt (A := A'.in1) (t := t) c (show A'.units + 1 ≤ 9800 by omega) (q.get (i := j) (by simpa using j1) (0, 0)) (q'.get (i := j) (by simpa using j2) (0, 0))
    simp only [List.size_toArray] at j1 j2
    rw [List.getD_eq_getElem?_getD (l := vs), List.getElem?_eq_getElem j1, List.getD_eq_getElem?_getD (l := vs'), List.getElem?_eq_getElem j2] at this
    exact this
  · simp only [List.size_toArray]
    rw [← l1, ← l2, lexL_row]
    exact wpAny_truthy_bool hR
/-- `sorted` of a list of rows -/
theorem xsortR (c : Fx Γ A env outer h₀ L h l nw) (r : Room A 10) {X : List Addr} {a : Addr} {rs : List (List (Int × Int))} {Q : Value → Shared → Prop} (m : RowsAt X nw rs a) (h1 : 1 ≤ rs.length) (h64 : rs.length < 64) {p0 : Addr × Obj} (m0 : p0 ∈ nw)
    (q : ∀ h' t' D qs nw', qs.Perm rs → (qs.Pairwise fun x y => rowLt y x = false) → (∀ q ∈ nw, q.1 < D) → Fx Γ A env outer h₀ L h' l nw' → Keep (fun _ => False) nw nw' → RowsAt X nw' qs D → Q (.ref D) (S Γ h' t')) :
    wpAny (model PG Γ.w) A (call (.builtin "sorted") [.ref a]) Q E (S Γ h t) := by
  obtain ⟨vs, mv, hl, hr⟩ := m
  have get : ∀ {h' nw'}, Fx Γ A env outer h₀ L h' l nw' → Keep (fun _ => False) nw nw' → ∀ i, i < vs.length → RowAt X nw' (rs.getD i []) (vs.getD i .none) := fun {h' nw'} c' k' i hi => by
    have := (hr i _ _ (List.getElem?_eq_getElem (by omega)) (List.getElem?_eq_getElem hi)).kept k'
    rw [List.getD_eq_getElem?_getD, List.getElem?_eq_getElem (by omega), List.getD_eq_getElem?_getD, List.getElem?_eq_getElem hi]
    exact this
  refine xsorted c (weak_of rowLt (fun i => rs.getD i []) rowLt_asymm rowLt_trans) oneType' mv.w (by omega) (by omega) m0 (fun h' nw' c' k' h2 R hR => ?_) (fun h' nw' t' c' k' i j hi hj R hR => ?_) fun h' t' D p vs' nw' g sd ev hD c' k' m' => ?_
  · refine kas_kind (T := .type "list") (by omega) (fun v hv => ?_) (by rfl) (by rfl) hR
    obtain ⟨i, hi, e⟩ := List.getElem_of_mem hv
    obtain ⟨D, ws, e2, mD, _⟩ := get c' k' i hi
    rw [List.getD_eq_getElem?_getD, List.getElem?_eq_getElem hi] at e2
    have e2 : v = .ref D := by rw [← e]; exact e2
    subst e2
    obtain ⟨_, n, x⟩ := mD
    exact (Looks.ld (c'.get x)).andThen .now
  · exact row_key c' (show A.units + 1 + 1 ≤ 9790 by have := r.2; omega) (get c' k' i hi) (get c' k' j hj) hR
  · rw [hl] at g sd
    refine q h' t' D (p.toList.map fun i => rs.getD i []) nw' (good_perm rs [] g) (good_pair rs [] rowLt g sd) hD c' k' ⟨vs', m', by rw [ev]; simp, fun i r v h1 h2 => ?_⟩
    rw [ev] at h2
    rw [List.getElem?_map] at h1 h2
    obtain ⟨x, hx, e1⟩ := Option.map_eq_some_iff.mp h1
    rw [hx] at h2
    have e2 := Option.some.inj h2
    rw [← e1, ← e2]
    have hxl : x < rs.length := List.mem_range.mp (g.mem_iff.mp (List.mem_of_getElem? hx))
    exact get c' k' x (by omega)
end


/-! walks over a dict of ints -/
def DictAtE (Γ : Gm) (nw : Led) (a : Addr) (kvs : List (Int × Value)) (ep : Nat) : Prop :=
  ∃ o es, (a, o) ∈ nw ∧ o.ExactDict ∧ o.data = .dict es ep ∧ KeysOf (intKind PG Γ.w) es ∧ Pairs (intKind PG Γ.w) es.toList kvs ∧ (kvs.map (·.1)).Nodup
theorem IsD.ep {Γ : Gm} {nw : Led} {a : Addr} {kvs : List (Int × Value)} (m : IsD Γ nw a kvs) : ∃ ep, DictAtE Γ nw a kvs ep := let ⟨o, m, es, ep, r⟩ := m; ⟨ep, o, es, m, r⟩
theorem DictAtE.keep {Γ : Gm} {nw nw' : Led} {a : Addr} {kvs : List (Int × Value)} {ep : Nat} {W : Addr → Prop} (m : DictAtE Γ nw a kvs ep) (k : Keep W nw nw') (h : ¬ W a) : DictAtE Γ nw' a kvs ep := let ⟨o, es, m, r⟩ := m; ⟨o, es, k _ m h, r⟩
def KeyIt (Γ : Gm) (I a : Addr) (kvs : List (Int × Value)) (ep i : Nat) (nw : Led) : Prop :=
  (∃ o, (I, o) ∈ nw ∧ o.cls = .type "dict_keyiterator" ∧ o.data = .fields #[.ref a, .int i 0, .int kvs.length 0, .int ep 0]) ∧ DictAtE Γ nw a kvs ep
def ValIt (Γ : Gm) (I a : Addr) (kvs : List (Int × Value)) (ep i : Nat) (nw : Led) : Prop :=
  (∃ o, (I, o) ∈ nw ∧ o.cls = .type "dict_valueiterator" ∧ o.data = .fields #[.ref a, .int i 0, .int kvs.length 0, .int ep 0]) ∧ DictAtE Γ nw a kvs ep
theorem odd_fields {o : Obj} {T : String} {xs : Array Value} (h1 : o.cls = .type T) (hT : (Value.type T == Value.type "tuple") = false) (h2 : o.data = .fields xs) : odd o :=
  ⟨(fun xs n e => by rw [h2] at e; cases e), (fun es ep e => by rw [h2] at e; cases e), .inl ⟨(fun e => by rw [h1] at e; rw [e] at hT; simp at hT), (fun c e => by rw [h1] at e; cases e)⟩⟩
section
variable {Γ : Gm} {A : Around} {env : Env} {outer : List Env} {h₀ : Heap} {L : Addr} {h h' : Heap} {l l' : Loc} {nw : Led} {t : Nat} {E : Value → Shared → Prop} {pos : Pos}
theorem DictAtE.at (c : Fx Γ A env outer h₀ L h l nw) {a : Addr} {kvs : List (Int × Value)} {ep : Nat} (m : DictAtE Γ nw a kvs ep) : h.DictAt (intKind PG Γ.w) a kvs ep := let ⟨o, es, m, r⟩ := m; ⟨o, es, c.get m, r⟩
theorem xit_keys {I a : Addr} (hne : a ≠ I) {kvs : List (Int × Value)} {ep : Nat} : XIt Γ A I kvs.length (fun i v => ∃ k x t, kvs[i]? = some (k, x) ∧ v = .int k t) (KeyIt Γ I a kvs ep) where
  item := fun {env outer h₀ L h l nw t Q E i} hi c hI q => by
    obtain ⟨⟨o, m, hc, hd⟩, hw⟩ := hI
    obtain ⟨⟨k, x⟩, hx⟩ : ∃ p, kvs[i]? = some p := ⟨kvs[i], by simp [hi]⟩
    refine wpAny_pyNext_dict_item (s := S Γ h t) (knd := intKind PG Γ.w) ⟨o, c.get m, hc, hd⟩ (hw.at c) hx fun key h' hk hit sb => ?_
    obtain ⟨o', ho', hc', hd'⟩ := hit
    obtain ⟨u, rfl⟩ := Value.isInt_shape hk
    exact q _ h' t o' ⟨k, x, u, hx, rfl⟩ (c.upd m sb ho') ⟨⟨o', mem_put_self m, hc', hd'⟩, hw.keep Keep.put hne⟩
  done := fun {env outer h₀ L h l nw t Q E} c hI q => by
    obtain ⟨⟨o, m, hc, hd⟩, hw⟩ := hI
    exact wpAny_pyNext_dict_end (s := S Γ h t) (knd := intKind PG Γ.w) c.hh ⟨o, c.get m, hc, hd⟩ (hw.at c) (by simp) fun h' e => q h' _ (c.ext m e) keep_drop
theorem xit_vals {I a : Addr} (hne : a ≠ I) {kvs : List (Int × Value)} {ep : Nat} : XIt Γ A I kvs.length (fun i v => ∃ k, kvs[i]? = some (k, v)) (ValIt Γ I a kvs ep) where
  item := fun {env outer h₀ L h l nw t Q E i} hi c hI q => by
    obtain ⟨⟨o, m, hc, hd⟩, hw⟩ := hI
    obtain ⟨⟨k, x⟩, hx⟩ : ∃ p, kvs[i]? = some p := ⟨kvs[i], by simp [hi]⟩
    refine wpAny_pyNext_values_item (s := S Γ h t) (knd := intKind PG Γ.w) ⟨o, c.get m, hc, hd⟩ (hw.at c) hx fun h' hit sb => ?_
    obtain ⟨o', ho', hc', hd'⟩ := hit
    exact q _ h' t o' ⟨k, hx⟩ (c.upd m sb ho') ⟨⟨o', mem_put_self m, hc', hd'⟩, hw.keep Keep.put hne⟩
  done := fun {env outer h₀ L h l nw t Q E} c hI q => by
    obtain ⟨⟨o, m, hc, hd⟩, hw⟩ := hI
    exact wpAny_pyNext_values_end (s := S Γ h t) (knd := intKind PG Γ.w) c.hh ⟨o, c.get m, hc, hd⟩ (hw.at c) (by simp) fun h' e => q h' _ (c.ext m e) keep_drop
theorem xiter_keys (c : Fx Γ A env outer h₀ L h l nw) {a : Addr} {kvs : List (Int × Value)} {Q : Value → Shared → Prop} (m : IsD Γ nw a kvs)
    (q : ∀ I h' o ep, Fx Γ A env outer h₀ L h' l ((I, o) :: nw) → (∀ p ∈ nw, p.1 < I) → XIt Γ A I kvs.length (fun i v => ∃ k x t, kvs[i]? = some (k, x) ∧ v = .int k t) (KeyIt Γ I a kvs ep) → KeyIt Γ I a kvs ep 0 ((I, o) :: nw) → Q (.ref I) (S Γ h' t)) :
    wpAny (model PG Γ.w) A (pyIter (.ref a)) Q E (S Γ h t) := by
  obtain ⟨ep, e⟩ := m.ep
  obtain ⟨o, es, mo, _⟩ := id e
  have hne : a ≠ h.objs.size := Nat.ne_of_lt (c.lt mo)
  exact wpAny_pyIter_dict (s := S Γ h t) (knd := intKind PG Γ.w) (c.lo mo) (e.at c) (q _ _ _ ep (c.push _) (fun p hp => c.lt hp) (xit_keys hne) ⟨⟨_, .head _, rfl, rfl⟩, e.keep (Keep.cons (W := fun _ => False)) id⟩)
theorem xvaluesM (c : Fx Γ A env outer h₀ L h l nw) {a : Addr} {kvs : List (Int × Value)} {pl : Sem Bool} {Q : Value × List Value → Shared → Prop} (m : IsD Γ nw a kvs) (q : Q (.builtin "dict.values", [.ref a]) (S Γ h t)) : wpAny (model PG Γ.w) A (getMethod (.ref a) (Str.ofString "values") pl) Q E (S Γ h t) := by
  obtain ⟨o, m, d⟩ := m
  have hD := kda_dict (s := S Γ h t) (knd := intKind PG Γ.w) c.N m d
  exact getMethod_builtin hD.typeIs PySem.F.plainAttrs_dict PySem.F.slot_dict_values PySem.F.type_dict_values hD.mapOf.noDict q
/-- `d.values()`, walked -/
theorem xvalues (c : Fx Γ A env outer h₀ L h l nw) {a : Addr} {kvs : List (Int × Value)} {Q : Value → Shared → Prop} (m : IsD Γ nw a kvs)
    (q : ∀ I v h' o ov ep, Fx Γ A env outer h₀ L h' l ((I, o) :: (v, ov) :: nw) → (∀ p ∈ nw, p.1 < v) → v < I → XIt Γ A I kvs.length (fun i v => ∃ k, kvs[i]? = some (k, v)) (ValIt Γ I a kvs ep) → ValIt Γ I a kvs ep 0 ((I, o) :: (v, ov) :: nw) → Q (.ref I) (S Γ h' t)) :
    wpAny (model PG Γ.w) A (call (.builtin "dict.values") [.ref a]) (fun x s₁ => wpAny (model PG Γ.w) A (pyIter x) Q E s₁) E (S Γ h t) := by
  obtain ⟨ep, e⟩ := m.ep
  obtain ⟨o, es, mo, r⟩ := id e
  have hD := kda_dict (s := S Γ h t) (knd := intKind PG Γ.w) c.N mo ⟨es, ep, r⟩
  refine call_meetsIn PySem.F.slot_dict_values hD.typeIs PySem.F.entry_dict_values (PySem.F.args_dict_values_1 _) (meets_dict_values (intKind PG Γ.w) a (c.lo mo)) ⟨⟨_, hD⟩, ?_⟩
  have c1 := c.push { cls := .type "dict_values", data := .fields #[.ref a] }
  have e1 := e.keep (Keep.cons (W := fun _ => False) (p := (h.objs.size, ({ cls := .type "dict_values", data := .fields #[.ref a] } : Obj)))) id
  have hne : a ≠ (h.push { cls := .type "dict_values", data := .fields #[.ref a] }).objs.size := Nat.ne_of_lt (c1.lt (.tail _ mo))
  refine wpAny_pyIter_values (s := S Γ (h.push { cls := .type "dict_values", data := .fields #[.ref a] }) t) (knd := intKind PG Γ.w) (d := a) ⟨_, c1.get (.head _), rfl, rfl⟩ (e1.at c1) ?_
  exact q _ _ _ _ _ ep (c1.push _) (fun p hp => c.lt hp) (c1.lt (.head _)) (xit_vals hne) ⟨⟨_, .head _, rfl, rfl⟩, e1.keep (Keep.cons (W := fun _ => False)) id⟩
theorem self_keys {I a : Addr} {kvs : List (Int × Value)} {ep i : Nat} (it : KeyIt Γ I a kvs ep i nw) {nw' : Led} {Q : Value → Shared → Prop} {E' : Value → Shared → Prop} (c : Fx Γ A env outer h₀ L h' l nw') (k : Keep (fun _ => False) nw nw') (q : Q (.ref I) (S Γ h' t)) : wpAny (model PG Γ.w) A (pyIter (.ref I)) Q E' (S Γ h' t) := by
  obtain ⟨⟨o, m, hc, hd⟩, _⟩ := it
  exact wpAny_pyIter_keyiter (s := S Γ h' t) ⟨o, c.get (k _ m id), hc, hd⟩ q
theorem itk_keys {I a : Addr} {kvs : List (Int × Value)} {ep : Nat} (i : Nat) (n1 n2 : Led) (W : Addr → Prop) (it : KeyIt Γ I a kvs ep i n1) (k : Keep W n1 n2) (h1 : ¬ W I) (h2 : ∀ b, W b → ¬ b = a) : KeyIt Γ I a kvs ep i n2 := by
  obtain ⟨⟨o, m, r⟩, w⟩ := it
  exact ⟨⟨o, k _ m h1, r⟩, w.keep k fun z => h2 _ z rfl⟩
theorem itm_keys {I a : Addr} {kvs : List (Int × Value)} {ep : Nat} (i : Nat) (n1 : Led) (it : KeyIt Γ I a kvs ep i n1) : ∃ o, (I, o) ∈ n1 := let ⟨⟨o, m, _⟩, _⟩ := it; ⟨o, m⟩
end


/-! a set of one text, made of a list -/
def byT (w : World) : Bool := w.params.followText "set-order"
def freshSet (w : World) : Obj := { cls := .type "set", dict := none, data := .set #[] 0 (.fresh 0 0 (!byT w)) }
def OneSet (w : World) (x : Str) (o : Obj) : Prop := o.ExactSet ∧ ∃ u ep tb, o.data = .set #[(hashStr w x, Value.str x u)] ep tb ∧ tb.fits 1 = true ∧ tb.led = !byT w
def SetI (w : World) (x : Str) : Nat → Obj → Prop
  | 0, o => o = freshSet w
  | _ + 1, o => OneSet w x o
theorem layNew_one (led : Bool) (h : Int) (x : Value) : ∃ t1 wd gave, layNew (.fresh 0 0 led) #[] h x = (#[(h, x)], t1, wd, gave) ∧ t1.fits 1 = true ∧ t1.led = led ∧ t1.tooFull = false := by
  have hp := layNew_perm (.fresh 0 0 led) #[] h x
  have hf := layNew_fits (.fresh 0 0 led) #[] h x
  have h3 : (layNew (.fresh 0 0 led) #[] h x).2.1.led = led ∧ (layNew (.fresh 0 0 led) #[] h x).2.1.tooFull = false := by
    unfold layNew
    split
    · dsimp only
      unfold SetTable.orStandIn
      split
      · refine ⟨rfl, ?_⟩
        simp [SetTable.tooFull, SetTable.fill, SetTable.put, SetTable.fresh, SetTable.insertAt, SetTable.has]
      · refine ⟨rfl, ?_⟩
        simp [SetTable.tooFull, SetTable.fill, SetTable.standIn, SetTable.fresh, SetTable.insertAt]
    · exact ⟨rfl, by rfl⟩
  generalize layNew (.fresh 0 0 led) #[] h x = L at hp hf h3
  obtain ⟨es1, t1, wd, gave⟩ := L
  have e : es1 = #[(h, x)] := by
    have : es1.toList = [(h, x)] := List.perm_singleton.mp (by simpa using hp)
    exact Array.ext' this
  subst e
  exact ⟨t1, wd, gave, rfl, hf, h3.1, h3.2⟩
section
variable {prog : Program} {w : World} {A : Around} {E : Value → Shared → Prop} {s : Shared}
theorem wpAny_gave (b : Bool) {s₁ : Shared} {Q' : Unit → Shared → Prop} (hq : Q' () s₁) : wpAny (model prog w) A (match b with | true => rule "set.scan.the-table-gave-way" | false => pure ()) Q' E s₁ := by
  cases b <;> first | exact wpAny_pure hq | exact wpAny_rule hq
theorem setAdd_step {x : Str} {u : Tok} {a : Addr} {i : Nat} {o : Obj} {Q : Bool → Shared → Prop} (ho : s.heap.get? a = some o) (hi : SetI w x i o)
    (h : ∀ h' o' b, Heap.SameBut a s.heap h' → h'.get? a = some o' → SetI w x (i + 1) o' → Q b { s with heap := h', toks := s.toks + 1 }) : wpAny (model prog w) A (setAdd a (.str x u)) Q E s := by
  unfold setAdd
  refine wpAny_holding ?_
  refine wpAny_bind ((PySem.strKind prog w).pyHash (k := x) (by simp [PySem.strKind, Value.isStrOf]) ?_)
  unfold setAddHashed setAddHashedIn
  cases i with
  | zero =>
    obtain rfl : o = freshSet w := hi
    refine wpAny_holding (wpAny_bind (wpAny_setState_of (s := { s with toks := s.toks + 1 }) ho rfl (by rfl) ?_))
    dsimp only
    rw [byScan_of (knd := PySem.strKind prog w) (x := .str x u) (es := #[]) rfl (by unfold scanBound; simp) (fun e he => by simp at he)]
    simp only [↓reduceIte]
    unfold setAddByScan
    refine wpAny_bind ?_
    refine wpAny_bind (wpAny_rule ?_)
    refine wpAny_bind (wpAny_setScan_of (knd := PySem.strKind prog w) (s := { s with toks := s.toks + 1 }) (k := x) (by simp [PySem.strKind, Value.isStrOf]) ho rfl (by rfl) (fun e he => by simp at he) ?_)
    dsimp only [List.findIdx?]
    obtain ⟨t1, wd, gave, e, hf, hl, ht⟩ := layNew_one (!byT w) ((PySem.strKind prog w).hash x) (.str x u)
    rw [show layNew (SetTable.fresh 0 0 (!byT w)) #[] ((PySem.strKind prog w).hash x) (.str x u) = (#[((PySem.strKind prog w).hash x, .str x u)], t1, wd, gave) from e]
    dsimp only
    show wpAny _ _ ((match gave with | true => rule "set.scan.the-table-gave-way" | false => pure ()) >>= _) _ _ _
    refine wpAny_bind (wpAny_gave gave ?_)
    have fin : ∀ t2 : SetTable, t2.fits 1 = true → t2.led = !byT w → t2.tooFull = false → wpAny (model prog w) A (do
        storeSet a #[((PySem.strKind prog w).hash x, Value.str x u)] t2
        if (!wd && t2.tooFull) = true then do
            (match (relayAll t2 #[((PySem.strKind prog w).hash x, Value.str x u)] (SetTable.grown 1)).2.2 with | true => rule "set.scan.the-table-gave-way" | false => pure ())
            storeSet a (relayAll t2 #[((PySem.strKind prog w).hash x, Value.str x u)] (SetTable.grown 1)).1 (relayAll t2 #[((PySem.strKind prog w).hash x, Value.str x u)] (SetTable.grown 1)).2.1
            pure (some true)
          else pure (some true)) (fun r s' => wpAny (model prog w) A (match r with | some added => pure added | none => setAddHashedIn a (.str x u) ((PySem.strKind prog w).hash x) 99999) Q E s') E { s with toks := s.toks + 1 } := fun t2 h1 h2 h3 => by
      refine wpAny_bind (wpAny_storeSet_of (s := { s with toks := s.toks + 1 }) ho rfl ?_ (by rw [sizeLine_eq]; simp))
      rw [h3]
      simp only [Bool.and_false, Bool.false_eq_true, if_false]
      have hg : (s.heap.update a (Obj.putSet #[((PySem.strKind prog w).hash x, Value.str x u)] t2)).get? a = some { freshSet w with data := .set #[((PySem.strKind prog w).hash x, Value.str x u)] (0 + 1) t2 } := by
        have := Heap.get?_update_self (Obj.putSet #[((PySem.strKind prog w).hash x, Value.str x u)] t2) ho (by rw [putSet_of (o := freshSet w) (es := #[]) (ep := 0) (t := .fresh 0 0 (!byT w)) _ t2 rfl]; rfl)
        rw [putSet_of (o := freshSet w) (es := #[]) (ep := 0) (t := .fresh 0 0 (!byT w)) _ t2 rfl] at this
        exact this
      exact wpAny_pure (wpAny_pure (h _ _ true (Heap.SameBut.update s.heap a _) hg ⟨⟨rfl, rfl, rfl⟩, u, _, t2, rfl, h1, h2⟩))
    split
    · refine wpAny_bind ?_
      rw [hashByValue_scannable 8 (show (Value.str x u).scannable = true from rfl)]
      refine wpAny_pure ?_
      exact fin _ (SetTable.fits_plain_off hf) hl ht
    · refine wpAny_bind (wpAny_pure ?_)
      exact fin _ hf hl ht
  | succ i =>
    obtain ⟨hex, u0, ep, tb, hd, hf, hl⟩ := id hi
    have hel : ElemsOf (PySem.strKind prog w) (#[(hashStr w x, Value.str x u0)] : Array (Int × Value)).toList := fun e he => by
      have : e = (hashStr w x, Value.str x u0) := by simpa using he
      subst this
      exact ⟨⟨x, by simp [PySem.strKind, Value.isStrOf], rfl⟩, rfl⟩
    refine wpAny_holding (wpAny_bind (wpAny_setState_of (s := { s with toks := s.toks + 1 }) ho hd hf ?_))
    dsimp only
    rw [byScan_of (knd := PySem.strKind prog w) (x := .str x u) rfl (by unfold scanBound; simp) hel]
    simp only [↓reduceIte]
    unfold setAddByScan
    refine wpAny_bind ?_
    refine wpAny_bind (wpAny_rule ?_)
    refine wpAny_bind (wpAny_setScan_of (knd := PySem.strKind prog w) (s := { s with toks := s.toks + 1 }) (k := x) (by simp [PySem.strKind, Value.isStrOf]) ho hd hf hel ?_)
    have e1 : List.findIdx? (fun e : Int × Value => (PySem.strKind prog w).is x e.2) (#[(hashStr w x, Value.str x u0)] : Array (Int × Value)).toList = some 0 := by simp [List.findIdx?, List.findIdx?.go, PySem.strKind, Value.isStrOf]
    rw [e1]
    dsimp only
    exact wpAny_pure (wpAny_pure (h s.heap o false (Heap.SameBut.refl a s.heap) ho hi))
end
section
variable {prog : Program} {w : World} {A : Around} {E : Value → Shared → Prop} {s : Shared}
open PyProof.Rows in
theorem set_loop {R : Result → Shared → Prop} {I : Addr} {fp wr : List Addr} {G : Array GenState → Array GenState → Prop} {n : Nat} {P : Nat → Value → Prop} {St : Nat → Shared → Prop} {x : Str}
    (W : WalksS prog w A.in1 I fp wr G n P St) (S : Addr) (hSf : S ∉ fp) (hP : ∀ i v, P i v → ∃ u, v = .str x u) :
    ∀ (k i : Nat) (s : Shared) (o : Obj), n - i = k → i ≤ n → St i s → s.heap.get? S = some o → SetI w x i o →
      (∀ s' o', Moved (S :: wr) G s s' → s'.heap.get? S = some o' → SetI w x n o' → R (.ok (.ret .none)) s') →
      codeAny (model prog w) A (.builtin "set.update.loop" ⟨[.ref S, .ref I], []⟩) R s := by
  have hSw : S ∉ wr := fun h => hSf (W.sub _ h)
  have hsub : ∀ b ∈ wr, b ∈ S :: wr := fun b hb => List.mem_cons_of_mem _ hb
  intro k
  induction k with
  | zero =>
    intro i s o hk hi hst ho hS hR
    obtain rfl : i = n := by omega
    refine codeAny_builtin F.entry_set_update_loop ?_
    rw [Around.under_plainId F.plain_set_update_loop _]
    show wpAny _ A.in1 (pyNext (.ref I) >>= _) _ _ s
    refine wpAny_bind (W.done s _ _ hst fun s' hm => ?_)
    show wpAny _ A.in1 (ret Value.none) _ _ s'
    exact wpAny_pure (hR s' o (hm.mono hsub) (hm.heap S _ hSw ho) hS)
  | succ k ih =>
    intro i s o hk hi hst ho hS hR
    have hlt : i < n := by omega
    refine codeAny_builtin F.entry_set_update_loop ?_
    rw [Around.under_plainId F.plain_set_update_loop _]
    show wpAny _ A.in1 (pyNext (.ref I) >>= _) _ _ s
    refine wpAny_bind (W.item i s _ _ hlt hst fun v s' hv hst' hm => ?_)
    obtain ⟨u, rfl⟩ := hP i v hv
    show wpAny _ A.in1 (holding [Value.str x u] (setAdd S (.str x u)) >>= _) _ _ s'
    refine wpAny_bind (wpAny_holding (setAdd_step (hm.heap S _ hSw ho) hS fun h' o' b sb ho' hS' => ?_))
    refine wpAny_pure ⟨plainId_quiet F.plain_set_update_loop _, ih (i + 1) _ o' (by omega) hlt (W.frame _ s' _ _ hst' (Nat.le_succ _) fun b hb o e => ?_) ho' hS' fun s'' o'' hm'' ho'' hS'' => ?_⟩
    · rw [sb.2 b (fun h : b = S => hSf (by rw [← h]; exact hb))]; exact e
    · refine hR s'' o'' (Moved.trans W.gtrans ((hm.mono hsub).then_heap (Nat.le_succ _) fun b o hb e => ?_) hm'') ho'' hS''
      rw [sb.2 b (fun h : b = S => hb (by rw [h]; exact List.mem_cons_self))]; exact e
theorem set_new {x : Value} {Q₁ : Value → Shared → Prop}
    (h : Q₁ (.ref s.heap.objs.size) { s with heap := s.heap.push (freshSet w) }) :
    codeAny (model prog w) A (.call (.builtin "set.__new__") ⟨[.type "set", x], []⟩) (wants Q₁ E) s := by
  refine codeAny_of_tree ?_
  show wpAny _ A.in1 (do checkBuiltinCall "set.__new__" ⟨[.type "set", x], []⟩; again (.builtin "set.__new__" ⟨[.type "set", x], []⟩)) _ _ s
  refine wpAny_bind (wpAny_of_eq (PySem.F.newCall_set_1 x) (wpAny_pure ⟨plainId_quiet F.plain_set_new _, codeAny_builtin F.entry_set_new ?_⟩))
  rw [Around.under_plainId F.plain_set_new _]
  unfold Builtin.«set.__new__» Builtin.Frozenset.newClass
  have hsub := sub_set_self
  obtain ⟨hp, g, d, tk, os⟩ := s
  dsimp only
  wp_walk
  refine wpAny_askSetting (wpAny_pure ?_)
  dsimp only
  simp only [newObj]
  refine wpAny_bind (wpAny_alloc (wpAny_pure ?_))
  exact wpAny_pure h
set_option maxRecDepth 100000 in
set_option maxHeartbeats 3200000 in
/-- `set` of a list of one text, over and over -/
theorem set_of_texts {l : Addr} {items : Array Value} {x : Str} {Q : Value → Shared → Prop}
    (hh : A.handled = none) (hl : s.heap.IsList l items) (hi : ∀ (i : Nat) v, items[i]? = some v → ∃ u, v = .str x u)
    (h : ∀ (h' : Heap) (tk : Nat) o, h'.get? s.heap.objs.size = some o → SetI w x items.size o →
      (∀ b o, b < s.heap.objs.size → s.heap.get? b = some o → h'.get? b = some o) → Q (.ref s.heap.objs.size) { s with heap := h', toks := tk }) :
    wpAny (model prog w) A (call (.type "set") [.ref l]) Q E s := by
  obtain ⟨c, tl, hmro⟩ := F.called_set.mro
  have hmade := F.called_set.made
  have hsub := F.called_set.sub
  refine wpAny_call (codeAny_of_tree ?_)
  show wpAny _ _ (callAny (.type "set") _) _ _ _
  refine wpAny_pure ⟨Code.quiet_builtin _ (by decide +kernel), codeAny_builtin F.entry_type_call ?_⟩
  rw [Around.under_plain (weight_type_call_type "set" [.ref l] []) rfl]
  have h1 := F.called_set.notType
  have h2 := F.called_set.canCreate
  have hct := F.typeCall_set_1 (.ref l)
  repeat (any_goals (first | assumption | wp_step))
  refine codeAny_mono (set_new (E := E) (Q₁ := fun obj s₁ => obj = .ref s.heap.objs.size ∧ s₁ = { s with heap := s.heap.push (freshSet w) }) ⟨rfl, rfl⟩) fun r s₁ hr => ?_
  cases r with
  | error e => exact hr
  | ok fl =>
    cases fl with
    | ret obj =>
      obtain ⟨rfl, rfl⟩ := hr
      have hS : (s.heap.push (freshSet w)).get? s.heap.objs.size = some (freshSet w) := Heap.get?_push_size _ rfl
      have hT : Shared.TypeIs { s with heap := s.heap.push (freshSet w) } (.ref s.heap.objs.size) "set" := ⟨_, hS, rfl⟩
      have hli := F.called_set.init.lookup
      have hbi := F.called_set.init.bind (.ref s.heap.objs.size)
      repeat (any_goals (first | assumption | wp_step))
      refine codeAny_mono (codeAny_call_builtin (R := wants (fun r s₂ => r = .none ∧ ∃ h' tk o, s₂ = { s with heap := h', toks := tk } ∧ h'.get? s.heap.objs.size = some o ∧ SetI w x items.size o ∧
          (∀ b o, b < s.heap.objs.size → s.heap.get? b = some o → h'.get? b = some o)) E) F.called_set.init.plain F.entry_set_init (PySem.check_set_init_1 hT ?_)) fun r₂ s₂ hr₂ => ?_
      · obtain ⟨ol, hol, hcl, nl, hdl⟩ := hl
        obtain ⟨ocls, odict, odata, oslots⟩ := ol
        simp only at hcl hdl
        subst hcl; subst hdl
        have hol' : (s.heap.push (freshSet w)).get? l = some { cls := .type "list", dict := odict, data := .seq items nl, slots := oslots } := Heap.get?_push_of_some _ hol
        have hsls := PySem.F.sub_list_set
        have hslf := PySem.F.sub_list_frozenset
        have hne : (Value.type "list" == Value.type "dict") = false := by decide
        have hl1 : (s.heap.push (freshSet w)).IsList l items := ⟨_, hol', rfl, nl, rfl⟩
        unfold freshSet at hol' hl1 hS hT ⊢
        unfold Builtin.«set.__init__» noKeywords Builtin.Frozenset.updateFrom
        generalize hPI : pyIter = PI
        wp_walk
        subst hPI
        refine wpAny_pyIter_list hl1 ?_
        refine wpAny_bind (wpAny_runValue ?_)
        have hlS : l < s.heap.objs.size := Heap.lt_size hol
        have hh3 : A.in1.in1.in1.handled = none := by simp [hh]
        have hneI : l ≠ (s.heap.push (freshSet w)).objs.size := by
          rw [Heap.size_push]; exact Nat.ne_of_lt (Nat.lt_succ_of_lt hlS)
        have hSf : s.heap.objs.size ∉ [(s.heap.push (freshSet w)).objs.size, l] := by
          rw [Heap.size_push]; simp only [List.mem_cons, List.mem_singleton, List.not_mem_nil, or_false, not_or]
          exact ⟨Nat.ne_of_lt (Nat.lt_succ_self _), Nat.ne_of_gt hlS⟩
        refine set_loop ((Walks.list hh3 _ l hneI items).toS) s.heap.objs.size hSf hi (items.size - 0) 0 _ (freshSet w) (by omega) (Nat.zero_le _)
          ⟨⟨_, Heap.get?_push_size _ rfl, rfl, rfl⟩, (hl1.push _)⟩ (Heap.get?_push_of_some _ hS) rfl ?_
        intro s' o' hm ho' hS'
        obtain ⟨h', g', d', tk', os'⟩ := s'
        have eg : g' = s.gens := hm.gens
        have ed : d' = s.drawn := hm.drawn
        have eo : os' = s.os := hm.os
        subst eg; subst ed; subst eo
        show wpAny _ _ _ _ _ _
        refine wpAny_pure ?_
        show wpAny _ _ (ret Value.none) _ _ _
        refine wpAny_pure ⟨rfl, h', tk', o', rfl, ho', hS', fun b o hb e => ?_⟩
        have hb1 : b ≠ s.heap.objs.size := Nat.ne_of_lt hb
        have hb2 : b ≠ (s.heap.push (freshSet w)).objs.size := by
          rw [Heap.size_push]; exact Nat.ne_of_lt (Nat.lt_succ_of_lt hb)
        exact hm.heap b o (by simp only [List.mem_cons, List.mem_singleton, List.not_mem_nil, or_false, not_or]; exact ⟨hb1, hb2⟩) (Heap.get?_push_of_some _ (Heap.get?_push_of_some _ e))
      · cases r₂ with
        | error e => exact hr₂
        | ok fl₂ =>
          cases fl₂ with
          | ret r =>
            obtain ⟨rfl, h', tk, o, rfl, ho', hS', hk'⟩ := hr₂
            repeat (any_goals (first | assumption | wp_step))
            exact h _ _ _ ho' hS' hk'
          | _ => exact hr₂.elim
    | _ => exact hr.elim
end


/-! walking a set of at most one text -/
theorem sF_set_iter : Slot "set" "__iter__" "set.__iter__" := PySem.F.slot_set_iter
theorem sF_entry_set_iter : entryFor table "set.__iter__" = some Builtin.«frozenset.__iter__» :=
  entryFor_alias (id' := "frozenset.__iter__") (by kernel_rfl) rfl (by decide +kernel) (by kernel_rfl)
theorem sF_slot_next : Slot "set_iterator" "__next__" "set_iterator.__next__" :=
  .of (owner := "set_iterator") (n := "__next__") (by rw [typeLookup_type, builtinLookup_eq_fast]; kernel_rfl) (by decide +kernel) (by decide +kernel) (by decide +kernel)
    (by first | exact .inl (by decide +kernel) | exact .inr (by decide +kernel)) (by rw [isSubtype_type]; kernel_rfl)
theorem sF_entry_next : entryFor table "set_iterator.__next__" = some Builtin.«set_iterator.__next__» := entryFor_of_tree (by kernel_rfl)
theorem sF_args_next (a : Value) : argsOk "set_iterator.__next__" ⟨[a], []⟩ := by unfold argsOk; kernel_rfl
theorem sF_slot_iter : Slot "set_iterator" "__iter__" "set_iterator.__iter__" :=
  .of (owner := "set_iterator") (n := "__iter__") (by rw [typeLookup_type, builtinLookup_eq_fast]; kernel_rfl) (by decide +kernel) (by decide +kernel) (by decide +kernel)
    (by first | exact .inl (by decide +kernel) | exact .inr (by decide +kernel)) (by rw [isSubtype_type]; kernel_rfl)
theorem sF_entry_iter : entryFor table "set_iterator.__iter__" = some Builtin.«dict_keyiterator.__iter__» :=
  entryFor_alias (id' := "dict_keyiterator.__iter__") (by kernel_rfl) rfl (by decide +kernel) (by kernel_rfl)
theorem sF_args_iter (a : Value) : argsOk "set_iterator.__iter__" ⟨[a], []⟩ := by unfold argsOk; kernel_rfl
theorem sF_nolen : typeLookup (.type "set_iterator") "__len__" = pure none := by rw [typeLookup_type, builtinLookup_eq_fast]; kernel_rfl
theorem sF_hint : typeLookup (.type "set_iterator") "__length_hint__" = pure (some (.builtin "set_iterator.__length_hint__")) := by rw [typeLookup_type, builtinLookup_eq_fast]; kernel_rfl
/-- a set of the texts `vs`, of which there is at most one -/
def SetHas (w : World) (o : Obj) (vs : List Value) (es : Array (Int × Value)) (ep : Nat) (tb : SetTable) : Prop :=
  o.cls = .type "set" ∧ o.data = .set es ep tb ∧ es.toList.map (·.2) = vs ∧ vs.length ≤ 1 ∧ tb.fits es.size = true ∧ tb.led = !byT w
theorem SetI.has {w : World} {x : Str} {n : Nat} {o : Obj} (h : SetI w x n o) : ∃ vs es ep tb, SetHas w o vs es ep tb ∧ ((n = 0 ∧ vs = []) ∨ (n ≠ 0 ∧ ∃ u, vs = [.str x u])) := by
  cases n with
  | zero =>
    obtain rfl : o = freshSet w := h
    exact ⟨[], #[], 0, .fresh 0 0 (!byT w), ⟨rfl, rfl, rfl, by simp, by rfl, rfl⟩, .inl ⟨rfl, rfl⟩⟩
  | succ n =>
    obtain ⟨⟨hc, _⟩, u, ep, tb, hd, hf, hl⟩ := h
    exact ⟨[.str x u], _, ep, tb, ⟨hc, hd, rfl, by simp, hf, hl⟩, .inr ⟨by simp, u, rfl⟩⟩
def IsSetIt (h : Heap) (I S : Addr) (slot i n ep : Nat) : Prop := ∃ o, h.get? I = some o ∧ o.cls = .type "set_iterator" ∧ o.data = .fields #[.int slot 0, .int i 0, .ref S, .int n 0, .int ep 0]
/-- where a walk stands -/
def SetSt (w : World) (I S : Addr) (vs : List Value) (i : Nat) (h : Heap) : Prop :=
  ∃ o es ep tb slot, h.get? S = some o ∧ SetHas w o vs es ep tb ∧ IsSetIt h I S slot i vs.length ep ∧ i ≤ vs.length ∧ (i = 0 → slot = 0) ∧ (byT w = false → i = 1 → ∃ j, tb.place = #[j] ∧ slot = j + 1)
section
variable {prog : Program} {w : World} {A : Around} {E : Value → Shared → Prop} {s : Shared}
theorem setWalk_one {a : Addr} {o : Obj} {vs : List Value} {es : Array (Int × Value)} {ep : Nat} {tb : SetTable} {Q : Array (Int × Value) → Shared → Prop} (ho : s.heap.get? a = some o) (hs : SetHas w o vs es ep tb) (hb : byT w = true) (h : Q es s) :
    wpAny (model prog w) A (setWalk a) Q E s := by
  obtain ⟨hc, hd, hv, hl, hf, hled⟩ := hs
  unfold setWalk
  refine wpAny_bind (wpAny_setState_of ho hd hf ?_)
  dsimp only
  refine wpAny_bind ?_
  unfold setsByText
  refine wpAny_bind (wpAny_askSetting (wpAny_pure ?_))
  dsimp only
  have hb' : w.params.followText "set-order" = true := hb
  rw [show (model prog w).w.params.followText "set-order" = true from hb']
  simp only [if_true]
  refine wpAny_bind (wpAny_askSetting ?_)
  have e : pickOrder ((model prog w).w.params.setOrder a ep) es = es := by
    have hsz : es.size ≤ 1 := by rw [← Array.length_toList, ← List.length_map (f := (·.2)), hv]; exact hl
    obtain ⟨l⟩ := es
    match l, hsz with
    | [], _ => rfl
    | [x], _ =>
      unfold pickOrder
      simp [pickOrder.go, Nat.mod_one]
    | _ :: _ :: _, h => simp at h
  dsimp only
  rw [e]
  exact wpAny_pure h
theorem setDrawn_no {a : Addr} {o : Obj} {vs : List Value} {es : Array (Int × Value)} {ep : Nat} {tb : SetTable} {Q : Bool → Shared → Prop} (ho : s.heap.get? a = some o) (hs : SetHas w o vs es ep tb) (h : Q false s) :
    wpAny (model prog w) A (setDrawn a) Q E s := by
  obtain ⟨hc, hd, hv, hl, hf, hled⟩ := id hs
  have hsz : es.size = vs.length := by rw [← Array.length_toList, ← List.length_map (f := (·.2)), hv]
  have hsmall : ((!tb.plain && decide (es.size > 1)) : Bool) = false := by
    rw [show decide (es.size > 1) = false by rw [decide_eq_false_iff_not]; omega]
    exact Bool.and_false _
  unfold setDrawn
  refine wpAny_bind (wpAny_setState_of ho hd hf ?_)
  dsimp only
  refine wpAny_bind (wpAny_bind (m := ask) (wpAny_askSetting (wpAny_pure ?_)))
  refine wpAny_pure ?_
  show Q (!_ && (!tb.plain && decide (es.size > 1))) s
  rw [hsmall, Bool.and_false]
  exact h
theorem pyIter_set {a : Addr} {o : Obj} {vs : List Value} {es : Array (Int × Value)} {ep : Nat} {tb : SetTable} {Q : Value → Shared → Prop} (ho : s.heap.get? a = some o) (hs : SetHas w o vs es ep tb)
    (hQ : Q (.ref s.heap.objs.size) { s with heap := s.heap.push { cls := .type "set_iterator", data := .fields #[.int 0 0, .int 0 0, .ref a, .int vs.length 0, .int ep 0] } }) :
    wpAny (model prog w) A (pyIter (.ref a)) Q E s := by
  obtain ⟨hc, hd, hv, hl, hf, hled⟩ := id hs
  have hT : s.TypeIs (.ref a) "set" := ⟨o, ho, hc⟩
  have hsz : es.size = vs.length := by rw [← Array.length_toList, ← List.length_map (f := (·.2)), hv]
  refine wpAny_pyIter_slot hT sF_set_iter (wpAny_call_entry sF_set_iter hT sF_entry_set_iter ?_ (PySem.F.args_set_iter_1 _))
  unfold Builtin.«frozenset.__iter__»
  refine wpAny_bind (m := Builtin.Frozenset.slot0 "__iter__" _) (wpAny_pure ?_)
  dsimp only
  unfold Builtin.Frozenset.sizeOf setEntries
  refine wpAny_bind (wpAny_bind (wpAny_bind (wpAny_setState_of ho hd hf (wpAny_pure (wpAny_pure ?_)))))
  dsimp only
  refine wpAny_bind (setDrawn_no ho hs ?_)
  rw [if_neg (by simp)]
  refine wpAny_bind (wpAny_pure ?_)
  refine wpAny_bind (wpAny_setEpoch_of ho hd hf ?_)
  unfold newFields
  refine wpAny_bind (wpAny_newObj_type (wpAny_pure ⟨_, rfl, "set_iterator", _, ⟨_, Heap.get?_push_size _ rfl, rfl⟩, sF_slot_next.lookup, ?_⟩))
  simpa [rawInt, hsz] using hQ
theorem below_one (j k : Nat) : SetTable.below #[j] k = if j < k then 1 else 0 := by
  unfold SetTable.below
  show SetTable.below.go #[j] k 1 0 1 = _
  unfold SetTable.below.go
  simp only [Nat.zero_add, Nat.lt_add_one, if_true]
  show (if (#[j] : Array Nat).getD (1 / 2) k < k then _ else _) = _
  simp only [show (1 / 2 : Nat) = 0 from rfl]
  show (if j < k then _ else _) = _
  split <;> rfl
theorem setNext_item {a : Addr} {o : Obj} {x : Value} {es : Array (Int × Value)} {ep : Nat} {tb : SetTable} {Q : Option (Value × Nat) → Shared → Prop} (ho : s.heap.get? a = some o) (hs : SetHas w o [x] es ep tb)
    (h : ∀ next : Nat, (byT w = false → ∃ j, tb.place = #[j] ∧ next = j + 1) → Q (some (x, next)) s) : wpAny (model prog w) A (setNext a 0 0 ep) Q E s := by
  obtain ⟨hc, hd, hv, hl, hf, hled⟩ := id hs
  obtain ⟨l⟩ := es
  obtain ⟨⟨hh, x'⟩, rfl⟩ : ∃ e, l = [e] := by
    match l, hv with
    | [e], _ => exact ⟨e, rfl⟩
  obtain rfl : x' = x := by simpa using hv
  have hpl : ∃ j, tb.place = #[j] := by
    have h1 : tb.place.size = 1 := by
      simp only [SetTable.fits, Bool.and_eq_true, beq_iff_eq] at hf
      exact hf.1
    obtain ⟨pl, hq⟩ : ∃ pl, tb.place = pl := ⟨_, rfl⟩
    rw [hq] at h1 ⊢
    obtain ⟨pl⟩ := pl
    match pl, h1 with
    | [j], _ => exact ⟨j, rfl⟩
  obtain ⟨j, hj⟩ := hpl
  unfold setNext
  refine wpAny_bind (wpAny_setState_of ho hd hf ?_)
  dsimp only
  refine wpAny_bind (wpAny_bind (m := ask) (wpAny_askSetting (wpAny_pure ?_)))
  cases hb : byT w with
  | true =>
    show wpAny _ _ (if w.params.followText "set-order" = true then _ else _) _ _ _
    rw [if_pos (show w.params.followText "set-order" = true from hb)]
    rw [if_neg (by simp)]
    refine wpAny_bind (setWalk_one ho hs hb ?_)
    exact wpAny_pure (h 0 fun z => by rw [hb] at z; cases z)
  | false =>
    show wpAny _ _ (if w.params.followText "set-order" = true then _ else _) _ _ _
    rw [if_neg (by rw [show w.params.followText "set-order" = false from hb]; exact Bool.false_ne_true)]
    rw [hb] at hled
    obtain ⟨mask, place, dummies, finger, led, moves, plain⟩ := tb
    dsimp only at hj hled
    subst hj hled
    show wpAny _ _ (if (!plain && false) = true then _ else _) _ _ _
    rw [if_neg (by simp)]
    refine wpAny_bind (m := pure ()) (wpAny_pure ?_)
    dsimp only
    rw [below_one]
    exact wpAny_pure (h (j + 1) fun _ => ⟨j, rfl, rfl⟩)
theorem setNext_end {a : Addr} {o : Obj} {vs : List Value} {es : Array (Int × Value)} {ep slot : Nat} {tb : SetTable} {Q : Option (Value × Nat) → Shared → Prop} (ho : s.heap.get? a = some o) (hs : SetHas w o vs es ep tb)
    (hj : byT w = false → vs.length = 1 → ∃ j, tb.place = #[j] ∧ slot = j + 1) (h : Q none s) : wpAny (model prog w) A (setNext a slot vs.length ep) Q E s := by
  obtain ⟨hc, hd, hv, hl, hf, hled⟩ := id hs
  have hsz : es.size = vs.length := by rw [← Array.length_toList, ← List.length_map (f := (·.2)), hv]
  unfold setNext
  refine wpAny_bind (wpAny_setState_of ho hd hf ?_)
  dsimp only
  refine wpAny_bind (wpAny_bind (m := ask) (wpAny_askSetting (wpAny_pure ?_)))
  cases hb : byT w with
  | true =>
    show wpAny _ _ (if w.params.followText "set-order" = true then _ else _) _ _ _
    rw [if_pos (show w.params.followText "set-order" = true from hb)]
    rw [if_neg (by simp)]
    refine wpAny_bind (setWalk_one ho hs hb ?_)
    rw [Array.getElem?_eq_none (by omega)]
    exact wpAny_pure h
  | false =>
    show wpAny _ _ (if w.params.followText "set-order" = true then _ else _) _ _ _
    rw [if_neg (by rw [show w.params.followText "set-order" = false from hb]; exact Bool.false_ne_true)]
    rw [hb] at hled
    have hsmall : ((!tb.plain && decide (es.size > 1)) : Bool) = false := by
      rw [show decide (es.size > 1) = false by rw [decide_eq_false_iff_not]; omega]
      exact Bool.and_false _
    show wpAny _ _ (if (!tb.plain && decide (es.size > 1)) = true then _ else _) _ _ _
    rw [hsmall, if_neg (by simp)]
    obtain ⟨mask, place, dummies, finger, led, moves, plain⟩ := tb
    dsimp only at hj hled
    subst hled
    refine wpAny_bind (m := pure ()) (wpAny_pure ?_)
    dsimp only
    have hno : es[SetTable.below place slot]? = none := by
      by_cases h1 : vs.length = 1
      · obtain ⟨j, hp, hs2⟩ := hj hb h1
        subst hp hs2
        rw [below_one, if_pos (Nat.lt_succ_self _)]
        exact Array.getElem?_eq_none (by omega)
      · exact Array.getElem?_eq_none (by omega)
    rw [hno]
    exact wpAny_pure h
end
section
variable {prog : Program} {w : World} {A : Around} {E : Value → Shared → Prop} {s : Shared}
theorem set_walks (hh : A.handled = none) (I S : Addr) (hne : S ≠ I) (vs : List Value) : Walks prog w A I [I, S] [I] vs.length (fun i v => vs[i]? = some v) (fun i h => SetSt w I S vs i h) where
  sub := fun b hb => by simp at hb; simp [hb]
  frame := fun i h h' st hk => by
    obtain ⟨o, es, ep, tb, slot, ho, hs, ⟨oi, hi, r⟩, q⟩ := st
    exact ⟨o, es, ep, tb, slot, hk S (by simp) o ho, hs, ⟨oi, hk I (by simp) oi hi, r⟩, q⟩
  item := fun i s Q E hlt st hQ => by
    obtain ⟨o, es, ep, tb, slot, ho, hs, ⟨oi, hoi, hci, hdi⟩, hle, h0, h1⟩ := st
    obtain ⟨hc, hd, hv, hl, hf, hled⟩ := id hs
    obtain rfl : i = 0 := by omega
    obtain rfl := h0 rfl
    obtain ⟨x, rfl⟩ : ∃ x, vs = [x] := by
      match vs, hl, hlt with
      | [x], _, _ => exact ⟨x, rfl⟩
    have hsz : es.size = 1 := by rw [← Array.length_toList, ← List.length_map (f := (·.2)), hv]; rfl
    have hT : s.TypeIs (.ref I) "set_iterator" := ⟨oi, hoi, hci⟩
    unfold pyNext
    refine wpAny_bind (wpAny_attempt (wpAny_callSpecial?_slot (name := Str.ofString "__next__") hT sF_slot_next (wpAny_call_entry sF_slot_next hT sF_entry_next ?_ (sF_args_next _))))
    unfold Builtin.«set_iterator.__next__»
    refine wpAny_bind (m := slotArgs "__next__" 0 _) (wpAny_pure ?_)
    refine wpAny_bind (wpAny_fieldsOf hoi hdi ?_)
    show wpAny _ _ (setEntries S >>= _) _ _ _
    refine wpAny_bind (wpAny_setEntries_of ho hd hf ?_)
    rw [if_neg (by rw [hsz]; simp)]
    refine wpAny_bind (setNext_item ho hs fun next hn => ?_)
    dsimp only
    refine wpAny_bind (wpAny_setField hoi hdi (by simp) ?_)
    have hoi2 := Heap.get?_update_self (Obj.mapFields (·.setIfInBounds 0 (rawInt (next : Int)))) hoi (Obj.isFreed_of_fields (Obj.data_mapFields hdi _))
    refine wpAny_bind (wpAny_setField hoi2 (Obj.data_mapFields hdi _) (by simp) ?_)
    have hoi3 := Heap.get?_update_self (Obj.mapFields (·.setIfInBounds 1 (rawInt (((0 : Nat) : Int) + 1)))) hoi2 (Obj.isFreed_of_fields (Obj.data_mapFields (Obj.data_mapFields hdi _) _))
    have sb := (Heap.SameBut.update s.heap I (Obj.mapFields (·.setIfInBounds 0 (rawInt (next : Int))))).trans (Heap.SameBut.update _ I (Obj.mapFields (·.setIfInBounds 1 (rawInt (((0 : Nat) : Int) + 1)))))
    refine wpAny_pure ⟨_, rfl, wpAny_pure ?_⟩
    refine hQ x _ s.toks rfl ⟨o, es, ep, tb, next, sb.extBut S o hne ho, hs, ⟨_, hoi3, ?_, ?_⟩, by simp, fun z => absurd z (by simp), fun hb _ => hn hb⟩ fun b o hb e => sb.extBut b o (fun h => hb (by simp [h])) e
    · rw [Obj.cls_mapFields, Obj.cls_mapFields]; exact hci
    · rw [Obj.data_mapFields (Obj.data_mapFields hdi _)]; simp [rawInt]
  done := fun s Q E st hQ => by
    obtain ⟨o, es, ep, tb, slot, ho, hs, ⟨oi, hoi, hci, hdi⟩, hle, h0, h1⟩ := st
    obtain ⟨hc, hd, hv, hl, hf, hled⟩ := id hs
    have hsz : es.size = vs.length := by rw [← Array.length_toList, ← List.length_map (f := (·.2)), hv]
    have hT : s.TypeIs (.ref I) "set_iterator" := ⟨oi, hoi, hci⟩
    unfold pyNext
    refine wpAny_bind (wpAny_attempt (wpAny_callSpecial?_slot (name := Str.ofString "__next__") hT sF_slot_next (wpAny_call_entry sF_slot_next hT sF_entry_next ?_ (sF_args_next _))))
    unfold Builtin.«set_iterator.__next__»
    refine wpAny_bind (m := slotArgs "__next__" 0 _) (wpAny_pure ?_)
    refine wpAny_bind (wpAny_fieldsOf hoi hdi ?_)
    show wpAny _ _ (setEntries S >>= _) _ _ _
    refine wpAny_bind (wpAny_setEntries_of ho hd hf ?_)
    rw [if_neg (by rw [hsz]; simp)]
    refine wpAny_bind (setNext_end ho hs h1 ?_)
    dsimp only
    refine wpAny_bind (wpAny_setField hoi hdi (by simp) ?_)
    show wpAny _ _ (newExc (.type "StopIteration") [] >>= _) _ _ _
    refine wpAny_bind ?_
    simp only [newExc, newTuple]
    refine wpAny_bind (wpAny_newObj_type ?_ (by size_fits))
    refine wpAny_bind (m := firstArgMember _ _) (wpAny_of_eq (a := Value.none) (by first | rfl | (simp only [firstArgMember]; rfl)) ?_)
    refine wpAny_newObj_type ?_ (by size_fits)
    simp only [raiseNew]
    refine wpAny_bind (wpAny_handled ?_)
    rw [show A.in1.handled = none from hh]
    refine wpAny_bind (wpAny_pure (wpAny_throw ?_))
    refine wpAny_bind (wpAny_isInstance (T := "StopIteration") (b := true) ⟨_, Heap.get?_push_size _ rfl, rfl⟩ isSubtype_stop ?_)
    have eb := (((Heap.SameBut.update s.heap I (Obj.mapFields (·.setIfInBounds 2 Value.none))).extBut.push { cls := .type "tuple", data := .seq ([] : List Value).toArray })).push
    exact wpAny_pure (hQ _ s.toks fun b o hb e => eb _ b o (fun h => hb (by simp [h])) e)
  self := fun i s Q E st hQ => by
    obtain ⟨o, es, ep, tb, slot, ho, hs, ⟨oi, hoi, hci, hdi⟩, _⟩ := st
    have hT : s.TypeIs (.ref I) "set_iterator" := ⟨oi, hoi, hci⟩
    refine wpAny_pyIter_slot hT sF_slot_iter (wpAny_call_entry sF_slot_iter hT sF_entry_iter ?_ (sF_args_iter _))
    show wpAny _ _ (ret (.ref I)) _ _ s
    exact wpAny_pure ⟨_, rfl, "set_iterator", _, hT, sF_slot_next.lookup, hQ⟩
end


/-! `list(set)`, `sorted(set)` -/
section
variable {prog : Program} {w : World} {A : Around} {E : Value → Shared → Prop} {s : Shared}
set_option maxHeartbeats 3200000 in
theorem collect_set (hh : A.handled = none) {a : Addr} {o : Obj} {vs : List Value} {es : Array (Int × Value)} {ep : Nat} {tb : SetTable} {Q : List Value → Shared → Prop} (ho : s.heap.get? a = some o) (hs : SetHas w o vs es ep tb)
    (hQ : ∀ h' tk, (∀ b o, s.heap.get? b = some o → h'.get? b = some o) → s.heap.objs.size ≤ h'.objs.size → Q vs { s with heap := h', toks := tk }) : wpAny (model prog w) A (collect (.ref a)) Q E s := by
  obtain ⟨hc, hd, hv, hl, hf, hled⟩ := id hs
  have ha : a < s.heap.objs.size := Heap.lt_size ho
  unfold collect
  refine wpAny_bind (wpAny_runValue (codeAny_builtin PySem.F.entry_proto_collect ?_))
  rw [Around.under_plainId PySem.F.plain_proto_collect _]
  show wpAny _ A.in1 (newList [] >>= fun l => again (.builtin "list.__iadd__" ⟨[l, .ref a], []⟩)) _ _ s
  refine wpAny_bind (wpAny_newObj_type ?_)
  refine wpAny_pure ⟨plainId_quiet PySem.F.plain_list_iadd _, codeAny_builtin PySem.F.entry_list_iadd ?_⟩
  rw [Around.under_plainId PySem.F.plain_list_iadd _]
  have hS₁ : (s.heap.push { cls := .type "list", data := .seq ([] : List Value).toArray }).get? s.heap.objs.size = some { cls := .type "list", data := .seq ([] : List Value).toArray } := Heap.get?_push_size _ rfl
  have ho1 : (s.heap.push { cls := .type "list", data := .seq ([] : List Value).toArray }).get? a = some o := Heap.get?_push_of_some _ ho
  show wpAny _ A.in1 (Builtin.List.listExtendWith (.ref s.heap.objs.size) (.ref a) (.ref s.heap.objs.size)) _ _ _
  unfold Builtin.List.listExtendWith
  refine wpAny_bind (wpAny_typeOf (T := "set") ⟨o, ho1, hc⟩ ?_)
  have h1 : Builtin.List.listSameRef (.ref s.heap.objs.size) (.ref a) = false := by simp [Builtin.List.listSameRef, Nat.ne_of_gt ha]
  have h2 : (Value.type "set" == Value.type "list") = false := by decide
  have h3 : (Value.type "set" == Value.type "tuple") = false := by decide
  simp only [h1, h2, h3, Bool.or_false, Bool.false_eq_true, if_false]
  refine wpAny_bind (pyIter_set (s := { s with heap := s.heap.push { cls := .type "list", data := .seq ([] : List Value).toArray } }) ho1 hs ?_)
  generalize hI : (s.heap.push { cls := .type "list", data := .seq ([] : List Value).toArray }).objs.size = I
  have hIs : I = s.heap.objs.size + 1 := by rw [← hI, Heap.size_push]
  have hIS : I ≠ s.heap.objs.size := fun e => Nat.succ_ne_self _ (hIs.symm.trans e)
  dsimp only
  generalize hH : (s.heap.push { cls := .type "list", data := .seq ([] : List Value).toArray }).push { cls := .type "set_iterator", data := .fields #[.int 0 0, .int 0 0, .ref a, .int vs.length 0, .int ep 0] } = h2'
  have hoI : h2'.get? I = some { cls := .type "set_iterator", data := .fields #[.int 0 0, .int 0 0, .ref a, .int vs.length 0, .int ep 0] } := by rw [← hH, ← hI]; exact Heap.get?_push_size _ rfl
  have hoa : h2'.get? a = some o := by rw [← hH]; exact Heap.get?_push_of_some _ ho1
  have hoS : h2'.get? s.heap.objs.size = some { cls := .type "list", data := .seq ([] : List Value).toArray } := by rw [← hH]; exact Heap.get?_push_of_some _ hS₁
  have hkeep : ∀ b o, s.heap.get? b = some o → h2'.get? b = some o := fun b o e => by rw [← hH]; exact Heap.get?_push_of_some _ (Heap.get?_push_of_some _ e)
  have hT : Shared.TypeIs { s with heap := h2' } (.ref I) "set_iterator" := ⟨_, hoI, rfl⟩
  refine wpAny_bind (wpAny_holding ?_)
  unfold Builtin.List.listLengthHint
  have hTa : Shared.TypeIs { s with heap := h2' } (.ref a) "set" := ⟨o, hoa, hc⟩
  refine wpAny_bind (wpAny_specialOf hTa PySem.F.slot_set_len.lookup ?_)
  (generalize hid : ("set.__len__" : String) = id0; (fail_if_success (clear hid id0)); wp_delta; rw [show splitId id0 = some ("set", "__len__") from by subst hid; decide +kernel]; subst hid)
  refine wpAny_bind (wpAny_isInstance (b := true) hTa (by rw [isSubtype_type]; kernel_rfl) ?_)
  refine wpAny_bind (wpAny_typeOf hTa ?_)
  refine wpAny_pure ?_
  show wpAny _ A.in1 (rule "list.extend.makes-room" >>= fun _ => Builtin.List.listTouch (.ref s.heap.objs.size) >>= fun _ =>
    again (.builtin "list.extend.loop" ⟨[.ref s.heap.objs.size, .ref I, .ref s.heap.objs.size], []⟩)) _ _ _
  refine wpAny_bind (wpAny_rule ?_)
  refine wpAny_bind ?_
  show wpAny _ A.in1 (updateSeq s.heap.objs.size (·.push .none) >>= fun _ => updateSeq s.heap.objs.size (·.pop)) _ _ _
  refine wpAny_bind (wpAny_updateSeq hoS rfl ?_)
  have hS₂ := Heap.get?_update_self (Obj.mapSeq (·.push Value.none)) hoS rfl
  refine wpAny_updateSeq hS₂ rfl ?_
  have hS₃ := Heap.get?_update_self (Obj.mapSeq (·.pop)) hS₂ rfl
  have oth : ∀ b o, b ≠ s.heap.objs.size → h2'.get? b = some o → ((h2'.update s.heap.objs.size (Obj.mapSeq (·.push Value.none))).update s.heap.objs.size (Obj.mapSeq (·.pop))).get? b = some o :=
    fun b o hb e => (Heap.get?_update_other _ _ (Ne.symm hb)).trans ((Heap.get?_update_other _ _ (Ne.symm hb)).trans e)
  have hSf : s.heap.objs.size ∉ [I, a] := by
    simp only [List.mem_cons, List.mem_singleton, List.not_mem_nil, or_false, not_or]
    exact ⟨hIS.symm, Nat.ne_of_gt ha⟩
  have haI : a ≠ I := Nat.ne_of_lt (Nat.lt_of_lt_of_eq (Nat.lt_succ_of_lt ha) hIs.symm)
  refine wpAny_pure ⟨plainId_quiet PySem.F.plain_extend_loop _, codeAny_extend_loopS (set_walks (A := A.in1) hh I a haI vs).toS (by rw [sizeLine_eq]; omega) _ hSf _ vs.length 0 _ _ _ rfl (Nat.zero_le _)
    ⟨o, es, ep, tb, 0, oth a o (Nat.ne_of_lt ha) hoa, hs, ⟨_, oth I _ hIS hoI, rfl, rfl⟩, Nat.zero_le _, fun _ => rfl, fun _ z => absurd z (by decide)⟩ hS₃ (ItemsOf.nil _) fun s' acc' c' hm hS' hacc => ?_⟩
  obtain ⟨h', g', d', tk', os'⟩ := s'
  have eg : g' = s.gens := hm.gens
  have ed : d' = s.drawn := hm.drawn
  have eo : os' = s.os := hm.os
  subst eg; subst ed; subst eo
  show wpAny _ A (load s.heap.objs.size >>= _) _ _ _
  refine wpAny_bind (wpAny_load hS' ?_)
  have e : acc'.toList = vs := List.ext_getElem? fun i => by
    rw [Array.getElem?_toList]
    by_cases hi : i < vs.length
    · have hi2 : i < acc'.size := by rw [hacc.1]; exact hi
      rw [Array.getElem?_eq_getElem hi2]
      exact (hacc.2 i _ (Array.getElem?_eq_getElem hi2)).symm
    · rw [Array.getElem?_eq_none (by rw [hacc.1]; omega), List.getElem?_eq_none (by omega)]
  refine wpAny_pure ?_
  show Q acc'.toList _
  rw [e]
  refine hQ h' tk' (fun b o e => ?_) ?_
  · have hb : b < s.heap.objs.size := Heap.lt_size e
    refine hm.heap b o ?_ (oth b o (Nat.ne_of_lt hb) (hkeep b o e))
    simp only [List.mem_cons, List.mem_singleton, List.not_mem_nil, or_false, not_or]
    exact ⟨Nat.ne_of_lt hb, Nat.ne_of_lt (Nat.lt_of_lt_of_eq (Nat.lt_succ_of_lt hb) hIs.symm)⟩
  · exact Nat.le_of_lt (Heap.lt_size hS')
end
section
variable {prog : Program} {w : World} {A : Around} {E : Value → Shared → Prop} {s : Shared} {h₀ : Heap} {L a : Addr} {m : Str → Option Value} {news : List (Addr × Obj)} {vs : List Value}
theorem set_sorted (hh : A.handled = none) {o : Obj} {es : Array (Int × Value)} {ep : Nat} {tb : SetTable} {Q : Value → Shared → Prop} (F : Fr h₀ L s.heap m) (N : News h₀ L s.heap news) (ho : s.heap.get? a = some o) (hs : SetHas w o vs es ep tb)
    (h : ∀ D h' tk c, s.heap.objs.size ≤ D → Fr h₀ L h' m → News h₀ L h' ((D, seqObj "list" vs.toArray c) :: news) → Q (.ref D) { s with heap := h', toks := tk }) :
    wpAny (model prog w) A (call (.builtin "sorted") [.ref a]) Q E s := by
  have h2 : vs.length < 2 := Nat.lt_succ_of_le hs.2.2.2.1
  refine Calls.call_function_entry kind_sorted plain_sorted entry_sorted (args_sorted1 _) ?_
  unfold Builtin.«sorted»
  refine wpAny_bind (m := checkCount "sorted" 1 1 _) (wpAny_pure ?_)
  refine wpAny_bind (collect_set (A := A.in1) hh ho hs fun h1 tk1 keep1 hsz1 => ?_)
  refine wpAny_bind (wpAny_newList ?_ (by rw [line_is]; omega))
  have keep : ∀ b o, s.heap.get? b = some o → (h1.push (seqObj "list" vs.toArray 0)).get? b = some o := fun b o q => Heap.get?_push_of_some _ (keep1 b o q)
  have hL : L < s.heap.objs.size := F.ns.lt
  have hoL : (h1.push (seqObj "list" vs.toArray 0)).get? h1.objs.size = some (seqObj "list" vs.toArray 0) := Heap.get?_push_size _ rfl
  refine wpAny_bind (wpAny_holding (wpAny_call_entry slot_list_sort ⟨_, hoL, rfl⟩ entry_list_sort ?body (args_list_sort _)))
  case body =>
    refine small_list_sort (s := { s with heap := h1.push (seqObj "list" vs.toArray 0), toks := tk1 })
      (F.kept keep) (N.grown keep) hoL (Nat.ne_of_gt (Nat.lt_of_lt_of_le hL hsz1)) (Heap.get?_none_of_le (Nat.le_trans F.above (Nat.le_trans (Nat.le_of_lt hL) hsz1)))
      (fun p hp => Nat.ne_of_lt (Nat.lt_of_lt_of_le (Heap.lt_size (N p hp).1) hsz1)) h2 fun h' c' F' N' => ?_
    exact ⟨_, rfl, wpAny_pure ⟨_, rfl, h _ _ tk1 c' hsz1 F' N'⟩⟩
end
section
variable {Γ : Gm} {A : Around} {env : Env} {outer : List Env} {h₀ : Heap} {L : Addr} {h h' : Heap} {l l' : Loc} {nw : Led} {t : Nat} {E : Value → Shared → Prop} {pos : Pos}
theorem xset (c : Fx Γ A env outer h₀ L h l nw) {a : Addr} {vs : List Value} {x : Str} {Q : Value → Shared → Prop} (m : IsW "list" nw a vs) (hv : ∀ v ∈ vs, ∃ u, v = Value.str x u)
    (q : ∀ h' t' D o, SetI Γ.w x vs.length o → Fx Γ A env outer h₀ L h' l ((D, o) :: nw) → (∀ p ∈ nw, p.1 < D) → Q (.ref D) (S Γ h' t')) :
    wpAny (model PG Γ.w) A (call (.type "set") [.ref a]) Q E (S Γ h t) := by
  refine set_of_texts (s := S Γ h t) (x := x) c.hh (m.isList c) (fun i v hi => hv v (List.mem_of_getElem? (by simpa using hi))) fun h' tk o ho hS keep => ?_
  rw [List.size_toArray] at hS
  have hL : L < h.objs.size := c.F.ns.lt
  have keep' : ∀ b o, h.get? b = some o → h'.get? b = some o := fun b o e => keep b o (Heap.lt_size e) e
  refine q h' tk h.objs.size o hS (c.ofNew (c.F.kept keep') (fun p hp => ?_) (Nat.le_refl _)) (fun p hp => c.lt hp)
  rcases List.mem_cons.mp hp with rfl | hp
  · exact ⟨ho, Nat.ne_of_gt hL, Heap.get?_none_of_le (Nat.le_trans c.F.above (Nat.le_of_lt hL))⟩
  · exact c.N.grown keep' p hp
theorem xsortS (c : Fx Γ A env outer h₀ L h l nw) {a : Addr} {x : Str} {n : Nat} {o : Obj} {Q : Value → Shared → Prop} (m : (a, o) ∈ nw) (hS : SetI Γ.w x n o)
    (q : ∀ h' t' D vs, ((n = 0 ∧ vs = []) ∨ (n ≠ 0 ∧ ∃ u, vs = [Value.str x u])) → ∀ e, Fx Γ A env outer h₀ L h' l ((D, seqO "list" vs e) :: nw) → (∀ p ∈ nw, p.1 < D) → Q (.ref D) (S Γ h' t')) :
    wpAny (model PG Γ.w) A (call (.builtin "sorted") [.ref a]) Q E (S Γ h t) := by
  obtain ⟨vs, es, ep, tb, hs, hv⟩ := hS.has
  refine set_sorted (s := S Γ h t) c.hh c.F c.N (c.get m) hs fun D h' tk e hD F' N' => ?_
  exact q h' tk D vs hv e (c.ofNew F' N' hD) fun p hp => Nat.lt_of_lt_of_le (c.lt hp) hD
/-- `any` of a list of falses -/
theorem xanyF (c : Fx Γ A env outer h₀ L h l nw) {a : Addr} {vs : List Value} {Q : Value → Shared → Prop} (m : IsW "list" nw a vs) (hv : ∀ v ∈ vs, v = Value.bool false)
    (q : ∀ h' t' nw', Fx Γ A env outer h₀ L h' l nw' → Keep (fun _ => False) nw nw' → Q (.bool false) (S Γ h' t')) :
    wpAny (model PG Γ.w) A (call (.builtin "any") [.ref a]) Q E (S Γ h t) := by
  refine PySem.call_any_walk ?_
  obtain ⟨_, o, n, mo, _⟩ := id m
  have hlt : a < h.objs.size := c.lt mo
  have hl := m.isList c
  refine wpAny_pyIter_list (s := S Γ h t) hl ?_
  have c1 := c.push { cls := .type "list_iterator", data := .fields #[.ref a, .int 0 0] }
  refine ⟨h.objs.size, _, _, _, _, _, fun _ => false, rfl, Walks.list (A := A.in1) c.hh h.objs.size a (Nat.ne_of_lt hlt) vs.toArray, ⟨⟨_, c1.get (.head _), rfl, rfl⟩, hl.push _⟩, fun i v s Q E hP hQ => ?_, fun h' tk hk => ?_⟩
  · have : v ∈ vs := List.mem_of_getElem? (by simpa using hP)
    rw [hv v this]
    exact wpAny_truthy_bool hQ
  · rw [show (List.range vs.toArray.size).any (fun _ => false) = false by simp]
    refine q h' tk nw ?_ (fun p hp _ => hp)
    have keep' : ∀ b o, h.get? b = some o → h'.get? b = some o := fun b o e => hk b o (by simp; exact Nat.ne_of_lt (Heap.lt_size e)) (Heap.get?_push_of_some _ e)
    exact { c with F := c.F.kept keep', N := c.N.grown keep' }
end


/-! the rows that were kept: pure -/
def rowOf (g : Gr) (j : Nat) (kvs : List (Int × Value)) : List (Int × Int) := kvs.map fun p => (p.1, fE g.pl g.tx j p.1.toNat)
theorem rowOf_perm {X : List Addr} {nw : Led} {g : Gr} {M : Memo} {j : Nat} {kvs : List (Int × Value)} (h : RowKv X nw g M M0 j kvs) (nd : (kvs.map (·.1)).Nodup) : (rowOf g j kvs).Perm (dueRow g M j) := by
  have h1 : (rowOf g j kvs).Nodup := by
    unfold rowOf List.Nodup
    rw [List.pairwise_map]
    exact (List.pairwise_map.mp nd).imp fun h e => h (congrArg (fun z : Int × Int => z.1) e)
  have h2 : (dueRow g M j).Nodup := by
    unfold dueRow List.Nodup
    rw [List.pairwise_map]
    exact ((List.nodup_range (n := g.tx.length + 1)).filter _).imp fun h e => h (Int.ofNat.inj (congrArg (fun z : Int × Int => z.1) e))
  refine (List.perm_ext_iff_of_nodup h1 h2).mpr fun x => ?_
  unfold rowOf dueRow
  rw [List.mem_map, List.mem_map]
  constructor
  · rintro ⟨⟨q, v⟩, hm, rfl⟩
    obtain ⟨p, rfl, hp, hv⟩ := h.1 q v hm
    refine ⟨p, List.mem_filter.mpr ⟨List.mem_range.mpr (by omega), ?_⟩, by simp⟩
    rcases hv with ⟨e, _⟩ | ⟨e, _⟩
    · exact e
    · cases e
  · rintro ⟨p, hm, rfl⟩
    obtain ⟨v, hv⟩ := h.2 p (.inl (List.mem_filter.mp hm).2)
    exact ⟨_, hv, by simp⟩
theorem RowKv.item {X : List Addr} {nw : Led} {g : Gr} {M : Memo} {j i : Nat} {kvs : List (Int × Value)} {q : Int} {x : Value} (h : RowKv X nw g M M0 j kvs) (hi : kvs[i]? = some (q, x)) :
    ∃ (p : Nat) (v : Value), q = (p : Int) ∧ p ≤ g.tx.length ∧ M j p = true ∧ valueAt kvs q = some v ∧ ResAt X nw g.rs g.tx (ev g.pl g.tx j p) v := by
  obtain ⟨p, rfl, hp, hv⟩ := h.1 q x (List.mem_of_getElem? hi)
  have hM : M j p = true := by
    rcases hv with ⟨e, _⟩ | ⟨e, _⟩
    · exact e
    · cases e
  obtain ⟨v, h1, h2⟩ := h.tells rfl hM
  exact ⟨p, v, rfl, hp, hM, h1, h2⟩
theorem rowOf_snoc {g : Gr} {j i : Nat} {kvs : List (Int × Value)} {q : Int} {x : Value} (hi : kvs[i]? = some (q, x)) : rowOf g j (kvs.take (i + 1)) = rowOf g j (kvs.take i) ++ [(q, fE g.pl g.tx j q.toNat)] := by
  unfold rowOf
  rw [List.take_add_one, hi]
  simp
theorem ValIt.kd {Γ : Gm} {I a : Addr} {kvs : List (Int × Value)} {ep i : Nat} {nw nw' : Led} {b : Addr} {o : Obj} (it : ValIt Γ I a kvs ep i nw) (nd : (nw.map (·.1)).Nodup) (mb : (b, o) ∈ nw) (hn : notDict o) (hI : I ≠ b) (k : Keep (· = b) nw nw') : ValIt Γ I a kvs ep i nw' := by
  obtain ⟨⟨oi, m, r⟩, w⟩ := it
  obtain ⟨od, es, md, _, hd, _⟩ := id w
  refine ⟨⟨oi, k _ m hI, r⟩, w.keep k fun e => ?_⟩
  have e : a = b := e
  subst e
  rw [uniq_nd nd md mb] at hn
  exact hn _ _ hd
theorem ValIt.kept {Γ : Gm} {I a : Addr} {kvs : List (Int × Value)} {ep i : Nat} {nw nw' : Led} (it : ValIt Γ I a kvs ep i nw) (k : Keep (fun _ => False) nw nw') : ValIt Γ I a kvs ep i nw' := by
  obtain ⟨⟨oi, m, r⟩, w⟩ := it
  exact ⟨⟨oi, k _ m id, r⟩, w.keep k id⟩
/-- the loop's state -/
structure Lz (Γ : Gm) (nw : Led) (L : Addr) (cv : Loc) (du td : Addr) (ra na ca sa : Addr) (g : Gr) (cs : CS) (oi : Oi) (M : Memo) (rs : List (List (Int × Int))) (I : Addr) (ep i : Nat) : Prop where
  y : Ly Γ nw L cv [td, du] ra na ca sa g cs oi M
  due : RowsAt [td, du] nw ((List.range g.n).map (dueRow g M)) du
  told : RowsAt [td, du] nw rs td
  it : ValIt Γ I ca (cacheKvs cs.rows) ep i nw
section
variable {Γ : Gm} {nw nw' : Led} {L : Addr} {cv cv' : Loc} {du td ra na ca sa : Addr} {g : Gr} {cs : CS} {oi : Oi} {M : Memo} {rs : List (List (Int × Int))} {I : Addr} {ep i : Nat}
theorem Lz.kept (z : Lz Γ nw L cv du td ra na ca sa g cs oi M rs I ep i) (k : Keep (fun _ => False) nw nw') : Lz Γ nw' L cv du td ra na ca sa g cs oi M rs I ep i :=
  ⟨z.y.kept k, z.due.kept k, z.told.kept k, z.it.kept k⟩
theorem Lz.odd (z : Lz Γ nw L cv du td ra na ca sa g cs oi M rs I ep i) (nd : (nw.map (·.1)).Nodup) {b : Addr} {o : Obj} (mb : (b, o) ∈ nw) (ho : odd o) (hI : I ≠ b) (k : Keep (· = b) nw nw') (cl : CellsAt nw' (lawC L) cv') : Lz Γ nw' L cv' du td ra na ca sa g cs oi M rs I ep i :=
  ⟨z.y.at nd mb ho.2.1 ho.2.2 (.inl ho.1) k cl, z.due.odd nd mb ho k, z.told.odd nd mb ho k, z.it.kd nd mb ho.2.1 hI k⟩
end


noncomputable def toldB (w : World) : List Stmt := match lawAt w 14 with | .For _ _ b _ _ => b | _ => []
noncomputable def toldAt (w : World) (i : Nat) : Stmt := (toldB w).getD i default
section
variable {Γ : Gm} {A : Around} {env : Env} {h₀ : Heap} {L : Addr} {h h' : Heap} {l l' : Loc} {nw : Led} {t : Nat} {pos : Pos} {fa : Addr} {cd : Value} {ra na sa ca du td : Addr} {g : Gr} {cs : CS} {oi : Oi} {M : Memo} {Q : Flow → Shared → Prop} {rest : List Stmt} {la : Addr} {w1 w2 w3 w4 w5 : Option Value}
set_option maxRecDepth 100000 in
set_option maxHeartbeats 8000000 in
theorem told_0 {ow kv nv pv stv : Option Value} {tt : Tok} {rs : List (List (Int × Int))} {I : Addr} {ep i j : Nat} {kr : Addr} {kvs : List (Int × Value)} (he : env = lawE Γ.w L fa cd)
    (c : Fx Γ A env [] h₀ L h (lawL la (some (.ref ra)) w1 w2 (some (.ref ca)) w3 w4 w5 (some (.ref td))) nw) (r : Room A 60)
    (z : Lz Γ nw L (lawV ow (some (.ref kr)) (some (.ref du)) (some (.ref sa)) (some (.str g.tx tt)) kv nv pv stv) du td ra na ca sa g cs oi M rs I ep i)
    (hk : IsD Γ nw kr kvs) (hr : RowKv [td, du] nw g M M0 j kvs) (h1 : 1 ≤ kvs.length) (hrs : rs.length < 100) (hdt : du ≠ td)
    (q : ∀ h' t' nw', Fx Γ A env [] h₀ L h' (lawL la (some (.ref ra)) w1 w2 (some (.ref ca)) w3 w4 w5 (some (.ref td))) nw' →
      Lz Γ nw' L (lawV ow (some (.ref kr)) (some (.ref du)) (some (.ref sa)) (some (.str g.tx tt)) kv nv pv stv) du td ra na ca sa g cs oi M (rs ++ [dueRow g M j]) I ep i →
      IsD Γ nw' kr kvs → RowKv [td, du] nw' g M M0 j kvs → wpAny (model PG Γ.w) A (execs rest env) Q (fun _ _ => False) (S Γ h' t')) :
    wpAny (model PG Γ.w) A (execs (toldAt Γ.w 0 :: rest) env) Q (fun _ _ => False) (S Γ h t) := by
  have hg := z.y.ok
  have h7 := hg.tx7
  have h8 := hg.n8
  have cl := z.y.cells
  obtain ⟨vt, mt, et, qt⟩ := id z.told
  have hdue := z.due
  refine wpAny_execs_cons ?_
  show wpAny _ _ (exec (Stmt.Expr _ _) _) _ _ _
  walk_at "m:go"
  refine xappendM c mt ?_
  dsimp only
  walk_at "m:go"
  have hnd : (kvs.map (·.1)).Nodup := let ⟨_, _, _, _, _, _, _, hn⟩ := hk; hn.2
  have hlen := hr.len hnd
  refine xListComp (cl := [("kept", L + 8)]) (by rw [he]; rfl) rfl (by decide) ?_
  walk_at "m:go"
  refine xiter_keys c hk fun I2 h5 o5 ep5 c5 l5 X5 it5 => ?_
  refine xcompD (· < I2) (· = kr) (fun C D n2 ys n => Keep (fun _ => False) nw (lo I2 n) ∧ PrsAt [I2, C, D] n (rowOf g j (kvs.take n2)) ys) X5 c5 (by decide) rfl (by rfl) (self_keys it5) (fun b hb => .inr hb) (Nat.lt_irrefl _) ⟨_, .head _⟩
    (fun b hb => by rw [show b = kr from hb]; obtain ⟨o, m, _⟩ := id hk; exact ⟨o, .tail _ m⟩) (by omega)
    itm_keys itk_keys it5 (fun C D n2 ys n1 n3 b hb hb2 k ⟨v1, v2⟩ => ⟨v1.trans (lo_new hb k), v2.keep k fun a e => by rw [show a = b from e]; rcases hb2 with rfl | rfl | rfl <;> simp⟩) (by intro C D n2 k; exact ⟨lo_all l5 (Keep.cons.trans k), rfl⟩) ?_ ?_
  · rintro n2 v ys h13 nw13 t13 C D hj ⟨key, x, tj, hx, rfl⟩ hy c13 b13 oC hm ⟨v1, v2⟩
    obtain ⟨p, w, rfl, hp, hM, hv, res⟩ := (hr.kd (Kd.ofKeep (X := []) (v1.trans lo_sub)) fun _ _ _ _ h => nomatch h).item hx
    have z13 := z.kept (v1.trans lo_sub)
    have hk13 := hk.keep (v1.trans lo_sub) id
    have cl13 := z13.y.cells
    have fin13 : ∀ {h18 t18} T2 o (e : Int) u, fE g.pl g.tx j p = e → Fx Γ A env [] h₀ L h18 (lawL la (some (.ref ra)) w1 w2 (some (.ref ca)) w3 w4 w5 (some (.ref td))) ((T2, o) :: nw13) → IsQ "tuple" ((T2, o) :: nw13) T2 [.int (p : Int) tj, .int e u] →
        CNext Γ A env [] h₀ L (lawL la (some (.ref ra)) w1 w2 (some (.ref ca)) w3 w4 w5 (some (.ref td))) (· < I2) (· = kr) (fun n2 ys n => Keep (fun _ => False) nw (lo I2 n) ∧ PrsAt [I2, C, D] n (rowOf g j (kvs.take n2)) ys) nw13 (n2 + 1) (ys ++ [.ref T2]) (S Γ h18 t18) := by
      intro h18 t18 T2 o e u hfe c18 m18
      have hT : T2 ∉ [I2, C, D] := fun z => by
        have nd := c18.nd
        rw [List.map_cons, List.nodup_cons] at nd
        obtain ⟨o, m⟩ := hm T2 (by simpa using z)
        exact nd.1 (List.mem_map_of_mem (f := (·.1)) m)
      refine ⟨_, _, _, fun _ => False, rfl, c18, Keep.cons, fun _ z => z.elim, lo_all l5 ((v1.trans lo_sub).trans Keep.cons), ?_⟩
      · rw [rowOf_snoc hx, Int.toNat_natCast, hfe]
        exact (v2.keep (W := fun _ => False) Keep.cons fun _ z => z.elim).snoc m18 hT
    refine wpAny_tests_nil ?_
    rw [if_pos rfl]
    walk_at "m:go"
    refine xditem c13 hk13 hv (fun t14 => ?_) (by with_unfolding_all rfl) (by intro _; with_unfolding_all rfl)
    cases hev : ev g.pl g.tx j p with
    | none =>
      rw [hev] at res
      obtain rfl : w = .none := res
      walk_at "m:go"
      rw [if_pos (by rfl)]
      walk_at "m:go"
      rename_i h18 T2 _ _ c18 m18
      exact fin13 T2 _ (-1) _ (by show endI (ev g.pl g.tx j p) = _; rw [hev]; rfl) c18 m18
    | some tr =>
      rw [hev] at res
      obtain ⟨na2, rfl, hn⟩ := res
      walk_at "m:go"
      rw [if_neg (by exact Bool.false_ne_true)]
      walk_at "m:go"
      refine xditem c13 hk13 hv (fun t15 => ?_) (by with_unfolding_all rfl) (by intro _; with_unfolding_all rfl)
      walk_at "m:go"
      refine xnodeEnd c13 hn fun t16 u16 => ?_
      walk_at "m:go"
      rename_i h18 T2 _ _ c18 m18
      exact fin13 T2 _ tr.e _ (by show endI (ev g.pl g.tx j p) = _; rw [hev]; rfl) c18 m18
  · rintro ys h13 nw13 t13 C D c13 b13 m13 oC oD hDC ⟨v1, v2⟩
    refine comp_end c13 b13 fun h16 c16 => ?_
    have k16 : Keep (fun _ => False) nw (nw13.filter fun p => p.1 != C) := (v1.trans (lo_new oC keep_drop)).trans lo_sub
    have m16 := m13.keep keep_drop hDC
    have v16 := (v2.keep (keep_drop (I := C)) fun x z => by rw [show x = C from z]; simp).less (Y := []) fun _ h => nomatch h
    have e16 := v16.len
    rw [List.take_length] at v16 e16
    have e17 : (rowOf g j kvs).length = kvs.length := List.length_map _
    walk_at "m:go"
    refine xsortP c16 m16.w v16 (by omega) (by omega) m16.2.choose_spec fun h20 t20 D2 vs' qs nw20 hp hs hD2 c20 k20 m20 p20 => ?_
    obtain rfl : qs = dueRow g M j := sorted_uniq pairLt_anti (hp.trans (rowOf_perm hr hnd)) hs (dueRow_sorted g M j)
    have z20 := z.kept (k16.trans k20)
    obtain ⟨vt20, mt20, et20, qt20⟩ := id z20.told
    have hD : D2 ∉ [td, du] := fun z => by
      have h1 : ∀ b, b = td ∨ b = du → ∃ o, (b, o) ∈ nw13.filter fun p => p.1 != C := fun b hb => by
        rcases hb with rfl | rfl
        · obtain ⟨_, n, m⟩ := mt
          exact ⟨_, k16 _ m id⟩
        · obtain ⟨_, ⟨_, n, m⟩, _⟩ := hdue
          exact ⟨_, k16 _ m id⟩
      obtain ⟨o, m⟩ := h1 D2 (by simpa using z)
      exact absurd (hD2 _ m) (Nat.lt_irrefl _)
    walk_at "m:go"
    refine xappend c20 mt20 (by rw [et20]; omega) fun h21 o21 _ c21 m21 => ?_
    have k21 : Keep (· = td) nw20 (put nw20 td o21) := Keep.put
    have s21 := z20.y.at c20.nd mt20.2.choose_spec (fun es ep e => by cases e) soft_seqL (.inr (.head _)) k21 (z20.y.cells.keepO k21 fun c o v m d e => by
      have e : c = td := e
      subst e
      obtain ⟨_, n, m'⟩ := mt20
      rw [uniq_nd c20.nd m' m] at d
      cases d)
    have d21 : RowsAt [td, du] (put nw20 td o21) ((List.range g.n).map (dueRow g M)) du := z20.due.keep (mt20.soft c20.nd) k21 (fun b xs n hb w => by rw [show b = td from w]; exact .head _) hdt
    have t21 := RowsAt.append mt20 et20 qt20 c20.nd (r := dueRow g M j) (x := .ref D2) ⟨D2, vs', rfl, m20, hD, p20⟩ (.head _) k21 m21
    have hItd : I ≠ td := fun e => by
      obtain ⟨⟨oi, m, hc, hd⟩, _⟩ := z20.it
      obtain ⟨_, n, m'⟩ := mt20
      rw [e] at m
      rw [uniq_nd c20.nd m' m] at hd
      cases hd
    have i21 := z20.it.kd c20.nd mt20.2.choose_spec (fun es ep e => by cases e) hItd k21
    have hk20 := hk.keep (k16.trans k20) id
    have hkr : kr ≠ td := fun e => by
      obtain ⟨o, m, es, ep, _, d, _⟩ := hk20
      obtain ⟨_, n, m'⟩ := mt20
      rw [e] at m
      rw [uniq_nd c20.nd m' m] at d
      cases d
    have kd21 : Kd [td] nw20 (put nw20 td o21) := Kd.drop c20.nd mt20.2.choose_spec (fun es ep e => by cases e) soft_seqL (.head _) k21
    walk_at "m:go"
    refine q _ _ _ c21 ⟨s21, d21, t21, i21⟩ (hk20.keep k21 hkr) ((hr.kd (Kd.ofKeep (X := []) (k16.trans k20)) fun _ _ _ _ h => nomatch h).kd kd21 fun b xs n hb hY => ?_)
    rw [List.mem_singleton.mp hY]
    exact .head _
end


section
variable {Γ : Gm} {A : Around} {env : Env} {h₀ : Heap} {L : Addr} {h h' : Heap} {l l' : Loc} {nw : Led} {t : Nat} {pos : Pos} {fa : Addr} {cd : Value} {ra na sa ca du td : Addr} {g : Gr} {cs : CS} {oi : Oi} {M : Memo} {Q : Flow → Shared → Prop} {rest : List Stmt} {la : Addr} {w1 w2 w3 w4 w5 : Option Value}
set_option maxRecDepth 100000 in
set_option maxHeartbeats 8000000 in
theorem told_1 {ow kv nv pv stv : Option Value} {tt : Tok} {rs : List (List (Int × Int))} {I : Addr} {ep i j : Nat} {kr : Addr} {kvs : List (Int × Value)} (he : env = lawE Γ.w L fa cd)
    (c : Fx Γ A env [] h₀ L h (lawL la (some (.ref ra)) w1 w2 (some (.ref ca)) w3 w4 w5 (some (.ref td))) nw) (r : Room A 60)
    (z : Lz Γ nw L (lawV ow (some (.ref kr)) (some (.ref du)) (some (.ref sa)) (some (.str g.tx tt)) kv nv pv stv) du td ra na ca sa g cs oi M rs I ep i)
    (hk : IsD Γ nw kr kvs) (hr : RowKv [td, du] nw g M M0 j kvs) (hj : j < g.n) (hIc : ∀ b ∈ hotC L, I ≠ b)
    (q : ∀ h' t' nw' oa vo, Fx Γ A env [] h₀ L h' (lawL la (some (.ref ra)) w1 w2 (some (.ref ca)) w3 w4 w5 (some (.ref td))) nw' →
      Lz Γ nw' L (lawV (some (.ref oa)) (some (.ref kr)) (some (.ref du)) (some (.ref sa)) (some (.str g.tx tt)) kv nv pv stv) du td ra na ca sa g cs oi M rs I ep i →
      IsD Γ nw' kr kvs → RowKv [td, du] nw' g M M0 j kvs → IsQ "list" nw' oa vo → (vo = [] ∨ ∃ u, vo = [.str (g.nm j) u]) → wpAny (model PG Γ.w) A (execs rest env) Q (fun _ _ => False) (S Γ h' t')) :
    wpAny (model PG Γ.w) A (execs (toldAt Γ.w 1 :: rest) env) Q (fun _ _ => False) (S Γ h t) := by
  have hg := z.y.ok
  have h7 := hg.tx7
  have h8 := hg.n8
  have cl := z.y.cells
  have hnd : (kvs.map (·.1)).Nodup := let ⟨_, _, _, _, _, _, _, hn⟩ := hk; hn.2
  have hlen := hr.len hnd
  refine wpAny_execs_cons ?_
  show wpAny _ _ (exec (Stmt.Assign _ _ _) _) _ _ _
  walk_at "m:go"
  refine xListComp (cl := [("kept", L + 8)]) (by rw [he]; rfl) rfl (by decide) ?_
  walk_at "m:go"
  refine xiter_keys c hk fun I2 h5 o5 ep5 c5 l5 X5 it5 => ?_
  refine xcomp (· < I2) (· = kr) (fun n2 ys n => Keep (fun _ => False) nw (lo I2 n) ∧ ∀ v ∈ ys, ∃ u, v = Value.str (g.nm j) u) X5 c5 (by decide) rfl (by rfl) (self_keys it5) (fun b hb => .inr hb) (Nat.lt_irrefl _) ⟨_, .head _⟩
    (fun b hb => by rw [show b = kr from hb]; obtain ⟨o, m, _⟩ := id hk; exact ⟨o, .tail _ m⟩) (by omega)
    itk_keys it5 (fun n2 ys n1 n3 b hb k ⟨v1, v2⟩ => ⟨v1.trans (lo_new hb k), v2⟩) (by intro n2 k; refine ⟨lo_all l5 (Keep.cons.trans k), ?_⟩; intro v hv; cases hv) ?_ ?_
  · rintro n2 v ys h13 nw13 t13 C hj2 ⟨key, x, tj, hx, rfl⟩ hy c13 b13 oC ⟨v1, v2⟩
    have hr13 := (hr.kd (Kd.ofKeep (X := []) (v1.trans lo_sub)) fun _ _ _ _ h => nomatch h)
    obtain ⟨p, w, rfl, hp, hM, hv, res⟩ := hr13.item hx
    have z13 := z.kept (v1.trans lo_sub)
    have hk13 := hk.keep (v1.trans lo_sub) id
    have cl13 := z13.y.cells
    refine wpAny_tests_one ?_
    walk_at "m:go"
    refine xditem c13 hk13 hv (fun t14 => ?_) (by with_unfolding_all rfl) (by intro _; with_unfolding_all rfl)
    cases hev : ev g.pl g.tx j p with
    | none =>
      rw [hev] at res
      obtain rfl : w = .none := res
      walk_at "m:go"
      rw [if_neg (by simp)]
      exact ⟨_, _, _, fun _ => False, rfl, c13, fun _ m _ => m, fun _ z => z.elim, v1, v2⟩
    | some tr =>
      rw [hev] at res
      obtain ⟨na2, rfl, hn⟩ := res
      obtain ⟨hk1, hs1, _⟩ := ev_ok hg.ok j hj p tr hp hev
      walk_at "m:go"
      rw [if_pos (by rfl)]
      walk_at "m:go"
      refine xditem c13 hk13 hv (fun t15 => ?_) (by with_unfolding_all rfl) (by intro _; with_unfolding_all rfl)
      walk_at "m:go"
      refine xexprName c13 (r.mono (by omega)) hn (by omega) z13.y.gr z13.y.oids fun h16 t16 u16 c16 => ?_
      rw [hk1]
      refine ⟨_, _, _, fun _ => False, rfl, c16, fun _ m _ => m, fun _ z => z.elim, v1, fun v hv => ?_⟩
      rcases List.mem_append.mp hv with hv | hv
      · exact v2 v hv
      · exact ⟨u16, List.mem_singleton.mp hv⟩
  · rintro ys h13 nw13 t13 C D c13 b13 m13 oC oD hDC ⟨v1, v2⟩
    refine comp_end c13 b13 fun h16 c16 => ?_
    have k16 : Keep (fun _ => False) nw (nw13.filter fun p => p.1 != C) := (v1.trans (lo_new oC keep_drop)).trans lo_sub
    have m16 := m13.keep keep_drop hDC
    walk_at "m:go"
    refine xset c16 m16.w v2 fun h17 t17 D7 o7 hS7 c17 l17 => ?_
    walk_at "m:go"
    refine xsortS c17 (.head _) hS7 fun h18 t18 oa vo hvo e18 c18 l18 => ?_
    have k18 : Keep (fun _ => False) nw ((oa, seqO "list" vo e18) :: (D7, o7) :: (nw13.filter fun p => p.1 != C)) := (k16.trans Keep.cons).trans Keep.cons
    have z18 := z.kept k18
    have hk18 := hk.keep k18 id
    have hr18 := (hr.kd (Kd.ofKeep (X := []) k18) fun _ _ _ _ h => nomatch h)
    have m18 : IsQ "list" ((oa, seqO "list" vo e18) :: (D7, o7) :: (nw13.filter fun p => p.1 != C)) oa vo := ⟨by rcases hvo with ⟨_, e⟩ | ⟨_, u, e⟩ <;> rw [e] <;> simp, e18, .head _⟩
    have cl18 := z18.y.cells
    walk_at "m:go"
    rename_i h19 nw19 c19 cl19 ca19 co19 mc19 oc19 hot19 k19 _
    have z19 := z18.odd c18.nd mc19 oc19 (hIc _ hot19) k19 cl19
    have hkr : kr ≠ ca19 := fun e => by
      obtain ⟨o, m, es, ep, _, d, _⟩ := hk18
      rw [e] at m
      rw [uniq_nd c18.nd mc19 m] at d
      exact oc19.2.1 _ _ d
    have kd19 : Kd [ca19] _ nw19 := Kd.drop c18.nd mc19 oc19.2.1 oc19.2.2 (.head _) k19
    refine q _ _ _ oa vo c19 z19 (hk18.keep k19 hkr) (hr18.kd kd19 fun b xs n hb hY => ?_) (m18.keep k19 (oc19.noL c18.nd mc19 m18.w)) (hvo.imp (·.2) (·.2))
    rw [List.mem_singleton.mp hY] at hb
    exact absurd (by rw [uniq_nd c18.nd hb mc19]) (oc19.1 xs.toArray n)
end


section
variable {Γ : Gm} {A : Around} {env : Env} {h₀ : Heap} {L : Addr} {h h' : Heap} {l l' : Loc} {nw : Led} {t : Nat} {pos : Pos} {fa : Addr} {cd : Value} {ra na sa ca du td : Addr} {g : Gr} {cs : CS} {oi : Oi} {M : Memo} {Q : Flow → Shared → Prop} {rest : List Stmt} {la : Addr} {w1 w2 w3 w4 w5 : Option Value}
set_option maxRecDepth 100000 in
set_option maxHeartbeats 8000000 in
theorem told_2 {oa : Addr} {vo : List Value} {kv nv pv stv : Option Value} {tt : Tok} {rs : List (List (Int × Int))} {I : Addr} {ep i j : Nat} {kr : Addr} {kvs : List (Int × Value)} (he : env = lawE Γ.w L fa cd)
    (c : Fx Γ A env [] h₀ L h (lawL la (some (.ref ra)) w1 w2 (some (.ref ca)) w3 w4 w5 (some (.ref td))) nw) (r : Room A 60)
    (z : Lz Γ nw L (lawV (some (.ref oa)) (some (.ref kr)) (some (.ref du)) (some (.ref sa)) (some (.str g.tx tt)) kv nv pv stv) du td ra na ca sa g cs oi M rs I ep i)
    (hk : IsD Γ nw kr kvs) (hr : RowKv [td, du] nw g M M0 j kvs) (hj : j < g.n) (mo : IsQ "list" nw oa vo) (hvo : vo = [] ∨ ∃ u, vo = [.str (g.nm j) u])
    (q : ∀ h' t' nw', Fx Γ A env [] h₀ L h' (lawL la (some (.ref ra)) w1 w2 (some (.ref ca)) w3 w4 w5 (some (.ref td))) nw' →
      Lz Γ nw' L (lawV (some (.ref oa)) (some (.ref kr)) (some (.ref du)) (some (.ref sa)) (some (.str g.tx tt)) kv nv pv stv) du td ra na ca sa g cs oi M rs I ep i →
      IsQ "list" nw' oa vo → wpAny (model PG Γ.w) A (execs rest env) Q (fun _ _ => False) (S Γ h' t')) :
    wpAny (model PG Γ.w) A (execs (toldAt Γ.w 2 :: rest) env) Q (fun _ _ => False) (S Γ h t) := by
  have hg := z.y.ok
  have h7 := hg.tx7
  have h8 := hg.n8
  have cl := z.y.cells
  have hnd : (kvs.map (·.1)).Nodup := let ⟨_, _, _, _, _, _, _, hn⟩ := hk; hn.2
  have hlen := hr.len hnd
  have hvl : vo.length ≤ 1 := by rcases hvo with rfl | ⟨u, rfl⟩ <;> simp
  refine wpAny_execs_cons ?_
  show wpAny _ _ (exec (Stmt.If _ _ _ _) _) _ _ _
  walk_at "m:go"
  refine xlen c mo.w fun t4 => ?_
  walk_at "m:go"
  rw [if_neg (by simp; omega)]
  walk_at "m:go"
  refine xListComp (cl := [("kept", L + 8)]) (by rw [he]; rfl) rfl (by decide) ?_
  walk_at "m:go"
  refine xiter_keys c hk fun I2 h5 o5 ep5 c5 l5 X5 it5 => ?_
  refine xcomp (· < I2) (· = kr) (fun n2 ys n => Keep (fun _ => False) nw (lo I2 n) ∧ ∀ v ∈ ys, v = Value.bool false) X5 c5 (by decide) rfl (by rfl) (self_keys it5) (fun b hb => .inr hb) (Nat.lt_irrefl _) ⟨_, .head _⟩
    (fun b hb => by rw [show b = kr from hb]; obtain ⟨o, m, _⟩ := id hk; exact ⟨o, .tail _ m⟩) (by omega)
    itk_keys it5 (fun n2 ys n1 n3 b hb k ⟨v1, v2⟩ => ⟨v1.trans (lo_new hb k), v2⟩) (by intro n2 k; refine ⟨lo_all l5 (Keep.cons.trans k), ?_⟩; intro v hv; cases hv) ?_ ?_
  · rintro n2 v ys h13 nw13 t13 C hj2 ⟨key, x, tj, hx, rfl⟩ hy c13 b13 oC ⟨v1, v2⟩
    have hr13 := (hr.kd (Kd.ofKeep (X := []) (v1.trans lo_sub)) fun _ _ _ _ h => nomatch h)
    obtain ⟨p, w, rfl, hp, hM, hv, res⟩ := hr13.item hx
    have z13 := z.kept (v1.trans lo_sub)
    have hk13 := hk.keep (v1.trans lo_sub) id
    have cl13 := z13.y.cells
    refine wpAny_tests_one ?_
    walk_at "m:go"
    refine xditem c13 hk13 hv (fun t14 => ?_) (by with_unfolding_all rfl) (by intro _; with_unfolding_all rfl)
    cases hev : ev g.pl g.tx j p with
    | none =>
      rw [hev] at res
      obtain rfl : w = .none := res
      walk_at "m:go"
      rw [if_neg (by simp)]
      exact ⟨_, _, _, fun _ => False, rfl, c13, fun _ m _ => m, fun _ z => z.elim, v1, v2⟩
    | some tr =>
      rw [hev] at res
      obtain ⟨na2, rfl, hn⟩ := res
      obtain ⟨hk1, hs1, _⟩ := ev_ok hg.ok j hj p tr hp hev
      walk_at "m:go"
      rw [if_pos (by rfl)]
      walk_at "m:go"
      refine xditem c13 hk13 hv (fun t15 => ?_) (by with_unfolding_all rfl) (by intro _; with_unfolding_all rfl)
      walk_at "m:go"
      refine xnodeStart c13 hn fun t16 u16 => ?_
      rw [hs1]
      walk_at "m:go"
      refine ⟨_, _, _, fun _ => False, rfl, c13, fun _ m _ => m, fun _ z => z.elim, v1, fun v hv => ?_⟩
      rcases List.mem_append.mp hv with hv | hv
      · exact v2 v hv
      · rw [List.mem_singleton.mp hv]; simp
  · rintro ys h13 nw13 t13 C D c13 b13 m13 oC oD hDC ⟨v1, v2⟩
    refine comp_end c13 b13 fun h16 c16 => ?_
    have k16 : Keep (fun _ => False) nw (nw13.filter fun p => p.1 != C) := (v1.trans (lo_new oC keep_drop)).trans lo_sub
    have m16 := m13.keep keep_drop hDC
    walk_at "m:go"
    refine xanyF c16 m16.w v2 fun h17 t17 nw17 c17 k17 => ?_
    walk_at "m:go"
    rw [if_neg Bool.false_ne_true]
    walk_at "m:go"
    rw [if_neg Bool.false_ne_true]
    walk_at "m:go"
    exact q _ _ _ c17 (z.kept (k16.trans k17)) (mo.keep (k16.trans k17) id)
end


theorem RowAt.uniq {X Y : List Addr} {nw : Led} {r r' : List (Int × Int)} {v : Value} (nd : (nw.map (·.1)).Nodup) (m : RowAt X nw r v) (m' : RowAt Y nw r' v) : r = r' := by
  obtain ⟨D, vs, rfl, mD, _, q⟩ := m
  obtain ⟨D', vs', e, mD', _, q'⟩ := m'
  injection e with e
  subst e
  have l1 := q.len
  have l2 := q'.len
  obtain ⟨_, n, x⟩ := mD
  obtain ⟨_, n', x'⟩ := mD'
  have e := congrArg Obj.data (uniq_nd nd x x')
  injection e with e _
  have e := congrArg Array.toList e
  have e : vs' = vs := e
  subst e
  refine List.ext_getElem? fun i => ?_
  by_cases hi : i < vs'.length
  · obtain ⟨p, e1, p1⟩ := PrsAt.at q (List.getElem?_eq_getElem hi)
    obtain ⟨p', e2, p2⟩ := PrsAt.at q' (List.getElem?_eq_getElem hi)
    rw [e1, e2]
    obtain ⟨T, a1, a2, e3, _, k1, m1⟩ := p1
    obtain ⟨T', b1, b2, e4, _, k2, m2⟩ := p2
    rw [e3] at e4
    injection e4 with e4
    subst e4
    have e := congrArg Obj.data (uniq_nd nd m1 m2)
    injection e with e _
    have e := congrArg Array.toList e
    simp only [List.cons.injEq, Value.int.injEq, and_true] at e
    rw [show p = p' from Prod.ext e.1.1.symm e.2.1.symm]
  · rw [List.getElem?_eq_none (by omega), List.getElem?_eq_none (by omega)]
section
variable {Γ : Gm} {A : Around} {env : Env} {h₀ : Heap} {L : Addr} {h h' : Heap} {l l' : Loc} {nw : Led} {t : Nat} {pos : Pos} {fa : Addr} {cd : Value} {ra na sa ca du td : Addr} {g : Gr} {cs : CS} {oi : Oi} {M : Memo} {Q : Flow → Shared → Prop} {rest : List Stmt} {la : Addr} {w1 w2 w3 w4 w5 : Option Value}
open Classical in
set_option maxRecDepth 100000 in
set_option maxHeartbeats 8000000 in
theorem told_3 {oa : Addr} {vo : List Value} {kv pv stv : Option Value} {tt : Tok} {rs : List (List (Int × Int))} {I : Addr} {ep i j : Nat} {kr : Option Value} (he : env = lawE Γ.w L fa cd)
    (c : Fx Γ A env [] h₀ L h (lawL la (some (.ref ra)) w1 w2 (some (.ref ca)) w3 w4 w5 (some (.ref td))) nw) (r : Room A 60)
    (z : Lz Γ nw L (lawV (some (.ref oa)) kr (some (.ref du)) (some (.ref sa)) (some (.str g.tx tt)) kv (some (.ref na)) pv stv) du td ra na ca sa g cs oi M (rs ++ [dueRow g M j]) I ep i)
    (hj : j < g.n) (mo : IsQ "list" nw oa vo) (hvo : vo = [] ∨ ∃ u, vo = [.str (g.nm j) u]) (hrs : rs.length < 100)
    (q : ∀ h' t' nw', Fx Γ A env [] h₀ L h' (lawL la (some (.ref ra)) w1 w2 (some (.ref ca)) w3 w4 w5 (some (.ref td))) nw' →
      Lz Γ nw' L (lawV (some (.ref oa)) kr (some (.ref du)) (some (.ref sa)) (some (.str g.tx tt)) kv (some (.ref na)) pv stv) du td ra na ca sa g cs oi M (rs ++ [dueRow g M j]) I ep i →
      wpAny (model PG Γ.w) A (execs rest env) Q (fun _ _ => False) (S Γ h' t')) :
    wpAny (model PG Γ.w) A (execs (toldAt Γ.w 3 :: rest) env) Q (fun _ _ => False) (S Γ h t) := by
  have hg := z.y.ok
  have h7 := hg.tx7
  have h8 := hg.n8
  have cl := z.y.cells
  refine wpAny_execs_cons ?_
  show wpAny _ _ (exec (Stmt.If _ _ _ _) _) _ _ _
  walk_at "m:go"
  rename_i h2 D2 _ _ c2 m2
  have z2 := z.kept (Keep.cons (p := (D2, seqO "list" [] 0)))
  have mo2 := mo.keep (Keep.cons (W := fun _ => False) (p := (D2, seqO "list" [] 0))) id
  have cl2 := z2.y.cells
  rcases hvo with rfl | ⟨uo, rfl⟩
  · refine PySem.SeqAt.RcNeAt.lists (e := fun _ => true) (mo2.w.isList c2) (m2.w.isList c2) rfl (show A.units < 9900 by have := r.2; omega) (fun j h1 h2 => by simp at h1) PG Γ.w _ _ ?_
    walk_at "m:go"
    rw [if_neg (by simp)]
    walk_at "m:go"
    rw [if_neg Bool.false_ne_true]
    walk_at "m:go"
    exact q _ _ _ c2 z2
  · refine PySem.SeqAt.RcNeAt.lists_lengths (mo2.w.isList c2) (m2.w.isList c2) (by simp) (show A.units < 9900 by have := r.2; omega) PG Γ.w _ _ ?_
    walk_at "m:go"
    rw [if_pos rfl]
    walk_at "m:go"
    obtain ⟨vt, mt, et, qt⟩ := id z2.told
    refine xlen c2 mt.w fun t4 => ?_
    walk_at "m:go"
    have et' : vt.length = rs.length + 1 := by rw [et]; simp
    obtain ⟨vx, hvx⟩ : ∃ vx, vt[rs.length]? = some vx := ⟨vt[rs.length]'(by omega), List.getElem?_eq_getElem _⟩
    have hrx : RowAt [td, du] ((D2, seqO "list" [] 0) :: nw) (dueRow g M j) vx := qt rs.length _ vx (by simp) hvx
    refine xitem c2 mt.w (by omega) (v := vx) (by rw [show ((vt.length : Int) - 1).toNat = rs.length by omega]; exact hvx) ?_
    walk_at "m:go"
    refine xListComp (cl := [("own", L + 9), ("named", L + 3), ("due", L + 7)]) (by rw [he]; rfl) rfl (by decide) ?_
    walk_at "m:go"
    refine xlen c2 z2.y.rows.w fun t5 => ?_
    walk_at "m:go"
    rw [show (((List.range g.n).map fun j => Value.ref (g.rs j)).length : Int) = (g.n : Int) by rw [List.length_map, List.length_range]]
    refine xiter_rng c2 (by omega) fun I2 h6 t6 r6 o6 c6 l6 lr6 X6 => ?_
    have hI2 : ∀ p ∈ (D2, seqO "list" [] 0) :: nw, p.1 < I2 := fun p hp => Nat.lt_trans (l6 p hp) lr6
    have it6 : RngIt I2 g.n 0 ((I2, rangeItO 0 g.n) :: (r6, o6) :: (D2, seqO "list" [] 0) :: nw) := .head _
    obtain ⟨nts, mn⟩ := id z2.y.named
    obtain ⟨vd, md, ed, qd⟩ := id z2.due
    have ed' : vd.length = g.n := by rw [ed]; simp
    refine xcomp (· < I2) (fun _ => False) (fun n2 ys n => Keep (fun _ => False) ((D2, seqO "list" [] 0) :: nw) (lo I2 n) ∧ (∀ v ∈ ys, ∃ k, RowAt [td, du] ((D2, seqO "list" [] 0) :: nw) (dueRow g M k) v) ∧ (j < n2 → ∃ v ∈ ys, RowAt [td, du] ((D2, seqO "list" [] 0) :: nw) (dueRow g M j) v))
      X6 c6 (by decide) rfl (by rfl) (self_rng it6) (fun b hb => .inr hb) (Nat.lt_irrefl _) ⟨_, .head _⟩ (fun b hb => hb.elim) (by omega)
      itk_rng it6 (fun n2 ys n1 n3 b hb k ⟨v1, v2⟩ => ⟨v1.trans (lo_new hb k), v2⟩) (by intro n2 k; refine ⟨lo_all hI2 ((Keep.cons.trans Keep.cons).trans k), ?_, ?_⟩; (intro v hv; cases hv); (intro z; exact absurd z (Nat.not_lt_zero _))) ?_ ?_
    · rintro n2 v ys h13 nw13 t13 C hj2 ⟨tj, rfl⟩ hy c13 b13 oC ⟨v1, v2, v3⟩
      have k13 := v1.trans lo_sub
      have z13 := z2.kept k13
      have cl13 := z13.y.cells
      have mn13 := mn.keep k13 id
      have md13 := md.keep k13 id
      have mo13 := mo2.keep k13 id
      refine wpAny_tests_one ?_
      walk_at "m:go"
      refine xitem c13 mn13.w (by omega) (v := .str (g.nm n2) (nts n2)) (by simp [hj2]) ?_
      walk_at "m:go"
      refine xitem c13 mo13.w (by omega) (v := .str (g.nm j) uo) (by rfl) ?_
      walk_at "m:go"
      obtain ⟨vk, hvk⟩ : ∃ vk, vd[n2]? = some vk := ⟨vd[n2]'(by omega), List.getElem?_eq_getElem _⟩
      have hrk : RowAt [td, du] ((D2, seqO "list" [] 0) :: nw) (dueRow g M n2) vk := qd n2 _ vk (by simp [hj2]) hvk
      cases hnm : (g.nm n2 == g.nm j) with
      | false =>
        rw [if_neg Bool.false_ne_true]
        refine ⟨_, _, _, fun _ => False, rfl, c13, fun _ m _ => m, fun _ z => z.elim, v1, v2, fun hlt => v3 ?_⟩
        rcases Nat.lt_succ_iff_lt_or_eq.mp hlt with h | h
        · exact h
        · rw [h] at hnm
          simp at hnm
      | true =>
        rw [if_pos rfl]
        walk_at "m:go"
        refine xitem c13 md13.w (by omega) (v := vk) (by simpa using hvk) ?_
        refine ⟨_, _, _, fun _ => False, rfl, c13, fun _ m _ => m, fun _ z => z.elim, v1, fun v hv => ?_, fun hlt => ?_⟩
        · rcases List.mem_append.mp hv with hv | hv
          · exact v2 v hv
          · rw [List.mem_singleton.mp hv]; exact ⟨n2, hrk⟩
        · rcases Nat.lt_succ_iff_lt_or_eq.mp hlt with h | h
          · obtain ⟨v, hv, hr⟩ := v3 h
            exact ⟨v, List.mem_append_left _ hv, hr⟩
          · rw [h]
            exact ⟨vk, List.mem_append_right _ (List.mem_singleton.mpr rfl), hrk⟩
    · rintro ys h13 nw13 t13 C D c13 b13 m13 oC oD hDC ⟨v1, v2, v3⟩
      refine comp_end c13 b13 fun h16 c16 => ?_
      have k16 : Keep (fun _ => False) ((D2, seqO "list" [] 0) :: nw) (nw13.filter fun p => p.1 != C) := (v1.trans (lo_new oC keep_drop)).trans lo_sub
      have m16 := m13.keep keep_drop hDC
      walk_at "m:go"
      have hx16 := hrx.kept k16
      refine PySem.SeqAt.notIn_listAt (fun y => decide (RowAt [td, du] (nw13.filter fun p => p.1 != C) (dueRow g M j) y)) (m16.w.isList c16) (fun y hy => ?_) ?_
      · obtain ⟨k, hky⟩ := v2 y (by simpa using hy)
        have hky := hky.kept k16
        have := row_eq (A' := A.in1) (t := t13) c16 (show A.units + 1 ≤ 9790 by have := r.2; omega) hky hx16
        rw [show decide (RowAt [td, du] (nw13.filter fun p => p.1 != C) (dueRow g M j) y) = decide (dueRow g M k = dueRow g M j) from decide_eq_decide.mpr ⟨fun h => (h.uniq c16.nd hky).symm, fun h => h ▸ hky⟩]
        exact this
      · obtain ⟨v, hv, hr⟩ := v3 hj
        rw [show (ys.toArray.any fun y => decide (RowAt [td, du] (nw13.filter fun p => p.1 != C) (dueRow g M j) y)) = true by
          rw [Array.any_eq_true']
          exact ⟨v, by simpa using hv, decide_eq_true (hr.kept k16)⟩]
        walk_at "m:go"
        rw [if_neg (by simp)]
        walk_at "m:go"
        rw [if_neg Bool.false_ne_true]
        walk_at "m:go"
        exact q _ _ _ c16 (z2.kept k16)
end


section
variable {Γ : Gm} {A : Around} {env : Env} {h₀ : Heap} {L : Addr} {h h' : Heap} {l l' : Loc} {nw : Led} {t : Nat} {pos : Pos} {fa : Addr} {cd : Value} {ra na sa ca du td : Addr} {g : Gr} {cs : CS} {oi : Oi} {M : Memo} {Q : Flow → Shared → Prop} {rest : List Stmt} {la : Addr} {w1 w2 w3 w4 w5 w6 : Option Value}
noncomputable def toldL (w : World) : List Stmt := toldAt w 0 :: toldAt w 1 :: toldAt w 2 :: toldAt w 3 :: []
theorem ValIt.own {Γ : Gm} {I a : Addr} {kvs : List (Int × Value)} {ep i : Nat} {nw : Led} (it : ValIt Γ I a kvs ep i nw) : ∃ o, (I, o) ∈ nw ∧ odd o := by
  obtain ⟨⟨o, m, hc, hd⟩, _⟩ := it
  exact ⟨o, m, odd_fields hc (by decide) hd⟩
theorem ValIt.noC {Γ : Gm} {I a : Addr} {kvs : List (Int × Value)} {ep i : Nat} {nw : Led} (it : ValIt Γ I a kvs ep i nw) (nd : (nw.map (·.1)).Nodup) {o : Obj} {v : Option Value} (m : (I, o) ∈ nw) (d : o.data = .cell v) : False := by
  obtain ⟨⟨o', m', hc, hd⟩, _⟩ := it
  rw [uniq_nd nd m' m, hd] at d
  cases d
theorem cache_item {rows : List Addr} {i : Nat} {k : Int} {v : Value} (h : (cacheKvs rows)[i]? = some (k, v)) : ∃ r, rows[i]? = some r ∧ v = .ref r := by
  unfold cacheKvs at h
  rw [List.getElem?_mapIdx] at h
  obtain ⟨r, hr, e⟩ := Option.map_eq_some_iff.mp h
  exact ⟨r, hr, (congrArg Prod.snd e).symm⟩
set_option maxRecDepth 100000 in
set_option maxHeartbeats 8000000 in
theorem law_told {kv pv stv : Option Value} {tt : Tok} (he : env = lawE Γ.w L fa cd) (c : Fx Γ A env [] h₀ L h (lawL la (some (.ref ra)) w1 w2 (some (.ref ca)) w3 w4 w5 w6) nw) (r : Room A 60)
    (s : Ly Γ nw L (lawV none none (some (.ref du)) (some (.ref sa)) (some (.str g.tx tt)) kv (some (.ref na)) pv stv) [du] ra na ca sa g cs oi M) (d : RowsAt [du] nw ((List.range g.n).map (dueRow g M)) du)
    (q : ∀ h' t' nw' ow kp td, Fx Γ A env [] h₀ L h' (lawL la (some (.ref ra)) w1 w2 (some (.ref ca)) w3 w4 w5 (some (.ref td))) nw' →
      Ly Γ nw' L (lawV ow kp (some (.ref du)) (some (.ref sa)) (some (.str g.tx tt)) kv (some (.ref na)) pv stv) [td, du] ra na ca sa g cs oi M → RowsAt [td, du] nw' ((List.range g.n).map (dueRow g M)) du → RowsAt [td, du] nw' (cs.ow.map (dueRow g M)) td → wpAny (model PG Γ.w) A (execs rest env) Q (fun _ _ => False) (S Γ h' t')) :
    wpAny (model PG Γ.w) A (execs (lawAt Γ.w 13 :: lawAt Γ.w 14 :: rest) env) Q (fun _ _ => False) (S Γ h t) := by
  have hg := s.ok
  have h7 := hg.tx7
  have h8 := hg.n8
  have cl := s.cells
  refine wpAny_execs_cons ?_
  show wpAny _ _ (exec (Stmt.Assign [Expr.Name _ _] _ _) _) _ _ _
  walk_at "m:go"
  rename_i h2 td _ _ c2 m2 h3 t3 c3 _
  have c3 : Fx Γ A env [] h₀ L h3 (lawL la (some (.ref ra)) w1 w2 (some (.ref ca)) w3 w4 w5 (some (.ref td))) ((td, seqO "list" [] 0) :: nw) := c3
  have htd : ∀ p ∈ nw, p.1 ≠ td := fun p hp z => by
    have := c2.nd
    rw [List.map_cons, List.nodup_cons] at this
    exact this.1 (by rw [← z]; exact List.mem_map_of_mem (f := (·.1)) hp)
  have hdt : du ≠ td := by
    obtain ⟨_, ⟨_, n, m⟩, _⟩ := id d
    exact htd _ m
  have k3 : Keep (fun _ => False) nw ((td, seqO "list" [] 0) :: nw) := Keep.cons
  have s3 := (s.more htd).kept k3
  have d3 := (d.more htd).kept k3
  have t3' : RowsAt [td, du] ((td, seqO "list" [] 0) :: nw) [] td := ⟨[], m2, rfl, fun j r v h => by simp at h⟩
  have hol : cs.ow.length ≤ g.n := by
    have := nodup_le cs.ow (List.range g.n) s.cache.ond fun j hj => List.mem_range.mpr (s.cache.olt j hj)
    simpa using this
  have hkl : (cacheKvs cs.rows).length = cs.ow.length := by unfold cacheKvs; rw [List.length_mapIdx]; exact s.cache.len
  clear k3 m2 htd
  show wpAny _ _ (exec (Stmt.For _ _ (toldL Γ.w) _ _) _) _ _ _
  refine xFor ?_
  walk_at "m:go"
  refine xvaluesM c3 s3.cache.top ?_
  dsimp only
  walk_at "m:go"
  refine xcallW0 kp_b ?_
  rw [List.append_nil]
  refine xvalues c3 s3.cache.top fun I vw h5 o5 ov5 ep c5 l5 lv5 X5 it5 => ?_
  have k5 : Keep (fun _ => False) ((td, seqO "list" [] 0) :: nw) ((I, o5) :: (vw, ov5) :: (td, seqO "list" [] 0) :: nw) := Keep.cons.trans Keep.cons
  have hIc : ∀ b ∈ hotC L, I ≠ b := fun b hb => by
    obtain ⟨o, m⟩ := s3.cells.mem hb
    exact Nat.ne_of_gt (Nat.lt_trans (l5 _ m) lv5)
  refine xforLoop X5 (fun i l n => l = lawL la (some (.ref ra)) w1 w2 (some (.ref ca)) w3 w4 w5 (some (.ref td)) ∧ ∃ ow kp, Ly Γ n L (lawV ow kp (some (.ref du)) (some (.ref sa)) (some (.str g.tx tt)) kv (some (.ref na)) pv stv) [td, du] ra na ca sa g cs oi M ∧
      RowsAt [td, du] n ((List.range g.n).map (dueRow g M)) du ∧ RowsAt [td, du] n ((cs.ow.take i).map (dueRow g M)) td) c5 it5
    ⟨rfl, none, none, s3.kept k5, d3.kept k5, t3'.kept k5⟩ ?_ ?_
  · rintro i v h6 l6 nw6 t6 o6 hb hi ⟨key, hkv⟩ cb itb c6 it6 ⟨rfl, ow, kp, s6, d6, r6⟩
    obtain ⟨kr, hir, rfl⟩ := cache_item hkv
    rw [hkl] at hi
    obtain ⟨j, hij⟩ : ∃ j, cs.ow[i]? = some j := ⟨cs.ow[i], List.getElem?_eq_getElem hi⟩
    have hjm : j ∈ cs.ow := List.mem_of_getElem? hij
    have hjn := s.cache.olt j hjm
    obtain ⟨ob, mob, hob⟩ := itb.own
    have z7 : Lz Γ (put nw6 I o6) L (lawV ow kp (some (.ref du)) (some (.ref sa)) (some (.str g.tx tt)) kv (some (.ref na)) pv stv) du td ra na ca sa g cs oi M ((cs.ow.take i).map (dueRow g M)) I ep (i + 1) :=
      ⟨s6.at cb.nd mob hob.2.1 hob.2.2 (.inl hob.1) (Keep.put (o := o6)) (s6.cells.keepO Keep.put fun c o v m d e => by
        have e : c = I := e
        subst e
        exact itb.noC cb.nd m d), d6.odd cb.nd mob hob (Keep.put (o := o6)), r6.odd cb.nd mob hob (Keep.put (o := o6)), it6⟩
    clear s6 d6 r6
    have cl7 := z7.y.cells
    refine wpAny_pure ?_
    walk_at "m:go"
    rename_i h8 nw8 c8 cl8 ca8 co8 mc8 oc8 hot8 k8 _
    have z8 := z7.odd c6.nd mc8 oc8 (hIc _ hot8) k8 cl8
    obtain ⟨kvs, hk, hr⟩ := z8.y.cache.row i j kr hij hir
    have h1 : 1 ≤ kvs.length := by
      obtain ⟨p, hp⟩ := z8.y.cache.used j hjm
      obtain ⟨v, hv⟩ := hr.2 p hp
      exact List.length_pos_of_mem hv
    have hl : ((cs.ow.take i).map (dueRow g M)).length < 100 := by rw [List.length_map, List.length_take]; omega
    show wpAny _ _ (execs (toldAt Γ.w 0 :: toldAt Γ.w 1 :: toldAt Γ.w 2 :: toldAt Γ.w 3 :: []) env) _ _ _
    refine told_0 he c8 r z8 hk hr h1 hl hdt fun h9 t9 nw9 c9 z9 hk9 hr9 => ?_
    refine told_1 he c9 r z9 hk9 hr9 hjn hIc fun h10 t10 nw10 oa vo c10 z10 hk10 hr10 mo10 hvo => ?_
    refine told_2 he c10 r z10 hk10 hr10 hjn mo10 hvo fun h11 t11 nw11 c11 z11 mo11 => ?_
    refine told_3 he c11 r z11 hjn mo11 hvo hl fun h12 t12 nw12 c12 z12 => ?_
    walk_at "m:go"
    refine ⟨_, _, _, _, rfl, c12, z12.it, rfl, _, _, z12.y, z12.due, ?_⟩
    have e : (cs.ow.take (i + 1)).map (dueRow g M) = (cs.ow.take i).map (dueRow g M) ++ [dueRow g M j] := by
      rw [List.take_add_one, hij]; simp
    rw [e]
    exact z12.told
  · rintro h6 l6 nw6 nw7 t6 hb cb itb c7 k7 ⟨rfl, ow, kp, s6, d6, r6⟩
    obtain ⟨ob, mob, hob⟩ := itb.own
    have s7 := s6.at cb.nd mob hob.2.1 hob.2.2 (.inl hob.1) k7 (s6.cells.keepO k7 fun c o v m d e => by
      have e : c = I := e
      subst e
      exact itb.noC cb.nd m d)
    have r7 := r6.odd cb.nd mob hob k7
    rw [hkl, List.take_length] at r7
    walk_at "m:go"
    exact q _ _ _ ow kp td c7 s7 (d6.odd cb.nd mob hob k7) r7
end


theorem due_ow {Γ : Gm} {X : List Addr} {nw : Led} {g : Gr} {ca : Addr} {cs : CS} {M : Memo} (s : CacheAt Γ X nw g ca cs M M0) : (cs.ow.map (dueRow g M)).Perm (((List.range g.n).map (dueRow g M)).filter fun r => decide (r ≠ [])) := by
  rw [List.filter_map]
  refine List.Perm.map _ ((List.perm_ext_iff_of_nodup s.ond ((List.nodup_range).filter _)).mpr fun j => ?_)
  rw [List.mem_filter, List.mem_range]
  have ne : ∀ p, M j p = true → p ≤ g.tx.length → dueRow g M j ≠ [] := fun p hM hp e => by
    have : ((p : Int), fE g.pl g.tx j p) ∈ dueRow g M j := List.mem_map.mpr ⟨p, List.mem_filter.mpr ⟨List.mem_range.mpr (by omega), hM⟩, rfl⟩
    rw [e] at this
    cases this
  constructor
  · intro hj
    refine ⟨s.olt j hj, ?_⟩
    obtain ⟨p, hp⟩ := s.used j hj
    obtain ⟨i, hi⟩ := List.mem_iff_getElem?.mp hj
    obtain ⟨r, hr⟩ : ∃ r, cs.rows[i]? = some r := ⟨cs.rows[i]'(by rw [s.len]; exact (List.getElem?_eq_some_iff.mp hi).1), List.getElem?_eq_getElem _⟩
    obtain ⟨kvs, _, hk⟩ := s.row i j r hi hr
    obtain ⟨v, hv⟩ := hk.2 p hp
    obtain ⟨p', e, hle, h⟩ := hk.1 _ _ hv
    obtain rfl : p = p' := by omega
    rcases h with ⟨hM, _⟩ | ⟨hM, _⟩
    · simpa using ne p hM hle
    · cases hM
  · rintro ⟨_, h⟩
    have h : dueRow g M j ≠ [] := by simpa using h
    obtain ⟨x, hx⟩ := List.exists_mem_of_ne_nil _ h
    obtain ⟨p, hp, _⟩ := List.mem_map.mp hx
    exact s.has j p (.inl (List.mem_filter.mp hp).2)
section
variable {Γ : Gm} {A : Around} {env : Env} {outer : List Env} {h₀ : Heap} {L : Addr} {h h' : Heap} {l l' : Loc} {nw : Led} {t : Nat} {E : Value → Shared → Prop} {pos : Pos}
theorem xsortR0 (c : Fx Γ A env outer h₀ L h l nw) (r : Room A 10) {X : List Addr} {a : Addr} {rs : List (List (Int × Int))} {Q : Value → Shared → Prop} (m : RowsAt X nw rs a) (h64 : rs.length < 64)
    (q : ∀ h' t' D qs nw', qs.Perm rs → (qs.Pairwise fun x y => rowLt y x = false) → (∀ q ∈ nw, q.1 < D) → Fx Γ A env outer h₀ L h' l nw' → Keep (fun _ => False) nw nw' → RowsAt X nw' qs D → Q (.ref D) (S Γ h' t')) :
    wpAny (model PG Γ.w) A (call (.builtin "sorted") [.ref a]) Q E (S Γ h t) := by
  by_cases h1 : 1 ≤ rs.length
  · obtain ⟨_, ⟨_, n, m0⟩, _⟩ := id m
    exact xsortR c r m h1 h64 m0 q
  · obtain rfl : rs = [] := List.eq_nil_of_length_eq_zero (by omega)
    obtain ⟨vs, mv, hl, _⟩ := id m
    obtain rfl : vs = [] := List.eq_nil_of_length_eq_zero hl
    refine small_sorted (s := S Γ h t) c.F c.N (mv.w.isList c) (by simp) fun D h' c' hD F' N' => ?_
    refine q h' _ D [] ((D, seqO "list" [] c') :: nw) (List.Perm.refl _) List.Pairwise.nil (fun p hp => Nat.lt_of_lt_of_le (c.lt hp) hD) (c.ofNew F' N' hD) Keep.cons ⟨[], ⟨by simp, c', .head _⟩, rfl, fun j r v h => by simp at h⟩
end
section
variable {Γ : Gm} {A : Around} {env : Env} {h₀ : Heap} {L : Addr} {h h' : Heap} {l l' : Loc} {nw : Led} {t : Nat} {pos : Pos} {fa : Addr} {cd : Value} {ra na sa ca du td : Addr} {g : Gr} {cs : CS} {oi : Oi} {M : Memo} {Q : Flow → Shared → Prop} {rest : List Stmt} {la : Addr} {w1 w2 w3 w4 w5 : Option Value}
set_option maxRecDepth 100000 in
set_option maxHeartbeats 8000000 in
theorem law_back {ow kp kv nv pv stv : Option Value} {tt : Tok} (he : env = lawE Γ.w L fa cd) (c : Fx Γ A env [] h₀ L h (lawL la (some (.ref ra)) w1 w2 (some (.ref ca)) w3 w4 w5 (some (.ref td))) nw) (r : Room A 60)
    (s : Ly Γ nw L (lawV ow kp (some (.ref du)) (some (.ref sa)) (some (.str g.tx tt)) kv nv pv stv) [td, du] ra na ca sa g cs oi M) (d : RowsAt [td, du] nw ((List.range g.n).map (dueRow g M)) du) (rt : RowsAt [td, du] nw (cs.ow.map (dueRow g M)) td)
    (q : ∀ h' t' nw', Fx Γ A env [] h₀ L h' (lawL la (some (.ref ra)) w1 w2 (some (.ref ca)) w3 w4 w5 (some (.ref td))) nw' → Q (.ret (.bool true)) (S Γ h' t')) :
    wpAny (model PG Γ.w) A (execs (lawAt Γ.w 15 :: rest) env) Q (fun _ _ => False) (S Γ h t) := by
  have hg := s.ok
  have h7 := hg.tx7
  have h8 := hg.n8
  have cl := s.cells
  have hol : cs.ow.length ≤ g.n := by
    have := nodup_le cs.ow (List.range g.n) s.cache.ond fun j hj => List.mem_range.mpr (s.cache.olt j hj)
    simpa using this
  have pp := due_ow s.cache
  generalize hds : (List.range g.n).map (dueRow g M) = ds at d pp
  have hdl : ds.length = g.n := by rw [← hds]; simp
  refine wpAny_execs_cons ?_
  show wpAny _ _ (exec (Stmt.Return _ _) _) _ _ _
  walk_at "m:go"
  refine xsortR0 c (r.mono (by omega)) rt (by rw [List.length_map]; omega) fun h2 t2 D1 qs1 nw2 hp1 hs1 l2 c2 k2 r1 => ?_
  have s2 := s.kept k2
  have d2 := d.kept k2
  have cl2 := s2.cells
  walk_at "m:go"
  obtain ⟨vd, md, ed, qd⟩ := id d2
  refine xListComp (cl := []) (by rw [he]; rfl) rfl (by decide) ?_
  walk_at "m:go"
  refine xiter_list c2 md.w fun I2 h5 o5 c5 l5 X5 it5 => ?_
  refine xcomp (· < I2) (· = du) (fun n2 ys n => Keep (fun _ => False) nw2 (lo I2 n) ∧ ys.length = ((ds.take n2).filter fun r => decide (r ≠ [])).length ∧ ∀ (i : Nat) (r : List (Int × Int)) (v : Value), ((ds.take n2).filter fun r => decide (r ≠ []))[i]? = some r → ys[i]? = some v → RowAt [td, du] nw2 r v)
    X5 c5 (by decide) rfl (by rfl) (self_list it5) (fun b hb => .inr hb) (Nat.lt_irrefl _) ⟨_, .head _⟩
    (fun b hb => by rw [show b = du from hb]; obtain ⟨_, n, m⟩ := md; exact ⟨_, .tail _ m⟩) (by omega)
    itk_list it5 (fun n2 ys n1 n3 b hb k ⟨v1, v2⟩ => ⟨v1.trans (lo_new hb k), v2⟩) (by intro n2 k; refine ⟨lo_all l5 (Keep.cons.trans k), rfl, ?_⟩; intro i r v hi; simp at hi) ?_ ?_
  · rintro n2 v ys h13 nw13 t13 C hj2 hv hy c13 b13 oC ⟨v1, v2, v3⟩
    have k13 := v1.trans lo_sub
    obtain ⟨rw_, hrw⟩ : ∃ r, ds[n2]? = some r := ⟨ds[n2]'(by omega), List.getElem?_eq_getElem _⟩
    have hrv := qd n2 rw_ v hrw hv
    have es : (ds.take (n2 + 1)).filter (fun r => decide (r ≠ [])) = (ds.take n2).filter (fun r => decide (r ≠ [])) ++ (if rw_ = [] then [] else [rw_]) := by
      rw [List.take_add_one, hrw, List.filter_append]
      congr 1
      by_cases h : rw_ = [] <;> simp [h]
    obtain ⟨DR, vr, rfl, mr, hDR, pr⟩ := id (hrv.kept k13)
    have lr := pr.len
    refine wpAny_tests_one ?_
    walk_at "m:go"
    rename_i h14 T0 _ _ c14 m14
    have b14 := b13.later c13 c14 (Keep.cons (W := fun _ => False)) id
    have mr14 := mr.keep (Keep.cons (W := fun _ => False) (p := (T0, seqO "list" [] 0))) id
    by_cases hr0 : rw_ = []
    · subst hr0
      obtain rfl : vr = [] := List.eq_nil_of_length_eq_zero lr.symm
      refine PySem.SeqAt.RcNeAt.lists (e := fun _ => true) (mr14.w.isList c14) (m14.w.isList c14) rfl (show A.units < 9900 by have := r.2; omega) (fun j h1 h2 => by simp at h1) PG Γ.w _ _ ?_
      walk_at "m:go"
      rw [if_neg (by simp)]
      refine ⟨_, _, _, fun _ => False, rfl, c14, Keep.cons, fun _ z => z.elim, lo_all l5 (k13.trans Keep.cons), ?_⟩
      rw [es, if_pos rfl, List.append_nil]
      exact ⟨v2, v3⟩
    · refine PySem.SeqAt.RcNeAt.lists_lengths (mr14.w.isList c14) (m14.w.isList c14) (by
        have : vr ≠ [] := fun z => hr0 (List.eq_nil_of_length_eq_zero (by rw [lr, z]; rfl))
        simpa using this) (show A.units < 9900 by have := r.2; omega) PG Γ.w _ _ ?_
      walk_at "m:go"
      rw [if_pos rfl]
      walk_at "m:go"
      refine ⟨_, _, _, fun _ => False, rfl, c14, Keep.cons, fun _ z => z.elim, lo_all l5 (k13.trans Keep.cons), ?_⟩
      rw [es, if_neg hr0]
      refine ⟨by simp [v2], fun i r v h1 h2 => ?_⟩
      by_cases hi : i < ys.length
      · rw [List.getElem?_append_left (by omega)] at h1
        rw [List.getElem?_append_left hi] at h2
        exact v3 i r v h1 h2
      · rw [List.getElem?_append_right (by omega)] at h1 h2
        have h3 : i - ys.length = 0 := by
          have := (List.getElem?_eq_some_iff.mp h2).1
          simpa using this
        rw [← v2, h3] at h1
        rw [h3] at h2
        simp at h1 h2
        rw [← h1, ← h2]
        exact hrv
  · rintro ys h13 nw13 t13 C D c13 b13 m13 oC oD hDC ⟨v1, v2, v3⟩
    refine comp_end c13 b13 fun h16 c16 => ?_
    have k16 : Keep (fun _ => False) nw2 (nw13.filter fun p => p.1 != C) := (v1.trans (lo_new oC keep_drop)).trans lo_sub
    have m16 := m13.keep keep_drop hDC
    rw [List.take_of_length_le (by omega)] at v2 v3
    have r16 : RowsAt [td, du] (nw13.filter fun p => p.1 != C) (ds.filter fun r => decide (r ≠ [])) D := ⟨ys, m16, v2, fun i r v h1 h2 => (v3 i r v h1 h2).kept k16⟩
    walk_at "m:go"
    refine xsortR0 c16 (r.mono (by omega)) r16 (Nat.lt_of_le_of_lt (List.length_filter_le _ _) (by omega)) fun h17 t17 D2 qs2 nw17 hp2 hs2 l17 c17 k17 r2 => ?_
    obtain rfl : qs1 = qs2 := sorted_uniq rowLt_anti (hp1.trans (pp.trans hp2.symm)) hs1 hs2
    have r1' := (r1.kept k16).kept k17
    obtain ⟨w1', m1, e1, q1⟩ := id r1'
    obtain ⟨w2', m2, e2, q2⟩ := id r2
    walk_at "m:go"
    have := PySem.SeqAt.RcAt.lists (A := A) (s := S Γ h17 t17) (e := fun _ => true) (m1.w.isList c17) (m2.w.isList c17) (by simp [e1, e2]) (show A.units < 9900 by have := r.2; omega) fun j j1 j2 => by
      simp only [List.size_toArray] at j1 j2
      have h1 := q1 j _ _ (List.getElem?_eq_getElem (by omega)) (List.getElem?_eq_getElem j1)
      have h2 := q2 j _ _ (List.getElem?_eq_getElem (by omega)) (List.getElem?_eq_getElem j2)
      have := row_eq (A' := A.in1) (t := t17) c17 (show A.units + 1 ≤ 9790 by have := r.2; omega) h1 h2
      rw [decide_eq_true rfl] at this
      exact this
    refine this PG Γ.w _ _ ?_
    walk_at "m:go"
    rw [show ((List.range w1'.toArray.size).all fun _ => true) = true by simp]
    exact q _ _ _ c17
end


section
variable {Γ : Gm} {A : Around} {env : Env} {h₀ : Heap} {L : Addr} {h h' : Heap} {nw : Led} {t : Nat} {fa : Addr} {cd : Value} {la : Addr} {Q : Flow → Shared → Prop}
noncomputable def lawL15 (w : World) : List Stmt := lawAt w 0 :: lawAt w 1 :: lawAt w 2 :: lawAt w 3 :: lawAt w 4 :: lawAt w 5 :: lawAt w 6 :: lawAt w 7 :: lawAt w 8 :: lawAt w 9 :: lawAt w 10 :: lawAt w 11 :: lawAt w 12 :: lawAt w 13 :: lawAt w 14 :: lawAt w 15 :: []
set_option maxRecDepth 100000 in
set_option maxHeartbeats 8000000 in
/-- the law, walked -/
theorem law_ok {vs : List Value} {ns : List Int} (he : env = lawE Γ.w L fa cd) (c : Fx Γ A env [] h₀ L h (lawL la none none none none none none none none) nw) (r : Room A 60) (cl : CellsAt nw (lawC L) (lawV none none none none none none none none none)) (hL : h₀.IsList la vs.toArray) (hI : IntsAre vs ns) (hlen : vs.length ≤ 100)
    (q : ∀ h' t' l' nw', Fx Γ A env [] h₀ L h' l' nw' → Q (.ret (.bool true)) (S Γ h' t')) : wpAny (model PG Γ.w) A (execs (lawL15 Γ.w) env) Q (fun _ _ => False) (S Γ h t) := by
  unfold lawL15
  refine law_head he c cl hL hI hlen fun h1 t1 nw1 st lst pa ra na g0 hg0 c1 s1 => ?_
  refine wpAny_execs_cons (law_for1 he c1 r s1 hg0 fun h2 t2 nw2 kv g c2 s2 hn1 hn8 => ?_)
  dsimp only
  refine wpAny_execs_cons (law_text he c2 r s2 fun h3 t3 nw3 tx tt htx c3 s3 => ?_)
  dsimp only
  refine wpAny_execs_cons (law_starts he c3 r htx s3 fun h4 t4 nw4 ta sv hsv hs3 m4 c4 s4 => ?_)
  dsimp only
  refine law_dicts he c4 htx hn1 hn8 s4 hsv m4 fun h5 t5 nw5 sa ca c5 s5 => ?_
  refine wpAny_execs_cons (law_for2 (g := { g with tx := tx }) he c5 r hs3 s5 fun h6 t6 nw6 v1 v2 v3 v4 cs oi B M c6 s6 => ?_)
  dsimp only
  refine law_due (g := { g with tx := tx }) he c6 r s6.toY fun h7 t7 nw7 kv7 du c7 s7 d7 => ?_
  refine law_told (g := { g with tx := tx }) he c7 r s7 d7 fun h8 t8 nw8 ow kp td c8 s8 d8 r8 => ?_
  refine law_back (g := { g with tx := tx }) he c8 r s8 d8 r8 fun h9 t9 nw9 c9 => ?_
  exact q _ _ _ _ c9
end


theorem CellsAre.names {cm : Str → Option Value} {cs : List (Str × Addr)} {cells : Led} (h : CellsAre cm cs cells) : cells.map (·.1) = cs.map (·.2) := by
  induction h with
  | nil => rfl
  | cons _ _ ih => simp only [List.map_cons, ih]
set_option maxRecDepth 100000 in
theorem law_cells (w : World) (L : Addr) : cellsFrom (L + 1) (lawScope w).names [] = lawC L := by rfl
set_option maxRecDepth 100000 in
/-- the law, from its call on -/
theorem law_start {w : World} {mean : ExcName → Option Value} {mg mb : Str → Option Value} {s₁ : Shared} {h₁ : Heap} {tk₁ : Nat} {cells : Led} {fa la : Addr} {cd : Value} {m cm : Str → Option Value} {vs : List Value} {ns : List Int}
    (T : Top Mine.hd.view_39 LS mean mg mb s₁.heap) (KX : (KK w).In s₁.heap) (F : Fr s₁.heap s₁.heap.objs.size h₁ m) (hm : m = mp (lawL la none none none none none none none none)) (N0 : News s₁.heap s₁.heap.objs.size h₁ cells)
    (X0 : CellsAre cm (cellsFrom (s₁.heap.objs.size + 1) (lawScope w).names []) cells) (hcm : (lawC s₁.heap.objs.size).map (fun p => (p.1, cm p.1)) = lawV none none none none none none none none none)
    (hL : s₁.heap.IsList la vs.toArray) (hI : IntsAre vs ns) (hlen : vs.length ≤ 100) (hg : s₁.gens = #[]) :
    wpAny (model PG w) (callerA.deeper (lawE w s₁.heap.objs.size fa cd)) (execs (lawL15 w) (lawE w s₁.heap.objs.size fa cd)) (fun f s' => f = .ret (.bool true) ∧ s'.gens = #[] ∧ s'.os = s₁.os ∧ ∃ L m, Fr s₁.heap L s'.heap m) (fun _ _ => False) { s₁ with heap := h₁, toks := tk₁ } := by
  rw [law_cells] at X0
  have hns := CellsAre.names X0
  have hsz : 17 < s₁.heap.objs.size := Heap.lt_size (KX 17 _ rfl)
  let Γ : Gm := ⟨w, mean, mg, mb, s₁.heap, s₁.gens, s₁.drawn, s₁.os⟩
  have cl : CellsAt cells (lawC s₁.heap.objs.size) (lawV none none none none none none none none none) := by
    rw [← hcm]
    exact CellsAt.of X0 fun p hp => hp
  have c : Fx Γ (callerA.deeper (lawE w s₁.heap.objs.size fa cd)) (lawE w s₁.heap.objs.size fa cd) [] s₁.heap s₁.heap.objs.size h₁ (lawL la none none none none none none none none) cells :=
    { B := ⟨_, below_caller s₁.heap⟩
      F := hm ▸ F
      X := KX
      N := N0
      T := T
      hA := Around.frames_deeper rfl
      hh := rfl
      hf := rfl
      hk := rfl
      loc := rfl
      glo := rfl
      blt := rfl
      nd := by rw [hns]; exact lawC_nd2 _
      nl := by show (["script", "rows", "starts", "top", "cache", "start", "end", "node", "told"] : List Str).Nodup; decide
      hi := fun p hp => by
        have h1 : p.1 ∈ (lawC s₁.heap.objs.size).map (·.2) := by rw [← hns]; exact List.mem_map_of_mem (f := (·.1)) hp
        have h2 : ∀ b ∈ (lawC s₁.heap.objs.size).map (·.2), s₁.heap.objs.size ≤ b := fun b hb => by
          simp only [lawC, List.map_cons, List.map_nil, List.mem_cons, List.not_mem_nil, or_false] at hb
          rcases hb with rfl | rfl | rfl | rfl | rfl | rfl | rfl | rfl | rfl <;> exact Nat.le_add_right _ _
        exact Nat.lt_of_lt_of_le (Nat.lt_of_le_of_lt (by decide) hsz) (h2 _ h1) }
  have r : Room (callerA.deeper (lawE w s₁.heap.objs.size fa cd)) 60 := by
    refine ⟨?_, ?_⟩
    · rw [depth_deeper]; decide
    · show callerA.units + 3 + 16 * 60 ≤ 9000
      decide
  exact law_ok (Γ := Γ) rfl c r cl hL hI hlen fun h' t' l' nw' c' => ⟨rfl, hg, rfl, _, _, c'.F⟩
theorem law_start2 {w : World} {mean : ExcName → Option Value} {mg mb : Str → Option Value} {s₁ : Shared} {h₁ : Heap} {tk₁ : Nat} {cells : Led} {fa la : Addr} {cd : Value} {k : Str → Option NameKind} {vs : List Value} {ns : List Int}
    (T : Top Mine.hd.view_39 LS mean mg mb s₁.heap) (KX : (KK w).In s₁.heap) (hk : k (Str.ofString "script") = some .local) (F : Fr s₁.heap s₁.heap.objs.size h₁ (bindL k [(Str.ofString "script", .ref la)] fun _ => none)) (N0 : News s₁.heap s₁.heap.objs.size h₁ cells)
    (X0 : CellsAre (bindC k [(Str.ofString "script", .ref la)] fun _ => none) (cellsFrom (s₁.heap.objs.size + 1) (lawScope w).names []) cells)
    (hL : s₁.heap.IsList la vs.toArray) (hI : IntsAre vs ns) (hlen : ¬ (63 : Int) < ns.length) (hg : s₁.gens = #[]) :
    wpAny (model PG w) (callerA.deeper (lawE w s₁.heap.objs.size fa cd)) (execs (lawL15 w) (lawE w s₁.heap.objs.size fa cd)) (fun f s' => f = .ret (.bool true) ∧ s'.gens = #[] ∧ s'.os = s₁.os ∧ ∃ L m, Fr s₁.heap L s'.heap m) (fun _ _ => False) { s₁ with heap := h₁, toks := tk₁ } := by
  have e1 : (bindL k [(Str.ofString "script", .ref la)] fun _ => none) = mp (lawL la none none none none none none none none) := by
    show (if k (Str.ofString "script") = some .local then fun y => if y = Str.ofString "script" then some (Value.ref la) else none else fun _ => none) = _
    rw [if_pos hk]
    refine Eq.trans ?_ (mp_nones [(Str.ofString "script", some (Value.ref la))] ["rows", "starts", "top", "cache", "start", "end", "node", "told"]).symm
    funext y
    show _ = (List.lookup y [(Str.ofString "script", some (Value.ref la))]).join
    rw [List.lookup_cons]
    by_cases e : y = Str.ofString "script"
    · subst e; simp
    · rw [if_neg e, beq_eq_false_iff_ne.mpr e]; rfl
  have e2 : (bindC k [(Str.ofString "script", .ref la)] fun _ => none) = fun _ => none := by
    show (if k (Str.ofString "script") = some .local then fun _ => none else _) = _
    rw [if_pos hk]
  rw [e2] at X0
  have hn : vs.length = ns.length := IntsAre.length hI
  exact law_start T KX F e1 N0 X0 rfl hL hI (by omega) hg

end Mine
set_option maxRecDepth 100000 in
set_option maxHeartbeats 8000000 in
theorem PySem.Challenge.cw_vz0024_01_holds : PySem.Challenge.rw_vz0024_01.Holds := by
  refine Mine.hd ?_
  k_fill
  intro w s₀ s₁ mg mb G Y fa o pm cd doc dV kV ho hd hcd hD hmg hg args vals as hpre hlay hrd hwl hlo
  have KX := km_in_of Y
  have X := (Ground.X G).1
  have V := (Ground.X G).2
  refine Ground.open G ?_
  intro T B D TE TW
  try (refine guard_noD D (by decide +kernel) ?_; clear D)
  clear hmg
  wrow_args hpre hlay hrd hwl hlo
  rename_i ns _ _ _ _ _ _ _ la vs _ hL _ _ _ hI _ hlen _
  refine enter_call ?_
  refine codeAny_mono ?_ (fun _ _ g => GoodW.toG g)
  have he := Dflts.none hD rfl
  subst he
  have he := Dflts.noKw hD
  subst he
  refine call_cellsN (by decide) ho (fd_plain hd) (Top.nolimit T) hcd rfl (kinds_of (by kinds_ok)) (by decide) fun h₁ tk₁ cells F N0 X0 => ?_
  clear hd
  refine wpAny_mono (Q := fun f s' => f = .ret (.bool true) ∧ s'.gens = #[] ∧ s'.os = s₁.os ∧ ∃ L m, Fr s₁.heap L s'.heap m) (E := fun _ _ => False) ?_ (fun f s' z => ?_) fun _ _ z => z.elim
  rotate_left
  · obtain ⟨rfl, h1, h2, L, m, F⟩ := z
    exact goodW_bool F h1 (by first | (intro c; rfl) | exact raisesW_false (by wrow_none_raised)) (postW_of (by wrow_shape) (by wtm_val) (by str_meet; first | done | w_fin)) h2
  exact Mine.law_start2 T KX (by rfl) F N0 X0 hL hI hlen hg
