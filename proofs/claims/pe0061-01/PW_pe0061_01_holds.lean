import PyProof.Rows.All
import Wide.All
import OpenK.AllK
import Wide.FinOn
import PySem.Challenge.RW_pe0061_01

section
open PySem PySem.W PyProof.Rows
set_option Elab.async false
set_option maxRecDepth 100000
set_option maxHeartbeats 8000000
namespace Mine
open_top hd for PySem.Challenge.rw_pe0061_01
end Mine
end
section
open PySem PySem.W PyProof.Rows PySem.Calls
set_option Elab.async false
set_option maxRecDepth 100000
namespace Mine

/-- the top, as a heap holds it -/
structure Tp (w : World) (h : Heap) : Prop where
  K : (hd.heap_39 w.params).In h
  T : ∃ p loose mg mb, TopRead p loose mg mb h
abbrev Sub (h h' : Heap) : Prop := ∀ b o, h.get? b = some o → h'.get? b = some o
theorem Tp.keeps {w : World} {h h' : Heap} (X : Tp w h) (k : Sub h h') : Tp w h' :=
  ⟨X.K.keeps k, let ⟨p, l, mg, mb, T⟩ := X.T; ⟨p, l, mg, mb, T.keeps k⟩⟩
theorem Tp.nolimit {w : World} {h : Heap} (X : Tp w h) : h.NoLimit := let ⟨_, _, _, _, T⟩ := X.T; T.nolimit

/-- the ledger: the call's own objects, each address once -/
structure Led (g : Heap) (L : Addr) (h : Heap) (nw : List (Addr × Obj)) : Prop where
  N : News g L h nw
  nd : (nw.map (·.1)).Nodup
theorem Led.nil {g h : Heap} {L : Addr} : Led g L h [] := ⟨News.nil, List.nodup_nil⟩
theorem Led.get {g h : Heap} {L a : Addr} {o : Obj} {nw : List (Addr × Obj)} (D : Led g L h nw) (m : (a, o) ∈ nw) : h.get? a = some o := (D.N _ m).1
theorem Led.perm {g h : Heap} {L : Addr} {a b : List (Addr × Obj)} (D : Led g L h a) (p : a.Perm b) : Led g L h b :=
  ⟨fun q hq => D.N q (p.mem_iff.mpr hq), (p.map _).nodup_iff.mp D.nd⟩
theorem Led.sub {g h : Heap} {L : Addr} {a b : List (Addr × Obj)} (D : Led g L h a) (p : b.Sublist a) : Led g L h b :=
  ⟨fun q hq => D.N q (p.subset hq), D.nd.sublist (p.map _)⟩
theorem Led.keeps {g h h' : Heap} {L : Addr} {nw : List (Addr × Obj)} (D : Led g L h nw) (k : Sub h h') : Led g L h' nw :=
  ⟨D.N.grown k, D.nd⟩
theorem Led.lt {g h : Heap} {L : Addr} {nw : List (Addr × Obj)} (D : Led g L h nw) : ∀ p ∈ nw, p.1 < h.objs.size := fun p hp => Heap.lt_size (D.N p hp).1
theorem Led.set {g h h' : Heap} {L : Addr} {nw : List (Addr × Obj)} (D : Led g L h nw) (hs : Heap.SameBut L h h') : Led g L h' nw := ⟨D.N.set hs, D.nd⟩
theorem Led.push {g h : Heap} {L : Addr} {m : Str → Option Value} {nw : List (Addr × Obj)} (F : Fr g L h m) (D : Led g L h nw) (o : Obj) (hf : o.isFreed = false := by rfl) : Led g L (h.push o) ((h.objs.size, o) :: nw) :=
  ⟨D.N.push F o hf, by
    rw [List.map_cons]
    refine List.nodup_cons.mpr ⟨fun q => ?_, D.nd⟩
    obtain ⟨p, hp, e⟩ := List.mem_map.mp q
    have := D.lt p hp
    rw [e] at this
    exact Nat.lt_irrefl _ this⟩
theorem nd_mid {pre post : List (Addr × Obj)} {d : Addr} {o : Obj} (nd : ((pre ++ (d, o) :: post).map (·.1)).Nodup) : (∀ p ∈ pre, p.1 ≠ d) ∧ ∀ p ∈ post, p.1 ≠ d := by
  rw [List.map_append, List.map_cons] at nd
  have h := List.nodup_append.mp nd
  refine ⟨fun p hp e => ?_, fun p hp e => ?_⟩
  · exact h.2.2 p.1 (List.mem_map_of_mem hp) d (List.mem_cons_self) e
  · exact (List.nodup_cons.mp h.2.1).1 (List.mem_map.mpr ⟨p, hp, e⟩)
/-- one object of the ledger changed -/
theorem Led.change {g h h' : Heap} {L d : Addr} {o o' : Obj} {m : Str → Option Value} {pre post : List (Addr × Obj)} (F : Fr g L h m) (D : Led g L h (pre ++ (d, o) :: post)) (hs : Heap.SameBut d h h') (ho : h'.get? d = some o') :
    Fr g L h' m ∧ Led g L h' (pre ++ (d, o') :: post) := by
  have z := D.N (d, o) (List.mem_append.mpr (.inr (.head _)))
  obtain ⟨a, b⟩ := nd_mid D.nd
  refine ⟨F.change hs z.2.1 z.2.2, news_set D.N a b hs ho, ?_⟩
  have := D.nd
  rw [List.map_append, List.map_cons] at this ⊢
  exact this

/-- what a call leaves: all that stood, and new objects -/
structure New (h h' : Heap) (nw : List (Addr × Obj)) : Prop where
  keep : Sub h h'
  new : ∀ p ∈ nw, h'.get? p.1 = some p.2 ∧ h.get? p.1 = none
  nd : (nw.map (·.1)).Nodup
theorem New.of {g h : Heap} {L : Addr} {m : Str → Option Value} {nw : List (Addr × Obj)} (F : Fr g L h m) (D : Led g L h nw) : New g h nw :=
  ⟨F.keep, fun p hp => ⟨(D.N p hp).1, (D.N p hp).2.2⟩, D.nd⟩
theorem New.sub {h h' : Heap} {a b : List (Addr × Obj)} (D : New h h' a) (p : b.Sublist a) : New h h' b :=
  ⟨D.keep, fun q hq => D.new q (p.subset hq), D.nd.sublist (p.map _)⟩
theorem New.after {g h h' : Heap} {L : Addr} {m : Str → Option Value} {nw nx : List (Addr × Obj)} (F : Fr g L h m) (D : Led g L h nw) (W : New h h' nx) : Fr g L h' m ∧ Led g L h' (nx ++ nw) := by
  refine ⟨F.after W.keep, fun p hp => ?_, ?_⟩
  · rcases List.mem_append.mp hp with q | q
    · have z := W.new p q
      refine ⟨z.1, fun e => ?_, ?_⟩
      · obtain ⟨oL, _, _, hL, _⟩ := F.ns
        rw [e, hL] at z; exact absurd z.2 (by simp)
      · cases y : g.get? p.1 with
        | none => rfl
        | some o => have := F.keep _ _ y; rw [z.2] at this; cases this
    · have z := D.N p q
      exact ⟨W.keep _ _ z.1, z.2⟩
  · rw [List.map_append]
    refine List.nodup_append.mpr ⟨W.nd, D.nd, fun a ha b hb e => ?_⟩
    obtain ⟨p, hp, rfl⟩ := List.mem_map.mp ha
    obtain ⟨q, hq, rfl⟩ := List.mem_map.mp hb
    have z := W.new p hp
    have y := (D.N q hq).1
    rw [← e, z.2] at y
    cases y

section
variable {prog : Program} {w : World} {A : Around} {E : Value → Shared → Prop} {s : Shared} {Q : Value → Shared → Prop}

/-- the call of a def of the top that has no cells; the heap at the call is the ground -/
theorem callK {name qual : Str} {params : Arguments} {body : List Stmt} {scope : Scope} {dV kV doc pm cdv ct oc : Value} {an od : Option Addr} {osl : Array (Option Value)} {f : Addr} {args : List Value} {binds : List (Str × Value)}
    (X : Tp w s.heap) (hroom : A.depth < recursionLimit)
    (ho : (hd.heap_39 w.params).lookup f = some ⟨oc, od, .func (fnOf name qual params body scope dV kV doc pm an cdv ct), osl⟩) (hcd : codeIn (hd.heap_39 w.params) cdv qual = true)
    (hbind : bindArgs (fnOf name qual params body scope dV kV doc pm an cdv ct) ⟨args, []⟩ = pure binds) (hloc : (binds.all fun y => decide (scope.names.lookup y.1 = some .local)) = true)
    (h : ∀ h₁, Fr s.heap s.heap.objs.size h₁ (fun y => binds.reverse.lookup y) →
      wpAny (model prog w) (A.deeper (envX qual scope s.heap.objs.size f cdv [])) (execs body (envX qual scope s.heap.objs.size f cdv []))
        (fun fl s' => Q (match fl with | .ret v => v | _ => .none) s') (fun _ _ => False) { s with heap := h₁, toks := s.toks + binds.length })
    (hco : scope.isCoroutine = false := by rfl) (hgen : scope.isGenerator = false := by rfl) (hk : scope.kind = .function := by rfl)
    (hcell : ∀ x ∈ scope.names, x.2 ≠ .cell := by decide) : wpAny (model prog w) A (call (.ref f) args) Q E s := by
  refine wpAny_call (codeAny_call_def (fd := fnOf name qual params body scope dV kV doc pm an cdv ct) (body := body) (binds := binds) hroom (X.K _ _ ho) rfl X.nolimit (codeRec_of X.K hcd) rfl (.of_eq hbind) hcell (locs hloc) (fun h₁ hns hk₁ => ?_) hco hgen hk)
  exact wpAny_mono (h h₁ ⟨hns, hk₁, Nat.le_refl _⟩) (fun _ _ x => x) fun _ _ x => x.elim

/-- the same, with cells -/
theorem callKC {name qual : Str} {params : Arguments} {body : List Stmt} {scope : Scope} {dV kV doc pm cdv ct oc : Value} {an od : Option Addr} {osl : Array (Option Value)} {f : Addr} {args : List Value} {binds : List (Str × Value)}
    (X : Tp w s.heap) (hroom : A.depth < recursionLimit)
    (ho : (hd.heap_39 w.params).lookup f = some ⟨oc, od, .func (fnOf name qual params body scope dV kV doc pm an cdv ct), osl⟩) (hcd : codeIn (hd.heap_39 w.params) cdv qual = true)
    (hbind : bindArgs (fnOf name qual params body scope dV kV doc pm an cdv ct) ⟨args, []⟩ = pure binds)
    (hkind : (binds.all fun y => scope.names.lookup y.1 == some .local || scope.names.lookup y.1 == some .cell) = true)
    (hnd : ((cellsFrom 0 scope.names []).map (·.1)).Nodup)
    (h : ∀ L h₁ tk cells, Fr s.heap L h₁ (bindL (envX qual scope L f cdv (cellsFrom (L + 1) scope.names [])).kindOf binds fun _ => none) → News s.heap L h₁ cells →
      CellsAre (bindC (envX qual scope L f cdv (cellsFrom (L + 1) scope.names [])).kindOf binds fun _ => none) (cellsFrom (L + 1) scope.names []) cells →
      wpAny (model prog w) (A.deeper (envX qual scope L f cdv (cellsFrom (L + 1) scope.names []))) (execs body (envX qual scope L f cdv (cellsFrom (L + 1) scope.names [])))
        (fun fl s' => Q (match fl with | .ret v => v | _ => .none) s') (fun _ _ => False) { s with heap := h₁, toks := tk })
    (hco : scope.isCoroutine = false := by rfl) (hgen : scope.isGenerator = false := by rfl) (hk : scope.kind = .function := by rfl) : wpAny (model prog w) A (call (.ref f) args) Q E s := by
  refine wpAny_call (codeAny_call_function (fd := fnOf name qual params body scope dV kV doc pm an cdv ct) hroom (X.K _ _ ho) rfl hco hgen rfl (codeRec_of X.K hcd) (BindsTo.of_eq hbind _ _ _ _ ?_))
  refine wpAny_newFunctionEnv_cells hk (kindsX hkind _) fun env' he s' x => ?_
  subst he
  refine ⟨X.nolimit.keeps x.toInCall.keep, codeAny_func ?_⟩
  obtain ⟨h₁, tk, rfl, _⟩ := x.done
  have hk₁ := x.toInCall.keep
  obtain ⟨cells, NC, Y⟩ := Cl.news (h₀ := s.heap) (Nat.le_refl _) fun n c hm => ⟨x.cell n c (lookup_of_mem_nodup (cellsFrom_names scope.names 0 (s.heap.objs.size + 1) [] [] rfl ▸ hnd) hm), x.above n c hm⟩
  exact wpAny_mono (h s.heap.objs.size h₁ tk cells ⟨x.toInCall.ns, hk₁, Nat.le_refl _⟩ NC Y) (fun _ _ x => x) fun _ _ x => x.elim
end
end Mine
end
section
open PySem PySem.W PyProof.Rows PySem.Calls
set_option Elab.async false
set_option maxRecDepth 100000
namespace Mine
/-- the objects that stand at the written addresses -/
def ownAt (h : Heap) (wr : List Addr) : List (Addr × Obj) := wr.filterMap fun b => (h.get? b).map fun o => (b, o)
theorem mem_ownAt {h : Heap} {wr : List Addr} {p : Addr × Obj} : p ∈ ownAt h wr ↔ p.1 ∈ wr ∧ h.get? p.1 = some p.2 := by
  unfold ownAt
  rw [List.mem_filterMap]
  constructor
  · rintro ⟨b, hb, e⟩
    cases q : h.get? b with
    | none => rw [q] at e; cases e
    | some o => rw [q] at e; cases e; exact ⟨hb, q⟩
  · rintro ⟨a, b⟩
    exact ⟨p.1, a, by rw [b]; rfl⟩
theorem ownAt_nd {h : Heap} : ∀ {wr : List Addr}, wr.Nodup → ((ownAt h wr).map (·.1)).Nodup
  | [], _ => List.nodup_nil
  | b :: wr, nd => by
    have q := List.nodup_cons.mp nd
    have ih := ownAt_nd (h := h) q.2
    unfold ownAt
    cases e : h.get? b with
    | none => rw [List.filterMap_cons_none (by rw [e]; rfl)]; exact ih
    | some o =>
      rw [List.filterMap_cons_some (b := (b, o)) (by rw [e]; rfl), List.map_cons]
      refine List.nodup_cons.mpr ⟨fun m => ?_, ih⟩
      obtain ⟨p, hp, ep⟩ := List.mem_map.mp m
      have := (mem_ownAt (p := p)).mp hp
      exact q.1 ((show p.1 = b from ep) ▸ this.1)
theorem led_own {g h : Heap} {L : Addr} {wr : List Addr} {nw : List (Addr × Obj)} (nd : wr.Nodup) (hL : L ∉ wr) (hwr : ∀ b ∈ wr, g.get? b = none) (D : Led g L h nw) (hnw : ∀ p ∈ nw, p.1 ∉ wr) : Led g L h (ownAt h wr ++ nw) := by
  refine ⟨fun p hp => ?_, ?_⟩
  · rcases List.mem_append.mp hp with q | q
    · have z := mem_ownAt.mp q
      exact ⟨z.2, fun e => hL (e ▸ z.1), hwr _ z.1⟩
    · exact D.N p q
  · rw [List.map_append]
    refine List.nodup_append.mpr ⟨ownAt_nd nd, D.nd, fun a ha b hb e => ?_⟩
    obtain ⟨p, hp, rfl⟩ := List.mem_map.mp ha
    obtain ⟨q, hq, rfl⟩ := List.mem_map.mp hb
    exact hnw q hq (e ▸ (mem_ownAt.mp hp).1)
theorem led_right {g h : Heap} {L : Addr} {a b : List (Addr × Obj)} (D : Led g L h (a ++ b)) : Led g L h b := D.sub (List.sublist_append_right a b)
theorem led_off {g h : Heap} {L : Addr} {h₁ : Heap} {wr : List Addr} {b : List (Addr × Obj)} (D : Led g L h (ownAt h₁ wr ++ b)) (all : ∀ x ∈ wr, ∃ o, h₁.get? x = some o) : ∀ p ∈ b, p.1 ∉ wr := fun p hp q => by
  obtain ⟨o, ho⟩ := all _ q
  have nd := D.nd
  rw [List.map_append] at nd
  exact (List.nodup_append.mp nd).2.2 p.1 (List.mem_map.mpr ⟨(p.1, o), mem_ownAt.mpr ⟨q, ho⟩, rfl⟩) p.1 (List.mem_map_of_mem hp) rfl

/-- the end of a turn -/
def Turn (g : Heap) (L : Addr) (own : List (Addr × Obj)) (J : (Str → Option Value) → List (Addr × Obj) → Prop) (s : Shared) (R : Result → Shared → Prop) (f : Flow) (s₃ : Shared) : Prop :=
  match f with
  | .ret v => R (.ok (.ret v)) s₃
  | .brk => R (.ok .next) s₃
  | _ => ∃ h tk m nw, s₃ = { s with heap := h, toks := tk } ∧ Fr g L h m ∧ Led g L h (own ++ nw) ∧ J m nw

section
variable {prog : Program} {w : World} {A : Around} {s : Shared} {env : Env} {g : Heap} {L : Addr} {R : Result → Shared → Prop} {target : Expr} {body : List Stmt} {I : Addr} {fp wr : List Addr} {n : Nat} {St : Nat → Heap → Prop} {m : Str → Option Value} {nw : List (Addr × Obj)}

/-- a for over things that are no tuples of the iterator's own -/
theorem for_walk {P : Nat → Value → Prop} (J : Nat → (Str → Option Value) → List (Addr × Obj) → Prop) (W : Walks prog w A I fp wr n P St) (nd : wr.Nodup) (alive : ∀ i h, St i h → ∀ b ∈ wr, ∃ o, h.get? b = some o)
    (hL : L ∉ wr) (hwr : ∀ b ∈ wr, g.get? b = none) (hnw : ∀ p ∈ nw, p.1 ∉ wr)
    (hfix : ∀ b ∈ fp, b ∉ wr → ∃ o, g.get? b = some o ∨ ∀ i m nw, J i m nw → (b, o) ∈ nw)
    (hgo : ∀ v, letOwnedTupleGo target (.ref I) v = pure ())
    (hst : St 0 s.heap) (F : Fr g L s.heap m) (D : Led g L s.heap nw) (h0 : J 0 m nw)
    (step : ∀ i v m₁ nw₁ h tk own, i < n → P i v → J i m₁ nw₁ → Fr g L h m₁ → Led g L h (own ++ nw₁) →
      wpAny (model prog w) A (assign target env v) (fun _ s₂ => wpAny (model prog w) A (execs body env) (Turn g L own (J (i + 1)) s R) (fun _ _ => False) s₂) (fun _ _ => False) { s with heap := h, toks := tk })
    (done : ∀ m₁ nw₁ h tk, J n m₁ nw₁ → Fr g L h m₁ → Led g L h nw₁ → R (.ok .next) { s with heap := h, toks := tk }) :
    codeAny (model prog w) A (.forLoop target (.ref I) body [] env) R s := by
  refine codeAny_forLoop_any (fun k s' => ∃ h tk m' nw' i, s' = { s with heap := h, toks := tk } ∧ St i h ∧ Fr g L h m' ∧ Led g L h nw' ∧ (∀ p ∈ nw', p.1 ∉ wr) ∧ J i m' nw' ∧ i ≤ n ∧ k = n + 1 - i) ?_ (n + 1)
    ⟨s.heap, s.toks, m, nw, 0, rfl, hst, F, D, hnw, h0, Nat.zero_le _, rfl⟩
  rintro k s' ⟨H, tk, m', nw', i, rfl, hst', F', D', hnw', hJ, hi, rfl⟩
  have old : ∀ b o, g.get? b = some o → b ∉ wr := fun b o e hb => by rw [hwr b hb] at e; cases e
  have next : ∀ h₁ : Heap, (∀ b o, b ∉ wr → H.get? b = some o → h₁.get? b = some o) → Fr g L h₁ m' ∧ Led g L h₁ nw' := fun h₁ hk₁ =>
    ⟨⟨F'.ns.at' fun o e => hk₁ _ o hL e, fun b o e => hk₁ b o (old b o e) (F'.keep b o e), F'.above⟩, fun p hp => ⟨hk₁ _ _ (hnw' p hp) (D'.N p hp).1, (D'.N p hp).2⟩, D'.nd⟩
  by_cases hlt : i < n
  · refine W.item i _ _ _ hlt hst' fun v h₁ tk₁ hP hst₁ hk₁ => ?_
    obtain ⟨F₁, D₁⟩ := next h₁ hk₁
    refine wpAny_of_eq (hgo v) ?_
    refine wpAny_mono (step i v m' nw' h₁ tk₁ (ownAt h₁ wr) hlt hP hJ F₁ (led_own nd hL hwr D₁ hnw')) (fun _ s₂ h₂ => wpAny_mono h₂ (fun f s₃ h₃ => ?_) fun _ _ x => x.elim) fun _ _ x => x.elim
    have fin : (∃ h tk m nw, s₃ = { s with heap := h, toks := tk } ∧ Fr g L h m ∧ Led g L h (ownAt h₁ wr ++ nw) ∧ J (i + 1) m nw) →
        ∃ k', k' < n + 1 - i ∧ ∃ h tk m' nw' i, s₃ = { s with heap := h, toks := tk } ∧ St i h ∧ Fr g L h m' ∧ Led g L h nw' ∧ (∀ p ∈ nw', p.1 ∉ wr) ∧ J i m' nw' ∧ i ≤ n ∧ k' = n + 1 - i := by
      rintro ⟨h₃', tk₃, m₃, nw₃, rfl, F₃, D₃, hJ₃⟩
      refine ⟨n + 1 - (i + 1), by omega, h₃', tk₃, m₃, nw₃, i + 1, rfl, ?_, F₃, led_right D₃, led_off D₃ (alive _ _ hst₁), hJ₃, hlt, rfl⟩
      refine W.frame _ _ _ hst₁ fun b hb o e => ?_
      by_cases hbw : b ∈ wr
      · exact D₃.get (List.mem_append_left _ (mem_ownAt.mpr ⟨hbw, e⟩))
      · obtain ⟨o', q | q⟩ := hfix b hb hbw
        · have : some o' = some o := (F₁.keep b o' q).symm.trans e
          cases this; exact F₃.keep b _ q
        · have : some o' = some o := (D₁.get (q _ _ _ hJ)).symm.trans e
          cases this; exact (led_right D₃).get (q _ _ _ hJ₃)
    cases f with
    | ret v => exact h₃
    | brk => exact h₃
    | next => exact fin h₃
    | cont => exact fin h₃
  · have hin : i = n := by omega
    subst hin
    refine W.done _ _ _ hst' fun h₁ tk₁ hk₁ => wpAny_execs_nil ?_
    obtain ⟨F₁, D₁⟩ := next h₁ hk₁
    exact done m' nw' h₁ tk₁ hJ F₁ D₁

/-- a for over tuples -/
theorem for_walkU {elts : List Expr} {x1 : Nat} {pt : Pos} {Pt : Nat → Array Value → Prop} {Mid : Nat → Addr → Heap → Prop} (J : Nat → (Str → Option Value) → List (Addr × Obj) → Prop) {ow : List Addr} (W : WalksU prog w A I fp wr n Pt St Mid) (hsub : ∀ b ∈ wr, b ∈ ow) (nd : ow.Nodup) (alive : ∀ i h, St i h → ∀ b ∈ ow, ∃ o, h.get? b = some o)
    (hL : L ∉ ow) (hwr : ∀ b ∈ ow, g.get? b = none) (hnw : ∀ p ∈ nw, p.1 ∉ ow)
    (hfix : ∀ b ∈ fp, b ∉ ow → ∃ o, g.get? b = some o ∨ ∀ i m nw, J i m nw → (b, o) ∈ nw)
    (hst : St 0 s.heap) (F : Fr g L s.heap m) (D : Led g L s.heap nw) (h0 : J 0 m nw)
    (step : ∀ i T vals m₁ nw₁ h tk own, i < n → Pt i vals → J i m₁ nw₁ → Fr g L h m₁ → Led g L h (own ++ nw₁) → h.IsTuple T vals →
      wpAny (model prog w) A (assign (.Tuple elts x1 pt) env (.ref T)) (fun _ s₂ => wpAny (model prog w) A (execs body env) (Turn g L own (J (i + 1)) s R) (fun _ _ => False) s₂) (fun _ _ => False) { s with heap := h, toks := tk })
    (done : ∀ m₁ nw₁ h tk, J n m₁ nw₁ → Fr g L h m₁ → Led g L h nw₁ → R (.ok .next) { s with heap := h, toks := tk }) :
    codeAny (model prog w) A (.forLoop (.Tuple elts x1 pt) (.ref I) body [] env) R s := by
  refine codeAny_forLoop_any (fun k s' => ∃ h tk m' nw' i, s' = { s with heap := h, toks := tk } ∧ St i h ∧ Fr g L h m' ∧ Led g L h nw' ∧ (∀ p ∈ nw', p.1 ∉ ow) ∧ J i m' nw' ∧ i ≤ n ∧ k = n + 1 - i) ?_ (n + 1)
    ⟨s.heap, s.toks, m, nw, 0, rfl, hst, F, D, hnw, h0, Nat.zero_le _, rfl⟩
  rintro k s' ⟨H, tk, m', nw', i, rfl, hst', F', D', hnw', hJ, hi, rfl⟩
  have old : ∀ b o, g.get? b = some o → b ∉ wr := fun b o e hb => by rw [hwr b (hsub _ hb)] at e; cases e
  have next : ∀ h₁ : Heap, (∀ b o, b ∉ wr → H.get? b = some o → h₁.get? b = some o) → Fr g L h₁ m' ∧ Led g L h₁ nw' := fun h₁ hk₁ =>
    ⟨⟨F'.ns.at' fun o e => hk₁ _ o (fun q => hL (hsub _ q)) e, fun b o e => hk₁ b o (old b o e) (F'.keep b o e), F'.above⟩, fun p hp => ⟨hk₁ _ _ (fun q => hnw' p hp (hsub _ q)) (D'.N p hp).1, (D'.N p hp).2⟩, D'.nd⟩
  by_cases hlt : i < n
  · refine W.item i _ _ _ hlt hst' fun T vals h₀ tk₁ hP hT hMid hk₀ => ?_
    refine W.go _ x1 pt i T _ _ _ hMid fun h₁ hst₁ hk₁ => ?_
    have ht₁ : h₁.IsTuple T vals := hT.at fun o e => hk₁ T o (W.apart i T h₀ hMid) e
    obtain ⟨F₁, D₁⟩ := next h₁ fun b o hb e => hk₁ b o hb (hk₀ b o hb e)
    refine wpAny_mono (step i T vals m' nw' h₁ tk₁ (ownAt h₁ ow) hlt hP hJ F₁ (led_own nd hL hwr D₁ hnw') ht₁) (fun _ s₂ h₂ => wpAny_mono h₂ (fun f s₃ h₃ => ?_) fun _ _ x => x.elim) fun _ _ x => x.elim
    have fin : (∃ h tk m nw, s₃ = { s with heap := h, toks := tk } ∧ Fr g L h m ∧ Led g L h (ownAt h₁ ow ++ nw) ∧ J (i + 1) m nw) →
        ∃ k', k' < n + 1 - i ∧ ∃ h tk m' nw' i, s₃ = { s with heap := h, toks := tk } ∧ St i h ∧ Fr g L h m' ∧ Led g L h nw' ∧ (∀ p ∈ nw', p.1 ∉ ow) ∧ J i m' nw' ∧ i ≤ n ∧ k' = n + 1 - i := by
      rintro ⟨h₃', tk₃, m₃, nw₃, rfl, F₃, D₃, hJ₃⟩
      refine ⟨n + 1 - (i + 1), by omega, h₃', tk₃, m₃, nw₃, i + 1, rfl, ?_, F₃, led_right D₃, led_off D₃ (alive _ _ hst₁), hJ₃, hlt, rfl⟩
      refine W.frame _ _ _ hst₁ fun b hb o e => ?_
      by_cases hbw : b ∈ ow
      · exact D₃.get (List.mem_append_left _ (mem_ownAt.mpr ⟨hbw, e⟩))
      · obtain ⟨o', q | q⟩ := hfix b hb hbw
        · have : some o' = some o := (F₁.keep b o' q).symm.trans e
          cases this; exact F₃.keep b _ q
        · have : some o' = some o := (D₁.get (q _ _ _ hJ)).symm.trans e
          cases this; exact (led_right D₃).get (q _ _ _ hJ₃)
    cases f with
    | ret v => exact h₃
    | brk => exact h₃
    | next => exact fin h₃
    | cont => exact fin h₃
  · have hin : i = n := by omega
    subst hin
    refine W.done _ _ _ hst' fun h₁ tk₁ hk₁ => wpAny_execs_nil ?_
    obtain ⟨F₁, D₁⟩ := next h₁ hk₁
    exact done m' nw' h₁ tk₁ hJ F₁ D₁
end
end Mine
namespace Mine
section
variable {prog : Program} {w : World} {A : Around} {E : Value → Shared → Prop} {s : Shared} {env : Env} {g : Heap} {L : Addr} {R : Result → Shared → Prop} {target : Expr} {body : List Stmt} {m : Str → Option Value} {nw : List (Addr × Obj)}
theorem fresh_g {g h : Heap} {L : Addr} {m : Str → Option Value} (F : Fr g L h m) : g.get? h.objs.size = none := next_is_new F
theorem fresh_L {g h : Heap} {L : Addr} {m : Str → Option Value} (F : Fr g L h m) : L ∉ [h.objs.size] := fun q => by
  have := F.ns.lt
  rw [List.mem_singleton.mp q] at this
  exact Nat.lt_irrefl _ this
theorem fresh_nw {g h : Heap} {L : Addr} {nw : List (Addr × Obj)} (D : Led g L h nw) : ∀ p ∈ nw, p.1 ∉ [h.objs.size] := fun p hp q => by
  have := D.lt p hp
  rw [List.mem_singleton.mp q] at this
  exact Nat.lt_irrefl _ this
theorem led_push {g h : Heap} {L : Addr} {nw : List (Addr × Obj)} (D : Led g L h nw) (o : Obj) : Led g L (h.push o) nw := D.keeps fun _ _ e => Heap.get?_push_of_some _ e

/-- a for over a list that stays as it is -/
theorem for_list {x : Str} {px : Pos} {l : Addr} {vs : List Value} (J : Nat → (Str → Option Value) → List (Addr × Obj) → Prop) (hh : A.handled = none) (F : Fr g L s.heap m) (D : Led g L s.heap nw) (hl : s.heap.IsList l vs.toArray)
    (hfix : (∃ o, g.get? l = some o) ∨ ∃ o, ∀ i m nw, J i m nw → (l, o) ∈ nw) (h0 : J 0 m nw)
    (step : ∀ i v m₁ nw₁ h tk own, vs[i]? = some v → J i m₁ nw₁ → Fr g L h m₁ → Led g L h (own ++ nw₁) →
      wpAny (model prog w) A (assign (.Name x px) env v) (fun _ s₂ => wpAny (model prog w) A (execs body env) (Turn g L own (J (i + 1)) s R) (fun _ _ => False) s₂) (fun _ _ => False) { s with heap := h, toks := tk })
    (done : ∀ m₁ nw₁ h tk, J vs.length m₁ nw₁ → Fr g L h m₁ → Led g L h nw₁ → R (.ok .next) { s with heap := h, toks := tk }) :
    wpAny (model prog w) A (pyIter (.ref l)) (fun it s₂ => codeAny (model prog w) A (.forLoop (.Name x px) it body [] env) R s₂) E s := by
  refine wpAny_pyIter_list hl ?_
  have hl' := hl
  obtain ⟨ol, hol, _⟩ := hl'
  have hne : l ≠ s.heap.objs.size := Nat.ne_of_lt (Heap.lt_size hol)
  refine for_walk J (Walks.list hh s.heap.objs.size l hne vs.toArray) (by simp) ?_ (fresh_L F) ?_ (fresh_nw D) ?_ (fun _ => rfl) ⟨⟨_, Heap.get?_push_size _ rfl, rfl, rfl⟩, hl.push _⟩ (F.push _) (led_push D _) h0 ?_ ?_
  · rintro i h ⟨⟨o, ho, _⟩, _⟩ b hb
    rw [List.mem_singleton.mp hb]; exact ⟨o, ho⟩
  · intro b hb
    rw [List.mem_singleton.mp hb]
    exact fresh_g F
  · intro b hb hbw
    rcases List.mem_cons.mp hb with rfl | hb
    · exact absurd (List.mem_singleton.mpr rfl) hbw
    · rw [List.mem_singleton.mp hb]
      rcases hfix with ⟨o, h⟩ | ⟨o, h⟩
      · exact ⟨o, .inl h⟩
      · exact ⟨o, .inr h⟩
  · intro i v m₁ nw₁ h tk own hi hP hJ F₁ D₁
    exact step i v m₁ nw₁ h tk own (by simpa using hP) hJ F₁ D₁
  · intro m₁ nw₁ h tk hJ F₁ D₁
    exact done m₁ nw₁ h tk (by simpa using hJ) F₁ D₁

/-- a for over a list of tuples, all of the ground -/
theorem for_tuples {elts : List Expr} {x1 : Nat} {pt : Pos} {l : Addr} {items : Array Value} {Ts : Nat → Addr} {vals : Nat → Array Value} (J : Nat → (Str → Option Value) → List (Addr × Obj) → Prop) (hh : A.handled = none) (F : Fr g L s.heap m) (D : Led g L s.heap nw) (hl : g.IsList l items)
    (hit : ∀ j, j < items.size → items[j]? = some (.ref (Ts j))) (hT : ∀ j, j < items.size → g.IsTuple (Ts j) (vals j)) (h0 : J 0 m nw)
    (step : ∀ i T m₁ nw₁ h tk own, i < items.size → J i m₁ nw₁ → Fr g L h m₁ → Led g L h (own ++ nw₁) → h.IsTuple T (vals i) →
      wpAny (model prog w) A (assign (.Tuple elts x1 pt) env (.ref T)) (fun _ s₂ => wpAny (model prog w) A (execs body env) (Turn g L own (J (i + 1)) s R) (fun _ _ => False) s₂) (fun _ _ => False) { s with heap := h, toks := tk })
    (done : ∀ m₁ nw₁ h tk, J items.size m₁ nw₁ → Fr g L h m₁ → Led g L h nw₁ → R (.ok .next) { s with heap := h, toks := tk }) :
    wpAny (model prog w) A (pyIter (.ref l)) (fun it s₂ => codeAny (model prog w) A (.forLoop (.Tuple elts x1 pt) it body [] env) R s₂) E s := by
  refine wpAny_pyIter_list (hl.at fun o q => F.keep _ _ q) ?_
  have hl' := hl
  obtain ⟨ol, hol, _⟩ := hl'
  have hne : ∀ b o, g.get? b = some o → b ≠ s.heap.objs.size := fun b o q => Nat.ne_of_lt (Heap.lt_size (F.keep _ _ q))
  refine for_walkU J (WalksU.listOfTuples hh s.heap.objs.size l (hne _ _ hol) items Ts vals hit fun j hj => let ⟨o, ho, _⟩ := hT j hj; hne _ _ ho) (fun _ q => q) (by simp) ?_ (fresh_L F) ?_ (fresh_nw D) ?_
    ⟨⟨_, Heap.get?_push_size _ rfl, rfl, rfl⟩, (hl.at fun o q => F.keep _ _ q).push _, fun k hk => (hT k hk).at fun o q => Heap.get?_push_of_some _ (F.keep _ _ q)⟩ (F.push _) (led_push D _) h0 ?_ ?_
  · rintro i h ⟨⟨o, ho, _⟩, _⟩ b hb
    rw [List.mem_singleton.mp hb]; exact ⟨o, ho⟩
  · intro b hb
    rw [List.mem_singleton.mp hb]
    exact fresh_g F
  · intro b hb hbw
    rcases List.mem_cons.mp hb with rfl | hb
    · exact absurd (List.mem_singleton.mpr rfl) hbw
    · rcases List.mem_cons.mp hb with rfl | hb
      · exact ⟨ol, .inl hol⟩
      · obtain ⟨k, hk, rfl⟩ := List.mem_map.mp hb
        obtain ⟨o, ho, _⟩ := hT k (List.mem_range.mp hk)
        exact ⟨o, .inl ho⟩
  · rintro i T _ m₁ nw₁ h tk own hi rfl hJ F₁ D₁ hTup
    exact step i T m₁ nw₁ h tk own hi hJ F₁ D₁ hTup
  · exact done
end
end Mine
namespace Mine
section
variable {prog : Program} {w : World} {A : Around} {s : Shared} {env : Env} {R : Result → Shared → Prop} {test : Expr} {body : List Stmt}
theorem while_inv (I : Nat → Shared → Prop)
    (turn : ∀ n s, I n s → wpAny (model prog w) A (isTrue test env (eval test env)) (fun b s₂ =>
        if b = true then wpAny (model prog w) A (execs body env) (fun f s₃ => match f with
            | .next | .cont => ∃ m, m < n ∧ I m s₃
            | .brk => R (.ok .next) s₃
            | .ret v => R (.ok (.ret v)) s₃) (fun _ _ => False) s₂
        else R (.ok .next) s₂) (fun _ _ => False) s)
    (n : Nat) (h : I n s) : codeAny (model prog w) A (.whileLoop test body [] env) R s := by
  refine codeAny_whileLoop I (fun n s hI => wpAny_mono (turn n s hI) (fun b s₂ h₂ => ?_) fun _ _ x => x.elim) n h
  cases b with
  | true =>
    rw [if_pos rfl] at h₂
    refine (if_pos rfl).mpr (wpAny_mono h₂ (fun f s₃ h₃ => ?_) fun _ _ x => x.elim)
    cases f <;> exact h₃
  | false =>
    rw [if_neg (by decide)] at h₂
    exact (if_neg (by decide)).mpr (wpAny_execs_nil h₂)
end
end Mine
end
section
open PySem PySem.W PyProof.Rows PySem.Calls
set_option Elab.async false
set_option maxRecDepth 100000
namespace Mine
/-- the four units, in the order of their texts -/
def U (c : Fin 4) : Str := match c.val with
  | 0 => Str.ofString "'"
  | 1 => Str.ofString "\\'"
  | 2 => Str.ofString "\\\\"
  | _ => Str.ofString "a"
theorem U_lt : ∀ a b : Fin 4, decide ((U a).cps.toList < (U b).cps.toList) = decide (a < b) := by decide +kernel
theorem U_inj : ∀ a b : Fin 4, U a = U b → a = b := by decide +kernel

/-- two lists, item by item -/
inductive Rel2 {α β : Type} (R : α → β → Prop) : List α → List β → Prop where
  | nil : Rel2 R [] []
  | cons {x : α} {y : β} {xs : List α} {ys : List β} : R x y → Rel2 R xs ys → Rel2 R (x :: xs) (y :: ys)
namespace Rel2
variable {α β : Type} {R : α → β → Prop}
theorem length {xs : List α} {ys : List β} (h : Rel2 R xs ys) : xs.length = ys.length := by
  induction h with
  | nil => rfl
  | cons _ _ ih => simp [ih]
theorem append {xs xs' : List α} {ys ys' : List β} (h : Rel2 R xs ys) (h' : Rel2 R xs' ys') : Rel2 R (xs ++ xs') (ys ++ ys') := by
  induction h with
  | nil => exact h'
  | cons a _ ih => exact .cons a ih
theorem one {x : α} {y : β} (h : R x y) : Rel2 R [x] [y] := .cons h .nil
theorem get {xs : List α} {ys : List β} (h : Rel2 R xs ys) : ∀ {i : Nat} {y : β}, ys[i]? = some y → ∃ x, xs[i]? = some x ∧ R x y := by
  induction h with
  | nil => intro i y e; simp at e
  | cons a _ ih =>
    intro i y e
    cases i with
    | zero => simp at e; subst e; exact ⟨_, rfl, a⟩
    | succ i => simpa using ih (by simpa using e)
theorem get' {xs : List α} {ys : List β} (h : Rel2 R xs ys) : ∀ {i : Nat} {x : α}, xs[i]? = some x → ∃ y, ys[i]? = some y ∧ R x y := by
  induction h with
  | nil => intro i y e; simp at e
  | cons a _ ih =>
    intro i y e
    cases i with
    | zero => simp at e; subst e; exact ⟨_, rfl, a⟩
    | succ i => simpa using ih (by simpa using e)
theorem take {xs : List α} {ys : List β} (h : Rel2 R xs ys) : ∀ n, Rel2 R (xs.take n) (ys.take n) := by
  induction h with
  | nil => intro n; simp; exact .nil
  | cons a _ ih =>
    intro n
    cases n with
    | zero => exact .nil
    | succ n => exact .cons a (ih n)
theorem drop {xs : List α} {ys : List β} (h : Rel2 R xs ys) : ∀ n, Rel2 R (xs.drop n) (ys.drop n) := by
  induction h with
  | nil => intro n; simp; exact .nil
  | cons a r ih =>
    intro n
    cases n with
    | zero => exact .cons a r
    | succ n => exact ih n
theorem mono {R' : α → β → Prop} (hm : ∀ a b, R a b → R' a b) {xs : List α} {ys : List β} (h : Rel2 R xs ys) : Rel2 R' xs ys := by
  induction h with
  | nil => exact .nil
  | cons a _ ih => exact .cons (hm _ _ a) ih
end Rel2
def RU (v : Value) (c : Fin 4) : Prop := ∃ t, v = .str (U c) t
def RI (v : Value) (i : Int) : Prop := ∃ t, v = .int i t

/-- what compare tells, from the column j on -/
def cmpF (ls rs : List (Fin 4)) : Nat → List Int → Option Int
  | _, [] => some 0
  | j, d :: ds => match ls[j]?, rs[j]? with
    | some a, some b => if a < b then some (-d) else if b < a then some d else cmpF ls rs (j + 1) ds
    | _, _ => none
end Mine
end
section
open PySem PySem.W PyProof.Rows PySem.Calls
set_option Elab.async false
set_option maxRecDepth 100000
namespace Mine
abbrev upd (m : Str → Option Value) (x : Str) (v : Value) : Str → Option Value := fun y => if y = x then some v else m y
theorem upd_ne {m : Str → Option Value} {x y : Str} {v : Value} {r : Option Value} (h : m y = r) (hn : y ≠ x) : upd m x v y = r := by
  show (if y = x then some v else m y) = r
  rw [if_neg hn, h]
theorem pos {b : Bool} {P Q : Prop} (hb : b = true) (h : P) : if b = true then P else Q := by rw [if_pos hb]; exact h
theorem neg {b : Bool} {P Q : Prop} (hb : b = false) (h : Q) : if b = true then P else Q := by rw [if_neg (by rw [hb]; decide)]; exact h
section
variable {prog : Program} {w : World} {A : Around} {E : Value → Shared → Prop} {s : Shared} {g : Heap} {L a : Addr} {m : Str → Option Value} {nw : List (Addr × Obj)} {cn : Str} {cs : Scope} {ccd : Value} {cl : List (Str × Addr)}
theorem st {x : Str} {v : Value} {Q : Unit → Shared → Prop} (F : Fr g L s.heap m) (D : Led g L s.heap nw)
    (h : ∀ h', Fr g L h' (upd m x v) → Led g L h' nw → Q () { s with heap := h', toks := s.toks + 1 })
    (hk : cs.kind = .function := by rfl) (hx : (envX cn cs L a ccd cl).kindOf x = some .local := by rfl) : wpAny (model prog w) A (storeName (envX cn cs L a ccd cl) x v) Q E s :=
  storeX_L F D.N (fun h' F' N' => h h' F' ⟨N', D.nd⟩) hk hx
theorem asg {x : Str} {px : Pos} {v : Value} {Q : Unit → Shared → Prop} (F : Fr g L s.heap m) (D : Led g L s.heap nw)
    (h : ∀ h', Fr g L h' (upd m x v) → Led g L h' nw → Q () { s with heap := h', toks := s.toks + 1 })
    (hk : cs.kind = .function := by rfl) (hx : (envX cn cs L a ccd cl).kindOf x = some .local := by rfl) : wpAny (model prog w) A (assign (.Name x px) (envX cn cs L a ccd cl) v) Q E s :=
  wpAny_assign_Name (st F D h hk hx)
/-- two locals out of a tuple of two -/
theorem asg2 {x y : Str} {px py pt : Pos} {k : Nat} {T : Addr} {v u : Value} {Q : Unit → Shared → Prop} (hh : A.handled = none) (F : Fr g L s.heap m) (D : Led g L s.heap nw) (hT : s.heap.IsTuple T #[v, u])
    (h : ∀ h' tk, Fr g L h' (upd (upd m x v) y u) → Led g L h' nw → Q () { s with heap := h', toks := tk })
    (hk : cs.kind = .function := by rfl) (hx : (envX cn cs L a ccd cl).kindOf x = some .local := by rfl) (hy : (envX cn cs L a ccd cl).kindOf y = some .local := by rfl) :
    wpAny (model prog w) A (assign (.Tuple [.Name x px, .Name y py] k pt) (envX cn cs L a ccd cl) (.ref T)) Q E s := by
  refine unpackN_ F D.N hT hh rfl rfl fun h' F' N' => ?_
  refine assignInOrder_cons (asg F' ⟨N', D.nd⟩ (fun h₂ F₂ D₂ => ?_) hk hx)
  refine assignInOrder_cons (asg F₂ D₂ (fun h₃ F₃ D₃ => ?_) hk hy)
  exact assignInOrder_nil (h h₃ _ F₃ D₃)
/-- an item of a list at a place -/
theorem item_list {value slice : Expr} {l : Addr} {vs : List Value} {k : Int} {u : Tok} {v : Value} {Q : Value → Shared → Prop} (hl : s.heap.IsList l vs.toArray) (h0 : 0 ≤ k) (hhi : k < 2 ^ 63) (hx : vs[k.toNat]? = some v) (h : Q v s)
    (hs : subscripted slice false (.ref l) (.int k u) = operate [.ref l, .int k u] (getItem (.ref l) (.int k u)) := by with_unfolding_all rfl) :
    wpAny (model prog w) A (subscriptTail value slice (.ref l) (.int k u)) Q E s :=
  tail_any hl.typeIs slot_list_getitem.lookup (wpAny_getItem_list hl h0 hhi (by simpa using hx) h) hs
end
end Mine
end
section
open PySem PySem.W PyProof.Rows PySem.Calls
set_option Elab.async false
set_option maxRecDepth 100000
set_option linter.unusedVariables false
namespace Mine
/-- the order's object: its columns' directions -/
structure Order (h : Heap) (x : Addr) (ds : List Int) : Prop where
  obj : ∃ (dx : Addr) (es : List DictEntry) (n : Nat) (cl : Addr) (items : Array Value) (Ts : Nat → Addr), h.get? x = some (instObj 38 dx) ∧ h.get? dx = some (dictOf es n) ∧ getL "comp_select_list" es = some (some (.ref cl)) ∧ getL "compare" es = some none ∧ h.IsList cl items ∧ items.size = ds.length ∧
    ∀ (j : Nat) (d : Int), ds[j]? = some d → items[j]? = some (.ref (Ts j)) ∧ ∃ t u, h.IsTuple (Ts j) #[.int j t, .int d u]
theorem Order.keeps {h h' : Heap} {x : Addr} {ds : List Int} (o : Order h x ds) (k : Sub h h') : Order h' x ds :=
  let ⟨dx, es, n, cl, items, Ts, a, b, c, d, e, f, r⟩ := o.obj
  ⟨dx, es, n, cl, items, Ts, k _ _ a, k _ _ b, c, d, e.at fun o q => k _ _ q, f, fun j d hj => ⟨(r j d hj).1, let ⟨t, u, z⟩ := (r j d hj).2; ⟨t, u, z.at fun o q => k _ _ q⟩⟩⟩
theorem fill : (PySem.Challenge.rw_pe0061_01.prog, fun (P : Params) => hd.heap_39 P) = (PySem.Challenge.rw_pe0061_01.prog, fun (P : Params) => hd.heap_39 P) := by
  k_fill
  rfl
section
variable {prog : Program} {w : World} {A : Around} {E : Value → Shared → Prop} {s : Shared} {Q : Value → Shared → Prop}
theorem compare_spec {x l r : Addr} {lv rv : List Value} {ls rs : List (Fin 4)} {ds : List Int} {res : Int} (X : Tp w s.heap) (hh : A.handled = none) (hroom : A.depth < recursionLimit)
    (O : Order s.heap x ds) (hl : s.heap.IsList l lv.toArray) (hr : s.heap.IsList r rv.toArray) (ul : Rel2 RU lv ls) (ur : Rel2 RU rv rs) (hn : ds.length < 1000) (e : cmpF ls rs 0 ds = some res)
    (h : ∀ h' tk t, Sub s.heap h' → Q (.int res t) { s with heap := h', toks := tk }) :
    wpAny (model prog w) A (call (.ref 35) [.ref x, .ref l, .ref r]) Q E s := by
  obtain ⟨dx, es, n, cl, items, Ts, ox, od, hg, hm, hcl, hsz, hT⟩ := O.obj
  have key : ∀ j : Nat, ∃ arr : Array Value, ∀ d, ds[j]? = some d → s.heap.IsTuple (Ts j) arr ∧ ∃ t u, arr = #[.int j t, .int d u] := fun j => by
    cases hj : ds[j]? with
    | none => exact ⟨#[], fun d e => by cases e⟩
    | some d =>
      obtain ⟨t, u, z⟩ := (hT j d hj).2
      exact ⟨_, fun d' e => by cases e; exact ⟨z, t, u, rfl⟩⟩
  obtain ⟨vals, hv⟩ : ∃ vals : Nat → Array Value, ∀ j d, ds[j]? = some d → s.heap.IsTuple (Ts j) (vals j) ∧ ∃ t u, vals j = #[.int j t, .int d u] :=
    ⟨fun j => (key j).choose, fun j => (key j).choose_spec⟩
  refine callK (binds := [("self", .ref x), ("left", .ref l), ("right", .ref r)]) X hroom (by k_is) (by k_is) rfl rfl (fun h₁ F => ?_)
  refine wpAny_execs_cons (wpAny_For (Attribute_Name_ (nameX_L F rfl (get_own (K := hd.heap_39 w.params) F X.K ⟨F.keep _ _ ox, rfl, rfl, F.keep _ _ od⟩ (by k_is) (by k_is) (by k_is) (by k_is) hg rfl ?_))))
  have hlen : items.size = ds.length := hsz
  have some_d : ∀ j, j < items.size → ∃ d, ds[j]? = some d := fun j hj => ⟨ds[j]'(hlen ▸ hj), by simp [hlen ▸ hj]⟩
  refine for_tuples (g := s.heap) (L := s.heap.objs.size) (nw := []) (Ts := Ts) (vals := vals) (fun i m nw => nw = [] ∧ m "left" = some (.ref l) ∧ m "right" = some (.ref r) ∧ cmpF ls rs i (ds.drop i) = some res) hh F Led.nil hcl
    (fun j hj => let ⟨d, hd⟩ := some_d j hj; (hT j d hd).1) (fun j hj => let ⟨d, hd⟩ := some_d j hj; (hv j d hd).1) ⟨rfl, rfl, rfl, e⟩ ?_ ?_
  · rintro i T m₁ nw₁ h₂ tk own hi ⟨rfl, hml, hmr, he⟩ F₂ D₂ hTup
    obtain ⟨d, hdi⟩ := some_d i hi
    obtain ⟨t, u, hval⟩ := (hv i d hdi).2
    rw [hval] at hTup
    have hi' : i < ds.length := hlen ▸ hi
    rw [List.drop_eq_getElem_cons hi'] at he
    have hdd : ds[i] = d := by have := hdi; rw [List.getElem?_eq_getElem hi'] at this; exact Option.some.inj this
    rw [hdd] at he
    unfold cmpF at he
    cases ha : ls[i]? with
    | none => rw [ha] at he; cases he
    | some a =>
      cases hb : rs[i]? with
      | none => rw [ha, hb] at he; cases he
      | some b =>
        rw [ha, hb] at he
        dsimp only at he
        obtain ⟨va, hva, ta, rfl⟩ := ul.get ha
        obtain ⟨vb, hvb, tb, rfl⟩ := ur.get hb
        refine asg2 hh F₂ D₂ hTup fun h₃ tk₃ F₃ D₃ => ?_
        refine wpAny_execs_cons (wpAny_Assign_Name (Subscript_ (nameX_L F₃ (upd_ne (upd_ne hml (by decide)) (by decide)) (nameX_L F₃ rfl (item_list (hl.at fun o q => F₃.keep _ _ q) (by omega) (by omega) (by simpa using hva) (st F₃ D₃ fun h₄ F₄ D₄ => ?_))))))
        refine wpAny_execs_cons (wpAny_Assign_Name (Subscript_ (nameX_L F₄ (upd_ne (upd_ne (upd_ne hmr (by decide)) (by decide)) (by decide)) (nameX_L F₄ rfl (item_list (hr.at fun o q => F₄.keep _ _ q) (by omega) (by omega) (by simpa using hvb) (st F₄ D₄ fun h₅ F₅ D₅ => ?_))))))
        refine wpAny_execs_cons (wpAny_If (wpAny_isTrue_Compare1 (nameX_L F₅ rfl (nameX_L F₅ rfl (PyProof.Rows.lt_str (wpAny_truthy_bool ?_))))))
        rw [U_lt]
        by_cases hab : a < b
        · rw [if_pos hab] at he; cases he
          rw [decide_eq_true hab, if_pos rfl]
          exact wpAny_execs_cons (wpAny_Return_some (wpAny_UnaryOp (nameX_L F₅ rfl (neg_int (h _ _ _ F₅.keep)))))
        · rw [if_neg hab] at he
          rw [decide_eq_false hab, if_neg (by decide)]
          refine wpAny_execs_nil (wpAny_execs_cons (wpAny_If (wpAny_isTrue_Compare1 (nameX_L F₅ rfl (nameX_L F₅ rfl (P.gt_str (wpAny_truthy_bool ?_)))))))
          rw [U_lt]
          by_cases hba : b < a
          · rw [if_pos hba] at he; cases he
            rw [decide_eq_true hba, if_pos rfl]
            exact wpAny_execs_cons (wpAny_Return_some (nameX_L F₅ rfl (h _ _ _ F₅.keep)))
          · rw [if_neg hba] at he
            rw [decide_eq_false hba, if_neg (by decide)]
            refine wpAny_execs_nil (wpAny_execs_nil ⟨h₅, _, _, [], rfl, F₅, D₅, rfl, ?_, ?_, he⟩)
            · exact upd_ne (upd_ne (upd_ne (upd_ne hml (by decide)) (by decide)) (by decide)) (by decide)
            · exact upd_ne (upd_ne (upd_ne (upd_ne hmr (by decide)) (by decide)) (by decide)) (by decide)
  · rintro m₁ nw₁ h₂ tk ⟨rfl, hml, hmr, he⟩ F₂ D₂
    rw [hlen, List.drop_length] at he
    cases he
    exact wpAny_execs_cons (wpAny_Return_some (wpAny_Constant_int (h _ _ _ F₂.keep)))
end
end Mine
end
section
open PySem PySem.W PyProof.Rows PySem.Calls
set_option Elab.async false
set_option maxRecDepth 100000
set_option linter.unusedVariables false
namespace Mine
/-- a tally's entry -/
def RE (kv : Str × Value) (e : Fin 4 × Int) : Prop := kv.1 = U e.1 ∧ RI kv.2 e.2
def TabO (prog : Program) (w : World) (o : Obj) (es : List (Fin 4 × Int)) : Prop := ∃ kvs, o.IsDictOf (PySem.strKind prog w) kvs ∧ Rel2 RE kvs es
def Tab (prog : Program) (w : World) (h : Heap) (d : Addr) (es : List (Fin 4 × Int)) : Prop := (d == sysModules) = false ∧ ∃ o, h.get? d = some o ∧ TabO prog w o es
theorem Tab.keeps {prog : Program} {w : World} {h h' : Heap} {d : Addr} {es : List (Fin 4 × Int)} (T : Tab prog w h d es) (k : Sub h h') : Tab prog w h' d es :=
  let ⟨a, o, b, c⟩ := T; ⟨a, o, k _ _ b, c⟩
theorem Tab.kvs {prog : Program} {w : World} {h : Heap} {d : Addr} {es : List (Fin 4 × Int)} (T : Tab prog w h d es) : ∃ kvs, h.DictOf (PySem.strKind prog w) d kvs ∧ Rel2 RE kvs es :=
  let ⟨_, o, b, kvs, c, e⟩ := T; ⟨kvs, Heap.dictOf_iff.mpr ⟨o, b, c⟩, e⟩
theorem valueAt_of {kvs : List (Str × Value)} {es : List (Fin 4 × Int)} (r : Rel2 RE kvs es) (c : Fin 4) : (es.lookup c = none ∧ valueAt kvs (U c) = none) ∨ ∃ n t, es.lookup c = some n ∧ valueAt kvs (U c) = some (.int n t) := by
  induction r with
  | nil => exact .inl ⟨rfl, rfl⟩
  | @cons kv e kvs es h r ih =>
    obtain ⟨h1, t, h2⟩ := h
    unfold valueAt at ih ⊢
    rw [List.find?_cons, List.lookup_cons]
    by_cases q : c = e.1
    · subst q
      rw [beq_self_eq_true, decide_eq_true h1]
      exact .inr ⟨e.2, t, rfl, by rw [← h2]; rfl⟩
    · have q1 : (c == e.1) = false := beq_eq_false_iff_ne.mpr q
      have q2 : ¬ kv.1 = U c := fun z => q (U_inj _ _ (z.symm.trans h1))
      rw [q1, decide_eq_false q2]
      exact ih
/-- one more of c -/
def addF (es : List (Fin 4 × Int)) (c : Fin 4) (d : Int) : List (Fin 4 × Int) := match es.lookup c with
  | some n => es.map fun e => if e.1 = c then (e.1, n + d) else e
  | none => es ++ [(c, d)]
theorem any_key {kvs : List (Str × Value)} {es : List (Fin 4 × Int)} (r : Rel2 RE kvs es) (c : Fin 4) : kvs.any (fun kv => decide (kv.1 = U c)) = (es.lookup c).isSome := by
  induction r with
  | nil => rfl
  | @cons kv e kvs es h r ih =>
    rw [List.any_cons, List.lookup_cons, ih]
    by_cases q : c = e.1
    · subst q; rw [beq_self_eq_true, decide_eq_true h.1]; rfl
    · have q1 : (c == e.1) = false := beq_eq_false_iff_ne.mpr q
      have q2 : ¬ kv.1 = U c := fun z => q (U_inj _ _ (z.symm.trans h.1))
      rw [q1, decide_eq_false q2]; rfl
theorem stored_some {kvs : List (Str × Value)} {es : List (Fin 4 × Int)} (r : Rel2 RE kvs es) {c : Fin 4} {n d : Int} {t : Tok} (hl : es.lookup c = some n) : Rel2 RE (stored kvs (U c) (.int (n + d) t)) (addF es c d) := by
  unfold stored addF
  rw [any_key r, hl, if_pos (show (some n).isSome = true from rfl)]
  dsimp only
  clear hl
  induction r with
  | nil => exact .nil
  | @cons kv e kvs es h r ih =>
    refine .cons ?_ ih
    dsimp only
    by_cases q : e.1 = c
    · have q2 : kv.1 = U c := by rw [h.1, q]
      rw [if_pos q, if_pos q2]; exact ⟨h.1, t, rfl⟩
    · have q2 : ¬ kv.1 = U c := fun z => q (U_inj _ _ (h.1.symm.trans z))
      rw [if_neg q, if_neg q2]; exact h
theorem stored_none {kvs : List (Str × Value)} {es : List (Fin 4 × Int)} (r : Rel2 RE kvs es) {c : Fin 4} {d : Int} {t : Tok} (hl : es.lookup c = none) : Rel2 RE (stored kvs (U c) (.int d t)) (addF es c d) := by
  unfold stored addF
  rw [any_key r, hl, if_neg (by decide)]
  exact r.append (.one ⟨rfl, t, rfl⟩)

theorem entry_itemiter_iter : entryFor table "dict_itemiterator.__iter__" = some Builtin.«dict_keyiterator.__iter__» :=
  entryFor_alias (id' := "dict_keyiterator.__iter__") (by kernel_rfl) rfl (by decide +kernel) (by kernel_rfl)
section
variable {prog : Program} {w : World} {K : Type} [DecidableEq K] {knd : PySem.KeyKind prog w K} {A : Around} {E : Value → Shared → Prop} {s : Shared}
theorem pyIter_itemiter {it d : Addr} {i n ep : Nat} {ok ov : Value} {Q : Value → Shared → Prop} (hit : IsItemIter s.heap it d i n ep ok ov) (h : Q (.ref it) s) : wpAny (model prog w) A (pyIter (.ref it)) Q E s := by
  have hT : s.TypeIs (.ref it) "dict_itemiterator" := ⟨_, hit, rfl⟩
  refine wpAny_pyIter_slot hT F.slot_dict_itemiterator_iter (wpAny_call_entry F.slot_dict_itemiterator_iter hT entry_itemiter_iter ?_ (F.args_dict_itemiterator_iter_1 _))
  show wpAny _ _ (ret (.ref it)) _ _ s
  exact wpAny_pure ⟨_, rfl, "dict_itemiterator", _, hT, F.slot_dict_itemiterator_next.lookup, h⟩
theorem walksItems (hh : A.handled = none) (I d : Addr) (hne : d ≠ I) (kvs : List (K × Value)) (ep : Nat) :
    WalksU prog w A I [I, d] [I] kvs.length (fun i vals => ∃ k v key, kvs[i]? = some (k, v) ∧ knd.is k key = true ∧ vals = #[key, v])
      (fun i h => (∃ ok ov, IsItemIter h I d i kvs.length ep ok ov) ∧ h.DictAt knd d kvs ep)
      (fun i T h => T ≠ I ∧ (∃ ok ov, IsItemIterOut h I d (i + 1) kvs.length ep ok ov T) ∧ h.DictAt knd d kvs ep) where
  sub := fun b hb => by simp at hb; simp [hb]
  frame := fun _ _ _ st hk => ⟨let ⟨ok, ov, z⟩ := st.1; ⟨ok, ov, hk I (by simp) _ z⟩, st.2.at' fun o e => hk d (by simp) o e⟩
  item := fun i s Q E hi st hQ => by
    obtain ⟨⟨k, x⟩, hx⟩ : ∃ p, kvs[i]? = some p := ⟨kvs[i], by simp [hi]⟩
    obtain ⟨⟨ok, ov, z⟩, m⟩ := st
    refine wpAny_pyNext_items_item z m hx fun key h' hkey hio ht hz hk => ?_
    refine hQ s.heap.objs.size #[key, x] h' s.toks ⟨k, x, key, hx, hkey, rfl⟩ ⟨_, ht, rfl, _, rfl⟩ ⟨Nat.ne_of_gt (Heap.lt_size z), ⟨_, _, hio⟩, m.at' fun o e => hk d o hne e⟩ fun b o hb e => hk b o (fun q => hb (by simp [q])) e
  go := fun _ _ _ i T s Q _ hm hQ => by
    obtain ⟨hT, ⟨ok, ov, z⟩, m⟩ := hm
    refine wpAny_letOwnedTupleGo_items z fun h' hi hs => ?_
    exact hQ h' ⟨⟨_, _, hi⟩, m.extBut hs.extBut hne⟩ fun b o hb e => hs.extBut b o (fun q => hb (by simp [q])) e
  apart := fun i T h hm q => hm.1 (by simpa using q)
  done := fun s Q E st hQ => by
    obtain ⟨⟨ok, ov, z⟩, m⟩ := st
    exact wpAny_pyNext_items_end hh z m (by simp) fun h' he' => hQ h' s.toks fun b o hb e => he' b o (fun h => hb (by simp [h])) e
  self := fun _ _ _ _ st hQ => let ⟨⟨_, _, z⟩, _⟩ := st; pyIter_itemiter z hQ
end
section
variable {prog : Program} {w : World} {K : Type} [DecidableEq K] {knd : PySem.KeyKind prog w K} {A : Around} {E : Value → Shared → Prop} {s : Shared} {env : Env} {g : Heap} {L : Addr} {R : Result → Shared → Prop} {body : List Stmt} {m : Str → Option Value} {nw : List (Addr × Obj)}
/-- for .. in d.items(), d of the ground -/
theorem for_items {elts : List Expr} {x1 : Nat} {pt : Pos} {d v : Addr} {kvs : List (K × Value)} (J : Nat → (Str → Option Value) → List (Addr × Obj) → Prop) (hh : A.handled = none) (F : Fr g L s.heap m) (D : Led g L s.heap nw)
    (hd : g.DictOf knd d kvs) (hv : s.heap.IsItemsView v d) (h0 : J 0 m nw)
    (step : ∀ i T k x key m₁ nw₁ h tk own, kvs[i]? = some (k, x) → knd.is k key = true → J i m₁ nw₁ → Fr g L h m₁ → Led g L h (own ++ nw₁) → h.IsTuple T #[key, x] →
      wpAny (model prog w) A (assign (.Tuple elts x1 pt) env (.ref T)) (fun _ s₂ => wpAny (model prog w) A (execs body env) (Turn g L own (J (i + 1)) s R) (fun _ _ => False) s₂) (fun _ _ => False) { s with heap := h, toks := tk })
    (done : ∀ m₁ nw₁ h tk, J kvs.length m₁ nw₁ → Fr g L h m₁ → Led g L h nw₁ → R (.ok .next) { s with heap := h, toks := tk }) :
    wpAny (model prog w) A (pyIter (.ref v)) (fun it s₂ => codeAny (model prog w) A (.forLoop (.Tuple elts x1 pt) it body [] env) R s₂) E s := by
  obtain ⟨ep, hd'⟩ := hd.dictAt
  have hds := hd'.keep F.keep
  refine wpAny_pyIter_items hv hds ?_
  obtain ⟨o, es, ho, _⟩ := id hd'
  have hne : d ≠ s.heap.objs.size := Nat.ne_of_lt (Heap.lt_size (F.keep _ _ ho))
  refine for_walkU J (walksItems (knd := knd) hh s.heap.objs.size d hne kvs ep) (fun _ q => q) (by simp) ?_ (fresh_L F) ?_ (fresh_nw D) ?_ ⟨⟨_, _, Heap.get?_push_size _ rfl⟩, hds.push _⟩ (F.push _) (led_push D _) h0 ?_ ?_
  · rintro i h ⟨⟨_, _, ho⟩, _⟩ b hb
    rw [List.mem_singleton.mp hb]; exact ⟨_, ho⟩
  · intro b hb
    rw [List.mem_singleton.mp hb]
    exact fresh_g F
  · intro b hb hbw
    rcases List.mem_cons.mp hb with rfl | hb
    · exact absurd (List.mem_singleton.mpr rfl) hbw
    · rw [List.mem_singleton.mp hb]
      exact ⟨o, .inl ho⟩
  · rintro i T vals m₁ nw₁ h tk own hi ⟨k, x, key, hx, hkey, rfl⟩ hJ F₁ D₁ hT
    exact step i T k x key m₁ nw₁ h tk own hx hkey hJ F₁ D₁ hT
  · exact done
/-- for .. in d.values(), d of the ground -/
theorem for_values {x : Str} {px : Pos} {d v : Addr} {kvs : List (K × Value)} (J : Nat → (Str → Option Value) → List (Addr × Obj) → Prop) (hh : A.handled = none) (F : Fr g L s.heap m) (D : Led g L s.heap nw)
    (hd : g.DictOf knd d kvs) (hv : s.heap.IsValuesView v d) (h0 : J 0 m nw)
    (step : ∀ i k y m₁ nw₁ h tk own, kvs[i]? = some (k, y) → J i m₁ nw₁ → Fr g L h m₁ → Led g L h (own ++ nw₁) →
      wpAny (model prog w) A (assign (.Name x px) env y) (fun _ s₂ => wpAny (model prog w) A (execs body env) (Turn g L own (J (i + 1)) s R) (fun _ _ => False) s₂) (fun _ _ => False) { s with heap := h, toks := tk })
    (done : ∀ m₁ nw₁ h tk, J kvs.length m₁ nw₁ → Fr g L h m₁ → Led g L h nw₁ → R (.ok .next) { s with heap := h, toks := tk }) :
    wpAny (model prog w) A (pyIter (.ref v)) (fun it s₂ => codeAny (model prog w) A (.forLoop (.Name x px) it body [] env) R s₂) E s := by
  obtain ⟨ep, hd'⟩ := hd.dictAt
  have hds := hd'.keep F.keep
  refine wpAny_pyIter_values hv hds ?_
  obtain ⟨o, es, ho, _⟩ := id hd'
  have hne : d ≠ s.heap.objs.size := Nat.ne_of_lt (Heap.lt_size (F.keep _ _ ho))
  refine for_walk J (Walks.dictValues (knd := knd) hh s.heap.objs.size d hne kvs ep) (by simp) ?_ (fresh_L F) ?_ (fresh_nw D) ?_ (fun _ => rfl) ⟨⟨_, Heap.get?_push_size _ rfl, rfl, rfl⟩, hds.push _⟩ (F.push _) (led_push D _) h0 ?_ ?_
  · rintro i h ⟨⟨_, ho, _⟩, _⟩ b hb
    rw [List.mem_singleton.mp hb]; exact ⟨_, ho⟩
  · intro b hb
    rw [List.mem_singleton.mp hb]
    exact fresh_g F
  · intro b hb hbw
    rcases List.mem_cons.mp hb with rfl | hb
    · exact absurd (List.mem_singleton.mpr rfl) hbw
    · rw [List.mem_singleton.mp hb]
      exact ⟨o, .inl ho⟩
  · rintro i y m₁ nw₁ h tk own hi ⟨k, hx⟩ hJ F₁ D₁
    exact step i k y m₁ nw₁ h tk own hx hJ F₁ D₁
  · exact done
/-- one entry of a dict of the ledger stored -/
theorem setD {d : Addr} {o : Obj} {kvs : List (K × Value)} {k : K} {key v : Value} {pre post : List (Addr × Obj)} {Q : Unit → Shared → Prop} (hkey : knd.is k key = true) (F : Fr g L s.heap m) (D : Led g L s.heap (pre ++ (d, o) :: post)) (hd : o.IsDictOf knd kvs)
    (h : ∀ h' o', Fr g L h' m → Led g L h' (pre ++ (d, o') :: post) → o'.IsDictOf knd (stored kvs k v) → Q () { s with heap := h', toks := s.toks + 1 }) (hsz : kvs.length ≤ sizeLine) :
    wpAny (model prog w) A (setItem (.ref d) key v) Q E s := by
  refine wpAny_setItem_pairs hkey (Heap.dictOf_iff.mpr ⟨o, D.get (List.mem_append_right _ (.head _)), hd⟩) (fun h' hm hs => ?_) hsz
  obtain ⟨o', ho', hd'⟩ := Heap.dictOf_iff.mp hm
  obtain ⟨F', D'⟩ := Led.change F D hs ho'
  exact h h' o' F' D' hd'
end
end Mine
end
section
open PySem PySem.W PyProof.Rows PySem.Calls
set_option Elab.async false
set_option maxRecDepth 100000
set_option maxHeartbeats 4000000
set_option linter.unusedVariables false
namespace Mine
theorem fill2 : (PySem.Challenge.rw_pe0061_01.prog, fun (P : Params) => hd.heap_39 P) = (PySem.Challenge.rw_pe0061_01.prog, fun (P : Params) => hd.heap_39 P) := by
  k_fill
  rfl
section
variable {prog : Program} {w : World} {A : Around} {E : Value → Shared → Prop} {s : Shared} {Q : Value → Shared → Prop} {K : Type} [DecidableEq K] {knd : PySem.KeyKind prog w K}
theorem m_items {d : Addr} {kvs : List (K × Value)} {pl : Sem Bool} {pos : Pos} {env : Env} (hd : s.heap.DictOf knd d kvs) (lo : (d == sysModules) = false)
    (h : Q (.ref s.heap.objs.size) { s with heap := s.heap.push { cls := .type "dict_items", data := .fields #[.ref d] } }) :
    wpAny (model prog w) A (getMethod (.ref d) "items" pl) (fun fx s₂ => wpAny (model prog w) A (callWith pos fx.1 fx.2 (backTo pos (starEach [] env)) []) Q E s₂) E s :=
  getMethod_builtin hd.typeIs PySem.F.plainAttrs_dict PySem.F.slot_dict_items PySem.F.type_dict_items hd.mapOf.noDict
    (callWith_method0 (call_meetsIn PySem.F.slot_dict_items hd.typeIs PySem.F.entry_dict_items (PySem.F.args_dict_items_1 _) (meets_dict_items knd d lo) ⟨⟨kvs, hd⟩, h⟩))
theorem m_values {d : Addr} {kvs : List (K × Value)} {pl : Sem Bool} {pos : Pos} {env : Env} (hd : s.heap.DictOf knd d kvs) (lo : (d == sysModules) = false)
    (h : Q (.ref s.heap.objs.size) { s with heap := s.heap.push { cls := .type "dict_values", data := .fields #[.ref d] } }) :
    wpAny (model prog w) A (getMethod (.ref d) "values" pl) (fun fx s₂ => wpAny (model prog w) A (callWith pos fx.1 fx.2 (backTo pos (starEach [] env)) []) Q E s₂) E s :=
  getMethod_builtin hd.typeIs PySem.F.plainAttrs_dict PySem.F.slot_dict_values PySem.F.type_dict_values hd.mapOf.noDict
    (callWith_method0 (call_meetsIn PySem.F.slot_dict_values hd.typeIs PySem.F.entry_dict_values (PySem.F.args_dict_values_1 _) (meets_dict_values knd d lo) ⟨⟨kvs, hd⟩, h⟩))
theorem stored_new {kvs : List (K × Value)} {i : Nat} {k : K} {v : Value} (nd : (kvs.map (·.1)).Nodup) (hx : kvs[i]? = some (k, v)) : stored (kvs.take i) k v = kvs.take (i + 1) := by
  have hlt : i < kvs.length := by
    rcases Nat.lt_or_ge i kvs.length with h | h
    · exact h
    · rw [List.getElem?_eq_none h] at hx; cases hx
  have hno : (kvs.take i).any (fun kv => decide (kv.1 = k)) = false := by
    rw [List.any_eq_false]
    intro kv hkv q
    obtain ⟨j, hj, e⟩ := List.mem_take_iff_getElem.mp hkv
    have hji : j < i := by omega
    have hjl : j < kvs.length := by omega
    have e1 : (kvs.map (·.1))[j]'(by simpa using hjl) = k := by simp only [List.getElem_map, e]; exact of_decide_eq_true q
    have e2 : (kvs.map (·.1))[i]'(by simpa using hlt) = k := by
      simp only [List.getElem_map]
      rw [List.getElem?_eq_getElem hlt] at hx
      rw [Option.some.inj hx]
    exact List.pairwise_iff_getElem.mp nd j i (by simpa using hjl) (by simpa using hlt) hji (e1.trans e2.symm)
  unfold stored
  rw [hno, if_neg (by decide), List.take_add_one, hx]
  rfl
theorem add_spec {dt dr : Addr} {es : List (Fin 4 × Int)} {c : Fin 4} {d : Int} (X : Tp w s.heap) (hh : A.handled = none) (hroom : A.depth < recursionLimit)
    (T : Tab prog w s.heap dt es) (S : Tab prog w s.heap dr [(c, d)]) (hlen : es.length < 1000)
    (h : ∀ h' tk a o, New s.heap h' [(a, o)] → (a == sysModules) = false → TabO prog w o (addF es c d) → Q (.ref a) { s with heap := h', toks := tk }) :
    wpAny (model prog w) A (call (.ref 49) [.ref dt, .ref dr]) Q E s := by
  obtain ⟨kvs, hk, rk⟩ := T.kvs
  obtain ⟨kvr, hr, rr⟩ := S.kvs
  have lt : (dt == sysModules) = false := T.1
  have lr : (dr == sysModules) = false := S.1
  have nd : (kvs.map (·.1)).Nodup := let ⟨_, _, _, _, _, _, _, _, n⟩ := hk; n
  have hlk : kvs.length < 1000 := rk.length ▸ hlen
  refine callK (binds := [("target", .ref dt), ("source", .ref dr)]) X hroom (by k_is) (by k_is) rfl rfl (fun h₁ F => ?_)
  refine wpAny_execs_cons (wpAny_Assign_Name (newDict_K F News.nil X.nolimit fun D h₂ o F₂ N₂ _ lo hs _ _ _ => st F₂ ⟨N₂, by simp⟩ fun h₃ F₃ D₃ => ?_))
  refine wpAny_execs_cons (wpAny_For (MethodCall_ (nameX_L F₃ rfl (m_items (hk.keep F₃.keep) lt ?_))))
  refine for_items (knd := PySem.strKind prog w) (kvs := kvs) (nw := [(D, o)]) (fun i m nw => ∃ o, nw = [(D, o)] ∧ o.IsDictOf (PySem.strKind prog w) (kvs.take i) ∧ m "new_callers" = some (.ref D) ∧ m "source" = some (.ref dr)) hh (F₃.push _) (led_push D₃ _) hk ⟨_, Heap.get?_push_size _ rfl, rfl, rfl⟩ ⟨o, rfl, hs, rfl, rfl⟩ ?_ ?_
  · rintro i T' k x key m₁ nw₁ h₄ tk own hx hkey ⟨o₁, rfl, ho₁, hm1, hm2⟩ F₄ D₄ hT
    refine asg2 hh F₄ D₄ hT fun h₅ tk₅ F₅ D₅ => ?_
    refine wpAny_execs_cons (wpAny_Assign_Subscript (nameX_L F₅ rfl (nameX_L F₅ (upd_ne (upd_ne hm1 (by decide)) (by decide)) (nameX_L F₅ rfl (setD hkey F₅ D₅ ho₁ (fun h₆ o₆ F₆ D₆ ho₆ => ?_) ?_)))))
    · refine wpAny_execs_nil ⟨h₆, _, _, [(D, o₆)], rfl, F₆, D₆, o₆, rfl, ?_, upd_ne (upd_ne hm1 (by decide)) (by decide), upd_ne (upd_ne hm2 (by decide)) (by decide)⟩
      rw [stored_new nd hx] at ho₆
      exact ho₆
    · rw [List.length_take, sizeLine_eq]; omega
  · rintro m₁ nw₁ h₄ tk ⟨o₁, rfl, ho₁, hm1, hm2⟩ F₄ D₄
    rw [List.take_length] at ho₁
    refine wpAny_execs_cons (wpAny_For (MethodCall_ (nameX_L F₄ hm2 (m_items (hr.keep F₄.keep) lr ?_))))
    refine for_items (knd := PySem.strKind prog w) (kvs := kvr) (nw := [(D, o₁)]) (fun i m nw => ∃ o, nw = [(D, o)] ∧ TabO prog w o (if i = 0 then es else addF es c d) ∧ m "new_callers" = some (.ref D)) hh (F₄.push _) (led_push D₄ _) hr ⟨_, Heap.get?_push_size _ rfl, rfl, rfl⟩ ⟨o₁, rfl, ⟨kvs, ho₁, rk⟩, hm1⟩ ?_ ?_
    · rintro i T' k x key m₂ nw₂ h₅ tk₅ own hx hkey ⟨o₂, rfl, ⟨kvs₂, ho₂, rk₂⟩, hm⟩ F₅ D₅ hT
      have hi : i = 0 := by
        have := rr.length
        have q : i < kvr.length := by
          rcases Nat.lt_or_ge i kvr.length with h | h
          · exact h
          · rw [List.getElem?_eq_none h] at hx; cases hx
        rw [this] at q; simp at q; omega
      subst hi
      obtain ⟨⟨c', d'⟩, he, hre⟩ := rr.get' hx
      simp at he
      obtain ⟨rfl, rfl⟩ := he
      obtain ⟨hkc, t, hxt⟩ := hre
      dsimp only at hkc hxt
      subst hkc hxt
      rw [if_pos rfl] at rk₂
      have hd₂ : ∀ h, Led s.heap s.heap.objs.size h (own ++ [(D, o₂)]) → h.DictOf (PySem.strKind prog w) D kvs₂ := fun h q => Heap.dictOf_iff.mpr ⟨o₂, q.get (List.mem_append_right _ (.head _)), ho₂⟩
      refine asg2 hh F₅ D₅ hT fun h₆ tk₆ F₆ D₆ => ?_
      dsimp only
      have hmn : upd (upd m₂ "func" key) "caller" (.int d t) "new_callers" = some (.ref D) := upd_ne (upd_ne hm (by decide)) (by decide)
      refine wpAny_execs_cons (wpAny_If (wpAny_isTrue_Compare1 (nameX_L F₆ rfl (nameX_L F₆ hmn (wpAny_in_of hkey lo (hd₂ _ D₆).mapOf (wpAny_truthy_bool ?_))))))
      have hsz : kvs₂.length ≤ sizeLine := by rw [rk₂.length, sizeLine_eq]; omega
      rcases valueAt_of rk₂ c with ⟨hl, hv⟩ | ⟨n, t', hl, hv⟩
      · rw [hv]
        refine neg rfl ?_
        refine wpAny_execs_cons (wpAny_Assign_Subscript (nameX_L F₆ rfl (nameX_L F₆ hmn (nameX_L F₆ rfl (setD hkey F₆ D₆ ho₂ (fun h₇ o₇ F₇ D₇ ho₇ => ?_) hsz)))))
        exact wpAny_execs_nil (wpAny_execs_nil ⟨h₇, _, _, [(D, o₇)], rfl, F₇, D₇, o₇, rfl, ⟨_, ho₇, by rw [if_neg (by decide)]; exact stored_none rk₂ hl⟩, hmn⟩)
      · rw [hv]
        refine pos rfl ?_
        obtain ⟨p, loose, mg, mb, TT⟩ := X.T
        refine wpAny_execs_cons (wpAny_If (isTrue_plain (Call_ (nameX_B F₆ X.K TT (by k_is) (by boot_fast) (by decide) ?_))))
        refine PyProof.Rows.callWith_builtin1 (spliced_more (nameX_L F₆ rfl (spliced_more (nameX_B F₆ X.K TT (by k_is) (by boot_fast) (by decide) ?_))))
        refine spliced_none (IsiPair.int_tuple (wpAny_truthy_bool (neg rfl ?_)))
        refine wpAny_execs_cons (wpAny_AugAssign_SubscriptAny (nameX_L F₆ hmn (nameX_L F₆ rfl (wpAny_getItem_of hkey (hd₂ _ D₆).mapOf hv (nameX_L F₆ rfl (iadd_int (setD hkey F₆ D₆ ho₂ (fun h₇ o₇ F₇ D₇ ho₇ => ?_) hsz)))))))
        exact wpAny_execs_nil (wpAny_execs_nil (wpAny_execs_nil ⟨h₇, _, _, [(D, o₇)], rfl, F₇, D₇, o₇, rfl, ⟨_, ho₇, by rw [if_neg (by decide)]; exact stored_some rk₂ hl⟩, hmn⟩))
    · rintro m₂ nw₂ h₅ tk₅ ⟨o₂, rfl, ho₂, hm⟩ F₅ D₅
      rw [rr.length, if_neg (by simp)] at ho₂
      exact wpAny_execs_cons (wpAny_Return_some (nameX_L F₅ hm (h _ _ D o₂ (.of F₅ D₅) lo ho₂)))
/-- the sum of a tally -/
theorem count_spec {d : Addr} {es : List (Fin 4 × Int)} (X : Tp w s.heap) (hh : A.handled = none) (hroom : A.depth < recursionLimit) (T : Tab prog w s.heap d es)
    (h : ∀ h' tk t, Sub s.heap h' → Q (.int (es.map (·.2)).sum t) { s with heap := h', toks := tk }) :
    wpAny (model prog w) A (call (.ref 56) [.ref d]) Q E s := by
  obtain ⟨kvs, hk, rk⟩ := T.kvs
  refine callK (binds := [("callers", .ref d)]) X hroom (by k_is) (by k_is) rfl rfl (fun h₁ F => ?_)
  refine wpAny_execs_cons (wpAny_Assign_Name (wpAny_Constant_int (st F Led.nil fun h₂ F₂ D₂ => ?_)))
  refine wpAny_execs_cons (wpAny_For (MethodCall_ (nameX_L F₂ rfl (m_values (hk.keep F₂.keep) T.1 ?_))))
  refine for_values (knd := PySem.strKind prog w) (kvs := kvs) (nw := []) (fun i m nw => nw = [] ∧ ∃ t, m "nc" = some (.int ((es.take i).map (·.2)).sum t)) hh (F₂.push _) Led.nil hk ⟨_, Heap.get?_push_size _ rfl, rfl, rfl⟩ ⟨rfl, _, rfl⟩ ?_ ?_
  · rintro i k y m₁ nw₁ h₃ tk own hx ⟨rfl, t, hm⟩ F₃ D₃
    obtain ⟨⟨c, n⟩, he, _, u, hy⟩ := rk.get' hx
    dsimp only at hy
    subst hy
    refine asg F₃ D₃ fun h₄ F₄ D₄ => ?_
    refine wpAny_execs_cons (wpAny_AugAssign_Name (wpAny_loadName_local rfl rfl F₄.ns (upd_ne hm (by decide)) (nameX_L F₄ rfl (iadd_int (st F₄ D₄ fun h₅ F₅ D₅ => ?_)))))
    have e : ((es.take (i + 1)).map (·.2)).sum = ((es.take i).map (·.2)).sum + n := by
      rw [List.take_add_one, he]
      simp [List.sum_append]
    exact wpAny_execs_nil ⟨h₅, _, _, [], rfl, F₅, D₅, rfl, _, by rw [e]; rfl⟩
  · rintro m₁ nw₁ h₃ tk ⟨rfl, t, hm⟩ F₃ D₃
    rw [rk.length, List.take_length] at hm
    exact wpAny_execs_cons (wpAny_Return_some (nameX_L F₃ hm (h _ _ _ F₃.keep)))
end
end Mine
end
section
open PySem PySem.W PyProof.Rows PySem.Calls
set_option Elab.async false
set_option maxRecDepth 100000
set_option linter.unusedVariables false
namespace Mine
theorem ints_of {vs : List Value} {ns : List Int} (r : Rel2 RI vs ns) : IntsAre vs ns := by
  induction r with
  | nil => exact .nil
  | cons h _ ih => obtain ⟨t, rfl⟩ := h; exact .cons _ _ ih
theorem upd_mid {d : Addr} {o o' : Obj} : ∀ {pre post : List (Addr × Obj)}, (∀ p ∈ pre, p.1 ≠ d) → (∀ p ∈ post, p.1 ≠ d) → Upd d o o' (pre ++ (d, o) :: post) (pre ++ (d, o') :: post)
  | [], _, _, b => .head b
  | p :: _, _, a, b => .tail (a p (.head _)) (upd_mid (fun q hq => a q (.tail _ hq)) b)
theorem small_nat {n : Nat} (hn : n < 1000000) : Builtin.Range.small 0 n 1 = true := by
  have f : ∀ x : Int, 0 ≤ x → x < 1000000 → Builtin.Range.rangeFitsLong x = true := fun x h0 h1 => by
    unfold Builtin.Range.rangeFitsLong
    simp
    omega
  unfold Builtin.Range.small
  rw [rangeSize_nat, f 0 (by omega) (by omega), f n (by omega) (by omega), f 1 (by omega) (by omega), f _ (by omega) (by omega)]
  simp
  exact .inr (f n (by omega) (by omega))
section
variable {prog : Program} {w : World} {A : Around} {E : Value → Shared → Prop} {s : Shared} {g : Heap} {L a : Addr} {m : Str → Option Value} {nw : List (Addr × Obj)} {cn : Str} {cs : Scope} {ccd : Value} {cl : List (Str × Addr)} {Q : Value → Shared → Prop}
theorem nl {vs : List Value} (F : Fr g L s.heap m) (D : Led g L s.heap nw) (hsz : vs.length ≤ sizeLine) (h : ∀ h' a, Fr g L h' m → Led g L h' ((a, W.listOf vs.toArray 0) :: nw) → Q (.ref a) { s with heap := h' }) :
    wpAny (model prog w) A (newList vs) Q E s :=
  wpAny_newList (h _ _ (F.push _) (D.push F _)) hsz
theorem nB {x : Str} {pos : Pos} {v : Value} (X : Tp w g) (F : Fr g L s.heap m) (e : nsIn (hd.heap_39 w.params) mainGlobals x = some none) (hv : bootBuiltins x = some v) (hn : x ≠ "__name__") (h : Q v s)
    (hk : cs.kind = .function := by rfl) (hx : (envX cn cs L a ccd cl).kindOf x = some .globalImplicit := by rfl) (hd : (x == ("__debug__" : Str)) = false := by decide) :
    wpAny (model prog w) A (eval (.Name x pos) (envX cn cs L a ccd cl)) Q E s := let ⟨_, _, _, _, T⟩ := X.T; nameX_B F X.K T e hv hn h hk hx hd
theorem nK {x : Str} {pos : Pos} {v : Value} (X : Tp w g) (F : Fr g L s.heap m) (e : nsIn (hd.heap_39 w.params) mainGlobals x = some (some v)) (h : Q v s)
    (hk : cs.kind = .function := by rfl) (hx : (envX cn cs L a ccd cl).kindOf x = some .globalImplicit := by rfl) (hd : (x == ("__debug__" : Str)) = false := by decide) :
    wpAny (model prog w) A (eval (.Name x pos) (envX cn cs L a ccd cl)) Q E s := let ⟨_, _, _, _, T⟩ := X.T; nameX_K F X.K T e h hk hx hd
abbrev tupOf (vs : List Value) : Obj := { cls := .type "tuple", data := .seq vs.toArray }
theorem nt {vs : List Value} (F : Fr g L s.heap m) (D : Led g L s.heap nw) (hsz : vs.length ≤ sizeLine) (h : ∀ h' a, Fr g L h' m → Led g L h' ((a, tupOf vs) :: nw) → Q (.ref a) { s with heap := h' }) :
    wpAny (model prog w) A (newTuple vs) Q E s :=
  wpAny_newObj_type (h _ _ (F.push _) (D.push F _)) (by show vs.toArray.size ≤ sizeLine; rw [List.size_toArray]; exact hsz)
theorem addL {l b : Addr} {xs ys : List Value} (F : Fr g L s.heap m) (D : Led g L s.heap nw) (hl : s.heap.IsList l xs.toArray) (hb : s.heap.IsList b ys.toArray) (hsz : xs.length + ys.length ≤ sizeLine)
    (h : ∀ h' a, Fr g L h' m → Led g L h' ((a, W.listOf (xs ++ ys).toArray 0) :: nw) → Q (.ref a) { s with heap := h' }) :
    wpAny (model prog w) A (binaryOp .Add (.ref l) (.ref b)) Q E s := by
  refine add_arrays F D.N hl hb (fun h' F' N' => h h' _ F' ⟨N', ?_⟩) (by simpa using hsz)
  rw [List.map_cons]
  refine List.nodup_cons.mpr ⟨fun q => ?_, D.nd⟩
  obtain ⟨p, hp, e⟩ := List.mem_map.mp q
  have := D.lt p hp
  rw [e] at this
  exact Nat.lt_irrefl _ this
theorem appL {d : Addr} {xs : List Value} {n : Nat} {x : Value} {pre post : List (Addr × Obj)} (F : Fr g L s.heap m) (D : Led g L s.heap (pre ++ (d, W.listOf xs.toArray n) :: post)) (hsz : xs.length ≤ 1000000)
    (h : ∀ h', Fr g L h' m → Led g L h' (pre ++ (d, W.listOf (xs ++ [x]).toArray (n + 1)) :: post) → Q .none { s with heap := h' }) :
    wpAny (model prog w) A (call (.builtin "list.append") [.ref d, x]) Q E s :=
  append_at (hsz := by rw [sizeLine_eq]; simp; omega) (D.get (List.mem_append_right _ (.head _))) fun h' hs ho => let ⟨a, b⟩ := Led.change F D hs (by rw [List.push_toArray] at ho; exact ho); h h' a b
theorem insL {d : Addr} {xs : List Value} {n : Nat} {k : Int} {u : Tok} {x : Value} {pre post : List (Addr × Obj)} (F : Fr g L s.heap m) (D : Led g L s.heap (pre ++ (d, W.listOf xs.toArray n) :: post)) (h0 : 0 ≤ k) (hk : k ≤ xs.length) (hsz : xs.length ≤ 1000000)
    (h : ∀ h', Fr g L h' m → Led g L h' (pre ++ (d, W.listOf (xs.take k.toNat ++ x :: xs.drop k.toNat).toArray (n + 1)) :: post) → Q .none { s with heap := h' }) :
    wpAny (model prog w) A (call (.builtin "list.insert") [.ref d, .int k u, x]) Q E s := by
  obtain ⟨a, b⟩ := nd_mid D.nd
  have U : Upd d (W.listOf xs.toArray n) (W.listOf (xs.take k.toNat ++ x :: xs.drop k.toNat).toArray (n + 1)) (pre ++ (d, W.listOf xs.toArray n) :: post) (pre ++ (d, W.listOf (xs.take k.toNat ++ x :: xs.drop k.toNat).toArray (n + 1)) :: post) := by
    exact upd_mid a b
  refine kl_insert F D.N ?_ (l := xs.take k.toNat ++ x :: xs.drop k.toNat) ?_ U ?_ fun h' F' N' => h h' F' ⟨N', ?_⟩
  · unfold Builtin.List.listFitsIndex
    rw [Bool.and_eq_true, decide_eq_true_eq, decide_eq_true_eq]
    omega
  · unfold kl_ins
    rw [if_neg (by omega), Nat.min_eq_left (by simp; omega)]
  · rw [sizeLine_eq]; simp; omega
  · have := D.nd
    rw [List.map_append, List.map_cons] at this ⊢
    exact this
theorem stC {x : Str} {v : Value} {c : Addr} {o : Obj} {v₀ : Option Value} {pre post : List (Addr × Obj)} {Q : Unit → Shared → Prop} (F : Fr g L s.heap m) (D : Led g L s.heap (pre ++ (c, o) :: post)) (hc : cl.lookup x = some c) (hd : o.data = .cell v₀)
    (h : ∀ h' o', Fr g L h' m → Led g L h' (pre ++ (c, o') :: post) → o'.data = .cell (some v) → Q () { s with heap := h' })
    (hk : cs.kind = .function := by rfl) (hx : (envX cn cs L a ccd cl).kindOf x = some .cell := by rfl) : wpAny (model prog w) A (storeName (envX cn cs L a ccd cl) x v) Q E s := by
  refine wpAny_storeName_cell hk hx hc ⟨o, D.get (List.mem_append_right _ (.head _)), hd⟩ fun h' hv hs => ?_
  obtain ⟨o', ho', hd'⟩ := hv
  obtain ⟨F', D'⟩ := Led.change F D hs ho'
  exact h h' o' F' D' hd'
end
section
variable {prog : Program} {w : World} {A : Around} {E : Value → Shared → Prop} {s : Shared} {env : Env} {g : Heap} {L : Addr} {R : Result → Shared → Prop} {body : List Stmt} {m : Str → Option Value} {nw : List (Addr × Obj)}
/-- for .. in range(n) -/
theorem for_range {x : Str} {px : Pos} {r : Addr} {n : Nat} {t u v : Tok} (J : Nat → (Str → Option Value) → List (Addr × Obj) → Prop) (hh : A.handled = none) (F : Fr g L s.heap m) (D : Led g L s.heap nw)
    (hr : IsRange s.heap r 0 (n : Int) 1 t u v) (hn : n < 1000000) (h0 : J 0 m nw)
    (step : ∀ i y m₁ nw₁ h tk own, i < n → RI y (i : Int) → J i m₁ nw₁ → Fr g L h m₁ → Led g L h (own ++ nw₁) →
      wpAny (model prog w) A (assign (.Name x px) env y) (fun _ s₂ => wpAny (model prog w) A (execs body env) (Turn g L own (J (i + 1)) s R) (fun _ _ => False) s₂) (fun _ _ => False) { s with heap := h, toks := tk })
    (done : ∀ m₁ nw₁ h tk, J n m₁ nw₁ → Fr g L h m₁ → Led g L h nw₁ → R (.ok .next) { s with heap := h, toks := tk }) :
    wpAny (model prog w) A (pyIter (.ref r)) (fun it s₂ => codeAny (model prog w) A (.forLoop (.Name x px) it body [] env) R s₂) E s := by
  refine wpAny_pyIter_range hr (small_nat hn) ?_
  refine for_walk J (Walks.range hh s.heap.objs.size 0 1 n) (by simp) ?_ (fresh_L F) ?_ (fresh_nw D) ?_ (fun _ => rfl) ?_ (F.push _) (led_push D _) h0 ?_ done
  · rintro i h ho b hb
    rw [List.mem_singleton.mp hb]; exact ⟨_, ho⟩
  · intro b hb
    rw [List.mem_singleton.mp hb]
    exact fresh_g F
  · intro b hb hbw; exact absurd hb hbw
  · rw [rangeSize_nat]
    show (s.heap.push _).get? s.heap.objs.size = _
    rw [Heap.get?_push_size _ rfl]
    simp
  · rintro i y m₁ nw₁ h tk own hi ⟨ty, hy⟩ hJ F₁ D₁
    exact step i y m₁ nw₁ h tk own hi ⟨ty, by simpa using hy⟩ hJ F₁ D₁
end
end Mine
namespace Mine
section
variable {g h : Heap} {L : Addr} {own fz : List (Addr × Obj)} {x b c d e f : Addr × Obj}
theorem Led.mv0 (D : Led g L h (x :: (own ++ fz))) : Led g L h (own ++ x :: fz) := D.perm List.perm_middle.symm
theorem Led.mv1 (D : Led g L h (x :: (own ++ b :: fz))) : Led g L h (own ++ b :: x :: fz) := by
  have : Led g L h (x :: ((own ++ [b]) ++ fz)) := by simpa using D
  simpa using this.mv0
theorem Led.mv2 (D : Led g L h (x :: (own ++ b :: c :: fz))) : Led g L h (own ++ b :: c :: x :: fz) := by
  have : Led g L h (x :: ((own ++ [b, c]) ++ fz)) := by simpa using D
  simpa using this.mv0
theorem Led.mv3 (D : Led g L h (x :: (own ++ b :: c :: d :: fz))) : Led g L h (own ++ b :: c :: d :: x :: fz) := by
  have : Led g L h (x :: ((own ++ [b, c, d]) ++ fz)) := by simpa using D
  simpa using this.mv0
theorem Led.mv4 (D : Led g L h (x :: (own ++ b :: c :: d :: e :: fz))) : Led g L h (own ++ b :: c :: d :: e :: x :: fz) := by
  have : Led g L h (x :: ((own ++ [b, c, d, e]) ++ fz)) := by simpa using D
  simpa using this.mv0
theorem Led.mv5 (D : Led g L h (x :: (own ++ b :: c :: d :: e :: f :: fz))) : Led g L h (own ++ b :: c :: d :: e :: f :: x :: fz) := by
  have : Led g L h (x :: ((own ++ [b, c, d, e, f]) ++ fz)) := by simpa using D
  simpa using this.mv0
end
/-- a ring (or a row) of the ledger -/
def RR (fz : List (Addr × Obj)) (v : Value) (ring : List (Fin 4)) : Prop := ∃ a vs n, v = .ref a ∧ (a, W.listOf vs.toArray n) ∈ fz ∧ Rel2 RU vs ring
theorem RR.mono {fz fz' : List (Addr × Obj)} (k : ∀ p ∈ fz, p ∈ fz') {v : Value} {ring : List (Fin 4)} (r : RR fz v ring) : RR fz' v ring :=
  let ⟨a, vs, n, e, m, x⟩ := r; ⟨a, vs, n, e, k _ m, x⟩
def ringGo (us : List (Fin 4)) (ws : List Int) : Nat → List Int → Int → List (Fin 4) → Option (List Int × List (Fin 4))
  | 0, _, _, _ => none
  | f + 1, gone, at_, ring => match gone.any (fun x => x == at_) with
    | true => some (gone, ring)
    | false => match decide (0 ≤ at_ ∧ gone.length < 1000 ∧ ring.length < 1000), us[at_.toNat]?, ws[at_.toNat]? with
      | true, some u, some y => ringGo us ws f (gone ++ [at_]) y (u :: ring)
      | _, _, _ => none
def ringsGo (us : List (Fin 4)) (ws : List Int) : List Nat → List Int → List (List (Fin 4)) → Option (List (List (Fin 4)))
  | [], _, rings => some rings
  | k :: ks, gone, rings => match ringGo us ws 20 gone k [] with
    | some (gone', ring) => match ring.isEmpty with
      | true => ringsGo us ws ks gone' rings
      | false => match decide (rings.length < 1000) with
        | true => ringsGo us ws ks gone' (rings ++ [ring])
        | false => none
    | none => none
def ringsF (us : List (Fin 4)) (ws : List Int) : Option (List (List (Fin 4))) := ringsGo us ws (List.range ws.length) [] []
end Mine
end
section
open PySem PySem.W PyProof.Rows PySem.Calls
set_option Elab.async false
set_option maxRecDepth 100000
set_option maxHeartbeats 4000000
set_option linter.unusedVariables false
namespace Mine
theorem fill3 : (PySem.Challenge.rw_pe0061_01.prog, fun (P : Params) => hd.heap_39 P) = (PySem.Challenge.rw_pe0061_01.prog, fun (P : Params) => hd.heap_39 P) := by
  k_fill
  rfl
section
variable {prog : Program} {w : World} {A : Around} {E : Value → Shared → Prop} {s : Shared} {Q : Value → Shared → Prop}
theorem isLr {g h : Heap} {L a : Addr} {nw : List (Addr × Obj)} {its : Array Value} {n : Nat} (D : Led g L h nw) (m : (a, W.listOf its n) ∈ nw) : h.IsList a its := ⟨_, D.get m, rfl, _, rfl⟩
theorem ringGo_len {us : List (Fin 4)} {ws : List Int} : ∀ {k : Nat} {gone : List Int} {at_ : Int} {ring : List (Fin 4)} {gone' : List Int} {ring' : List (Fin 4)}, ringGo us ws k gone at_ ring = some (gone', ring') → ring.length + k ≤ 1000 → ring'.length < 1000
  | 0, _, _, _, _, _, e, _ => by cases e
  | k + 1, gone, at_, ring, gone', ring', e, hl => by
    unfold ringGo at e
    split at e
    · cases e; omega
    · split at e
      · exact ringGo_len e (by simp; omega)
      · cases e
theorem rings_spec {u y : Addr} {uv yv : List Value} {us : List (Fin 4)} {ws : List Int} {rings : List (List (Fin 4))} (X : Tp w s.heap) (hh : A.handled = none) (hroom : A.depth < recursionLimit)
    (hu : s.heap.IsList u uv.toArray) (ru : Rel2 RU uv us) (hy : s.heap.IsList y yv.toArray) (ry : Rel2 RI yv ws) (hlen : ws.length < 1000) (hlu : us.length < 1000) (e : ringsF us ws = some rings)
    (h : ∀ h' tk a n rv fz, New s.heap h' ((a, W.listOf rv.toArray n) :: fz) → Rel2 (RR fz) rv rings → Q (.ref a) { s with heap := h', toks := tk }) :
    wpAny (model prog w) A (call (.ref 82) [.ref u, .ref y]) Q E s := by
  have hly : yv.length = ws.length := ry.length
  refine callK (binds := [("units", .ref u), ("ways", .ref y)]) X hroom (by k_is) (by k_is) rfl rfl (fun h₁ F => ?_)
  refine wpAny_execs_cons <| wpAny_Assign_Name <| List_ <| wpAny_items_nil <| nl F Led.nil (Nat.zero_le _) fun h₂ Ra F₂ D₂ => st F₂ D₂ fun h₃ F₃ D₃ => ?_
  refine wpAny_execs_cons <| wpAny_Assign_Name <| List_ <| wpAny_items_nil <| nl F₃ D₃ (Nat.zero_le _) fun h₄ Ga F₄ D₄ => st F₄ D₄ fun h₅ F₅ D₅ => ?_
  dsimp only
  refine wpAny_execs_cons <| wpAny_For <| Call_ <| nB X F₅ (by k_is) (by boot_fast) (by decide) <| PyProof.Rows.callWith_type1 <| spliced_more <| Call_ <| nB X F₅ (by k_is) (by boot_fast) (by decide) <| PyProof.Rows.callWith_builtin1 <| spliced_more <| nameX_L F₅ rfl ?_
  refine spliced_none <| call_len_list (hy.at fun o q => F₅.keep _ _ q) (by simp; omega) <| spliced_none ?_
  refine range1_rows F₅ D₅.N fun h₆ tk₆ t₁ u₁ v₁ hr F₆ N₆ hk₆ => ?_
  have D₆ : Led s.heap s.heap.objs.size h₆ _ := ⟨N₆, D₅.nd⟩
  have hsz : (yv.toArray.size : Int) = (ws.length : Int) := by simp [hly]
  rw [hsz] at hr
  dsimp only
  refine for_range (n := ws.length) (fun i m nw => ∃ rv rn gv gn fz gone rs, nw = (Ga, W.listOf (gv : List Value).toArray gn) :: (Ra, W.listOf (rv : List Value).toArray rn) :: fz ∧ Rel2 (RR fz) rv rs ∧ Rel2 RI gv gone ∧
    ringsGo us ws ((List.range ws.length).drop i) gone rs = some rings ∧ m "units" = some (.ref u) ∧ m "ways" = some (.ref y) ∧ m "rings" = some (.ref Ra) ∧ m "gone" = some (.ref Ga)) hh F₆ D₆ hr (by omega)
    ⟨[], 0, [], 0, [], [], [], rfl, .nil, .nil, e, rfl, rfl, rfl, rfl⟩ ?_ ?_
  · rintro i kv m₁ nw₁ h₇ tk₇ own hi ⟨tk, rfl⟩ ⟨rv, rn, gv, gn, fz, gone, rs, rfl, hrv, hgv, hgo, hm1, hm2, hm3, hm4⟩ F₇ D₇
    have hdrop : (List.range ws.length).drop i = i :: (List.range ws.length).drop (i + 1) := by
      rw [List.drop_eq_getElem_cons (by simpa using hi)]; simp
    rw [hdrop] at hgo
    unfold ringsGo at hgo
    cases hring : ringGo us ws 20 gone i [] with
    | none => rw [hring] at hgo; cases hgo
    | some gr =>
      obtain ⟨gone', ring'⟩ := gr
      rw [hring] at hgo
      dsimp only at hgo
      refine asg F₇ D₇ fun h₈ F₈ D₈ => ?_
      refine wpAny_execs_cons <| wpAny_Assign_Name <| List_ <| wpAny_items_nil <| nl F₈ D₈ (Nat.zero_le _) fun h₉ Rg F₉ D₉ => st F₉ D₉.mv2 fun h₁₀ F₁₀ D₁₀ => ?_
      refine wpAny_execs_cons <| wpAny_Assign_Name <| nameX_L F₁₀ rfl <| st F₁₀ D₁₀ fun h₁₁ F₁₁ D₁₁ => ?_
      dsimp only
      refine wpAny_execs_cons <| wpAny_While <| while_inv (fun k s' => ∃ h tk m gv gn fz' gone at_ ring Rg vs vn, s' = { s with heap := h, toks := tk } ∧ Fr s.heap s.heap.objs.size h m ∧
        Led s.heap s.heap.objs.size h (own ++ (Ga, W.listOf (gv : List Value).toArray gn) :: (Ra, W.listOf rv.toArray rn) :: fz') ∧ (∀ p ∈ fz, p ∈ fz') ∧ Rel2 RI gv gone ∧ (Rg, W.listOf (vs : List Value).toArray vn) ∈ fz' ∧ Rel2 RU vs ring ∧
        ringGo us ws k gone at_ ring = some (gone', ring') ∧ m "units" = some (.ref u) ∧ m "ways" = some (.ref y) ∧ m "rings" = some (.ref Ra) ∧ m "gone" = some (.ref Ga) ∧ m "ring" = some (.ref Rg) ∧ ∃ t, m "at" = some (.int at_ t)) ?_ 20
        ⟨h₁₁, _, _, gv, gn, _, gone, _, [], Rg, [], 0, rfl, F₁₁, D₁₁, fun p hp => .tail _ hp, hgv, .head _, .nil, hring, upd_ne (upd_ne (upd_ne hm1 (by decide)) (by decide)) (by decide), upd_ne (upd_ne (upd_ne hm2 (by decide)) (by decide)) (by decide), upd_ne (upd_ne (upd_ne hm3 (by decide)) (by decide)) (by decide), upd_ne (upd_ne (upd_ne hm4 (by decide)) (by decide)) (by decide), rfl, _, rfl⟩
      rintro k s' ⟨h₁₂, tk₁₂, m₂, gv₂, gn₂, fz₂, gone₂, at_, ring₂, Rg₂, vs₂, vn₂, rfl, F₁₂, D₁₂, hfz, hgv₂, hmem, hvs, hgo₂, hn1, hn2, hn3, hn4, hn5, t₅, hn6⟩
      have hGm : (Ga, W.listOf gv₂.toArray gn₂) ∈ own ++ (Ga, W.listOf gv₂.toArray gn₂) :: (Ra, W.listOf rv.toArray rn) :: fz₂ := List.mem_append_right _ (.head _)
      have hRm : (Rg₂, W.listOf vs₂.toArray vn₂) ∈ own ++ (Ga, W.listOf gv₂.toArray gn₂) :: (Ra, W.listOf rv.toArray rn) :: fz₂ := List.mem_append_right _ (.tail _ (.tail _ hmem))
      refine wpAny_isTrue_Compare1 <| nameX_L F₁₂ hn6 <| nameX_L F₁₂ hn4 <| notin_list_ints (isLr D₁₂ hGm) (ints_of hgv₂) <| wpAny_truthy_bool ?_
      cases k with
      | zero => cases hgo₂
      | succ k =>
        unfold ringGo at hgo₂
        cases hany : gone₂.any (fun x => x == at_) with
        | true =>
          rw [hany] at hgo₂
          cases hgo₂
          refine neg rfl ?_
          dsimp only
          have hvl : vs₂.length = ring'.length := hvs.length
          have hrl : ring'.length < 1000 := ringGo_len hring (by simp)
          refine wpAny_execs_cons <| wpAny_If <| isTrue_plain <| nameX_L F₁₂ hn5 <| wpAny_truthy_list (isLr D₁₂ hRm) (by simp; omega) ?_
          cases hre : ring'.isEmpty with
          | true =>
            rw [hre] at hgo
            dsimp only at hgo
            refine neg ?_ ?_
            · have : ring' = [] := List.isEmpty_iff.mp hre
              rw [this] at hvl
              have : vs₂ = [] := List.eq_nil_of_length_eq_zero hvl
              rw [this]; rfl
            · exact wpAny_execs_nil <| wpAny_execs_nil ⟨h₁₂, _, m₂, _, rfl, F₁₂, D₁₂, rv, rn, gv₂, gn₂, fz₂, _, _, rfl, hrv.mono fun _ _ q => q.mono hfz, hgv₂, hgo, hn1, hn2, hn3, hn4⟩
          | false =>
            rw [hre] at hgo
            dsimp only at hgo
            cases hrc : decide (rs.length < 1000) with
            | false => rw [hrc] at hgo; cases hgo
            | true =>
              rw [hrc] at hgo
              dsimp only at hgo
              have hrs := of_decide_eq_true hrc
              have hrvl : rv.length = rs.length := hrv.length
              refine pos ?_ ?_
              · have : vs₂ ≠ [] := fun q => by
                  rw [q] at hvl
                  rw [List.eq_nil_of_length_eq_zero hvl.symm] at hre; cases hre
                cases vs₂ with
                | nil => exact absurd rfl this
                | cons a l => rfl
              · have D' : Led s.heap s.heap.objs.size h₁₂ ((own ++ [(Ga, W.listOf gv₂.toArray gn₂)]) ++ (Ra, W.listOf rv.toArray rn) :: fz₂) := by simpa using D₁₂
                refine wpAny_execs_cons <| wpAny_Expr <| MethodCall_ <| nameX_L F₁₂ hn3 <| listMethod_K D₁₂.N (List.mem_append_right _ (.tail _ (.head _))) PySem.F.slot_list_append PySem.F.type_list_append <| callWith_method1 <| spliced_more <| nameX_L F₁₂ hn5 <| spliced_none <| appL F₁₂ D' (by omega) fun h₁₃ F₁₃ D₁₃ => ?_
                refine wpAny_execs_nil <| wpAny_execs_nil ⟨h₁₃, _, m₂, (Ga, W.listOf gv₂.toArray gn₂) :: (Ra, W.listOf (rv ++ [Value.ref Rg₂]).toArray (rn + 1)) :: fz₂, rfl, F₁₃, by simpa using D₁₃, rv ++ [Value.ref Rg₂], rn + 1, gv₂, gn₂, fz₂, _, _, rfl, ?_, hgv₂, hgo, hn1, hn2, hn3, hn4⟩
                exact (hrv.mono fun _ _ q => q.mono hfz).append (.one ⟨Rg₂, vs₂, vn₂, rfl, hmem, hvs⟩)
        | false =>
          rw [hany] at hgo₂
          dsimp only at hgo₂
          cases hc : decide (0 ≤ at_ ∧ gone₂.length < 1000 ∧ ring₂.length < 1000) with
          | false => rw [hc] at hgo₂; cases hgo₂
          | true =>
            obtain ⟨h0, hgl, hrl⟩ := of_decide_eq_true hc
            cases hua : us[at_.toNat]? with
            | none => rw [hc, hua] at hgo₂; cases hgo₂
            | some ua =>
              cases hwa : ws[at_.toNat]? with
              | none => rw [hc, hua, hwa] at hgo₂; cases hgo₂
              | some wa =>
                rw [hc, hua, hwa] at hgo₂
                dsimp only at hgo₂
                obtain ⟨va, hva, ta, rfl⟩ := ru.get hua
                obtain ⟨vb, hvb, tb, rfl⟩ := ry.get hwa
                have hlt : at_.toNat < us.length := by
                  rcases Nat.lt_or_ge at_.toNat us.length with h | h
                  · exact h
                  · rw [List.getElem?_eq_none h] at hua; cases hua
                have hgvl : gv₂.length = gone₂.length := hgv₂.length
                have hvl : vs₂.length = ring₂.length := hvs.length
                refine pos rfl ?_
                refine wpAny_execs_cons <| wpAny_Expr <| MethodCall_ <| nameX_L F₁₂ hn4 <| listMethod_K D₁₂.N hGm PySem.F.slot_list_append PySem.F.type_list_append <| callWith_method1 <| spliced_more <| nameX_L F₁₂ hn6 <| spliced_none <| appL F₁₂ D₁₂ (by omega) fun h₁₃ F₁₃ D₁₃ => ?_
                dsimp only
                refine wpAny_execs_cons <| wpAny_Assign_Name <| wpAny_BinOp <| List_ <| spliced_more <| Subscript_ <| nameX_L F₁₃ hn1 <| nameX_L F₁₃ hn6 <| item_list (hu.at fun o q => F₁₃.keep _ _ q) h0 (by omega) hva <| spliced_none <| nl F₁₃ D₁₃ (by rw [sizeLine_eq]; simp) fun h₁₄ T₁ F₁₄ D₁₄ => ?_
                dsimp only
                have D₁₄' := D₁₄.mv2
                refine nameX_L F₁₄ hn5 <| addL F₁₄ D₁₄' (isLr D₁₄ (.head _)) (isLr D₁₄' (List.mem_append_right _ (.tail _ (.tail _ (.tail _ hmem))))) (by rw [sizeLine_eq]; simp; omega) fun h₁₅ T₂ F₁₅ D₁₅ => st F₁₅ D₁₅.mv2 fun h₁₆ F₁₆ D₁₆ => ?_
                dsimp only
                refine wpAny_execs_cons <| wpAny_Assign_Name <| Subscript_ <| nameX_L F₁₆ (upd_ne hn2 (by decide)) <| nameX_L F₁₆ (upd_ne hn6 (by decide)) <| item_list (hy.at fun o q => F₁₆.keep _ _ q) h0 (by omega) hvb <| st F₁₆ D₁₆ fun h₁₇ F₁₇ D₁₇ => ?_
                refine wpAny_execs_nil ⟨k, Nat.lt_succ_self _, h₁₇, _, _, gv₂ ++ [.int at_ t₅], gn₂ + 1, (T₂, W.listOf ([Value.str (U ua) ta] ++ vs₂).toArray 0) :: (T₁, W.listOf [Value.str (U ua) ta].toArray 0) :: fz₂, _, _, _, T₂, _, _, rfl, F₁₇, D₁₇, fun p hp => .tail _ (.tail _ (hfz p hp)), hgv₂.append (.one ⟨_, rfl⟩), .head _, .cons ⟨_, rfl⟩ hvs, hgo₂,
                  upd_ne (upd_ne hn1 (by decide)) (by decide), upd_ne (upd_ne hn2 (by decide)) (by decide), upd_ne (upd_ne hn3 (by decide)) (by decide), upd_ne (upd_ne hn4 (by decide)) (by decide), upd_ne rfl (by decide), _, rfl⟩
  · rintro m₁ nw₁ h₇ tk₇ ⟨rv, rn, gv, gn, fz, gone, rs, rfl, hrv, hgv, hgo, hm1, hm2, hm3, hm4⟩ F₇ D₇
    rw [List.drop_of_length_le (by simp)] at hgo
    cases hgo
    exact wpAny_execs_cons <| wpAny_Return_some <| nameX_L F₇ hm3 <| h _ _ Ra rn rv fz (.of F₇ (D₇.sub (List.sublist_cons_self _ _))) hrv
end
end Mine
end
section
open PySem PySem.W PyProof.Rows PySem.Calls
set_option Elab.async false
set_option maxRecDepth 100000
set_option linter.unusedVariables false
namespace Mine
theorem zs1 (N b : Nat) (h : b ∈ [N + 4, N + 3, N, N + 1]) : b ∈ [N + 4, N + 2, N + 3, N, N + 1] := by simp at h ⊢; omega
theorem zs2 (N : Nat) : [N + 4, N + 2, N + 3, N, N + 1].Nodup := by simp
theorem zs3 (N L : Nat) (h : L < N) : L ∉ [N + 4, N + 2, N + 3, N, N + 1] := by simp; omega
theorem zs4 (N b : Nat) (h : b ∈ [N + 4, N + 2, N + 3, N, N + 1]) : N ≤ b := by simp at h; omega
theorem zs5 (N b l1 l2 : Nat) (h : b ∈ [N + 4, N + 2, N + 3, N, N + 1, l1, l2]) (h' : b ∉ [N + 4, N + 2, N + 3, N, N + 1]) : b = l1 ∨ b = l2 := by simp at h h'; omega
section
variable {prog : Program} {w : World} {A : Around} {E : Value → Shared → Prop} {s : Shared} {env : Env} {g : Heap} {L : Addr} {R : Result → Shared → Prop} {body : List Stmt} {m : Str → Option Value} {nw : List (Addr × Obj)}
theorem for_zip {elts : List Expr} {x1 : Nat} {pt : Pos} {l1 l2 : Addr} {xs ys : List Value} (J : Nat → (Str → Option Value) → List (Addr × Obj) → Prop) (hh : A.handled = none) (F : Fr g L s.heap m) (D : Led g L s.heap nw)
    (hl1 : s.heap.IsList l1 xs.toArray) (hl2 : s.heap.IsList l2 ys.toArray) (hf1 : (∃ o, g.get? l1 = some o) ∨ ∃ o, ∀ i m nw, J i m nw → (l1, o) ∈ nw) (hf2 : (∃ o, g.get? l2 = some o) ∨ ∃ o, ∀ i m nw, J i m nw → (l2, o) ∈ nw) (h0 : J 0 m nw)
    (step : ∀ i T x y m₁ nw₁ h tk own, xs[i]? = some x → ys[i]? = some y → J i m₁ nw₁ → Fr g L h m₁ → Led g L h (own ++ nw₁) → h.IsTuple T #[x, y] →
      wpAny (model prog w) A (assign (.Tuple elts x1 pt) env (.ref T)) (fun _ s₂ => wpAny (model prog w) A (execs body env) (Turn g L own (J (i + 1)) s R) (fun _ _ => False) s₂) (fun _ _ => False) { s with heap := h, toks := tk })
    (done : ∀ m₁ nw₁ h tk, J (min xs.length ys.length) m₁ nw₁ → Fr g L h m₁ → Led g L h nw₁ → R (.ok .next) { s with heap := h, toks := tk }) :
    wpAny (model prog w) A (call (.type "zip") [.ref l1, .ref l2]) (fun xv s₁ => wpAny (model prog w) A (pyIter xv) (fun it s₂ => codeAny (model prog w) A (.forLoop (.Tuple elts x1 pt) it body [] env) R s₂) E s₁) E s := by
  refine call_zip_2 hl1 hl2 fun h' hz hTI hTO hi1 hi2 hsz hk => ?_
  refine wpAny_pyIter_zip hz ?_
  obtain ⟨o1, ho1, _⟩ := id hl1
  obtain ⟨o2, ho2, _⟩ := id hl2
  have lt1 : l1 < s.heap.objs.size := Heap.lt_size ho1
  have lt2 : l2 < s.heap.objs.size := Heap.lt_size ho2
  generalize hN : s.heap.objs.size = N at *
  have F' := F.after hk
  have D' : Led g L h' nw := D.keeps hk
  have ltL : L < N := hN ▸ F.ns.lt
  have ltn : ∀ p ∈ nw, p.1 < N := fun p hp => hN ▸ D.lt p hp
  have gn : ∀ b, N ≤ b → g.get? b = none := fun b hb => by
    cases q : g.get? b with
    | none => rfl
    | some o => have := Heap.lt_size (F.keep _ _ q); rw [hN] at this; exact absurd this (Nat.not_lt.mpr hb)
  have Ap : ZipApart (N + 4) (N + 2) (N + 3) N (N + 1) l1 l2 := zipApart_new lt1 lt2
  have W := WalksT.zip2 (prog := prog) (w := w) (A := A) hh (N + 4) (N + 2) (N + 3) N (N + 1) l1 l2 Ap xs.toArray ys.toArray
  refine for_walkU (ow := [N + 4, N + 2, N + 3, N, N + 1]) J W.toU ?_ ?_ ?_ ?_ ?_ ?_ ?_ ?_ F' D' h0 ?_ ?_
  · exact zs1 N
  · exact zs2 N
  · rintro i h ⟨a1, a2, ⟨_, _, a3⟩, ⟨o4, a4, _⟩, ⟨o5, a5, _⟩, _⟩ b hb
    simp at hb
    rcases hb with rfl | rfl | rfl | rfl | rfl
    · exact ⟨_, a1⟩
    · exact ⟨_, a2⟩
    · exact ⟨_, a3⟩
    · exact ⟨_, a4⟩
    · exact ⟨_, a5⟩
  · exact zs3 N L ltL
  · intro b hb; exact gn b (zs4 N b hb)
  · intro p hp; exact zs3 N p.1 (ltn p hp)
  · intro b hb hbw
    rcases zs5 N b l1 l2 hb hbw with rfl | rfl
    · rcases hf1 with ⟨o, h⟩ | ⟨o, h⟩
      · exact ⟨o, .inl h⟩
      · exact ⟨o, .inr h⟩
    · rcases hf2 with ⟨o, h⟩ | ⟨o, h⟩
      · exact ⟨o, .inl h⟩
      · exact ⟨o, .inr h⟩
  · exact ⟨hz, hTI, ⟨_, _, hTO⟩, hi1, hi2, hl1.at fun o q => hk _ _ q, hl2.at fun o q => hk _ _ q⟩
  · rintro i T vals m₁ nw₁ h tk own hi ⟨x, y, hx, hy, rfl⟩ hJ F₁ D₁ hT
    exact step i T x y m₁ nw₁ h tk own (by simpa using hx) (by simpa using hy) hJ F₁ D₁ hT
  · intro m₁ nw₁ h tk hJ F₁ D₁
    exact done m₁ nw₁ h tk (by simpa using hJ) F₁ D₁
end
end Mine
end
section
open PySem PySem.W PyProof.Rows PySem.Calls
set_option Elab.async false
set_option maxRecDepth 100000
set_option linter.unusedVariables false
namespace Mine
theorem rel_of_paired {α β : Type} {F : α → β → Prop} {xs : List α} {ys : List β} (h : Paired F xs ys) : Rel2 F xs ys := by
  induction h with
  | nil => exact .nil
  | cons a _ ih => exact .cons a ih
theorem Rel2.of_get {α β : Type} {R : α → β → Prop} : ∀ {xs : List α} {ys : List β}, xs.length = ys.length → (∀ (i : Nat) x, xs[i]? = some x → ∃ y, ys[i]? = some y ∧ R x y) → Rel2 R xs ys
  | [], [], _, _ => .nil
  | x :: xs, y :: ys, hl, h => by
    refine .cons ?_ (Rel2.of_get (by simpa using hl) fun i a ha => by simpa using h (i + 1) a (by simpa using ha))
    obtain ⟨y', e, r⟩ := h 0 x rfl
    simp at e; subst e; exact r
theorem Rel2.filter {α β : Type} {R : α → β → Prop} {p : α → Bool} {q : β → Bool} (hpq : ∀ x y, R x y → p x = q y) {xs : List α} {ys : List β} (r : Rel2 R xs ys) : Rel2 R (xs.filter p) (ys.filter q) := by
  induction r with
  | nil => exact .nil
  | @cons x y xs ys h r ih =>
    rw [List.filter_cons, List.filter_cons, hpq x y h]
    cases q y with
    | true => exact .cons h ih
    | false => exact ih
theorem keys_map {kvs : List (Str × Value)} {es : List (Fin 4 × Int)} (r : Rel2 RE kvs es) : kvs.map (·.1) = (es.map (·.1)).map U := by
  induction r with
  | nil => rfl
  | cons a _ ih => rw [List.map_cons, ih, a.1]; rfl
theorem keys_nodup {kvs : List (Str × Value)} {es : List (Fin 4 × Int)} (r : Rel2 RE kvs es) (nd : (kvs.map (·.1)).Nodup) : (es.map (·.1)).Nodup := by
  rw [keys_map r] at nd
  exact (List.pairwise_map.mp nd).imp fun hne e => hne (congrArg U e)
theorem none_at {h : Heap} : h.get? h.objs.size = none := by
  cases q : h.get? h.objs.size with
  | none => rfl
  | some o => exact absurd (Heap.lt_size q) (Nat.lt_irrefl _)
theorem none_push {h : Heap} {o : Obj} {a : Addr} (q : (h.push o).get? a = none) : h.get? a = none := by
  cases z : h.get? a with
  | none => rfl
  | some o' => rw [Heap.get?_push_of_some o z] at q; cases q
theorem filter_all {α : Type} (l : List α) : l.filter (fun _ => true) = l := by simp
section
variable {prog : Program} {w : World} {A : Around} {E : Value → Shared → Prop} {s : Shared} {env : Env} {Q : Value → Shared → Prop} {elt : Expr} {x : Str} {scope : Scope} {cl : List (Str × Addr)}
/-- what the library asks of a list comprehension's source -/
def LcAt (prog : Program) (w : World) (A : Around) (env : Env) (scope : Scope) (cl : List (Str × Addr)) (x : Str) (ifs : List Expr) (elt : Expr) (p : Value → Bool) (F : Value → Value → Prop) (Q : Value → Shared → Prop) (it : Value) (s₂ : Shared) : Prop :=
  ∃ I fp wr n P St, it = .ref I ∧ Walks prog w A I fp wr n P St ∧ n ≤ sizeLine ∧ St 0 s₂.heap ∧ (∀ b ∈ fp, b < s₂.heap.objs.size) ∧
      QuietOnC prog w A env scope cl x ifs elt wr P p F s₂ ∧
      (∀ D h' tk ys (vs : List Value), s₂.heap.get? D = none → h'.IsList D ys → h'.PlainList D ys → vs.length = n → (∀ j v, vs[j]? = some v → P j v) → Paired F (vs.filter p) ys.toList →
        (∀ b o, b ∉ wr → s₂.heap.get? b = some o → h'.get? b = some o) → Q (.ref D) { s₂ with heap := h', toks := tk })
theorem lc_list {l : Addr} {vs : List Value} (F : Value → Value → Prop) (hh : A.handled = none) (hl : s.heap.IsList l vs.toArray) (hsz : vs.length < 1000)
    (helt : ∀ (C : Addr) (i : Nat) v s₃ m₃, vs[i]? = some v → s₃.heap.Ns C m₃ → m₃ x = some v → Sub s.heap s₃.heap → wpAny (model prog w) A (eval elt (compEnvC scope cl C env)) (fun y s₄ => F v y ∧ Keeps s₃ s₄) (fun _ _ => False) s₃)
    (h : ∀ D h' tk ys n, New s.heap h' [(D, W.listOf (ys : List Value).toArray n)] → Rel2 F vs ys → Q (.ref D) { s with heap := h', toks := tk }) :
    wpAny (model prog w) A (pyIter (.ref l)) (fun it s₂ => LcAt prog w A env scope cl x [] elt (fun _ => true) F Q it s₂) E s := by
  refine wpAny_pyIter_list hl ?_
  obtain ⟨o, ho, _⟩ := id hl
  have lt : l < s.heap.objs.size := Heap.lt_size ho
  have keep : ∀ (h' : Heap), (∀ b o, b ∉ [s.heap.objs.size] → (s.heap.push { cls := .type "list_iterator", data := .fields #[.ref l, .int 0 0] }).get? b = some o → h'.get? b = some o) → Sub s.heap h' := fun h' k b o q =>
    k b o (fun z => by rw [List.mem_singleton.mp z, none_at] at q; cases q) (Heap.get?_push_of_some _ q)
  refine ⟨_, _, _, _, _, _, rfl, Walks.list hh s.heap.objs.size l (Nat.ne_of_lt lt) vs.toArray, ?_, ⟨⟨_, Heap.get?_push_size _ rfl, rfl, rfl⟩, hl.push _⟩, ?_, ⟨?_, ?_⟩, ?_⟩
  · rw [sizeLine_eq]; simp; omega
  · intro b hb
    show b < (s.heap.push _).objs.size
    rw [Heap.size_push]
    rcases List.mem_cons.mp hb with rfl | hb
    · exact Nat.lt_succ_self _
    · rw [List.mem_singleton.mp hb]; exact Nat.lt_succ_of_lt lt
  · intro C i v s₃ m₃ E' _ hP hn hm hk _
    exact wpAny_tests_nil ⟨rfl, ⟨_, _, rfl, fun _ _ q => q⟩⟩
  · intro C i v s₃ m₃ E' _ hP _ hn hm hk _
    exact wpAny_mono (helt C i v s₃ m₃ (by simpa using hP) hn hm (keep _ hk)) (fun _ _ q => q) fun _ _ q => q.elim
  · intro D h' tk ys vs' hD _ ⟨n, hp⟩ hlen hP hF hk
    have e : vs' = vs := by
      apply List.ext_getElem?
      intro j
      cases q : vs'[j]? with
      | none =>
        have : vs'.length ≤ j := by simpa using q
        rw [hlen] at this
        simp at this
        simp [this]
      | some v => have := hP j v q; simpa using this.symm
    subst e
    rw [filter_all] at hF
    refine h D h' tk ys.toList n ⟨keep _ hk, fun p hp' => ?_, by simp⟩ (rel_of_paired hF)
    rw [List.mem_singleton.mp hp']
    exact ⟨hp, none_push hD⟩
theorem lc_range {r : Addr} {n : Nat} {t u v : Tok} (F : Value → Value → Prop) (hh : A.handled = none) (hr : IsRange s.heap r 0 (n : Int) 1 t u v) (hsz : n < 1000)
    (helt : ∀ (C : Addr) (i : Nat) v s₃ m₃, i < n → RI v (i : Int) → s₃.heap.Ns C m₃ → m₃ x = some v → Sub s.heap s₃.heap → wpAny (model prog w) A (eval elt (compEnvC scope cl C env)) (fun y s₄ => F v y ∧ Keeps s₃ s₄) (fun _ _ => False) s₃)
    (h : ∀ D h' tk vs ys k, New s.heap h' [(D, W.listOf (ys : List Value).toArray k)] → (vs : List Value).length = n → (∀ (i : Nat) v, vs[i]? = some v → RI v (i : Int)) → Rel2 F vs ys → Q (.ref D) { s with heap := h', toks := tk }) :
    wpAny (model prog w) A (pyIter (.ref r)) (fun it s₂ => LcAt prog w A env scope cl x [] elt (fun _ => true) F Q it s₂) E s := by
  refine wpAny_pyIter_range hr (small_nat (by omega)) ?_
  have keep : ∀ (h' : Heap) (oo : Obj), (∀ b o, b ∉ [s.heap.objs.size] → (s.heap.push oo).get? b = some o → h'.get? b = some o) → Sub s.heap h' := fun h' oo k b o q =>
    k b o (fun z => by rw [List.mem_singleton.mp z, none_at] at q; cases q) (Heap.get?_push_of_some _ q)
  have W := (Walks.range (prog := prog) (w := w) (A := A) hh s.heap.objs.size 0 1 n).bound
  refine ⟨_, _, _, _, _, _, rfl, W, ?_, ?_, ?_, ⟨?_, ?_⟩, ?_⟩
  · rw [sizeLine_eq]; omega
  · rw [rangeSize_nat]
    show (s.heap.push _).get? s.heap.objs.size = _
    rw [Heap.get?_push_size _ rfl]
    simp
  · intro b hb
    show b < (s.heap.push _).objs.size
    rw [Heap.size_push, List.mem_singleton.mp hb]
    exact Nat.lt_succ_self _
  · intro C i v s₃ m₃ E' _ hP hn hm hk _
    exact wpAny_tests_nil ⟨rfl, ⟨_, _, rfl, fun _ _ q => q⟩⟩
  · intro C i v s₃ m₃ E' _ hP _ hn hm hk _
    obtain ⟨hi, ty, hy⟩ := hP
    exact wpAny_mono (helt C i v s₃ m₃ hi ⟨ty, by simpa using hy⟩ hn hm (keep _ _ hk)) (fun _ _ q => q) fun _ _ q => q.elim
  · intro D h' tk ys vs' hD _ ⟨k, hp⟩ hlen hP hF hk
    rw [filter_all] at hF
    refine h D h' tk vs' ys.toList k ⟨keep _ _ hk, fun p hp' => ?_, by simp⟩ hlen (fun i v q => ?_) (rel_of_paired hF)
    · rw [List.mem_singleton.mp hp']
      exact ⟨hp, none_push hD⟩
    · obtain ⟨_, ty, hy⟩ := hP i v q
      exact ⟨ty, by simpa using hy⟩
end
section
variable {prog : Program} {w : World} {A : Around} {E : Value → Shared → Prop} {s : Shared} {env : Env} {Q : Value → Shared → Prop} {kx vx test : Expr} {x : Str} {scope : Scope} {cl : List (Str × Addr)}
def DcAt (prog : Program) (w : World) (A : Around) (env : Env) (scope : Scope) (cl : List (Str × Addr)) (x : Str) (ifs : List Expr) (kx vx : Expr) (p : Value → Bool) (FK : Value → Str → Prop) (FV : Value → Value → Prop) (Q : Value → Shared → Prop) (it : Value) (s₂ : Shared) : Prop :=
  ∃ I fp wr n P St, it = .ref I ∧ Walks prog w A I fp wr n P St ∧ n ≤ sizeLine ∧ St 0 s₂.heap ∧ (∀ b ∈ fp, b < s₂.heap.objs.size) ∧
      QuietOnCD (PySem.strKind prog w) A env scope cl x ifs kx vx wr P p FK FV s₂ ∧
      (∀ D h' tk kvs (vs : List Value), D = s₂.heap.objs.size → s₂.heap.get? D = none → h'.DictOf (PySem.strKind prog w) D kvs → vs.length = n → (∀ j v, vs[j]? = some v → P j v) → StoredAll FK FV (vs.filter p) kvs →
        (∀ b o, b ∉ wr → s₂.heap.get? b = some o → h'.get? b = some o) → Q (.ref D) { s₂ with heap := h', toks := tk })
theorem newDict_both {M : Model} {P : Value → Shared → Prop} (H : wpAny M A newDict P E s) : wpAny M A newDict (fun acc s₃ => acc = .ref s.heap.objs.size ∧ P acc s₃) E s :=
  fun Γ p hΓ => ⟨rfl, H Γ p hΓ⟩
theorem DictC {iter : Expr} {px : Pos} {ifs : List Expr} {pos : Pos} (p : Value → Bool) (FK : Value → Str → Prop) (FV : Value → Value → Prop)
    (hclos : closureFor scope env = pure cl) (hcell : ∀ y ∈ scope.names, y.2 ≠ .cell) (hkind : scope.kind = .function)
    (hnames : ∀ y ∈ scope.names, y.2 = .local → scope.names.lookup y.1 = some .local) (hx : scope.names.lookup x = some .local)
    (h : wpAny (model prog w) A (eval iter env) (fun xv s₁ => wpAny (model prog w) A (pyIter xv) (fun it s₂ => DcAt prog w A env scope cl x ifs kx vx p FK FV Q it s₂) E s₁) E s)
    (hs : ∀ x, foldedSetIterable iter env x = pure x := by intro _; rfl) :
    wpAny (model prog w) A (eval (.DictComp kx vx [⟨.Name x px, iter, ifs, 0⟩] scope pos) env) Q E s := by
  rw [arm_eval_DictComp]
  refine wpAny_comprehension_free (use := none) rfl hs hclos hkind hnames (wpAny_mono h (fun xv s₁ h₁ => wpAny_mono h₁ (fun it s₂ h₂ => ?_) fun _ _ e => e) fun _ _ e => e)
  obtain ⟨I, fp, wr, n, P, St, rfl, W, hsz, hst, hfp, hq, hQ⟩ := h₂
  have H := newDict_both (comp_block_walkCD (E := E) (px := px) (iter := iter) (pos := pos) (knd := PySem.strKind prog w) (RR := fun acc C r s' => acc = .ref s₂.heap.objs.size → compPost (model prog w) A E none Q acc C r s') W hsz p FK FV hcell hkind hx hst hfp hq ?_)
  · refine wpAny_mono H (fun acc s₃ q => ?_) fun _ _ e => e
    obtain ⟨ha, q⟩ := q
    exact wpAny_mono q (fun cenv s₄ z => codeAny_mono z fun r s' y => y ha) fun _ _ e => e
  · intro D C h' tk m' kvs vs hD hC hDC hn hl hlen hP hF hk ha
    exact ⟨m', hn, fun h'' hs'' => hQ D h'' tk kvs vs (by injection ha) hD (hl.extBut hs''.extBut hDC) hlen hP hF fun b o hbf e => hs''.extBut b o (by rintro rfl; rw [hC] at e; cases e) (hk b o hbf e)⟩
theorem stored_rel {p : Value → Bool} {FK : Value → Str → Prop} {FV : Value → Value → Prop} (hK : ∀ v k, FK v k → ∃ t, v = .str k t) : ∀ {l : List Value} {kvs : List (Str × Value)}, StoredAll FK FV l kvs → ∀ {es : List (Fin 4 × Int)},
    Rel2 (fun v (e : Fin 4 × Int) => (∃ t, v = .str (U e.1) t) ∧ ∀ y, FV v y → RI y e.2) l es → (es.map (·.1)).Nodup → Rel2 RE kvs es := by
  intro l kvs h
  induction h with
  | nil => intro es r _; cases r; exact .nil
  | @snoc l kvs v k y hs hk hy ih =>
    intro es r nd
    have hlen := r.length
    rw [List.length_append, List.length_singleton] at hlen
    have e1 : es = es.take l.length ++ es.drop l.length := (List.take_append_drop _ _).symm
    have r1 := r.take l.length
    have r2 := r.drop l.length
    rw [List.take_left] at r1
    rw [List.drop_left] at r2
    generalize es.take l.length = ea at *
    generalize es.drop l.length = eb at *
    cases r2 with
    | @cons _ e _ eb' q r3 =>
      cases r3
      subst e1
      obtain ⟨⟨t, hv⟩, hFV⟩ := q
      obtain ⟨t', hv'⟩ := hK _ _ hk
      have hku : k = U e.1 := by rw [hv'] at hv; cases hv; rfl
      rw [List.map_append, List.map_cons, List.map_nil] at nd
      have nd' := List.nodup_append.mp nd
      have r4 := ih r1 nd'.1
      have hno : kvs.any (fun kv => decide (kv.1 = k)) = false := by
        rw [hku, any_key r4]
        cases z : ea.lookup e.1 with
        | none => rfl
        | some m =>
          exfalso
          have : e.1 ∈ ea.map (·.1) := by
            have := List.lookup_eq_some_iff.mp z
            obtain ⟨l1, l2, e3, _⟩ := this
            rw [e3]; simp
          exact nd'.2.2 _ this _ (List.mem_singleton.mpr rfl) rfl
      unfold stored
      rw [hno, if_neg (by decide)]
      exact r4.append (.one ⟨hku, hFV y hy⟩)
/-- a dict of some of a tally's entries -/
theorem dc_tab {d : Addr} {es : List (Fin 4 × Int)} (p : Fin 4 → Bool) (pv : Value → Bool) (hpv : ∀ c t, pv (.str (U c) t) = p c) (FV : Value → Value → Prop) (hh : A.handled = none) (X : s.heap.NoLimit) (T : Tab prog w s.heap d es) (hsz : es.length < 1000)
    (hFV : ∀ (e : Fin 4 × Int) t y, e ∈ es → FV (.str (U e.1) t) y → RI y e.2)
    (htest : ∀ C c t s₃ m₃, s₃.heap.Ns C m₃ → m₃ x = some (.str (U c) t) → Sub s.heap s₃.heap → wpAny (model prog w) A (isTrue test (compEnvC scope cl C env) (eval test (compEnvC scope cl C env))) (fun ok s₄ => ok = p c ∧ Keeps s₃ s₄) (fun _ _ => False) s₃)
    (hkey : ∀ C c t s₃ m₃, s₃.heap.Ns C m₃ → m₃ x = some (.str (U c) t) → Sub s.heap s₃.heap → wpAny (model prog w) A (eval kx (compEnvC scope cl C env)) (fun key s₄ => (∃ t', key = .str (U c) t') ∧ Keeps s₃ s₄) (fun _ _ => False) s₃)
    (hval : ∀ C (e : Fin 4 × Int) t s₃ m₃, e ∈ es → s₃.heap.Ns C m₃ → m₃ x = some (.str (U e.1) t) → Sub s.heap s₃.heap → wpAny (model prog w) A (eval vx (compEnvC scope cl C env)) (fun y s₄ => FV (.str (U e.1) t) y ∧ Keeps s₃ s₄) (fun _ _ => False) s₃)
    (h : ∀ D h' tk o, New s.heap h' [(D, o)] → (D == sysModules) = false → TabO prog w o (es.filter fun e => p e.1) → Q (.ref D) { s with heap := h', toks := tk }) :
    wpAny (model prog w) A (pyIter (.ref d)) (fun it s₂ => DcAt prog w A env scope cl x [test] kx vx pv (fun v k => ∃ t, v = .str k t) FV Q it s₂) E s := by
  obtain ⟨kvs, hk, rk⟩ := T.kvs
  obtain ⟨ep, hd⟩ := hk.dictAt
  refine wpAny_pyIter_dict T.1 hd ?_
  have lt : d < s.heap.objs.size := hd.lt_size
  have keep : ∀ (h' : Heap) (oo : Obj), (∀ b o, b ∉ [s.heap.objs.size] → (s.heap.push oo).get? b = some o → h'.get? b = some o) → Sub s.heap h' := fun h' oo k b o q =>
    k b o (fun z => by rw [List.mem_singleton.mp z, none_at] at q; cases q) (Heap.get?_push_of_some _ q)
  have item : ∀ (i : Nat) (v : Value), (∃ k x, kvs[i]? = some (k, x) ∧ (PySem.strKind prog w).is k v = true) → ∃ e t, e ∈ es ∧ es[i]? = some e ∧ v = .str (U e.1) t := by
    rintro i v ⟨k, x, hx, hi⟩
    obtain ⟨e, he, hke, _⟩ := rk.get' hx
    obtain ⟨t, rfl⟩ := Value.isStrOf_shape hi
    dsimp only at hke
    subst hke
    exact ⟨e, t, List.mem_of_getElem? he, he, rfl⟩
  refine ⟨_, _, _, _, _, _, rfl, Walks.dictKeys (knd := PySem.strKind prog w) hh s.heap.objs.size d (Nat.ne_of_lt lt) kvs ep, ?_, ⟨⟨_, Heap.get?_push_size _ rfl, rfl, rfl⟩, hd.push _⟩, ?_, ⟨?_, ?_, ?_⟩, ?_⟩
  · rw [rk.length, sizeLine_eq]; omega
  · intro b hb
    show b < (s.heap.push _).objs.size
    rw [Heap.size_push]
    rcases List.mem_cons.mp hb with rfl | hb
    · exact Nat.lt_succ_self _
    · rw [List.mem_singleton.mp hb]; exact Nat.lt_succ_of_lt lt
  · intro C i v s₃ m₃ E' hP hn hm hk
    obtain ⟨e, t, hme, _, rfl⟩ := item i v hP
    refine wpAny_tests_one (wpAny_mono (htest C e.1 t s₃ m₃ hn hm (keep _ _ hk)) (fun _ _ q => ?_) fun _ _ q => q.elim)
    rw [hpv]; exact q
  · intro C i v s₃ m₃ E' hP _ hn hm hk
    obtain ⟨e, t, hme, _, rfl⟩ := item i v hP
    refine wpAny_mono (hkey C e.1 t s₃ m₃ hn hm (keep _ _ hk)) (fun _ _ q => ?_) fun _ _ q => q.elim
    obtain ⟨⟨t', rfl⟩, kk⟩ := q
    exact ⟨⟨U e.1, strKind_is prog w _ _, t, rfl⟩, kk⟩
  · intro C i v s₃ m₃ E' hP _ hn hm hk
    obtain ⟨e, t, hme, _, rfl⟩ := item i v hP
    exact wpAny_mono (hval C e t s₃ m₃ hme hn hm (keep _ _ hk)) (fun _ _ q => q) fun _ _ q => q.elim
  · intro D h' tk kvs' vs hDs hD hd' hlen hP hS hk
    obtain ⟨o, ho, hdo⟩ := Heap.dictOf_iff.mp hd'
    have lo : (D == sysModules) = false := by
      rw [hDs]
      show ((s.heap.push _).objs.size == sysModules) = false
      rw [Heap.size_push]
      exact beq_eq_false_iff_ne.mpr (Nat.ne_of_gt (Nat.lt_succ_of_lt (modules_low X)))
    refine h D h' tk o ⟨keep _ _ hk, fun q hq => ?_, by simp⟩ lo ⟨kvs', hdo, ?_⟩
    · rw [List.mem_singleton.mp hq]; exact ⟨ho, none_push hD⟩
    · have nd := keys_nodup rk hd.nodup
      have hvs : Rel2 (fun v (e : Fin 4 × Int) => e ∈ es ∧ ∃ t, v = .str (U e.1) t) vs es := .of_get (by rw [hlen, rk.length]) fun i v hv => by
        obtain ⟨e, t, hme, he, rfl⟩ := item i v (hP i v hv)
        exact ⟨e, he, hme, t, rfl⟩
      have hvf : Rel2 (fun v (e : Fin 4 × Int) => e ∈ es ∧ ∃ t, v = .str (U e.1) t) (vs.filter pv) (es.filter fun e => p e.1) := hvs.filter fun v e q => by
        obtain ⟨_, t, rfl⟩ := q
        exact hpv e.1 t
      refine stored_rel (p := pv) (fun v k q => q) hS (hvf.mono fun v e q => ?_) ?_
      · obtain ⟨hme, t, rfl⟩ := q
        exact ⟨⟨t, rfl⟩, fun y hy => hFV e t y hme hy⟩
      · exact nd.sublist (List.filter_sublist.map _)
end
end Mine
end
section
open PySem PySem.W PyProof.Rows PySem.Calls
set_option Elab.async false
set_option maxRecDepth 100000
set_option maxHeartbeats 4000000
set_option linter.unusedVariables false
namespace Mine
theorem fill4 : (PySem.Challenge.rw_pe0061_01.prog, fun (P : Params) => hd.heap_39 P) = (PySem.Challenge.rw_pe0061_01.prog, fun (P : Params) => hd.heap_39 P) := by
  k_fill
  rfl
def aheadGo : List (Fin 4) → List (Fin 4 × Int) → List Int → List (Fin 4 × Int) × List Int
  | [], tl, ah => (tl, ah)
  | c :: cs, tl, ah => aheadGo cs (addF tl c 1) (ah ++ [(tl.lookup c).getD 0])
def pF (first : Int) (c x : Fin 4) : Bool := decide (first * ((if c < x then 1 else 0) - (if x < c then 1 else 0)) < 0)
def startF (tl : List (Fin 4 × Int)) (first : Int) (c : Fin 4) : Int := ((tl.filter fun e => pF first c e.1).map (·.2)).sum
def wayF (tl : List (Fin 4 × Int)) (first turn : Int) (c : Fin 4) (k : Int) : Option Int := match decide (turn = 1) with
  | true => some (startF tl first c + k)
  | false => match tl.lookup c with
    | some n => some (startF tl first c + n - 1 - k)
    | none => none
def waysGo (tl : List (Fin 4 × Int)) (first turn : Int) : List (Fin 4) → List Int → Option (List Int)
  | c :: cs, k :: ks => match wayF tl first turn c k, waysGo tl first turn cs ks with
    | some v, some r => some (v :: r)
    | _, _ => none
  | _, _ => some []
def waysF (us : List (Fin 4)) (first turn : Int) : Option (List Int) := waysGo (aheadGo us [] []).1 first turn us (aheadGo us [] []).2
theorem nd3 (L : Nat) : [L + 1 + 1 + 1, L + 1 + 1, L + 1].Nodup := by simp; omega
theorem led_nd {d : Addr} {o : Obj} {nw : List (Addr × Obj)} (nd : (nw.map (·.1)).Nodup) (lt : ∀ p ∈ nw, p.1 < d) : (((d, o) :: nw).map (·.1)).Nodup := by
  rw [List.map_cons]
  refine List.nodup_cons.mpr ⟨fun q => ?_, nd⟩
  obtain ⟨p, hp, e⟩ := List.mem_map.mp q
  have := lt p hp
  rw [e] at this
  exact Nat.lt_irrefl _ this
theorem addF_len (es : List (Fin 4 × Int)) (c : Fin 4) (d : Int) : (addF es c d).length ≤ es.length + 1 := by
  unfold addF
  split
  · rw [List.length_map]; omega
  · simp
theorem isL {g h : Heap} {L a : Addr} {nw : List (Addr × Obj)} {its : Array Value} {n : Nat} (D : Led g L h nw) (m : (a, W.listOf its n) ∈ nw) : h.IsList a its := ⟨_, D.get m, rfl, _, rfl⟩
/-- the test upon a key -/
def pvF (first : Int) (c : Fin 4) (v : Value) : Bool := match v with
  | .str x _ => decide (first * ((if (U c).cps.toList < x.cps.toList then 1 else 0) - (if x.cps.toList < (U c).cps.toList then 1 else 0)) < 0)
  | _ => false
theorem U_lt' (a b : Fin 4) : ((U a).cps.toList < (U b).cps.toList) ↔ a < b := by
  have := U_lt a b
  exact ⟨fun h => of_decide_eq_true (this ▸ decide_eq_true h), fun h => of_decide_eq_true (this.symm ▸ decide_eq_true h)⟩
theorem pvF_eq (first : Int) (c x : Fin 4) (t : Tok) : pvF first c (.str (U x) t) = pF first c x := by
  unfold pvF pF
  simp only [U_lt']
def FVt (tl : List (Fin 4 × Int)) (v y : Value) : Prop := ∃ c n t u, v = .str (U c) t ∧ tl.lookup c = some n ∧ y = .int n u
theorem lookup_of_mem : ∀ {tl : List (Fin 4 × Int)}, (tl.map (·.1)).Nodup → ∀ {e : Fin 4 × Int}, e ∈ tl → tl.lookup e.1 = some e.2
  | [], _, _, h => by cases h
  | a :: tl, nd, e, h => by
    rw [List.map_cons] at nd
    have q := List.nodup_cons.mp nd
    rw [List.lookup_cons]
    rcases List.mem_cons.mp h with rfl | h
    · rw [beq_self_eq_true]
    · have : (e.1 == a.1) = false := beq_eq_false_iff_ne.mpr fun z => q.1 (by rw [← z]; exact List.mem_map_of_mem h)
      rw [this]
      exact lookup_of_mem q.2 h
theorem FVt_of {tl : List (Fin 4 × Int)} (nd : (tl.map (·.1)).Nodup) {e : Fin 4 × Int} {t : Tok} {y : Value} (he : e ∈ tl) (hy : FVt tl (.str (U e.1) t) y) : RI y e.2 := by
  obtain ⟨c, n, t', u, hv, hl, rfl⟩ := hy
  injection hv with hv
  have := U_inj _ _ hv
  subst this
  rw [lookup_of_mem nd he] at hl
  cases hl
  exact ⟨u, rfl⟩
section
variable {prog : Program} {w : World} {A : Around} {E : Value → Shared → Prop} {s : Shared} {Q : Value → Shared → Prop}
theorem mul_ok {first : Int} (h : first = 1 ∨ first = -1) (p q : Bool) : IntMulOk first (b2i p - b2i q) := by
  rcases h with rfl | rfl <;> exact IntMulOk.of_left (by decide +kernel)
/-- an item of a dict -/
theorem item_dict {K : Type} [DecidableEq K] {knd : PySem.KeyKind prog w K} {value slice : Expr} {d : Addr} {kvs : List (K × Value)} {k : K} {key v : Value} (hd : s.heap.DictOf knd d kvs) (hkey : knd.is k key = true) (hv : valueAt kvs k = some v) (h : Q v { s with toks := s.toks + 1 })
    (hs : subscripted slice false (.ref d) key = operate [.ref d, key] (getItem (.ref d) key) := by with_unfolding_all rfl) :
    wpAny (model prog w) A (subscriptTail value slice (.ref d) key) Q E s :=
  tail_any hd.typeIs slot_dict_getitem.lookup (wpAny_getItem_of hkey hd.mapOf hv h) hs
theorem ways_spec {u : Addr} {uv : List Value} {us : List (Fin 4)} {first turn : Int} {t1 t2 : Tok} {ws : List Int} (X : Tp w s.heap) (hh : A.handled = none) (hroom : A.depth + 1 < recursionLimit)
    (hu : s.heap.IsList u uv.toArray) (ru : Rel2 RU uv us) (hlu : us.length < 1000) (hfirst : first = 1 ∨ first = -1) (e : waysF us first turn = some ws)
    (h : ∀ h' tk a n wv, New s.heap h' [(a, W.listOf (wv : List Value).toArray n)] → Rel2 RI wv ws → Q (.ref a) { s with heap := h', toks := tk }) :
    wpAny (model prog w) A (call (.ref 75) [.ref u, .int first t1, .int turn t2]) Q E s := by
  refine callKC (binds := [("units", .ref u), ("first", .int first t1), ("turn", .int turn t2)]) X (Nat.lt_of_succ_lt hroom) (by k_is) (by k_is) rfl rfl (by decide) (fun L h₁ tk₁ cells F N Y => ?_)
  obtain ⟨o1, o2, o3, rfl, d1', d2', d3'⟩ := CellsAre.three Y
  have d1 : o1.data = .cell none := d1'
  have d2 : o2.data = .cell none := d2'
  have d3 : o3.data = .cell (some (.int first t1)) := d3'
  have D : Led s.heap L h₁ _ := ⟨N, nd3 L⟩
  obtain ⟨m0, F0, hmu, hmt⟩ : ∃ m0, Fr s.heap L h₁ m0 ∧ m0 "units" = some (.ref u) ∧ m0 "turn" = some (.int turn t2) := ⟨_, F, rfl, rfl⟩
  clear d1' d2' d3' Y F N
  refine wpAny_execs_cons <| wpAny_Assign_Name <| newDict_K F0 D.N X.nolimit fun d₀ h₂ od₀ F₂ N₂ lt₂ lo₀ hs₀ _ _ _ => ?_
  have D₂ : Led s.heap L h₂ ((d₀, od₀) :: _) := ⟨N₂, led_nd D.nd lt₂⟩
  refine stC F₂ (D₂.mv3 (own := [])) (pre := [(L + 1 + 1 + 1, o1)]) rfl d2 fun h₃ o2' F₃ D₃ d2' => ?_
  refine wpAny_execs_cons <| wpAny_Assign_Name <| List_ <| wpAny_items_nil <| nl F₃ D₃ (Nat.zero_le _) fun h₄ Ah F₄ D₄ => st F₄ (D₄.mv3 (own := [])) fun h₅ F₅ D₅ => ?_
  dsimp only
  refine wpAny_execs_cons <| wpAny_For <| nameX_L F₅ (upd_ne hmu (by decide)) <| for_list (fun i m nw => ∃ ou ot Av An fz d od tl ah, nw = (L + 1 + 1 + 1, ou) :: (L + 1 + 1, ot) :: (L + 1, o3) :: (Ah, W.listOf (Av : List Value).toArray An) :: fz ∧
    (∃ v, ou.data = .cell v) ∧ ot.data = .cell (some (.ref d)) ∧ (d, od) ∈ fz ∧ (d == sysModules) = false ∧ TabO prog w od tl ∧ tl.length ≤ i ∧ Rel2 RI Av ah ∧ ah.length = i ∧ aheadGo (us.drop i) tl ah = aheadGo us [] [] ∧
    m "units" = some (.ref u) ∧ m "turn" = some (.int turn t2) ∧ m "ahead" = some (.ref Ah)) hh F₅ D₅ (hu.at fun o q => F₅.keep _ _ q) (.inl (let ⟨o, ho, _⟩ := hu; ⟨o, ho⟩))
    ⟨o1, o2', [], 0, _, d₀, od₀, [], [], rfl, ⟨_, d1⟩, d2', .head _, lo₀, ⟨[], hs₀, .nil⟩, Nat.le_refl _, .nil, rfl, rfl, upd_ne hmu (by decide), upd_ne hmt (by decide), rfl⟩ ?_ ?_
  · rintro i v m₁ nw₁ h₆ tk₆ own hv ⟨ou, ot, Av, An, fz, d, od, tl, ah, rfl, ⟨v₀, dou⟩, dot, hdm, lo, hT, htl, hAv, hah, hgo, hm1, hm2, hm3⟩ F₆ D₆
    obtain ⟨c, hc, tc, rfl⟩ := ru.get' hv
    have hdrop : us.drop i = c :: us.drop (i + 1) := by
      have hi : i < us.length := by
        rcases Nat.lt_or_ge i us.length with h | h
        · exact h
        · rw [List.getElem?_eq_none h] at hc; cases hc
      rw [List.drop_eq_getElem_cons hi]
      rw [List.getElem?_eq_getElem hi] at hc
      rw [Option.some.inj hc]
    rw [hdrop] at hgo
    replace hgo : aheadGo (us.drop (i + 1)) (addF tl c 1) (ah ++ [(tl.lookup c).getD 0]) = aheadGo us [] [] := hgo
    have hi1000 : i < 1000 := by
      have : i < us.length := by
        rcases Nat.lt_or_ge i us.length with h | h
        · exact h
        · rw [List.getElem?_eq_none h] at hc; cases hc
      omega
    refine wpAny_assign_Name <| stC F₆ D₆ rfl dou fun h₇ ou' F₇ D₇ dou' => ?_
    obtain ⟨kvs, hkvs, rk⟩ := hT
    have hDm : (d, od) ∈ own ++ (L + 1 + 1 + 1, ou') :: (L + 1 + 1, ot) :: (L + 1, o3) :: (Ah, W.listOf Av.toArray An) :: fz := List.mem_append_right _ (.tail _ (.tail _ (.tail _ (.tail _ hdm))))
    have hd : h₇.DictOf (PySem.strKind prog w) d kvs := Heap.dictOf_iff.mpr ⟨od, D₇.get hDm, hkvs⟩
    refine wpAny_execs_cons <| wpAny_Expr <| MethodCall_ <| nameX_L F₇ hm3 <| listMethod_K D₇.N (its := Av.toArray) (n := An) (List.mem_append_right _ (.tail _ (.tail _ (.tail _ (.head _))))) PySem.F.slot_list_append PySem.F.type_list_append <| callWith_method1 <| spliced_more <| MethodCall_ <| nameX_C D₇.N rfl (List.mem_append_right _ (.tail _ (.head _))) dot ?_
    refine getMethod_builtin hd.typeIs PySem.F.plainAttrs_dict PySem.F.slot_dict_get PySem.F.type_dict_get hd.mapOf.noDict <| callWith_method1 <| spliced_more <| nameX_C D₇.N rfl (List.mem_append_right _ (.head _)) dou' <| spliced_more <| wpAny_Constant_int <| spliced_none ?_
    refine call_meetsIn PySem.F.slot_dict_get hd.typeIs PySem.F.entry_dict_get (PySem.F.args_dict_get_3 _ _ _) (meets_dict_get_default (PySem.strKind prog w) d (strKind_is prog w (U c) tc) lo _) ⟨_, hd.mapOf, ?_⟩
    have hget : ∀ t0, ∃ tg, (valueAt kvs (U c)).getD (.int 0 t0) = .int ((tl.lookup c).getD 0) tg := fun t0 => by
      rcases valueAt_of rk c with ⟨hl, hv⟩ | ⟨n, t', hl, hv⟩
      · rw [hl, hv]; exact ⟨_, rfl⟩
      · rw [hl, hv]; exact ⟨_, rfl⟩
    obtain ⟨tg, hg⟩ := hget _
    rw [hg]
    have D₇' : Led s.heap L h₇ ((own ++ [(L + 1 + 1 + 1, ou'), (L + 1 + 1, ot), (L + 1, o3)]) ++ (Ah, W.listOf Av.toArray An) :: fz) := by simpa using D₇
    have hAl : Av.length = ah.length := hAv.length
    refine spliced_none <| appL F₇ D₇' (by omega) fun h₈ F₈ D₈' => ?_
    have D₈ : Led s.heap L h₈ (own ++ (L + 1 + 1 + 1, ou') :: (L + 1 + 1, ot) :: (L + 1, o3) :: (Ah, W.listOf (Av ++ [Value.int ((tl.lookup c).getD 0) tg]).toArray (An + 1)) :: fz) := by simpa using D₈'
    dsimp only
    refine wpAny_execs_cons <| wpAny_Assign_Name <| Call_ <| nK X F₈ (by k_is) <| callWith_K X.K (by k_is) <| spliced_more <| nameX_C D₈.N rfl (List.mem_append_right _ (.tail _ (.head _))) dot <| spliced_more ?_
    refine wpAny_Dict_walk (knd := PySem.strKind prog w) rfl rfl (List.cons_ne_nil _ _) (by decide) ?_
    dsimp only
    have F₈p := F₈.push { cls := .type "dict", data := .dict #[] }
    have D₈p := led_push D₈ { cls := .type "dict", data := .dict #[] }
    refine pairTrees_cons_walk <| nameX_C D₈p.N rfl (List.mem_append_right _ (.head _)) dou' <| wpAny_Constant_int <| pairTrees_nil_walk ⟨[(U c, _)], ⟨strKind_is prog w (U c) tc, rfl, trivial⟩, Heap.DictOf.new h₈, fun h₉ hd₉ hs₉ => ?_⟩
    have F₉ : Fr s.heap L h₉ m₁ := F₈.filled hs₉
    obtain ⟨o9, ho9, hdo9⟩ := Heap.dictOf_iff.mp hd₉
    have D₉' : Led s.heap L h₉ ((h₈.objs.size, o9) :: _) := ⟨News.filled F₈ D₈.N hs₉ ho9, led_nd D₈.nd D₈.lt⟩
    have lo9 : (h₈.objs.size == sysModules) = false := F₈.notModules (modules_low X.nolimit)
    have D₉ := D₉'.mv4
    dsimp only
    refine spliced_none ⟨(X.keeps F₉.keep).K, ?_⟩
    refine add_spec (c := c) (d := 1) (X.keeps F₉.keep) hh hroom ⟨lo, od, D₉.get (List.mem_append_right _ (.tail _ (.tail _ (.tail _ (.tail _ (.tail _ hdm)))))), kvs, hkvs, rk⟩ ⟨lo9, o9, ho9, _, hdo9, .one ⟨rfl, _, rfl⟩⟩ (by omega) fun h₁₀ tk₁₀ a oa W₁₀ lo₁₀ hT₁₀ => ?_
    obtain ⟨F₁₀, D₁₀'⟩ := New.after F₉ D₉ W₁₀
    have D₁₀ : Led s.heap L h₁₀ ((own ++ [(L + 1 + 1 + 1, ou')]) ++ (L + 1 + 1, ot) :: (L + 1, o3) :: (Ah, W.listOf (Av ++ [Value.int ((tl.lookup c).getD 0) tg]).toArray (An + 1)) :: (a, oa) :: (h₈.objs.size, o9) :: fz) := by
      have := Led.mv4 D₁₀'
      simpa using this
    dsimp only
    refine stC F₁₀ D₁₀ rfl dot fun h₁₁ ot' F₁₁ D₁₁ dot' => ?_
    refine wpAny_execs_nil ⟨h₁₁, _, m₁, (L + 1 + 1 + 1, ou') :: (L + 1 + 1, ot') :: (L + 1, o3) :: (Ah, W.listOf (Av ++ [Value.int ((tl.lookup c).getD 0) tg]).toArray (An + 1)) :: (a, oa) :: (h₈.objs.size, o9) :: fz, rfl, F₁₁, by simpa using D₁₁,
      ou', ot', Av ++ [Value.int ((tl.lookup c).getD 0) tg], An + 1, _, a, oa, addF tl c 1, ah ++ [(tl.lookup c).getD 0], rfl, ⟨_, dou'⟩, dot', .head _, lo₁₀, hT₁₀, ?_, hAv.append (.one ⟨_, rfl⟩), by simp [hah], hgo, hm1, hm2, hm3⟩
    have := addF_len tl c 1
    omega
  · rintro m₁ nw₁ h₆ tk₆ ⟨ou, ot, Av, An, fz, d, od, tl, ah, rfl, ⟨v₀, dou⟩, dot, hdm, lo, hT, htl, hAv, hah, hgo, hm1, hm2, hm3⟩ F₆ D₆
    rw [ru.length] at htl hah hgo
    rw [List.drop_length] at hgo
    replace hgo : (tl, ah) = aheadGo us [] [] := hgo
    have e' : waysGo tl first turn us ah = some ws := by
      unfold waysF at e
      rw [← hgo] at e
      exact e
    refine wpAny_execs_cons <| wpAny_Assign_Name <| List_ <| wpAny_items_nil <| nl F₆ D₆ (Nat.zero_le _) fun h₇ Wy F₇ D₇ => st F₇ (D₇.mv4 (own := [])) fun h₈ F₈ D₈ => ?_
    dsimp only
    have hAl : Av.length = ah.length := hAv.length
    refine wpAny_execs_cons <| wpAny_For <| Call_ <| nB X F₈ (by k_is) (by boot_fast) (by decide) <| PyProof.Rows.callWith_type1 <| spliced_more <| nameX_L F₈ (upd_ne hm1 (by decide)) <| spliced_more <| nameX_L F₈ (upd_ne hm3 (by decide)) <| spliced_none ?_
    refine for_zip (xs := uv) (ys := Av) (fun i m nw => ∃ ou Wv Wn fz' wl, nw = (L + 1 + 1 + 1, ou) :: (L + 1 + 1, ot) :: (L + 1, o3) :: (Ah, W.listOf Av.toArray An) :: (Wy, W.listOf (Wv : List Value).toArray Wn) :: fz' ∧
      (∃ v, ou.data = .cell v) ∧ (d, od) ∈ fz' ∧ Rel2 RI Wv wl ∧ wl.length = i ∧ (∃ rest, waysGo tl first turn (us.drop i) (ah.drop i) = some rest ∧ wl ++ rest = ws) ∧
      m "turn" = some (.int turn t2) ∧ m "ways" = some (.ref Wy)) hh F₈ D₈ (hu.at fun o q => F₈.keep _ _ q) (isL D₈ (.tail _ (.tail _ (.tail _ (.head _))))) (.inl (let ⟨o, ho, _⟩ := hu; ⟨o, ho⟩)) (.inr ⟨_, fun i m nw q => by obtain ⟨_, _, _, _, _, rfl, _⟩ := q; exact .tail _ (.tail _ (.tail _ (.head _)))⟩)
      ⟨ou, [], 0, _, [], rfl, ⟨_, dou⟩, hdm, .nil, rfl, ⟨ws, e', rfl⟩, upd_ne hm2 (by decide), rfl⟩ ?_ ?_
    · rintro i T x y m₂ nw₂ h₉ tk₉ own hx hy ⟨ou₂, Wv, Wn, fz', wl, rfl, ⟨v₂, dou₂⟩, hdm', hWv, hwl, ⟨rest, hrest, hws⟩, hn1, hn2⟩ F₉ D₉ hTup
      obtain ⟨c, hc, tc, rfl⟩ := ru.get' hx
      obtain ⟨k, hk, tk, rfl⟩ := hAv.get' hy
      have hi : i < us.length := by
        rcases Nat.lt_or_ge i us.length with h | h
        · exact h
        · rw [List.getElem?_eq_none h] at hc; cases hc
      have hi2 : i < ah.length := by omega
      have hdu : us.drop i = c :: us.drop (i + 1) := by
        rw [List.drop_eq_getElem_cons hi]
        rw [List.getElem?_eq_getElem hi] at hc
        rw [Option.some.inj hc]
      have hda : ah.drop i = k :: ah.drop (i + 1) := by
        rw [List.drop_eq_getElem_cons hi2]
        rw [List.getElem?_eq_getElem hi2] at hk
        rw [Option.some.inj hk]
      rw [hdu, hda] at hrest
      unfold waysGo at hrest
      cases hway : wayF tl first turn c k with
      | none => rw [hway] at hrest; cases hrest
      | some way =>
        cases hr2 : waysGo tl first turn (us.drop (i + 1)) (ah.drop (i + 1)) with
        | none => rw [hway, hr2] at hrest; cases hrest
        | some rest' =>
          rw [hway, hr2] at hrest
          cases hrest
          refine unpackN_ F₉ D₉.N hTup hh rfl rfl fun h₁₀ F₁₀ N₁₀ => ?_
          have D₁₀ : Led s.heap L h₁₀ _ := ⟨N₁₀, D₉.nd⟩
          refine assignInOrder_cons <| wpAny_assign_Name <| stC F₁₀ D₁₀ rfl dou₂ fun h₁₁ ou' F₁₁ D₁₁ dou' => ?_
          refine assignInOrder_cons <| asg F₁₁ D₁₁ fun h₁₂ F₁₂ D₁₂ => assignInOrder_nil ?_
          dsimp only
          have mU : (L + 1 + 1 + 1, ou') ∈ own ++ (L + 1 + 1 + 1, ou') :: (L + 1 + 1, ot) :: (L + 1, o3) :: (Ah, W.listOf Av.toArray An) :: (Wy, W.listOf Wv.toArray Wn) :: fz' := List.mem_append_right _ (.head _)
          have mT : (L + 1 + 1, ot) ∈ own ++ (L + 1 + 1 + 1, ou') :: (L + 1 + 1, ot) :: (L + 1, o3) :: (Ah, W.listOf Av.toArray An) :: (Wy, W.listOf Wv.toArray Wn) :: fz' := List.mem_append_right _ (.tail _ (.head _))
          have mF : (L + 1, o3) ∈ own ++ (L + 1 + 1 + 1, ou') :: (L + 1 + 1, ot) :: (L + 1, o3) :: (Ah, W.listOf Av.toArray An) :: (Wy, W.listOf Wv.toArray Wn) :: fz' := List.mem_append_right _ (.tail _ (.tail _ (.head _)))
          have mD : (d, od) ∈ own ++ (L + 1 + 1 + 1, ou') :: (L + 1 + 1, ot) :: (L + 1, o3) :: (Ah, W.listOf Av.toArray An) :: (Wy, W.listOf Wv.toArray Wn) :: fz' := List.mem_append_right _ (.tail _ (.tail _ (.tail _ (.tail _ (.tail _ hdm')))))
          have hTab : Tab prog w h₁₂ d tl := ⟨lo, od, D₁₂.get mD, hT⟩
          refine wpAny_execs_cons <| wpAny_Assign_Name <| Call_ <| nK X F₁₂ (by k_is) <| callWith_K X.K (by k_is) <| spliced_more ?_
          refine DictC (pvF first c) (fun v k => ∃ t, v = .str k t) (FVt tl) rfl (by decide) rfl (by decide) rfl <| nameX_C D₁₂.N rfl mT dot <| dc_tab (es := tl) (pF first c) (pvF first c) (pvF_eq first c) (FVt tl) hh ((X.nolimit).keeps F₁₂.keep) hTab (by omega) ?_ ?_ ?_ ?_ ?_
          · intro e t y he hy
            exact FVt_of (keys_nodup hT.choose_spec.2 (let ⟨_, _, _, _, _, _, n⟩ := hT.choose_spec.1; n)) he hy
          · intro C x t s₃ m₃ hn hm hk
            refine wpAny_isTrue_Compare1 <| wpAny_BinOp <| wpAny_Name (wpAny_loadName_cell rfl rfl rfl ⟨o3, hk _ _ (D₁₂.get mF), d3⟩ ?_)
            refine wpAny_BinOp <| wpAny_Compare1 <| wpAny_Name (wpAny_loadName_local rfl rfl hn hm <| wpAny_Name (wpAny_loadName_cell rfl rfl rfl ⟨ou', hk _ _ (D₁₂.get mU), dou'⟩ <| P.gt_str ?_))
            refine wpAny_Compare1 <| wpAny_Name (wpAny_loadName_local rfl rfl hn hm <| wpAny_Name (wpAny_loadName_cell rfl rfl rfl ⟨ou', hk _ _ (D₁₂.get mU), dou'⟩ <| PyProof.Rows.lt_str ?_))
            refine sub_bool <| mul_int ?_ (mul_ok hfirst _ _)
            refine wpAny_Constant_int <| PyProof.Rows.lt_int <| wpAny_truthy_bool ⟨?_, ⟨_, _, rfl, fun _ _ q => q⟩⟩
            rw [U_lt, U_lt]
            unfold pF
            by_cases h1 : c < x <;> by_cases h2 : x < c <;> simp [h1, h2, b2i]
          · intro C x t s₃ m₃ hn hm hk
            exact wpAny_Name (wpAny_loadName_local rfl rfl hn hm ⟨⟨t, rfl⟩, ⟨_, _, rfl, fun _ _ q => q⟩⟩)
          · intro C e t s₃ m₃ he hn hm hk
            obtain ⟨kvs, hkvs, rk⟩ := id hT
            have hd : s₃.heap.DictOf (PySem.strKind prog w) d kvs := Heap.dictOf_iff.mpr ⟨od, hk _ _ (D₁₂.get mD), hkvs⟩
            have hl := lookup_of_mem (keys_nodup rk (let ⟨_, _, _, _, _, _, n⟩ := hkvs; n)) he
            rcases valueAt_of rk e.1 with ⟨hl', _⟩ | ⟨n, t', hl', hv⟩
            · rw [hl] at hl'; cases hl'
            · rw [hl] at hl'
              cases hl'
              refine Subscript_ <| wpAny_Name (wpAny_loadName_cell rfl rfl rfl ⟨ot, hk _ _ (D₁₂.get mT), dot⟩ <| wpAny_Name (wpAny_loadName_local rfl rfl hn hm ?_))
              exact item_dict hd (strKind_is prog w _ _) hv ⟨⟨e.1, e.2, t, t', rfl, hl, rfl⟩, ⟨_, _, rfl, fun _ _ q => q⟩⟩
          · intro D' h₁₃ tk₁₃ o' W₁₃ lo₁₃ hT₁₃
            obtain ⟨F₁₃, D₁₃'⟩ := New.after F₁₂ D₁₂ W₁₃
            have D₁₃ := Led.mv5 D₁₃'
            dsimp only
            have X₁₃ := X.keeps F₁₃.keep
            refine spliced_none ⟨X₁₃.K, ?_⟩
            refine count_spec X₁₃ hh hroom ⟨lo₁₃, o', D₁₃.get (List.mem_append_right _ (.tail _ (.tail _ (.tail _ (.tail _ (.tail _ (.head _))))))), hT₁₃⟩ fun h₁₄ tk₁₄ t₁₄ hk₁₄ => ?_
            have F₁₄ := F₁₃.after hk₁₄
            have D₁₄ := D₁₃.keeps hk₁₄
            dsimp only
            refine st F₁₄ D₁₄ fun h₁₅ F₁₅ D₁₅ => ?_
            dsimp only
            have hWl : Wv.length = wl.length := hWv.length
            have hn1' : upd (upd m₂ "like" (.int k tk)) "start" (.int (startF tl first c) t₁₄) "turn" = some (.int turn t2) := upd_ne (upd_ne hn1 (by decide)) (by decide)
            have hn2' : upd (upd m₂ "like" (.int k tk)) "start" (.int (startF tl first c) t₁₄) "ways" = some (.ref Wy) := upd_ne (upd_ne hn2 (by decide)) (by decide)
            have mW : (Wy, W.listOf Wv.toArray Wn) ∈ own ++ (L + 1 + 1 + 1, ou') :: (L + 1 + 1, ot) :: (L + 1, o3) :: (Ah, W.listOf Av.toArray An) :: (Wy, W.listOf Wv.toArray Wn) :: (D', o') :: fz' := List.mem_append_right _ (.tail _ (.tail _ (.tail _ (.tail _ (.head _)))))
            have D₁₅' : Led s.heap L h₁₅ ((own ++ [(L + 1 + 1 + 1, ou'), (L + 1 + 1, ot), (L + 1, o3), (Ah, W.listOf Av.toArray An)]) ++ (Wy, W.listOf Wv.toArray Wn) :: (D', o') :: fz') := by simpa using D₁₅
            have fin : ∀ h₁₆ tk₁₆ tw, Fr s.heap L h₁₆ (upd (upd m₂ "like" (.int k tk)) "start" (.int (startF tl first c) t₁₄)) → Led s.heap L h₁₆ ((own ++ [(L + 1 + 1 + 1, ou'), (L + 1 + 1, ot), (L + 1, o3), (Ah, W.listOf Av.toArray An)]) ++ (Wy, W.listOf (Wv ++ [Value.int way tw]).toArray (Wn + 1)) :: (D', o') :: fz') →
                ∃ h tk m nw, ({ s with heap := h₁₆, toks := tk₁₆ } : Shared) = { s with heap := h, toks := tk } ∧ Fr s.heap L h m ∧ Led s.heap L h (own ++ nw) ∧ (∃ ou Wv Wn fz' wl, nw = (L + 1 + 1 + 1, ou) :: (L + 1 + 1, ot) :: (L + 1, o3) :: (Ah, W.listOf Av.toArray An) :: (Wy, W.listOf (Wv : List Value).toArray Wn) :: fz' ∧
                (∃ v, ou.data = .cell v) ∧ (d, od) ∈ fz' ∧ Rel2 RI Wv wl ∧ wl.length = i + 1 ∧ (∃ rest, some rest' = some rest ∧ wl ++ rest = ws) ∧
                m "turn" = some (.int turn t2) ∧ m "ways" = some (.ref Wy)) := fun h₁₆ tk₁₆ tw F₁₆ D₁₆ =>
              ⟨h₁₆, tk₁₆, _, (L + 1 + 1 + 1, ou') :: (L + 1 + 1, ot) :: (L + 1, o3) :: (Ah, W.listOf Av.toArray An) :: (Wy, W.listOf (Wv ++ [Value.int way tw]).toArray (Wn + 1)) :: (D', o') :: fz', rfl, F₁₆, by simpa using D₁₆, ou', _, _, _, wl ++ [way], rfl, ⟨_, dou'⟩, .tail _ hdm', hWv.append (.one ⟨_, rfl⟩), by simp [hwl], ⟨rest', rfl, by rw [← hws]; simp⟩, hn1', hn2'⟩
            refine wpAny_execs_cons <| wpAny_If <| wpAny_isTrue_Compare1 <| nameX_L F₁₅ hn1' <| wpAny_Constant_int <| eq_int <| wpAny_truthy_bool ?_
            unfold wayF at hway
            by_cases ht : turn = 1
            · rw [decide_eq_true ht] at hway
              cases hway
              refine pos (by rw [ht]; rfl) ?_
              refine wpAny_execs_cons <| wpAny_Expr <| MethodCall_ <| nameX_L F₁₅ hn2' <| listMethod_K D₁₅.N mW PySem.F.slot_list_append PySem.F.type_list_append <| callWith_method1 <| spliced_more <| wpAny_BinOp <| nameX_L F₁₅ rfl <| nameX_L F₁₅ rfl <| add_int <| spliced_none <| appL F₁₅ D₁₅' (by omega) fun h₁₆ F₁₆ D₁₆ => ?_
              exact wpAny_execs_nil <| wpAny_execs_nil <| fin _ _ _ F₁₆ D₁₆
            · rw [decide_eq_false ht] at hway
              dsimp only at hway
              cases hl : tl.lookup c with
              | none => rw [hl] at hway; cases hway
              | some n =>
                rw [hl] at hway
                cases hway
                obtain ⟨kvs, hkvs, rk⟩ := id hT
                have hd : h₁₅.DictOf (PySem.strKind prog w) d kvs := Heap.dictOf_iff.mpr ⟨od, D₁₅.get (List.mem_append_right _ (.tail _ (.tail _ (.tail _ (.tail _ (.tail _ (.tail _ hdm'))))))), hkvs⟩
                rcases valueAt_of rk c with ⟨hl', _⟩ | ⟨n', t', hl', hv⟩
                · rw [hl] at hl'; cases hl'
                · rw [hl] at hl'
                  cases hl'
                  refine neg (by simp [ht]) ?_
                  refine wpAny_execs_cons <| wpAny_Expr <| MethodCall_ <| nameX_L F₁₅ hn2' <| listMethod_K D₁₅.N mW PySem.F.slot_list_append PySem.F.type_list_append <| callWith_method1 <| spliced_more <| wpAny_BinOp <| wpAny_BinOp <| wpAny_BinOp <| nameX_L F₁₅ rfl ?_
                  refine Subscript_ <| nameX_C D₁₅.N rfl (List.mem_append_right _ (.tail _ (.head _))) dot <| nameX_C D₁₅.N rfl (List.mem_append_right _ (.head _)) dou' <| item_dict hd (strKind_is prog w _ _) hv <| add_int <| wpAny_Constant_int <| sub_int <| nameX_L F₁₅ rfl <| sub_int <| spliced_none <| appL F₁₅ D₁₅' (by omega) fun h₁₆ F₁₆ D₁₆ => ?_
                  exact wpAny_execs_nil <| wpAny_execs_nil <| fin _ _ _ F₁₆ D₁₆
    · rintro m₂ nw₂ h₉ tk₉ ⟨ou₂, Wv, Wn, fz', wl, rfl, ⟨v₂, dou₂⟩, hdm', hWv, hwl, ⟨rest, hrest, hws⟩, hn1, hn2⟩ F₉ D₉
      rw [ru.length, hAl, hah, Nat.min_self, List.drop_length] at hrest
      cases hrest
      rw [List.append_nil] at hws
      subst hws
      refine wpAny_execs_cons <| wpAny_Return_some <| nameX_L F₉ hn2 <| h _ _ Wy Wn Wv (.of F₉ (D₉.sub ?_)) hWv
      exact .cons _ (.cons _ (.cons _ (.cons _ (.cons_cons _ (List.nil_sublist _)))))
end
end Mine
end
section
open PySem PySem.W PyProof.Rows PySem.Calls
set_option Elab.async false
set_option maxRecDepth 100000
set_option maxHeartbeats 4000000
set_option linter.unusedVariables false
namespace Mine
theorem fill5 : (PySem.Challenge.rw_pe0061_01.prog, fun (P : Params) => hd.heap_39 P) = (PySem.Challenge.rw_pe0061_01.prog, fun (P : Params) => hd.heap_39 P) := by
  k_fill
  rfl
def rowE (ring : List (Fin 4)) (k : Nat) (v y : Value) : Prop := ∃ (i : Nat) (t : Tok), v = .int i t ∧ RU y (ring.getD ((k + i) % ring.length) 0)
def rowF (ring : List (Fin 4)) (k many : Nat) : List (Fin 4) := (List.range many).map (fun j => ring.getD ((k + j) % ring.length) 0) ++ [ring.getD (if k = 0 then ring.length - 1 else k - 1) 0]
def insAt (ds : List Int) (rows : List (List (Fin 4))) (row : List (Fin 4)) : Nat → Option Nat
  | 0 => some 0
  | n + 1 => match rows[n]? with
    | some r => match cmpF r row 0 ds with
      | some c => match decide (0 < c) with
        | true => insAt ds rows row n
        | false => some (n + 1)
      | none => none
    | none => none
def ringRows (ds : List Int) (many : Nat) (ring : List (Fin 4)) : List Nat → List (List (Fin 4)) → Option (List (List (Fin 4)))
  | [], rows => some rows
  | k :: ks, rows => match decide (rows.length < 1000), insAt ds rows (rowF ring k many) rows.length with
    | true, some n => ringRows ds many ring ks (rows.take n ++ rowF ring k many :: rows.drop n)
    | _, _ => none
def rowsF (ds : List Int) (many : Nat) : List (List (Fin 4)) → List (List (Fin 4)) → Option (List (List (Fin 4)))
  | [], rows => some rows
  | ring :: rest, rows => match ringRows ds many ring (List.range ring.length) rows with
    | some rows' => rowsF ds many rest rows'
    | none => none
theorem insAt_le {ds : List Int} {rows : List (List (Fin 4))} {row : List (Fin 4)} : ∀ {n m : Nat}, insAt ds rows row n = some m → m ≤ n
  | 0, m, e => by cases e; exact Nat.le_refl _
  | n + 1, m, e => by
    unfold insAt at e
    split at e
    · split at e
      · split at e
        · exact Nat.le_succ_of_le (insAt_le e)
        · cases e; exact Nat.le_refl _
      · cases e
    · cases e
def RRh (h : Heap) (v : Value) (ring : List (Fin 4)) : Prop := ∃ a vs, v = .ref a ∧ h.IsList a (vs : List Value).toArray ∧ Rel2 RU vs ring
theorem RRh.of {h : Heap} {fz : List (Addr × Obj)} (k : ∀ p ∈ fz, h.get? p.1 = some p.2) {v : Value} {ring : List (Fin 4)} (r : RR fz v ring) : RRh h v ring :=
  let ⟨a, vs, n, e, m, x⟩ := r; ⟨a, vs, e, ⟨_, k _ m, rfl, _, rfl⟩, x⟩
theorem nd2 (L : Nat) : [L + 1 + 1, L + 1].Nodup := by simp
section
variable {prog : Program} {w : World} {A : Around} {E : Value → Shared → Prop} {s : Shared} {Q : Value → Shared → Prop}
theorem isL' {g h : Heap} {L a : Addr} {nw : List (Addr × Obj)} {its : Array Value} {n : Nat} (D : Led g L h nw) (m : (a, W.listOf its n) ∈ nw) : h.IsList a its := ⟨_, D.get m, rfl, _, rfl⟩
theorem nBe {env : Env} {x : Str} {pos : Pos} {v : Value} (X : Tp w s.heap) (e : nsIn (hd.heap_39 w.params) mainGlobals x = some none) (hv : bootBuiltins x = some v) (hn : x ≠ "__name__") (h : Q v s)
    (hk : env.scope.kind = .function := by rfl) (hx : env.kindOf x = some .globalImplicit := by rfl) (hg : env.globals = mainGlobals := by rfl) (hb : env.builtins = builtinsNs := by rfl) (hd : (x == ("__debug__" : Str)) = false := by decide) :
    wpAny (model prog w) A (eval (.Name x pos) env) Q E s := by
  obtain ⟨_, _, mg, mb, T⟩ := X.T
  exact Name_function_global hk hx (loadGlobal_builtin (by rw [hg]; exact T.g) (mg_none_of X.K T.g e) (by rw [hb]; exact T.b) ((T.builtins x hn).trans hv) h) hd
theorem item_neg {value slice : Expr} {l : Addr} {vs : List Value} {u : Tok} {v : Value} (hl : s.heap.IsList l vs.toArray) (h0 : 0 < vs.length) (hsz : vs.length < 1000000) (hx : vs[vs.length - 1]? = some v) (h : Q v s)
    (hs : subscripted slice false (.ref l) (.int (-1) u) = operate [.ref l, .int (-1) u] (getItem (.ref l) (.int (-1) u)) := by with_unfolding_all rfl) :
    wpAny (model prog w) A (subscriptTail value slice (.ref l) (.int (-1) u)) Q E s := by
  refine tail_any hl.typeIs slot_list_getitem.lookup (wpAny_getItem_list_neg hl (by omega) (by simp; omega) (by omega) ?_ h) hs
  have e : (-1 + (vs.toArray.size : Int)).toNat = vs.length - 1 := by simp; omega
  rw [e]
  simpa using hx
theorem item_k1 {value slice : Expr} {l : Addr} {vs : List Value} {j : Nat} {u : Tok} {v : Value} (hl : s.heap.IsList l vs.toArray) (hj : j < vs.length) (hsz : vs.length < 1000000) (hx : vs[if j = 0 then vs.length - 1 else j - 1]? = some v) (h : Q v s)
    (hs : ∀ k, subscripted slice false (.ref l) (.int k u) = operate [.ref l, .int k u] (getItem (.ref l) (.int k u)) := by intro _; with_unfolding_all rfl) :
    wpAny (model prog w) A (subscriptTail value slice (.ref l) (.int ((j : Int) - 1) u)) Q E s := by
  by_cases h0 : j = 0
  · rw [if_pos h0] at hx
    have e : (j : Int) - 1 = -1 := by omega
    rw [e]
    exact item_neg hl (by omega) hsz hx h (hs _)
  · rw [if_neg h0] at hx
    have e : ((j : Int) - 1).toNat = j - 1 := by omega
    exact item_list hl (by omega) (by omega) (by rw [e]; exact hx) h (hs _)
theorem ListC {env : Env} {elt iter : Expr} {x : Str} {px : Pos} {ifs : List Expr} {scope : Scope} {cl : List (Str × Addr)} {pos : Pos} (p : Value → Bool) (F : Value → Value → Prop)
    (hclos : closureFor scope env = pure cl) (hcell : ∀ y ∈ scope.names, y.2 ≠ .cell) (hkind : scope.kind = .function)
    (hnames : ∀ y ∈ scope.names, y.2 = .local → scope.names.lookup y.1 = some .local) (hx : scope.names.lookup x = some .local)
    (h : wpAny (model prog w) A (eval iter env) (fun xv s₁ => wpAny (model prog w) A (pyIter xv) (fun it s₂ => LcAt prog w A env scope cl x ifs elt p F Q it s₂) E s₁) E s)
    (hs : ∀ x, foldedSetIterable iter env x = pure x := by intro _; rfl) :
    wpAny (model prog w) A (eval (.ListComp elt [⟨.Name x px, iter, ifs, 0⟩] scope pos) env) Q E s :=
  wpAny_ListComp_free p F hclos hcell hkind hnames hx h hs
theorem rows_spec {rg x : Addr} {rv : List Value} {rings rows : List (List (Fin 4))} {ds : List Int} {many : Nat} {tm : Tok} (X : Tp w s.heap) (hh : A.handled = none) (hroom : A.depth + 1 < recursionLimit)
    (hrg : s.heap.IsList rg rv.toArray) (rr : Rel2 (RRh s.heap) rv rings) (O : Order s.heap x ds) (hds : ds.length < 1000) (hmany : many < 1000) (hrl : ∀ r ∈ rings, r.length < 1000) (e : rowsF ds many rings [] = some rows)
    (h : ∀ h' tk a n wv fz, New s.heap h' ((a, W.listOf (wv : List Value).toArray n) :: fz) → Rel2 (RR fz) wv rows → Q (.ref a) { s with heap := h', toks := tk }) :
    wpAny (model prog w) A (call (.ref 87) [.ref rg, .ref x, .int many tm]) Q E s := by
  refine callKC (binds := [("rings", .ref rg), ("order", .ref x), ("many", .int many tm)]) X (Nat.lt_of_succ_lt hroom) (by k_is) (by k_is) rfl rfl (by decide) (fun L h₁ tk₁ cells F N Y => ?_)
  obtain ⟨o1, o2, rfl, d1', d2'⟩ := CellsAre.two Y
  have d1 : o1.data = .cell none := d1'
  have d2 : o2.data = .cell none := d2'
  have D : Led s.heap L h₁ _ := ⟨N, nd2 L⟩
  obtain ⟨m0, F0, hm1, hm2, hm3⟩ : ∃ m0, Fr s.heap L h₁ m0 ∧ m0 "rings" = some (.ref rg) ∧ m0 "order" = some (.ref x) ∧ m0 "many" = some (.int many tm) := ⟨_, F, rfl, rfl, rfl⟩
  clear d1' d2' Y F N
  refine wpAny_execs_cons <| wpAny_Assign_Name <| List_ <| wpAny_items_nil <| nl F0 D (Nat.zero_le _) fun h₂ Rw F₂ D₂ => st F₂ (D₂.mv2 (own := [])) fun h₃ F₃ D₃ => ?_
  dsimp only
  refine wpAny_execs_cons <| wpAny_For <| nameX_L F₃ (upd_ne hm1 (by decide)) <| for_list (fun i m nw => ∃ ok orr Rv Rn fz rs, nw = (L + 1 + 1, ok) :: (L + 1, orr) :: (Rw, W.listOf (Rv : List Value).toArray Rn) :: fz ∧
    (∃ v, ok.data = .cell v) ∧ (∃ v, orr.data = .cell v) ∧ Rel2 (RR fz) Rv rs ∧ rowsF ds many (rings.drop i) rs = some rows ∧
    m "order" = some (.ref x) ∧ m "many" = some (.int many tm) ∧ m "rows" = some (.ref Rw)) hh F₃ D₃ (hrg.at fun o q => F₃.keep _ _ q) (.inl (let ⟨o, ho, _⟩ := hrg; ⟨o, ho⟩))
    ⟨o1, o2, [], 0, [], [], rfl, ⟨_, d1⟩, ⟨_, d2⟩, .nil, e, upd_ne hm2 (by decide), upd_ne hm3 (by decide), rfl⟩ ?_ ?_
  · rintro i v m₁ nw₁ h₄ tk₄ own hv ⟨ok, orr, Rv, Rn, fz, rs, rfl, ⟨vk, dk⟩, ⟨vr, dr⟩, hRv, hgo, hn1, hn2, hn3⟩ F₄ D₄
    obtain ⟨ring, hring, ra, rvs, rfl, hra, rvs_u⟩ := rr.get' hv
    have hi : i < rings.length := by
      rcases Nat.lt_or_ge i rings.length with h | h
      · exact h
      · rw [List.getElem?_eq_none h] at hring; cases hring
    have hdrop : rings.drop i = ring :: rings.drop (i + 1) := by
      rw [List.drop_eq_getElem_cons hi]
      rw [List.getElem?_eq_getElem hi] at hring
      rw [Option.some.inj hring]
    rw [hdrop] at hgo
    unfold rowsF at hgo
    have hlr : ring.length < 1000 := hrl ring (List.mem_of_getElem? hring)
    have hlv : rvs.length = ring.length := rvs_u.length
    cases hrr : ringRows ds many ring (List.range ring.length) rs with
    | none => rw [hrr] at hgo; cases hgo
    | some rs' =>
      rw [hrr] at hgo
      dsimp only at hgo
      have D₄' : Led s.heap L h₄ ((own ++ [(L + 1 + 1, ok)]) ++ (L + 1, orr) :: (Rw, W.listOf Rv.toArray Rn) :: fz) := by simpa using D₄
      refine wpAny_assign_Name <| stC F₄ D₄' rfl dr fun h₅ or' F₅ D₅' dr' => ?_
      have D₅ : Led s.heap L h₅ (own ++ (L + 1 + 1, ok) :: (L + 1, or') :: (Rw, W.listOf Rv.toArray Rn) :: fz) := by simpa using D₅'
      dsimp only
      refine wpAny_execs_cons <| wpAny_For <| Call_ <| nB X F₅ (by k_is) (by boot_fast) (by decide) <| PyProof.Rows.callWith_type1 <| spliced_more <| Call_ <| nB X F₅ (by k_is) (by boot_fast) (by decide) <| PyProof.Rows.callWith_builtin1 <| spliced_more <| nameX_C D₅.N rfl (List.mem_append_right _ (.tail _ (.head _))) dr' ?_
      refine spliced_none <| call_len_list (hra.at fun o q => F₅.keep _ _ q) (by simp; omega) <| spliced_none ?_
      refine range1_rows F₅ D₅.N fun h₆ tk₆ t₁ u₁ v₁ hr F₆ N₆ hk₆ => ?_
      have D₆ : Led s.heap L h₆ _ := ⟨N₆, D₅.nd⟩
      have hsz : (rvs.toArray.size : Int) = (ring.length : Int) := by simp [hlv]
      rw [hsz] at hr
      dsimp only
      refine for_range (n := ring.length) (fun j m nw => ∃ ok Rv Rn fz rs, nw = own ++ (L + 1 + 1, ok) :: (L + 1, or') :: (Rw, W.listOf (Rv : List Value).toArray Rn) :: fz ∧
        (∃ v, ok.data = .cell v) ∧ Rel2 (RR fz) Rv rs ∧ ringRows ds many ring ((List.range ring.length).drop j) rs = some rs' ∧
        m "order" = some (.ref x) ∧ m "many" = some (.int many tm) ∧ m "rows" = some (.ref Rw)) hh F₆ D₆ hr (by omega)
        ⟨ok, Rv, Rn, fz, rs, rfl, ⟨_, dk⟩, hRv, hrr, hn1, hn2, hn3⟩ ?_ ?_
      · rintro j kv m₂ nw₂ h₇ tk₇ own₂ hj ⟨tk, rfl⟩ ⟨ok₂, Rv₂, Rn₂, fz₂, rs₂, rfl, ⟨vk₂, dk₂⟩, hRv₂, hgo₂, hp1, hp2, hp3⟩ F₇ D₇
        have hdj : (List.range ring.length).drop j = j :: (List.range ring.length).drop (j + 1) := by
          rw [List.drop_eq_getElem_cons (by simpa using hj)]; simp
        rw [hdj] at hgo₂
        unfold ringRows at hgo₂
        cases hlen : decide (rs₂.length < 1000) with
        | false => rw [hlen] at hgo₂; cases hgo₂
        | true =>
          cases hins : insAt ds rs₂ (rowF ring j many) rs₂.length with
          | none => rw [hlen, hins] at hgo₂; cases hgo₂
          | some n₂ =>
            rw [hlen, hins] at hgo₂
            dsimp only at hgo₂
            have hrs := of_decide_eq_true hlen
            have hR : Rv₂.length = rs₂.length := hRv₂.length
            have D₇' : Led s.heap L h₇ ((own₂ ++ own) ++ (L + 1 + 1, ok₂) :: (L + 1, or') :: (Rw, W.listOf Rv₂.toArray Rn₂) :: fz₂) := by simpa using D₇
            refine wpAny_assign_Name <| stC F₇ D₇' rfl dk₂ fun h₈ ok' F₈ D₈ dk' => ?_
            dsimp only
            have mK : (L + 1 + 1, ok') ∈ (own₂ ++ own) ++ (L + 1 + 1, ok') :: (L + 1, or') :: (Rw, W.listOf Rv₂.toArray Rn₂) :: fz₂ := List.mem_append_right _ (.head _)
            have mR : (L + 1, or') ∈ (own₂ ++ own) ++ (L + 1 + 1, ok') :: (L + 1, or') :: (Rw, W.listOf Rv₂.toArray Rn₂) :: fz₂ := List.mem_append_right _ (.tail _ (.head _))
            refine wpAny_execs_cons <| wpAny_Assign_Name <| wpAny_BinOp <| ListC (fun _ => true) (rowE ring j) rfl (by decide) rfl (by decide) rfl <| Call_ <| nB X F₈ (by k_is) (by boot_fast) (by decide) <| PyProof.Rows.callWith_type1 <| spliced_more <| nameX_L F₈ hp2 <| spliced_none <| range1_rows F₈ D₈.N fun h₉ tk₉ t₂ u₂ v₂ hr₂ F₉ N₉ _ => ?_
            have D₉ : Led s.heap L h₉ _ := ⟨N₉, D₈.nd⟩
            dsimp only
            have hra₉ := hra.at fun o q => F₉.keep _ _ q
            refine lc_range (n := many) (rowE ring j) hh hr₂ (by omega) ?_ ?_
            · rintro C i v s₃ m₃ hi ⟨ti, rfl⟩ hn hm hk
              have X₃ : Tp w s₃.heap := X.keeps fun b o q => hk _ _ (F₉.keep _ _ q)
              have hpos : 0 < ring.length := by omega
              have hmod : (j + i) % ring.length < ring.length := Nat.mod_lt _ hpos
              have hget : ring[(j + i) % ring.length]? = some (ring.getD ((j + i) % ring.length) 0) := by
                rw [List.getD_eq_getElem?_getD, List.getElem?_eq_getElem hmod]; rfl
              obtain ⟨vu, hvu, tu, rfl⟩ := rvs_u.get hget
              refine Subscript_ <| wpAny_Name (wpAny_loadName_cell rfl rfl rfl ⟨or', hk _ _ (D₉.get mR), dr'⟩ ?_)
              refine wpAny_BinOp <| wpAny_BinOp <| wpAny_Name (wpAny_loadName_cell rfl rfl rfl ⟨ok', hk _ _ (D₉.get mK), dk'⟩ ?_)
              refine wpAny_Name (wpAny_loadName_local rfl rfl hn hm <| add_int <| Call_ <| nBe X₃ (by k_is) (by boot_fast) (by decide) ?_)
              refine PyProof.Rows.callWith_builtin1 <| spliced_more <| wpAny_Name (wpAny_loadName_cell rfl rfl rfl ⟨or', hk _ _ (D₉.get mR), dr'⟩ ?_)
              refine spliced_none <| call_len_list (hra₉.at fun o q => hk _ _ q) (by simp; omega) <| mod_int' (by rw [hsz]; omega) ?_
              have hidx : (((j : Int) + i).fmod (rvs.toArray.size : Int)) = (((j + i) % ring.length : Nat) : Int) := by
                rw [hsz]
                rw [Int.fmod_eq_emod_of_nonneg _ (by omega)]
                simp
              rw [hidx]
              refine item_list (hra₉.at fun o q => hk _ _ q) (by omega) (by omega) ?_ ⟨⟨i, ti, rfl, tu, rfl⟩, ⟨_, _, rfl, fun _ _ q => q⟩⟩
              rw [Int.toNat_natCast]; exact hvu
            · intro D' h₁₀ tk₁₀ vs' ys' k' W₁₀ hvl hvi hFr
              obtain ⟨F₁₀, D₁₀'⟩ := New.after F₉ D₉ W₁₀
              have D₁₀ := Led.mv3 D₁₀'
              have hlast : ring[if j = 0 then rvs.length - 1 else j - 1]? = some (ring.getD (if j = 0 then ring.length - 1 else j - 1) 0) := by
                rw [List.getD_eq_getElem?_getD, hlv]
                have : (if j = 0 then ring.length - 1 else j - 1) < ring.length := by split <;> omega
                rw [List.getElem?_eq_getElem this]; rfl
              obtain ⟨vl, hvl', tl, rfl⟩ := rvs_u.get hlast
              have hys : Rel2 RU ys' ((List.range many).map (fun i => ring.getD ((j + i) % ring.length) 0)) := by
                refine Rel2.of_get (by rw [← hFr.length, hvl]; simp) fun i y hy => ?_
                obtain ⟨v, hv', hE⟩ := hFr.get hy
                obtain ⟨ti, hti⟩ := hvi i v hv'
                obtain ⟨i', t', e', hU⟩ := hE
                have hii : i' = i := by rw [hti] at e'; injection e' with e1; omega
                subst hii
                have him : i' < many := by
                  rcases Nat.lt_or_ge i' vs'.length with h | h
                  · omega
                  · rw [List.getElem?_eq_none h] at hv'; cases hv'
                exact ⟨_, by simp [him], hU⟩
              have hyl : ys'.length = many := by rw [hys.length]; simp
              dsimp only
              refine List_ <| spliced_more <| Subscript_ <| nameX_C D₁₀.N rfl (List.mem_append_right _ (.tail _ (.head _))) dr' <| wpAny_BinOp <| nameX_C D₁₀.N rfl (List.mem_append_right _ (.head _)) dk' <| wpAny_Constant_int <| sub_int ?_
              refine item_k1 (hra.at fun o q => F₁₀.keep _ _ q) (by omega) (by omega) hvl' <| spliced_none <| nl F₁₀ D₁₀ (by rw [sizeLine_eq]; simp) fun h₁₁ T₁ F₁₁ D₁₁' => ?_
              have D₁₁ := Led.mv3 D₁₁'
              dsimp only
              refine addL F₁₁ D₁₁ (isL' D₁₁ (List.mem_append_right _ (.tail _ (.tail _ (.tail _ (.tail _ (.head _))))))) (isL' D₁₁' (.head _)) (by rw [sizeLine_eq]; simp; omega) fun h₁₂ Rr F₁₂ D₁₂ => st F₁₂ D₁₂.mv3 fun h₁₃ F₁₃ D₁₃ => ?_
              dsimp only
              have hrow : Rel2 RU (ys' ++ [Value.str (U (ring.getD (if j = 0 then ring.length - 1 else j - 1) 0)) tl]) (rowF ring j many) := hys.append (.one ⟨_, rfl⟩)
              generalize hrw : ys' ++ [Value.str (U (ring.getD (if j = 0 then ring.length - 1 else j - 1) 0)) tl] = rw₁ at D₁₃ hrow ⊢
              generalize hfz' : (Rr, W.listOf rw₁.toArray 0) :: (T₁, W.listOf [Value.str (U (ring.getD (if j = 0 then ring.length - 1 else j - 1) 0)) tl].toArray 0) :: (D', W.listOf ys'.toArray k') :: fz₂ = fz₃ at D₁₃
              have mRr : (Rr, W.listOf rw₁.toArray 0) ∈ fz₃ := by rw [← hfz']; exact .head _
              have hsub : ∀ p ∈ fz₂, p ∈ fz₃ := fun p hp => by rw [← hfz']; exact .tail _ (.tail _ (.tail _ hp))
              have mW : (Rw, W.listOf Rv₂.toArray Rn₂) ∈ (own₂ ++ own) ++ (L + 1 + 1, ok') :: (L + 1, or') :: (Rw, W.listOf Rv₂.toArray Rn₂) :: fz₃ := List.mem_append_right _ (.tail _ (.tail _ (.head _)))
              have mRr' : (Rr, W.listOf rw₁.toArray 0) ∈ (own₂ ++ own) ++ (L + 1 + 1, ok') :: (L + 1, or') :: (Rw, W.listOf Rv₂.toArray Rn₂) :: fz₃ := List.mem_append_right _ (.tail _ (.tail _ (.tail _ mRr)))
              refine wpAny_execs_cons <| wpAny_Assign_Name <| Call_ <| nB X F₁₃ (by k_is) (by boot_fast) (by decide) <| PyProof.Rows.callWith_builtin1 <| spliced_more <| nameX_L F₁₃ (upd_ne hp3 (by decide)) <| spliced_none <| call_len_list (isL' D₁₃ mW) (by simp; omega) <| st F₁₃ D₁₃ fun h₁₄ F₁₄ D₁₄ => ?_
              dsimp only
              have hRs : (Rv₂.toArray.size : Int) = (rs₂.length : Int) := by simp [hR]
              refine wpAny_execs_cons <| wpAny_While <| while_inv (fun n s' => ∃ h tk m, s' = { s with heap := h, toks := tk } ∧ Fr s.heap L h m ∧
                Led s.heap L h ((own₂ ++ own) ++ (L + 1 + 1, ok') :: (L + 1, or') :: (Rw, W.listOf Rv₂.toArray Rn₂) :: fz₃) ∧ n ≤ rs₂.length ∧ insAt ds rs₂ (rowF ring j many) n = some n₂ ∧
                m "order" = some (.ref x) ∧ m "many" = some (.int many tm) ∧ m "rows" = some (.ref Rw) ∧ m "row" = some (.ref Rr) ∧ ∃ t, m "at" = some (.int (n : Int) t)) ?_ rs₂.length
                ⟨h₁₄, _, _, rfl, F₁₄, D₁₄, Nat.le_refl _, hins, upd_ne (upd_ne hp1 (by decide)) (by decide), upd_ne (upd_ne hp2 (by decide)) (by decide), upd_ne (upd_ne hp3 (by decide)) (by decide), upd_ne rfl (by decide), _, by rw [← hRs]; rfl⟩
              rintro n s' ⟨h₁₅, tk₁₅, m₃, rfl, F₁₅, D₁₅, hn, hins', hq1, hq2, hq3, hq4, ta, hq5⟩
              refine wpAny_isTrue_BoolOp <| wpAny_allTrue_And_cons <| wpAny_isTrue_Compare1 <| nameX_L F₁₅ hq5 <| wpAny_Constant_int <| gt_int <| wpAny_truthy_bool ?_
              cases n with
              | zero =>
                cases hins'
                refine neg (by simp) <| neg rfl ?_
                dsimp only
                have D₁₅' : Led s.heap L h₁₅ (((own₂ ++ own) ++ [(L + 1 + 1, ok'), (L + 1, or')]) ++ (Rw, W.listOf Rv₂.toArray Rn₂) :: fz₃) := by simpa using D₁₅
                refine wpAny_execs_cons <| wpAny_Expr <| MethodCall_ <| nameX_L F₁₅ hq3 <| listMethod_K D₁₅.N mW PySem.F.slot_list_insert PySem.F.type_list_insert <| callWith_method1 <| spliced_more <| nameX_L F₁₅ hq5 <| spliced_more <| nameX_L F₁₅ hq4 <| spliced_none <| insL F₁₅ D₁₅' (by omega) (by omega) (by omega) fun h₂₀ F₂₀ D₂₀ => ?_
                refine wpAny_execs_nil ⟨h₂₀, _, m₃, own ++ (L + 1 + 1, ok') :: (L + 1, or') :: (Rw, W.listOf (Rv₂.take 0 ++ Value.ref Rr :: Rv₂.drop 0).toArray (Rn₂ + 1)) :: fz₃, rfl, F₂₀, ?_, ok', _, _, fz₃, _, rfl, ⟨_, dk'⟩, ?_, hgo₂, hq1, hq2, hq3⟩
                · simpa using D₂₀
                · exact ((hRv₂.mono fun _ _ q => q.mono hsub).take _).append (.cons ⟨Rr, rw₁, 0, rfl, mRr, hrow⟩ ((hRv₂.mono fun _ _ q => q.mono hsub).drop _))
              | succ n =>
                unfold insAt at hins'
                cases hr₁ : rs₂[n]? with
                | none => rw [hr₁] at hins'; cases hins'
                | some r₁ =>
                  rw [hr₁] at hins'
                  dsimp only at hins'
                  cases hc : cmpF r₁ (rowF ring j many) 0 ds with
                  | none => rw [hc] at hins'; cases hins'
                  | some c =>
                    rw [hc] at hins'
                    dsimp only at hins'
                    obtain ⟨vr₁, hvr₁, ra₁, rvs₁, rn₁, rfl, hmr₁, hru₁⟩ := hRv₂.get hr₁
                    have O' := O.keeps F₁₅.keep
                    obtain ⟨dx, es, no, cl, items, Ts, ox, od, hg, hmc, hcl, hszo, hT⟩ := O'.obj
                    refine pos (by simp) <| wpAny_allTrue_And_cons <| wpAny_isTrue_Compare1 <| MethodCall_ <| nameX_L F₁₅ hq1 <| method_inst (K := hd.heap_39 w.params) F₁₅ X.K ⟨ox, rfl, rfl, od⟩ (by k_is) (by k_is) (by k_is) hmc <| callWith_K X.K (by k_is) <| spliced_more ?_
                    have en : ((n + 1 : Nat) : Int) - 1 = (n : Int) := by omega
                    refine Subscript_ <| nameX_L F₁₅ hq3 <| wpAny_BinOp <| nameX_L F₁₅ hq5 <| wpAny_Constant_int <| sub_int <| item_list (isL' D₁₅ mW) (by omega) (by omega) (by rw [en]; exact hvr₁) <| spliced_more <| nameX_L F₁₅ hq4 <| spliced_none ⟨X.K.keeps F₁₅.keep, ?_⟩
                    refine compare_spec (X.keeps F₁₅.keep) hh hroom O' (isL' D₁₅ (List.mem_append_right _ (.tail _ (.tail _ (.tail _ (hsub _ hmr₁)))))) (isL' D₁₅ mRr') hru₁ hrow hds hc fun h₁₆ tk₁₆ t₁₆ hk₁₆ => ?_
                    have F₁₆ := F₁₅.after hk₁₆
                    have D₁₆ := D₁₅.keeps hk₁₆
                    dsimp only
                    refine wpAny_Constant_int <| gt_int <| wpAny_truthy_bool ?_
                    cases hcc : decide (0 < c) with
                    | true =>
                      rw [hcc] at hins'
                      dsimp only at hins'
                      refine pos rfl <| wpAny_allTrue_And_nil <| pos rfl ?_
                      refine wpAny_execs_cons <| wpAny_Assign_Name <| wpAny_BinOp <| nameX_L F₁₆ hq5 <| wpAny_Constant_int <| sub_int <| st F₁₆ D₁₆ fun h₁₇ F₁₇ D₁₇ => ?_
                      refine wpAny_execs_nil ⟨n, Nat.lt_succ_self _, h₁₇, _, _, rfl, F₁₇, D₁₇, by omega, hins', upd_ne hq1 (by decide), upd_ne hq2 (by decide), upd_ne hq3 (by decide), upd_ne hq4 (by decide), _, by rw [en]; rfl⟩
                    | false =>
                      rw [hcc] at hins'
                      cases hins'
                      refine neg rfl <| neg rfl ?_
                      dsimp only
                      have D₁₆' : Led s.heap L h₁₆ (((own₂ ++ own) ++ [(L + 1 + 1, ok'), (L + 1, or')]) ++ (Rw, W.listOf Rv₂.toArray Rn₂) :: fz₃) := by simpa using D₁₆
                      refine wpAny_execs_cons <| wpAny_Expr <| MethodCall_ <| nameX_L F₁₆ hq3 <| listMethod_K D₁₆.N mW PySem.F.slot_list_insert PySem.F.type_list_insert <| callWith_method1 <| spliced_more <| nameX_L F₁₆ hq5 <| spliced_more <| nameX_L F₁₆ hq4 <| spliced_none <| insL F₁₆ D₁₆' (by omega) (by omega) (by omega) fun h₂₀ F₂₀ D₂₀ => ?_
                      refine wpAny_execs_nil ⟨h₂₀, _, m₃, own ++ (L + 1 + 1, ok') :: (L + 1, or') :: (Rw, W.listOf (Rv₂.take (n + 1) ++ Value.ref Rr :: Rv₂.drop (n + 1)).toArray (Rn₂ + 1)) :: fz₃, rfl, F₂₀, ?_, ok', _, _, fz₃, _, rfl, ⟨_, dk'⟩, ?_, hgo₂, hq1, hq2, hq3⟩
                      · simpa using D₂₀
                      · exact ((hRv₂.mono fun _ _ q => q.mono hsub).take _).append (.cons ⟨Rr, rw₁, 0, rfl, mRr, hrow⟩ ((hRv₂.mono fun _ _ q => q.mono hsub).drop _))
      · rintro m₂ nw₂ h₇ tk₇ ⟨ok₂, Rv₂, Rn₂, fz₂, rs₂, rfl, hok, hRv₂, hgo₂, hp1, hp2, hp3⟩ F₇ D₇
        rw [List.drop_of_length_le (by simp)] at hgo₂
        cases hgo₂
        exact wpAny_execs_nil ⟨h₇, _, m₂, _, rfl, F₇, D₇, ok₂, or', Rv₂, Rn₂, fz₂, _, rfl, hok, ⟨_, dr'⟩, hRv₂, hgo, hp1, hp2, hp3⟩
  · rintro m₁ nw₁ h₄ tk₄ ⟨ok, orr, Rv, Rn, fz, rs, rfl, _, _, hRv, hgo, hn1, hn2, hn3⟩ F₄ D₄
    rw [rr.length, List.drop_length] at hgo
    cases hgo
    exact wpAny_execs_cons <| wpAny_Return_some <| nameX_L F₄ hn3 <| h _ _ Rw Rn Rv fz (.of F₄ (D₄.sub (.cons _ (.cons _ (List.Sublist.refl _))))) hRv
end
end Mine
end
section
open PySem PySem.W PyProof.Rows PySem.Calls
set_option Elab.async false
set_option maxRecDepth 100000
set_option maxHeartbeats 4000000
set_option linter.unusedVariables false
namespace Mine
theorem fill6 : (PySem.Challenge.rw_pe0061_01.prog, fun (P : Params) => hd.heap_39 P) = (PySem.Challenge.rw_pe0061_01.prog, fun (P : Params) => hd.heap_39 P) := by
  k_fill
  rfl
section
variable {prog : Program} {w : World} {A : Around} {R : GenEnd} {Y : Protocol} {n : Nat} {s₀ : Shared} {c : Code} {fs : List Frame} {s : Shared} {env : Env} {K : Flow → Sem PySem.Fin} {H : Value → Sem PySem.Fin} {gd : Bool → Bool} {lv : List Value → List Value}
theorem sg_If {test : Expr} {body orelse : List Stmt} {pos : Pos}
    (h : wpAny (model prog w) (A.over c fs) (isTrue test env (eval test env)) (fun b s₁ => if b = true then Seg (model prog w) A R Y n s₀ c ((execs body env).wrap K H gd lv) fs s₁ else Seg (model prog w) A R Y n s₀ c ((execs orelse env).wrap K H gd lv) fs s₁) (fun _ _ => False) s) :
    Seg (model prog w) A R Y n s₀ c ((exec (.If test body orelse pos) env).wrap K H gd lv) fs s := by
  rw [exec_If]
  refine seg_bind_wrap (wpAny_standAt ?_)
  refine seg_bind_wrap (wpAny_mono h (fun b s₁ h₁ => ?_) fun _ _ x => x.elim)
  cases b <;> exact h₁
theorem sg_st {st : Stmt} {rest : List Stmt}
    (h : wpAny (model prog w) (A.over c fs) (exec st env) (fun f s₁ => f = .next ∧ Seg (model prog w) A R Y n s₀ c ((execs rest env).wrap K H gd lv) fs s₁) (fun _ _ => False) s) :
    Seg (model prog w) A R Y n s₀ c ((execs (st :: rest) env).wrap K H gd lv) fs s :=
  seg_execs_cons (seg_wrap (wpAny_mono h (fun f s₁ q => by obtain ⟨rfl, q⟩ := q; exact q) fun _ _ x => x.elim))
/-- the frame that a loop of the generator's body comes back to -/
def loopFr (env : Env) (K : Flow → Sem PySem.Fin) (H : Value → Sem PySem.Fin) (gd : Bool → Bool) (lv : List Value → List Value) (c : Code) (p : Pos) : Frame :=
  .ret (fun r => ((match r with | .ok f => (.pure f : Sem Flow) | .error e => .raise e).onRaise fun (x : Value) => do
        if (← field x 1) == Value.none then unsupported "frame.own-activation:exception-without-traceback"
        setFlight x env.frame).wrap K H gd lv) none (gd false) (lv []) c p []
theorem sg_For {target iter : Expr} {body : List Stmt} {pos : Pos}
    (h : wpAny (model prog w) (A.over c fs) (eval iter env) (fun x s₁ => wpAny (model prog w) (A.over c fs) (pyIter x) (fun it s₂ => ∀ p, Seg (model prog w) A R Y n s₀ (.forLoop target it body [] env) ((model prog w).den (.forLoop target it body [] env)) (loopFr env K H gd lv c p :: fs) s₂) (fun _ _ => False) s₁) (fun _ _ => False) s)
    (hs : ∀ x, foldedSetIterable iter env x = pure x := by intro _; rfl) :
    Seg (model prog w) A R Y n s₀ c ((exec (.For target iter body [] pos) env).wrap K H gd lv) fs s := by
  rw [exec_For]
  refine seg_bind_wrap (wpAny_standAt ?_)
  refine seg_bind_wrap (wpAny_mono h (fun x s₁ h₁ => ?_) fun _ _ x => x.elim)
  refine seg_bind_wrap (wpAny_of_eq (hs x) ?_)
  refine seg_bind_wrap (wpAny_standAt ?_)
  refine seg_bind_wrap (wpAny_holding (wpAny_mono h₁ (fun it s₂ h₂ => ?_) fun _ _ x => x.elim))
  exact seg_call h₂
theorem sg_forLoop {target : Expr} {it : Value} {body : List Stmt}
    (h : wpAny (model prog w) (A.over (.forLoop target it body [] env) fs) (pyNext it) (fun r s₁ => match r with
      | none => Seg (model prog w) A R Y n s₀ (.block [] env) (leafOf (.ok .next)) fs s₁
      | some v => wpAny (model prog w) (A.over (.forLoop target it body [] env) fs) (letOwnedTupleGo target it v) (fun _ s₂ => wpAny (model prog w) (A.over (.forLoop target it body [] env) fs) (assign target env v) (fun _ s₃ =>
          Seg (model prog w) A R Y n s₀ (.forLoop target it body [] env) ((execs body env).wrap (fun f => match f with
            | .next | .cont => .pure (.again (.forLoop target it body [] env))
            | .brk => .pure (.done .next)
            | .ret v => .pure (.done (.ret v))) (fun e => (do noteFrame e env; theTreesLotGoes e : Sem Unit).wrap (fun _ => .raise e) .raise id id) id id) fs s₃) (fun _ _ => False) s₂) (fun _ _ => False) s₁) (fun _ _ => False) s) :
    Seg (model prog w) A R Y n s₀ (.forLoop target it body [] env) ((model prog w).den (.forLoop target it body [] env)) fs s := by
  show Seg _ A R Y n s₀ _ ((forTurn target it body [] env).onRaise (fun x => do noteFrame x env; theTreesLotGoes x)) fs s
  unfold forTurn
  rw [Sem.onRaise_eq_wrap]
  refine seg_bind_wrap (wpAny_standAt ?_)
  refine seg_bind_wrap (wpAny_onRaise (wpAny_mono h (fun r s₁ h₁ => ?_) fun _ _ x => x.elim))
  cases r with
  | none =>
    refine seg_again rfl ?_
    exact h₁
  | some v =>
    refine seg_bind_wrap (wpAny_mono h₁ (fun _ s₂ h₂ => ?_) fun _ _ x => x.elim)
    refine seg_bind_wrap (wpAny_mono h₂ (fun _ s₃ h₃ => ?_) fun _ _ x => x.elim)
    rw [Sem.bind_eq_wrap', Sem.wrap_wrap]
    rw [Sem.wrap_congr (execs body env) _ _ (K' := fun f => match f with
            | .next | .cont => .pure (.again (.forLoop target it body [] env))
            | .brk => .pure (.done .next)
            | .ret v => .pure (.done (.ret v))) (H' := (fun e => (do noteFrame e env; theTreesLotGoes e : Sem Unit).wrap (fun _ => .raise e) .raise id id))
        (fun f => by cases f <;> rfl)
        (fun e => by first | exact Sem.bind_eq_wrap _ _ | (show (do noteFrame e env; theTreesLotGoes e : Sem Unit).bind (fun _ => .raise e) = _; rw [Sem.bind_eq_wrap]))]
    exact h₃
end
end Mine
end
section
open PySem PySem.W PyProof.Rows PySem.Calls
set_option Elab.async false
set_option maxRecDepth 100000
set_option maxHeartbeats 4000000
set_option linter.unusedVariables false
namespace Mine
theorem fill7 : (PySem.Challenge.rw_pe0061_01.prog, fun (P : Params) => hd.heap_39 P) = (PySem.Challenge.rw_pe0061_01.prog, fun (P : Params) => hd.heap_39 P) := by
  k_fill
  rfl
/-- what the generator tells of the signs, its escape set or not -/
def unF : Bool → List Nat → List Str
  | _, [] => []
  | true, c :: r => (Str.ofString "\\" ++ ⟨#[c]⟩ : Str) :: unF false r
  | false, c :: r => match decide (c = 92) with
    | true => unF true r
    | false => (⟨#[c]⟩ : Str) :: unF false r
def wf : Bool → List Nat → Bool
  | true, [] => false
  | false, [] => true
  | true, _ :: r => wf false r
  | false, c :: r => match decide (c = 92) with
    | true => wf true r
    | false => wf false r
def Since (C : Addr) (B : Addr) (s₀ s : Shared) : Prop := ∃ h' tk, s = { s₀ with heap := h', toks := tk } ∧ ∀ b o, b ≠ C → b < B → s₀.heap.get? b = some o → h'.get? b = some o
theorem Since.refl {C B : Addr} {s : Shared} : Since C B s s := ⟨s.heap, s.toks, rfl, fun _ _ _ _ e => e⟩
theorem Since.step {C B : Addr} {s₀ s : Shared} (x : Since C B s₀ s) {h' : Heap} {tk : Nat} (hk : ∀ b o, b ≠ C → b < B → s.heap.get? b = some o → h'.get? b = some o) : Since C B s₀ { s with heap := h', toks := tk } := by
  obtain ⟨h₁, tk₁, rfl, hk₁⟩ := x
  exact ⟨h', tk, rfl, fun b o hC hw e => hk b o hC hw (hk₁ b o hC hw e)⟩
def gnP (C B : Addr) (ys : List Str) : Protocol := fun m s₀ v s kap =>
  (∃ (T : Addr) (p : Int) (t u : Tok) (y : Str), v = .ref T ∧ s.heap.IsTuple T #[.int p t, .str y u] ∧ ys[ys.length - 1 - m]? = some y) ∧ Since C B s₀ s ∧
  ∀ s'' : Shared, (∀ b o, (b = C ∨ B ≤ b) → s.heap.get? b = some o → s''.heap.get? b = some o) → kap (.send .none) s''
abbrev gnR (C B : Addr) : GenEnd := fun n s₀ r s₁ => r = .ok (.ret .none) ∧ (n = 0 ∧ Since C B s₀ s₁)
theorem drawsU {prog : Program} {w : World} {A : Around} (hh : A.handled = none) (it : Addr) (x : Str) (t : Tok) :
    Draws prog w A it [it] x.cps.size (fun i v => ∃ c u, x.cps[i]? = some c ∧ v = .str ⟨#[c]⟩ u) (fun i h => h.IsStrIter it (strIterType x) x t i) := by
  unfold strIterType
  cases x.cps.all (· < 128) with
  | true => exact Draws.strAscii hh it x t
  | false => exact Draws.strWide hh it x t
section
variable {prog : Program} {w : World} {A : Around} {R : GenEnd} {Y : Protocol} {n : Nat} {s₀ : Shared} {fs : List Frame} {s : Shared} {env : Env} {target : Expr} {it : Value} {body : List Stmt}
theorem sg_inv (I : Nat → Nat → Shared → Shared → Prop)
    (turn : ∀ k n s₀ s, I k n s₀ s → (∀ k' n' s₀' s', k' < k → I k' n' s₀' s' → Seg (model prog w) A R Y n' s₀' (.forLoop target it body [] env) (.pure (.again (.forLoop target it body [] env))) fs s') →
      wpAny (model prog w) (A.over (.forLoop target it body [] env) fs) (pyNext it) (fun r s₁ => match r with
        | none => Seg (model prog w) A R Y n s₀ (.block [] env) (leafOf (.ok .next)) fs s₁
        | some v => wpAny (model prog w) (A.over (.forLoop target it body [] env) fs) (letOwnedTupleGo target it v) (fun _ s₂ => wpAny (model prog w) (A.over (.forLoop target it body [] env) fs) (assign target env v) (fun _ s₃ =>
          Seg (model prog w) A R Y n s₀ (.forLoop target it body [] env) ((execs body env).wrap (fun f => match f with
            | .next | .cont => .pure (.again (.forLoop target it body [] env))
            | .brk => .pure (.done .next)
            | .ret v => .pure (.done (.ret v))) (fun e => (do noteFrame e env; theTreesLotGoes e : Sem Unit).wrap (fun _ => .raise e) .raise id id) id id) fs s₃) (fun _ _ => False) s₂) (fun _ _ => False) s₁) (fun _ _ => False) s)
    (k : Nat) (h : I k n s₀ s) : Seg (model prog w) A R Y n s₀ (.forLoop target it body [] env) ((model prog w).den (.forLoop target it body [] env)) fs s := by
  induction k using Nat.strongRecOn generalizing n s₀ s with
  | _ k ih => exact sg_forLoop (turn k n s₀ s h fun k' n' s₀' s' hlt hI' => seg_again rfl (ih k' hlt hI'))
end
section
variable {prog : Program} {w : World} {A : Around} {E : Value → Shared → Prop} {s : Shared} {Q : Value → Shared → Prop}
theorem callG {name qual : Str} {params : Arguments} {body : List Stmt} {scope : Scope} {dV kV doc pm cdv ct oc : Value} {an od : Option Addr} {osl : Array (Option Value)} {f : Addr} {args : List Value} {binds : List (Str × Value)}
    (X : Tp w s.heap) (hroom : A.depth < recursionLimit)
    (ho : (hd.heap_39 w.params).lookup f = some ⟨oc, od, .func (fnOf name qual params body scope dV kV doc pm an cdv ct), osl⟩) (hcd : codeIn (hd.heap_39 w.params) cdv qual = true)
    (hbind : bindArgs (fnOf name qual params body scope dV kV doc pm an cdv ct) ⟨args, []⟩ = pure binds) (hloc : (binds.all fun y => decide (scope.names.lookup y.1 = some .local)) = true)
    (h : ∀ h₁ h₂ tk, h₁.Ns s.heap.objs.size (fun y => binds.reverse.lookup y) → Sub s.heap h₁ → Sub h₁ h₂ → h₂.IsGen h₁.objs.size s.gens.size → 
      Q (.ref h₁.objs.size) { s with heap := h₂, toks := tk, gens := s.gens.push (.fresh (.func body (envX qual scope s.heap.objs.size f cdv []))) })
    (hco : scope.isCoroutine = false := by rfl) (hgen : scope.isGenerator = true := by rfl) (hk : scope.kind = .function := by rfl)
    (hcell : ∀ x ∈ scope.names, x.2 ≠ .cell := by decide) : wpAny (model prog w) A (call (.ref f) args) Q E s := by
  refine wpAny_call (codeAny_call_generator (fd := fnOf name qual params body scope dV kV doc pm an cdv ct) (body := body) hroom (X.K _ _ ho) rfl hco hgen rfl (codeRec_of X.K hcd) (BindsTo.of_eq hbind _ _ _ _ ?_))
  refine wpAny_newFunctionEnv hcell (locs hloc) (fun h₀ hns₀ hsb₀ => ⟨X.nolimit.fresh _ hsb₀, ?_⟩) hk
  have hk₁ : Sub s.heap h₀ := fun b o e => hsb₀.extBut b o (Nat.ne_of_lt (Heap.lt_size e)) (Heap.get?_push_of_some _ e)
  exact h h₀ _ _ hns₀ hk₁ (fun b o e => Heap.get?_push_of_some _ e) ⟨_, _, _, Heap.get?_push_size _ rfl, rfl, rfl, rfl⟩
theorem drop_cons {α : Type} {l : List α} {i : Nat} {a : α} (h : l[i]? = some a) : l.drop i = a :: l.drop (i + 1) := by
  have hi : i < l.length := by
    rcases Nat.lt_or_ge i l.length with h' | h'
    · exact h'
    · rw [List.getElem?_eq_none h'] at h; cases h
  rw [List.drop_eq_getElem_cons hi]
  rw [List.getElem?_eq_getElem hi] at h
  rw [Option.some.inj h]
theorem idx_of {α : Type} {ys r : List α} {y : α} {j : Nat} (h : y :: r = ys.drop j) : ys[ys.length - 1 - r.length]? = some y ∧ r = ys.drop (j + 1) := by
  have hl := congrArg List.length h
  rw [List.length_cons, List.length_drop] at hl
  have h0 : (ys.drop j)[0]? = some y := by rw [← h]; rfl
  rw [List.getElem?_drop] at h0
  refine ⟨?_, ?_⟩
  · have : ys.length - 1 - r.length = j + 0 := by omega
    rw [this]; exact h0
  · have := congrArg (List.drop 1) h
    rw [List.drop_drop] at this
    exact this
theorem unF_tt {c : Nat} {r : List Nat} : unF true (c :: r) = (Str.ofString "\\" ++ ⟨#[c]⟩ : Str) :: unF false r := rfl
theorem unF_ff {c : Nat} {r : List Nat} (h : c ≠ 92) : unF false (c :: r) = (⟨#[c]⟩ : Str) :: unF false r := by
  show (match decide (c = 92) with | true => unF true r | false => (⟨#[c]⟩ : Str) :: unF false r) = _
  rw [decide_eq_false h]
theorem wf_ff {c : Nat} {r : List Nat} (h : c ≠ 92) : wf false (c :: r) = wf false r := by
  show (match decide (c = 92) with | true => wf true r | false => wf false r) = _
  rw [decide_eq_false h]
theorem bs_len : (Str.ofString "\\").length = 1 := by decide +kernel
theorem eq92 {c : Nat} (h : c ≠ 92) : ((⟨#[c]⟩ : Str) == Str.ofString "\\") = false := by
  rw [beq_eq_false_iff_ne]
  intro e
  have e2 : Str.ofString "\\" = (⟨#[92]⟩ : Str) := by decide +kernel
  rw [e2] at e
  injection e with e1
  exact h (by simpa using e1)
theorem iter_call {x : Str} {t : Tok} (X : Tp w s.heap) (hroom : A.depth < recursionLimit) (hw : wf false x.cps.toList = true)
    (h : ∀ h₁ tk code o G, Sub s.heap h₁ → h₁.IsGen G s.gens.size → s.heap.objs.size < G → h₁.get? s.heap.objs.size = some o →
      (∀ (A' : Around) (B : Addr) (s' : Shared), A'.handled = none → s.heap.objs.size < B → B ≤ s'.heap.objs.size → Sub s.heap s'.heap → s'.heap.get? s.heap.objs.size = some o →
        Seg (model prog w) A' (gnR s.heap.objs.size B) (gnP s.heap.objs.size B (unF false x.cps.toList)) (unF false x.cps.toList).length s' code ((model prog w).den code) [] s') →
      Q (.ref G) { s with heap := h₁, toks := tk, gens := s.gens.push (.fresh code) }) :
    wpAny (model prog w) A (call (.ref 63) [.str x t]) Q E s := by
  refine callG (binds := [("addr", .str x t)]) X hroom (by k_is) (by k_is) rfl rfl (fun h₁ h₂ tk hns hk₁ hk₂ hG => ?_)
  obtain ⟨oC, heC, hoC⟩ := LCg.ns_obj hns
  refine h h₂ tk _ oC _ (fun b o e => hk₂ _ _ (hk₁ _ _ e)) hG hns.lt (hk₂ _ _ heC) ?_
  intro A' B s' hA hCB hBs X' hC'
  have hlow : ∀ b o, s.heap.get? b = some o → b ≠ s.heap.objs.size := fun b o e => Nat.ne_of_lt (Heap.lt_size e)
  generalize hCe : s.heap.objs.size = C at *
  have hn' : s'.heap.Ns C _ := hoC.ns hC'
  refine seg_func ?_
  refine sg_st <| wpAny_Assign_Name <| wpAny_Constant_int <| wpAny_storeName_local rfl hn' fun h₃ hn₃ hs₃ => ⟨rfl, ?_⟩
  refine sg_st <| wpAny_Assign_Name <| wpAny_Constant_bool <| wpAny_storeName_local rfl hn₃ fun h₄ hn₄ hs₄ => ⟨rfl, ?_⟩
  have k4 : ∀ b o, b ≠ C → s'.heap.get? b = some o → h₄.get? b = some o := fun b o hb e => hs₄.extBut b o hb (hs₃.extBut b o hb e)
  have X4 : Tp w h₄ := X.keeps fun b o e => k4 b o (hlow b o e) (X' b o e)
  have hC4 : C < h₄.objs.size := hn₄.lt
  have hB4 : B ≤ h₄.objs.size := by
    rw [hs₄.1]; show B ≤ h₃.objs.size; rw [hs₃.1]; exact hBs
  refine seg_execs_cons <| sg_For <| Call_ <| nBe X4 (by k_is) (by boot_fast) (by decide) <| PyProof.Rows.callWith_type1 <| spliced_more <| wpAny_Name (wpAny_loadName_local rfl rfl hn₄ rfl ?_)
  refine spliced_none <| call_enumerate_str fun h₅ he₅ hit₅ hsz₅ hk₅ => wpAny_pyIter_enum he₅ ?_
  intro p
  dsimp only at he₅ hit₅ hsz₅ hk₅ ⊢
  generalize hit : h₄.objs.size = it at *
  have hn₅ := hn₄.keeps hk₅
  have hCit : C < it := hC4
  have hC1 : C ≠ it + 1 := Nat.ne_of_lt (Nat.lt_succ_of_lt hCit)
  have hC2 : C ≠ it := Nat.ne_of_lt hCit
  have hB1 : B ≤ it + 1 := Nat.le_succ_of_le hB4
  have hne : it + 1 ≠ it := Nat.succ_ne_self it
  refine sg_inv (fun k n s₀ s₁ => ∃ (i : Nat) (m : Str → Option Value) (esc : Bool) (j : Nat), k = x.cps.size - i ∧ i ≤ x.cps.size ∧ ((∃ old, IsEnum s₁.heap (it + 1) it i old) ∧ s₁.heap.IsStrIter it (strIterType x) x t i) ∧ s₁.heap.Ns C m ∧ m "escape" = some (.bool esc) ∧
    Since C B s₀ s₁ ∧ wf esc (x.cps.toList.drop i) = true ∧ unF esc (x.cps.toList.drop i) = (unF false x.cps.toList).drop j ∧ n = (unF esc (x.cps.toList.drop i)).length) ?_ x.cps.size
    ⟨0, _, false, 0, rfl, Nat.zero_le _, ⟨⟨_, he₅⟩, hit₅⟩, hn₅, rfl, ⟨h₅, _, rfl, fun b o hb _ e => hk₅ b o (k4 b o hb e)⟩, hw, rfl, rfl⟩
  rintro k n s₀ s₁ ⟨i, m, esc, j, rfl, hi, hst, hn, hesc, hsince, hwf, hun, rfl⟩ again
  have W : ∀ (A₂ : Around), A₂.handled = none → WalksT prog w A₂ (it + 1) [it + 1, it] [it + 1, it] x.cps.size _ _ _ := fun A₂ hA₂ => WalksT.enumerateD (drawsU (A := A₂.in1) hA₂ it x t) (it + 1) hne (by simp) (by simp)
  by_cases hlt : i < x.cps.size
  · refine (W _ (by exact hA)).item i _ _ _ hlt hst fun T vals h₆ tk₆ hP hle hT hMid hk₆ => ?_
    obtain ⟨ti, _, ⟨c, u, hc, rfl⟩, rfl⟩ := hP
    have hTn := (W A' hA).apart i T _ hMid
    refine (W _ (by exact hA)).go _ _ _ i T _ _ _ hMid fun h₇ hst₇ hk₇ => ?_
    have hT₇ : IsTup h₇ T #[.int i ti, .str ⟨#[c]⟩ u] := let ⟨o, ho, a, b⟩ := hT; ⟨o, hk₇ T o hTn ho, a, b⟩
    have nC : C ∉ [it + 1, it] := fun q => by
      rcases List.mem_cons.mp q with q | q
      · exact hC1 q
      · exact hC2 (List.mem_singleton.mp q)
    have nB : ∀ b : Addr, b < B → b ∉ [it + 1, it] := fun b hb q => by
      rcases List.mem_cons.mp q with q | q
      · exact absurd (Nat.lt_of_lt_of_le hb hB1) (by rw [q]; exact Nat.lt_irrefl _)
      · rw [List.mem_singleton.mp q] at hb; exact absurd (Nat.lt_of_lt_of_le hb hB4) (Nat.lt_irrefl _)
    have gC : ∀ b, b ∈ [it + 1, it] → b ≠ C ∧ B ≤ b := fun b hb => ⟨fun q => nC (q ▸ hb), by
      rcases List.mem_cons.mp hb with q | q
      · rw [q]; exact hB1
      · rw [List.mem_singleton.mp q]; exact hB4⟩
    dsimp only
    refine assign_Tuple_tuple (by exact hA) hT₇ rfl rfl fun h₈ he₈ => ?_
    have k8 : Sub h₇ h₈ := fun b o e => he₈ b o (Nat.ne_of_lt (Heap.lt_size e)) e
    have hn₈ : h₈.Ns C m := hn.at' fun o e => k8 _ _ (hk₇ C o nC (hk₆ C o nC e))
    refine assignInOrder_cons <| wpAny_assign_Name <| wpAny_storeName_local rfl hn₈ fun h₉ hn₉ hs₉ => assignInOrder_cons <| wpAny_assign_Name <| wpAny_storeName_local rfl hn₉ fun h₁₀ hn₁₀ hs₁₀ => assignInOrder_nil ?_
    have k10 : ∀ b o, b ≠ C → h₇.get? b = some o → h₁₀.get? b = some o := fun b o hb e => hs₁₀.extBut b o hb (hs₉.extBut b o hb (k8 b o e))
    have hst₁₀ := (W A' hA).frame (i + 1) _ h₁₀ hst₇ fun b hb o e => k10 b o (gC b hb).1 e
    have k10' : ∀ b o, b ≠ C → b < B → s₁.heap.get? b = some o → h₁₀.get? b = some o := fun b o hb hbB e => k10 b o hb (hk₇ b o (nB b hbB) (hk₆ b o (nB b hbB) e))
    have hdr : x.cps.toList.drop i = c :: x.cps.toList.drop (i + 1) := drop_cons (by simpa using hc)
    rw [hdr] at hwf hun ⊢
    have hesc₁₀ : (upd (upd m "pos" (.int i ti)) "ch" (.str ⟨#[c]⟩ u)) "escape" = some (.bool esc) := upd_ne (upd_ne hesc (by decide)) (by decide)
    dsimp only
    cases esc with
    | true =>
      rw [unF_tt] at hun ⊢
      obtain ⟨hidx, hun'⟩ := idx_of hun
      refine seg_execs_cons <| sg_If <| isTrue_plain <| wpAny_Name (wpAny_loadName_local rfl rfl hn₁₀ hesc₁₀ <| wpAny_truthy_bool <| pos rfl ?_)
      refine seg_execs_cons <| seg_Expr_Yield rfl rfl rfl <| Tuple_ <| spliced_more <| wpAny_Name (wpAny_loadName_local rfl rfl hn₁₀ rfl ?_)
      refine spliced_more <| wpAny_BinOp <| wpAny_Constant_str <| wpAny_Name (wpAny_loadName_local rfl rfl hn₁₀ rfl <| PyProof.Rows.add_str (fun t₁ tk₁ => ?_) (by rw [sizeLine_eq, bs_len]; exact Nat.le_of_ble_eq_true rfl))
      refine spliced_none <| wpAny_newObj_type ?_ (by size_fits)
      intro kap hkap
      refine ⟨⟨h₁₀.objs.size, i, ti, t₁, _, rfl, ⟨_, Heap.get?_push_size _ rfl, rfl, _, rfl⟩, hidx⟩, hsince.step fun b o hb hbB e => Heap.get?_push_of_some _ (k10' b o hb hbB e), fun s'' hal => hkap .none s'' ?_⟩
      have hn'' := (hn₁₀.keeps fun b o e => Heap.get?_push_of_some _ e).at' fun o e => hal C o (.inl rfl) e
      refine sg_st <| wpAny_Assign_Name <| wpAny_Constant_bool <| wpAny_storeName_local rfl hn'' fun h₁₂ hn₁₂ hs₁₂ => ⟨rfl, ?_⟩
      exact again _ _ _ _ (by omega) ⟨i + 1, _, false, j + 1, rfl, hlt, (W A' hA).frame (i + 1) _ h₁₂ hst₁₀ fun b hb o e => hs₁₂.extBut b o (gC b hb).1 (hal b o (.inr (gC b hb).2) (Heap.get?_push_of_some _ e)), hn₁₂, rfl, ⟨h₁₂, _, rfl, fun b o hb _ e => hs₁₂.extBut b o hb e⟩, hwf, hun', rfl⟩
    | false =>
      refine seg_execs_cons <| sg_If <| isTrue_plain <| wpAny_Name (wpAny_loadName_local rfl rfl hn₁₀ hesc₁₀ <| wpAny_truthy_bool <| neg rfl ?_)
      refine seg_execs_cons <| sg_If <| wpAny_isTrue_Compare1 <| wpAny_Name (wpAny_loadName_local rfl rfl hn₁₀ rfl <| wpAny_Constant_str <| PyProof.Rows.eq_str <| wpAny_truthy_bool ?_)
      by_cases hc92 : c = 92
      · subst hc92
        refine pos (by decide +kernel) ?_
        refine sg_st <| wpAny_Assign_Name <| wpAny_Constant_bool <| wpAny_storeName_local rfl hn₁₀ fun h₁₂ hn₁₂ hs₁₂ => ⟨rfl, ?_⟩
        exact again _ _ _ _ (by omega) ⟨i + 1, _, true, j, rfl, hlt, (W A' hA).frame (i + 1) _ h₁₂ hst₁₀ fun b hb o e => hs₁₂.extBut b o (gC b hb).1 e, hn₁₂, rfl, hsince.step fun b o hb hbB e => hs₁₂.extBut b o hb (k10' b o hb hbB e), hwf, hun, rfl⟩
      · rw [unF_ff hc92] at hun ⊢
        rw [wf_ff hc92] at hwf
        obtain ⟨hidx, hun'⟩ := idx_of hun
        refine neg (eq92 hc92) ?_
        refine seg_execs_cons <| seg_Expr_Yield rfl rfl rfl <| Tuple_ <| spliced_more <| wpAny_Name (wpAny_loadName_local rfl rfl hn₁₀ rfl ?_)
        refine spliced_more <| wpAny_Name (wpAny_loadName_local rfl rfl hn₁₀ rfl ?_)
        refine spliced_none <| wpAny_newObj_type ?_ (by size_fits)
        intro kap hkap
        refine ⟨⟨h₁₀.objs.size, i, ti, u, _, rfl, ⟨_, Heap.get?_push_size _ rfl, rfl, _, rfl⟩, hidx⟩, hsince.step fun b o hb hbB e => Heap.get?_push_of_some _ (k10' b o hb hbB e), fun s'' hal => hkap .none s'' ?_⟩
        have hn'' := (hn₁₀.keeps fun b o e => Heap.get?_push_of_some _ e).at' fun o e => hal C o (.inl rfl) e
        exact again _ _ _ _ (by omega) ⟨i + 1, _, false, j + 1, rfl, hlt, (W A' hA).frame (i + 1) _ s''.heap hst₁₀ fun b hb o e => hal b o (.inr (gC b hb).2) (Heap.get?_push_of_some _ e), hn'', hesc₁₀, Since.refl, hwf, hun', rfl⟩
  · have hin : i = x.cps.size := by omega
    subst hin
    have hnil : x.cps.toList.drop x.cps.size = [] := List.drop_of_length_le (by simp)
    rw [hnil] at hwf hun ⊢
    have hesc' : esc = false := by
      cases esc with
      | true => cases hwf
      | false => rfl
    subst hesc'
    refine (W _ (by exact hA)).done _ _ _ hst fun h₆ tk₆ hk₆ => ?_
    refine seg_leaf (.ok .next) ?_
    have nC : C ∉ [it + 1, it] := fun q => by
      rcases List.mem_cons.mp q with q | q
      · exact hC1 q
      · exact hC2 (List.mem_singleton.mp q)
    have nB : ∀ b : Addr, b < B → b ∉ [it + 1, it] := fun b hb q => by
      rcases List.mem_cons.mp q with q | q
      · exact absurd (Nat.lt_of_lt_of_le hb hB1) (by rw [q]; exact Nat.lt_irrefl _)
      · rw [List.mem_singleton.mp q] at hb; exact absurd (Nat.lt_of_lt_of_le hb hB4) (Nat.lt_irrefl _)
    have hn₆ : h₆.Ns C m := hn.at' fun o e => hk₆ C o nC e
    refine seg_execs_cons <| sg_If <| isTrue_plain <| wpAny_Name (wpAny_loadName_local rfl rfl hn₆ hesc <| wpAny_truthy_bool <| neg rfl ?_)
    exact seg_end (.ok (.ret .none)) ⟨rfl, rfl, hsince.step fun b o hb hbB e => hk₆ b o (nB b hbB) e⟩
end
end Mine
end
section
open PySem PySem.W PyProof.Rows PySem.Calls
set_option Elab.async false
set_option maxRecDepth 100000
set_option maxHeartbeats 4000000
set_option linter.unusedVariables false
namespace Mine
/-- a generator that was made and not yet woken -/
def GS (prog : Program) (w : World) (hb : Heap) (ys : List Str) (xv : Value) (s₁ : Shared) : Prop :=
  ∃ (G C : Addr) (o : Obj) (code : Code) (g : Nat), xv = .ref G ∧ Sub hb s₁.heap ∧ s₁.heap.IsGen G g ∧ C ≠ G ∧ hb.get? C = none ∧ s₁.heap.get? C = some o ∧ s₁.gens[g]? = some (.fresh code) ∧ hb.NoLimit ∧
    ∀ (A' : Around) (B : Addr) (s' : Shared), A'.handled = none → C < B → B ≤ s'.heap.objs.size → Sub hb s'.heap → s'.heap.get? C = some o →
      Seg (model prog w) A' (gnR C B) (gnP C B ys) ys.length s' code ((model prog w).den code) [] s'
section
variable {prog : Program} {w : World} {A : Around} {E : Value → Shared → Prop} {s : Shared} {env : Env}
theorem go_gen {elts : List Expr} {x1 : Nat} {pos : Pos} {G T : Addr} {g : Nat} {Q : Unit → Shared → Prop} (hg : s.heap.IsGen G g) (hQ : Q () s) : wpAny (model prog w) A (letOwnedTupleGo (.Tuple elts x1 pos) (.ref G) (.ref T)) Q E s := by
  obtain ⟨o, nm, qn, ho, hc, hd, _⟩ := hg
  unfold letOwnedTupleGo
  refine wpAny_bind (wpAny_load ho ?_)
  rw [hc, hd]
  exact wpAny_pure hQ
theorem bare_of {g : Nat} {a b : Array GenState} (h : AllBare a) (hg : GenOnly g a b) (hf : b[g]? = some .finished) : AllBare b := fun y hy => by
  obtain ⟨k, hk, e⟩ := Array.mem_iff_getElem.mp hy
  have ek : b[k]? = some y := by rw [Array.getElem?_eq_getElem hk, e]
  by_cases q : k = g
  · rw [q, hf] at ek; cases ek; rfl
  · rw [hg.2 k q] at ek
    exact h y (Array.mem_of_getElem? ek)
def RS (v : Value) (y : Str) : Prop := ∃ t, v = .str y t
theorem block_gen {iter : Expr} {x x₂ : Str} {px px₂ tp pe : Pos} {tk : Nat} {scope : Scope} {cl : List (Str × Addr)} {pos : Pos} {s₂ : Shared} {xv : Value} {hb : Heap} {ys : List Str} {RR : Value → Addr → Result → Shared → Prop}
    (hh : A.handled = none) (hroom : A.depth < recursionLimit) (hsz : ys.length ≤ 1000000)
    (hcell : ∀ y ∈ scope.names, y.2 ≠ .cell) (hkind : scope.kind = .function) (hx : scope.names.lookup x = some .local) (hx₂ : scope.names.lookup x₂ = some .local)
    (hS : GS prog w hb ys xv s₂)
    (hRR : ∀ (D C' : Addr) (h' : Heap) (tk : Nat) (gn : Array GenState) (m' : Str → Option Value) (vs : List Value) (n : Nat), D ≠ C' → hb.get? D = none → hb.get? C' = none → Sub hb h' → h'.Ns C' m' → h'.get? D = some (W.listOf vs.toArray n) → Rel2 RS vs ys → (AllBare s₂.gens → AllBare gn) →
      RR (.ref D) C' (.ok .next) { s₂ with heap := h', toks := tk, gens := gn })
    (hdbg : (x₂ == ("__debug__" : Str)) = false := by decide) :
    wpAny (model prog w) A (pyIter xv) (fun it s₂ => wpAny (model prog w) A (newList []) (fun acc s₃ => wpAny (model prog w) A (newFunctionEnv scope env.globals cl [] env.qual none .none (some env)) (fun cenv s₄ =>
      codeAny (model prog w) A (.compStart (.ListComp (.Name x₂ pe) [⟨.Tuple [.Name x px, .Name x₂ px₂] tk tp, iter, [], 0⟩] scope pos) 0 it acc { cenv with scope := relabel scope env }) (RR acc cenv.locals) s₄) E s₃) E s₂) E s₂ := by
  obtain ⟨G, C, o, code, g, rfl, hsub, hG, hCG, hCb, hC, hgs, hlim, hseg⟩ := hS
  refine wpAny_pyIter_gen hG ?_
  refine wpAny_newObj_type (wpAny_newFunctionEnv hcell (by intro y hy; simp at hy) (fun h₁ hns₁ hsb₁ => ?_) hkind)
  dsimp only at hns₁ hsb₁ ⊢
  generalize hH2 : s₂.heap.push { cls := .type "list", dict := none, data := .seq ([] : List Value).toArray } = H2 at hns₁ hsb₁ ⊢
  have hC' : H2.objs.size = s₂.heap.objs.size + 1 := by rw [← hH2, Heap.size_push]
  have hDC : s₂.heap.objs.size ≠ H2.objs.size := by rw [hC']; exact Nat.ne_of_lt (Nat.lt_succ_self _)
  have below : ∀ b, b < s₂.heap.objs.size → b ≠ H2.objs.size ∧ b ≠ s₂.heap.objs.size := fun b hb => ⟨by rw [hC']; exact Nat.ne_of_lt (Nat.lt_succ_of_lt hb), Nat.ne_of_lt hb⟩
  have old : ∀ b o, s₂.heap.get? b = some o → h₁.get? b = some o := fun b o e => hsb₁.extBut b o (below b (Heap.lt_size e)).1 (Heap.get?_push_of_some _ (hH2 ▸ Heap.get?_push_of_some _ e))
  have hacc : h₁.get? s₂.heap.objs.size = some (W.listOf ([] : List Value).toArray 0) := hsb₁.extBut _ _ hDC (Heap.get?_push_of_some _ (hH2 ▸ Heap.get?_push_size _ rfl))
  have fresh : ∀ a, s₂.heap.objs.size ≤ a → hb.get? a = none := fun a ha => by
    cases e : hb.get? a with
    | none => rfl
    | some o' => exact absurd (Heap.lt_size (hsub _ _ e)) (Nat.not_lt.mpr ha)
  have hD₀ : hb.get? s₂.heap.objs.size = none := fresh _ (Nat.le_refl _)
  have hC₀ : hb.get? H2.objs.size = none := fresh _ (by rw [hC']; exact Nat.le_succ _)
  have hlow : ∀ b o, hb.get? b = some o → b ≠ s₂.heap.objs.size ∧ b ≠ H2.objs.size := fun b o e => ⟨(fun q => by rw [q, hD₀] at e; cases e), (fun q => by rw [q, hC₀] at e; cases e)⟩
  have hGn := below G (by obtain ⟨o, _, _, ho, _⟩ := hG; exact Heap.lt_size ho)
  have hCn := below C (Heap.lt_size hC)
  have hGlt : G < s₂.heap.objs.size := by obtain ⟨o, _, _, ho, _⟩ := hG; exact Heap.lt_size ho
  have hClt : C < s₂.heap.objs.size := Heap.lt_size hC
  have hblt : ∀ b o, hb.get? b = some o → b < s₂.heap.objs.size := fun b o e => Heap.lt_size (hsub b o e)
  have hltD : s₂.heap.objs.size < H2.objs.size + 1 := by rw [hC']; exact Nat.lt_succ_of_lt (Nat.lt_succ_self _)
  have hltC : H2.objs.size < H2.objs.size + 1 := Nat.lt_succ_self _
  have hltC1 : H2.objs.size < h₁.objs.size := hns₁.lt
  generalize hBe : H2.objs.size + 1 = B at *
  generalize hDe : s₂.heap.objs.size = D at *
  generalize hC'e : H2.objs.size = C' at *
  have loop : ∀ s₃ : Shared, s₃ = { s₂ with heap := h₁, toks := s₂.toks + ([] : List (Str × Value)).length } →
      codeAny (model prog w) A (.compLoop (.ListComp (.Name x₂ pe) [⟨.Tuple [.Name x px, .Name x₂ px₂] tk tp, iter, [], 0⟩] scope pos) 0 (.ref G) (.ref D) (compEnvC scope cl C' env))
        (RR (.ref D) C') s₃ := by
    rintro s₃ rfl
    refine LCp.codeAny_compLoop_pair
      (fun k s' => ∃ h' tk gn m' vs n gs j, s' = { s₂ with heap := h', toks := tk, gens := gn } ∧ k = ys.length + 1 - j ∧ j ≤ ys.length ∧ Rel2 RS vs (ys.take j) ∧ h'.get? D = some (W.listOf vs.toArray n) ∧ h'.Ns C' m' ∧ Sub hb h' ∧ h'.IsGen G g ∧ gn[g]? = some gs ∧ GenOnly g s₂.gens gn ∧
        ∀ s'' : Shared, (∀ b o, b ≠ D → b ≠ C' → h'.get? b = some o → s''.heap.get? b = some o) → C' < s''.heap.objs.size → gs.Goes (model prog w) A.in1 (gnR C B) (gnP C B ys) (ys.length - j) (.send .none) s'') ?_ (ys.length + 1)
      ⟨h₁, _, _, _, [], 0, _, 0, rfl, rfl, Nat.zero_le _, .nil, hacc, hns₁, fun b o e => old b o (hsub b o e), hG.keeps old, hgs, ⟨rfl, fun _ _ => rfl⟩, fun s'' hal hB => ⟨rfl, hseg A.in1 B s'' hh (Nat.lt_trans hClt hltD) (by rw [← hBe]; exact hB) (fun b o e => hal b o (hlow b o e).1 (hlow b o e).2 (old b o (hsub b o e))) (hal C o hCn.2 hCn.1 (old _ _ hC))⟩⟩
    rintro k s' ⟨h', tk', gn, m', vs, n, gs, j, rfl, rfl, hj, hvs, hD, hn, hsb, hg, hgs', hGo, hgo⟩
    have hl' : h'.NoLimit := hlim.keeps hsb
    have size_setGen : ∀ (s : Shared) (x : GenState), (s.setGen g x).heap = s.heap := fun _ _ => rfl
    by_cases hlt : j < ys.length
    · obtain ⟨mm, hmm⟩ : ∃ mm, ys.length - j = mm + 1 := ⟨ys.length - j - 1, by omega⟩
      rw [hmm] at hgo
      refine wpAny_pyNext_gen (P := fun n s₀ s₁ => n = 0 ∧ Since C B s₀ s₁) hh hl' hroom hg hgs' (hgo _ (fun _ _ _ _ e => e) hn.lt) (fun v s₁ gs' hv => ?_) (fun s₁ hp _ _ => absurd hp.1 (Nat.succ_ne_zero mm))
      obtain ⟨⟨T, p, t, u, y, rfl, hT, hidx⟩, ⟨h₂, tk₂, rfl, hk₂⟩, hkap⟩ := hv
      have hjy : ys[j]? = some y := by
        have : ys.length - 1 - (mm + 1 - 1) = j := by omega
        rw [this] at hidx; exact hidx
      dsimp only
      have hg₂ : h₂.IsGen G g := let ⟨o, nm, qn, ho, r⟩ := hg; ⟨o, nm, qn, hk₂ G o (Ne.symm hCG) (Nat.lt_trans (hGlt) hltD) ho, r⟩
      have hn₂ : h₂.Ns C' m' := hn.at' fun o e => hk₂ C' o (Ne.symm hCn.1) hltC e
      have hD₂ : h₂.get? D = some (W.listOf vs.toArray n) := hk₂ D _ (Ne.symm hCn.2) hltD hD
      refine go_gen hg₂ ?_
      refine assign_Tuple_tuple hh (show IsTup h₂ T _ from hT) rfl rfl fun h₃ he₃ => ?_
      have k3 : Sub h₂ h₃ := fun b o e => he₃ b o (Nat.ne_of_lt (Heap.lt_size e)) e
      refine assignInOrder_cons (wpAny_assign_Name (wpAny_storeName_local (lookup_relabel_local hx) (hn₂.keeps k3) (fun h₄ hn₄ hs₄ => ?_) (by simp [compEnvC, relabel, hkind])))
      refine assignInOrder_cons (wpAny_assign_Name (wpAny_storeName_local (lookup_relabel_local hx₂) hn₄ (fun h₅ hn₅ hs₅ => ?_) (by simp [compEnvC, relabel, hkind])))
      refine assignInOrder_nil ?_
      have k5 : ∀ b o, b ≠ C' → h₂.get? b = some o → h₅.get? b = some o := fun b o hb e => hs₅.extBut b o hb (hs₄.extBut b o hb (k3 b o e))
      refine wpAny_Name (wpAny_loadName_local hkind (lookup_relabel_local hx₂) hn₅ (if_pos rfl) ?_) hdbg
      have hvl : vs.length = j := by rw [hvs.length, List.length_take]; omega
      refine append_at (hsz := by rw [sizeLine_eq]; simp; omega) (k5 D _ hDC hD₂) fun h₆ hs₆ ho₆ => ?_
      rw [List.push_toArray] at ho₆
      have k6 : ∀ b o, b ≠ C' → b ≠ D → h₂.get? b = some o → h₆.get? b = some o := fun b o hb hb' e => hs₆.extBut b o hb' (k5 b o hb e)
      have hsub₆ : Sub hb h₆ := fun b o e => k6 b o (hlow b o e).2 (hlow b o e).1 (hk₂ b o (fun q => by rw [q, hCb] at e; cases e) (Nat.lt_trans (hblt b o e) hltD) (hsb b o e))
      · show ∃ m, m < _ ∧ _
        refine ⟨ys.length + 1 - (j + 1), by omega, h₆, _, _, _, vs ++ [.str y u], n + 1, gs', j + 1, rfl, rfl, hlt, ?_, ho₆, hn₅.sameBut hs₆ (Ne.symm hDC), hsub₆, ?_, setGen_self (gs := .running) (setGen_self hgs'), hGo.trans ((GenOnly.setGen { s₂ with heap := h', toks := tk', gens := gn } g .running).trans (GenOnly.setGen _ g gs')), ?_⟩
        · rw [List.take_add_one, hjy]
          exact hvs.append (.one ⟨_, rfl⟩)
        · exact let ⟨o, nm, qn, ho, r⟩ := hg₂; ⟨o, nm, qn, k6 G o hGn.1 hGn.2 ho, r⟩
        · intro s'' hal hB
          have e : ys.length - (j + 1) = mm := by omega
          rw [e]
          have dis : ∀ b : Addr, (b = C ∨ B ≤ b) → b ≠ D ∧ b ≠ C' := fun b hb => by
            rcases hb with q | q
            · rw [q]; exact ⟨hCn.2, hCn.1⟩
            · exact ⟨(fun z => absurd (Nat.lt_of_lt_of_le hltD q) (by rw [z]; exact Nat.lt_irrefl _)), (fun z => absurd (Nat.lt_of_lt_of_le hltC q) (by rw [z]; exact Nat.lt_irrefl _))⟩
          exact hkap s'' fun b o hb e => hal b o (dis b hb).1 (dis b hb).2 (k6 b o (dis b hb).2 (dis b hb).1 e)
    · have hj' : j = ys.length := by omega
      subst hj'
      rw [Nat.sub_self] at hgo
      refine wpAny_pyNext_gen (P := fun n s₀ s₁ => n = 0 ∧ Since C B s₀ s₁) hh hl' hroom hg hgs' (hgo _ (fun _ _ _ _ e => e) hn.lt) (fun v s₁ gs' hv => ?_) (fun s₁ hp h'' hk'' => ?_)
      · obtain ⟨_, _, hkap⟩ := hv
        exact False.elim (hkap s₁ fun _ _ _ e => e)
      · obtain ⟨_, h₂, tk₂, rfl, hk₂⟩ := hp
        rw [List.take_length] at hvs
        have k2 : ∀ b o, b ≠ C → b < B → h'.get? b = some o → h''.get? b = some o := fun b o hb hlt e => hk'' b o (hk₂ b o hb hlt e)
        exact hRR D C' h'' _ _ m' vs n hDC hD₀ hC₀ (fun b o e => k2 b o (fun q => by rw [q, hCb] at e; cases e) (Nat.lt_trans (hblt b o e) hltD) (hsb b o e)) (hn.at' fun o e => k2 C' o (Ne.symm hCn.1) hltC e) (k2 D _ (Ne.symm hCn.2) hltD hD) hvs fun hb => bare_of hb (hGo.trans ((GenOnly.setGen { s₂ with heap := h', toks := tk', gens := gn } g .running).trans (GenOnly.setGen _ g .finished))) (setGen_self (gs := .running) (setGen_self hgs'))
  exact codeAny_compStart_list (loop _ rfl) (wpAny_pyIter_gen (hG.keeps old) (loop _ rfl))
/-- the end of a list comprehension whose value a local takes -/
theorem asg_post {g : Heap} {L a : Addr} {m m' : Str → Option Value} {nw : List (Addr × Obj)} {cn : Str} {cs : Scope} {ccd : Value} {cl : List (Str × Addr)} {y : Str} {py : Pos} {D' C' : Addr} {h' : Heap} {tk : Nat} {gn : Array GenState} {o' : Obj} {Q : Flow → Shared → Prop}
    (F : Fr g L s.heap m) (D : Led g L s.heap nw) (hDC : D' ≠ C') (hD : s.heap.get? D' = none) (hC : s.heap.get? C' = none) (hsub : Sub s.heap h') (hn : h'.Ns C' m') (ho : h'.get? D' = some o')
    (hq : ∀ h' tk, Fr g L h' (upd m y (.ref D')) → Led g L h' ((D', o') :: nw) → Q .next { s with heap := h', toks := tk, gens := gn })
    (hk : cs.kind = .function := by rfl) (hy : (envX cn cs L a ccd cl).kindOf y = some .local := by rfl) :
    wpAny (model prog w) A (assign (.Name y py) (envX cn cs L a ccd cl) (.ref D')) (fun _ s'' => ∃ m, s''.heap.Ns C' m ∧ ∀ h', Heap.SameBut C' s''.heap h' → Q .next { s'' with heap := h' }) E { s with heap := h', toks := tk, gens := gn } := by
  obtain ⟨oC, heC, hoC⟩ := LCg.ns_obj hn
  have W : New s.heap h' [(C', oC), (D', o')] := ⟨hsub, fun p hp => by
    rcases List.mem_cons.mp hp with q | q
    · rw [q]; exact ⟨heC, hC⟩
    · rw [List.mem_singleton.mp q]; exact ⟨ho, hD⟩, by simp; exact Ne.symm hDC⟩
  obtain ⟨F₁, D₁⟩ := New.after F D W
  refine asg F₁ D₁ (fun h₂ F₂ D₂ => ⟨m', hoC.ns (D₂.get (.head _)), fun h₃ hs₃ => ?_⟩) hk hy
  have z := D₂.N (C', oC) (.head _)
  have nd := List.nodup_cons.mp D₂.nd
  refine hq h₃ _ (F₂.change hs₃ z.2.1 z.2.2) ⟨fun p hp => ?_, nd.2⟩
  have z' := D₂.N p (.tail _ hp)
  exact ⟨hs₃.extBut _ _ (fun q => nd.1 (List.mem_map.mpr ⟨p, hp, q⟩)) z'.1, z'.2⟩
theorem units_asg {g : Heap} {L a : Addr} {m : Str → Option Value} {nw : List (Addr × Obj)} {cn : Str} {cs : Scope} {ccd : Value} {cl cl' : List (Str × Addr)} {iter : Expr} {x x₂ y : Str} {px px₂ tp pe py : Pos} {tk : Nat} {scope : Scope} {pos spos : Pos} {ys : List Str} {Q : Flow → Shared → Prop}
    (F : Fr g L s.heap m) (D : Led g L s.heap nw) (hh : A.handled = none) (hroom : A.depth < recursionLimit) (hsz : ys.length ≤ 1000000)
    (hsw : swapsWith (.ListComp (.Name x₂ pe) [⟨.Tuple [.Name x px, .Name x₂ px₂] tk tp, iter, [], 0⟩] scope pos) (some (.Name y py)) spos.line (envX cn cs L a ccd cl) = pure true)
    (hclos : closureFor scope (envX cn cs L a ccd cl) = pure cl') (hcell : ∀ z ∈ scope.names, z.2 ≠ .cell) (hkind : scope.kind = .function)
    (hnames : ∀ z ∈ scope.names, z.2 = .local → scope.names.lookup z.1 = some .local) (hx : scope.names.lookup x = some .local) (hx₂ : scope.names.lookup x₂ = some .local)
    (h : wpAny (model prog w) A (eval iter (envX cn cs L a ccd cl)) (fun xv s₁ => GS prog w s.heap ys xv s₁ ∧ ∃ h tk gn, s₁ = { s with heap := h, toks := tk, gens := gn } ∧ (AllBare s.gens → AllBare gn)) E s)
    (hq : ∀ D' h' tk gn vs n, (AllBare s.gens → AllBare gn) → Fr g L h' (upd m y (.ref D')) → Led g L h' ((D', W.listOf (vs : List Value).toArray n) :: nw) → Rel2 RS vs ys → Q .next { s with heap := h', toks := tk, gens := gn })
    (hs : ∀ x, foldedSetIterable iter (envX cn cs L a ccd cl) x = pure x := by intro _; rfl) (hk : cs.kind = .function := by rfl) (hy : (envX cn cs L a ccd cl).kindOf y = some .local := by rfl) (hdbg : (x₂ == ("__debug__" : Str)) = false := by decide) :
    wpAny (model prog w) A (exec (.Assign [.Name y py] (.ListComp (.Name x₂ pe) [⟨.Tuple [.Name x px, .Name x₂ px₂] tk tp, iter, [], 0⟩] scope pos) spos) (envX cn cs L a ccd cl)) Q E s := by
  rw [exec_Assign_Name_used _ _ _ _ hsw]
  refine wpAny_bind (wpAny_standAt (wpAny_bind ?_))
  show wpAny _ A (do let _ ← comprehension (.ListComp (.Name x₂ pe) [⟨.Tuple [.Name x px, .Name x₂ px₂] tk tp, iter, [], 0⟩] scope pos) scope (envX cn cs L a ccd cl) _ (newList []) false (eval iter (envX cn cs L a ccd cl)) (some (assign (.Name y py) (envX cn cs L a ccd cl)))) _ _ s
  refine wpAny_bind (wpAny_mono (wpAny_comprehension_free (use := some (assign (.Name y py) (envX cn cs L a ccd cl))) (Q := fun _ s' => Q .next s') rfl hs hclos hkind hnames
    (wpAny_mono h (fun xv s₁ h₁ => ?_) fun _ _ e => e)) (fun _ s' hq => wpAny_pure (wpAny_pure hq)) fun _ _ e => e)
  obtain ⟨hS, hh₁, tk₁, gn₁, rfl, hb₁⟩ := h₁
  refine block_gen hh hroom hsz hcell hkind hx hx₂ hS (fun D' C' h' tk gn m' vs n hDC hD hC hsub hn ho hr hb => ?_) hdbg
  exact asg_post (s := s) F D hDC hD hC hsub hn ho (fun h₃ tk₃ F₃ D₃ => hq D' h₃ tk₃ gn vs n (fun q => hb (hb₁ q)) F₃ D₃ hr) hk hy
end
end Mine
end
section
open PySem PySem.W PyProof.Rows PySem.Calls
set_option Elab.async false
set_option maxRecDepth 100000
set_option maxHeartbeats 4000000
set_option linter.unusedVariables false
namespace Mine
open PySem.Builtin PySem.Builtin.Str PySem.StrLaws
def tick : Str := ⟨#[39]⟩
def dS (d : Int) : Str := if d = 1 then ⟨#[49]⟩ else ⟨#[45, 49]⟩
def txt (us : List (Fin 4)) : Str := Txt.join ⟨#[]⟩ (us.map U)
theorem occ_keep (s sub : Str) (hi limit : Nat) : ∀ (l : List Nat) (st : Array Nat × Nat), limit ≤ st.fst.size → (forIn l st (occBody s sub hi limit)).run = st
  | [], st, h => rfl
  | a :: l, st, h => by
    rw [List.forIn_cons]
    unfold occBody
    rw [if_neg (fun q => absurd q.1.1.1 (by omega))]
    exact occ_keep s sub hi limit l st h
theorem occ_app (s sub : Str) (hi limit : Nat) : ∀ (l l' : List Nat) (st : Array Nat × Nat), (forIn (l ++ l') st (occBody s sub hi limit)).run = (forIn l' (forIn l st (occBody s sub hi limit)).run (occBody s sub hi limit)).run
  | [], l', st => rfl
  | a :: l, l', st => by
    rw [List.cons_append, List.forIn_cons, List.forIn_cons]
    unfold occBody
    split
    · exact occ_app s sub hi limit l l' _
    · exact occ_app s sub hi limit l l' _
theorem sub_pre (p x : Str) {a b : Nat} (h : b ≤ p.length) : (p ++ x).cps.extract a b = p.cps.extract a b := by
  rw [Str.cps_append, Array.extract_append]
  have : b - p.cps.size = 0 := by have : p.cps.size = p.length := rfl; omega
  rw [this]
  simp
theorem occ_pre (p x : Str) : ∀ (l : List Nat) (st : Array Nat × Nat), (∀ i ∈ l, i < p.length) → (forIn l st (occBody (p ++ x) tick (p ++ x).length 2)).run = (forIn l st (occBody p tick p.length 2)).run
  | [], st, h => rfl
  | a :: l, st, h => by
    have ha : a < p.length := h a (.head _)
    have e1 : subAt (p ++ x) tick a = subAt p tick a := by
      unfold subAt
      rw [sub_pre p x (by show a + 1 ≤ _; omega)]
    have e2 : (a + tick.length ≤ (p ++ x).length) = (a + tick.length ≤ p.length) := by
      have : tick.length = 1 := rfl
      rw [this, Str.length_append]
      apply propext
      constructor <;> intro <;> omega
    have eb : occBody (p ++ x) tick (p ++ x).length 2 a st = occBody p tick p.length 2 a st := by
      unfold occBody
      by_cases c : ((st.fst.size < 2 ∧ st.snd ≤ a) ∧ a + tick.length ≤ p.length) ∧ subAt p tick a = true
      · rw [if_pos c, if_pos ⟨⟨c.1.1, by rw [e2]; exact c.1.2⟩, by rw [e1]; exact c.2⟩]
      · rw [if_neg c, if_neg (fun q => c ⟨⟨q.1.1, by rw [← e2]; exact q.1.2⟩, by rw [← e1]; exact q.2⟩)]
    have ey : ∃ st', occBody p tick p.length 2 a st = pure (ForInStep.yield st') := by
      unfold occBody
      split <;> exact ⟨_, rfl⟩
    obtain ⟨st', ey⟩ := ey
    rw [List.forIn_cons, List.forIn_cons, eb, ey]
    exact occ_pre p x l st' fun i hi => h i (.tail _ hi)
theorem occ_two (p x : Str) {i j : Nat} (hp : (forIn (List.range' 0 p.length) ((#[] : Array Nat), 0) (occBody p tick p.length 2)).run.fst = #[i, j]) : occurrences (p ++ x) tick 0 (p ++ x).length 2 = [i, j] := by
  rw [occ_eq]
  have e : List.range' 0 ((p ++ x).length + 1 - 0) = List.range' 0 p.length ++ List.range' p.length (x.length + 1) := by
    have := List.range'_append (s := 0) (m := p.length) (n := x.length + 1) (step := 1)
    rw [Str.length_append]
    simpa [Nat.add_assoc] using this.symm
  rw [e, occ_app, occ_pre p x (List.range' 0 p.length) _ (fun i hi => by simp [List.mem_range'] at hi; omega), occ_keep _ _ _ _ _ _ (by rw [hp]; simp), hp]
theorem kind_ge (x : Str) : ¬ Builtin.Str.strKind x < Builtin.Str.strKind tick := by
  have : Builtin.Str.strKind tick = 1 := by decide +kernel
  rw [this]
  unfold Builtin.Str.strKind
  split
  · omega
  · split <;> omega
theorem split_two (p x a b : Str) {i j : Nat} (hp : (forIn (List.range' 0 p.length) ((#[] : Array Nat), 0) (occBody p tick p.length 2)).run.fst = #[i, j]) (hj : j + 1 = p.length) (hi : i ≤ j)
    (ha : strSub p 0 i = a) (hb : strSub p (i + 1) j = b) : Txt.splitMax (p ++ x) tick 2 = [a, b, x] := by
  have h0 : (decide ((p ++ x).length < tick.length) || decide (Builtin.Str.strKind (p ++ x) < Builtin.Str.strKind tick)) = false := by
    rw [decide_eq_false (kind_ge _), Str.length_append]
    have : tick.length = 1 := rfl
    rw [this]
    simp; omega
  have hl : limitOf (p ++ x) 2 = 2 := rfl
  unfold Txt.splitMax
  rw [if_neg (by rw [h0]; decide), hl, occ_two p x hp, if_neg (by simp)]
  show [strSub (p ++ x) 0 i, strSub (p ++ x) (i + 1) j, strSub (p ++ x) (j + 1) (p ++ x).length] = _
  have e1 : strSub (p ++ x) 0 i = a := by rw [← ha]; unfold strSub; rw [sub_pre p x (by omega)]
  have e2 : strSub (p ++ x) (i + 1) j = b := by rw [← hb]; unfold strSub; rw [sub_pre p x (by omega)]
  have e3 : strSub (p ++ x) (j + 1) (p ++ x).length = x := by
    unfold strSub
    rw [hj, Str.cps_append, Array.extract_append, Str.length_append]
    have : p.cps.size = p.length := rfl
    have e : x.cps.size = x.length := rfl
    rw [this, Array.extract_eq_empty_of_le (by rw [this]; omega), Nat.sub_self, Nat.add_sub_cancel_left, ← e, Array.extract_size]
    simp
  rw [e1, e2, e3]
theorem app_assoc (a b c : Str) : a ++ (b ++ c) = (a ++ b) ++ c := by
  apply congrArg Str.mk
  show a.cps ++ (b.cps ++ c.cps) = (a.cps ++ b.cps) ++ c.cps
  rw [Array.append_assoc]
theorem split_text {d t : Int} (hd : d = 1 ∨ d = -1) (ht : t = 1 ∨ t = -1) (x : Str) : Txt.splitMax (dS d ++ tick ++ dS t ++ tick ++ x) tick 2 = [dS d, dS t, x] := by
  rcases hd with rfl | rfl <;> rcases ht with rfl | rfl
  · exact split_two _ x _ _ (i := 1) (j := 3) (by decide +kernel) (by decide +kernel) (by decide) (by decide +kernel) (by decide +kernel)
  · exact split_two _ x _ _ (i := 1) (j := 4) (by decide +kernel) (by decide +kernel) (by decide) (by decide +kernel) (by decide +kernel)
  · exact split_two _ x _ _ (i := 2) (j := 4) (by decide +kernel) (by decide +kernel) (by decide) (by decide +kernel) (by decide +kernel)
  · exact split_two _ x _ _ (i := 2) (j := 5) (by decide +kernel) (by decide +kernel) (by decide) (by decide +kernel) (by decide +kernel)
theorem int_dS {d : Int} (hd : d = 1 ∨ d = -1) : PySem.intText? (dS d) = some d := by
  rcases hd with rfl | rfl <;> decide +kernel
end Mine
end
section
open PySem PySem.W PyProof.Rows PySem.Calls
set_option Elab.async false
set_option maxRecDepth 100000
set_option maxHeartbeats 4000000
set_option linter.unusedVariables false
namespace Mine
theorem fill8 : (PySem.Challenge.rw_pe0061_01.prog, fun (P : Params) => hd.heap_39 P) = (PySem.Challenge.rw_pe0061_01.prog, fun (P : Params) => hd.heap_39 P) := by
  k_fill
  rfl
theorem U0 : (U 0).cps.toList = [39] := by decide +kernel
theorem U1 : (U 1).cps.toList = [92, 39] := by decide +kernel
theorem U2 : (U 2).cps.toList = [92, 92] := by decide +kernel
theorem U3 : (U 3).cps.toList = [97] := by decide +kernel
theorem cs4 : ∀ c : Fin 4, c = 0 ∨ c = 1 ∨ c = 2 ∨ c = 3 := by decide
theorem ul2 : ∀ c : Fin 4, (U c).cps.toList.length ≤ 2 := by decide +kernel
def flat (us : List (Fin 4)) : List Nat := us.flatMap fun c => (U c).cps.toList
theorem join_flat : ∀ us : List (Fin 4), (Str.join ⟨#[]⟩ (us.map U)).cps.toList = flat us
  | [] => rfl
  | [c] => by
    show (U c).cps.toList = _
    simp [flat]
  | c :: c' :: r => by
    show ((U c ++ ⟨#[]⟩ ++ Str.join ⟨#[]⟩ ((c' :: r).map U)).cps).toList = _
    rw [Str.cps_append, Str.cps_append, Array.toList_append, Array.toList_append, join_flat (c' :: r)]
    simp [flat]
theorem txt_flat (us : List (Fin 4)) : (txt us).cps.toList = flat us := by
  unfold txt Txt.join
  rw [StrLaws.glued_eq_join]
  exact join_flat us
theorem un_flat : ∀ us : List (Fin 4), unF false (flat us) = us.map U ∧ wf false (flat us) = true
  | [] => ⟨rfl, rfl⟩
  | c :: r => by
    have ih := un_flat r
    have e : flat (c :: r) = (U c).cps.toList ++ flat r := by simp [flat]
    rw [e, List.map_cons]
    have hc : c = 0 ∨ c = 1 ∨ c = 2 ∨ c = 3 := cs4 c
    rcases hc with rfl | rfl | rfl | rfl
    · rw [U0]
      have : (⟨#[39]⟩ : Str) = U 0 := by decide +kernel
      exact ⟨by rw [← ih.1, ← this]; rfl, ih.2⟩
    · rw [U1]
      have : (Str.ofString "\\" ++ ⟨#[39]⟩ : Str) = U 1 := by decide +kernel
      exact ⟨by rw [← ih.1, ← this]; rfl, ih.2⟩
    · rw [U2]
      have : (Str.ofString "\\" ++ ⟨#[92]⟩ : Str) = U 2 := by decide +kernel
      exact ⟨by rw [← ih.1, ← this]; rfl, ih.2⟩
    · rw [U3]
      have : (⟨#[97]⟩ : Str) = U 3 := by decide +kernel
      exact ⟨by rw [← ih.1, ← this]; rfl, ih.2⟩
theorem un_txt (us : List (Fin 4)) : unF false (txt us).cps.toList = us.map U := by rw [txt_flat]; exact (un_flat us).1
theorem wf_txt (us : List (Fin 4)) : wf false (txt us).cps.toList = true := by rw [txt_flat]; exact (un_flat us).2
theorem flat_len : ∀ us : List (Fin 4), (flat us).length ≤ 2 * us.length
  | [] => Nat.le_refl _
  | c :: r => by
    have ih := flat_len r
    have e : flat (c :: r) = (U c).cps.toList ++ flat r := by simp [flat]
    have hc : (U c).cps.toList.length ≤ 2 := ul2 c
    rw [e, List.length_append, List.length_cons]
    omega
theorem txt_len (us : List (Fin 4)) : (txt us).length ≤ 2 * us.length := by
  have := flat_len us
  rw [← txt_flat, Array.length_toList] at this
  exact this
section
variable {prog : Program} {w : World} {A : Around} {E : Value → Shared → Prop} {s : Shared} {Q : Value → Shared → Prop}
theorem decode_spec {x p1 p2 p3 : Str} {t : Tok} (X : Tp w s.heap) (hh : A.handled = none) (hroom : A.depth < recursionLimit) (hsp : Txt.splitMax x tick 2 = [p1, p2, p3]) (hsz : x.length + 2 ≤ sizeLine)
    (h : ∀ h' tk a t1 t2 t3, New s.heap h' [(a, W.listOf [Value.str p1 t1, .str p2 t2, .str p3 t3].toArray 0)] → Q (.ref a) { s with heap := h', toks := tk }) :
    wpAny (model prog w) A (call (.ref 70) [.str x t]) Q E s := by
  refine callK (binds := [("s", .str x t)]) X hroom (by k_is) (by k_is) rfl rfl (fun h₁ F => ?_)
  have D : Led s.heap s.heap.objs.size h₁ [] := Led.nil
  have et : Str.ofString "'" = tick := by decide +kernel
  refine wpAny_execs_cons <| wpAny_Assign_Name <| MethodCall_ <| nameX_L F rfl <| GM.split <| callWith_method1 <| spliced_more <| nK X F (by k_is) <| spliced_more <| wpAny_Constant_int <| spliced_none <| splitN2A F D.N (by decide +kernel) (by decide) (fun l h₂ tk₂ hl _ _ _ F₂ N₂ => ?_) hsz
  rw [et, hsp] at hl
  obtain ⟨⟨q1, t1⟩, l, rfl⟩ : ∃ a b, l = a :: b := by cases l with | nil => cases hl | cons a b => exact ⟨a, b, rfl⟩
  obtain ⟨⟨q2, t2⟩, l, rfl⟩ : ∃ a b, l = a :: b := by cases l with | nil => cases hl | cons a b => exact ⟨a, b, rfl⟩
  obtain ⟨⟨q3, t3⟩, l, rfl⟩ : ∃ a b, l = a :: b := by cases l with | nil => cases hl | cons a b => exact ⟨a, b, rfl⟩
  cases l with
  | cons a b => cases hl
  | nil =>
    cases hl
    have D₂ : Led s.heap s.heap.objs.size h₂ _ := ⟨N₂, by simp⟩
    refine st F₂ D₂ fun h₃ F₃ D₃ => ?_
    dsimp only
    refine wpAny_execs_cons <| wpAny_If <| wpAny_isTrue_Compare1 <| Call_ <| nB X F₃ (by k_is) (by boot_fast) (by decide) <| PyProof.Rows.callWith_builtin1 <| spliced_more <| nameX_L F₃ rfl <| spliced_none <| call_len_list (isL' (n := 0) D₃ (.head _)) (show ((3 : Nat) : Int) < 2 ^ 63 by decide) <| wpAny_Constant_int <| PyProof.Rows.le_int <| wpAny_truthy_bool <| neg (show decide (((3 : Nat) : Int) ≤ 2) = false by decide) ?_
    exact wpAny_execs_nil <| wpAny_execs_cons <| wpAny_Return_some <| nameX_L F₃ rfl <| h _ _ _ t1 t2 t3 (.of F₃ D₃)
end
end Mine
end
section
open PySem PySem.W PyProof.Rows PySem.Calls
set_option Elab.async false
set_option maxRecDepth 100000
set_option maxHeartbeats 4000000
set_option linter.unusedVariables false
namespace Mine
section
variable {prog : Program} {w : World} {A : Around} {E : Value → Shared → Prop} {s : Shared} {env : Env} {Q : Value → Shared → Prop}
/-- what an element leaves: a new tuple -/
def MadeT (T : Obj → Prop) (s₃ : Shared) (y : Value) (s₄ : Shared) : Prop :=
  ∃ (a : Addr) (o : Obj) (h : Heap) (tk : Nat), y = .ref a ∧ s₄ = { s₃ with heap := h, toks := tk } ∧ Sub s₃.heap h ∧ s₃.heap.get? a = none ∧ h.get? a = some o ∧ T o
def TcAt (prog : Program) (w : World) (A : Around) (env : Env) (scope : Scope) (cl : List (Str × Addr)) (x : Str) (elt : Expr) (Q : Value → Shared → Prop) (xv : Value) (s₁ : Shared) : Prop :=
  ∃ (TT : Nat → Obj → Prop) (r : Addr) (n : Nat) (t u v : Tok), xv = .ref r ∧ IsRange s₁.heap r 0 (n : Int) 1 t u v ∧ n < 1000 ∧
    (∀ (C : Addr) (i : Nat) v s₃ m₃, i < n → RI v (i : Int) → s₃.heap.Ns C m₃ → m₃ x = some v → Sub s₁.heap s₃.heap → wpAny (model prog w) A (eval elt (compEnvC scope cl C env)) (MadeT (TT i) s₃) (fun _ _ => False) s₃) ∧
    (∀ D h' tk ts k, New s₁.heap h' ((D, W.listOf ((ts : List (Addr × Obj)).map fun p => Value.ref p.1).toArray k) :: ts) → ts.length = n → (∀ (j : Nat) p, ts[j]? = some p → TT j p.2) → Q (.ref D) { s₁ with heap := h', toks := tk })
theorem comp_tup {elt iter : Expr} {x : Str} {px : Pos} {scope : Scope} {cl : List (Str × Addr)} {pos : Pos}
    (hh : A.handled = none) (hclos : closureFor scope env = pure cl) (hcell : ∀ y ∈ scope.names, y.2 ≠ .cell) (hkind : scope.kind = .function)
    (hnames : ∀ y ∈ scope.names, y.2 = .local → scope.names.lookup y.1 = some .local) (hx : scope.names.lookup x = some .local)
    (hiter : wpAny (model prog w) A (eval iter env) (fun xv s₁ => TcAt prog w A env scope cl x elt Q xv s₁) E s)
    (hs : ∀ x, foldedSetIterable iter env x = pure x := by intro _; rfl) :
    wpAny (model prog w) A (eval (.ListComp elt [⟨.Name x px, iter, [], 0⟩] scope pos) env) Q E s := by
  rw [eval_ListComp]
  refine wpAny_comprehension_free (use := none) rfl hs hclos hkind hnames (wpAny_mono hiter (fun xv s' h₁ => ?_) fun _ _ e => e)
  obtain ⟨TT, r, n, t, u, v, rfl, hr, hsz, helt, h⟩ := h₁
  refine wpAny_pyIter_range hr (small_nat (by omega)) ?_
  have Wk := Walks.range (prog := prog) (w := w) (A := A) hh s'.heap.objs.size 0 1 n
  have hst0 : IsRangeIter (s'.heap.push { cls := .type "range_iterator", data := .fields #[rawInt 0, rawInt (Builtin.Range.rangeSize 0 (n : Int) 1), rawInt 1] }) s'.heap.objs.size (0 + ((0 : Nat) : Int) * 1) ((n : Int) - ((0 : Nat) : Int)) 1 := by
    rw [rangeSize_nat]
    show (s'.heap.push _).get? s'.heap.objs.size = _
    rw [Heap.get?_push_size _ rfl]
    simp
  generalize hH0 : s'.heap.push { cls := .type "range_iterator", data := .fields #[rawInt 0, rawInt (Builtin.Range.rangeSize 0 (n : Int) 1), rawInt 1] } = H0 at hst0 ⊢
  have hz0 : H0.objs.size = s'.heap.objs.size + 1 := by rw [← hH0, Heap.size_push]
  have old0 : Sub s'.heap H0 := fun b o e => hH0 ▸ Heap.get?_push_of_some _ e
  refine wpAny_newObj_type (wpAny_newFunctionEnv hcell (by intro y hy; simp at hy) (fun h₁ hns₁ hsb₁ => ?_) hkind)
  dsimp only at hns₁ hsb₁ ⊢
  generalize hH2 : H0.push { cls := .type "list", dict := none, data := .seq ([] : List Value).toArray } = H2 at hns₁ hsb₁ ⊢
  have hC' : H2.objs.size = H0.objs.size + 1 := by rw [← hH2, Heap.size_push]
  have hDC : H0.objs.size ≠ H2.objs.size := by rw [hC']; exact Nat.ne_of_lt (Nat.lt_succ_self _)
  have below : ∀ b, b < H0.objs.size → b ≠ H2.objs.size ∧ b ≠ H0.objs.size := fun b hb => ⟨by rw [hC']; exact Nat.ne_of_lt (Nat.lt_succ_of_lt hb), Nat.ne_of_lt hb⟩
  have old1 : ∀ b o, H0.get? b = some o → h₁.get? b = some o := fun b o e => hsb₁.extBut b o (below b (Heap.lt_size e)).1 (Heap.get?_push_of_some _ (hH2 ▸ Heap.get?_push_of_some _ e))
  have hacc : h₁.get? H0.objs.size = some (W.listOf ([] : List Value).toArray 0) := hsb₁.extBut _ _ hDC (Heap.get?_push_of_some _ (hH2 ▸ Heap.get?_push_size _ rfl))
  have fresh : ∀ a, s'.heap.objs.size ≤ a → s'.heap.get? a = none := fun a ha => by
    cases e : s'.heap.get? a with
    | none => rfl
    | some o' => exact absurd (Heap.lt_size e) (Nat.not_lt.mpr ha)
  have hI₀ : s'.heap.get? s'.heap.objs.size = none := fresh _ (Nat.le_refl _)
  have hD₀ : s'.heap.get? H0.objs.size = none := fresh _ (by rw [hz0]; exact Nat.le_succ _)
  have hC₀ : s'.heap.get? H2.objs.size = none := fresh _ (by rw [hC', hz0]; exact Nat.le_succ_of_le (Nat.le_succ _))
  have hIn := below s'.heap.objs.size (by rw [hz0]; exact Nat.lt_succ_self _)
  have hlow : ∀ b o, s'.heap.get? b = some o → b ≠ s'.heap.objs.size ∧ b ≠ H0.objs.size ∧ b ≠ H2.objs.size := fun b o e => ⟨(fun q => by rw [q, hI₀] at e; cases e), (fun q => by rw [q, hD₀] at e; cases e), (fun q => by rw [q, hC₀] at e; cases e)⟩
  have hst1 := Wk.frame 0 _ h₁ hst0 fun b hb o e => old1 b o e
  generalize hIe : s'.heap.objs.size = I at *
  generalize hDe : H0.objs.size = D at *
  generalize hC'e : H2.objs.size = C' at *
  have loop : ∀ s₃ : Shared, s₃ = { s' with heap := h₁, toks := s'.toks + ([] : List (Str × Value)).length } →
      codeAny (model prog w) A (.compLoop (.ListComp elt [⟨.Name x px, iter, [], 0⟩] scope pos) 0 (.ref I) (.ref D) (compEnvC scope cl C' env))
        (compPost (model prog w) A E none Q (.ref D) C') s₃ := by
    rintro s₃ rfl
    refine codeAny_compLoop_list
      (fun k s'' => ∃ (h' : Heap) (tk : Nat) (m' : Str → Option Value) (ts : List (Addr × Obj)) (kk i : Nat), s'' = { s' with heap := h', toks := tk } ∧ k = n + 1 - i ∧ i ≤ n ∧ ts.length = i ∧ IsRangeIter h' I (0 + (i : Int) * 1) ((n : Int) - i) 1 ∧ h'.Ns C' m' ∧ Sub s'.heap h' ∧
        h'.get? D = some (W.listOf (ts.map fun p => Value.ref p.1).toArray kk) ∧ (∀ p ∈ ts, h'.get? p.1 = some p.2 ∧ s'.heap.get? p.1 = none ∧ p.1 ≠ I ∧ p.1 ≠ D ∧ p.1 ≠ C') ∧ (ts.map (·.1)).Nodup ∧ ∀ (j : Nat) p, ts[j]? = some p → TT j p.2) ?_ (n + 1)
      ⟨h₁, _, _, [], 0, 0, rfl, rfl, Nat.zero_le _, rfl, hst1, hns₁, fun b o e => old1 b o (old0 b o e), hacc, fun p hp => (nomatch hp), List.nodup_nil, fun j p hp => by simp at hp⟩
    rintro k s'' ⟨h', tk, m', ts, kk, i, rfl, rfl, hi, hts, hst, hn, hsb, hD, hall, hnd, hTT⟩
    by_cases hlt : i < n
    · refine Wk.item i _ _ _ hlt hst fun v h₂ tk₂ hP hst₂ hk₂ => ?_
      obtain ⟨tv, hv⟩ := hP
      have k2 : ∀ b o, b ≠ I → h'.get? b = some o → h₂.get? b = some o := fun b o hb e => hk₂ b o (fun q => hb (List.mem_singleton.mp q)) e
      dsimp only
      refine wpAny_assign_Name (wpAny_storeName_local (lookup_relabel_local hx) (hn.at' fun o e => k2 C' o (Ne.symm hIn.1) e) (fun h₃ hn₃ hs₃ => ?_) (by simp [compEnvC, relabel, hkind]))
      have k3 : ∀ b o, b ≠ I → b ≠ C' → h'.get? b = some o → h₃.get? b = some o := fun b o hb hb' e => hs₃.extBut b o hb' (k2 b o hb e)
      refine wpAny_mono (helt C' i v _ _ hlt ⟨tv, by simpa using hv⟩ hn₃ (if_pos rfl) fun b o e => k3 b o (hlow b o e).1 (hlow b o e).2.2 (hsb b o e)) (fun y s₄ h₄ => ?_) fun _ _ e => e.elim
      obtain ⟨a, o, h₄, tk₄, rfl, rfl, hk₄, ha, hao, hTo⟩ := h₄
      have hDh₄ := hk₄ D _ (k3 D _ (Ne.symm hIn.2) hDC hD)
      have hI₃ : ∃ oI, h₃.get? I = some oI := ⟨_, hs₃.extBut I _ hIn.1 hst₂⟩
      obtain ⟨oC, heC, hoC⟩ := LCg.ns_obj hn₃
      have na : a ≠ I ∧ a ≠ D ∧ a ≠ C' := ⟨(fun q => by rw [q] at ha; obtain ⟨oI, e⟩ := hI₃; rw [ha] at e; cases e), (fun q => by rw [q] at ha; have := k3 D _ (Ne.symm hIn.2) hDC hD; rw [ha] at this; cases this), (fun q => by rw [q] at ha; exact absurd (ha.symm.trans heC) (by simp))⟩
      refine append_at (hsz := by rw [sizeLine_eq]; simp; omega) hDh₄ fun h₅ hs₅ ho₅ => ?_
      rw [List.push_toArray] at ho₅
      have k5 : ∀ b o, b ≠ I → b ≠ C' → b ≠ D → h'.get? b = some o → h₅.get? b = some o := fun b o hb hb' hb'' e => hs₅.extBut b o hb'' (hk₄ b o (k3 b o hb hb' e))
      refine ⟨n + 1 - (i + 1), by omega, h₅, _, _, ts ++ [(a, o)], kk + 1, i + 1, rfl, rfl, hlt, by simp [hts], Wk.frame (i + 1) _ h₅ hst₂ fun b hb o e => ?_, (hn₃.keeps hk₄).sameBut hs₅ (Ne.symm hDC), fun b o e => k5 b o (hlow b o e).1 (hlow b o e).2.2 (hlow b o e).2.1 (hsb b o e), ?_, ?_, ?_, ?_⟩
      · rw [List.mem_singleton.mp hb] at e ⊢
        exact hs₅.extBut I o hIn.2 (hk₄ I o (hs₃.extBut I o hIn.1 e))
      · simpa using ho₅
      · intro p hp
        rcases List.mem_append.mp hp with q | q
        · have z := hall p q
          exact ⟨k5 _ _ z.2.2.1 z.2.2.2.2 z.2.2.2.1 z.1, z.2⟩
        · rw [List.mem_singleton.mp q]
          refine ⟨hs₅.extBut a o na.2.1 hao, ?_, na⟩
          cases e : s'.heap.get? a with
          | none => rfl
          | some o' => exact absurd (ha.symm.trans (k3 a o' (hlow a o' e).1 (hlow a o' e).2.2 (hsb a o' e))) (by simp)
      · rw [List.map_append]
        refine List.nodup_append.mpr ⟨hnd, by simp, fun b hb c hc e => ?_⟩
        obtain ⟨p, hp, rfl⟩ := List.mem_map.mp hb
        simp at hc
        subst hc
        have z := hall p hp
        exact absurd (ha.symm.trans (e ▸ k3 p.1 p.2 z.2.2.1 z.2.2.2.2 z.1)) (by simp)
      · intro j p hp
        rcases Nat.lt_trichotomy j ts.length with q | q | q
        · rw [List.getElem?_append_left q] at hp
          exact hTT j p hp
        · rw [q, List.getElem?_append_right (Nat.le_refl _), Nat.sub_self] at hp
          cases hp
          rw [q, hts]; exact hTo
        · rw [List.getElem?_eq_none (by simp; omega)] at hp; cases hp
    · have hin : i = n := by omega
      subst hin
      refine Wk.done _ _ _ hst fun h₂ tk₂ hk₂ => ?_
      have k2 : ∀ b o, b ≠ I → h'.get? b = some o → h₂.get? b = some o := fun b o hb e => hk₂ b o (fun q => hb (List.mem_singleton.mp q)) e
      refine ⟨m', hn.at' fun o e => k2 C' o (Ne.symm hIn.1) e, fun h₃ hs₃ => ?_⟩
      have k3 : ∀ b o, b ≠ I → b ≠ C' → h'.get? b = some o → h₃.get? b = some o := fun b o hb hb' e => hs₃.extBut b o hb' (k2 b o hb e)
      refine h D h₃ _ ts kk ⟨fun b o e => k3 b o (hlow b o e).1 (hlow b o e).2.2 (hsb b o e), fun p hp => ?_, ?_⟩ hts hTT
      · rcases List.mem_cons.mp hp with q | q
        · rw [q]; exact ⟨k3 D _ (Ne.symm hIn.2) hDC hD, hD₀⟩
        · have z := hall p q
          exact ⟨k3 _ _ z.2.2.1 z.2.2.2.2 z.1, z.2.1⟩
      · rw [List.map_cons]
        refine List.nodup_cons.mpr ⟨fun q => ?_, hnd⟩
        obtain ⟨p, hp, e⟩ := List.mem_map.mp q
        exact (hall p hp).2.2.2.1 e
  exact codeAny_compStart_list (loop _ rfl) (Wk.self 0 _ _ _ hst1 (loop _ rfl))
end
end Mine
end
section
open PySem PySem.W PyProof.Rows PySem.Calls
set_option Elab.async false
set_option maxRecDepth 100000
set_option maxHeartbeats 4000000
set_option linter.unusedVariables false
namespace Mine
theorem fill9 : (PySem.Challenge.rw_pe0061_01.prog, fun (P : Params) => hd.heap_39 P) = (PySem.Challenge.rw_pe0061_01.prog, fun (P : Params) => hd.heap_39 P) := by
  k_fill
  rfl
section
variable {prog : Program} {w : World} {A : Around} {E : Value → Shared → Prop} {s : Shared} {Q : Value → Shared → Prop}
/-- as callK, for the code; the ground is any heap that the call's heap holds -/
theorem codeK {name qual : Str} {params : Arguments} {body : List Stmt} {scope : Scope} {dV kV doc pm cdv ct oc : Value} {an od : Option Addr} {osl : Array (Option Value)} {f : Addr} {args : List Value} {binds : List (Str × Value)} {g : Heap} {R : Result → Shared → Prop}
    (X : Tp w g) (hg : Sub g s.heap) (hsz : g.objs.size ≤ s.heap.objs.size) (hroom : A.depth < recursionLimit)
    (ho : (hd.heap_39 w.params).lookup f = some ⟨oc, od, .func (fnOf name qual params body scope dV kV doc pm an cdv ct), osl⟩) (hcd : codeIn (hd.heap_39 w.params) cdv qual = true)
    (hbind : bindArgs (fnOf name qual params body scope dV kV doc pm an cdv ct) ⟨args, []⟩ = pure binds) (hloc : (binds.all fun y => decide (scope.names.lookup y.1 = some .local)) = true)
    (h : ∀ h₁, Fr g s.heap.objs.size h₁ (fun y => binds.reverse.lookup y) → Sub s.heap h₁ →
      wpAny (model prog w) (A.deeper (envX qual scope s.heap.objs.size f cdv [])) (execs body (envX qual scope s.heap.objs.size f cdv []))
        (fun fl s' => R (.ok (.ret (match fl with | .ret v => v | _ => .none))) s') (fun _ _ => False) { s with heap := h₁, toks := s.toks + binds.length })
    (hco : scope.isCoroutine = false := by rfl) (hgen : scope.isGenerator = false := by rfl) (hk : scope.kind = .function := by rfl)
    (hcell : ∀ x ∈ scope.names, x.2 ≠ .cell := by decide) : codeAny (model prog w) A (.call (.ref f) ⟨args, []⟩) R s := by
  have X' := X.keeps hg
  refine codeAny_call_def (fd := fnOf name qual params body scope dV kV doc pm an cdv ct) (body := body) (binds := binds) hroom (X'.K _ _ ho) rfl X'.nolimit (codeRec_of X'.K hcd) rfl (.of_eq hbind) hcell (locs hloc) (fun h₁ hns hk₁ => ?_) hco hgen hk
  exact wpAny_mono (h h₁ ⟨hns, fun b o e => hk₁ b o (hg b o e), hsz⟩ hk₁) (fun _ _ x => x) fun _ _ x => x.elim
theorem order_call {cl L : Addr} {g : Heap} {m : Str → Option Value} {nw : List (Addr × Obj)} (F : Fr g L s.heap m) (X : Tp w g) (D : Led g L s.heap nw) (hroom : A.depth + 1 < recursionLimit)
    (h : ∀ h' tk x dx es n, Fr g L h' m → Led g L h' ((x, instObj 38 dx) :: (dx, dictOf es n) :: nw) → getL "comp_select_list" es = some (some (.ref cl)) → getL "compare" es = some none → Q (.ref x) { s with heap := h', toks := tk }) :
    wpAny (model prog w) A (call (.ref 38) [.ref cl]) Q E s := by
  refine call_cls (K := hd.heap_39 w.params) (fI := 28) F X.K D.N (by k_is) (by k_is) (by k_is) fun x dx h' F' N' hdx hx => ?_
  obtain ⟨oL, heL, hoL⟩ := LCg.ns_obj F'.ns
  have hLlt : L < h'.objs.size := F'.ns.lt
  have hgL : g.get? L = none := Heap.get?_none_of_le F'.above
  have D' : Led g L h' ((x, instObj 38 dx) :: (dx, dictOf [] 0) :: nw) := ⟨N', by
    rw [List.map_cons, List.map_cons]
    refine List.nodup_cons.mpr ⟨fun q => ?_, List.nodup_cons.mpr ⟨fun q => ?_, D.nd⟩⟩
    · rcases List.mem_cons.mp q with q | q
      · exact absurd hx (by rw [show x = dx from q]; exact Nat.lt_irrefl _)
      · obtain ⟨p, hp, e⟩ := List.mem_map.mp q
        have := Nat.lt_trans (hdx p hp) hx
        rw [show p.1 = x from e] at this
        exact Nat.lt_irrefl _ this
    · obtain ⟨p, hp, e⟩ := List.mem_map.mp q
      have := hdx p hp
      rw [show p.1 = dx from e] at this
      exact Nat.lt_irrefl _ this⟩
  have nL : ∀ p ∈ (x, instObj 38 dx) :: (dx, dictOf [] 0) :: nw, p.1 ≠ L := fun p hp => (N' p hp).2.1
  refine codeK (binds := [("self", .ref x), ("comp_select_list", .ref cl)]) X F'.keep (Nat.le_trans F'.above (Nat.le_of_lt hLlt)) (by exact hroom) (by k_is) (by k_is) rfl rfl fun h₁ F₁ hk₁ => ?_
  have N₁ : News g h'.objs.size h₁ ((L, oL) :: (x, instObj 38 dx) :: (dx, dictOf [] 0) :: nw) := fun p hp => by
    rcases List.mem_cons.mp hp with q | q
    · rw [q]; exact ⟨hk₁ _ _ heL, Nat.ne_of_lt hLlt, hgL⟩
    · exact ⟨hk₁ _ _ (D'.get q), Nat.ne_of_lt (D'.lt p q), (N' p q).2.2⟩
  have hxm : h₁.get? x = some (instObj 38 dx) := (N₁ _ (.tail _ (.head _))).1
  have hdm : h₁.get? dx = some (dictOf [] 0) := (N₁ _ (.tail _ (.tail _ (.head _)))).1
  have nd := D'.nd
  refine wpAny_execs_cons <| plainObj_wpAny_Assign_Attribute <| nameX_L F₁ rfl <| nameX_L F₁ rfl ?_
  refine set_dict (K := hd.heap_39 w.params) (C := 38) (dx := dx) (es := []) (n := 0) F₁ X.K N₁ ⟨hxm, rfl, rfl, hdm⟩ rfl (by k_is) (by k_is) (by k_is) (by k_is) rfl rfl (.tail ?_ (.tail ?_ (.head ?_))) (by show 1 ≤ 1000; decide) fun h₂ F₂ N₂ => ?_
  · exact Ne.symm (nL _ (.tail _ (.head _)))
  · exact Ne.symm (Nat.ne_of_lt hx)
  · intro p hp
    exact Nat.ne_of_lt (hdx p hp)
  · refine wpAny_execs_nil ⟨rfl, ?_⟩
    refine h h₂ _ x dx _ _ ⟨hoL.ns (N₂ _ (.head _)).1, F₂.keep, F'.above⟩ ⟨fun p hp => ⟨(N₂ p (.tail _ hp)).1, ?_, (N₂ p (.tail _ hp)).2.2⟩, nd⟩ rfl rfl
    rcases List.mem_cons.mp hp with q | q
    · rw [q]; exact nL _ (.head _)
    · rcases List.mem_cons.mp q with q | q
      · rw [q]; exact nL (dx, dictOf [] 0) (.tail _ (.head _))
      · exact nL _ (.tail _ (.tail _ q))
end
end Mine
end
section
open PySem PySem.W PyProof.Rows PySem.Calls
set_option Elab.async false
set_option maxRecDepth 100000
set_option maxHeartbeats 4000000
set_option linter.unusedVariables false
namespace Mine
def dsF (d t : Int) (many : Nat) : List Int := (List.range many).map fun j => d * t ^ j
def pairOk (ds : List Int) (l r : List (Fin 4)) : Bool := match cmpF l r 0 ds, cmpF r l 0 ds with
  | some a, some b => match decide (l.dropLast = r.dropLast) with
    | true => decide (a = 0 ∧ b = 0)
    | false => decide (a = -1 ∧ b = 1)
  | _, _ => false
def pairsOk (ds : List Int) : List (List (Fin 4)) → Bool
  | l :: r :: rest => pairOk ds l r && pairsOk ds (r :: rest)
  | _ => true
def okW (us : List (Fin 4)) (d t : Int) : Bool := match waysF us d t with
  | none => false
  | some ws => match ringsF us ws with
    | none => false
    | some rings => match rowsF (dsF d t us.length) us.length rings [] with
      | none => false
      | some rows => rings.all (fun r => decide (r.length < 1000)) && decide (ws.length < 1000) && decide (rows.length < 1000) && rows.all (fun r => decide (r.length < 1000)) && decide (rows.map (fun r => r.getLast?) = us.map some) && pairsOk (dsF d t us.length) rows
def sfx : List (Fin 4) := [3, 0, 3, 1, 3]
def ok4 (us : List (Fin 4)) : Bool := okW us 1 1 && okW us (-1) 1 && okW us 1 (-1) && okW us (-1) (-1)
end Mine
end
section
open PySem
set_option Elab.async false
set_option maxRecDepth 100000
set_option maxHeartbeats 4000000
namespace Mine
theorem o0 : ok4 sfx = true := by decide +kernel
theorem o1 : ∀ a : Fin 4, ok4 (a :: sfx) = true := by decide +kernel
theorem o2x0 : ∀ b : Fin 4, ok4 (0 :: b :: sfx) = true := by decide +kernel
theorem o2x1 : ∀ b : Fin 4, ok4 (1 :: b :: sfx) = true := by decide +kernel
theorem o2x2 : ∀ b : Fin 4, ok4 (2 :: b :: sfx) = true := by decide +kernel
theorem o2x3 : ∀ b : Fin 4, ok4 (3 :: b :: sfx) = true := by decide +kernel
theorem o3x0x0 : ∀ b : Fin 4, ok4 (0 :: 0 :: b :: sfx) = true := by decide +kernel
theorem o3x0x1 : ∀ b : Fin 4, ok4 (0 :: 1 :: b :: sfx) = true := by decide +kernel
theorem o3x0x2 : ∀ b : Fin 4, ok4 (0 :: 2 :: b :: sfx) = true := by decide +kernel
theorem o3x0x3 : ∀ b : Fin 4, ok4 (0 :: 3 :: b :: sfx) = true := by decide +kernel
theorem o3x1x0 : ∀ b : Fin 4, ok4 (1 :: 0 :: b :: sfx) = true := by decide +kernel
theorem o3x1x1 : ∀ b : Fin 4, ok4 (1 :: 1 :: b :: sfx) = true := by decide +kernel
theorem o3x1x2 : ∀ b : Fin 4, ok4 (1 :: 2 :: b :: sfx) = true := by decide +kernel
theorem o3x1x3 : ∀ b : Fin 4, ok4 (1 :: 3 :: b :: sfx) = true := by decide +kernel
theorem o3x2x0 : ∀ b : Fin 4, ok4 (2 :: 0 :: b :: sfx) = true := by decide +kernel
theorem o3x2x1 : ∀ b : Fin 4, ok4 (2 :: 1 :: b :: sfx) = true := by decide +kernel
theorem o3x2x2 : ∀ b : Fin 4, ok4 (2 :: 2 :: b :: sfx) = true := by decide +kernel
theorem o3x2x3 : ∀ b : Fin 4, ok4 (2 :: 3 :: b :: sfx) = true := by decide +kernel
theorem o3x3x0 : ∀ b : Fin 4, ok4 (3 :: 0 :: b :: sfx) = true := by decide +kernel
theorem o3x3x1 : ∀ b : Fin 4, ok4 (3 :: 1 :: b :: sfx) = true := by decide +kernel
theorem o3x3x2 : ∀ b : Fin 4, ok4 (3 :: 2 :: b :: sfx) = true := by decide +kernel
theorem o3x3x3 : ∀ b : Fin 4, ok4 (3 :: 3 :: b :: sfx) = true := by decide +kernel
theorem o4x0x0x0 : ∀ b : Fin 4, ok4 (0 :: 0 :: 0 :: b :: sfx) = true := by decide +kernel
theorem o4x0x0x1 : ∀ b : Fin 4, ok4 (0 :: 0 :: 1 :: b :: sfx) = true := by decide +kernel
theorem o4x0x0x2 : ∀ b : Fin 4, ok4 (0 :: 0 :: 2 :: b :: sfx) = true := by decide +kernel
theorem o4x0x0x3 : ∀ b : Fin 4, ok4 (0 :: 0 :: 3 :: b :: sfx) = true := by decide +kernel
theorem o4x0x1x0 : ∀ b : Fin 4, ok4 (0 :: 1 :: 0 :: b :: sfx) = true := by decide +kernel
theorem o4x0x1x1 : ∀ b : Fin 4, ok4 (0 :: 1 :: 1 :: b :: sfx) = true := by decide +kernel
theorem o4x0x1x2 : ∀ b : Fin 4, ok4 (0 :: 1 :: 2 :: b :: sfx) = true := by decide +kernel
theorem o4x0x1x3 : ∀ b : Fin 4, ok4 (0 :: 1 :: 3 :: b :: sfx) = true := by decide +kernel
theorem o4x0x2x0 : ∀ b : Fin 4, ok4 (0 :: 2 :: 0 :: b :: sfx) = true := by decide +kernel
theorem o4x0x2x1 : ∀ b : Fin 4, ok4 (0 :: 2 :: 1 :: b :: sfx) = true := by decide +kernel
theorem o4x0x2x2 : ∀ b : Fin 4, ok4 (0 :: 2 :: 2 :: b :: sfx) = true := by decide +kernel
theorem o4x0x2x3 : ∀ b : Fin 4, ok4 (0 :: 2 :: 3 :: b :: sfx) = true := by decide +kernel
theorem o4x0x3x0 : ∀ b : Fin 4, ok4 (0 :: 3 :: 0 :: b :: sfx) = true := by decide +kernel
theorem o4x0x3x1 : ∀ b : Fin 4, ok4 (0 :: 3 :: 1 :: b :: sfx) = true := by decide +kernel
theorem o4x0x3x2 : ∀ b : Fin 4, ok4 (0 :: 3 :: 2 :: b :: sfx) = true := by decide +kernel
theorem o4x0x3x3 : ∀ b : Fin 4, ok4 (0 :: 3 :: 3 :: b :: sfx) = true := by decide +kernel
theorem o4x1x0x0 : ∀ b : Fin 4, ok4 (1 :: 0 :: 0 :: b :: sfx) = true := by decide +kernel
theorem o4x1x0x1 : ∀ b : Fin 4, ok4 (1 :: 0 :: 1 :: b :: sfx) = true := by decide +kernel
theorem o4x1x0x2 : ∀ b : Fin 4, ok4 (1 :: 0 :: 2 :: b :: sfx) = true := by decide +kernel
theorem o4x1x0x3 : ∀ b : Fin 4, ok4 (1 :: 0 :: 3 :: b :: sfx) = true := by decide +kernel
theorem o4x1x1x0 : ∀ b : Fin 4, ok4 (1 :: 1 :: 0 :: b :: sfx) = true := by decide +kernel
theorem o4x1x1x1 : ∀ b : Fin 4, ok4 (1 :: 1 :: 1 :: b :: sfx) = true := by decide +kernel
theorem o4x1x1x2 : ∀ b : Fin 4, ok4 (1 :: 1 :: 2 :: b :: sfx) = true := by decide +kernel
theorem o4x1x1x3 : ∀ b : Fin 4, ok4 (1 :: 1 :: 3 :: b :: sfx) = true := by decide +kernel
theorem o4x1x2x0 : ∀ b : Fin 4, ok4 (1 :: 2 :: 0 :: b :: sfx) = true := by decide +kernel
theorem o4x1x2x1 : ∀ b : Fin 4, ok4 (1 :: 2 :: 1 :: b :: sfx) = true := by decide +kernel
theorem o4x1x2x2 : ∀ b : Fin 4, ok4 (1 :: 2 :: 2 :: b :: sfx) = true := by decide +kernel
theorem o4x1x2x3 : ∀ b : Fin 4, ok4 (1 :: 2 :: 3 :: b :: sfx) = true := by decide +kernel
theorem o4x1x3x0 : ∀ b : Fin 4, ok4 (1 :: 3 :: 0 :: b :: sfx) = true := by decide +kernel
theorem o4x1x3x1 : ∀ b : Fin 4, ok4 (1 :: 3 :: 1 :: b :: sfx) = true := by decide +kernel
theorem o4x1x3x2 : ∀ b : Fin 4, ok4 (1 :: 3 :: 2 :: b :: sfx) = true := by decide +kernel
theorem o4x1x3x3 : ∀ b : Fin 4, ok4 (1 :: 3 :: 3 :: b :: sfx) = true := by decide +kernel
theorem o4x2x0x0 : ∀ b : Fin 4, ok4 (2 :: 0 :: 0 :: b :: sfx) = true := by decide +kernel
theorem o4x2x0x1 : ∀ b : Fin 4, ok4 (2 :: 0 :: 1 :: b :: sfx) = true := by decide +kernel
theorem o4x2x0x2 : ∀ b : Fin 4, ok4 (2 :: 0 :: 2 :: b :: sfx) = true := by decide +kernel
theorem o4x2x0x3 : ∀ b : Fin 4, ok4 (2 :: 0 :: 3 :: b :: sfx) = true := by decide +kernel
theorem o4x2x1x0 : ∀ b : Fin 4, ok4 (2 :: 1 :: 0 :: b :: sfx) = true := by decide +kernel
theorem o4x2x1x1 : ∀ b : Fin 4, ok4 (2 :: 1 :: 1 :: b :: sfx) = true := by decide +kernel
theorem o4x2x1x2 : ∀ b : Fin 4, ok4 (2 :: 1 :: 2 :: b :: sfx) = true := by decide +kernel
theorem o4x2x1x3 : ∀ b : Fin 4, ok4 (2 :: 1 :: 3 :: b :: sfx) = true := by decide +kernel
theorem o4x2x2x0 : ∀ b : Fin 4, ok4 (2 :: 2 :: 0 :: b :: sfx) = true := by decide +kernel
theorem o4x2x2x1 : ∀ b : Fin 4, ok4 (2 :: 2 :: 1 :: b :: sfx) = true := by decide +kernel
theorem o4x2x2x2 : ∀ b : Fin 4, ok4 (2 :: 2 :: 2 :: b :: sfx) = true := by decide +kernel
theorem o4x2x2x3 : ∀ b : Fin 4, ok4 (2 :: 2 :: 3 :: b :: sfx) = true := by decide +kernel
theorem o4x2x3x0 : ∀ b : Fin 4, ok4 (2 :: 3 :: 0 :: b :: sfx) = true := by decide +kernel
theorem o4x2x3x1 : ∀ b : Fin 4, ok4 (2 :: 3 :: 1 :: b :: sfx) = true := by decide +kernel
theorem o4x2x3x2 : ∀ b : Fin 4, ok4 (2 :: 3 :: 2 :: b :: sfx) = true := by decide +kernel
theorem o4x2x3x3 : ∀ b : Fin 4, ok4 (2 :: 3 :: 3 :: b :: sfx) = true := by decide +kernel
theorem o4x3x0x0 : ∀ b : Fin 4, ok4 (3 :: 0 :: 0 :: b :: sfx) = true := by decide +kernel
theorem o4x3x0x1 : ∀ b : Fin 4, ok4 (3 :: 0 :: 1 :: b :: sfx) = true := by decide +kernel
theorem o4x3x0x2 : ∀ b : Fin 4, ok4 (3 :: 0 :: 2 :: b :: sfx) = true := by decide +kernel
theorem o4x3x0x3 : ∀ b : Fin 4, ok4 (3 :: 0 :: 3 :: b :: sfx) = true := by decide +kernel
theorem o4x3x1x0 : ∀ b : Fin 4, ok4 (3 :: 1 :: 0 :: b :: sfx) = true := by decide +kernel
theorem o4x3x1x1 : ∀ b : Fin 4, ok4 (3 :: 1 :: 1 :: b :: sfx) = true := by decide +kernel
theorem o4x3x1x2 : ∀ b : Fin 4, ok4 (3 :: 1 :: 2 :: b :: sfx) = true := by decide +kernel
theorem o4x3x1x3 : ∀ b : Fin 4, ok4 (3 :: 1 :: 3 :: b :: sfx) = true := by decide +kernel
theorem o4x3x2x0 : ∀ b : Fin 4, ok4 (3 :: 2 :: 0 :: b :: sfx) = true := by decide +kernel
theorem o4x3x2x1 : ∀ b : Fin 4, ok4 (3 :: 2 :: 1 :: b :: sfx) = true := by decide +kernel
theorem o4x3x2x2 : ∀ b : Fin 4, ok4 (3 :: 2 :: 2 :: b :: sfx) = true := by decide +kernel
theorem o4x3x2x3 : ∀ b : Fin 4, ok4 (3 :: 2 :: 3 :: b :: sfx) = true := by decide +kernel
theorem o4x3x3x0 : ∀ b : Fin 4, ok4 (3 :: 3 :: 0 :: b :: sfx) = true := by decide +kernel
theorem o4x3x3x1 : ∀ b : Fin 4, ok4 (3 :: 3 :: 1 :: b :: sfx) = true := by decide +kernel
theorem o4x3x3x2 : ∀ b : Fin 4, ok4 (3 :: 3 :: 2 :: b :: sfx) = true := by decide +kernel
theorem o4x3x3x3 : ∀ b : Fin 4, ok4 (3 :: 3 :: 3 :: b :: sfx) = true := by decide +kernel
theorem cs4' : ∀ c : Fin 4, c = 0 ∨ c = 1 ∨ c = 2 ∨ c = 3 := by decide
theorem o2 (x b : Fin 4) : ok4 (x :: b :: sfx) = true := by
  rcases cs4' x with rfl | rfl | rfl | rfl
  · exact o2x0 b
  · exact o2x1 b
  · exact o2x2 b
  · exact o2x3 b
theorem o3 (x y b : Fin 4) : ok4 (x :: y :: b :: sfx) = true := by
  rcases cs4' x with rfl | rfl | rfl | rfl <;> rcases cs4' y with rfl | rfl | rfl | rfl
  · exact o3x0x0 b
  · exact o3x0x1 b
  · exact o3x0x2 b
  · exact o3x0x3 b
  · exact o3x1x0 b
  · exact o3x1x1 b
  · exact o3x1x2 b
  · exact o3x1x3 b
  · exact o3x2x0 b
  · exact o3x2x1 b
  · exact o3x2x2 b
  · exact o3x2x3 b
  · exact o3x3x0 b
  · exact o3x3x1 b
  · exact o3x3x2 b
  · exact o3x3x3 b
theorem o4 (x y z b : Fin 4) : ok4 (x :: y :: z :: b :: sfx) = true := by
  rcases cs4' x with rfl | rfl | rfl | rfl <;> rcases cs4' y with rfl | rfl | rfl | rfl <;> rcases cs4' z with rfl | rfl | rfl | rfl
  · exact o4x0x0x0 b
  · exact o4x0x0x1 b
  · exact o4x0x0x2 b
  · exact o4x0x0x3 b
  · exact o4x0x1x0 b
  · exact o4x0x1x1 b
  · exact o4x0x1x2 b
  · exact o4x0x1x3 b
  · exact o4x0x2x0 b
  · exact o4x0x2x1 b
  · exact o4x0x2x2 b
  · exact o4x0x2x3 b
  · exact o4x0x3x0 b
  · exact o4x0x3x1 b
  · exact o4x0x3x2 b
  · exact o4x0x3x3 b
  · exact o4x1x0x0 b
  · exact o4x1x0x1 b
  · exact o4x1x0x2 b
  · exact o4x1x0x3 b
  · exact o4x1x1x0 b
  · exact o4x1x1x1 b
  · exact o4x1x1x2 b
  · exact o4x1x1x3 b
  · exact o4x1x2x0 b
  · exact o4x1x2x1 b
  · exact o4x1x2x2 b
  · exact o4x1x2x3 b
  · exact o4x1x3x0 b
  · exact o4x1x3x1 b
  · exact o4x1x3x2 b
  · exact o4x1x3x3 b
  · exact o4x2x0x0 b
  · exact o4x2x0x1 b
  · exact o4x2x0x2 b
  · exact o4x2x0x3 b
  · exact o4x2x1x0 b
  · exact o4x2x1x1 b
  · exact o4x2x1x2 b
  · exact o4x2x1x3 b
  · exact o4x2x2x0 b
  · exact o4x2x2x1 b
  · exact o4x2x2x2 b
  · exact o4x2x2x3 b
  · exact o4x2x3x0 b
  · exact o4x2x3x1 b
  · exact o4x2x3x2 b
  · exact o4x2x3x3 b
  · exact o4x3x0x0 b
  · exact o4x3x0x1 b
  · exact o4x3x0x2 b
  · exact o4x3x0x3 b
  · exact o4x3x1x0 b
  · exact o4x3x1x1 b
  · exact o4x3x1x2 b
  · exact o4x3x1x3 b
  · exact o4x3x2x0 b
  · exact o4x3x2x1 b
  · exact o4x3x2x2 b
  · exact o4x3x2x3 b
  · exact o4x3x3x0 b
  · exact o4x3x3x1 b
  · exact o4x3x3x2 b
  · exact o4x3x3x3 b
theorem ok_pre : ∀ p : List (Fin 4), p.length ≤ 4 → ok4 (p ++ sfx) = true
  | [], _ => o0
  | [a], _ => o1 a
  | [a, b], _ => o2 a b
  | [x, a, b], _ => o3 x a b
  | [x, y, a, b], _ => o4 x y a b
  | _ :: _ :: _ :: _ :: _ :: _, h => absurd h (by simp)
end Mine
end
section
open PySem PySem.W PyProof.Rows PySem.Calls PySem.Spec PySem.SeqAt
set_option Elab.async false
set_option maxRecDepth 100000
set_option maxHeartbeats 4000000
set_option linter.unusedVariables false
namespace Mine
theorem strOkU : ∀ c : Fin 4, PyData.strOk (U c) = true := by decide +kernel
def pu (us : List (Fin 4)) : List PyData := us.map fun c => .str (U c)
theorem reads_us {h : Heap} {vs : List Value} {us : List (Fin 4)} (r : Rel2 RU vs us) : ReadsAll h vs (pu us) [] := by
  induction r with
  | nil => exact .nil
  | @cons x c xs ys a _ ih =>
    obtain ⟨t, rfl⟩ := a
    exact ReadsAll.cons (as := []) (Reads.str (h := h) (U c) t) ih
theorem readsL {h : Heap} {a : Addr} {vs : List Value} {us : List (Fin 4)} (hl : h.IsList a vs.toArray) (r : Rel2 RU vs us) : Reads h (.ref a) (.list (pu us)) [a] := by
  obtain ⟨o, ho, hc, n, hd⟩ := hl
  exact Reads.list ho hc hd (by simpa using reads_us r)
theorem lay_us : ∀ us : List (Fin 4), PyData.canLayAll0 (pu us) = true
  | [] => by simp [pu, PyData.canLayAll0]
  | c :: r => by
    have := lay_us r
    unfold pu at this ⊢
    simp [PyData.canLayAll0, PyData.canLay0, this, strOkU]
theorem depth_us : ∀ us : List (Fin 4), PyData.depthAll (pu us) ≤ 1
  | [] => by simp [pu, PyData.depthAll]
  | c :: r => by
    have := depth_us r
    unfold pu at this ⊢
    simp only [List.map_cons, PyData.depthAll, PyData.depth]
    omega
theorem shaped_us (us : List (Fin 4)) : shaped (.list (pu us)) = true := by
  have h1 := depth_us us
  have h2 : PyData.depth (.list (pu us)) ≤ 64 := by simp only [PyData.depth]; omega
  show (PyData.canLay0 (.list (pu us)) && decide (PyData.depth (.list (pu us)) ≤ 64)) = true
  rw [Bool.and_eq_true]
  exact ⟨by simp only [PyData.canLay0]; exact lay_us us, decide_eq_true h2⟩
theorem noMix_us : ∀ ns ms : List (Fin 4), noMixAll (pu ns) (pu ms) = true
  | [], [] => by simp [pu, noMixAll]
  | [], _ :: _ => by simp [pu, noMixAll]
  | _ :: _, [] => by simp [pu, noMixAll]
  | _ :: r, _ :: q => by
    have := noMix_us r q
    unfold pu at this ⊢
    simp [noMixAll, noMix, this]
theorem same_us : ∀ ns ms : List (Fin 4), PySem.Spec.sameAll (pu ns) (pu ms) = decide (ns = ms)
  | [], [] => by simp [pu, PySem.Spec.sameAll]
  | [], _ :: _ => by simp [pu, PySem.Spec.sameAll]
  | _ :: _, [] => by simp [pu, PySem.Spec.sameAll]
  | n :: r, k :: q => by
    have := same_us r q
    unfold pu at this ⊢
    simp only [List.map_cons, PySem.Spec.sameAll, PySem.Spec.same, this]
    by_cases h : n = k
    · simp [h]
    · have : U n ≠ U k := fun e => h (U_inj _ _ e)
      simp [h, this]
theorem m1_even : ∀ k : Nat, (-1 : Int) ^ (2 * k) = 1
  | 0 => rfl
  | k + 1 => by rw [show 2 * (k + 1) = 2 * k + 1 + 1 from rfl, Int.pow_succ, Int.pow_succ, m1_even k]; rfl
section
variable {prog : Program} {w : World} {A : Around} {E : Value → Shared → Prop} {s : Shared} {Q : Value → Shared → Prop}
theorem eqU {a b : Addr} {vs ws : List Value} {us ks : List (Fin 4)} (hl : s.heap.IsList a vs.toArray) (hi : Rel2 RU vs us) (hl' : s.heap.IsList b ws.toArray) (hi' : Rel2 RU ws ks) (hu : A.units + 64 < cLine)
    (h : Q (.bool (decide (us = ks))) s) : wpAny (model prog w) A (compareOp .Eq (.ref a) (.ref b)) Q E s :=
  eq_dataH_same (readsL hl hi) (readsL hl' hi') (shaped_us us) (shaped_us ks) hu (by simp only [noMix]; exact noMix_us us ks) (by simp only [PySem.Spec.same]; rw [same_us]; exact h)
theorem neU {a b : Addr} {vs ws : List Value} {us ks : List (Fin 4)} (hl : s.heap.IsList a vs.toArray) (hi : Rel2 RU vs us) (hl' : s.heap.IsList b ws.toArray) (hi' : Rel2 RU ws ks) (hu : A.units + 64 < cLine)
    (h : Q (.bool (!decide (us = ks))) s) : wpAny (model prog w) A (compareOp .NotEq (.ref a) (.ref b)) Q E s :=
  ne_dataH_same (readsL hl hi) (readsL hl' hi') (shaped_us us) (shaped_us ks) hu (by simp only [noMix]; exact noMix_us us ks) (by simp only [PySem.Spec.same]; rw [same_us]; exact h)
theorem powT {t : Int} {j : Nat} {tt u : Tok} (ht : t = 1 ∨ t = -1) (h : ∀ tk v, Q (.int (t ^ j) v) { s with toks := tk }) : wpAny (model prog w) A (binaryOp .Pow (.int t tt) (.int (j : Int) u)) Q E s := by
  refine AutoIntOpsIf.pow ?_
  rw [if_pos (by omega)]
  rcases Nat.eq_zero_or_pos j with rfl | hj
  · rw [if_pos (by decide)]
    have e : t ^ 0 = 1 := Int.pow_zero t
    rw [e] at h
    exact h _ _
  · have : ¬ (((j : Int) == 0) = true) := by simp; omega
    rw [if_neg this]
    rcases ht with rfl | rfl
    · rw [if_pos (by decide)]
      have e : (1 : Int) ^ j = 1 := Int.one_pow
      rw [e] at h
      exact h _ _
    · rw [if_neg (by decide), if_pos (by decide)]
      have e : (-1 : Int) ^ j = if ((j : Int) % 2 == 0) = true then 1 else -1 := by
        rcases Nat.mod_two_eq_zero_or_one j with q | q
        · have e1 : ((j : Int) % 2 == 0) = true := by simp; omega
          rw [if_pos e1]
          obtain ⟨k, rfl⟩ : ∃ k, j = 2 * k := ⟨j / 2, by omega⟩
          exact m1_even k
        · have e1 : ¬ (((j : Int) % 2 == 0) = true) := by simp; omega
          rw [if_neg e1]
          obtain ⟨k, rfl⟩ : ∃ k, j = 2 * k + 1 := ⟨j / 2, by omega⟩
          rw [Int.pow_succ, m1_even]; rfl
      rw [e] at h
      exact h _ _
/-- a slice of a list -/
theorem sliceL {env : Env} {value : Expr} {lower upper : Option Expr} {p pos : Pos} {g : Heap} {L l : Addr} {m : Str → Option Value} {nw : List (Addr × Obj)} {vs xs : List Value} {lo hi : Option Int}
    (F : Fr g L s.heap m) (D : Led g L s.heap nw) (hl : s.heap.IsList l vs.toArray) (hsz : vs.length ≤ 1000000)
    (hv : ∀ (P : Value → Shared → Prop), P (.ref l) s → wpAny (model prog w) A (eval value env) P E s)
    (hlo : ∀ (P : Value → Shared → Prop), (∀ tk vl, IsPart vl lo → P vl { s with toks := tk }) → wpAny (model prog w) A (evalPart lower env) P E s)
    (hhi : ∀ (P : Value → Shared → Prop) tk, (∀ tk vu, IsPart vu hi → P vu { s with toks := tk }) → wpAny (model prog w) A (evalPart upper env) P E { s with toks := tk })
    (hpick : slicePick vs.toArray lo hi none = xs.toArray)
    (h : ∀ h' tk a, Fr g L h' m → Led g L h' ((a, W.listOf xs.toArray 0) :: nw) → Q (.ref a) { s with heap := h', toks := tk })
    (ht : ∀ o r, letTemporaryGo value o r = pure () := by intro _ _; rfl) : wpAny (model prog w) A (eval (.Subscript value (.Slice lower upper none p) pos) env) Q E s := by
  refine wpAny_Subscript_list_slice (hv _ (hlo _ fun tk vl pl => hhi _ tk fun tk' vu pu => ⟨l, _, lo, hi, rfl, hl, by rw [sizeLine_eq]; simp; omega, pl, pu, ?_⟩)) ht
  rw [hpick]
  have F₁ := F.push ({ cls := .type "slice", data := .fields #[vl, vu, .none] } : Obj)
  have D₁ := led_push D ({ cls := .type "slice", data := .fields #[vl, vu, .none] } : Obj)
  have D₂ := Led.push F₁ D₁ (W.listOf xs.toArray 0)
  have e : (s.heap.push ({ cls := .type "slice", data := .fields #[vl, vu, .none] } : Obj)).objs.size = s.heap.objs.size + 1 := Heap.size_push ..
  rw [e] at D₂
  exact h _ _ _ (F₁.push _) D₂
end
end Mine
end
section
open PySem PySem.W PyProof.Rows PySem.Calls
set_option Elab.async false
set_option maxRecDepth 100000
set_option maxHeartbeats 4000000
set_option linter.unusedVariables false
namespace Mine
/-- the formatted text -/
theorem fmt_all {d t : Int} (hd : d = 1 ∨ d = -1) (ht : t = 1 ∨ t = -1) {y : Str} {u t1 t2 t3 : Tok} {b : Addr} (hy : y.length ≤ 1000000) :
    Meets (Builtin.«str.__mod__» ⟨[.str ⟨#[37, 100, 39, 37, 100, 39, 37, 115]⟩ u, .ref b], []⟩) (fun _ R s => IsTup s.heap b #[.int d t1, .int t t2, .str y t3] ∧ ∀ t' k, R (.ok (.ret (.str (dS d ++ tick ++ dS t ++ tick ++ y) t'))) { s with toks := k }) := by
  have e1 : Str.ofString "1" = dS 1 := by decide +kernel
  have e2 : Str.ofString "-1" = dS (-1) := by decide +kernel
  have e3 : Str.ofString "'" = tick := by decide +kernel
  rcases hd with rfl | rfl <;> rcases ht with rfl | rfl
  · rw [← e1, ← e3]; kpt_run
  · rw [← e1, ← e2, ← e3]; kpt_run
  · rw [← e1, ← e2, ← e3]; kpt_run
  · rw [← e2, ← e3]; kpt_run
end Mine
end
section
open PySem PySem.W PyProof.Rows PySem.Calls
set_option Elab.async false
set_option maxRecDepth 100000
set_option maxHeartbeats 4000000
set_option linter.unusedVariables false
namespace Mine
/-- the end of a turn that may have woken generators -/
def TurnG (g : Heap) (L : Addr) (own : List (Addr × Obj)) (J : (Str → Option Value) → List (Addr × Obj) → Prop) (s : Shared) (R : Result → Shared → Prop) (f : Flow) (s₃ : Shared) : Prop :=
  match f with
  | .ret v => R (.ok (.ret v)) s₃
  | .brk => R (.ok .next) s₃
  | _ => ∃ h tk gn m nw, s₃ = { s with heap := h, toks := tk, gens := gn } ∧ AllBare gn ∧ Fr g L h m ∧ Led g L h (own ++ nw) ∧ J m nw
section
variable {prog : Program} {w : World} {A : Around} {E : Value → Shared → Prop} {s : Shared} {env : Env} {g : Heap} {L : Addr} {R : Result → Shared → Prop} {target : Expr} {body : List Stmt} {I : Addr} {fp wr : List Addr} {n : Nat} {St : Nat → Heap → Prop} {m : Str → Option Value} {nw : List (Addr × Obj)}
theorem for_walkUG {elts : List Expr} {x1 : Nat} {pt : Pos} {Pt : Nat → Array Value → Prop} {Mid : Nat → Addr → Heap → Prop} (J : Nat → (Str → Option Value) → List (Addr × Obj) → Prop) {ow : List Addr} (W : WalksU prog w A I fp wr n Pt St Mid) (hsub : ∀ b ∈ wr, b ∈ ow) (nd : ow.Nodup) (alive : ∀ i h, St i h → ∀ b ∈ ow, ∃ o, h.get? b = some o)
    (hL : L ∉ ow) (hwr : ∀ b ∈ ow, g.get? b = none) (hnw : ∀ p ∈ nw, p.1 ∉ ow)
    (hfix : ∀ b ∈ fp, b ∉ ow → ∃ o, g.get? b = some o ∨ ∀ i m nw, J i m nw → (b, o) ∈ nw)
    (hst : St 0 s.heap) (hbare : AllBare s.gens) (F : Fr g L s.heap m) (D : Led g L s.heap nw) (h0 : J 0 m nw)
    (step : ∀ i T vals m₁ nw₁ h tk gn own, i < n → Pt i vals → AllBare gn → J i m₁ nw₁ → Fr g L h m₁ → Led g L h (own ++ nw₁) → h.IsTuple T vals →
      wpAny (model prog w) A (assign (.Tuple elts x1 pt) env (.ref T)) (fun _ s₂ => wpAny (model prog w) A (execs body env) (TurnG g L own (J (i + 1)) s R) (fun _ _ => False) s₂) (fun _ _ => False) { s with heap := h, toks := tk, gens := gn })
    (done : ∀ m₁ nw₁ h tk gn, AllBare gn → J n m₁ nw₁ → Fr g L h m₁ → Led g L h nw₁ → R (.ok .next) { s with heap := h, toks := tk, gens := gn }) :
    codeAny (model prog w) A (.forLoop (.Tuple elts x1 pt) (.ref I) body [] env) R s := by
  refine codeAny_forLoop_any (fun k s' => ∃ h tk gn m' nw' i, s' = { s with heap := h, toks := tk, gens := gn } ∧ AllBare gn ∧ St i h ∧ Fr g L h m' ∧ Led g L h nw' ∧ (∀ p ∈ nw', p.1 ∉ ow) ∧ J i m' nw' ∧ i ≤ n ∧ k = n + 1 - i) ?_ (n + 1)
    ⟨s.heap, s.toks, s.gens, m, nw, 0, rfl, hbare, hst, F, D, hnw, h0, Nat.zero_le _, rfl⟩
  rintro k s' ⟨H, tk, gn, m', nw', i, rfl, hb', hst', F', D', hnw', hJ, hi, rfl⟩
  have old : ∀ b o, g.get? b = some o → b ∉ wr := fun b o e hb => by rw [hwr b (hsub _ hb)] at e; cases e
  have next : ∀ h₁ : Heap, (∀ b o, b ∉ wr → H.get? b = some o → h₁.get? b = some o) → Fr g L h₁ m' ∧ Led g L h₁ nw' := fun h₁ hk₁ =>
    ⟨⟨F'.ns.at' fun o e => hk₁ _ o (fun q => hL (hsub _ q)) e, fun b o e => hk₁ b o (old b o e) (F'.keep b o e), F'.above⟩, fun p hp => ⟨hk₁ _ _ (fun q => hnw' p hp (hsub _ q)) (D'.N p hp).1, (D'.N p hp).2⟩, D'.nd⟩
  by_cases hlt : i < n
  · refine W.item i _ _ _ hlt hst' fun T vals h₀ tk₁ hP hT hMid hk₀ => ?_
    refine W.go _ x1 pt i T _ _ _ hMid fun h₁ hst₁ hk₁ => ?_
    have ht₁ : h₁.IsTuple T vals := hT.at fun o e => hk₁ T o (W.apart i T h₀ hMid) e
    obtain ⟨F₁, D₁⟩ := next h₁ fun b o hb e => hk₁ b o hb (hk₀ b o hb e)
    refine wpAny_mono (step i T vals m' nw' h₁ tk₁ gn (ownAt h₁ ow) hlt hP hb' hJ F₁ (led_own nd hL hwr D₁ hnw') ht₁) (fun _ s₂ h₂ => wpAny_mono h₂ (fun f s₃ h₃ => ?_) fun _ _ x => x.elim) fun _ _ x => x.elim
    have fin : (∃ h tk gn m nw, s₃ = { s with heap := h, toks := tk, gens := gn } ∧ AllBare gn ∧ Fr g L h m ∧ Led g L h (ownAt h₁ ow ++ nw) ∧ J (i + 1) m nw) →
        ∃ k', k' < n + 1 - i ∧ ∃ h tk gn m' nw' i, s₃ = { s with heap := h, toks := tk, gens := gn } ∧ AllBare gn ∧ St i h ∧ Fr g L h m' ∧ Led g L h nw' ∧ (∀ p ∈ nw', p.1 ∉ ow) ∧ J i m' nw' ∧ i ≤ n ∧ k' = n + 1 - i := by
      rintro ⟨h₃', tk₃, gn₃, m₃, nw₃, rfl, hb₃, F₃, D₃, hJ₃⟩
      refine ⟨n + 1 - (i + 1), by omega, h₃', tk₃, gn₃, m₃, nw₃, i + 1, rfl, hb₃, ?_, F₃, led_right D₃, led_off D₃ (alive _ _ hst₁), hJ₃, hlt, rfl⟩
      refine W.frame _ _ _ hst₁ fun b hb o e => ?_
      by_cases hbw : b ∈ ow
      · exact D₃.get (List.mem_append_left _ (mem_ownAt.mpr ⟨hbw, e⟩))
      · obtain ⟨o', q | q⟩ := hfix b hb hbw
        · have : some o' = some o := (F₁.keep b o' q).symm.trans e
          cases this; exact F₃.keep b _ q
        · have : some o' = some o := (D₁.get (q _ _ _ hJ)).symm.trans e
          cases this; exact (led_right D₃).get (q _ _ _ hJ₃)
    cases f with
    | ret v => exact h₃
    | brk => exact h₃
    | next => exact fin h₃
    | cont => exact fin h₃
  · have hin : i = n := by omega
    subst hin
    refine W.done _ _ _ hst' fun h₁ tk₁ hk₁ => wpAny_execs_nil ?_
    obtain ⟨F₁, D₁⟩ := next h₁ hk₁
    exact done m' nw' h₁ tk₁ gn hb' hJ F₁ D₁
/-- a for over a list of tuples that the ledger holds -/
theorem for_tuplesG {elts : List Expr} {x1 : Nat} {pt : Pos} {l : Addr} {items : List Value} {k : Nat} {Ts : Nat → Addr} {vals : Nat → List Value} (J : Nat → (Str → Option Value) → List (Addr × Obj) → Prop) (hh : A.handled = none) (F : Fr g L s.heap m) (D : Led g L s.heap nw) (hbare : AllBare s.gens)
    (hl : ∀ i m nw, J i m nw → (l, W.listOf items.toArray k) ∈ nw) (hit : ∀ j, j < items.length → items[j]? = some (.ref (Ts j))) (hT : ∀ j, j < items.length → ∀ i m nw, J i m nw → (Ts j, tupOf (vals j)) ∈ nw) (h0 : J 0 m nw)
    (step : ∀ i T m₁ nw₁ h tk gn own, i < items.length → AllBare gn → J i m₁ nw₁ → Fr g L h m₁ → Led g L h (own ++ nw₁) → h.IsTuple T (vals i).toArray →
      wpAny (model prog w) A (assign (.Tuple elts x1 pt) env (.ref T)) (fun _ s₂ => wpAny (model prog w) A (execs body env) (TurnG g L own (J (i + 1)) s R) (fun _ _ => False) s₂) (fun _ _ => False) { s with heap := h, toks := tk, gens := gn })
    (done : ∀ m₁ nw₁ h tk gn, AllBare gn → J items.length m₁ nw₁ → Fr g L h m₁ → Led g L h nw₁ → R (.ok .next) { s with heap := h, toks := tk, gens := gn }) :
    wpAny (model prog w) A (pyIter (.ref l)) (fun it s₂ => codeAny (model prog w) A (.forLoop (.Tuple elts x1 pt) it body [] env) R s₂) E s := by
  have hL' : s.heap.IsList l items.toArray := ⟨_, D.get (hl _ _ _ h0), rfl, _, rfl⟩
  have hT' : ∀ j, j < items.toArray.size → s.heap.IsTuple (Ts j) (vals j).toArray := fun j hj => ⟨_, D.get (hT j (by simpa using hj) _ _ _ h0), rfl, _, rfl⟩
  refine wpAny_pyIter_list hL' ?_
  have hne : ∀ b o, s.heap.get? b = some o → b ≠ s.heap.objs.size := fun b o q => Nat.ne_of_lt (Heap.lt_size q)
  refine for_walkUG J (WalksU.listOfTuples hh s.heap.objs.size l (hne _ _ (D.get (hl _ _ _ h0))) items.toArray Ts (fun j => (vals j).toArray) (fun j hj => by simpa using hit j (by simpa using hj)) fun j hj => let ⟨o, ho, _⟩ := hT' j hj; hne _ _ ho) (fun _ q => q) (by simp) ?_ (fresh_L F) ?_ (fresh_nw D) ?_
    ⟨⟨_, Heap.get?_push_size _ rfl, rfl, rfl⟩, hL'.push _, fun k hk => (hT' k hk).at fun o q => Heap.get?_push_of_some _ q⟩ hbare (F.push _) (led_push D _) h0 ?_ ?_
  · rintro i h ⟨⟨o, ho, _⟩, _⟩ b hb
    rw [List.mem_singleton.mp hb]; exact ⟨o, ho⟩
  · intro b hb
    rw [List.mem_singleton.mp hb]
    exact fresh_g F
  · intro b hb hbw
    rcases List.mem_cons.mp hb with rfl | hb
    · exact absurd (List.mem_singleton.mpr rfl) hbw
    · rcases List.mem_cons.mp hb with rfl | hb
      · exact ⟨_, .inr hl⟩
      · obtain ⟨k, hk, rfl⟩ := List.mem_map.mp hb
        exact ⟨_, .inr (hT k (by simpa using List.mem_range.mp hk))⟩
  · rintro i T _ m₁ nw₁ h tk gn own hi rfl hb hJ F₁ D₁ hTup
    exact step i T m₁ nw₁ h tk gn own (by simpa using hi) hb hJ F₁ D₁ hTup
  · intro m₁ nw₁ h tk gn hb hJ F₁ D₁
    exact done m₁ nw₁ h tk gn hb (by simpa using hJ) F₁ D₁
/-- a local takes a list comprehension over a list -/
theorem asg_list {a : Addr} {cn : Str} {cs : Scope} {ccd : Value} {cl cl' : List (Str × Addr)} {elt iter : Expr} {x y : Str} {px py : Pos} {scope : Scope} {pos spos : Pos} {Q : Flow → Shared → Prop} (RF : Value → Value → Prop)
    (hh : A.handled = none)
    (hsw : swapsWith (.ListComp elt [⟨.Name x px, iter, [], 0⟩] scope pos) (some (.Name y py)) spos.line (envX cn cs L a ccd cl) = pure true)
    (hclos : closureFor scope (envX cn cs L a ccd cl) = pure cl') (hcell : ∀ z ∈ scope.names, z.2 ≠ .cell) (hkind : scope.kind = .function)
    (hnames : ∀ z ∈ scope.names, z.2 = .local → scope.names.lookup z.1 = some .local) (hx : scope.names.lookup x = some .local)
    (h : wpAny (model prog w) A (eval iter (envX cn cs L a ccd cl)) (fun xv s₁ => ∃ (l : Addr) (vs : List Value) (nw₁ : List (Addr × Obj)), xv = .ref l ∧ Fr g L s₁.heap m ∧ Led g L s₁.heap nw₁ ∧ s₁.heap.IsList l vs.toArray ∧ vs.length < 1000 ∧
      (∀ (C : Addr) (i : Nat) v s₃ m₃, vs[i]? = some v → s₃.heap.Ns C m₃ → m₃ x = some v → Sub s₁.heap s₃.heap → wpAny (model prog w) A (eval elt (compEnvC scope cl' C (envX cn cs L a ccd cl))) (fun y s₄ => RF v y ∧ Keeps s₃ s₄) (fun _ _ => False) s₃) ∧
      (∀ D' h' tk ys n, Fr g L h' (upd m y (.ref D')) → Led g L h' ((D', W.listOf (ys : List Value).toArray n) :: nw₁) → Rel2 RF vs ys → Q .next { s₁ with heap := h', toks := tk })) E s)
    (hs : ∀ x, foldedSetIterable iter (envX cn cs L a ccd cl) x = pure x := by intro _; rfl) (hk : cs.kind = .function := by rfl) (hy : (envX cn cs L a ccd cl).kindOf y = some .local := by rfl) :
    wpAny (model prog w) A (exec (.Assign [.Name y py] (.ListComp elt [⟨.Name x px, iter, [], 0⟩] scope pos) spos) (envX cn cs L a ccd cl)) Q E s := by
  rw [exec_Assign_Name_used _ _ _ _ hsw]
  refine wpAny_bind (wpAny_standAt (wpAny_bind ?_))
  show wpAny _ A (do let _ ← comprehension (.ListComp elt [⟨.Name x px, iter, [], 0⟩] scope pos) scope (envX cn cs L a ccd cl) _ (newList []) false (eval iter (envX cn cs L a ccd cl)) (some (assign (.Name y py) (envX cn cs L a ccd cl)))) _ _ s
  refine wpAny_bind (wpAny_mono (wpAny_comprehension_free (use := some (assign (.Name y py) (envX cn cs L a ccd cl))) (Q := fun _ s' => Q .next s') rfl hs hclos hkind hnames
    (wpAny_mono h (fun xv s₁ h₁ => ?_) fun _ _ e => e)) (fun _ s' hq => wpAny_pure (wpAny_pure hq)) fun _ _ e => e)
  obtain ⟨l, vs, nw₁, rfl, F, D, hl, hsz, helt, hq⟩ := h₁
  refine wpAny_pyIter_list hl ?_
  obtain ⟨o, ho, _⟩ := id hl
  have lt : l < s₁.heap.objs.size := Heap.lt_size ho
  have keep : ∀ (h' : Heap), (∀ b o, b ∉ [s₁.heap.objs.size] → (s₁.heap.push { cls := .type "list_iterator", data := .fields #[.ref l, .int 0 0] }).get? b = some o → h'.get? b = some o) → Sub s₁.heap h' := fun h' k b o q =>
    k b o (fun z => by rw [List.mem_singleton.mp z, none_at] at q; cases q) (Heap.get?_push_of_some _ q)
  refine comp_block_walkC (E := E) (Walks.list hh s₁.heap.objs.size l (Nat.ne_of_lt lt) vs.toArray) (by rw [sizeLine_eq]; simp; omega) (fun _ => true) RF hcell hkind hx ⟨⟨_, Heap.get?_push_size _ rfl, rfl, rfl⟩, hl.push _⟩ ?_ ⟨?_, ?_⟩ ?_
  · intro b hb
    show b < (s₁.heap.push _).objs.size
    rw [Heap.size_push]
    rcases List.mem_cons.mp hb with rfl | hb
    · exact Nat.lt_succ_self _
    · rw [List.mem_singleton.mp hb]; exact Nat.lt_succ_of_lt lt
  · intro C i v s₃ m₃ E' _ hP hn hm hk _
    exact wpAny_tests_nil ⟨rfl, ⟨_, _, rfl, fun _ _ q => q⟩⟩
  · intro C i v s₃ m₃ E' _ hP _ hn hm hk _
    exact wpAny_mono (helt C i v s₃ m₃ (by simpa using hP) hn hm (keep _ hk)) (fun _ _ q => q) fun _ _ q => q.elim
  · intro D' C' h' tk m' ys vs' hD hC hDC hn _ hp hlen hP hF hk
    obtain ⟨n, hp⟩ := hp
    have e : vs' = vs := by
      apply List.ext_getElem?
      intro j
      cases q : vs'[j]? with
      | none =>
        have : vs'.length ≤ j := by simpa using q
        rw [hlen] at this
        simp at this
        simp [this]
      | some v => have := hP j v q; simpa using this.symm
    subst e
    rw [filter_all] at hF
    exact asg_post (s := s₁) F D hDC (none_push hD) (none_push hC) (keep _ hk) hn hp (fun h₃ tk₃ F₃ D₃ => hq D' h₃ tk₃ ys.toList n F₃ D₃ (rel_of_paired hF)) (by assumption) hy
end
end Mine
end
section
open PySem PySem.W PyProof.Rows PySem.Calls
set_option Elab.async false
set_option maxRecDepth 100000
set_option maxHeartbeats 8000000
set_option linter.unusedVariables false
namespace Mine
theorem fill11 : (PySem.Challenge.rw_pe0061_01.prog, fun (P : Params) => hd.heap_39 P) = (PySem.Challenge.rw_pe0061_01.prog, fun (P : Params) => hd.heap_39 P) := by
  k_fill
  rfl
theorem rel_of_ints {vs : List Value} {ns : List Int} (h : IntsAre vs ns) : Rel2 RI vs ns := by
  induction h with
  | nil => exact .nil
  | cons n t _ ih => exact .cons ⟨t, rfl⟩ ih
theorem strs_of {vs : List Value} {us : List (Fin 4)} (r : Rel2 RU vs us) : StrsAre vs (us.map U) := by
  induction r with
  | nil => exact .nil
  | @cons x c xs ys a _ ih =>
    obtain ⟨t, rfl⟩ := a
    exact .cons _ _ ih
def cdN : Nat → Fin 4
  | 0 => 0
  | 1 => 3
  | 2 => 1
  | _ => 2
def cdF (n : Int) : Fin 4 := cdN (n.fmod 4).toNat
def wordF (ns : List Int) : List (Fin 4) := (ns.take 4 ++ [1, 0, 1, 2, 1]).map cdF
def RW (v y : Value) : Prop := ∃ n t, v = .int n t ∧ RU y (cdF n)
theorem into {prog : Program} {w : World} {A : Around} {E : Value → Shared → Prop} {s : Shared} {Q : Flow → Shared → Prop} {body : List Stmt} {n : Str} {sc : Scope} {L a : Addr} {cd : Value}
    (h : wpAny (model prog w) A (execs body (envX n sc L a cd (cellsFrom (L + 1) sc.names []))) Q E s) : wpAny (model prog w) A (execs body (envOfC n sc L a cd)) Q E s := h
theorem item4 {vs : List Value} {n : Int} {v0 v1 v2 v3 : Value} (h : vs = [v0, v1, v2, v3]) : ∃ v, vs[(n.fmod 4).toNat]? = some v ∧ (((n.fmod 4).toNat = 0 ∧ v = v0) ∨ ((n.fmod 4).toNat = 1 ∧ v = v1) ∨ ((n.fmod 4).toNat = 2 ∧ v = v2) ∨ ((n.fmod 4).toNat = 3 ∧ v = v3)) := by
  subst h
  have h0 : 0 ≤ n.fmod 4 := Int.fmod_nonneg_of_pos n (by decide)
  have h1 : n.fmod 4 < 4 := Int.fmod_lt_of_pos n (by decide)
  have : (n.fmod 4).toNat = 0 ∨ (n.fmod 4).toNat = 1 ∨ (n.fmod 4).toNat = 2 ∨ (n.fmod 4).toNat = 3 := by omega
  rcases this with e | e | e | e <;> rw [e]
  · exact ⟨_, rfl, .inl ⟨rfl, rfl⟩⟩
  · exact ⟨_, rfl, .inr (.inl ⟨rfl, rfl⟩)⟩
  · exact ⟨_, rfl, .inr (.inr (.inl ⟨rfl, rfl⟩))⟩
  · exact ⟨_, rfl, .inr (.inr (.inr ⟨rfl, rfl⟩))⟩
theorem word_rel {vs wv : List Value} {ns : List Int} (r : Rel2 RI vs ns) (rW : Rel2 RW vs wv) : Rel2 RU wv (ns.map cdF) := by
  refine Rel2.of_get (by rw [← rW.length, r.length]; simp) fun i y hy => ?_
  obtain ⟨v, hv, n, t, e, hu⟩ := rW.get hy
  obtain ⟨n', hn', t', e'⟩ := r.get' hv
  rw [e] at e'
  cases e'
  exact ⟨cdF n, by simp [hn'], hu⟩
theorem word_len (ns : List Int) : 5 ≤ (wordF ns).length ∧ (wordF ns).length ≤ 9 := by
  unfold wordF
  rw [List.length_map, List.length_append, List.length_take]
  show 5 ≤ _ + 5 ∧ _ + 5 ≤ 9
  omega
/-- the four orders -/
def dirT (i : Nat) : Int × Int := match i with
  | 0 => (1, 1)
  | 1 => (-1, 1)
  | 2 => (1, -1)
  | _ => (-1, -1)
theorem dirT_ok (i : Nat) : ((dirT i).1 = 1 ∨ (dirT i).1 = -1) ∧ ((dirT i).2 = 1 ∨ (dirT i).2 = -1) := by
  unfold dirT
  split <;> decide
theorem pack4 {g h : Heap} {L Lt T0 T1 T2 T3 Wd : Addr} {cT cD : Addr × Obj} {wo : Obj} {a0 b0 a1 b1 a2 b2 a3 b3 : Tok}
    (D : Led g L h [(Lt, W.listOf [Value.ref T0, .ref T1, .ref T2, .ref T3].toArray 0), (T3, tupOf [.int (-1) a3, .int (-1) b3]), (T2, tupOf [.int 1 a2, .int (-1) b2]), (T1, tupOf [.int (-1) a1, .int 1 b1]), (T0, tupOf [.int 1 a0, .int 1 b0]), cT, cD, (Wd, wo)]) :
    ∃ (fx : List (Addr × Obj)) (Ts : Nat → Addr) (vv : Nat → List Value), Led g L h (cT :: cD :: fx) ∧ (Lt, W.listOf [Value.ref T0, .ref T1, .ref T2, .ref T3].toArray 0) ∈ fx ∧ (∀ j, j < 4 → (Ts j, tupOf (vv j)) ∈ fx) ∧
        (∀ j, j < 4 → [Value.ref T0, .ref T1, .ref T2, .ref T3][j]? = some (.ref (Ts j))) ∧ (∀ j, j < 4 → ∃ t u, vv j = [.int (dirT j).1 t, .int (dirT j).2 u]) ∧ (Wd, wo) ∈ fx := by
  refine ⟨[(Lt, W.listOf [Value.ref T0, .ref T1, .ref T2, .ref T3].toArray 0), (T3, tupOf [.int (-1) a3, .int (-1) b3]), (T2, tupOf [.int 1 a2, .int (-1) b2]), (T1, tupOf [.int (-1) a1, .int 1 b1]), (T0, tupOf [.int 1 a0, .int 1 b0]), (Wd, wo)],
    fun j => match j with | 0 => T0 | 1 => T1 | 2 => T2 | _ => T3, fun j => match j with | 0 => [Value.int 1 a0, Value.int 1 b0] | 1 => [Value.int (-1) a1, Value.int 1 b1] | 2 => [Value.int 1 a2, Value.int (-1) b2] | _ => [Value.int (-1) a3, Value.int (-1) b3],
    D.perm ((List.perm_append_comm (l₁ := [(Lt, W.listOf [Value.ref T0, .ref T1, .ref T2, .ref T3].toArray 0), (T3, tupOf [.int (-1) a3, .int (-1) b3]), (T2, tupOf [.int 1 a2, .int (-1) b2]), (T1, tupOf [.int (-1) a1, .int 1 b1]), (T0, tupOf [.int 1 a0, .int 1 b0])]) (l₂ := [cT, cD])).append_right [(Wd, wo)]), .head _, ?_, ?_, ?_, .tail _ (.tail _ (.tail _ (.tail _ (.tail _ (.head _)))))⟩
  · intro j hj
    match j, hj with
    | 0, _ => exact .tail _ (.tail _ (.tail _ (.tail _ (.head _))))
    | 1, _ => exact .tail _ (.tail _ (.tail _ (.head _)))
    | 2, _ => exact .tail _ (.tail _ (.head _))
    | 3, _ => exact .tail _ (.head _)
  · intro j hj
    match j, hj with
    | 0, _ => rfl
    | 1, _ => rfl
    | 2, _ => rfl
    | 3, _ => rfl
  · intro j hj
    match j, hj with
    | 0, _ => exact ⟨_, _, rfl⟩
    | 1, _ => exact ⟨_, _, rfl⟩
    | 2, _ => exact ⟨_, _, rfl⟩
    | 3, _ => exact ⟨_, _, rfl⟩
theorem fmt_eq : Str.ofString "%d'%d'%s" = ⟨#[37, 100, 39, 37, 100, 39, 37, 115]⟩ := by decide +kernel
theorem emp_eq : Str.ofString "" = ⟨#[]⟩ := by decide +kernel
theorem txt_eq (us : List (Fin 4)) : Txt.join (Str.ofString "") (us.map U) = txt us := by rw [emp_eq]; rfl
theorem sum_len : ∀ us : List (Fin 4), ((us.map U).map (·.length)).sum ≤ 2 * us.length
  | [] => Nat.le_refl _
  | c :: r => by
    have ih := sum_len r
    have hc := ul2 c
    rw [Array.length_toList] at hc
    have hc' : (U c).length ≤ 2 := hc
    rw [List.map_cons, List.map_cons, List.sum_cons, List.length_cons]
    omega
theorem join_ok {us : List (Fin 4)} (h : us.length ≤ 9) : ((us.map U).map (·.length)).sum + (us.map U).length * (Str.ofString "").length ≤ 16777216 := by
  have := sum_len us
  rw [emp_eq]
  show _ + _ * 0 ≤ _
  omega
theorem dS_len (d : Int) : (dS d).length ≤ 2 := by
  unfold dS
  split <;> decide
theorem full_len {d t : Int} {us : List (Fin 4)} (h : us.length ≤ 9) : (dS d ++ tick ++ dS t ++ tick ++ txt us).length + 2 ≤ sizeLine := by
  rw [Str.length_append, Str.length_append, Str.length_append, Str.length_append, sizeLine_eq]
  have h1 := dS_len d
  have h2 := dS_len t
  have h3 := txt_len us
  have h4 : tick.length = 1 := rfl
  omega
theorem rel_RS {vs : List Value} : ∀ {us : List (Fin 4)}, Rel2 RS vs (us.map U) → Rel2 RU vs us
  | [], r => by cases r; exact .nil
  | c :: us, r => by
    cases r with
    | cons a r => exact .cons a (rel_RS r)
theorem okW_out {us : List (Fin 4)} {d t : Int} (h : okW us d t = true) : ∃ ws rings rows, waysF us d t = some ws ∧ ringsF us ws = some rings ∧ rowsF (dsF d t us.length) us.length rings [] = some rows ∧
    (∀ r ∈ rings, r.length < 1000) ∧ ws.length < 1000 ∧ rows.length < 1000 ∧ (∀ r ∈ rows, r.length < 1000) ∧ rows.map (fun r => r.getLast?) = us.map some ∧ pairsOk (dsF d t us.length) rows = true := by
  unfold okW at h
  cases h1 : waysF us d t with
  | none => rw [h1] at h; cases h
  | some ws =>
    rw [h1] at h
    dsimp only at h
    cases h2 : ringsF us ws with
    | none => rw [h2] at h; cases h
    | some rings =>
      rw [h2] at h
      dsimp only at h
      cases h3 : rowsF (dsF d t us.length) us.length rings [] with
      | none => rw [h3] at h; cases h
      | some rows =>
        rw [h3] at h
        dsimp only at h
        simp only [Bool.and_eq_true, decide_eq_true_eq, List.all_eq_true] at h
        obtain ⟨⟨⟨⟨⟨a, b⟩, c⟩, e⟩, f⟩, g⟩ := h
        exact ⟨ws, rings, rows, rfl, h2, h3, a, b, c, e, f, g⟩
theorem ok4_at {us : List (Fin 4)} (h : ok4 us = true) {d t : Int} (hd : d = 1 ∨ d = -1) (ht : t = 1 ∨ t = -1) : okW us d t = true := by
  unfold ok4 at h
  simp only [Bool.and_eq_true] at h
  obtain ⟨⟨⟨a, b⟩, c⟩, e⟩ := h
  rcases hd with rfl | rfl <;> rcases ht with rfl | rfl
  · exact a
  · exact c
  · exact b
  · exact e
theorem order_of {g h : Heap} {L ox dx Cl : Addr} {es : List DictEntry} {nn kk n : Nat} {ts lh pre : List (Addr × Obj)} {d t : Int} (D : Led g L h (pre ++ (ox, instObj 38 dx) :: (dx, dictOf es nn) :: (((Cl, W.listOf (ts.map fun p => Value.ref p.1).toArray kk) :: ts) ++ lh)))
    (g1 : getL "comp_select_list" es = some (some (.ref Cl))) (g2 : getL "compare" es = some none) (hts : ts.length = n) (hTT : ∀ (j : Nat) p, ts[j]? = some p → ∃ a b, p.2 = tupOf [.int j a, .int (d * t ^ j) b]) : Order h ox (dsF d t n) := by
  have D' := led_right D
  refine ⟨dx, es, nn, Cl, (ts.map fun p => Value.ref p.1).toArray, fun j => (ts.getD j (0, instObj 0 0)).1, D'.get (.head _), D'.get (.tail _ (.head _)), g1, g2, isL' D' (.tail _ (.tail _ (.head _))), by simp [dsF, hts], fun j dd hj => ?_⟩
  unfold dsF at hj
  rw [List.getElem?_map] at hj
  cases hr : (List.range n)[j]? with
  | none => rw [hr] at hj; cases hj
  | some j' =>
    rw [hr] at hj
    have hjn : j < n ∧ j' = j := by
      obtain ⟨a, b⟩ := List.getElem?_eq_some_iff.mp hr
      simp at a b
      exact ⟨a, b.symm⟩
    cases hj
    obtain ⟨hjn, rfl⟩ := hjn
    have hjt : j' < ts.length := by omega
    have hp : ts[j']? = some ts[j'] := List.getElem?_eq_getElem hjt
    have hd : ts.getD j' (0, instObj 0 0) = ts[j'] := by rw [List.getD_eq_getElem?_getD, hp]; rfl
    obtain ⟨a, b, e⟩ := hTT j' _ hp
    refine ⟨by simp [hd, hp], a, b, ?_⟩
    show h.IsTuple (ts.getD j' (0, instObj 0 0)).1 _
    rw [hd]
    have hm : ts[j'] ∈ ts := List.getElem_mem hjt
    have hg := D'.get (a := ts[j'].1) (o := ts[j'].2) (.tail _ (.tail _ (.tail _ (List.mem_append_left _ hm))))
    rw [e] at hg
    exact ⟨_, hg, rfl, _, rfl⟩
theorem pairs_at {ds : List Int} : ∀ {rows : List (List (Fin 4))} {i : Nat} {l r : List (Fin 4)}, pairsOk ds rows = true → rows[i]? = some l → rows[i + 1]? = some r → pairOk ds l r = true
  | a :: b :: rest, 0, l, r, h, hl, hr => by
    cases hl
    have : some b = some r := hr
    cases this
    unfold pairsOk at h
    exact (Bool.and_eq_true_iff.mp h).1
  | a :: b :: rest, i + 1, l, r, h, hl, hr => by
    unfold pairsOk at h
    exact pairs_at (rows := b :: rest) (i := i) (Bool.and_eq_true_iff.mp h).2 (by simpa using hl) (by simpa using hr)
  | [a], i, l, r, h, hl, hr => by simp at hr
  | [], i, l, r, h, hl, hr => by simp at hr
theorem pair_out {ds : List Int} {l r : List (Fin 4)} (h : pairOk ds l r = true) : ∃ a b, cmpF l r 0 ds = some a ∧ cmpF r l 0 ds = some b ∧ ((l.dropLast = r.dropLast ∧ a = 0 ∧ b = 0) ∨ (l.dropLast ≠ r.dropLast ∧ a = -1 ∧ b = 1)) := by
  unfold pairOk at h
  cases h1 : cmpF l r 0 ds with
  | none => rw [h1] at h; cases h
  | some a =>
    cases h2 : cmpF r l 0 ds with
    | none => rw [h1, h2] at h; cases h
    | some b =>
      rw [h1, h2] at h
      dsimp only at h
      by_cases e : l.dropLast = r.dropLast
      · rw [decide_eq_true e] at h
        have := of_decide_eq_true h
        exact ⟨a, b, rfl, rfl, .inl ⟨e, this⟩⟩
      · rw [decide_eq_false e] at h
        have := of_decide_eq_true h
        exact ⟨a, b, rfl, rfl, .inr ⟨e, this⟩⟩
/-- a row's last unit -/
def RL (fr : List (Addr × Obj)) (v y : Value) : Prop := ∃ a vs n c, v = .ref a ∧ (a, W.listOf (vs : List Value).toArray n) ∈ fr ∧ vs[vs.length - 1]? = some y ∧ RU y c
theorem last_of {h : Heap} {fr : List (Addr × Obj)} (k : ∀ p ∈ fr, h.get? p.1 = some p.2) {rwv ys : List Value} {rows : List (List (Fin 4))} {us : List (Fin 4)} (rR : Rel2 (RR fr) rwv rows) (rL : Rel2 (RL fr) rwv ys) (hl : rows.map (fun r => r.getLast?) = us.map some) : Rel2 RU ys us := by
  have hlen : rows.length = us.length := by simpa using congrArg List.length hl
  refine Rel2.of_get (by rw [← rL.length, rR.length, hlen]) fun i y hy => ?_
  obtain ⟨v, hv, a, vs, n, c, rfl, hm, hlast, hu⟩ := rL.get hy
  obtain ⟨row, hrow, a', vs', n', e, hm', hr⟩ := rR.get' hv
  cases e
  have e1 : some (W.listOf vs.toArray n) = some (W.listOf vs'.toArray n') := (k (a, W.listOf vs.toArray n) hm).symm.trans (k (a, W.listOf vs'.toArray n') hm')
  have e2 : vs = vs' := by
    injection e1 with e1
    injection e1 with _ _ e3 _
    injection e3 with e4 _
    simpa using congrArg Array.toList e4
  subst e2
  have hi : (rows.map (fun r => r.getLast?))[i]? = (us.map some)[i]? := by rw [hl]
  rw [List.getElem?_map, hrow, List.getElem?_map] at hi
  cases hui : us[i]? with
  | none => rw [hui] at hi; cases hi
  | some c' =>
    rw [hui] at hi
    have hg : row.getLast? = some c' := by
      have : some row.getLast? = some (some c') := hi
      cases this' : row.getLast? with
      | none => rw [this'] at this; cases this
      | some z => rw [this'] at this; cases this; rfl
    rw [List.getLast?_eq_getElem?] at hg
    obtain ⟨x, hx, hxu⟩ := hr.get hg
    rw [hr.length] at hlast
    rw [hx] at hlast
    cases hlast
    exact ⟨c', rfl, hxu⟩
theorem drop_rel {vs : List Value} {l : List (Fin 4)} (r : Rel2 RU vs l) : Rel2 RU (vs.take (vs.length - 1)) l.dropLast := by
  rw [List.dropLast_eq_take, r.length]
  exact r.take _
theorem told_of {l r : List (Fin 4)} {a b : Int} (h : (l.dropLast = r.dropLast ∧ a = 0 ∧ b = 0) ∨ (l.dropLast ≠ r.dropLast ∧ a = -1 ∧ b = 1)) :
    a.natAbs.log2 < 1920 ∧ b.natAbs.log2 < 1920 ∧ (Str.ofString (toString a)).length + (Str.ofString (toString b)).length ≤ sizeLine ∧
    (Str.ofString (toString a) ++ Str.ofString (toString b) : Str) = if l.dropLast = r.dropLast then Str.ofString "00" else Str.ofString "-11" := by
  rw [sizeLine_eq]
  rcases h with ⟨e, rfl, rfl⟩ | ⟨e, rfl, rfl⟩
  · rw [if_pos e]; refine ⟨by decide +kernel, by decide +kernel, by decide +kernel, by decide +kernel⟩
  · rw [if_neg e]; refine ⟨by decide +kernel, by decide +kernel, by decide +kernel, by decide +kernel⟩
theorem butLast (vs : List Value) : slicePick vs.toArray none (some (-1)) none = (vs.take (vs.length - 1)).toArray := by
  have := slicePick_butLast vs.toArray 1 (by decide)
  simpa using this
theorem ok_word (ns : List Int) : ok4 (wordF ns) = true := by
  have e : wordF ns = (ns.take 4).map cdF ++ sfx := by
    unfold wordF
    rw [List.map_append]
    rfl
  rw [e]
  exact ok_pre _ (by rw [List.length_map, List.length_take]; omega)
theorem depA (e : Env) : (callerA.deeper e).depth + 5 < recursionLimit := by
  simp only [depth_deeper, depth_caller]
  decide
theorem unA (e : Env) : (callerA.deeper e).units + 64 < cLine := by
  have h : (callerA.deeper e).units = (callerA.deeper default).units := rfl
  rw [h]
  decide +kernel
theorem law : PySem.Challenge.rw_pe0061_01.Holds := hd (by
  w_on
  k_fill
  intro w s₀ s₁ mg mb G Y fa o pm cd doc dV kV ho hd hcd hD hmg hg args vals as hpre hlay hrd hwl hlo
  have KX := kIn_of Y
  refine Ground.open G ?_
  intro T B D TE TW
  try (refine guard_noD D (by decide +kernel) ?_; clear D)
  have TA := at_of_top T
  clear hmg
  wrow_args hpre hlay hrd hwl hlo
  all_goals (
    first | refine callC_kw (enter_call ?_) | refine enter_call ?_ | refine callC_kw (enter_callW ?_) | refine enter_callW ?_ | w_how
    w_top on
    have K0 := below_caller (Top.heap T)
    w_call any ho hd hcd hD T F
    clear hd TA
    k_drop
    skip)
  clear hcd hD
  rename_i ns hs hlay0 hL1 hr1 hl2 w6 w5 l vs w2 hL ra w1' r0 hI hr hc1 hc2 h₁ tk₁ oT oD dT' dD' N0 X0
  have X : Tp w s₁.heap := ⟨KX, _, _, _, _, topRead_of T⟩
  refine wpAny_mono (E := fun _ _ => False) (Q := fun fl s' => fl = .ret (.bool true) ∧ s'.os = s₁.os ∧ Sub s₁.heap s'.heap ∧ AllBare s'.gens) ?_ (fun f s' h => ?_) (fun _ _ x => x.elim)
  rotate_left
  · obtain ⟨rfl, hos, hsub, hbare⟩ := h
    exact ⟨.inl ⟨_, _, [], rfl, fun _ => rfl, ReadsW.bool true, (by first | rfl | wrow_post), fun _ => ⟨List.nodup_nil, fun _ hm => (nomatch hm)⟩⟩, .of_keep hsub, hos, hbare⟩
  have dT : oT.data = .cell none := dT'
  have dD : oD.data = .cell none := dD'
  obtain ⟨m0, F0, hm0⟩ : ∃ m0, Fr s₁.heap s₁.heap.objs.size h₁ m0 ∧ m0 "script" = some (.ref l) := ⟨_, F, rfl⟩
  clear F dT' dD' X0 hs hlay0 hL1 hr1 hl2 w1' r0 hr ra G Y TE TW B
  refine into ?_
  generalize hA : callerA.deeper _ = A
  have hh : A.handled = none := by rw [← hA]; rfl
  have hdep : A.depth + 5 < recursionLimit := by rw [← hA]; exact depA _
  have hun : A.units + 64 < cLine := by rw [← hA]; exact unA _
  clear hA
  have hns : ns.length ≤ 63 := by omega
  have D0 : Led s₁.heap s₁.heap.objs.size h₁ _ := ⟨N0, nd2 _⟩
  generalize hLe : s₁.heap.objs.size = L at *
  have rI := rel_of_ints hI
  have hbare0 : AllBare s₁.gens := .of_eq hg
  dsimp only
  refine wpAny_execs_cons <| asg_list (g := s₁.heap) (m := m0) RW hh rfl rfl (by decide) rfl (by decide) rfl ?_
  refine wpAny_BinOp <| sliceL (xs := vs.take 4) (lo := none) (hi := some 4) F0 D0 (hL.at fun o q => F0.keep _ _ q) (by have := rI.length; omega) (fun P hP => nameX_L F0 hm0 hP) (fun P hP => evalPart_none_step (hP _ _ .none)) (fun P tk hP => evalPart_some_step (wpAny_Constant_int (hP _ _ (.int _ _)))) (slicePick_upto' vs.toArray 4) fun h₂ tk₂ a₂ F₂ D₂ => ?_
  dsimp only
  refine List_ <| spliced_more <| wpAny_Constant_int <| spliced_more <| wpAny_Constant_int <| spliced_more <| wpAny_Constant_int <| spliced_more <| wpAny_Constant_int <| spliced_more <| wpAny_Constant_int <| spliced_none <| nl F₂ D₂ (by rw [sizeLine_eq]; simp) fun h₃ b₃ F₃ D₃ => ?_
  refine addL F₃ D₃ (isL' D₃ (.tail _ (.head _))) (isL' D₃ (.head _)) (by rw [sizeLine_eq]; simp; omega) fun h₄ c₄ F₄ D₄ => ?_
  have r4 := (rI.take 4).append (xs' := [Value.int 1 tk₂, .int 0 (tk₂ + 1), .int 1 (tk₂ + 1 + 1), .int 2 (tk₂ + 1 + 1 + 1), .int 1 (tk₂ + 1 + 1 + 1 + 1)]) (ys' := [1, 0, 1, 2, 1]) (.cons ⟨_, rfl⟩ (.cons ⟨_, rfl⟩ (.cons ⟨_, rfl⟩ (.cons ⟨_, rfl⟩ (.cons ⟨_, rfl⟩ .nil)))))
  have hl4 := r4.length
  rw [List.length_append, List.length_append, List.length_take, List.length_take] at hl4
  refine ⟨c₄, _, _, rfl, F₄, D₄, isL' D₄ (.head _), ?_, ?_, ?_⟩
  · rw [List.length_append, List.length_take]
    show _ + 5 < 1000
    omega
  · intro C i v s₃ m₃ hv hn hm hk
    obtain ⟨n, hn', tn, rfl⟩ := r4.get' hv
    refine Subscript_ <| List_ <| spliced_more <| wpAny_Constant_str <| spliced_more <| wpAny_Constant_str <| spliced_more <| wpAny_Constant_str <| spliced_more <| wpAny_Constant_str <| spliced_none <| wpAny_newList ?_ (by rw [sizeLine_eq]; simp)
    dsimp only
    refine wpAny_BinOp <| wpAny_Name (wpAny_loadName_local rfl rfl (hn.keeps fun b o e => Heap.get?_push_of_some _ e) hm <| wpAny_Constant_int <| mod_int' (by decide) ?_)
    obtain ⟨v, hv1, hv2⟩ := item4 (n := n) (rfl : [Value.str (Str.ofString "'") s₃.toks, .str (Str.ofString "a") (s₃.toks + 1), .str (Str.ofString "\\'") (s₃.toks + 1 + 1), .str (Str.ofString "\\\\") (s₃.toks + 1 + 1 + 1)] = _)
    refine item_list ⟨_, Heap.get?_push_size _ rfl, rfl, _, rfl⟩ (Int.fmod_nonneg_of_pos n (by decide)) (Int.lt_trans (Int.fmod_lt_of_pos n (by decide)) (by decide)) hv1 ⟨⟨n, tn, rfl, ?_⟩, ⟨_, _, rfl, fun b o e => Heap.get?_push_of_some _ e⟩⟩
    unfold cdF
    rcases hv2 with ⟨e, rfl⟩ | ⟨e, rfl⟩ | ⟨e, rfl⟩ | ⟨e, rfl⟩ <;> rw [e]
    · exact ⟨_, rfl⟩
    · exact ⟨_, rfl⟩
    · exact ⟨_, rfl⟩
    · exact ⟨_, rfl⟩
  · intro Wd h₅ tk₅ wv wn F₅ D₅ rW
    dsimp only
    have rU : Rel2 RU wv (wordF ns) := word_rel r4 rW
    have hwl := word_len ns
    have hok4 := ok_word ns
    generalize wordF ns = us at rU hwl hok4
    clear r4 rW hl4
    have hwv : wv.length = us.length := rU.length
    refine wpAny_execs_cons <| wpAny_Assign_Name <| Call_ <| nB X F₅ (by k_is) (by boot_fast) (by decide) <| PyProof.Rows.callWith_builtin1 <| spliced_more <| nameX_L F₅ rfl <| spliced_none <| call_len_list (isL' D₅ (.head _)) (by simp; omega) <| st F₅ D₅ fun h₆ F₆ D₆ => ?_
    dsimp only
    obtain ⟨m6, F6, hm1, tm, hm2⟩ : ∃ m6, Fr s₁.heap L h₆ m6 ∧ m6 "word" = some (.ref Wd) ∧ ∃ tm, m6 "many" = some (.int (us.length : Int) tm) :=
      ⟨_, F₆, upd_ne rfl (by decide), _, by rw [← hwv]; rfl⟩
    have D6 : Led s₁.heap L h₆ [(L + 1 + 1, oT), (L + 1, oD), (Wd, W.listOf wv.toArray wn)] :=
      (D₆.sub (.cons_cons _ (.cons _ (.cons _ (.cons _ (List.Sublist.refl [(L + 1 + 1, oT), (L + 1, oD)])))))).perm (List.perm_append_comm (l₁ := [(Wd, W.listOf wv.toArray wn)]))
    clear D₆ F₆ D₅ F₅ D₄ F₄ D₃ F₃ D₂ F₂ D0 F0 N0
    refine wpAny_execs_cons <| wpAny_For <| List_ <| spliced_more <| Tuple_ <| spliced_more <| wpAny_Constant_int <| spliced_more <| wpAny_Constant_int <| spliced_none <| nt F6 D6 (by rw [sizeLine_eq]; simp) fun h₇ T0 F₇ D₇ => ?_
    dsimp only
    refine spliced_more <| Tuple_ <| spliced_more <| wpAny_UnaryOp <| wpAny_Constant_int <| neg_int <| spliced_more <| wpAny_Constant_int <| spliced_none <| nt F₇ D₇ (by rw [sizeLine_eq]; simp) fun h₈ T1 F₈ D₈ => ?_
    dsimp only
    refine spliced_more <| Tuple_ <| spliced_more <| wpAny_Constant_int <| spliced_more <| wpAny_UnaryOp <| wpAny_Constant_int <| neg_int <| spliced_none <| nt F₈ D₈ (by rw [sizeLine_eq]; simp) fun h₉ T2 F₉ D₉ => ?_
    dsimp only
    refine spliced_more <| Tuple_ <| spliced_more <| wpAny_UnaryOp <| wpAny_Constant_int <| neg_int <| spliced_more <| wpAny_UnaryOp <| wpAny_Constant_int <| neg_int <| spliced_none <| nt F₉ D₉ (by rw [sizeLine_eq]; simp) fun h₁₀ T3 F₁₀ D₁₀ => ?_
    dsimp only
    refine spliced_none <| nl F₁₀ D₁₀ (by rw [sizeLine_eq]; simp) fun h₁₁ Lt F₁₁ D₁₁ => ?_
    dsimp only
    obtain ⟨fx, Ts, vv, D11, hfl, hft, hfi, hfv, hfw⟩ := pack4 D₁₁
    clear D₁₁ D₁₀ D₉ D₈ D₇ D6
    refine for_tuplesG (items := [Value.ref T0, .ref T1, .ref T2, .ref T3]) (k := 0) (Ts := Ts) (vals := vv) (fun i m nw => ∃ oT oD tl, nw = (L + 1 + 1, oT) :: (L + 1, oD) :: tl ∧ (∃ v, oT.data = .cell v) ∧ (∃ v, oD.data = .cell v) ∧ (∀ p ∈ fx, p ∈ tl) ∧ m "word" = some (.ref Wd) ∧ m "many" = some (.int (us.length : Int) tm))
      hh F₁₁ D11 hbare0 ?_ hfi ?_ ⟨oT, oD, fx, rfl, ⟨_, dT⟩, ⟨_, dD⟩, fun p hp => hp, hm1, hm2⟩ ?_ ?_
    · rintro i m nw ⟨oT, oD, tl, rfl, _, _, hx, _⟩
      exact .tail _ (.tail _ (hx _ hfl))
    · rintro j hj i m nw ⟨oT, oD, tl, rfl, _, _, hx, _⟩
      exact .tail _ (.tail _ (hx _ (hft j hj)))
    · rintro i Tp m₁ nw₁ h₁₂ tk₁₂ gn₁₂ own hi hb ⟨oT₁, oD₁, tl, rfl, ⟨vT, dT₁⟩, ⟨vD, dD₁⟩, hx, hn1, hn2⟩ F₁₂ D₁₂ hTup
      obtain ⟨td, tt, hvv⟩ := hfv i hi
      rw [hvv] at hTup
      obtain ⟨hd1, ht1⟩ := dirT_ok i
      generalize (dirT i).1 = d at hd1 hTup
      generalize (dirT i).2 = t at ht1 hTup
      dsimp only
      refine unpackN_ F₁₂ D₁₂.N hTup hh rfl rfl fun h₁₃ F₁₃ N₁₃ => ?_
      have D₁₃ : Led s₁.heap L h₁₃ ((own ++ [(L + 1 + 1, oT₁)]) ++ (L + 1, oD₁) :: tl) := by
        have : Led s₁.heap L h₁₃ _ := ⟨N₁₃, D₁₂.nd⟩
        simpa using this
      refine assignInOrder_cons <| wpAny_assign_Name <| stC F₁₃ D₁₃ rfl dD₁ fun h₁₄ oD₂ F₁₄ D₁₄' dD₂ => ?_
      have D₁₄ : Led s₁.heap L h₁₄ (own ++ (L + 1 + 1, oT₁) :: (L + 1, oD₂) :: tl) := by simpa using D₁₄'
      refine assignInOrder_cons <| wpAny_assign_Name <| stC F₁₄ D₁₄ rfl dT₁ fun h₁₅ oT₂ F₁₅ D₁₅ dT₂ => assignInOrder_nil ?_
      dsimp only
      obtain ⟨ws, rings, rows, hws, hrings, hrows, hrl, hwsl, hrowl, hrowsl, hlast, hpairs⟩ := okW_out (ok4_at hok4 hd1 ht1)
      generalize hlg : own ++ (L + 1 + 1, oT₂) :: (L + 1, oD₂) :: tl = lg at D₁₅
      have mT : (L + 1 + 1, oT₂) ∈ lg := by rw [← hlg]; exact List.mem_append_right _ (.head _)
      have mD : (L + 1, oD₂) ∈ lg := by rw [← hlg]; exact List.mem_append_right _ (.tail _ (.head _))
      have mW : (Wd, W.listOf wv.toArray wn) ∈ lg := by rw [← hlg]; exact List.mem_append_right _ (.tail _ (.tail _ (hx _ hfw)))
      refine wpAny_execs_cons <| Assign_Tuple <| Call_ <| nK X F₁₅ (by k_is) <| callWith_K X.K (by k_is) <| spliced_more <| wpAny_BinOp <| wpAny_Constant_str <| Tuple_ <| spliced_more <| nameX_C D₁₅.N rfl mD dD₂ <| spliced_more <| nameX_C D₁₅.N rfl mT dT₂ <| spliced_more <| MethodCall_ <| wpAny_Constant_str <| GM.join <| callWith_method1 <| spliced_more <| nameX_L F₁₅ hn1 <| spliced_none ?_
      refine join_list (isL' D₁₅ mW) (by simpa using strs_of rU) (join_ok hwl.2) fun t₁ k₁ => ?_
      rw [txt_eq us]
      refine spliced_none <| nt F₁₅ D₁₅ (by rw [sizeLine_eq]; simp) fun h₁₆ Ta F₁₆ D₁₆ => ?_
      dsimp only
      refine KPt.mod_tuple D₁₆.N (.head _) fmt_eq (fmt_all hd1 ht1 (by have := txt_len us; omega)) fun t₂ k₂ => ?_
      dsimp only
      refine spliced_none ⟨X.K.keeps F₁₆.keep, ?_⟩
      refine decode_spec (X.keeps F₁₆.keep) hh (by omega) (split_text hd1 ht1 _) (full_len hwl.2) fun h₁₇ tk₁₇ Pa t1 t2 t3 W₁₇ => ?_
      obtain ⟨F₁₇, D₁₇⟩ := New.after F₁₆ D₁₆ W₁₇
      dsimp only
      refine kun_list F₁₇ D₁₇.N (isL' D₁₇ (.head _)) hh rfl rfl fun h₁₈ F₁₈ N₁₈ => ?_
      have D₁₈ : Led s₁.heap L h₁₈ _ := ⟨N₁₈, D₁₇.nd⟩
      refine assignInOrder_cons <| asg F₁₈ D₁₈ fun h₁₉ F₁₉ D₁₉ => assignInOrder_cons <| asg F₁₉ D₁₉ fun h₂₀ F₂₀ D₂₀ => assignInOrder_cons <| asg F₂₀ D₂₀ fun h₂₁ F₂₁ D₂₁ => assignInOrder_nil ?_
      dsimp only
      obtain ⟨m21, F21, hq1, hq2, hq3, hq4, hq5⟩ : ∃ m21, Fr s₁.heap L h₂₁ m21 ∧ m21 "word" = some (.ref Wd) ∧ m21 "many" = some (.int (us.length : Int) tm) ∧ m21 "one" = some (.str (dS d) t1) ∧ m21 "two" = some (.str (dS t) t2) ∧ m21 "text" = some (.str (txt us) t3) :=
        ⟨_, F₂₁, upd_ne (upd_ne (upd_ne hn1 (by decide)) (by decide)) (by decide), upd_ne (upd_ne (upd_ne hn2 (by decide)) (by decide)) (by decide), upd_ne (upd_ne rfl (by decide)) (by decide), upd_ne rfl (by decide), rfl⟩
      have D21 : Led s₁.heap L h₂₁ lg := D₂₁.sub (.cons _ (.cons _ (List.Sublist.refl _)))
      clear D₂₁ D₂₀ D₁₉ D₁₈ N₁₈ D₁₇ W₁₇ D₁₆ F₂₁ F₂₀ F₁₉ F₁₈ F₁₇ F₁₆ F₁₅ D₁₅ D₁₄ D₁₄' D₁₃ F₁₃ F₁₄ N₁₃
      refine wpAny_execs_cons <| units_asg (ys := unF false (txt us).cps.toList) F21 D21 hh (by omega) (by rw [un_txt, List.length_map]; omega) rfl rfl (by decide) rfl (by decide) rfl rfl ?_ ?_
      · refine Call_ <| nK X F21 (by k_is) <| callWith_K X.K (by k_is) <| spliced_more <| nameX_L F21 hq5 <| spliced_none ⟨X.K.keeps F21.keep, ?_⟩
        refine iter_call (X.keeps F21.keep) (by omega) (wf_txt us) fun h₂₂ tk₂₂ code oC G hsub hG hlt hC hseg => ?_
        exact ⟨⟨G, h₂₁.objs.size, oC, code, _, rfl, hsub, hG, Nat.ne_of_lt hlt, none_at, hC, by simp, X.nolimit.keeps F21.keep, hseg⟩, h₂₂, tk₂₂, _, rfl, fun hb => hb.push rfl⟩
      · intro Un h₂₂ tk₂₂ gn₂₂ uv un hb₂₂ F₂₂ D₂₂ ru'
        have ru : Rel2 RU uv us := rel_RS (by rw [un_txt] at ru'; exact ru')
        dsimp only
        have hul : us.length < 1000 := by omega
        refine wpAny_execs_cons <| wpAny_Assign_Name <| Call_ <| nK X F₂₂ (by k_is) <| callWith_K X.K (by k_is) <| spliced_more <| nameX_L F₂₂ rfl <| spliced_more <| Call_ <| nK X F₂₂ (by k_is) <| callWith_K X.K (by k_is) <| spliced_more <| nameX_L F₂₂ rfl ?_
        refine spliced_more <| Call_ <| nB X F₂₂ (by k_is) (by boot_fast) (by decide) <| PyProof.Rows.callWith_type1 <| spliced_more <| nameX_L F₂₂ (upd_ne hq3 (by decide)) <| spliced_none <| KIN.call_text (int_dS hd1) (by have := dS_len d; omega) ?_
        refine spliced_more <| Call_ <| nB X F₂₂ (by k_is) (by boot_fast) (by decide) <| PyProof.Rows.callWith_type1 <| spliced_more <| nameX_L F₂₂ (upd_ne hq4 (by decide)) <| spliced_none <| KIN.call_text (int_dS ht1) (by have := dS_len t; omega) ?_
        refine spliced_none ⟨X.K.keeps F₂₂.keep, ?_⟩
        refine ways_spec (X.keeps F₂₂.keep) hh (by omega) (isL' D₂₂ (.head _)) ru hul hd1 hws fun h₂₃ tk₂₃ Wy wyn wyv W₂₃ rws => ?_
        obtain ⟨F₂₃, D₂₃⟩ := New.after F₂₂ D₂₂ W₂₃
        dsimp only
        refine spliced_none ⟨X.K.keeps F₂₃.keep, ?_⟩
        refine rings_spec (X.keeps F₂₃.keep) hh (by omega) (isL' D₂₃ (.tail _ (.head _))) ru (isL' D₂₃ (.head _)) rws hwsl hul hrings fun h₂₄ tk₂₄ Rg rgn rgv fz W₂₄ rr => ?_
        obtain ⟨F₂₄, D₂₄⟩ := New.after F₂₃ D₂₃ W₂₄
        refine st F₂₄ D₂₄ fun h₂₅ F₂₅ D₂₅ => ?_
        dsimp only
        obtain ⟨m25, F25, hp1, hp2, hp3⟩ : ∃ m25, Fr s₁.heap L h₂₅ m25 ∧ m25 "word" = some (.ref Wd) ∧ m25 "many" = some (.int (us.length : Int) tm) ∧ m25 "rings" = some (.ref Rg) :=
          ⟨_, F₂₅, upd_ne (upd_ne hq1 (by decide)) (by decide), upd_ne (upd_ne hq2 (by decide)) (by decide), rfl⟩
        obtain ⟨lh, D25, hlh, mRg, hfz⟩ : ∃ lh, Led s₁.heap L h₂₅ lh ∧ lg.Sublist lh ∧ (Rg, W.listOf rgv.toArray rgn) ∈ lh ∧ ∀ p ∈ fz, p ∈ lh :=
          ⟨_, D₂₅, .trans (.cons _ (List.Sublist.refl _)) (.trans (.cons _ (List.Sublist.refl _)) (List.sublist_append_right _ _)), .head _, fun p hp => .tail _ (List.mem_append_left _ hp)⟩
        clear F₂₅ D₂₅ F₂₄ D₂₄ W₂₄ F₂₃ D₂₃ W₂₃ F₂₂ D₂₂ ru' F21 D21 hq1 hq2 hq3 hq4 hq5
        refine wpAny_execs_cons <| wpAny_Assign_Name <| Call_ <| nK X F25 (by k_is) <| callWith_K X.K (by k_is) <| spliced_more <| comp_tup hh rfl (by decide) rfl (by decide) rfl <| Call_ <| nB X F25 (by k_is) (by boot_fast) (by decide) <| PyProof.Rows.callWith_type1 <| spliced_more <| nameX_L F25 hp2 <| spliced_none <| range1_rows F25 D25.N fun h₂₆ tk₂₆ u1 u2 u3 hr₂₆ F₂₆ N₂₆ _ => ?_
        have D₂₆ : Led s₁.heap L h₂₆ lh := ⟨N₂₆, D25.nd⟩
        dsimp only
        refine ⟨fun i o => ∃ p q, o = tupOf [.int i p, .int (d * t ^ i) q], _, us.length, _, _, _, rfl, hr₂₆, hul, ?_, ?_⟩
        · rintro C i v s₃ m₃ hi ⟨ti, rfl⟩ hn hm hk
          refine Tuple_ <| spliced_more <| wpAny_Name (wpAny_loadName_local rfl rfl hn hm ?_)
          refine spliced_more <| wpAny_BinOp <| wpAny_Name (wpAny_loadName_cell rfl rfl rfl ⟨oD₂, hk _ _ (D₂₆.get (hlh.subset mD)), dD₂⟩ ?_)
          refine wpAny_BinOp <| wpAny_Name (wpAny_loadName_cell rfl rfl rfl ⟨oT₂, hk _ _ (D₂₆.get (hlh.subset mT)), dT₂⟩ ?_)
          refine wpAny_Name (wpAny_loadName_local rfl rfl hn hm <| powT ht1 fun tk' v' => ?_)
          refine mul_int ?_ (by rcases hd1 with rfl | rfl <;> exact IntMulOk.of_left (by decide +kernel))
          refine spliced_none <| wpAny_newObj_type ?_ (by size_fits)
          exact ⟨_, _, _, _, rfl, rfl, fun b o e => Heap.get?_push_of_some _ e, none_at, Heap.get?_push_size _ rfl, _, _, rfl⟩
        · intro Cl h₂₇ tk₂₇ ts kk W₂₇ hts hTT
          obtain ⟨F₂₇, D₂₇⟩ := New.after F₂₆ D₂₆ W₂₇
          dsimp only
          refine spliced_none ⟨X.K.keeps F₂₇.keep, ?_⟩
          refine order_call F₂₇ X D₂₇ (by omega) fun h₂₈ tk₂₈ ox dx es nn F₂₈ D₂₈ g1 g2 => ?_
          refine st F₂₈ D₂₈ fun h₂₉ F₂₉ D₂₉ => ?_
          dsimp only
          have mlh : ∀ p ∈ lh, p ∈ (ox, instObj 38 dx) :: (dx, dictOf es nn) :: (((Cl, W.listOf (ts.map fun p => Value.ref p.1).toArray kk) :: ts) ++ lh) := fun p hp => .tail _ (.tail _ (List.mem_append_right _ hp))
          refine wpAny_execs_cons <| wpAny_Assign_Name <| Call_ <| nK X F₂₉ (by k_is) <| callWith_K X.K (by k_is) <| spliced_more <| nameX_L F₂₉ (upd_ne hp3 (by decide)) <| spliced_more <| nameX_L F₂₉ rfl <| spliced_more <| nameX_L F₂₉ (upd_ne hp2 (by decide)) <| spliced_none ⟨X.K.keeps F₂₉.keep, ?_⟩
          refine rows_spec (X.keeps F₂₉.keep) hh (by omega) (isL' D₂₉ (mlh _ mRg)) (rr.mono fun _ _ q => RRh.of (fun p hp => D₂₉.get (a := p.1) (o := p.2) (mlh _ (hfz p hp))) q) (order_of (pre := []) D₂₉ g1 g2 hts hTT) (by simp [dsF]; omega) hul hrl hrows fun h₃₀ tk₃₀ Rw rwn rwv fr W₃₀ rR => ?_
          obtain ⟨F₃₀, D₃₀⟩ := New.after F₂₉ D₂₉ W₃₀
          refine st F₃₀ D₃₀ fun h₃₁ F₃₁ D₃₁ => ?_
          dsimp only
          obtain ⟨m31, F31, hr1, hr2, hr3, hr4⟩ : ∃ m31, Fr s₁.heap L h₃₁ m31 ∧ m31 "word" = some (.ref Wd) ∧ m31 "many" = some (.int (us.length : Int) tm) ∧ m31 "order" = some (.ref ox) ∧ m31 "rows" = some (.ref Rw) :=
            ⟨_, F₃₁, upd_ne (upd_ne hp1 (by decide)) (by decide), upd_ne (upd_ne hp2 (by decide)) (by decide), upd_ne rfl (by decide), rfl⟩
          obtain ⟨lk, D31, hlk, mRw, hfr, mkO⟩ : ∃ lk, Led s₁.heap L h₃₁ lk ∧ lg.Sublist lk ∧ (Rw, W.listOf rwv.toArray rwn) ∈ lk ∧ (∀ p ∈ fr, p ∈ lk) ∧ ∀ h, Led s₁.heap L h lk → Order h ox (dsF d t us.length) :=
            ⟨_, D₃₁, .trans hlh (.trans (.trans (List.sublist_append_right _ _) (.cons _ (.cons _ (List.Sublist.refl _)))) (List.sublist_append_right _ _)), .head _, fun p hp => .tail _ (List.mem_append_left _ hp), fun h DD => order_of (pre := (Rw, W.listOf rwv.toArray rwn) :: fr) DD g1 g2 hts hTT⟩
          clear F₃₁ D₃₁ F₃₀ D₃₀ W₃₀ F₂₉ D₂₉ F₂₈ D₂₈ F₂₇ D₂₇ W₂₇ F₂₆ D₂₆ N₂₆ mlh F25 D25
          have hrw : rwv.length = rows.length := rR.length
          have klk : ∀ p ∈ fr, h₃₁.get? p.1 = some p.2 := fun p hp => D31.get (a := p.1) (o := p.2) (hfr p hp)
          refine wpAny_execs_cons <| wpAny_If <| wpAny_isTrue_Compare1 <| ListC (fun _ => true) (RL fr) rfl (by decide) rfl (by decide) rfl <| nameX_L F31 hr4 <| lc_list (RL fr) hh (isL' D31 mRw) (by omega) ?_ ?_
          · intro C i v s₃ m₃ hv hn hm hk
            obtain ⟨row, hrow, a, vs', n', rfl, hm', hru⟩ := rR.get' hv
            have hi : (rows.map (fun r => r.getLast?))[i]? = (us.map some)[i]? := by rw [hlast]
            rw [List.getElem?_map, hrow, List.getElem?_map] at hi
            have hvl : vs'.length = row.length := hru.length
            have hrl' : row.length < 1000 := hrowsl row (List.mem_of_getElem? hrow)
            cases hui : us[i]? with
            | none => rw [hui] at hi; cases hi
            | some c' =>
              rw [hui] at hi
              have hg : row.getLast? = some c' := Option.some.inj hi
              rw [List.getLast?_eq_getElem?] at hg
              obtain ⟨x, hx, hxu⟩ := hru.get hg
              rw [← hvl] at hx
              have h0 : 0 < vs'.length := by
                rcases Nat.eq_zero_or_pos vs'.length with q | q
                · rw [List.eq_nil_of_length_eq_zero q] at hx; cases hx
                · exact q
              refine Subscript_ <| wpAny_Name (wpAny_loadName_local rfl rfl hn hm <| wpAny_UnaryOp <| wpAny_Constant_int <| neg_int ?_)
              exact item_neg (s := { s₃ with toks := s₃.toks + 1 + 1 }) ⟨_, hk _ _ (klk _ hm'), rfl, _, rfl⟩ h0 (by omega) hx ⟨⟨a, vs', n', c', rfl, hm', hx, hxu⟩, ⟨_, _, rfl, fun _ _ q => q⟩⟩
          · intro Ls h₃₂ tk₃₂ ys yn W₃₂ rL
            obtain ⟨F₃₂, D₃₂⟩ := New.after F31 D31 W₃₂
            dsimp only
            have rY : Rel2 RU ys us := last_of klk rR rL hlast
            refine nameX_L F₃₂ hr1 <| neU (isL' D₃₂ (.head _)) rY (isL' D₃₂ (.tail _ (hlk.subset mW))) rU hun <| wpAny_truthy_bool <| neg (by simp) <| wpAny_execs_nil ?_
            have D32 : Led s₁.heap L h₃₂ lk := D₃₂.sub (.cons _ (List.Sublist.refl _))
            refine wpAny_execs_cons <| wpAny_For <| Call_ <| nB X F₃₂ (by k_is) (by boot_fast) (by decide) <| PyProof.Rows.callWith_type1 <| spliced_more <| nameX_L F₃₂ hr4 <| spliced_more ?_
            refine sliceL (xs := rwv.drop 1) (lo := some 1) (hi := none) F₃₂ D32 (isL' D32 mRw) (by omega) (fun P hP => nameX_L F₃₂ hr4 hP) (fun P hP => evalPart_some_step (wpAny_Constant_int (hP _ _ (.int _ _)))) (fun P tk hP => evalPart_none_step (hP _ _ .none)) (slicePick_from' rwv.toArray 1) fun h₃₃ tk₃₃ Sl F₃₃ D₃₃ => ?_
            dsimp only
            refine spliced_none <| for_zip (xs := rwv) (ys := rwv.drop 1) (fun i m nw => nw = (Sl, W.listOf (rwv.drop 1).toArray 0) :: lk ∧ m "word" = some (.ref Wd) ∧ m "many" = some (.int (us.length : Int) tm) ∧ m "order" = some (.ref ox)) hh F₃₃ D₃₃ (isL' D₃₃ (.tail _ mRw)) (isL' D₃₃ (.head _))
              (.inr ⟨_, fun i m nw q => by obtain ⟨rfl, _⟩ := q; exact .tail _ mRw⟩) (.inr ⟨_, fun i m nw q => by obtain ⟨rfl, _⟩ := q; exact .head _⟩) ⟨rfl, hr1, hr2, hr3⟩ ?_ ?_
            · rintro i T' x y m₃₄ nw₃₄ h₃₄ tk₃₄ own₂ hx hy ⟨rfl, hs1, hs2, hs3⟩ F₃₄ D₃₄ hT'
              have hy' : rwv[i + 1]? = some y := by rw [List.getElem?_drop] at hy; rw [Nat.add_comm]; exact hy
              obtain ⟨rl₁, hrl₁, la, lvs, ln, rfl, mla, rl⟩ := rR.get' hx
              obtain ⟨rr₁, hrr₁, ra, rvs, rn, rfl, mra, rr'⟩ := rR.get' hy'
              obtain ⟨c1, c2, hc1', hc2', hcase⟩ := pair_out (pairs_at hpairs hrl₁ hrr₁)
              obtain ⟨lg1, lg2, hsz, htold⟩ := told_of hcase
              have hl1 : lvs.length < 1000 := by rw [rl.length]; exact hrowsl _ (List.mem_of_getElem? hrl₁)
              have hl2 : rvs.length < 1000 := by rw [rr'.length]; exact hrowsl _ (List.mem_of_getElem? hrr₁)
              have mla' : (la, W.listOf lvs.toArray ln) ∈ own₂ ++ (Sl, W.listOf (rwv.drop 1).toArray 0) :: lk := List.mem_append_right _ (.tail _ (hfr _ mla))
              have mra' : (ra, W.listOf rvs.toArray rn) ∈ own₂ ++ (Sl, W.listOf (rwv.drop 1).toArray 0) :: lk := List.mem_append_right _ (.tail _ (hfr _ mra))
              have hds : (dsF d t us.length).length < 1000 := by simp [dsF]; omega
              refine asg2 hh F₃₄ D₃₄ hT' fun h₃₅ tk₃₅ F₃₅ D₃₅ => ?_
              dsimp only
              obtain ⟨m35, F35, hv1, hv2, hv3, hv4, hv5⟩ : ∃ m35, Fr s₁.heap L h₃₅ m35 ∧ m35 "word" = some (.ref Wd) ∧ m35 "many" = some (.int (us.length : Int) tm) ∧ m35 "order" = some (.ref ox) ∧ m35 "left" = some (.ref la) ∧ m35 "right" = some (.ref ra) :=
                ⟨_, F₃₅, upd_ne (upd_ne hs1 (by decide)) (by decide), upd_ne (upd_ne hs2 (by decide)) (by decide), upd_ne (upd_ne hs3 (by decide)) (by decide), upd_ne rfl (by decide), rfl⟩
              have hO := mkO h₃₅ ((led_right D₃₅).sub (.cons _ (List.Sublist.refl _)))
              obtain ⟨dx', es', no', cl', items', Ts', q1, q2, q3, q4, _⟩ := id hO.obj
              refine wpAny_execs_cons <| wpAny_Assign_Name <| wpAny_BinOp <| Call_ <| nB X F35 (by k_is) (by boot_fast) (by decide) <| PyProof.Rows.callWith_type1 <| spliced_more <| MethodCall_ <| nameX_L F35 hv3 <| method_inst (K := Mine.hd.heap_39 w.params) F35 X.K ⟨q1, rfl, rfl, q2⟩ (by k_is) (by k_is) (by k_is) q4 <| callWith_K X.K (by k_is) <| spliced_more <| nameX_L F35 hv4 <| spliced_more <| nameX_L F35 hv5 <| spliced_none ⟨X.K.keeps F35.keep, ?_⟩
              refine compare_spec (X.keeps F35.keep) hh (by omega) hO (isL' D₃₅ mla') (isL' D₃₅ mra') rl rr' hds hc1' fun h₃₆ tk₃₆ t₃₆ hk₃₆ => ?_
              have F₃₆ := F35.after hk₃₆
              have D₃₆ := D₃₅.keeps hk₃₆
              dsimp only
              refine spliced_none <| PySem.P.str_of_int lg1 ?_
              refine Call_ <| nB X F₃₆ (by k_is) (by boot_fast) (by decide) <| PyProof.Rows.callWith_type1 <| spliced_more <| MethodCall_ <| nameX_L F₃₆ hv3 <| method_inst (K := Mine.hd.heap_39 w.params) F₃₆ X.K ⟨hk₃₆ _ _ q1, rfl, rfl, hk₃₆ _ _ q2⟩ (by k_is) (by k_is) (by k_is) q4 <| callWith_K X.K (by k_is) <| spliced_more <| nameX_L F₃₆ hv5 <| spliced_more <| nameX_L F₃₆ hv4 <| spliced_none ⟨X.K.keeps F₃₆.keep, ?_⟩
              refine compare_spec (X.keeps F₃₆.keep) hh (by omega) (hO.keeps hk₃₆) (isL' D₃₆ mra') (isL' D₃₆ mla') rr' rl hds hc2' fun h₃₇ tk₃₇ t₃₇ hk₃₇ => ?_
              have F₃₇ := F₃₆.after hk₃₇
              have D₃₇ := D₃₆.keeps hk₃₇
              dsimp only
              refine spliced_none <| PySem.P.str_of_int lg2 ?_
              refine PyProof.Rows.add_str (fun t₃₈ k₃₈ => ?_) hsz
              refine st F₃₇ D₃₇ fun h₃₈ F₃₈ D₃₈ => ?_
              dsimp only
              refine wpAny_execs_cons <| wpAny_If <| wpAny_isTrue_Compare1 <| nameX_L F₃₈ rfl <| wpAny_IfExp <| wpAny_isTrue_Compare1 ?_
              refine sliceL (xs := lvs.take (lvs.length - 1)) (lo := none) (hi := some (-1)) F₃₈ D₃₈ (isL' D₃₈ mla') (by omega) (fun P hP => nameX_L F₃₈ (upd_ne hv4 (by decide)) hP) (fun P hP => evalPart_none_step (hP _ _ .none)) (fun P tk hP => evalPart_some_step (wpAny_UnaryOp <| wpAny_Constant_int <| neg_int (hP _ _ (.int _ _)))) (butLast lvs) fun h₃₉ tk₃₉ A1 F₃₉ D₃₉ => ?_
              dsimp only
              refine sliceL (xs := rvs.take (rvs.length - 1)) (lo := none) (hi := some (-1)) F₃₉ D₃₉ (isL' D₃₉ (.tail _ mra')) (by omega) (fun P hP => nameX_L F₃₉ (upd_ne hv5 (by decide)) hP) (fun P hP => evalPart_none_step (hP _ _ .none)) (fun P tk hP => evalPart_some_step (wpAny_UnaryOp <| wpAny_Constant_int <| neg_int (hP _ _ (.int _ _)))) (butLast rvs) fun h₄₀ tk₄₀ A2 F₄₀ D₄₀ => ?_
              dsimp only
              refine eqU (isL' D₄₀ (.tail _ (.head _))) (drop_rel rl) (isL' D₄₀ (.head _)) (drop_rel rr') hun <| wpAny_truthy_bool ?_
              have fin : ∀ tk, Turn s₁.heap L own₂ (fun m nw => nw = (Sl, W.listOf (rwv.drop 1).toArray 0) :: lk ∧ m "word" = some (.ref Wd) ∧ m "many" = some (.int (us.length : Int) tm) ∧ m "order" = some (.ref ox)) { s₁ with heap := h₃₃, toks := tk₃₃, gens := gn₂₂ } (fun _ _ => True) .next { s₁ with heap := h₄₀, toks := tk, gens := gn₂₂ } := fun tk =>
                ⟨h₄₀, tk, _, _, rfl, F₄₀, D₄₀.sub (.cons _ (.cons _ (List.Sublist.refl _))), rfl, upd_ne hv1 (by decide), upd_ne hv2 (by decide), upd_ne hv3 (by decide)⟩
              by_cases e : rl₁.dropLast = rr₁.dropLast
              · rw [if_pos e] at htold
                refine pos (decide_eq_true e) <| wpAny_Constant_str <| PySem.P.ne_str ?_
                rw [htold]
                refine wpAny_truthy_bool <| neg (by simp) ?_
                exact wpAny_execs_nil <| wpAny_execs_nil (fin _)
              · rw [if_neg e] at htold
                refine neg (decide_eq_false e) <| wpAny_Constant_str <| PySem.P.ne_str ?_
                rw [htold]
                refine wpAny_truthy_bool <| neg (by simp) ?_
                exact wpAny_execs_nil <| wpAny_execs_nil (fin _)
            · rintro m₃₄ nw₃₄ h₃₄ tk₃₄ ⟨rfl, hs1, hs2, hs3⟩ F₃₄ D₃₄
              refine wpAny_execs_nil ⟨h₃₄, _, gn₂₂, m₃₄, (L + 1 + 1, oT₂) :: (L + 1, oD₂) :: tl, rfl, hb₂₂ hb, F₃₄, ?_, oT₂, oD₂, tl, rfl, ⟨_, dT₂⟩, ⟨_, dD₂⟩, hx, hs1, hs2⟩
              rw [hlg]
              exact D₃₄.sub (.cons _ hlk)
    · rintro m₁ nw₁ h₁₂ tk₁₂ gn₁₂ hb _ F₁₂ D₁₂
      exact wpAny_execs_cons <| wpAny_Return_some <| wpAny_Constant_bool ⟨rfl, rfl, F₁₂.keep, hb⟩)
end Mine
end
theorem PySem.Challenge.cw_pe0061_01_holds : PySem.Challenge.rw_pe0061_01.Holds := by
  exact Mine.law
