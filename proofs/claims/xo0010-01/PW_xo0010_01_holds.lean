import PyProof.Rows.All
import Wide.All
import OpenK.AllK
import Wide.FinOn
import PySem.Sre
import Lean
import PySem.Challenge.RW_xo0010_01
set_option Elab.async false

section
open PySem PySem.W PyProof.Rows
namespace Mine
set_option maxRecDepth 100000 in
set_option maxHeartbeats 8000000 in
open_top hd for PySem.Challenge.rw_xo0010_01
end Mine
end

section
open PySem PySem.W PyProof.Rows PySem.Calls
namespace Mine
set_option maxRecDepth 100000
set_option maxHeartbeats 8000000

/-- what a call of ours does to the state: it only adds -/
structure Ext (s s' : Shared) : Prop where
  keep : ∀ b o, s.heap.get? b = some o → s'.heap.get? b = some o
  os : s'.os = s.os
  gens : ∀ (g : Nat) x, s.gens[g]? = some x → s'.gens[g]? = some x
  bare : AllBare s.gens → AllBare s'.gens
theorem Ext.refl (s : Shared) : Ext s s := ⟨fun _ _ e => e, rfl, fun _ _ e => e, id⟩
theorem Ext.trans {a b c : Shared} (x : Ext a b) (y : Ext b c) : Ext a c :=
  ⟨fun q o e => y.keep q o (x.keep q o e), y.os.trans x.os, fun g q e => y.gens g q (x.gens g q e), fun h => y.bare (x.bare h)⟩
theorem Ext.of {s : Shared} {h : Heap} {t : Nat} (k : ∀ b o, s.heap.get? b = some o → h.get? b = some o) : Ext s { s with heap := h, toks := t } :=
  ⟨k, rfl, fun _ _ e => e, id⟩
/-- what stands from the top on -/
structure Ok (w : World) (p : Program) (loose : List Str) (mean : ExcName → Option Value) (mg mb : Str → Option Value) (h : Heap) : Prop where
  k : (hd.heap_39 w.params).In h
  t : Top p loose mean mg mb h
theorem Ok.keeps {w : World} {p : Program} {loose : List Str} {mean : ExcName → Option Value} {mg mb : Str → Option Value} {h h' : Heap} (x : Ok w p loose mean mg mb h) (k : ∀ b o, h.get? b = some o → h'.get? b = some o) : Ok w p loose mean mg mb h' :=
  ⟨x.k.keeps k, x.t.keeps k⟩

abbrev arnd (dp un : Nat) (fr : Option (List Env)) (gd : Option (List Code)) : Around := { handled := none, depth := dp, frames := fr, guards := gd, units := un }

theorem fr_ext {h₀ : Heap} {L : Addr} {m : Str → Option Value} {s s' : Shared} (F : Fr h₀ L s.heap m) (x : Ext s s') : Fr h₀ L s'.heap m :=
  ⟨F.ns.keeps x.keep, fun b o e => x.keep b o (F.keep b o e), F.above⟩
theorem news_ext {h₀ : Heap} {L : Addr} {news : List (Addr × Obj)} {s s' : Shared} (N : News h₀ L s.heap news) (x : Ext s s') : News h₀ L s'.heap news :=
  fun p hp => ⟨x.keep _ _ (N p hp).1, (N p hp).2⟩

section
variable {prog : Program} {w : World} {p : Program} {loose : List Str} {mean : ExcName → Option Value} {mg mb : Str → Option Value}
theorem enter {dp un : Nat} {fr : Option (List Env)} {gd : Option (List Code)} {Q E : Value → Shared → Prop} {s : Shared} {name qual : Str} {params : Arguments} {body : List Stmt} {scope : Scope} {dV kV doc pm cdv ct oc : Value} {an od : Option Addr} {osl : Array (Option Value)} {f : Addr} {vs : List Value} {binds : List (Str × Value)}
    (O : Ok w p loose mean mg mb s.heap) (ho : (hd.heap_39 w.params).lookup f = some ⟨oc, od, .func (fnOf name qual params body scope dV kV doc pm an cdv ct), osl⟩)
    (hcd : codeIn (hd.heap_39 w.params) cdv qual = true) (hroom : dp < recursionLimit)
    (hbind : BindsTo s (fnOf name qual params body scope dV kV doc pm an cdv ct) ⟨vs, []⟩ binds) (hloc : ∀ y ∈ binds, scope.names.lookup y.1 = some .local)
    (hcell : ∀ x ∈ scope.names, x.2 ≠ .cell) (hco : scope.isCoroutine = false) (hgen : scope.isGenerator = false) (hk : scope.kind = .function)
    (h : ∀ h₁, Fr s.heap s.heap.objs.size h₁ (fun y => binds.reverse.lookup y) → News s.heap s.heap.objs.size h₁ [] →
      wpAny (model prog w) ((arnd dp un fr gd).deeper (envOf qual scope s.heap.objs.size f cdv)) (execs body (envOf qual scope s.heap.objs.size f cdv))
        (fun fl s' => Q (match fl with | .ret v => v | _ => .none) s') (fun _ _ => False) { s with heap := h₁, toks := s.toks + binds.length }) :
    wpAny (model prog w) (arnd dp un fr gd) (call (.ref f) vs) Q E s := by
  refine wpAny_call (codeAny_call_def (fd := fnOf name qual params body scope dV kV doc pm an cdv ct) (body := body) (binds := binds) hroom (O.k _ _ ho) rfl O.t.nolimit (codeRec_of O.k hcd) rfl hbind hcell hloc (fun h₁ hns hk₁ => ?_) hco hgen hk)
  exact wpAny_mono (h h₁ ⟨hns, hk₁, Nat.le_refl _⟩ News.nil) (fun fl s' x => x) fun _ _ x => x.elim
end
end Mine
end

section
open PySem PySem.W PyProof.Rows PySem.Calls
namespace Mine
set_option maxRecDepth 100000
set_option maxHeartbeats 8000000

/-- the parts of the state beside the heap and the tokens -/
structure Kin (s s' : Shared) : Prop where
  os : s'.os = s.os
  gens : ∀ (g : Nat) x, s.gens[g]? = some x → s'.gens[g]? = some x
  bare : AllBare s.gens → AllBare s'.gens
theorem Kin.refl (s : Shared) : Kin s s := ⟨rfl, fun _ _ e => e, id⟩
theorem Kin.trans {a b c : Shared} (x : Kin a b) (y : Kin b c) : Kin a c :=
  ⟨y.os.trans x.os, fun g q e => y.gens g q (x.gens g q e), fun h => y.bare (x.bare h)⟩
theorem Kin.heap (s : Shared) (h : Heap) (t : Nat) : Kin s { s with heap := h, toks := t } := ⟨rfl, fun _ _ e => e, id⟩
theorem Ext.kin {s s' : Shared} (x : Ext s s') : Kin s s' := ⟨x.os, x.gens, x.bare⟩
theorem Kin.ext {s s' : Shared} (x : Kin s s') (k : ∀ b o, s.heap.get? b = some o → s'.heap.get? b = some o) : Ext s s' := ⟨k, x.os, x.gens, x.bare⟩

structure Opq (P : Prop) : Prop where
  out : P

/-- a turn's end -/
structure Turn (h₀ : Heap) (L : Addr) (s : Shared) (it : Addr) (o : Obj) (J : (Str → Option Value) → List (Addr × Obj) → Prop) (s₂ : Shared) : Prop where
  out : ∃ m nx, Kin s s₂ ∧ Fr h₀ L s₂.heap m ∧ News h₀ L s₂.heap ((it, o) :: nx) ∧ (∀ p ∈ nx, p.1 ≠ it) ∧ J m nx
theorem Turn.mk' {h₀ : Heap} {L : Addr} {s : Shared} {it : Addr} {o : Obj} {J : (Str → Option Value) → List (Addr × Obj) → Prop} {s₂ : Shared} {m : Str → Option Value} {nx : List (Addr × Obj)}
    (k : Kin s s₂) (F : Fr h₀ L s₂.heap m) (N : News h₀ L s₂.heap ((it, o) :: nx)) (hne : ∀ p ∈ nx, p.1 ≠ it) (j : J m nx) : Turn h₀ L s it o J s₂ := ⟨m, nx, k, F, N, hne, j⟩

abbrev TurnPost (h₀ : Heap) (L : Addr) (s : Shared) (it : Addr) (o : Obj) (J : (Str → Option Value) → List (Addr × Obj) → Prop) (Q : Flow → Shared → Prop) (f : Flow) (s₂ : Shared) : Prop :=
  match f with
  | .ret r => Opq (Q (.ret r) s₂)
  | .brk => Opq (Q .next s₂)
  | _ => Turn h₀ L s it o J s₂

section
variable {prog : Program} {w : World} {A : Around} {env : Env} {h₀ : Heap} {s : Shared} {m₀ : Str → Option Value} {news₀ : List (Addr × Obj)} {Q : Flow → Shared → Prop}

theorem exec_seq {st : Stmt} {rest : List Stmt} {E : Value → Shared → Prop}
    (h : wpAny (model prog w) A (exec st env) (fun f s' => Opq (match f with | .next => wpAny (model prog w) A (execs rest env) Q E s' | f => Q f s')) E s) :
    wpAny (model prog w) A (execs (st :: rest) env) Q E s := by
  rw [execs_cons]
  refine wpAny_bind (wpAny_mono h (fun f s' x => ?_) fun _ _ x => x)
  cases f with
  | next => exact x.out
  | brk => exact wpAny_pure x.out
  | cont => exact wpAny_pure x.out
  | ret v => exact wpAny_pure x.out

theorem for_list {iter : Expr} {x : Str} {px pos : Pos} {body : List Stmt} {l : Addr} {vs : List Value}
    (hh : A.handled = none)
    (hev : ∀ Q' : Value → Shared → Prop, Q' (.ref l) s → wpAny (model prog w) A (eval iter env) Q' (fun _ _ => False) s)
    (hx : env.kindOf x = some .local) (hp : (env.scope.kind == .class || (env.scope.kind == .module && env.locals != env.globals)) = false)
    (hs : ∀ x, foldedSetIterable iter env x = pure x)
    (F : Fr h₀ env.locals s.heap m₀) (N : News h₀ env.locals s.heap news₀)
    (J : Nat → (Str → Option Value) → List (Addr × Obj) → Prop) (j0 : J 0 m₀ news₀)
    (hl : h₀.IsList l vs.toArray ∨ ∀ i m nx, J i m nx → ∃ n, (l, listOf vs.toArray n) ∈ nx)
    (turn : ∀ i v m nx it o s₁, vs[i]? = some v → J i m nx → Kin s s₁ → Fr h₀ env.locals s₁.heap (fun y => if y = x then some v else m y) → News h₀ env.locals s₁.heap ((it, o) :: nx) → (∀ p ∈ nx, p.1 ≠ it) →
      wpAny (model prog w) A (execs body env) (TurnPost h₀ env.locals s it o (J (i + 1)) Q) (fun _ _ => False) s₁)
    (done : ∀ m nx s₁, J vs.length m nx → Kin s s₁ → Fr h₀ env.locals s₁.heap m → News h₀ env.locals s₁.heap nx → Q .next s₁) :
    wpAny (model prog w) A (exec (.For (.Name x px) iter body [] pos) env) Q (fun _ _ => False) s := by
  have isl : ∀ {i m nx h}, J i m nx → Fr h₀ env.locals h m → News h₀ env.locals h nx → h.IsList l vs.toArray := by
    intro i m nx h j F N
    rcases hl with y | y
    · exact y.at fun o e => F.keep l o e
    · obtain ⟨n, hn⟩ := y i m nx j
      exact ⟨_, (N _ hn).1, rfl, n, rfl⟩
  refine wpAny_For (hev _ ?_) hs
  have hls := isl j0 F N
  refine wpAny_pyIter_list hls ?_
  have hlt : l ≠ s.heap.objs.size := by
    obtain ⟨ol, hol, _⟩ := hls
    exact Nat.ne_of_lt (Heap.lt_size hol)
  refine codeAny_forLoop (fun k s' => ∃ i m nx o, k = vs.length + 1 - i ∧ i ≤ vs.length ∧ Kin s s' ∧ Fr h₀ env.locals s'.heap m ∧ News h₀ env.locals s'.heap ((s.heap.objs.size, o) :: nx) ∧ (∀ p ∈ nx, p.1 ≠ s.heap.objs.size) ∧ J i m nx ∧ s'.heap.IsListIter s.heap.objs.size l i) ?_ (vs.length + 1) ?_
  · rintro k s' ⟨i, m, nx, o, rfl, hi, hk, F', N', hne, j, hit⟩
    have hl' : s'.heap.IsList l vs.toArray := isl j F' fun p hp => N' p (List.mem_cons_of_mem _ hp)
    have hIL : s.heap.objs.size ≠ env.locals := (N' _ (List.mem_cons_self ..)).2.1
    have hI0 : h₀.get? s.heap.objs.size = none := (N' _ (List.mem_cons_self ..)).2.2
    by_cases hlt' : i < vs.length
    · refine wpAny_pyNext_list_item hit hl' (x := vs[i]) (by simp [hlt']) fun h' hit' hs' => ?_
      replace hs' : Heap.SameBut s.heap.objs.size s'.heap h' := hs'
      obtain ⟨o', ho', hoc, hod⟩ := hit'
      have F₁ : Fr h₀ env.locals h' m := ⟨F'.ns.sameBut hs' hIL.symm, fun b q e => (hs'.2 b (fun z => by rw [z, hI0] at e; cases e)).trans (F'.keep b q e), F'.above⟩
      have N₁ : News h₀ env.locals h' ((s.heap.objs.size, o') :: nx) := by
        intro p hp
        rcases List.mem_cons.mp hp with rfl | hp
        · exact ⟨ho', hIL, hI0⟩
        · have y := N' p (List.mem_cons_of_mem _ hp)
          exact ⟨(hs'.2 p.1 (hne p hp)).trans y.1, y.2⟩
      refine wpAny_assign_Name (wpAny_storeName_local hx F₁.ns (fun h₂ hn₂ hs₂ => ?_) hp)
      replace hs₂ : Heap.SameBut env.locals h' h₂ := hs₂
      refine wpAny_mono (turn i vs[i] m nx _ o' _ (by simp [hlt']) j (hk.trans (Kin.heap s' h₂ _)) (F₁.set hn₂ hs₂) (N₁.set hs₂) hne) (fun f s₃ y => ?_) fun _ _ y => y.elim
      have fin : Turn h₀ env.locals s s.heap.objs.size o' (J (i + 1)) s₃ → ∃ k', k' < vs.length + 1 - i ∧ ∃ i m nx o, k' = vs.length + 1 - i ∧ i ≤ vs.length ∧ Kin s s₃ ∧ Fr h₀ env.locals s₃.heap m ∧ News h₀ env.locals s₃.heap ((s.heap.objs.size, o) :: nx) ∧ (∀ p ∈ nx, p.1 ≠ s.heap.objs.size) ∧ J i m nx ∧ s₃.heap.IsListIter s.heap.objs.size l i := by
        rintro ⟨m', nx', k', F₃, N₃, hne', j'⟩
        exact ⟨vs.length + 1 - (i + 1), by omega, i + 1, m', nx', o', rfl, hlt', k', F₃, N₃, hne', j', ⟨o', (N₃ _ (List.mem_cons_self ..)).1, hoc, hod⟩⟩
      cases f with
      | next => exact fin y
      | cont => exact fin y
      | brk => exact y.out
      | ret v => exact y.out
    · have e : i = vs.length := by omega
      subst e
      refine wpAny_pyNext_list_end hh hit hl' (by simp) fun h' he' => wpAny_execs_nil ?_
      replace he' : Heap.ExtBut s.heap.objs.size s'.heap h' := he'
      exact done m nx _ j (hk.trans ⟨rfl, fun _ _ e => e, id⟩) ⟨F'.ns.extBut he' hIL.symm, fun b q e => he' b q (fun z => by rw [z, hI0] at e; cases e) (F'.keep b q e), F'.above⟩
        (fun p hp => ⟨he' p.1 _ (hne p hp) (N' p (List.mem_cons_of_mem _ hp)).1, (N' p (List.mem_cons_of_mem _ hp)).2⟩)
  · refine ⟨0, m₀, news₀, _, rfl, Nat.zero_le _, ⟨rfl, fun _ _ e => e, id⟩, F.push _, News.push F N _, fun p hp => Nat.ne_of_lt (Heap.lt_size (N p hp).1), j0, ⟨_, Heap.get?_push_size _ rfl, rfl, rfl⟩⟩
end
end Mine
end

section
open PySem PySem.W PyProof.Rows PySem.Calls
namespace Mine
set_option maxRecDepth 100000
set_option maxHeartbeats 8000000
def dstep (ds : List Int) (x : Int) : List Int := ds ++ [Int.fmod x (min (ds.getLastD 0) 2 + 2)]
def depthsF (ns : List Int) : List Int := ns.foldl dstep [0]
theorem upd_self {m : Str → Option Value} {x : Str} {v : Value} (h : m x = some v) : (fun y => if y = x then some v else m y) = m := by
  funext y
  by_cases e : y = x
  · rw [if_pos e, e, h]
  · rw [if_neg e]
theorem ints_at {vs : List Value} {ns : List Int} (h : IntsAre vs ns) {i : Nat} {v : Value} (hv : vs[i]? = some v) : ∃ k t, v = .int k t ∧ ns[i]? = some k := by
  have hl := h.length
  have hi : i < ns.length := by
    have := (List.getElem?_eq_some_iff.mp hv).1
    omega
  obtain ⟨t, ht⟩ := h.get i ns[i] (by simp [hi])
  rw [hv] at ht
  exact ⟨_, t, Option.some.inj ht, by simp [hi]⟩
theorem depthsF_len (ns : List Int) : (depthsF ns).length = ns.length + 1 := by
  have key : ∀ (l ds : List Int), (l.foldl dstep ds).length = ds.length + l.length := by
    intro l
    induction l with
    | nil => intro ds; simp
    | cons x l ih => intro ds; rw [List.foldl_cons, ih]; simp [dstep]; omega
  rw [depthsF, key]; simp; omega
theorem getD_lastD {ds : List Int} (h : 0 < ds.length) : ds.getD (-1 + (ds.length : Int)).toNat 0 = ds.getLastD 0 := by
  have e : (-1 + (ds.length : Int)).toNat = ds.length - 1 := by omega
  rw [e, List.getLastD_eq_getLast?, List.getLast?_eq_getElem?, List.getD_eq_getElem?_getD]
theorem depthsF_nonneg (ns : List Int) : ∀ d ∈ depthsF ns, 0 ≤ d := by
  have key : ∀ (l ds : List Int), (∀ d ∈ ds, 0 ≤ d) → ∀ d ∈ l.foldl dstep ds, 0 ≤ d := by
    intro l
    induction l with
    | nil => intro ds h; exact h
    | cons x l ih =>
      intro ds h
      rw [List.foldl_cons]
      refine ih _ fun d hd => ?_
      rcases List.mem_append.mp hd with hd | hd
      · exact h d hd
      · rw [List.mem_singleton.mp hd]
        have h0 : 0 ≤ ds.getLastD 0 := by
          rw [List.getLastD_eq_getLast?]
          cases e : ds.getLast? with
          | none => exact Int.le_refl 0
          | some y => exact h y (List.mem_of_getLast? e)
        exact Int.fmod_nonneg_of_pos _ (by omega)
  exact key ns [0] (by simp)
theorem depthsF_last (ns : List Int) : 0 ≤ (depthsF ns).getLastD 0 := by
  rw [List.getLastD_eq_getLast?]
  cases e : (depthsF ns).getLast? with
  | none => exact Int.le_refl 0
  | some y => exact depthsF_nonneg ns y (List.mem_of_getLast? e)
theorem depths_spec {prog : Program} {w : World} {p : Program} {loose : List Str} {mean : ExcName → Option Value} {mg mb : Str → Option Value} {dp un : Nat} {fr : Option (List Env)} {gd : Option (List Code)} {Q E : Value → Shared → Prop} {s : Shared}
   {l : Addr} {vs : List Value} {ns : List Int} (O : Ok w p loose mean mg mb s.heap) (hfill : Challenge.rw_xo0010_01.foot = 6) (hdp : dp + 1 < recursionLimit) (hun : un + 8 < cLine)
   (hl : s.heap.IsList l vs.toArray) (hi : IntsAre vs ns) (hn : ns.length ≤ 5)
   (hQ : ∀ l' vs' s', Ext s s' → s.heap.get? l' = none → (∃ n, s'.heap.get? l' = some (listOf vs'.toArray n)) → IntsAre vs' (depthsF ns) → Q (.ref l') s') :
   wpAny (model prog w) (arnd dp un fr gd) (call (.ref 104) [.ref l]) Q E s := by
  have hfill2 : Challenge.rw_xo0010_01.foot = 6 ∨ hd.heap_39 = hd.heap_39 := by k_fill; exact .inl rfl
  clear hfill2 hfill
  k_dflt (refine' enter (f := 104) O ?k6 ?k7 ?k8 ?k9 ?kB ?c5 ?c2 ?c3 ?c4 ?_; (case k6 => k_is); (case k7 => k_is); (case k8 => omega); (case k9 => exact BindsTo.of_eq rfl); (case c5 => decide); (case kB => exact locs rfl); (case c2 => exact rfl); (case c3 => exact rfl); (case c4 => exact rfl); k_whole)
  intro h₁ F N
  have X := O.k
  have T := O.t
  dsimp only
  refine exec_seq ?_
  k_steps
  refine ⟨?_⟩
  dsimp only


  rename_i l0 h00 _ h01 F N
  refine exec_seq ?_
  refine for_list (l := l) (vs := vs) rfl (fun Q' h => ld F rfl h) rfl rfl (fun _ => rfl) F N (fun i m nx => m (Str.ofString "depths") = some (.ref l0) ∧ ∃ us n ds, nx = [(l0, listOf us.toArray n)] ∧ IntsAre us ds ∧ ds = depthsF (ns.take i)) ⟨rfl, _, _, _, rfl, .cons _ _ .nil, rfl⟩ (.inl hl) ?_ ?_
  · rintro i v m nx it o s₁ hv ⟨hm, us, n, ds, rfl, hus, hds⟩ hk F1 N1 hne
    rw [← upd_self hm] at F1
    obtain ⟨k, t, rfl, hk'⟩ := ints_at hi hv
    have hne' : @Ne Nat l0 it := by simpa using hne
    have hlen : ds.length = i + 1 ∧ i < 5 := by
      have hi5 : i < ns.length := (List.getElem?_eq_some_iff.mp hk').1
      rw [hds, depthsF_len, List.length_take]
      omega
    have hmin : 0 ≤ min (ds.getD (-1 + (ds.length : Int)).toNat 0) 2 := by
      rw [getD_lastD (by omega), hds]
      have := depthsF_last (ns.take i)
      omega
    have hul : us.length ≤ 10 := by rw [hus.length]; omega
    clear F N hm hne hl hv
    have X' := X
    k_steps
    rename_i F' N'
    refine Turn.mk' (hk.trans (Kin.heap _ _ _)) F' N' (by intro p hp; obtain rfl := List.mem_singleton.mp hp; exact hne') ⟨rfl, us ++ [_], n + 1, _, by rw [List.push_toArray], hus.append (.cons _ _ .nil), ?_⟩
    rw [List.take_add_one, hk', Option.toList_some, depthsF, List.foldl_append, List.foldl_cons, List.foldl_nil, ← depthsF, ← hds, dstep]
    rw [getD_lastD (by omega)]
    congr 3
    rw [Int.min_def]
    (repeat' split) <;> omega
  · rintro m nx s₁ ⟨hm, us, n, ds, rfl, hus, hds⟩ hk F1 N1
    rw [← upd_self hm] at F1
    rw [IntsAre.length hi, List.take_length] at hds
    clear F N hm hl
    refine ⟨?_⟩
    dsimp only
    k_steps
    refine hQ l0 us _ ((Kin.trans (Kin.heap s _ _) hk).ext F1.keep) (N1 _ (.head _)).2.2 ⟨_, (N1 _ (.head _)).1⟩ (hds ▸ hus)
end Mine
end

section
namespace Mine
open PySem PySem.Sre
set_option maxRecDepth 100000
def QC : Array Nat := #[14, 8, 1, 2, 4294967295, 1, 1, 34, 0, 16, 34, 28, 22, 0, 4294967295, 7, 11, 13, 7, 21, 16, 34, 16, 92, 0, 15, 8, 6, 16, 92, 2, 15, 2, 0, 1, 16, 34, 1]

/-- a state of the matcher over the quoting pattern -/
abbrev S (t : Array Nat) (start : Nat) (must : Bool) (pc pos handed : Nat) (om : Bool) (loops : Array Loop) (inner : Option Nat) (frames : List Sre.Frame) (weight : Nat) (answer : Option Bool) (seen : Seen) : M :=
  { code := QC, text := t, lim := t.size, start, lastStart := t.size, wholeText := false, mustAdvance := must, pc, pos, handed, outermost := om, marks := #[], lastmark := -1, lastindex := -1, loops, inner, frames, weight, answer, seen, outcome := none }

/-- the machine goes from m to m' in some steps, at most n -/
def Go (n : Nat) (m m' : M) : Prop := ∃ k, k ≤ n ∧ ∀ j, m.runFor (k + j) = m'.runFor j
theorem Go.refl (m : M) : Go 0 m m := ⟨0, Nat.le_refl _, fun j => by rw [Nat.zero_add]⟩
theorem Go.trans {a b : Nat} {x y z : M} (h : Go a x y) (g : Go b y z) : Go (a + b) x z := by
  obtain ⟨k, hk, e⟩ := h
  obtain ⟨l, hl, f⟩ := g
  exact ⟨k + l, by omega, fun j => by rw [Nat.add_assoc, e, f]⟩
theorem Go.le {a b : Nat} {x y : M} (h : Go a x y) (e : a ≤ b) : Go b x y := let ⟨k, hk, f⟩ := h; ⟨k, Nat.le_trans hk e, f⟩
theorem Go.step {m m' : M} (h : m.outcome = none) (e : m.step = m') : Go 1 m m' := by
  refine ⟨1, Nat.le_refl _, fun j => ?_⟩
  rw [Nat.add_comm, M.runFor, h, ← e]
  rfl

abbrev kp : Sre.Kept := { lastmark := -1, lastindex := -1, whole := true, marks := #[] }
abbrev lp : Array Loop := #[{ pc := 0, outer := none }]
abbrev ns (p : Nat) (om : Bool) : Sre.Frame := { wait := .nextStart, pc := 9, pos := p, outermost := om }
abbrev pm (p : Nat) (om : Bool) (c : Int) : Sre.Frame := { wait := .possMore, pc := 11, pos := p, outermost := om, count := c, kept := kp, loop := 0 }
abbrev nb (a p : Nat) : Sre.Frame := { wait := .nextBranch, pc := a, pos := p, outermost := false, kept := kp }

section
variable {t : Array Nat} {start : Nat} {must : Bool} {pos handed : Nat} {om : Bool} {loops : Array Loop} {inner : Option Nat} {frames : List Sre.Frame} {weight : Nat} {seen : Seen}

theorem lit9_end (h : t.size ≤ pos) : ∃ seen', (S t start must 9 pos handed om loops inner frames weight none seen).step = S t start must 9 pos handed om loops inner frames weight (some false) seen' :=
  ⟨seen.add 16, by simp [M.step, M.exec, M.word, QC, ops, M.say, h]⟩
theorem lit9_no (hp : pos < t.size) (hc : (t[pos]?.getD 0 == 34) = false) : ∃ seen', (S t start must 9 pos handed om loops inner frames weight none seen).step = S t start must 9 pos handed om loops inner frames weight (some false) seen' :=
  ⟨seen.add 16, by simp [M.step, M.exec, M.word, QC, ops, accepts, M.say, hc, Nat.not_le.mpr hp]⟩
theorem lit9_yes (hp : pos < t.size) (hc : (t[pos]?.getD 0 == 34) = true) : ∃ seen', (S t start must 9 pos handed om loops inner frames weight none seen).step = S t start must 11 (pos + 1) handed om loops inner frames weight none seen' :=
  ⟨seen.add 16, by simp [M.step, M.exec, M.word, QC, ops, accepts, itemWidth, hc, Nat.not_le.mpr hp]⟩
theorem lit28_end (h : t.size ≤ pos) : ∃ seen', (S t start must 28 pos handed om loops inner frames weight none seen).step = S t start must 28 pos handed om loops inner frames weight (some false) seen' :=
  ⟨seen.add 16, by simp [M.step, M.exec, M.word, QC, ops, M.say, h]⟩
theorem lit28_no (hp : pos < t.size) (hc : (t[pos]?.getD 0 == 92) = false) : ∃ seen', (S t start must 28 pos handed om loops inner frames weight none seen).step = S t start must 28 pos handed om loops inner frames weight (some false) seen' :=
  ⟨seen.add 16, by simp [M.step, M.exec, M.word, QC, ops, accepts, M.say, hc, Nat.not_le.mpr hp]⟩
theorem lit35_end (h : t.size ≤ pos) : ∃ seen', (S t start must 35 pos handed om loops inner frames weight none seen).step = S t start must 35 pos handed om loops inner frames weight (some false) seen' :=
  ⟨seen.add 16, by simp [M.step, M.exec, M.word, QC, ops, M.say, h]⟩
theorem lit35_yes (hp : pos < t.size) (hc : (t[pos]?.getD 0 == 34) = true) : ∃ seen', (S t start must 35 pos handed om loops inner frames weight none seen).step = S t start must 37 (pos + 1) handed om loops inner frames weight none seen' :=
  ⟨seen.add 16, by simp [M.step, M.exec, M.word, QC, ops, accepts, itemWidth, hc, Nat.not_le.mpr hp]⟩
theorem lit35_no (hp : pos < t.size) (hc : (t[pos]?.getD 0 == 34) = false) : ∃ seen', (S t start must 35 pos handed om loops inner frames weight none seen).step = S t start must 35 pos handed om loops inner frames weight (some false) seen' :=
  ⟨seen.add 16, by simp [M.step, M.exec, M.word, QC, ops, accepts, M.say, hc, Nat.not_le.mpr hp]⟩
theorem poss11 : ∃ seen', (S t start must 11 pos handed om #[] none frames 1 none seen).step = S t start must 15 pos pos false lp (some 0) (pm pos om 0 :: frames) 2 none seen' :=
  ⟨seen.add 28, by simp [M.step, M.exec, M.word, QC, ops, M.possessive, M.attempt, M.frame, M.keep]⟩
theorem br15 : ∃ seen', (S t start must 15 pos handed false lp (some 0) frames 2 none seen).step = S t start must 17 pos pos false lp (some 0) (nb 16 pos :: frames) 3 none seen' :=
  ⟨seen.add 7, by simp [M.step, M.exec, M.word, QC, ops, M.alternative, M.attempt, M.frame, M.keep]⟩
theorem in17_end (h : t.size ≤ pos) : ∃ seen', (S t start must 17 pos handed om loops inner frames weight none seen).step = S t start must 17 pos handed om loops inner frames weight (some false) seen' :=
  ⟨seen.add 13, by simp [M.step, M.exec, M.word, QC, ops, M.say, h]⟩
theorem in17_quote (hp : pos < t.size) (hc : (t[pos]?.getD 0 == 34) = true) : ∃ seen', (S t start must 17 pos handed om loops inner frames weight none seen).step = S t start must 17 pos handed om loops inner frames weight (some false) seen' :=
  ⟨_, by simp [M.step, M.exec, M.word, QC, ops, accepts, inSet, M.say, hc, Nat.not_le.mpr hp]; rfl⟩
theorem in17_yes (hp : pos < t.size) (hc : (t[pos]?.getD 0 == 34) = false) (hd : (t[pos]?.getD 0 == 92) = false) : ∃ seen', (S t start must 17 pos handed om loops inner frames weight none seen).step = S t start must 25 (pos + 1) handed om loops inner frames weight none seen' :=
  ⟨_, by simp [M.step, M.exec, M.word, QC, ops, accepts, inSet, itemWidth, hc, hd, Nat.not_le.mpr hp]; rfl⟩
theorem jump25 : ∃ seen', (S t start must 25 pos handed om loops inner frames weight none seen).step = S t start must 34 pos handed om loops inner frames weight none seen' :=
  ⟨seen.add 15, by simp [M.step, M.exec, M.word, QC, ops]⟩
theorem succ34 : ∃ seen', (S t start must 34 pos handed false loops inner frames weight none seen).step = S t start must 34 pos pos false loops inner frames weight (some true) seen' :=
  ⟨seen.add 1, by simp [M.step, M.exec, M.word, QC, ops, M.say]⟩
theorem succ37 (h : pos ≠ start) : ∃ seen', (S t start must 37 pos handed om loops inner frames weight none seen).step = S t start must 37 pos pos om loops inner frames weight (some true) seen' :=
  ⟨seen.add 1, by simp [M.step, M.exec, M.word, QC, ops, M.say, h]⟩
theorem res_nb_true {pc a p : Nat} : (S t start must pc pos handed om loops inner (nb a p :: frames) 3 (some true) seen).step = S t start must a p handed false loops inner frames 2 (some true) seen := by
  simp [M.step, M.resume, M.say]
theorem res_pm_true {pc p : Nat} {o2 : Bool} {c : Int} (h : p ≠ handed) (h0 : ¬ c + 1 < 0) : (S t start must pc pos handed om lp (some 0) (pm p o2 c :: frames) 2 (some true) seen).step = S t start must 15 handed handed false lp (some 0) (pm handed o2 (c + 1) :: frames) 2 none seen := by
  simp [M.step, M.resume, M.say, M.possessive, M.word, QC, M.attempt, M.frame, M.keep, h, h0, maxRepeat]
theorem res_nb_false16 {pc p : Nat} : (S t start must pc pos handed om lp (some 0) (nb 16 p :: frames) 3 (some false) seen).step = S t start must 28 p p false lp (some 0) (nb 27 p :: frames) 3 none seen := by
  simp [M.step, M.resume, M.say, M.alternative, M.putBack, QC, M.attempt, M.frame]
theorem res_nb_false27 {pc p : Nat} : (S t start must pc pos handed om lp (some 0) (nb 27 p :: frames) 3 (some false) seen).step = S t start must 27 p handed false lp (some 0) frames 2 (some false) seen := by
  simp [M.step, M.resume, M.say, M.alternative, M.putBack, QC]
theorem res_pm_false {pc p : Nat} {o2 : Bool} {c : Int} (h0 : ¬ c < 0) : (S t start must pc pos handed om lp (some 0) (pm p o2 c :: frames) 2 (some false) seen).step = S t start must 35 p p o2 #[] none frames 1 none seen := by
  simp [M.step, M.resume, M.say, M.possessive, M.putBack, M.word, QC, M.loopAt, h0]
theorem res_ns_true {pc p : Nat} {o2 : Bool} : (S t start must pc pos handed om #[] none [ns p o2] 1 (some true) seen).step = S t start must 9 p handed o2 #[] none [] 0 (some true) seen := by
  simp [M.step, M.resume, M.say]
theorem res_ns_next {pc p : Nat} {o2 : Bool} (h : p < t.size) : (S t start must pc pos handed om #[] none [ns p o2] 1 (some false) seen).step = S t (p + 1) false 9 (p + 1) (p + 1) false #[] none [ns (p + 1) false] 1 none seen := by
  simp [M.step, M.resume, M.attemptFrom, M.hasFirstSet, M.attemptAt, M.attempt, QC, ops, h]
theorem res_ns_last {pc p : Nat} {o2 : Bool} (h : t.size ≤ p) : (S t start must pc pos handed om #[] none [ns p o2] 1 (some false) seen).step = S t start must 9 p handed o2 #[] none [] 0 (some false) seen := by
  simp [M.step, M.resume, M.say, Nat.not_lt.mpr h]
theorem fin_m {pc : Nat} {b : Bool} : (S t start must pc pos handed om #[] none [] 0 (some b) seen).step = { S t start must pc pos handed om #[] none [] 0 (some b) seen with outcome := some (if b then .matched else .failed) } := by
  simp [M.step]

theorem at_drop {p c : Nat} {r : List Nat} (h : t.toList.drop p = c :: r) : p < t.size ∧ t[p]?.getD 0 = c ∧ t.toList.drop (p + 1) = r := by
  have hp : p < t.toList.length := by
    apply Nat.lt_of_not_le
    intro q
    rw [List.drop_eq_nil_of_le q] at h
    cases h
  rw [List.drop_eq_getElem_cons hp] at h
  injection h with h1 h2
  have hp' : p < t.size := by simpa using hp
  refine ⟨hp', ?_, h2⟩
  rw [← h1]
  simp [hp']
theorem at_nil {p : Nat} (h : t.toList.drop p = []) : t.size ≤ p := by
  have := List.drop_eq_nil_iff.mp h
  simpa using this

theorem go1 {m m' : M} (h : m.outcome = none) (e : m.step = m') : Go 1 m m' := Go.step h e

/-- the inner run: to the next quotation mark, or to the end -/
theorem scan (hb : ∀ c ∈ t.toList, c ≠ 92) {o : Bool} {rest : List Sre.Frame} : ∀ (l : List Nat) (p : Nat) (c : Int) (seen : Seen), ¬ c < 0 → t.toList.drop p = l →
    ∃ mid r seen', l = mid ++ r ∧ 34 ∉ mid ∧ (r = [] ∨ ∃ r', r = 34 :: r') ∧ t.toList.drop (p + mid.length) = r ∧
      Go (6 * mid.length + 6) (S t start must 15 p p false lp (some 0) (pm p o c :: rest) 2 none seen) (S t start must 35 (p + mid.length) (p + mid.length) o #[] none rest 1 none seen')
  | [], p, c, seen, h0, h => by
    obtain ⟨s1, e1⟩ := br15 (t := t) (start := start) (must := must) (pos := p) (handed := p) (frames := pm p o c :: rest) (seen := seen)
    obtain ⟨s2, e2⟩ := in17_end (t := t) (start := start) (must := must) (pos := p) (handed := p) (om := false) (loops := lp) (inner := some 0) (frames := nb 16 p :: pm p o c :: rest) (weight := 3) (seen := s1) (at_nil h)
    have e3 := res_nb_false16 (t := t) (start := start) (must := must) (pos := p) (handed := p) (om := false) (frames := pm p o c :: rest) (pc := 17) (p := p) (seen := s2)
    obtain ⟨s4, e4⟩ := lit28_end (t := t) (start := start) (must := must) (pos := p) (handed := p) (om := false) (loops := lp) (inner := some 0) (frames := nb 27 p :: pm p o c :: rest) (weight := 3) (seen := s2) (at_nil h)
    have e5 := res_nb_false27 (t := t) (start := start) (must := must) (pos := p) (handed := p) (om := false) (frames := pm p o c :: rest) (pc := 28) (p := p) (seen := s4)
    have e6 := res_pm_false (t := t) (start := start) (must := must) (pos := p) (handed := p) (om := false) (frames := rest) (pc := 27) (p := p) (o2 := o) (seen := s4) h0
    exact ⟨[], [], s4, rfl, List.not_mem_nil, .inl rfl, h, (go1 rfl e1).trans ((go1 rfl e2).trans ((go1 rfl e3).trans ((go1 rfl e4).trans ((go1 rfl e5).trans (go1 rfl e6)))))⟩
  | d :: l, p, c, seen, h0, h => by
    obtain ⟨hp, hd, hr⟩ := at_drop h
    have h92 : d ≠ 92 := hb d (List.mem_of_mem_drop (h ▸ List.mem_cons_self ..))
    obtain ⟨s1, e1⟩ := br15 (t := t) (start := start) (must := must) (pos := p) (handed := p) (frames := pm p o c :: rest) (seen := seen)
    by_cases hq : d = 34
    · subst hq
      obtain ⟨s2, e2⟩ := in17_quote (t := t) (start := start) (must := must) (pos := p) (handed := p) (om := false) (loops := lp) (inner := some 0) (frames := nb 16 p :: pm p o c :: rest) (weight := 3) (seen := s1) hp (by rw [hd]; rfl)
      have e3 := res_nb_false16 (t := t) (start := start) (must := must) (pos := p) (handed := p) (om := false) (frames := pm p o c :: rest) (pc := 17) (p := p) (seen := s2)
      obtain ⟨s4, e4⟩ := lit28_no (t := t) (start := start) (must := must) (pos := p) (handed := p) (om := false) (loops := lp) (inner := some 0) (frames := nb 27 p :: pm p o c :: rest) (weight := 3) (seen := s2) hp (by rw [hd]; rfl)
      have e5 := res_nb_false27 (t := t) (start := start) (must := must) (pos := p) (handed := p) (om := false) (frames := pm p o c :: rest) (pc := 28) (p := p) (seen := s4)
      have e6 := res_pm_false (t := t) (start := start) (must := must) (pos := p) (handed := p) (om := false) (frames := rest) (pc := 27) (p := p) (o2 := o) (seen := s4) h0
      exact ⟨[], _, s4, rfl, List.not_mem_nil, .inr ⟨l, rfl⟩, h, (go1 rfl e1).trans ((go1 rfl e2).trans ((go1 rfl e3).trans ((go1 rfl e4).trans ((go1 rfl e5).trans (go1 rfl e6)))))⟩
    · obtain ⟨s2, e2⟩ := in17_yes (t := t) (start := start) (must := must) (pos := p) (handed := p) (om := false) (loops := lp) (inner := some 0) (frames := nb 16 p :: pm p o c :: rest) (weight := 3) (seen := s1) hp (by rw [hd]; simpa using hq) (by rw [hd]; simpa using h92)
      obtain ⟨s3, e3⟩ := jump25 (t := t) (start := start) (must := must) (pos := p + 1) (handed := p) (om := false) (loops := lp) (inner := some 0) (frames := nb 16 p :: pm p o c :: rest) (weight := 3) (seen := s2)
      obtain ⟨s4, e4⟩ := succ34 (t := t) (start := start) (must := must) (pos := p + 1) (handed := p) (loops := lp) (inner := some 0) (frames := nb 16 p :: pm p o c :: rest) (weight := 3) (seen := s3)
      have e5 := res_nb_true (t := t) (start := start) (must := must) (pos := p + 1) (handed := p + 1) (om := false) (loops := lp) (inner := some 0) (frames := pm p o c :: rest) (pc := 34) (a := 16) (p := p) (seen := s4)
      have e6 := res_pm_true (t := t) (start := start) (must := must) (pos := p) (handed := p + 1) (om := false) (frames := rest) (pc := 16) (p := p) (o2 := o) (c := c) (seen := s4) (by omega) (by omega)
      obtain ⟨mid, r, s5, hl, hm, hr', hd', g⟩ := scan hb l (p + 1) (c + 1) s4 (by omega) hr
      refine ⟨d :: mid, r, s5, by rw [hl]; rfl, ?_, hr', ?_, ?_⟩
      · intro hm'
        rcases List.mem_cons.mp hm' with e | e
        · exact hq e.symm
        · exact hm e
      · rw [List.length_cons, ← hd']
        congr 1
        omega
      · have q := (go1 rfl e1).trans ((go1 rfl e2).trans ((go1 rfl e3).trans ((go1 rfl e4).trans ((go1 rfl e5).trans ((go1 rfl e6).trans g)))))
        have e7 : p + (d :: mid).length = p + 1 + mid.length := by rw [List.length_cons]; omega
        rw [e7]
        exact q.le (by rw [List.length_cons]; omega)

/-- what a search finds -/
theorem search (hb : ∀ c ∈ t.toList, c ≠ 92) : ∀ (l : List Nat) (s : Nat) (must : Bool) (om : Bool) (seen : Seen), t.toList.drop s = l → s ≤ t.size →
    (∃ pre mid r m', l = pre ++ 34 :: (mid ++ 34 :: r) ∧ 34 ∉ pre ∧ 34 ∉ mid ∧ Go ((6 * l.length + 20) * (l.length + 1)) (S t s must 9 s s om #[] none [ns s om] 1 none seen) m' ∧ m'.outcome = some .matched ∧ m'.start = s + pre.length ∧ m'.handed = s + pre.length + mid.length + 2) ∨
    (∃ pre mid m', (l = pre ∨ l = pre ++ 34 :: mid) ∧ 34 ∉ pre ∧ 34 ∉ mid ∧ Go ((6 * l.length + 20) * (l.length + 1)) (S t s must 9 s s om #[] none [ns s om] 1 none seen) m' ∧ m'.outcome = some .failed)
  | [], s, must, om, seen, h, hs => by
    obtain ⟨s1, e1⟩ := lit9_end (t := t) (start := s) (must := must) (pos := s) (handed := s) (om := om) (loops := #[]) (inner := none) (frames := [ns s om]) (weight := 1) (seen := seen) (at_nil h)
    have e2 := res_ns_last (t := t) (start := s) (must := must) (pos := s) (handed := s) (om := om) (pc := 9) (p := s) (o2 := om) (seen := s1) (at_nil h)
    have e3 := fin_m (t := t) (start := s) (must := must) (pos := s) (handed := s) (om := om) (pc := 9) (b := false) (seen := s1)
    exact .inr ⟨[], [], _, .inl rfl, List.not_mem_nil, List.not_mem_nil, ((go1 rfl e1).trans ((go1 rfl e2).trans (go1 rfl e3))).le (by simp), rfl⟩
  | d :: l, s, must, om, seen, h, hs => by
    obtain ⟨hp, hd, hr⟩ := at_drop h
    have big : (6 * l.length + 20) * (l.length + 1) + 6 * l.length + 20 ≤ (6 * (d :: l).length + 20) * ((d :: l).length + 1) := by
      rw [List.length_cons]
      have e1 : (6 * (l.length + 1) + 20) * (l.length + 1 + 1) = (6 * (l.length + 1) + 20) * (l.length + 1) + (6 * (l.length + 1) + 20) := by rw [Nat.mul_add, Nat.mul_one]
      have e2 : (6 * l.length + 20) * (l.length + 1) ≤ (6 * (l.length + 1) + 20) * (l.length + 1) := Nat.mul_le_mul_right _ (by omega)
      omega
    have next : ∀ {pc pos handed : Nat} {seen1 : Seen} {n : Nat} {must' : Bool}, n + 1 ≤ 6 * l.length + 20 → Go n (S t s must 9 s s om #[] none [ns s om] 1 none seen) (S t s must' pc pos handed om #[] none [ns s om] 1 (some false) seen1) →
        d ≠ 34 →
        (∃ pre mid r m', d :: l = pre ++ 34 :: (mid ++ 34 :: r) ∧ 34 ∉ pre ∧ 34 ∉ mid ∧ Go ((6 * (d :: l).length + 20) * ((d :: l).length + 1)) (S t s must 9 s s om #[] none [ns s om] 1 none seen) m' ∧ m'.outcome = some .matched ∧ m'.start = s + pre.length ∧ m'.handed = s + pre.length + mid.length + 2) ∨
        (∃ pre mid m', (d :: l = pre ∨ d :: l = pre ++ 34 :: mid) ∧ 34 ∉ pre ∧ 34 ∉ mid ∧ Go ((6 * (d :: l).length + 20) * ((d :: l).length + 1)) (S t s must 9 s s om #[] none [ns s om] 1 none seen) m' ∧ m'.outcome = some .failed) := by
      intro pc pos handed seen1 n must' hn g hd34
      have e2 := res_ns_next (t := t) (start := s) (must := must') (pos := pos) (handed := handed) (om := om) (pc := pc) (p := s) (o2 := om) (seen := seen1) hp
      rcases search hb l (s + 1) false false seen1 hr hp with ⟨pre, mid, r, m', hl, h1, h2, g', ho, hs', hh⟩ | ⟨pre, mid, m', hl, h1, h2, g', ho⟩
      · refine .inl ⟨d :: pre, mid, r, m', by rw [hl]; rfl, ?_, h2, (g.trans ((go1 rfl e2).trans g')).le (by omega), ho, ?_, ?_⟩
        · intro q; rcases List.mem_cons.mp q with e | e
          · exact hd34 e.symm
          · exact h1 e
        · rw [hs', List.length_cons]; omega
        · rw [hh, List.length_cons]; omega
      · refine .inr ⟨d :: pre, mid, m', ?_, ?_, h2, (g.trans ((go1 rfl e2).trans g')).le (by omega), ho⟩
        · rcases hl with hl | hl
          · exact .inl (by rw [hl])
          · exact .inr (by rw [hl]; rfl)
        · intro q; rcases List.mem_cons.mp q with e | e
          · exact hd34 e.symm
          · exact h1 e
    by_cases hq : d = 34
    · subst hq
      obtain ⟨s1, e1⟩ := lit9_yes (t := t) (start := s) (must := must) (pos := s) (handed := s) (om := om) (loops := #[]) (inner := none) (frames := [ns s om]) (weight := 1) (seen := seen) hp (by rw [hd]; rfl)
      obtain ⟨s2, e2⟩ := poss11 (t := t) (start := s) (must := must) (pos := s + 1) (handed := s) (om := om) (frames := [ns s om]) (seen := s1)
      obtain ⟨mid, r, s3, hl, hm, hr', hd', g⟩ := scan (start := s) (must := must) (o := om) (rest := [ns s om]) hb l (s + 1) 0 s2 (by decide) hr
      have g3 := (go1 rfl e1).trans ((go1 rfl e2).trans g)
      have hlen : mid.length ≤ l.length := by rw [hl, List.length_append]; omega
      rcases hr' with rfl | ⟨r', rfl⟩
      · -- no closing one: every later start fails too
        obtain ⟨s4, e4⟩ := lit35_end (t := t) (start := s) (must := must) (pos := s + 1 + mid.length) (handed := s + 1 + mid.length) (om := om) (loops := #[]) (inner := none) (frames := [ns s om]) (weight := 1) (seen := s3) (at_nil hd')
        have e5 := res_ns_next (t := t) (start := s) (must := must) (pos := s + 1 + mid.length) (handed := s + 1 + mid.length) (om := om) (pc := 35) (p := s) (o2 := om) (seen := s4) hp
        rcases search hb l (s + 1) false false s4 hr hp with ⟨pre, mid', r, m', hl', h1, h2, g', ho, hs', hh⟩ | ⟨pre, mid', m', hl', h1, h2, g', ho⟩
        · exfalso
          rw [List.append_nil] at hl
          rw [hl] at hl'
          exact hm (hl' ▸ List.mem_append_right _ (List.mem_cons_self ..))
        · refine .inr ⟨[], l, m', .inr rfl, List.not_mem_nil, ?_, (g3.trans ((go1 rfl e4).trans ((go1 rfl e5).trans g'))).le (by omega), ho⟩
          rw [List.append_nil] at hl
          rw [hl]; exact hm
      · obtain ⟨hp5, hd5, hr5⟩ := at_drop hd'
        obtain ⟨s4, e4⟩ := lit35_yes (t := t) (start := s) (must := must) (pos := s + 1 + mid.length) (handed := s + 1 + mid.length) (om := om) (loops := #[]) (inner := none) (frames := [ns s om]) (weight := 1) (seen := s3) hp5 (by rw [hd5]; rfl)
        obtain ⟨s5, e5⟩ := succ37 (t := t) (start := s) (must := must) (pos := s + 1 + mid.length + 1) (handed := s + 1 + mid.length) (om := om) (loops := #[]) (inner := none) (frames := [ns s om]) (weight := 1) (seen := s4) (by omega)
        have e6 := res_ns_true (t := t) (start := s) (must := must) (pos := s + 1 + mid.length + 1) (handed := s + 1 + mid.length + 1) (om := om) (pc := 37) (p := s) (o2 := om) (seen := s5)
        have e7 := fin_m (t := t) (start := s) (must := must) (pos := s) (handed := s + 1 + mid.length + 1) (om := om) (pc := 9) (b := true) (seen := s5)
        refine .inl ⟨[], mid, r', _, by rw [hl]; rfl, List.not_mem_nil, hm, (g3.trans ((go1 rfl e4).trans ((go1 rfl e5).trans ((go1 rfl e6).trans (go1 rfl e7))))).le (by omega), rfl, rfl, ?_⟩
        show s + 1 + mid.length + 1 = s + ([] : List Nat).length + mid.length + 2
        rw [List.length_nil]; omega
    · obtain ⟨s1, e1⟩ := lit9_no (t := t) (start := s) (must := must) (pos := s) (handed := s) (om := om) (loops := #[]) (inner := none) (frames := [ns s om]) (weight := 1) (seen := seen) hp (by rw [hd]; simpa using hq)
      exact next (n := 1) (by omega) (go1 rfl e1) hq
end
end Mine
end

section
open PySem PySem.W PyProof.Rows PySem.Calls PySem.Builtin PySem.Builtin.Re
namespace Mine
set_option maxRecDepth 100000
set_option maxHeartbeats 8000000

theorem slot_sub : Slot "re.Pattern" "sub" "re.Pattern.sub" :=
  .of (owner := "re.Pattern") (n := "sub") (by rw [typeLookup_type, builtinLookup_eq_fast]; kernel_rfl) (by decide +kernel) (by decide +kernel) (by decide +kernel)
    (by first | exact .inl (by decide +kernel) | exact .inr (by decide +kernel)) (by rw [isSubtype_type]; kernel_rfl)
theorem type_sub : typeOf (.builtin "re.Pattern.sub") = pure (.type "method_descriptor") := by show builtinType _ = _; rw [builtinType_eq_fast]; kernel_rfl
theorem entry_sub : entryFor table "re.Pattern.sub" = some Builtin.«re.Pattern.sub» := entryFor_of_tree (by kernel_rfl)
theorem entry_loop : entryFor table "re.Pattern.sub.loop" = some Builtin.«re.Pattern.sub.loop» := entryFor_of_tree (by kernel_rfl)
theorem args_sub (a b c : Value) : argsOk "re.Pattern.sub" ⟨[a, b, c], []⟩ := by unfold argsOk; kernel_rfl
theorem pattern_attrs : PlainAttrs "re.Pattern" :=
  ⟨⟨"object.__getattribute__", by rw [typeLookup_type, builtinLookup_eq_fast]; kernel_rfl, by decide +kernel⟩, by rw [typeLookup_type, builtinLookup_eq_fast]; kernel_rfl⟩
theorem look_call : typeLookup (.type "bytes") "__call__" = pure none := by rw [typeLookup_type, builtinLookup_eq_fast]; kernel_rfl
theorem slot_bjoin : Slot "bytes" "join" "bytes.join" :=
  .of (owner := "bytes") (n := "join") (by rw [typeLookup_type, builtinLookup_eq_fast]; kernel_rfl) (by decide +kernel) (by decide +kernel) (by decide +kernel)
    (by first | exact .inl (by decide +kernel) | exact .inr (by decide +kernel)) (by rw [isSubtype_type]; kernel_rfl)
theorem entry_bjoin : entryFor table "bytes.join" = some Builtin.«bytes.join» := entryFor_of_tree (by kernel_rfl)
theorem args_bjoin (a b : Value) : argsOk "bytes.join" ⟨[a, b], []⟩ := by unfold argsOk; kernel_rfl
theorem slot_bcount : Slot "bytes" "count" "bytes.count" :=
  .of (owner := "bytes") (n := "count") (by rw [typeLookup_type, builtinLookup_eq_fast]; kernel_rfl) (by decide +kernel) (by decide +kernel) (by decide +kernel)
    (by first | exact .inl (by decide +kernel) | exact .inr (by decide +kernel)) (by rw [isSubtype_type]; kernel_rfl)
theorem type_bcount : typeOf (.builtin "bytes.count") = pure (.type "method_descriptor") := by show builtinType _ = _; rw [builtinType_eq_fast]; kernel_rfl
theorem entry_bcount : entryFor table "bytes.count" = some Builtin.«bytes.count» := entryFor_of_tree (by kernel_rfl)
theorem args_bcount (a b : Value) : argsOk "bytes.count" ⟨[a, b], []⟩ := by unfold argsOk; kernel_rfl
theorem bytes_attrs : PlainAttrs "bytes" :=
  ⟨⟨"bytes.__getattribute__", by rw [typeLookup_type, builtinLookup_eq_fast]; kernel_rfl, by decide +kernel⟩, by rw [typeLookup_type, builtinLookup_eq_fast]; kernel_rfl⟩
end Mine
end

section
open PySem PySem.W PyProof.Rows PySem.Calls PySem.Builtin PySem.Builtin.Re
namespace Mine
set_option maxRecDepth 100000
set_option maxHeartbeats 8000000

theorem asStr_bytes (b : Array UInt8) (t : Tok) : asStr? (.bytes b t) = pure none := rfl
theorem k89 (P : Params) : (hd.heap_39 P).lookup 89 = some ⟨.type "re.Pattern", none, .fields #[.bytes #[34, 40, 63, 58, 91, 94, 34, 92, 92, 93, 124, 92, 92, 46, 41, 42, 43, 34] 368, .int 0 409, .int 0 0, .none, .none, .ref 88, .int 1 0], #[]⟩ := by rfl
abbrev qitems : Array Value := #[.int 14 0, .int 8 0, .int 1 0, .int 2 0, .int 4294967295 0, .int 1 0, .int 1 0, .int 34 0, .int 0 0, .int 16 0, .int 34 0, .int 28 0, .int 22 0, .int 0 0, .int 4294967295 0, .int 7 0, .int 11 0, .int 13 0, .int 7 0, .int 21 0, .int 16 0, .int 34 0, .int 16 0, .int 92 0, .int 0 0, .int 15 0, .int 8 0, .int 6 0, .int 16 0, .int 92 0, .int 2 0, .int 15 0, .int 2 0, .int 0 0, .int 1 0, .int 16 0, .int 34 0, .int 1 0]
theorem k88 (P : Params) : (hd.heap_39 P).lookup 88 = some ⟨.type "tuple", none, .seq qitems 0, #[]⟩ := by rfl

abbrev finQ {M : Model} (A : Around) (Q : Value → Shared → Prop) (E : Value → Shared → Prop) (fin : Fin) (s' : Shared) : Prop :=
  match fin with
  | .done f => (match (Except.ok f : Result) with | .ok (.ret v) => Q v s' | .ok _ => False | .error e => E e s')
  | .again c' => c'.quiet = true ∧ codeAny M A c' (fun r s' => match r with | .ok (.ret v) => Q v s' | .ok _ => False | .error e => E e s') s'

section
variable {prog : Program} {w : World} {A : Around} {E : Value → Shared → Prop} {s : Shared}

theorem call_again {T : String} {name : Str} {id : String} {b : Builtin} {self : Value} {rest : List Value} {Q : Value → Shared → Prop} (h : Slot T name id) (hT : s.TypeIs self T) (hb : entryFor table id = some b)
    (ha : argsOk id ⟨self :: rest, []⟩) (hc : wpAny (model prog w) A.in1 (b ⟨self :: rest, []⟩) (finQ (M := model prog w) A Q E) E s) : wpAny (model prog w) A (call (.builtin id) (self :: rest)) Q E s :=
  wpAny_call (codeAny_call_builtin h.plain hb (h.check _ _ _ _ _ _ _ _ hT ha (wpAny_mono hc (fun fin s' h' => by cases fin <;> exact h') fun _ _ h' => h')))

theorem wp_no {α : Type} {c : Bool} {x y : Sem α} {Q : α → Shared → Prop} (hc : c = false) (h : wpAny (model prog w) A y Q E s) : wpAny (model prog w) A (if c = true then x else y) Q E s := by subst hc; exact h
theorem wp_yes {α : Type} {c : Bool} {x y : Sem α} {Q : α → Shared → Prop} (hc : c = true) (h : wpAny (model prog w) A x Q E s) : wpAny (model prog w) A (if c = true then x else y) Q E s := by subst hc; exact h
/-- the target of a search: the pattern at its place, bytes -/
abbrev tgt (b : Array UInt8) (t : Tok) : ReTarget := { pattern := .ref 89, string := .bytes b t, code := QC, text := b.map (·.toNat), kind := 1, groups := 0, pos := 0, lim := (b.map (·.toNat)).size }

theorem whole_target {b : Array UInt8} {t : Tok} {Q : ReTarget → Shared → Prop} (X : (hd.heap_39 w.params).In s.heap) (h : Q (tgt b t) s) : wpAny (model prog w) A (reWholeTarget (.ref 89) (.bytes b t)) Q E s := by
  unfold reWholeTarget
  refine wpAny_bind (wpAny_fieldsOf (X _ _ (k89 _)) rfl ?_)
  unfold reTextOf
  refine wpAny_bind (wpAny_bind (wpAny_of_eq (asStr_bytes b t) ?_))
  dsimp only
  refine wpAny_bind (wpAny_of_eq KBy.quiet_eq ?_)
  refine wpAny_pure ?_
  refine wp_no rfl (wp_no rfl ?_)
  unfold reNoCollectionInside
  refine wpAny_bind (wp_yes rfl (wpAny_bind (wpAny_of_eq KBy.isInstance_eq ?_)))
  refine wp_no rfl (wpAny_pure ?_)
  unfold reRawItems
  refine wpAny_bind (wpAny_bind (wpAny_seqItems (X _ _ (k88 _)) rfl (wpAny_pure ?_)))
  have e : ((Array.map reRawOf (Option.getD (some qitems) #[])).map fun i => i.toNat) = QC := by decide +kernel
  rw [e]
  exact wpAny_pure h

theorem runFor_done {m : Sre.M} (h : m.outcome.isSome = true) : ∀ k, m.runFor k = m
  | 0 => rfl
  | k + 1 => by rw [Sre.M.runFor, if_pos h]
theorem runFor_one {m : Sre.M} (h : m.outcome = none) (j : Nat) : m.runFor (1 + j) = m.step.runFor j := by
  rw [Nat.add_comm, Sre.M.runFor, h]
  rfl
theorem runFor_add (m : Sre.M) (a b : Nat) : m.runFor (a + b) = (m.runFor a).runFor b := by
  induction a generalizing m with
  | zero => rw [Nat.zero_add]; rfl
  | succ a ih =>
    rw [Nat.succ_add, Sre.M.runFor, Sre.M.runFor]
    by_cases h : m.outcome.isSome = true
    · rw [if_pos h, if_pos h, runFor_done h]
    · rw [if_neg h, if_neg h, ih]

theorem drive {m' : Sre.M} {Q : Sre.M → Shared → Prop} (hs : m'.outcome.isSome = true) (h : Q m' s) : ∀ (turns k : Nat) (m : Sre.M), (∀ j, m.runFor (k + j) = m') → k ≤ 4 * turns → 0 < turns → wpAny (model prog w) A (reDrive turns m) Q E s
  | 0, _, _, _, _, h0 => absurd h0 (Nat.lt_irrefl 0)
  | turns + 1, k, m, hk, hle, _ => by
    unfold reDrive
    by_cases h1 : (m.runFor 4).outcome.isSome = true
    · have e : m.runFor 4 = m' := by
        have q := hk 4
        rw [Nat.add_comm, runFor_add, runFor_done h1] at q
        exact q
      show wpAny _ _ (if ((m.runFor reTurnSteps).outcome.isSome) = true then _ else _) _ _ _
      refine wp_yes h1 (wpAny_pure ?_)
      show Q (m.runFor 4) s
      rw [e]; exact h
    · have hk4 : 4 < k := by
        apply Nat.lt_of_not_le
        intro q
        have e := hk (4 - k)
        rw [Nat.add_sub_cancel' q] at e
        exact h1 (by rw [e]; exact hs)
      refine wp_no (Bool.eq_false_iff.mpr h1) (wpAny_bind (wpAny_rule ?_))
      refine drive hs h turns (k - 4) _ (fun j => ?_) (by omega) (by omega)
      show (m.runFor 4).runFor (k - 4 + j) = m'
      rw [← runFor_add, ← hk j]
      congr 1
      omega

theorem run_to_end {m m' : Sre.M} {k : Nat} {Q : Option Sre.M → Shared → Prop} (hk : ∀ j, m.runFor (k + j) = m') (hle : k ≤ 4 * 2 ^ 64)
    (h : (m'.outcome = some .matched ∧ Q (some m') s) ∨ (m'.outcome = some .failed ∧ Q none s)) : wpAny (model prog w) A (reRunToEnd m) Q E s := by
  unfold reRunToEnd
  have hs : m'.outcome.isSome = true := by rcases h with h | h <;> rw [h.1] <;> rfl
  refine wpAny_bind (drive hs ?_ _ k m hk hle (by decide))
  refine wpAny_bind (wpAny_forIn_list _ (fun _ _ s' => s' = s) _ (fun x rest u s' hs' => ?_) (fun u s' hs' => ?_) _ _ rfl)
  · subst hs'
    by_cases hq : m'.seen.has x = true
    · rw [if_pos hq]
      exact wpAny_bind (wpAny_rule (wpAny_pure rfl))
    · rw [if_neg hq]
      exact wpAny_pure rfl
  · subst hs'
    rcases h with ⟨e, q⟩ | ⟨e, q⟩
    · rw [e]; exact wpAny_pure q
    · rw [e]; exact wpAny_pure q

theorem next_found {b : Array UInt8} {t : Tok} {start : Nat} {must : Bool} {Q : Option Sre.M → Shared → Prop} (hb : ∀ c ∈ (b.map (·.toNat)).toList, c ≠ 92) (hst : start ≤ b.size) (hsz : b.size ≤ 1048576)
    (hit : ∀ pre mid r m', (b.map (·.toNat)).toList.drop start = pre ++ 34 :: (mid ++ 34 :: r) → 34 ∉ pre → 34 ∉ mid → m'.start = start + pre.length → m'.handed = start + pre.length + mid.length + 2 → Q (some m') s)
    (miss : ∀ pre mid, ((b.map (·.toNat)).toList.drop start = pre ∨ (b.map (·.toNat)).toList.drop start = pre ++ 34 :: mid) → 34 ∉ pre → 34 ∉ mid → Q none s) :
    wpAny (model prog w) A (reNextFound (tgt b t) start must) Q E s := by
  unfold reNextFound
  dsimp only
  have hsz' : (b.map (·.toNat)).size = b.size := Array.size_map ..
  generalize hT : (b.map (·.toNat)) = T at *
  have hlen : (T.toList.drop start).length = T.size - start := by simp
  by_cases hsm : T.size - start < 2
  · have e : Sre.forSearch QC T 0 start T.size must = { ({ code := QC, text := T, lim := T.size, start := start, pc := 9, pos := start, handed := start, marks := #[], mustAdvance := must, seen := ({} : Sre.Seen).add 14 } : Sre.M) with answer := some false } := by
      unfold Sre.forSearch
      rw [if_pos]
      · rfl
      · simp only [Bool.or_eq_true, decide_eq_true_eq]
        exact .inr hsm
    rw [e]
    refine run_to_end (k := 1) (m' := { ({ code := QC, text := T, lim := T.size, start := start, pc := 9, pos := start, handed := start, marks := #[], mustAdvance := must, seen := ({} : Sre.Seen).add 14 } : Sre.M) with answer := some false, outcome := some .failed }) (fun j => ?_) (by decide) (.inr ⟨rfl, ?_⟩)
    · exact (runFor_one rfl j).trans (runFor_done rfl j)
    · match hd : T.toList.drop start with
      | [] => exact miss [] [] (.inl hd) List.not_mem_nil List.not_mem_nil
      | [c] =>
        by_cases hc : c = 34
        · subst hc; exact miss [] [] (.inr hd) List.not_mem_nil List.not_mem_nil
        · exact miss [c] [] (.inl hd) (by simpa using fun h => hc h.symm) List.not_mem_nil
      | c :: d :: r =>
        rw [hd] at hlen
        simp only [List.length_cons] at hlen
        omega
  · have e : Sre.forSearch QC T 0 start T.size must = S T start must 9 start start true #[] none [ns start true] 1 none (({} : Sre.Seen).add 14) := by
      unfold Sre.forSearch
      rw [if_neg]
      · rfl
      · simp only [Bool.or_eq_true, decide_eq_true_eq]
        intro q
        rcases q with q | q
        · omega
        · exact hsm q
    rw [e]
    have hbound : ∀ n, n ≤ (6 * (T.toList.drop start).length + 20) * ((T.toList.drop start).length + 1) → n ≤ 4 * 2 ^ 64 := by
      intro n hn
      refine Nat.le_trans hn (Nat.le_trans (Nat.mul_le_mul (show _ ≤ 6 * 1048576 + 20 from ?_) (show _ ≤ 1048576 + 1 from ?_)) (by decide))
      · omega
      · omega
    rcases search hb _ start must true (({} : Sre.Seen).add 14) rfl (by omega) with ⟨pre, mid, r, m', hl, h1, h2, ⟨k, hk, g⟩, ho, h3, h4⟩ | ⟨pre, mid, m', hl, h1, h2, ⟨k, hk, g⟩, ho⟩
    · exact run_to_end (k := k) (m' := m') (fun j => by rw [g]; exact runFor_done (by rw [ho]; rfl) j) (hbound k hk) (.inl ⟨ho, hit pre mid r m' hl h1 h2 h3 h4⟩)
    · exact run_to_end (k := k) (m' := m') (fun j => by rw [g]; exact runFor_done (by rw [ho]; rfl) j) (hbound k hk) (.inr ⟨ho, miss pre mid hl h1 h2⟩)
end
end Mine
end

section
open PySem PySem.W PyProof.Rows PySem.Calls PySem.Builtin PySem.Builtin.Re
namespace Mine
set_option maxRecDepth 100000
set_option maxHeartbeats 8000000

abbrev bvals (l : List (Array UInt8 × Tok)) : List Value := l.map fun p => .bytes p.1 p.2
abbrev bcat (l : List (Array UInt8 × Tok)) : Array UInt8 := (l.map (·.1)).foldl (· ++ ·) #[]

section
variable {prog : Program} {w : World} {A : Around} {E : Value → Shared → Prop} {s : Shared}

theorem takeBuffer_eq {id : String} {b : Array UInt8} {t : Tok} : Bytes.takeBuffer? id (.bytes b t) 0 = pure (some (b, none)) := by
  unfold Bytes.takeBuffer?
  rw [KBy.special_eq KBy.look_buffer, KBy.own_buffer]
  show (Bytes.buffer? id (.bytes b t) false >>= fun x => pure (x.map (·, none))) = _
  rw [KBy.buffer_eq]
  rfl
theorem take_quiet {id : String} {b : Array UInt8} {t : Tok} {Q : Option (Array UInt8 × Option Value) → Shared → Prop} (h : Q (some (b, none)) s) : wpAny (model prog w) A (Bytes.takeBufferQuiet? id (.bytes b t) 0) Q E s := by
  unfold Bytes.takeBufferQuiet?
  rw [takeBuffer_eq]
  exact wpAny_bind (wpAny_pure (a := Except.ok (some (b, none))) (wpAny_pure h))

theorem bcat_size : ∀ (l : List (Array UInt8)) (n : Nat) (acc : Array UInt8), acc.size = n → (l.foldl (· ++ ·) acc).size = l.foldl (fun (n : Nat) (b : Array UInt8) => n + b.size) n
  | [], n, acc, h => h
  | b :: l, n, acc, h => bcat_size l _ _ (by rw [Array.size_append, h])
theorem joined_nil : ∀ (l : List (Array UInt8)) (k : Nat) (acc : Array UInt8), ((l.zipIdx k).foldl (fun out (x : Array UInt8 × Nat) => (if x.2 > 0 then out ++ #[] else out) ++ x.1) acc) = l.foldl (· ++ ·) acc
  | [], k, acc => rfl
  | b :: l, k, acc => by
    rw [List.zipIdx_cons, List.foldl_cons, List.foldl_cons, joined_nil l (k + 1)]
    congr 2
    split
    · exact Array.append_empty
    · rfl
theorem joinLetGo_none {l : List (Array UInt8 × Tok)} {keep : List Value} {Q : Unit → Shared → Prop} (h : Q () s) : wpAny (model prog w) A (Bytes.joinLetGo (l.map fun p => (Value.bytes p.1 p.2, (none : Option Value))) keep) Q E s := by
  induction l with
  | nil => exact wpAny_pure h
  | cons x l ih =>
    rw [List.map_cons]
    unfold Bytes.joinLetGo
    exact wpAny_bind (wpAny_letGo ih)
theorem wpAny_of_match_two {α : Type} {l : List (Array UInt8 × Tok)} {p q : Array UInt8 × Tok} {r : List (Array UInt8 × Tok)} {f : Value → Sem α} {g : Array Value → Sem α} {Q : α → Shared → Prop} (hl : l = p :: q :: r)
    (h : wpAny (model prog w) A (g (bvals l).toArray) Q E s) : wpAny (model prog w) A (match (bvals l).toArray with | #[x] => f x | x => g x) Q E s := by
  subst hl
  exact h

theorem join_bytes {l : List (Array UInt8 × Tok)} {D : Addr} {n : Nat} {t : Tok} {Q : Value → Shared → Prop} (hD : s.heap.get? D = some (listOf (bvals l).toArray n)) (hz : (bcat l).size ≤ 1048576) (hn : 2 ≤ l.length)
    (h : ∀ t' k, Q (.bytes (bcat l) t') { s with toks := k }) : wpAny (model prog w) A (call (.builtin "bytes.join") [.bytes #[] t, .ref D]) Q E s := by
  refine wpAny_call_entry slot_bjoin (typeIs_bytes s _ _) entry_bjoin ?_ (args_bjoin _ _)
  unfold Builtin.«bytes.join» Bytes.joinM
  refine wpAny_bind (wpAny_pure (a := (Value.bytes #[] t, Value.ref D)) ?_)
  dsimp only
  unfold Bytes.joinItems
  refine wpAny_bind (wpAny_bind (wpAny_typeOf (T := "list") ⟨_, hD, rfl⟩ ?_))
  refine wp_yes rfl (wpAny_pure ?_)
  refine wpAny_bind (wpAny_seqItems hD rfl ?_)
  dsimp only
  refine wp_yes rfl ?_
  obtain ⟨p, q, r, hl⟩ : ∃ p q r, l = p :: q :: r := by
    match l, hn with
    | p :: q :: r, _ => exact ⟨p, q, r, rfl⟩
  refine wpAny_of_match_two (l := l) hl ?_
  rw [Std.Legacy.Range.forIn_eq_forIn_range']
  refine wpAny_bind (wpAny_forIn_list _ (fun rest b s' => s' = s ∧ ∃ i, i ≤ l.length ∧ rest = List.range' i (l.length - i) ∧ b = (((l.take i).map (·.1)).toArray, (l.take i).map fun p => (Value.bytes p.1 p.2, (none : Option Value)))) _ (fun i rest b s' hI => ?_) (fun b s' hI => ?_) _ _ ?_)
  · obtain ⟨rfl, j, hj, hr, rfl⟩ := hI
    have hjl : j < l.length := by
      apply Nat.lt_of_not_le
      intro q
      rw [Nat.sub_eq_zero_of_le q] at hr
      cases hr
    have e1 : l.length - j = (l.length - (j + 1)) + 1 := by omega
    rw [e1, List.range'_succ] at hr
    injection hr with h1 h2
    subst h1
    subst h2
    dsimp only
    refine wpAny_bind (wpAny_seqItems hD rfl ?_)
    dsimp only
    have hget : (bvals l).toArray.getD i .none = .bytes l[i].1 l[i].2 := by simp [hjl]
    rw [hget]
    refine wp_no ?_ ?_
    · rw [Bool.or_eq_false_iff]
      refine ⟨rfl, ?_⟩
      rw [List.any_eq_false]
      intro x hx
      obtain ⟨y, _, rfl⟩ := List.mem_map.mp hx
      exact Bool.false_ne_true
    refine wpAny_bind (wpAny_holding (take_quiet ?_))
    dsimp only
    refine wpAny_bind (wpAny_seqItems hD rfl ?_)
    dsimp only
    refine wp_no (by simp) (wpAny_pure ⟨rfl, i + 1, hjl, rfl, ?_⟩)
    rw [List.take_succ_eq_append_getElem hjl, List.map_append, List.map_append, List.push_toArray]
    rfl
  · obtain ⟨rfl, j, hj, hr, rfl⟩ := hI
    have hjl : j = l.length := by
      have := congrArg List.length hr
      simp at this
      omega
    subst hjl
    rw [List.take_length]
    refine wpAny_bind (wpAny_of_eq (a := (#[] : Array UInt8)) rfl ?_)
    have hsum : ((l.map (·.1)).toArray.foldl (fun (n : Nat) (b : Array UInt8) => n + b.size) (0 * ((l.map (·.1)).toArray.size - 1))) = (bcat l).size := by
      rw [Nat.zero_mul, List.foldl_toArray']
      · exact (bcat_size _ 0 #[] rfl).symm
      · rfl
    refine wp_no ?_ ?_
    · exact (congrArg Bytes.tooLong hsum).trans (KBy.tooLong_not (by omega))
    show wpAny _ _ (mkBytes (Bytes.joined #[] (l.map (·.1)).toArray.toList) >>= _) _ _ _
    have hj : Bytes.joined #[] (l.map (·.1)).toArray.toList = bcat l := by
      rw [List.toList_toArray]
      exact joined_nil _ 0 #[]
    rw [hj]
    refine wpAny_bind (wpAny_mkBytes ?_ (by rw [sizeLine_eq]; omega))
    refine wpAny_bind (wpAny_holding (wpAny_point ?_))
    refine wpAny_bind (joinLetGo_none ?_)
    exact wpAny_pure ⟨_, rfl, h _ _⟩
  · exact ⟨rfl, 0, Nat.zero_le _, by simp, by simp⟩
end
end Mine
end

section
open PySem PySem.W PyProof.Rows PySem.Calls PySem.Builtin PySem.Builtin.Re
namespace Mine
set_option maxRecDepth 100000
set_option maxHeartbeats 8000000

/-- a text less its quoted parts -/
def stripGo : List Nat → Option (List Nat) → List Nat
  | [], none => []
  | [], some acc => 34 :: acc.reverse
  | c :: r, none => if c = 34 then stripGo r (some []) else c :: stripGo r none
  | c :: r, some acc => if c = 34 then stripGo r none else stripGo r (some (c :: acc))
def stripL (l : List Nat) : List Nat := stripGo l none
theorem stripGo_pre : ∀ {pre : List Nat} (l : List Nat), 34 ∉ pre → stripGo (pre ++ l) none = pre ++ stripGo l none
  | [], _, _ => rfl
  | c :: pre, l, h => by
    have hc : c ≠ 34 := fun e => h (e ▸ List.mem_cons_self ..)
    show stripGo (c :: (pre ++ l)) none = _
    rw [stripGo, if_neg hc, stripGo_pre l fun e => h (List.mem_cons_of_mem _ e)]
    rfl
theorem stripGo_in : ∀ {mid : List Nat} (acc r : List Nat), 34 ∉ mid → stripGo (mid ++ 34 :: r) (some acc) = stripGo r none
  | [], acc, r, _ => by show stripGo (34 :: r) (some acc) = _; rw [stripGo, if_pos rfl]
  | c :: mid, acc, r, h => by
    have hc : c ≠ 34 := fun e => h (e ▸ List.mem_cons_self ..)
    show stripGo (c :: (mid ++ 34 :: r)) (some acc) = _
    rw [stripGo, if_neg hc]
    exact stripGo_in _ _ fun e => h (List.mem_cons_of_mem _ e)
theorem stripGo_open : ∀ {mid : List Nat} (acc : List Nat), 34 ∉ mid → stripGo mid (some acc) = 34 :: (acc.reverse ++ mid)
  | [], acc, _ => by rw [stripGo, List.append_nil]
  | c :: mid, acc, h => by
    have hc : c ≠ 34 := fun e => h (e ▸ List.mem_cons_self ..)
    rw [stripGo, if_neg hc, stripGo_open _ fun e => h (List.mem_cons_of_mem _ e)]
    simp
theorem stripL_hit {pre mid r : List Nat} (h1 : 34 ∉ pre) (h2 : 34 ∉ mid) : stripL (pre ++ 34 :: (mid ++ 34 :: r)) = pre ++ stripL r := by
  unfold stripL
  rw [stripGo_pre _ h1, stripGo, if_pos rfl, stripGo_in _ _ h2]
theorem stripL_plain {pre : List Nat} (h1 : 34 ∉ pre) : stripL pre = pre := by
  have := stripGo_pre [] h1
  rw [List.append_nil] at this
  unfold stripL
  rw [this, stripGo, List.append_nil]
theorem stripL_open {pre mid : List Nat} (h1 : 34 ∉ pre) (h2 : 34 ∉ mid) : stripL (pre ++ 34 :: mid) = pre ++ 34 :: mid := by
  unfold stripL
  rw [stripGo_pre _ h1, stripGo, if_pos rfl, stripGo_open _ h2]
  rfl

abbrev nats (b : Array UInt8) : List Nat := b.toList.map (·.toNat)
theorem map_toList (b : Array UInt8) : (b.map (·.toNat)).toList = nats b := by simp
theorem slice_back (b : Array UInt8) (i j : Nat) : (((b.map (·.toNat)).extract i j).map (·.toUInt8)) = b.extract i j := by
  rw [← Array.map_extract, Array.map_map]
  have e : ((fun (n : Nat) => n.toUInt8) ∘ fun (u : UInt8) => u.toNat) = _root_.id := by
    funext u
    simp
  rw [e, Array.map_id]
theorem nats_extract (b : Array UInt8) (i j : Nat) : nats (b.extract i j) = ((nats b).drop i).take (j - i) := by
  simp [nats, List.map_drop, List.map_take]
theorem nats_append (a b : Array UInt8) : nats (a ++ b) = nats a ++ nats b := by simp [nats]
theorem bcat_snoc (l : List (Array UInt8 × Tok)) (p : Array UInt8 × Tok) : bcat (l ++ [p]) = bcat l ++ p.1 := by
  simp [bcat, List.foldl_append]
theorem bvals_snoc (l : List (Array UInt8 × Tok)) (p : Array UInt8 × Tok) : (bvals l).toArray.push (.bytes p.1 p.2) = (bvals (l ++ [p])).toArray := by
  simp [bvals]

section
variable {prog : Program} {w : World} {A : Around} {E : Value → Shared → Prop}

theorem push_piece {s : Shared} {h₀ : Heap} {D : Addr} {l : List (Array UInt8 × Tok)} {n : Nat} {b : Array UInt8} {t : Tok} {Q : Unit → Shared → Prop} (hD : s.heap.get? D = some (listOf (bvals l).toArray n)) (hD0 : h₀.get? D = none) (hk : ∀ b o, h₀.get? b = some o → s.heap.get? b = some o)
    (hz : l.length ≤ 2097152) (h : ∀ h', h'.get? D = some (listOf (bvals (l ++ [(b, t)])).toArray (n + 1)) → (∀ b o, h₀.get? b = some o → h'.get? b = some o) → Q () { s with heap := h' }) :
    wpAny (model prog w) A (updateSeq D (·.push (.bytes b t))) Q E s := by
  refine wpAny_updateSeq hD rfl (h _ ?_ ?_) (by rw [List.size_toArray, List.length_map, sizeLine_eq]; omega) (by rw [Array.size_push, List.size_toArray, List.length_map, sizeLine_eq]; omega)
  · rw [Heap.get?_update_self _ hD (by rw [mapSeq_push]; rfl), mapSeq_push, ← bvals_snoc]
  · intro q o e
    have hs : Heap.SameBut D s.heap (s.heap.update D (Obj.mapSeq fun x => x.push (.bytes b t))) := Heap.SameBut.update ..
    exact (hs.2 q fun z => by rw [z, hD0] at e; cases e).trans (hk q o e)

theorem join_one {s : Shared} {p : Array UInt8 × Tok} {D : Addr} {n : Nat} {t : Tok} {Q : Value → Shared → Prop} (hD : s.heap.get? D = some (listOf (bvals [p]).toArray n)) (h : Q (.bytes p.1 p.2) s) :
    wpAny (model prog w) A (call (.builtin "bytes.join") [.bytes #[] t, .ref D]) Q E s := by
  refine wpAny_call_entry slot_bjoin (typeIs_bytes s _ _) entry_bjoin ?_ (args_bjoin _ _)
  unfold Builtin.«bytes.join» Bytes.joinM
  refine wpAny_bind (wpAny_pure (a := (Value.bytes #[] t, Value.ref D)) ?_)
  dsimp only
  unfold Bytes.joinItems
  refine wpAny_bind (wpAny_bind (wpAny_typeOf (T := "list") ⟨_, hD, rfl⟩ ?_))
  refine wp_yes rfl (wpAny_pure ?_)
  refine wpAny_bind (wpAny_seqItems hD rfl ?_)
  dsimp only
  refine wp_yes rfl ?_
  dsimp only [bvals, List.map_cons, List.map_nil]
  refine wpAny_bind (wpAny_typeOf (T := "bytes") (typeIs_bytes s _ _) ?_)
  refine wp_yes rfl ?_
  exact wpAny_bind (wpAny_rule (wpAny_pure ⟨_, rfl, h⟩))

theorem sub_loop {b : Array UInt8} {tb t0 : Tok} {h₀ : Heap} {D : Addr} {R : Result → Shared → Prop} (X : (hd.heap_39 w.params).In h₀) (hD0 : h₀.get? D = none) (hb : ∀ c ∈ nats b, c ≠ 92) (hsz : b.size ≤ 1048576)
    : ∀ (fuel done n : Nat) (m : Int) (must : Bool) (l : List (Array UInt8 × Tok)) (s : Shared), b.size - done < fuel → done ≤ b.size → (∀ b o, h₀.get? b = some o → s.heap.get? b = some o) → s.heap.get? D = some (listOf (bvals l).toArray n) → l.length ≤ done →
      nats (bcat l) ++ stripL ((nats b).drop done) = stripL (nats b) → (bcat l).size ≤ done →
      (∀ r t h' k, nats r = stripL (nats b) → (∀ b o, h₀.get? b = some o → h'.get? b = some o) → R (.ok (.ret (.bytes r t))) { s with heap := h', toks := k }) →
      codeAny (model prog w) A (.builtin "re.Pattern.sub.loop" ⟨[.ref 89, .bytes b tb, .bytes #[] t0, rawInt 0, rawInt 0, rawInt m, rawInt (done : Nat), rawInt (done : Nat), .bool must, .ref D, .bool false], []⟩) R s
  | 0, _, _, _, _, _, _, h, _, _, _, _, _, _, _ => absurd h (Nat.not_lt_zero _)
  | fuel + 1, done, n, m, must, l, s, hf, hdone, hk, hD, hl, hres, hbz, hR => by
    refine codeAny_builtin entry_loop ?_
    unfold Builtin.«re.Pattern.sub.loop»
    dsimp only [rawInt]
    refine wpAny_bind (whole_target (X.keeps hk) ?_)
    refine wp_yes rfl ?_
    unfold reLiteralCannotBeTurned
    refine wpAny_bind (wpAny_bind (wpAny_of_eq (asStr_bytes _ _) (wp_yes rfl (wpAny_bind (wpAny_of_eq KBy.isInstance_eq (wp_no rfl (wpAny_pure ?_)))))))
    dsimp only
    have hlen : (nats b).length = b.size := by simp
    have again_ : ∀ (pre mid r : List Nat) (l' : List (Array UInt8 × Tok)) (n' : Nat) (m' : Sre.M) (h' : Heap) (k : Nat), (nats b).drop done = pre ++ 34 :: (mid ++ 34 :: r) → 34 ∉ pre → 34 ∉ mid → m'.handed = done + pre.length + mid.length + 2 →
        (∀ b o, h₀.get? b = some o → h'.get? b = some o) → h'.get? D = some (listOf (bvals l').toArray n') → l'.length ≤ l.length + 1 → nats (bcat l') = nats (bcat l) ++ pre → 
        wpAny (model prog w) (A.under (Code.builtin "re.Pattern.sub.loop" ⟨[.ref 89, .bytes b tb, .bytes #[] t0, rawInt 0, rawInt 0, rawInt m, rawInt (done : Nat), rawInt (done : Nat), .bool must, .ref D, .bool false], []⟩))
          (do let item ← pure (Value.bytes #[] t0)
              if (item != Value.none) = true then do
                  updateSeq D fun x => x.push item
                  again (.builtin "re.Pattern.sub.loop" ⟨[.ref 89, .bytes b tb, .bytes #[] t0, rawInt 0, rawInt 0, rawInt (m + 1), rawInt m'.handed, rawInt m'.handed, .bool (m'.handed == m'.start), .ref D, .bool false], []⟩)
              else again (.builtin "re.Pattern.sub.loop" ⟨[.ref 89, .bytes b tb, .bytes #[] t0, rawInt 0, rawInt 0, rawInt (m + 1), rawInt m'.handed, rawInt m'.handed, .bool (m'.handed == m'.start), .ref D, .bool false], []⟩))
          (fun fin s' => match fin with | .done f => R (.ok f) s' | .again c' => c'.quiet = true ∧ codeAny (model prog w) A c' R s') (fun e s' => R (.error e) s') { s with heap := h', toks := k } := by
      intro pre mid r l' n' m' h' k hl1 h1 h2 hh hk' hD' hl' hcat
      have hsum := congrArg List.length hl1
      simp only [List.length_drop, List.length_append, List.length_cons] at hsum
      refine wpAny_bind (wpAny_pure (wp_yes rfl (wpAny_bind (push_piece hD' hD0 hk' (by omega) fun h2' hD2 hk2 => ?_))))
      refine wpAny_pure ⟨plainId_quiet (by decide +kernel) _, ?_⟩
      have hr : (nats b).drop m'.handed = r := by
        have e : m'.handed = done + (pre.length + (mid.length + 1) + 1) := by omega
        rw [e, ← List.drop_drop, hl1]
        have e2 : pre ++ 34 :: (mid ++ 34 :: r) = (pre ++ 34 :: (mid ++ [34])) ++ r := by simp
        rw [e2]
        apply List.drop_left'
        simp
        omega
      refine sub_loop X hD0 hb hsz fuel m'.handed (n' + 1) (m + 1) _ (l' ++ [(#[], t0)]) _ (by omega) (by omega) hk2 hD2 (by rw [List.length_append, List.length_singleton]; omega) ?_ ?_ fun r' t' h3 k3 hr' hk3 => hR r' t' h3 k3 hr' hk3
      · rw [bcat_snoc, Array.append_empty, hcat, hr, List.append_assoc, ← hres, hl1, stripL_hit h1 h2]
      · rw [bcat_snoc, Array.append_empty]
        have := congrArg List.length hcat
        simp only [List.length_map, List.length_append, Array.length_toList] at this
        omega
    have end_ : ∀ (pre : List Nat) (l' : List (Array UInt8 × Tok)) (n' : Nat) (h' : Heap) (k : Nat), (nats b).drop done = pre → stripL pre = pre → 
        (∀ b o, h₀.get? b = some o → h'.get? b = some o) → h'.get? D = some (listOf (bvals l').toArray n') → nats (bcat l') = nats (bcat l) ++ pre → 
        wpAny (model prog w) (A.under (Code.builtin "re.Pattern.sub.loop" ⟨[.ref 89, .bytes b tb, .bytes #[] t0, rawInt 0, rawInt 0, rawInt m, rawInt (done : Nat), rawInt (done : Nat), .bool must, .ref D, .bool false], []⟩))
          (do let joiner ← reSlice (b.map (·.toNat)) 1 0 0
              let __do_lift ← seqItems? (Value.ref D)
              if (__do_lift.getD #[]).isEmpty = true then do
                  let text ← pure joiner
                  ret text
              else do
                  let text ← call (.builtin "bytes.join") [joiner, .ref D]
                  ret text)
          (fun fin s' => match fin with | .done f => R (.ok f) s' | .again c' => c'.quiet = true ∧ codeAny (model prog w) A c' R s') (fun e s' => R (.error e) s') { s with heap := h', toks := k } := by
      intro pre l' n' h' k hl1 hp hk' hD' hcat
      have hfin : nats (bcat l') = stripL (nats b) := by rw [hcat, ← hres, hl1, hp]
      have hsz' : (bcat l').size ≤ 1048576 := by
        have e1 := congrArg List.length hcat
        have e2 := congrArg List.length hl1
        simp only [List.length_map, List.length_append, Array.length_toList, List.length_drop] at e1 e2
        omega
      unfold reSlice
      have he : ((b.map (·.toNat)).extract 0 0).map (·.toUInt8) = #[] := by simp
      rw [he]
      refine wpAny_bind (wp_no rfl (wpAny_mkBytes ?_ (Nat.zero_le _)))
      refine wpAny_bind (wpAny_seqItems hD' rfl ?_)
      match l', hD', hfin, hsz' with
      | [], hD', hfin, hsz' => exact wp_yes rfl (wpAny_bind (wpAny_pure (wpAny_pure (hR _ _ _ _ hfin hk'))))
      | [p], hD', hfin, hsz' =>
        refine wp_no rfl (wpAny_bind (join_one hD' (wpAny_pure (hR _ _ _ _ ?_ hk'))))
        rw [← hfin]
        simp [bcat]
      | p :: q :: l2, hD', hfin, hsz' => exact wp_no rfl (wpAny_bind (join_bytes hD' hsz' (by simp) fun t' k' => wpAny_pure (hR _ _ _ _ hfin hk')))
    refine wpAny_bind (wp_no rfl (next_found (by rw [map_toList]; exact hb) hdone hsz ?_ ?_))
    · intro pre mid r m' hl1 h1 h2 h3 h4
      rw [map_toList] at hl1
      simp only [Int.toNat_natCast] at hl1 h3 h4
      dsimp only
      have hsum := congrArg List.length hl1
      simp only [List.length_drop, List.length_append, List.length_cons] at hsum
      by_cases hp : done < m'.start
      · have hp' : (((done : Nat) : Int).toNat) < m'.start := hp
        rw [if_pos hp']
        have hx : nats (b.extract done m'.start) = pre := by
          rw [nats_extract, hl1, h3]
          have e : done + pre.length - done = pre.length := by omega
          rw [e]
          exact List.take_left' rfl
        unfold reSlice
        rw [slice_back]
        refine wpAny_bind (wp_no rfl (wpAny_mkBytes ?_ (by rw [sizeLine_eq]; simp; omega)))
        refine wpAny_bind (push_piece hD hD0 hk (by omega) fun h2' hD2 hk2 => ?_)
        refine wp_yes rfl ?_
        refine again_ pre mid r _ _ m' _ _ hl1 h1 h2 h4 hk2 hD2 (by rw [List.length_append, List.length_singleton]; exact Nat.le_refl _) ?_
        rw [bcat_snoc, nats_append]
        exact congrArg _ hx
      · have hp' : ¬ (((done : Nat) : Int).toNat) < m'.start := hp
        rw [if_neg hp']
        have hpre : pre = [] := by
          apply List.eq_nil_of_length_eq_zero
          omega
        subst hpre
        refine wp_yes rfl ?_
        exact again_ [] mid r l n m' s.heap s.toks hl1 h1 h2 h4 hk hD (by omega) (by simp)
    · intro pre mid hl1 h1 h2
      rw [map_toList] at hl1
      simp only [Int.toNat_natCast] at hl1
      dsimp only
      have hlim : (b.map (·.toNat)).size = b.size := Array.size_map ..
      have hst : ∃ pre', (nats b).drop done = pre' ∧ stripL pre' = pre' := by
        rcases hl1 with e | e
        · exact ⟨_, e, stripL_plain h1⟩
        · exact ⟨_, e, stripL_open h1 h2⟩
      obtain ⟨pre', e1, e2⟩ := hst
      by_cases hp : done < b.size
      · have hp' : (((done : Nat) : Int).toNat) < (b.map (·.toNat)).size := by rw [hlim]; exact hp
        rw [if_pos hp']
        have hx : nats (b.extract done b.size) = pre' := by
          rw [nats_extract, e1]
          apply List.take_of_length_le
          have := congrArg List.length e1
          simp only [List.length_drop, hlen] at this
          omega
        unfold reSlice
        rw [slice_back, hlim]
        refine wpAny_bind (wp_no rfl (wpAny_mkBytes ?_ (by rw [sizeLine_eq]; simp; omega)))
        refine wpAny_bind (push_piece hD hD0 hk (by omega) fun h2' hD2 hk2 => ?_)
        refine end_ pre' _ _ _ _ e1 e2 hk2 hD2 ?_
        rw [bcat_snoc, nats_append]
        exact congrArg _ hx
      · have hp' : ¬ (((done : Nat) : Int).toNat) < (b.map (·.toNat)).size := by rw [hlim]; exact hp
        rw [if_neg hp']
        have e3 : pre' = [] := by
          rw [← e1]
          apply List.drop_eq_nil_of_le
          omega
        subst e3
        exact end_ [] l n s.heap s.toks e1 e2 hk hD (by simp)
end
end Mine
end

section
open PySem PySem.W PyProof.Rows PySem.Calls PySem.Builtin PySem.Builtin.Re
namespace Mine
set_option maxRecDepth 100000
set_option maxHeartbeats 8000000
section
variable {prog : Program} {w : World} {A : Around} {E : Value → Shared → Prop} {s : Shared}
theorem named_sub (a b : Value) : reNamed "re.Pattern.sub" "sub" ["repl", "string", "count"] 2 [a, b] [] = pure [some a, some b, none] := by
  rfl
theorem call_sub {b : Array UInt8} {tb t0 : Tok} {Q : Value → Shared → Prop} (X : (hd.heap_39 w.params).In s.heap) (hb : ∀ c ∈ nats b, c ≠ 92) (hsz : b.size ≤ 1048576)
    (hQ : ∀ r t s', nats r = stripL (nats b) → Ext s s' → Q (.bytes r t) s') : wpAny (model prog w) A (call (.builtin "re.Pattern.sub") [.ref 89, .bytes #[] t0, .bytes b tb]) Q E s := by
  refine call_again slot_sub ⟨_, X _ _ (k89 _), rfl⟩ entry_sub (args_sub _ _ _) ?_
  unfold Builtin.«re.Pattern.sub» reSubstitute
  dsimp only
  rw [named_sub]
  refine wpAny_bind (wpAny_pure ?_)
  dsimp only
  refine wpAny_bind (wpAny_pure ?_)
  refine wpAny_bind (wpAny_of_eq (KBy.special_eq look_call) ?_)
  refine wp_no rfl ?_
  refine wpAny_bind (wpAny_of_eq (asStr_bytes _ _) ?_)
  dsimp only
  refine wpAny_bind (wpAny_of_eq KBy.quiet_eq ?_)
  dsimp only
  refine wpAny_bind (wpAny_pure ?_)
  refine wp_no rfl (wp_yes (by simp) ?_)
  refine wpAny_bind (wpAny_pure ?_)
  dsimp only
  refine wpAny_bind (wpAny_holding (whole_target X ?_))
  refine wp_no rfl ?_
  refine wpAny_bind (wpAny_newObj_type (T := "list") (data := .seq #[]) ?_ (by size_fits))
  refine wpAny_pure ⟨plainId_quiet (by decide +kernel) _, ?_⟩
  have hD0 : s.heap.get? s.heap.objs.size = none := by
    cases h : s.heap.get? s.heap.objs.size with
    | none => rfl
    | some o => exact absurd (Heap.lt_size h) (Nat.lt_irrefl _)
  refine sub_loop (h₀ := s.heap) X hD0 hb hsz (b.size + 1) 0 0 0 false [] _ (by omega) (Nat.zero_le _) (fun q o e => Heap.get?_push_of_some _ e) (Heap.get?_push_size _ rfl) (Nat.le_refl _) (by simp [bcat]) (by simp [bcat]) ?_
  intro r t h' k hr hk
  exact hQ r t _ hr (Ext.of hk)

theorem occ_fold (b : Array UInt8) (c : UInt8) : ∀ n, n ≤ b.size →
    let r := ((List.range n).map (· + 0)).foldl (fun (acc : List Nat × Nat) (i : Nat) => if (decide (i ≥ acc.2) && b.extract i (i + (#[c] : Array UInt8).size) == #[c]) = true then (i :: acc.1, i + (#[c] : Array UInt8).size) else acc) ([], 0)
    r.1.length = (b.toList.take n).count c ∧ r.2 ≤ n
  | 0, _ => ⟨rfl, Nat.le_refl _⟩
  | n + 1, h => by
    obtain ⟨h1, h2⟩ := occ_fold b c n (Nat.le_of_succ_le h)
    dsimp only at h1 h2 ⊢
    rw [List.range_succ, List.map_append, List.foldl_append]
    generalize ((List.range n).map (· + 0)).foldl (fun (acc : List Nat × Nat) (i : Nat) => if (decide (i ≥ acc.2) && b.extract i (i + (#[c] : Array UInt8).size) == #[c]) = true then (i :: acc.1, i + (#[c] : Array UInt8).size) else acc) ([], 0) = st at *
    have hx : b.extract n (n + 1) = #[b[n]] := by
      apply Array.ext
      · simp; omega
      · intro i h1 h2
        simp at h1 h2
        have : i = 0 := by omega
        subst this
        simp
    have ht : b.toList.take (n + 1) = b.toList.take n ++ [b[n]] := by
      rw [List.take_succ_eq_append_getElem (by rw [Array.length_toList]; exact h)]
      simp
    show (if (decide (n + 0 ≥ st.2) && b.extract (n + 0) (n + 0 + 1) == #[c]) = true then ((n + 0) :: st.1, n + 0 + 1) else st).1.length = _ ∧ (if (decide (n + 0 ≥ st.2) && b.extract (n + 0) (n + 0 + 1) == #[c]) = true then ((n + 0) :: st.1, n + 0 + 1) else st).2 ≤ _
    rw [Nat.add_zero, hx, decide_eq_true h2, Bool.true_and, ht, List.count_append]
    by_cases hc : b[n] = c
    · have : ((#[b[n]] : Array UInt8) == #[c]) = true := by rw [hc]; simp
      rw [if_pos this, hc]
      simp [h1]
    · have : ¬ ((#[b[n]] : Array UInt8) == #[c]) = true := by simpa using hc
      rw [if_neg this]
      refine ⟨?_, Nat.le_succ_of_le h2⟩
      rw [h1]
      simp [List.count_singleton, hc]

theorem count_nats (b : Array UInt8) (c : UInt8) : b.toList.count c = (nats b).count c.toNat := by
  unfold nats
  induction b.toList with
  | nil => rfl
  | cons x l ih =>
    rw [List.map_cons, List.count_cons, List.count_cons, ih]
    congr 1
    by_cases h : x = c
    · subst h; simp
    · have : ¬ x.toNat = c.toNat := fun e => h (UInt8.toNat_inj.mp e)
      simp [h, this]

theorem call_count {b : Array UInt8} {c : UInt8} {tb tc : Tok} {Q : Value → Shared → Prop} (h : ∀ t k, Q (.int ((nats b).count c.toNat : Nat) t) { s with toks := k }) :
    wpAny (model prog w) A (call (.builtin "bytes.count") [.bytes b tb, .bytes #[c] tc]) Q E s := by
  refine wpAny_call_entry slot_bcount (typeIs_bytes s _ _) entry_bcount ?_ (args_bcount _ _)
  unfold Builtin.«bytes.count» Bytes.countM Bytes.searchArgs
  refine wpAny_bind (wpAny_bind (wpAny_pure (a := (Value.bytes b tb, [Value.bytes #[c] tc])) ?_))
  dsimp only
  refine wpAny_bind (wpAny_pure (a := (none : Option Int)) ?_)
  refine wpAny_bind (wpAny_pure (a := (none : Option Int)) ?_)
  refine wpAny_bind (wpAny_of_eq KBy.buffer_eq ?_)
  dsimp only
  refine wpAny_bind (wpAny_pure ?_)
  refine wpAny_bind (wpAny_pure (a := b) ?_)
  refine wpAny_pure ?_
  have hw : Bytes.window b.size none none = (0, (b.size : Int)) := by
    unfold Bytes.window
    simp
    omega
  rw [hw]
  dsimp only
  by_cases hz : (b.size : Int) - 0 < ((#[c] : Array UInt8).size : Int)
  · rw [if_pos hz]
    have h0 : b = #[] := by
      apply Array.eq_empty_of_size_eq_zero
      have : (b.size : Int) - 0 < 1 := hz
      omega
    subst h0
    exact wpAny_bind (wpAny_mkInt (wpAny_pure ⟨_, rfl, h _ _⟩))
  · rw [if_neg hz]
    refine wp_no rfl ?_
    have e := (occ_fold b c b.size (Nat.le_refl _)).1
    have e2 : (Bytes.occurrences b #[c] ((0 : Int)).toNat ((b.size : Int)).toNat).length = (nats b).count c.toNat := by
      unfold Bytes.occurrences
      rw [List.length_reverse, ← count_nats]
      have e3 : ((b.size : Int)).toNat + 1 - (((0 : Int)).toNat + (#[c] : Array UInt8).size) = b.size := by simp
      have e4 : b.toList.take b.size = b.toList := List.take_of_length_le (by simp)
      rw [e4] at e
      rw [e3]
      exact e
    rw [e2]
    exact wpAny_bind (wpAny_mkInt (wpAny_pure ⟨_, rfl, h _ _⟩))
end
end Mine
end

section
open PySem PySem.W PyProof.Rows PySem.Calls
namespace Mine
set_option maxRecDepth 100000
set_option maxHeartbeats 8000000
/-- what a text leaves open -/
def openF (l : List Nat) : Int := ((stripL l).count 40 : Nat) - ((stripL l).count 41 : Nat)
theorem q_int {Q : Value → Shared → Prop} {x y : Int} {t : Tok} {s' : Shared} (e : x = y) (h : Q (.int y t) s') : Q (.int x t) s' := e ▸ h
theorem pdepth_spec {prog : Program} {w : World} {p : Program} {loose : List Str} {mean : ExcName → Option Value} {mg mb : Str → Option Value} {dp un : Nat} {fr : Option (List Env)} {gd : Option (List Code)} {Q E : Value → Shared → Prop} {s : Shared}
   {b : Array UInt8} {tb : Tok} {d : Int} {td : Tok} (O : Ok w p loose mean mg mb s.heap) (hfill : Challenge.rw_xo0010_01.foot = 6) (hdp : dp + 1 < recursionLimit) (hun : un + 8 < cLine)
   (hb : ∀ c ∈ nats b, c ≠ 92) (hsz : b.size ≤ 1048576)
   (hQ : ∀ t s', Ext s s' → Q (.int (d + openF (nats b)) t) s') :
   wpAny (model prog w) (arnd dp un fr gd) (call (.ref 97) [.bytes b tb, .int d td]) Q E s := by
  have hfill2 : Challenge.rw_xo0010_01.foot = 6 ∨ hd.heap_39 = hd.heap_39 := by k_fill; exact .inl rfl
  clear hfill2 hfill
  k_dflt (refine' enter (f := 97) O ?k6 ?k7 ?k8 ?k9 ?kB ?c5 ?c2 ?c3 ?c4 ?_; (case k6 => k_is); (case k7 => k_is); (case k8 => omega); (case k9 => exact binds_K O.k rfl (by k_is) rfl rfl rfl); (case c5 => decide); (case kB => exact locs rfl); (case c2 => exact rfl); (case c3 => exact rfl); (case c4 => exact rfl); k_whole)
  intro h₁ F N
  have X := O.k
  have T := O.t
  dsimp only
  k_with_none
  k_with "getMethod ref" => (refine getMethod_builtin ⟨_, (X.keeps F.keep) _ _ (k89 _), rfl⟩ pattern_attrs slot_sub type_sub (by rintro a ⟨⟩; exact ⟨_, (X.keeps F.keep) _ _ (k89 _), rfl⟩) ?_)
  k_with "call builtin:re.Pattern.sub" => (refine call_sub (X.keeps F.keep) hb hsz ?_; intro r tr s1 hr hx; have F1 := fr_ext F hx; have N1 := news_ext N hx)
  k_with "getMethod bytes" => (refine getMethod_builtin (typeIs_bytes _ _ _) bytes_attrs slot_bcount type_bcount (by rintro a ⟨⟩) ?_)
  k_with "call builtin:bytes.count" => (refine call_count ?_; intro tc kc)
  k_steps
  rename_i h2 F2 N2 _ _
  refine q_int ?_ (hQ _ _ ((Kin.trans (Kin.heap s _ _) (Kin.trans hx.kin (Kin.heap _ _ _))).ext F2.keep))
  rw [hr]
  unfold openF
  show d + ((List.count 40 (stripL (nats b)) : Nat) : Int) - ((List.count 41 (stripL (nats b)) : Nat) : Int) = _
  omega
theorem pdepth0_spec {prog : Program} {w : World} {p : Program} {loose : List Str} {mean : ExcName → Option Value} {mg mb : Str → Option Value} {dp un : Nat} {fr : Option (List Env)} {gd : Option (List Code)} {Q E : Value → Shared → Prop} {s : Shared}
   {b : Array UInt8} {tb : Tok} (O : Ok w p loose mean mg mb s.heap) (hfill : Challenge.rw_xo0010_01.foot = 6) (hdp : dp + 1 < recursionLimit) (hun : un + 8 < cLine)
   (hb : ∀ c ∈ nats b, c ≠ 92) (hsz : b.size ≤ 1048576)
   (hQ : ∀ t s', Ext s s' → Q (.int (openF (nats b)) t) s') :
   wpAny (model prog w) (arnd dp un fr gd) (call (.ref 97) [.bytes b tb]) Q E s := by
  have hfill2 : Challenge.rw_xo0010_01.foot = 6 ∨ hd.heap_39 = hd.heap_39 := by k_fill; exact .inl rfl
  clear hfill2 hfill
  k_with_none
  k_dflt (refine' enter (f := 97) O ?k6 ?k7 ?k8 ?k9 ?kB ?c5 ?c2 ?c3 ?c4 ?_; (case k6 => k_is); (case k7 => k_is); (case k8 => omega); (case k9 => exact binds_K O.k rfl (by k_is) rfl rfl rfl); (case c5 => decide); (case kB => exact locs rfl); (case c2 => exact rfl); (case c3 => exact rfl); (case c4 => exact rfl); k_whole)
  intro h₁ F N
  have X := O.k
  have T := O.t
  dsimp only
  k_with "getMethod ref" => (refine getMethod_builtin ⟨_, (X.keeps F.keep) _ _ (k89 _), rfl⟩ pattern_attrs slot_sub type_sub (by rintro a ⟨⟩; exact ⟨_, (X.keeps F.keep) _ _ (k89 _), rfl⟩) ?_)
  k_with "call builtin:re.Pattern.sub" => (refine call_sub (X.keeps F.keep) hb hsz ?_; intro r tr s1 hr hx; have F1 := fr_ext F hx; have N1 := news_ext N hx)
  k_with "getMethod bytes" => (refine getMethod_builtin (typeIs_bytes _ _ _) bytes_attrs slot_bcount type_bcount (by rintro a ⟨⟩) ?_)
  k_with "call builtin:bytes.count" => (refine call_count ?_; intro tc kc)
  k_steps
  rename_i h2 F2 N2 _ _
  refine q_int ?_ (hQ _ _ ((Kin.trans (Kin.heap s _ _) (Kin.trans hx.kin (Kin.heap _ _ _))).ext F2.keep))
  rw [hr]
  unfold openF
  show (0 : Int) + ((List.count 40 (stripL (nats b)) : Nat) : Int) - ((List.count 41 (stripL (nats b)) : Nat) : Int) = _
  omega
end Mine
end

section
open PySem PySem.W PyProof.Rows PySem.Calls
namespace Mine
set_option maxRecDepth 100000
set_option maxHeartbeats 8000000
open Builtin Builtin.Str Builtin._codecs
theorem encodeRoad_ascii (id : String) (self : Value) (x : Str) (errors : Option Str) : encodeRoad id self x (Str.ofString "ascii") errors = (do mkBytes (← encodeNarrow id asciiCodec errors self x)) := by
  first | rfl | (unfold encodeRoad; rfl) | (unfold encodeRoad; simp only []; rfl) | decide
theorem encode_ascii_tree (x : Str) (t t2 : Tok) : «str.encode» ⟨[.str x t, .str (Str.ofString "ascii") t2], []⟩ = (do ret (← encodeRoad "str.encode" (.str x t) x (Str.ofString "ascii") none)) := by kernel_rfl
theorem encodeNarrow_ascii (id : String) (self : Value) (x : Str) (hx : ∀ c ∈ x.cps.toList, c < 128) (hl : x.length ≤ sizeLine) :
    encodeNarrow id asciiCodec none self x = pure (x.cps.foldl (fun acc y => acc ++ (asciiCodec.bytesOf y).toArray) #[]) := by
  unfold encodeNarrow
  dsimp only
  rw [Std.Legacy.Range.forIn_eq_forIn_range']
  have e : ([0 : x.length] : Std.Legacy.Range).size = x.length := by simp [Std.Legacy.Range.size]
  rw [e]
  have h1 : ∀ n, List.range' ([:x.length] : Std.Legacy.Range).start (n + 1) ([:x.length] : Std.Legacy.Range).step = 0 :: List.range' 1 n 1 := fun n => rfl
  have hbad : ∀ c ∈ x.cps.toList, asciiCodec.bad c = false := by
    intro c hc
    have := hx c hc
    show decide (c ≥ 128) = false
    rw [decide_eq_false_iff_not]
    omega
  have e2 : (x.cps.extract 0 x.cps.size).findIdx? asciiCodec.bad = none := by
    rw [Array.extract_size, Array.findIdx?_eq_none_iff]
    intro c hc
    exact hbad c (Array.mem_toList_iff.mpr hc)
  have e3 : (x.cps.extract 0 x.cps.size).extract 0 (x.cps.extract 0 x.cps.size).size = x.cps := by simp
  have e4 : (x.cps.extract 0 x.cps.size).size = x.cps.size := by simp
  have hfs : ∀ (l : List Nat) (a : Array UInt8), (l.foldl (fun acc y => acc ++ (asciiCodec.bytesOf y).toArray) a).size = a.size + l.length := by
    intro l
    induction l with
    | nil => intro a; simp
    | cons c l ih => intro a; rw [List.foldl_cons, ih]; simp [asciiCodec]; omega
  cases hn : x.length with
  | zero =>
    have : x.cps = #[] := by apply Array.eq_empty_of_size_eq_zero; exact hn
    rw [this]; rfl
  | succ n =>
    rw [← hn, hn, h1, List.forIn_cons]
    have hsz : 0 < x.cps.size := by
      have : x.cps.size = n + 1 := hn
      omega
    have hg : x.cps[0]? = some x.cps[0] := by simp [hsz]
    have hb : asciiCodec.bad (x.cps[0]'hsz) = false := hbad _ (by simp)
    dsimp only
    rw [if_neg (by decide)]
    simp only [hg]
    rw [if_pos (by rw [hb]; rfl)]
    rw [e2]
    simp only [Option.getD_none, e3, pure_bind]
    have hout : (x.cps.foldl (fun acc y => acc ++ (asciiCodec.bytesOf y).toArray) #[]).size = x.cps.size := by
      rw [← Array.foldl_toList, hfs]
      simp
    cases n with
    | zero => rfl
    | succ n =>
      have h2 : List.range' 1 (n + 1) 1 = 1 :: List.range' 2 n 1 := rfl
      rw [h2, List.forIn_cons]
      dsimp only
      rw [if_neg (by rw [hout]; exact Nat.not_lt.mpr hl)]
      have hnone : x.cps[0 + (x.cps.extract 0 x.cps.size).size]? = none := by simp
      simp only [hnone, pure_bind]
section
variable {prog : Program} {w : World} {A : Around}
theorem call_encode {x : Str} {t t2 : Tok} {Q E : Value → Shared → Prop} {s : Shared} (hx : ∀ c ∈ x.cps.toList, c < 128) (hl : x.length ≤ sizeLine)
    (h : ∀ b tb k, nats b = x.cps.toList → Q (.bytes b tb) { s with toks := s.toks + k }) : wpAny (model prog w) A (call (.builtin "str.encode") [.str x t, .str (Str.ofString "ascii") t2]) Q E s := by
  refine wpAny_call_entry F.slot_str_encode (typeIs_str s _ _) F.entry_str_encode ?_ (F.args_str_encode_2 _ _)
  rw [encode_ascii_tree, encodeRoad_ascii, encodeNarrow_ascii _ _ _ hx hl]
  refine wpAny_bind (wpAny_bind (wpAny_pure ?_))
  have hn : nats (x.cps.foldl (fun acc y => acc ++ (asciiCodec.bytesOf y).toArray) #[]) = x.cps.toList := by
    rw [← Array.foldl_toList]
    have key : ∀ (l : List Nat) (a : Array UInt8), (∀ c ∈ l, c < 128) → nats (l.foldl (fun acc y => acc ++ (asciiCodec.bytesOf y).toArray) a) = nats a ++ l := by
      intro l
      induction l with
      | nil => intro a _; simp
      | cons c l ih =>
        intro a h
        have hc : c < 128 := h c (.head _)
        rw [List.foldl_cons, ih _ (fun d hd => h d (.tail _ hd)), nats_append]
        have : nats (asciiCodec.bytesOf c).toArray = [c] := by
          show [c.toUInt8.toNat] = [c]
          rw [Nat.toUInt8, UInt8.toNat_ofNat']
          congr 1
          omega
        rw [this]; simp
    rw [key _ _ hx]
    rfl
  have hb : (x.cps.foldl (fun acc y => acc ++ (asciiCodec.bytesOf y).toArray) #[]).size ≤ sizeLine := by
    have := congrArg List.length hn
    simp only [nats, List.length_map, Array.length_toList] at this
    rw [this]; exact hl
  exact wpAny_mkBytes (wpAny_pure ⟨_, rfl, h _ _ 1 hn⟩) hb
end
end Mine
end

section
open PySem PySem.W PyProof.Rows PySem.Calls
open Sem (wp)
namespace Mine
set_option maxRecDepth 100000
set_option maxHeartbeats 8000000
abbrev noE : Value → Shared → Prop := fun _ _ => False
section
variable {M : Model} {A : Around} {R : GenEnd} {Y : Protocol} {n : Nat} {s₀ : Shared} {c : Code} {fs : List Frame} {s : Shared} {env : Env}
  {K : Flow → Sem Fin} {H : Value → Sem Fin} {gd : Bool → Bool} {lv : List Value → List Value}
/-- a step that raises nothing, ahead of the rest -/
theorem seg_step {α β : Type} {m : Sem α} {K₁ : α → Sem β} {K' : β → Sem Fin} {H' : Value → Sem Fin}
    (h : wpAny M (A.over c fs) m (fun a s' => Seg M A R Y n s₀ c ((K₁ a).wrap K' H' gd lv) fs s') noE s) : Seg M A R Y n s₀ c ((m >>= K₁).wrap K' H' gd lv) fs s :=
  seg_bind_wrap (wpAny_mono h (fun _ _ x => x) fun _ _ x => x.elim)
theorem seg_whole {α : Type} {m : Sem α} {K' : α → Sem Fin} {H' : Value → Sem Fin}
    (h : wpAny M (A.over c fs) m (fun a s' => Seg M A R Y n s₀ c (K' a) fs s') noE s) : Seg M A R Y n s₀ c (m.wrap K' H' gd lv) fs s :=
  seg_wrap (wpAny_mono h (fun _ _ x => x) fun _ _ x => x.elim)
abbrev backK (env : Env) (K : Flow → Sem Fin) (H : Value → Sem Fin) (gd : Bool → Bool) (lv : List Value → List Value) : Result → Sem Fin := fun r =>
  ((match r with | .ok f => (.pure f : Sem Flow) | .error e => .raise e).onRaise fun (x : Value) => do
        if (← field x 1) == Value.none then unsupported "frame.own-activation:exception-without-traceback"
        setFlight x env.frame).wrap K H gd lv
theorem seg_For {target iter : Expr} {body orelse : List Stmt} {pos : Pos} (hs : ∀ x, foldedSetIterable iter env x = pure x)
    (h : wpAny M (A.over c fs) (eval iter env) (fun x s₁ => wpAny M (A.over c fs) (pyIter x) (fun it s₂ => ∀ p, Seg M A R Y n s₀ (.forLoop target it body orelse env) (M.den (.forLoop target it body orelse env))
      (.ret (backK env K H gd lv) none (gd false) (lv []) c p [] :: fs) s₂) noE s₁) noE s) :
    Seg M A R Y n s₀ c ((exec (.For target iter body orelse pos) env).wrap K H gd lv) fs s := by
  rw [exec_For]
  refine seg_step (wpAny_standAt ?_)
  refine seg_step (wpAny_mono h (fun x s₁ h₁ => ?_) fun _ _ x => x)
  refine seg_step (wpAny_of_eq (hs x) ?_)
  refine seg_step (wpAny_standAt ?_)
  refine seg_step (wpAny_holding (wpAny_mono h₁ (fun it s₂ h₂ => ?_) fun _ _ x => x))
  exact seg_call h₂
theorem seg_If {test : Expr} {body orelse : List Stmt} {pos : Pos}
    (h : wpAny M (A.over c fs) (isTrue test env (eval test env)) (fun b s' => Seg M A R Y n s₀ c ((execs (if b = true then body else orelse) env).wrap K H gd lv) fs s') noE s) :
    Seg M A R Y n s₀ c ((exec (.If test body orelse pos) env).wrap K H gd lv) fs s := by
  rw [exec_If]
  refine seg_step (wpAny_standAt ?_)
  refine seg_step (wpAny_mono h (fun b s' x => ?_) fun _ _ x => x)
  cases b <;> exact x
end
section
variable {prog : Program} {w : World} {A : Around} {R : GenEnd} {Y : Protocol} {n : Nat} {s₀ : Shared} {fs : List Frame} {s : Shared} {env : Env}
abbrev notedH (env : Env) : Value → Sem Fin := fun e => (do noteFrame e env; theTreesLotGoes e : Sem Unit).wrap (fun _ => .raise e) .raise id id
abbrev loopK (target : Expr) (it : Value) (body orelse : List Stmt) (env : Env) : Flow → Sem Fin := fun f => match f with
            | .next | .cont => .pure (.again (.forLoop target it body orelse env))
            | .brk => .pure (.done .next)
            | .ret v => .pure (.done (.ret v))
theorem seg_forLoop {target : Expr} {it : Value} {body orelse : List Stmt}
    (h : wpAny (model prog w) (A.over (.forLoop target it body orelse env) fs) (pyNext it) (fun r s₁ => match r with
        | none => Seg (model prog w) A R Y n s₀ (.block orelse env) ((model prog w).den (.block orelse env)) fs s₁
        | some v => wpAny (model prog w) (A.over (.forLoop target it body orelse env) fs) (letOwnedTupleGo target it v) (fun _ s₂ => wpAny (model prog w) (A.over (.forLoop target it body orelse env) fs) (assign target env v) (fun _ s₃ =>
            Seg (model prog w) A R Y n s₀ (.forLoop target it body orelse env) ((execs body env).wrap (loopK target it body orelse env) (notedH env) id id) fs s₃) noE s₂) noE s₁) noE s) :
    Seg (model prog w) A R Y n s₀ (.forLoop target it body orelse env) ((model prog w).den (.forLoop target it body orelse env)) fs s := by
  show Seg _ A R Y n s₀ _ ((forTurn target it body orelse env).onRaise (fun x => do noteFrame x env; theTreesLotGoes x)) fs s
  unfold forTurn
  rw [Sem.onRaise_eq_wrap]
  refine seg_step (wpAny_standAt ?_)
  refine seg_step (wpAny_onRaise (wpAny_mono h (fun r s₁ h₁ => ?_) fun _ _ x => x.elim))
  cases r with
  | none => exact seg_again rfl h₁
  | some v =>
    refine seg_step (wpAny_mono h₁ (fun _ s₂ h₂ => ?_) fun _ _ x => x)
    refine seg_step (wpAny_mono h₂ (fun _ s₃ h₃ => ?_) fun _ _ x => x)
    rw [Sem.bind_eq_wrap', Sem.wrap_wrap]
    rw [Sem.wrap_congr (execs body env) _ _ (K' := loopK target it body orelse env) (H' := notedH env) (fun f => by cases f <;> rfl)
        (fun e => by first | exact Sem.bind_eq_wrap _ _ | (show (do noteFrame e env; theTreesLotGoes e : Sem Unit).bind (fun _ => .raise e) = _; rw [Sem.bind_eq_wrap]))]
    exact h₃
theorem seg_block_nil {F : Frame} {k h g l c₁ p₁ kp} (hF : F = .ret k h g l c₁ p₁ kp) (h : Seg (model prog w) A R Y n s₀ c₁ (k (.ok .next)) fs s) :
    Seg (model prog w) A R Y n s₀ (.block [] env) ((model prog w).den (.block [] env)) (F :: fs) s := by
  subst hF
  exact seg_leaf (.ok .next) h
end
end Mine
end

section
open PySem PySem.W PyProof.Rows PySem.Calls
open Sem (wp)
namespace Mine
set_option maxRecDepth 100000
set_option maxHeartbeats 8000000
section
variable {prog : Program} {w : World} {A : Around} {E : Value → Shared → Prop} {s : Shared}
/-- the next of a generator function's run; what it leaves behind is bare -/
theorem next_gen {a : Addr} {g n : Nat} {gs : GenState} {P : Nat → Shared → Shared → Prop} {Y : Protocol} {Q : Option Value → Shared → Prop} (hh : A.handled = none)
    (hl : s.heap.NoLimit) (hroom : A.depth < recursionLimit) (hg : s.heap.IsGen a g) (hgs : s.gens[g]? = some gs)
    (hgo : gs.Goes (model prog w) A.in1 (fun n s₀ r s₁ => r = .ok (.ret .none) ∧ P n s₀ s₁) Y n (.send .none) (s.setGen g .running))
    (hY : ∀ v s₁ gs', gs'.bare = true → Y (n - 1) (s.setGen g .running) v s₁ (fun r' s'' => match n with
        | 0 => False
        | m + 1 => gs'.Goes (model prog w) A.in1 (fun n s₀ r s₁ => r = .ok (.ret .none) ∧ P n s₀ s₁) Y m r' s'') → Q (some v) (s₁.setGen g gs'))
    (hP : ∀ s₁, P n (s.setGen g .running) s₁ → ∀ h', (∀ b o, s₁.heap.get? b = some o → h'.get? b = some o) → Q none { s₁.setGen g .finished with heap := h' }) :
    wpAny (model prog w) A (pyNext (.ref a)) Q E s := by
  unfold pyNext
  refine wpAny_bind (wpAny_attempt (wpAny_callSpecial?_slot (name := Str.ofString "__next__") hg.typeIs slot_gen_next
    (wpAny_call_entry slot_gen_next hg.typeIs entry_gen_next ?_ (args_gen_next _))))
  show wpAny _ _ (Builtin.Generator.genWake (.ref a) (.send .none)) _ _ s
  unfold Builtin.Generator.genWake
  refine wpAny_bind (wpAny_holding (wpAny_genNumber hg (wpAny_bind (wpAny_genState hgs ?_))))
  cases gs with
  | running => exact hgo.elim
  | finished => exact hgo.elim
  | _ =>
    refine wpAny_bind (wpAny_roomToWake hl hroom ?_)
    show wpAny _ _ (.resume g (.send .none) [] _) _ _ s
    refine wpAny_resumeQ hgs hgo (fun x s₁ hx => ?_) (fun v s₁ gs' hb hv => ?_)
    · obtain ⟨rfl, hp⟩ := hx
      show wpAny _ _ (newExc (.type "StopIteration") [] >>= _) _ _ _
      refine wpAny_bind ?_
      unfold newExc newTuple
      refine wpAny_bind (wpAny_newObj_type ?_ (by size_fits))
      refine wpAny_bind (m := firstArgMember _ _) (wpAny_of_eq (a := Value.none) (by simp only [firstArgMember]; rfl) ?_)
      refine wpAny_newObj_type ?_ (by size_fits)
      unfold raiseNew
      refine wpAny_bind (wpAny_bind (wpAny_handled ?_))
      rw [show A.in1.handled = none from hh]
      refine wpAny_throw ?_
      refine wpAny_bind (wpAny_isInstance (T := "StopIteration") (b := true) ⟨_, Heap.get?_push_size _ rfl, rfl⟩ isSubtype_stop ?_)
      exact wpAny_pure (hP s₁ hp _ fun b o hb => Heap.get?_push_of_some _ (Heap.get?_push_of_some _ hb))
    · exact wpAny_pure ⟨v, rfl, wpAny_pure (hY v s₁ gs' hb hv)⟩
end
end Mine
end

section
open PySem PySem.W PyProof.Rows PySem.Calls
open Sem (wp)
namespace Mine
set_option maxRecDepth 100000
set_option maxHeartbeats 8000000
/-- what a generator of ours holds between two of its items -/
structure GI (h₀ : Heap) (L e it : Addr) (x : Str) (t : Tok) (i : Nat) (h : Heap) : Prop where
  out : ∃ m old, Fr h₀ L h m ∧ m (Str.ofString "escape") = some (.bool false) ∧ IsEnum h e it i old ∧ h.IsStrIter it (strIterType x) x t i
structure GA (h₀ : Heap) (L e it : Addr) : Prop where
  ei : e ≠ it
  eL : e ≠ L
  iL : it ≠ L
  e0 : h₀.get? e = none
  i0 : h₀.get? it = none
structure Since (L e it : Addr) (s₀ s : Shared) : Prop where
  out : ∃ h' tk, s = { s₀ with heap := h', toks := tk } ∧ ∀ b o, b ≠ L → b ≠ e → b ≠ it → s₀.heap.get? b = some o → h'.get? b = some o
theorem Since.refl (L e it : Addr) (s : Shared) : Since L e it s s := ⟨s.heap, s.toks, rfl, fun _ _ _ _ _ e => e⟩
theorem Since.step {L e it : Addr} {s₀ s : Shared} (x : Since L e it s₀ s) {h' : Heap} {tk : Nat} (hk : ∀ b o, b ≠ L → b ≠ e → b ≠ it → s.heap.get? b = some o → h'.get? b = some o) :
    Since L e it s₀ { s with heap := h', toks := tk } := by
  obtain ⟨h₁, tk₁, rfl, hk₁⟩ := x
  exact ⟨h', tk, rfl, fun b o h1 h2 h3 y => hk b o h1 h2 h3 (hk₁ b o h1 h2 h3 y)⟩
theorem GI.keeps {h₀ : Heap} {L e it : Addr} {x : Str} {t : Tok} {i : Nat} {h h' : Heap} (y : GI h₀ L e it x t i h) (k0 : ∀ b o, h₀.get? b = some o → h'.get? b = some o)
    (k : ∀ b, b = L ∨ b = e ∨ b = it → ∀ o, h.get? b = some o → h'.get? b = some o) : GI h₀ L e it x t i h' := by
  obtain ⟨m, old, F, he, hE, hI⟩ := y
  obtain ⟨o, ho, r⟩ := hI
  exact ⟨m, old, ⟨F.ns.at' fun o q => k _ (.inl rfl) o q, k0, F.above⟩, he, k _ (.inr (.inl rfl)) _ hE, ⟨o, k _ (.inr (.inr rfl)) _ ho, r⟩⟩
abbrev genR (L e it : Addr) : GenEnd := fun n s₀ r s₁ => r = .ok (.ret .none) ∧ (n = 0 ∧ Since L e it s₀ s₁)
structure Item (x : Str) (i : Nat) (s₀ : Shared) (v : Value) (s : Shared) : Prop where
  out : ∃ T tk tc c, v = .ref T ∧ x.cps[i]? = some c ∧ s.heap.get? T = some { cls := .type "tuple", data := .seq #[.int i tk, .str ⟨#[c]⟩ tc] } ∧ s₀.heap.get? T = none
abbrev genY (h₀ : Heap) (L e it : Addr) (x : Str) : Protocol := fun m s₀ v s kap =>
  (m + 1 ≤ x.cps.size ∧ Item x (x.cps.size - 1 - m) s₀ v s) ∧ Since L e it s₀ s ∧ (∃ o₁ o₂ o₃, s.heap.get? L = some o₁ ∧ s.heap.get? e = some o₂ ∧ s.heap.get? it = some o₃) ∧
    ∀ s'' : Shared, (∀ b o, h₀.get? b = some o → s''.heap.get? b = some o) → (∀ b, b = L ∨ b = e ∨ b = it → ∀ o, s.heap.get? b = some o → s''.heap.get? b = some o) → kap (.send .none) s''

theorem draws_str {prog : Program} {w : World} {A : Around} (hh : A.handled = none) (it : Addr) (x : Str) (t : Tok) :
    Draws prog w A it [it] x.cps.size (fun i v => ∃ c u, x.cps[i]? = some c ∧ v = .str ⟨#[c]⟩ u) (fun i h => h.IsStrIter it (strIterType x) x t i) := by
  cases ha : x.cps.all (· < 128)
  · have : strIterType x = "str_iterator" := by simp [strIterType, ha]
    rw [this]; exact Draws.strWide hh it x t
  · have : strIterType x = "str_ascii_iterator" := by simp [strIterType, ha]
    rw [this]; exact Draws.strAscii hh it x t

section
variable {prog : Program} {w : World} {A : Around} {env : Env} {fs : List Frame}
theorem seg_enum {h₀ : Heap} {e it : Addr} {x : Str} {t : Tok} {xi xc : Str} {pi pc pt : Pos} {x1 : Nat} {body : List Stmt} (ap : GA h₀ env.locals e it)
    (hh : (A.over (.forLoop (.Tuple [.Name xi pi, .Name xc pc] x1 pt) (.ref e) body [] env) fs).handled = none)
    (hxi : env.kindOf xi = some .local) (hxc : env.kindOf xc = some .local) (hp : (env.scope.kind == .class || (env.scope.kind == .module && env.locals != env.globals)) = false)
    (turn : ∀ (k : Nat) (s₀ s₁ : Shared) (i : Nat) (m : Str → Option Value) (c : Nat) (tp tc : Tok), x.cps[i]? = some c → Fr h₀ env.locals s₁.heap (fun y => if y = xc then some (.str ⟨#[c]⟩ tc) else if y = xi then some (.int (i : Int) tp) else m y) → m (Str.ofString "escape") = some (.bool false) →
      (∃ old, IsEnum s₁.heap e it ((i + 1 : Nat) : Int) old) → s₁.heap.IsStrIter it (strIterType x) x t (i + 1) → Since env.locals e it s₀ s₁ → k = x.cps.size - (i + 1) → i < x.cps.size →
      (∀ s₀' s' : Shared, GI h₀ env.locals e it x t (i + 1) s'.heap → Since env.locals e it s₀' s' → Seg (model prog w) A (genR env.locals e it) (genY h₀ env.locals e it x) k s₀' (.forLoop (.Tuple [.Name xi pi, .Name xc pc] x1 pt) (.ref e) body [] env) (.pure (.again (.forLoop (.Tuple [.Name xi pi, .Name xc pc] x1 pt) (.ref e) body [] env))) fs s') →
      Seg (model prog w) A (genR env.locals e it) (genY h₀ env.locals e it x) (k + 1) s₀ (.forLoop (.Tuple [.Name xi pi, .Name xc pc] x1 pt) (.ref e) body [] env) ((execs body env).wrap (loopK (.Tuple [.Name xi pi, .Name xc pc] x1 pt) (.ref e) body [] env) (notedH env) id id) fs s₁)
    (fin : ∀ (s₀ s : Shared) (m : Str → Option Value), Fr h₀ env.locals s.heap m → m (Str.ofString "escape") = some (.bool false) → Since env.locals e it s₀ s → Seg (model prog w) A (genR env.locals e it) (genY h₀ env.locals e it x) 0 s₀ (.block [] env) ((model prog w).den (.block [] env)) fs s) :
    ∀ (k i : Nat) (s₀ s : Shared), GI h₀ env.locals e it x t i s.heap → Since env.locals e it s₀ s → k = x.cps.size - i → i ≤ x.cps.size →
      Seg (model prog w) A (genR env.locals e it) (genY h₀ env.locals e it x) k s₀ (.forLoop (.Tuple [.Name xi pi, .Name xc pc] x1 pt) (.ref e) body [] env) ((model prog w).den (.forLoop (.Tuple [.Name xi pi, .Name xc pc] x1 pt) (.ref e) body [] env)) fs s := by
  have D := WalksT.enumerateD (draws_str (prog := prog) (w := w) (A := (A.over (.forLoop (.Tuple [.Name xi pi, .Name xc pc] x1 pt) (.ref e) body [] env) fs).in1) hh it x t) e ap.ei (by simpa using ap.ei) (by simp)
  intro k
  induction k with
  | zero =>
    intro i s₀ s g hs hk hi
    have hin : i = x.cps.size := by omega
    subst hin
    obtain ⟨m, old, F, he, hE, hI⟩ := id g
    refine seg_forLoop (D.done s _ _ ⟨⟨_, hE⟩, hI⟩ fun h' tk hk' => ?_)
    have hk2 : ∀ b o, b ≠ e → b ≠ it → s.heap.get? b = some o → h'.get? b = some o := fun b o h2 h3 => hk' b o (by simp [h2, h3])
    refine fin s₀ _ m ⟨F.ns.at' fun o q => hk2 _ o (Ne.symm ap.eL) (Ne.symm ap.iL) q, fun b o q => hk2 b o (fun z => by rw [z, ap.e0] at q; cases q) (fun z => by rw [z, ap.i0] at q; cases q) (F.keep b o q), F.above⟩ he
      (hs.step fun b o _ h2 h3 q => hk2 b o h2 h3 q)
  | succ k ih =>
    intro i s₀ s g hs hk hi
    obtain ⟨m, old, F, he, hE, hI⟩ := id g
    have hlt : i < x.cps.size := by omega
    refine seg_forLoop (D.item i s _ _ hlt ⟨⟨_, hE⟩, hI⟩ fun T vals h₁ tk₁ hv hT0 hT hmid hk₁ => ?_)
    obtain ⟨tp, y, ⟨c, tc, hc, rfl⟩, rfl⟩ := hv
    dsimp only
    refine D.go _ _ _ i T _ _ _ hmid fun h₂ hst₂ hk₂ => ?_
    obtain ⟨⟨old₂, hE₂⟩, hI₂⟩ := hst₂
    have up₂ : ∀ b o, b ≠ e → b ≠ it → s.heap.get? b = some o → h₂.get? b = some o := fun b o h2 h3 q => hk₂ b o (by simp [h2, h3]) (hk₁ b o (by simp [h2, h3]) q)
    have F₂ : Fr h₀ env.locals h₂ m := ⟨F.ns.at' fun o q => up₂ _ o (Ne.symm ap.eL) (Ne.symm ap.iL) q, fun b o q => up₂ b o (fun z => by rw [z, ap.e0] at q; cases q) (fun z => by rw [z, ap.i0] at q; cases q) (F.keep b o q), F.above⟩
    have hTw := D.apart i T _ hmid
    have hT₂ : h₂.IsTuple T #[.int i tp, .str ⟨#[c]⟩ tc] := hT.at fun o q => hk₂ T o hTw q
    have heh : e < h₂.objs.size := Heap.lt_size hE₂
    have hih : it < h₂.objs.size := by obtain ⟨_, y, _⟩ := hI₂; exact Heap.lt_size y
    refine wpAny_assign_Tuple hh hT₂ rfl rfl fun h₃ hx₃ => ?_
    replace hx₃ : Heap.ExtBut h₂.objs.size h₂ h₃ := hx₃
    have up₃ : ∀ b o, h₂.get? b = some o → h₃.get? b = some o := fun b o q => hx₃ b o (Nat.ne_of_lt (Heap.lt_size q)) q
    have F₃ : Fr h₀ env.locals h₃ m := ⟨F₂.ns.at' fun o q => up₃ _ o q, fun b o q => up₃ b o (F₂.keep b o q), F.above⟩
    show wpAny _ _ (do holding [Value.str ⟨#[c]⟩ tc] (assign (.Name xi pi) env (.int i tp)); do holding [] (assign (.Name xc pc) env (.str ⟨#[c]⟩ tc)); pure ()) _ _ _
    refine wpAny_bind (wpAny_holding (wpAny_assign_Name (wpAny_storeName_local hxi F₃.ns (fun h₄ hn₄ hs₄ => ?_) hp)))
    replace hs₄ : Heap.SameBut env.locals h₃ h₄ := hs₄
    have F₄ := F₃.set hn₄ hs₄
    refine wpAny_bind (wpAny_holding (wpAny_assign_Name (wpAny_storeName_local hxc F₄.ns (fun h₅ hn₅ hs₅ => wpAny_pure ?_) hp)))
    replace hs₅ : Heap.SameBut env.locals h₄ h₅ := hs₅
    have F₅ := F₄.set hn₅ hs₅
    have up₅ : ∀ b o, b ≠ env.locals → h₂.get? b = some o → h₅.get? b = some o := fun b o h1 q => (hs₅.2 b h1).trans ((hs₄.2 b h1).trans (up₃ b o q))
    refine turn k s₀ _ i m c tp tc hc F₅ he ⟨old₂, up₅ _ _ ap.eL hE₂⟩ (let ⟨o, ho, r⟩ := hI₂; ⟨o, up₅ _ o ap.iL ho, r⟩) (hs.step fun b o h1 h2 h3 q => up₅ b o h1 (up₂ b o h2 h3 q)) (by omega) hlt fun s₀' s' g' hs' => ?_
    exact seg_again rfl (ih (i + 1) s₀' s' g' hs' (by omega) hlt)
end
end Mine
end

section
open PySem PySem.W PyProof.Rows PySem.Calls
open Sem (wp)
namespace Mine
set_option maxRecDepth 100000
set_option maxHeartbeats 8000000
section
variable {prog : Program} {w : World} {p : Program} {loose : List Str} {mean : ExcName → Option Value} {mg mb : Str → Option Value}
abbrev genObj (g : Nat) (name qual : Str) (tk : Nat) : Obj := { cls := .type "generator", data := .fields #[.int g 0, .str name tk, .str qual (tk + 1)] }
theorem enter_gen {A : Around} {Q E : Value → Shared → Prop} {s : Shared} {name qual : Str} {params : Arguments} {body : List Stmt} {scope : Scope} {dV kV doc pm cdv ct oc : Value} {an od : Option Addr} {osl : Array (Option Value)} {f : Addr} {vs : List Value} {binds : List (Str × Value)}
    (O : Ok w p loose mean mg mb s.heap) (ho : (hd.heap_39 w.params).lookup f = some ⟨oc, od, .func (fnOf name qual params body scope dV kV doc pm an cdv ct), osl⟩)
    (hcd : codeIn (hd.heap_39 w.params) cdv qual = true) (hroom : A.depth < recursionLimit)
    (hbind : BindsTo s (fnOf name qual params body scope dV kV doc pm an cdv ct) ⟨vs, []⟩ binds) (hloc : ∀ y ∈ binds, scope.names.lookup y.1 = some .local)
    (hcell : ∀ x ∈ scope.names, x.2 ≠ .cell) (hco : scope.isCoroutine = false) (hgen : scope.isGenerator = true) (hk : scope.kind = .function)
    (h : ∀ h₁ : Heap, h₁.Ns s.heap.objs.size (fun y => binds.reverse.lookup y) → (∀ b o, s.heap.get? b = some o → h₁.get? b = some o) → h₁.objs.size = s.heap.objs.size + 1 →
      Q (.ref (s.heap.objs.size + 1)) { s with gens := s.gens.push (.fresh (.func body (envOf qual scope s.heap.objs.size f cdv))), toks := s.toks + binds.length + 1 + 1, heap := h₁.push (genObj s.gens.size name qual (s.toks + binds.length)) }) :
    wpAny (model prog w) A (call (.ref f) vs) Q E s := by
  refine wpAny_call (codeAny_call_generator (fd := fnOf name qual params body scope dV kV doc pm an cdv ct) (body := body) hroom (O.k _ _ ho) rfl hco hgen rfl (codeRec_of O.k hcd) (hbind _ _ _ _ ?_))
  refine wpAny_newFunctionEnv hcell hloc (fun h₀ hns₀ hsb₀ => ⟨O.t.nolimit.fresh _ hsb₀, ?_⟩) hk
  have hz : h₀.objs.size = s.heap.objs.size + 1 := by rw [hsb₀.1, Heap.size_push]
  have := h h₀ hns₀ (fun b o e => hsb₀.extBut b o (Nat.ne_of_lt (Heap.lt_size e)) (Heap.get?_push_of_some _ e)) hz
  rw [← hz] at this
  exact this

theorem seg_stmt {M : Model} {A A₂ : Around} {R : GenEnd} {Y : Protocol} {n : Nat} {s₀ : Shared} {c : Code} {fs : List Frame} {s : Shared} {env : Env} {K : Flow → Sem Fin} {H : Value → Sem Fin} {gd : Bool → Bool} {lv : List Value → List Value}
    {st : Stmt} {rest : List Stmt} (hA : A.over c fs = A₂) (h : wpAny M A₂ (exec st env) (fun f s' => f = .next ∧ Opq (Seg M A R Y n s₀ c ((execs rest env).wrap K H gd lv) fs s')) noE s) :
    Seg M A R Y n s₀ c ((execs (st :: rest) env).wrap K H gd lv) fs s := by
  subst hA
  refine seg_execs_cons (seg_whole (wpAny_mono h (fun f s' x => ?_) fun _ _ x => x))
  obtain ⟨rfl, y⟩ := x
  exact y.out
structure GFresh (prog : Program) (w : World) (A : Around) (h₀ : Heap) (Lg : Addr) (oL : Obj) (x : Str) (gs : GenState) : Prop where
  go : ∀ s'' : Shared, (∀ b o, h₀.get? b = some o → s''.heap.get? b = some o) → s''.heap.get? Lg = some oL →
    gs.Goes (model prog w) A (genR Lg (s''.heap.objs.size + 1) s''.heap.objs.size) (genY h₀ Lg (s''.heap.objs.size + 1) s''.heap.objs.size x) x.cps.size (.send .none) s''

theorem call_gen {Q E : Value → Shared → Prop} {s : Shared} {h₀ : Heap} {x : Str} {t : Tok} {A : Around}
    (O : Ok w p loose mean mg mb s.heap) (O₀ : Ok w p loose mean mg mb h₀) (hfill : Challenge.rw_xo0010_01.foot = 6) (hk₀ : ∀ b o, h₀.get? b = some o → s.heap.get? b = some o) (hz₀ : h₀.objs.size ≤ s.heap.objs.size)
    (hroom : A.depth < recursionLimit) (hx : ∀ c ∈ x.cps.toList, c ≠ 92)
    (hQ : ∀ (oL oG : Obj) (gs : GenState) (h' : Heap) (tk : Nat), (∀ b o, s.heap.get? b = some o → h'.get? b = some o) → h'.get? s.heap.objs.size = some oL → h'.get? (s.heap.objs.size + 1) = some oG → h'.IsGen (s.heap.objs.size + 1) s.gens.size → gs.bare = true →
      (∀ A' : Around, A'.handled = none → GFresh prog w A' h₀ s.heap.objs.size oL x gs) → Q (.ref (s.heap.objs.size + 1)) { s with gens := s.gens.push gs, toks := tk, heap := h' }) :
    wpAny (model prog w) A (call (.ref 70) [.str x t]) Q E s := by
  have hfill2 : Challenge.rw_xo0010_01.foot = 6 ∨ hd.heap_39 = hd.heap_39 := by k_fill; exact .inl rfl
  clear hfill2 hfill
  (refine' enter_gen (f := 70) O ?k6 ?k7 ?k8 ?k9 ?kB ?c5 ?c2 ?c3 ?c4 ?_; (case k6 => k_is); (case k7 => k_is); (case k8 => exact hroom); (case k9 => exact BindsTo.of_eq rfl); (case c5 => decide); (case kB => exact locs rfl); (case c2 => exact rfl); (case c3 => exact rfl); (case c4 => exact rfl))
  intro h₁ hns hk₁ hz₁
  obtain ⟨oL, hoL⟩ : ∃ oL, h₁.get? s.heap.objs.size = some oL := let ⟨o, _, _, ho, _⟩ := hns; ⟨o, ho⟩
  refine hQ oL _ _ _ _ (fun b o e => Heap.get?_push_of_some _ (hk₁ b o e)) (Heap.get?_push_of_some _ hoL) (by rw [← hz₁]; exact Heap.get?_push_size _ rfl) ⟨_, _, _, by rw [← hz₁]; exact Heap.get?_push_size _ rfl, rfl, rfl, rfl⟩ rfl fun A' hA' => ⟨fun s'' hk'' hL'' => ⟨rfl, ?_⟩⟩
  have F : Fr h₀ s.heap.objs.size s''.heap (fun y => [(Str.ofString "addr", Value.str x t)].reverse.lookup y) := ⟨hns.at' fun o e => by rw [hL'']; rw [hoL] at e; exact e, hk'', hz₀⟩
  have hLs : s.heap.objs.size < s''.heap.objs.size := Heap.lt_size hL''
  have ap : GA h₀ s.heap.objs.size (s''.heap.objs.size + 1) s''.heap.objs.size :=
    ⟨Nat.succ_ne_self _, Nat.ne_of_gt (Nat.lt_succ_of_lt hLs), Nat.ne_of_gt hLs, Heap.get?_none_of_le (by omega), Heap.get?_none_of_le (by omega)⟩
  refine seg_func ?_
  generalize hA₁ : A'.over _ [] = A₁
  have hh₁ : A₁.handled = none := by subst hA₁; exact hA'
  have X := O₀.k
  have T := O₀.t
  refine seg_stmt hA₁ (wpAny_Assign_Name (wpAny_Constant_int (wpAny_storeName_local rfl F.ns fun h₂ hn₂ hs₂ => ⟨rfl, ⟨?_⟩⟩)))
  replace hs₂ : Heap.SameBut s.heap.objs.size s''.heap h₂ := hs₂
  have F₂ := F.set hn₂ hs₂
  refine seg_stmt hA₁ (wpAny_Assign_Name (wpAny_Constant_bool (wpAny_storeName_local rfl F₂.ns fun h₃ hn₃ hs₃ => ⟨rfl, ⟨?_⟩⟩)))
  replace hs₃ : Heap.SameBut s.heap.objs.size h₂ h₃ := hs₃
  have F₃ := F₂.set hn₃ hs₃
  have hz₃ : h₃.objs.size = s''.heap.objs.size := hs₃.1.trans hs₂.1
  have up₃ : ∀ b o, b ≠ s.heap.objs.size → s''.heap.get? b = some o → h₃.get? b = some o := fun b o h1 q => (hs₃.2 b h1).trans ((hs₂.2 b h1).trans q)
  have N : News h₀ s.heap.objs.size h₃ [] := News.nil
  clear F F₂ hn₂ hn₃ hs₂ hs₃
  refine seg_execs_cons (seg_For (fun _ => rfl) ?_)
  rw [hA₁]
  k_with "call type:enumerate" => (refine call_enumerate_str ?_; intro h₄ hE hI hz₄ hk₄)
  k_steps
  dsimp only at hE hI hz₄ hk₄ ⊢
  rw [hz₃] at hE hI hz₄ ⊢
  refine wpAny_pyIter_enum hE ?_
  intro pp
  have F₄ : Fr h₀ s.heap.objs.size h₄ _ := ⟨F₃.ns.keeps hk₄, fun b o e => hk₄ b o (F₃.keep b o e), F₃.above⟩
  refine seg_enum (env := envOf _ _ s.heap.objs.size _ _) (x := x) (t := t) ap ?_ rfl rfl rfl ?_ ?_ _ 0 _ _ ⟨_, _, F₄, rfl, hE, hI⟩ ⟨h₄, _, rfl, fun b o h1 h2 h3 q => hk₄ b o (up₃ b o h1 q)⟩ rfl (Nat.zero_le _)
  · exact hA'
  · intro k s₀ s₁ i m c tp tc hc F₅ he hE₅ hI₅ hs₅ hk hlt again_
    have N₅ : News h₀ s.heap.objs.size s₁.heap [] := News.nil
    replace F₅ : Fr h₀ s.heap.objs.size s₁.heap _ := F₅
    rw [← upd_self he] at F₅
    have hc92 : c ≠ 92 := hx c (by rw [← Array.getElem?_toList] at hc; exact List.mem_of_getElem? hc)
    clear hA₁ F₃ F₄ N hE hI hk₄ hz₄ hz₃ up₃ hns hQ O hL'' he
    refine seg_execs_cons (seg_If ?_)
    generalize hA₂ : A'.over _ _ = A₂
    have hh₂ : A₂.handled = none := by subst hA₂; exact hA'
    refine wpAny_mono (?_ : wpAny _ _ _ (fun b s' => b = false ∧ s' = s₁) noE _) (fun b s' y => ?_) (fun _ _ x => x)
    · k_steps
    · obtain ⟨rfl, rfl⟩ := y
      rw [if_neg Bool.false_ne_true]
      refine seg_execs_cons (seg_If ?_)
      rw [hA₂]
      refine wpAny_mono (?_ : wpAny _ _ _ (fun b s'' => Opq (b = false ∧ ∃ tk, s'' = { s' with toks := tk})) noE _) (fun b s' y => ?_) (fun _ _ x => x)
      · k_steps
        refine ⟨?_, _, rfl⟩
        rw [beq_eq_false_iff_ne]
        intro h
        have h2 : (⟨#[c]⟩ : Str) = ⟨#[92]⟩ := h
        injection h2 with h2
        injection h2 with h2
        injection h2 with h2
        exact hc92 h2
      · obtain ⟨rfl, tk, rfl⟩ := y
        rw [if_neg Bool.false_ne_true]
        refine seg_execs_cons ?_
        refine seg_Expr_Yield rfl rfl rfl ?_
        rw [hA₂]
        refine wpAny_Tuple ?_
        refine wpAny_mono (?_ : wpAny _ _ _ (fun vs s'' => Opq (vs = [.int i tp, .str ⟨#[c]⟩ tc] ∧ s'' = { s' with toks := tk})) noE _) (fun vs s'' y => ?_) (fun _ _ x => x.elim)
        · k_steps
          exact ⟨⟨trivial, trivial⟩⟩
        · obtain ⟨rfl, rfl⟩ := y
          refine ⟨(by show 2 ≤ sizeLine; decide), fun kap hkap => ?_⟩
          obtain ⟨old₅, hE₅⟩ := hE₅
          have hTe : s''.heap.objs.size + 1 < s'.heap.objs.size := Heap.lt_size hE₅
          have g : GI h₀ s.heap.objs.size (s''.heap.objs.size + 1) s''.heap.objs.size x t (i + 1) (s'.heap.push { cls := .type "tuple", data := .seq #[.int (i : Int) tp, .str ⟨#[c]⟩ tc] }) :=
            ⟨_, old₅, F₅.push _, rfl, Heap.get?_push_of_some _ hE₅, let ⟨o, ho, r⟩ := hI₅; ⟨o, Heap.get?_push_of_some _ ho, r⟩⟩
          have hik : x.cps.size - 1 - k = i := by omega
          refine ⟨⟨by omega, ⟨_, tp, tc, c, rfl, by rw [hik]; exact hc, by rw [hik]; exact Heap.get?_push_size _ rfl, ?_⟩⟩, hs₅.step fun b o _ _ _ q => Heap.get?_push_of_some _ q, ?_, fun s₃ k0 kk => hkap .none s₃ (again_ s₃ s₃ (g.keeps k0 kk) (Since.refl _ _ _ _))⟩
          · cases hn : s₀.heap.get? s'.heap.objs.size with
            | none => rfl
            | some o =>
              obtain ⟨h9, tk9, rfl, hk9⟩ := hs₅
              exact absurd (Heap.lt_size (hk9 _ o (Nat.ne_of_gt (Nat.lt_trans hLs (Nat.lt_of_succ_lt hTe))) (Nat.ne_of_gt hTe) (Nat.ne_of_gt (Nat.lt_of_succ_lt hTe)) hn)) (Nat.lt_irrefl _)
          · obtain ⟨m9, old9, F9, _, hE9, o9, hI9, _⟩ := g
            obtain ⟨oq, _, _, hq, _⟩ := F9.ns
            exact ⟨oq, _, o9, hq, hE9, hI9⟩
  · intro s₀ s₁ m F₅ he hs₅
    replace F₅ : Fr h₀ s.heap.objs.size s₁.heap _ := F₅
    rw [← upd_self he] at F₅
    refine seg_block_nil rfl ?_
    show Seg _ A' _ _ 0 s₀ _ ((execs _ (envOf _ _ s.heap.objs.size _ _)).wrap _ _ id id) [] s₁
    have N₅ : News h₀ s.heap.objs.size s₁.heap [] := News.nil
    clear F₃ F₄ N hE hI hk₄ hz₄ hz₃ up₃ hns hQ O hL'' he
    refine seg_execs_cons (seg_If ?_)
    rw [hA₁]
    refine wpAny_mono (?_ : wpAny _ _ _ (fun b s' => b = false ∧ s' = s₁) noE _) (fun b s' y => ?_) (fun _ _ x => x)
    · k_steps
    · obtain ⟨rfl, rfl⟩ := y
      rw [if_neg Bool.false_ne_true]
      exact seg_end (.ok (.ret .none)) ⟨rfl, rfl, hs₅⟩
end
end Mine
end

section
open PySem PySem.W PyProof.Rows PySem.Calls
open Sem (wp)
namespace Mine
set_option maxRecDepth 100000
set_option maxHeartbeats 8000000
theorem Kin.setGen {s s' : Shared} {g : Nat} {gs : GenState} (k : Kin s s') (hg : s.gens.size ≤ g) (hb : gs.bare = true) : Kin s (s'.setGen g gs) := by
  refine ⟨k.os, fun i x e => ?_, fun h y hy => ?_⟩
  · have hi : i < s.gens.size := (Array.getElem?_eq_some_iff.mp e).1
    show (s'.gens.setIfInBounds g gs)[i]? = some x
    rw [Array.getElem?_setIfInBounds_ne (by omega)]
    exact k.gens i x e
  · have hy' : y ∈ s'.gens.setIfInBounds g gs := hy
    rcases Array.mem_or_eq_of_mem_setIfInBounds hy' with h1 | h1
    · exact k.bare h y h1
    · rw [h1]; exact hb
theorem Since.kin {s : Shared} {L e it : Addr} {s₀ s' : Shared} (k : Kin s s₀) (x : Since L e it s₀ s') : Kin s s' := by
  obtain ⟨h', tk, rfl, _⟩ := x
  exact ⟨k.os, k.gens, k.bare⟩
theorem Since.keep {L e it : Addr} {s₀ s' : Shared} (x : Since L e it s₀ s') : ∀ b o, b ≠ L → b ≠ e → b ≠ it → s₀.heap.get? b = some o → s'.heap.get? b = some o := by
  obtain ⟨h', tk, rfl, hk⟩ := x
  exact hk
theorem Since.gens {L e it : Addr} {s₀ s' : Shared} (x : Since L e it s₀ s') : s'.gens = s₀.gens := by
  obtain ⟨h', tk, rfl, hk⟩ := x
  rfl

structure Apart4 (nx : List (Addr × Obj)) (aG aL aE aI : Addr) : Prop where
  out : ∀ p ∈ nx, (p.1 ≠ aG ∧ p.1 ≠ aL) ∧ (p.1 ≠ aE ∧ p.1 ≠ aI)
structure TurnG (h₀ : Heap) (L : Addr) (s : Shared) (gx : List (Addr × Obj)) (ne : List (Addr × Obj) → Prop) (J : (Str → Option Value) → List (Addr × Obj) → Prop) (s₂ : Shared) : Prop where
  out : ∃ m nx, Kin s s₂ ∧ Fr h₀ L s₂.heap m ∧ News h₀ L s₂.heap (gx ++ nx) ∧ ne nx ∧ J m nx
theorem TurnG.mk' {h₀ : Heap} {L : Addr} {s : Shared} {gx : List (Addr × Obj)} {ne : List (Addr × Obj) → Prop} {J : (Str → Option Value) → List (Addr × Obj) → Prop} {s₂ : Shared} {m : Str → Option Value} {nx : List (Addr × Obj)}
    (k : Kin s s₂) (F : Fr h₀ L s₂.heap m) (N : News h₀ L s₂.heap (gx ++ nx)) (hne : ne nx) (j : J m nx) : TurnG h₀ L s gx ne J s₂ := ⟨m, nx, k, F, N, hne, j⟩
abbrev TurnGPost (h₀ : Heap) (L : Addr) (s : Shared) (gx : List (Addr × Obj)) (ne : List (Addr × Obj) → Prop) (J : (Str → Option Value) → List (Addr × Obj) → Prop) (Q : Flow → Shared → Prop) (f : Flow) (s₂ : Shared) : Prop :=
  match f with
  | .ret r => Opq (Q (.ret r) s₂)
  | .brk => Opq (Q .next s₂)
  | _ => TurnG h₀ L s gx ne J s₂

section
variable {prog : Program} {w : World} {A : Around} {env : Env} {h₀ : Heap} {s : Shared} {m₀ : Str → Option Value} {news₀ : List (Addr × Obj)} {Q : Flow → Shared → Prop}
  {p : Program} {loose : List Str} {mean : ExcName → Option Value} {mg mb : Str → Option Value}

theorem go_gen {xi xc : Str} {pi pc pt : Pos} {x1 : Nat} {G g : Nat} (s : Shared) (hG : s.heap.IsGen G g) {E : Value → Shared → Prop} {T : Addr} {R : Unit → Shared → Prop} (h : R () s) :
    wpAny (model prog w) A (letOwnedTupleGo (.Tuple [.Name xi pi, .Name xc pc] x1 pt) (.ref G) (.ref T)) R E s := by
  obtain ⟨o, nm, qn, ho, hc, hd, hs⟩ := hG
  unfold letOwnedTupleGo
  refine wpAny_bind (wpAny_load ho ?_)
  rw [hc, hd]
  show wpAny _ A (if (["enumerate", "zip", "dict_itemiterator", "dict_reverseitemiterator", "odict_iterator", "itertools.zip_longest", "itertools.pairwise"].contains "generator" && _) = true then _ else pure ()) R E s
  rw [if_neg (by simp)]
  exact wpAny_pure h

theorem for_gen {iter : Expr} {xi xc : Str} {pi pc pt pos : Pos} {x1 : Nat} {body : List Stmt} {x : Str} {t : Tok}
    (hh : A.handled = none) (hroom : A.depth < recursionLimit) (O₀ : Ok w p loose mean mg mb h₀) (hfill : Challenge.rw_xo0010_01.foot = 6) (hx : ∀ c ∈ x.cps.toList, c ≠ 92)
    (hev : ∀ Q' : Value → Shared → Prop, wpAny (model prog w) A (call (.ref 70) [.str x t]) Q' (fun _ _ => False) s → wpAny (model prog w) A (eval iter env) Q' (fun _ _ => False) s)
    (hxi : env.kindOf xi = some .local) (hxc : env.kindOf xc = some .local) (hp : (env.scope.kind == .class || (env.scope.kind == .module && env.locals != env.globals)) = false)
    (hs : ∀ x, foldedSetIterable iter env x = pure x)
    (F : Fr h₀ env.locals s.heap m₀) (N : News h₀ env.locals s.heap news₀)
    (J : Nat → (Str → Option Value) → List (Addr × Obj) → Prop) (j0 : J 0 m₀ news₀)
    (turn : ∀ (i c : Nat) (tp tc : Tok) (m : Str → Option Value) (nx : List (Addr × Obj)) (aG aL aE aI : Addr) (oG oL oE oI : Obj) (s₁ : Shared), x.cps[i]? = some c → J i m nx → Kin s s₁ →
      Fr h₀ env.locals s₁.heap (fun y => if y = xc then some (.str ⟨#[c]⟩ tc) else if y = xi then some (.int (i : Int) tp) else m y) →
      News h₀ env.locals s₁.heap ((aG, oG) :: (aL, oL) :: (aE, oE) :: (aI, oI) :: nx) → Apart4 nx aG aL aE aI →
      wpAny (model prog w) A (execs body env) (TurnGPost h₀ env.locals s₁ [(aG, oG), (aL, oL), (aE, oE), (aI, oI)] (fun nx => Apart4 nx aG aL aE aI) (J (i + 1)) Q) (fun _ _ => False) s₁)
    (done : ∀ m nx s₁, J x.cps.size m nx → Kin s s₁ → Fr h₀ env.locals s₁.heap m → News h₀ env.locals s₁.heap nx → Q .next s₁) :
    wpAny (model prog w) A (exec (.For (.Tuple [.Name xi pi, .Name xc pc] x1 pt) iter body [] pos) env) Q (fun _ _ => False) s := by
  refine wpAny_For (hev _ ?_) hs
  have hLs : @LT.lt Nat _ env.locals s.heap.objs.size := F.ns.lt
  have hab : @LE.le Nat _ h₀.objs.size env.locals := F.above
  have O : Ok w p loose mean mg mb s.heap := O₀.keeps F.keep
  refine call_gen O O₀ hfill F.keep (Nat.le_trans hab (Nat.le_of_lt hLs)) hroom hx fun oL oG gs h' tk hk' hoL hoG hG hbare hfresh => ?_
  replace hfresh := hfresh A.in1 hh
  refine wpAny_pyIter_gen hG ?_
  have hGs : s.heap.get? (s.heap.objs.size + 1) = none := Heap.get?_none_of_le (by omega)
  have hLgs : s.heap.get? s.heap.objs.size = none := Heap.get?_none_of_le (Nat.le_refl _)
  have h0none : ∀ b, s.heap.get? b = none → h₀.get? b = none := fun b hb => by
    cases hz : h₀.get? b with
    | none => rfl
    | some o => rw [F.keep b o hz] at hb; cases hb
  have hG0 := h0none _ hGs
  have hL0 := h0none _ hLgs
  have hb0 : s.heap.objs.size ≤ (s.heap.objs.size : Nat) := Nat.le_refl _
  generalize hGe : s.heap.objs.size + 1 = G at *
  generalize hLe : s.heap.objs.size = Lg at *
  have hGL : @Ne Nat G Lg := by omega
  have hGloc : @Ne Nat G env.locals := by omega
  have hLloc : @Ne Nat Lg env.locals := by omega
  refine codeAny_forLoop_any (fun k s' => ∃ i m nx, k = x.cps.size + 1 - i ∧ i ≤ x.cps.size ∧ Kin s s' ∧ Fr h₀ env.locals s'.heap m ∧ News h₀ env.locals s'.heap ((G, oG) :: nx) ∧ (∀ p ∈ nx, p.1 ≠ G ∧ p.1 ≠ Lg) ∧ J i m nx ∧ s'.heap.IsGen G s.gens.size ∧
    ∃ gs e it, s'.gens[s.gens.size]? = some gs ∧ gs.bare = true ∧ GA h₀ Lg e it ∧ ((e ≠ env.locals ∧ it ≠ env.locals) ∧ e ≠ G ∧ it ≠ G) ∧ (∀ p ∈ nx, p.1 ≠ e ∧ p.1 ≠ it) ∧
      gs.Goes (model prog w) A.in1 (genR Lg e it) (genY h₀ Lg e it x) (x.cps.size - i) (.send .none) (s'.setGen s.gens.size .running)) ?_ (x.cps.size + 1) ?_
  · rintro k s' ⟨i, m, nx, rfl, hi, hk, F', N', hne, j, hG', gs', e, it, hgs, hb, ap, ⟨⟨heL, hiL⟩, heG, hiG⟩, hne2, hgo⟩
    refine next_gen hh (O₀.keeps F'.keep).t.nolimit hroom hG' hgs hgo (fun v s₁ gs₁ hb₁ hY => ?_) (fun s₁ hP h₂ hk₂ => ?_)
    · obtain ⟨⟨hsz, ⟨T, tp, tc, c, rfl, hc, hT, hT0⟩⟩, hsince, ⟨o₁, o₂, o₃, ho₁, ho₂, ho₃⟩, hkap⟩ := hY
      have hlt : i < x.cps.size ∨ x.cps.size - i = 0 := by omega
      rcases hlt with hlt | hz
      · obtain ⟨n, hn⟩ : ∃ n, x.cps.size - i = n + 1 := ⟨x.cps.size - i - 1, by omega⟩
        rw [hn] at hkap hc hT
        have hci : x.cps.size - 1 - (n + 1 - 1) = i := by omega
        rw [hci] at hc hT
        have keep₁ : ∀ b o, b ≠ Lg → b ≠ e → b ≠ it → s'.heap.get? b = some o → s₁.heap.get? b = some o := fun b o h1 h2 h3 q => hsince.keep b o h1 h2 h3 q
        have F₁ : Fr h₀ env.locals s₁.heap m := ⟨F'.ns.at' fun o q => keep₁ _ o hLloc.symm heL.symm hiL.symm q, fun b o q => keep₁ b o (fun z => by rw [z, hL0] at q; cases q) (fun z => by rw [z, ap.e0] at q; cases q) (fun z => by rw [z, ap.i0] at q; cases q) (F'.keep b o q), F'.above⟩
        have N₁ : News h₀ env.locals s₁.heap ((G, oG) :: (Lg, o₁) :: (e, o₂) :: (it, o₃) :: nx) := by
          intro p hp
          rcases List.mem_cons.mp hp with rfl | hp
          · exact ⟨keep₁ _ _ hGL heG.symm hiG.symm (N' _ (List.mem_cons_self ..)).1, (N' _ (List.mem_cons_self ..)).2⟩
          rcases List.mem_cons.mp hp with rfl | hp
          · exact ⟨ho₁, hLloc, hL0⟩
          rcases List.mem_cons.mp hp with rfl | hp
          · exact ⟨ho₂, heL, ap.e0⟩
          rcases List.mem_cons.mp hp with rfl | hp
          · exact ⟨ho₃, hiL, ap.i0⟩
          exact ⟨keep₁ _ _ (hne p hp).2 (hne2 p hp).1 (hne2 p hp).2 (N' p (List.mem_cons_of_mem _ hp)).1, (N' p (List.mem_cons_of_mem _ hp)).2⟩
        have k₁ : Kin s (s₁.setGen s.gens.size gs₁) := ((hk.setGen (gs := .running) (Nat.le_refl _) rfl) |> fun y => Since.kin y hsince).setGen (Nat.le_refl _) hb₁
        have hG₁ : (s₁.setGen s.gens.size gs₁).heap.IsGen G s.gens.size := let ⟨o, nm, qn, ho, r⟩ := hG'; ⟨o, nm, qn, keep₁ _ _ hGL heG.symm hiG.symm ho, r⟩
        have hoGG : ∃ nm qn, oG.cls = .type "generator" ∧ oG.data = .fields #[.int s.gens.size 0, nm, qn] ∧ oG.slots = #[] := by
          obtain ⟨o, nm, qn, ho, hr⟩ := hG'
          have := (N' _ (List.mem_cons_self ..)).1
          rw [ho] at this
          obtain rfl := Option.some.inj this
          exact ⟨nm, qn, hr⟩
        have hgs₁ : (s₁.setGen s.gens.size gs₁).gens[s.gens.size]? = some gs₁ := setGen_self (gs := .running) (by rw [hsince.gens]; exact setGen_self hgs)
        refine go_gen _ hG₁ ?_
        refine wpAny_assign_Tuple hh ⟨_, hT, rfl, _, rfl⟩ rfl rfl fun h₃ hx₃ => ?_
        replace hx₃ : Heap.ExtBut s₁.heap.objs.size s₁.heap h₃ := hx₃
        have up₃ : ∀ b o, s₁.heap.get? b = some o → h₃.get? b = some o := fun b o q => hx₃ b o (Nat.ne_of_lt (Heap.lt_size q)) q
        have F₃ : Fr h₀ env.locals h₃ m := ⟨F₁.ns.at' fun o q => up₃ _ o q, fun b o q => up₃ b o (F₁.keep b o q), F₁.above⟩
        have N₃ : News h₀ env.locals h₃ _ := fun p hp => ⟨up₃ _ _ (N₁ p hp).1, (N₁ p hp).2⟩
        show wpAny _ _ (do holding [Value.str ⟨#[c]⟩ tc] (assign (.Name xi pi) env (.int (i : Int) tp)); do holding [] (assign (.Name xc pc) env (.str ⟨#[c]⟩ tc)); pure ()) _ _ _
        refine wpAny_bind (wpAny_holding (wpAny_assign_Name (wpAny_storeName_local hxi F₃.ns (fun h₄ hn₄ hs₄ => ?_) hp)))
        replace hs₄ : Heap.SameBut env.locals h₃ h₄ := hs₄
        have F₄ := F₃.set hn₄ hs₄
        refine wpAny_bind (wpAny_holding (wpAny_assign_Name (wpAny_storeName_local hxc F₄.ns (fun h₅ hn₅ hs₅ => wpAny_pure ?_) hp)))
        replace hs₅ : Heap.SameBut env.locals h₄ h₅ := hs₅
        have F₅ := F₄.set hn₅ hs₅
        have N₅ := (N₃.set hs₄).set hs₅
        refine wpAny_mono (turn i c tp tc m nx G Lg e it oG o₁ o₂ o₃ _ hc j (k₁.trans (Kin.heap _ h₅ _)) F₅ N₅ ⟨fun p hp => ⟨hne p hp, hne2 p hp⟩⟩) (fun f s₃ y => ?_) fun _ _ y => y.elim
        have fin : ∀ s₉ : Shared, Kin s s₉ → s₉.gens[s.gens.size]? = some gs₁ → TurnG h₀ env.locals s₉ [(G, oG), (Lg, o₁), (e, o₂), (it, o₃)] (fun nx => Apart4 nx G Lg e it) (J (i + 1)) s₃ → ∃ k', k' < x.cps.size + 1 - i ∧ ∃ i m nx, k' = x.cps.size + 1 - i ∧ i ≤ x.cps.size ∧ Kin s s₃ ∧ Fr h₀ env.locals s₃.heap m ∧ News h₀ env.locals s₃.heap ((G, oG) :: nx) ∧ (∀ p ∈ nx, p.1 ≠ G ∧ p.1 ≠ Lg) ∧ J i m nx ∧ s₃.heap.IsGen G s.gens.size ∧
            ∃ gs e it, s₃.gens[s.gens.size]? = some gs ∧ gs.bare = true ∧ GA h₀ Lg e it ∧ ((e ≠ env.locals ∧ it ≠ env.locals) ∧ e ≠ G ∧ it ≠ G) ∧ (∀ p ∈ nx, p.1 ≠ e ∧ p.1 ≠ it) ∧
              gs.Goes (model prog w) A.in1 (genR Lg e it) (genY h₀ Lg e it x) (x.cps.size - i) (.send .none) (s₃.setGen s.gens.size .running) := by
          rintro s₉ k₉ hg₉ ⟨m', nx', k', F₆, N₆, ⟨hne'⟩, j'⟩
          obtain ⟨nm, qn, hGr⟩ := hoGG
          refine ⟨x.cps.size + 1 - (i + 1), by omega, i + 1, m', nx', rfl, hlt, k₉.trans k', F₆, fun p hp => ?_, fun p hp => (hne' p hp).1, j', ⟨oG, nm, qn, (N₆ (G, oG) (by simp)).1, hGr⟩,
            gs₁, e, it, k'.gens _ _ hg₉, hb₁, ap, ⟨⟨heL, hiL⟩, heG, hiG⟩, fun p hp => (hne' p hp).2, ?_⟩
          · rcases List.mem_cons.mp hp with rfl | hp
            · exact N₆ _ (by simp)
            · exact N₆ p (by simp [hp])
          · have e1 : x.cps.size - (i + 1) = n := by omega
            rw [e1]
            refine hkap (s₃.setGen s.gens.size .running) (fun b o q => F₆.keep b o q) fun b hb o q => ?_
            rcases hb with rfl | rfl | rfl
            · have := (N₆ (b, o₁) (by simp)).1
              rw [ho₁] at q
              rw [← Option.some.inj q]; exact this
            · have := (N₆ (b, o₂) (by simp)).1
              rw [ho₂] at q
              rw [← Option.some.inj q]; exact this
            · have := (N₆ (b, o₃) (by simp)).1
              rw [ho₃] at q
              rw [← Option.some.inj q]; exact this
        cases f with
        | next => exact fin _ (k₁.trans (Kin.heap _ h₅ _)) hgs₁ y
        | cont => exact fin _ (k₁.trans (Kin.heap _ h₅ _)) hgs₁ y
        | brk => exact y.out
        | ret v => exact y.out
      · exfalso
        rw [hz] at hkap
        exact hkap s₁ (fun b o q => hsince.keep b o (fun z => by rw [z, hL0] at q; cases q) (fun z => by rw [z, ap.e0] at q; cases q) (fun z => by rw [z, ap.i0] at q; cases q) (F'.keep b o q)) fun _ _ _ q => q
    · obtain ⟨hz, hsince⟩ := hP
      have hin : i = x.cps.size := by omega
      subst hin
      have keep₁ : ∀ b o, b ≠ Lg → b ≠ e → b ≠ it → s'.heap.get? b = some o → h₂.get? b = some o := fun b o h1 h2 h3 q => hk₂ b o (hsince.keep b o h1 h2 h3 q)
      refine wpAny_execs_nil (done m nx _ j ?_ ?_ ?_)
      · exact (((hk.setGen (gs := .running) (Nat.le_refl _) rfl) |> fun y => Since.kin y hsince).setGen (gs := .finished) (Nat.le_refl _) rfl).trans ⟨rfl, fun _ _ e => e, id⟩
      · exact ⟨F'.ns.at' fun o q => keep₁ _ o hLloc.symm heL.symm hiL.symm q, fun b o q => keep₁ b o (fun z => by rw [z, hL0] at q; cases q) (fun z => by rw [z, ap.e0] at q; cases q) (fun z => by rw [z, ap.i0] at q; cases q) (F'.keep b o q), F'.above⟩
      · intro p hp
        exact ⟨keep₁ _ _ (hne p hp).2 (hne2 p hp).1 (hne2 p hp).2 (N' p (List.mem_cons_of_mem _ hp)).1, (N' p (List.mem_cons_of_mem _ hp)).2⟩
  · have hnx : ∀ p ∈ news₀, @LT.lt Nat _ p.1 Lg := fun p hp => by rw [← hLe]; exact Heap.lt_size (N p hp).1
    have hLh : @LT.lt Nat _ Lg h'.objs.size := Heap.lt_size hoL
    have hGh : @LT.lt Nat _ G h'.objs.size := Heap.lt_size hoG
    refine ⟨0, m₀, news₀, rfl, Nat.zero_le _, ⟨rfl, fun i x e => ?_, fun h => h.push hbare⟩, ⟨F.ns.keeps hk', fun b o q => hk' b o (F.keep b o q), F.above⟩, fun p hp => ?_, fun p hp => ⟨?_, ?_⟩, j0, hG,
      gs, h'.objs.size + 1, h'.objs.size, Array.getElem?_push_size .., hbare, ⟨Nat.succ_ne_self _, ?_, ?_, ?_, ?_⟩, ⟨⟨?_, ?_⟩, ?_, ?_⟩, fun p hp => ⟨?_, ?_⟩, ?_⟩
    · have hi : i < s.gens.size := (Array.getElem?_eq_some_iff.mp e).1
      show (s.gens.push gs)[i]? = some x
      rw [Array.getElem?_push, if_neg (by omega)]
      exact e
    · rcases List.mem_cons.mp hp with rfl | hp
      · exact ⟨hoG, hGloc, hG0⟩
      · exact ⟨hk' _ _ (N p hp).1, (N p hp).2⟩
    · show @Ne Nat _ _; have := hnx p hp; omega
    · show @Ne Nat _ _; have := hnx p hp; omega
    · show @Ne Nat _ _; omega
    · show @Ne Nat _ _; omega
    · exact Heap.get?_none_of_le (show @LE.le Nat _ _ _ by omega)
    · exact Heap.get?_none_of_le (show @LE.le Nat _ _ _ by omega)
    · show @Ne Nat _ _; omega
    · show @Ne Nat _ _; omega
    · show @Ne Nat _ _; omega
    · show @Ne Nat _ _; omega
    · show @Ne Nat _ _; have := hnx p hp; omega
    · show @Ne Nat _ _; have := hnx p hp; omega
    · exact hfresh.go (Shared.setGen { s with gens := s.gens.push gs, toks := tk, heap := h' } s.gens.size .running) (fun b o q => hk' b o (F.keep b o q)) hoL
end
end Mine
end

section
open PySem PySem.W PyProof.Rows PySem.Calls
namespace Mine
set_option maxRecDepth 100000
set_option maxHeartbeats 8000000
/-- a stretch of a list -/
def seg (l : List Nat) (a b : Nat) : List Nat := (l.drop a).take (b - a)
theorem seg_self (l : List Nat) (a : Nat) : seg l a a = [] := by simp [seg]
theorem seg_snoc {l : List Nat} {a i c : Nat} (h : l[i]? = some c) (ha : a ≤ i) : seg l a (i + 1) = seg l a i ++ [c] := by
  unfold seg
  rw [show i + 1 - a = (i - a) + 1 by omega, List.take_add_one, List.getElem?_drop, show a + (i - a) = i by omega, h]
  rfl
theorem seg_join {l : List Nat} {a p n : Nat} (h1 : a ≤ p) (h2 : p ≤ n) : seg l a p ++ seg l p n = seg l a n := by
  unfold seg
  have e : l.drop p = (l.drop a).drop (p - a) := by rw [List.drop_drop]; congr 1; omega
  rw [e, show n - p = (n - a) - (p - a) by omega]
  have := List.take_append_drop (p - a) ((l.drop a).take (n - a))
  rw [List.take_take, List.drop_take, Nat.min_eq_left (by omega)] at this
  exact this
theorem seg_len (l : List Nat) (a : Nat) : seg l a l.length = l.drop a := by
  unfold seg
  rw [List.take_of_length_le (by simp)]
theorem drop_cons {l : List Nat} {i c : Nat} (h : l[i]? = some c) : l.drop i = c :: l.drop (i + 1) := by
  have hi : i < l.length := (List.getElem?_eq_some_iff.mp h).1
  rw [List.drop_eq_getElem_cons hi]
  congr 1
  have := (List.getElem?_eq_some_iff.mp h).2
  exact this
/-- the walk's state over a text -/
def SG (l : List Nat) (i st : Nat) (op : Option Nat) (out : List Nat) : Prop :=
  match op with
  | none => st ≤ i ∧ out ++ seg l st i ++ stripGo (l.drop i) none = stripL l
  | some p => st ≤ p ∧ p < i ∧ seg l p (p + 1) = [34] ∧ out ++ seg l st p ++ stripGo (l.drop i) (some (seg l (p + 1) i).reverse) = stripL l
theorem SG.zero (l : List Nat) : SG l 0 0 none [] := ⟨Nat.le_refl _, by simp [seg_self]; rfl⟩
theorem SG.open' {l : List Nat} {i st : Nat} {out : List Nat} (h : SG l i st none out) (hc : l[i]? = some 34) : SG l (i + 1) st (some i) out := by
  obtain ⟨h1, h2⟩ := h
  refine ⟨h1, Nat.lt_succ_self i, ?_, ?_⟩
  · rw [seg_snoc hc (Nat.le_refl _), seg_self]; rfl
  · rw [seg_self]
    rw [drop_cons hc, stripGo, if_pos rfl] at h2
    exact h2
theorem SG.close {l : List Nat} {i st p : Nat} {out : List Nat} (h : SG l i st (some p) out) (hc : l[i]? = some 34) : SG l (i + 1) (i + 1) none (out ++ seg l st p) := by
  obtain ⟨h1, h2, h3, h4⟩ := h
  refine ⟨Nat.le_refl _, ?_⟩
  rw [seg_self, List.append_nil]
  rw [drop_cons hc, stripGo, if_pos rfl] at h4
  exact h4
theorem SG.plain {l : List Nat} {i st c : Nat} {op : Option Nat} {out : List Nat} (h : SG l i st op out) (hc : l[i]? = some c) (h34 : c ≠ 34) : SG l (i + 1) st op out := by
  cases op with
  | none =>
    obtain ⟨h1, h2⟩ := h
    refine ⟨by omega, ?_⟩
    rw [drop_cons hc, stripGo, if_neg h34] at h2
    rw [seg_snoc hc h1, ← h2]
    simp
  | some p =>
    obtain ⟨h1, h2, h3, h4⟩ := h
    refine ⟨h1, by omega, h3, ?_⟩
    rw [drop_cons hc, stripGo, if_neg h34] at h4
    rw [seg_snoc hc (by omega), List.reverse_append]
    exact h4
theorem SG.done {l : List Nat} {st : Nat} {op : Option Nat} {out : List Nat} (h : SG l l.length st op out) : st ≤ l.length ∧ out ++ l.drop st = stripL l := by
  cases op with
  | none =>
    obtain ⟨h1, h2⟩ := h
    refine ⟨h1, ?_⟩
    rw [List.drop_length, seg_len] at h2
    simpa [stripGo] using h2
  | some p =>
    obtain ⟨h1, h2, h3, h4⟩ := h
    refine ⟨by omega, ?_⟩
    rw [List.drop_length, stripGo, List.reverse_reverse] at h4
    rw [← h4, ← seg_len, ← seg_join h1 (Nat.le_of_lt h2), ← seg_join (Nat.le_succ p) h2, h3]
    simp
theorem slice_ss_list (x : Str) {a b : Nat} (hab : a ≤ b) (hb : b ≤ x.length) : (Txt.slice x (some (a : Int)) (some (b : Int))).cps.toList = seg x.cps.toList a b := by
  have := StrLaws.sliceText_nat x hab hb
  show (StrLaws.sliceText x (some (a : Int)) (some (b : Int))).cps.toList = _
  rw [this]; rfl
theorem slice_sn_list (x : Str) {a : Nat} (ha : a ≤ x.length) : (Txt.slice x (some (a : Int)) none).cps.toList = x.cps.toList.drop a := by
  have := StrLaws.sliceText_from (x := x) (i := a) ⟨by omega, by simp [Str.length] at ha ⊢; omega⟩
  show (StrLaws.sliceText x (some (a : Int)) none).cps.toList = _
  rw [this]
  show (x.cps.toList.drop ((a : Int)).toNat).take ((x.cps.toList.length : Int) - a).toNat = _
  rw [Int.toNat_natCast, List.take_of_length_le (by simp)]
theorem sliceIdx_clamp (u : Int) (len : Nat) (hu : 0 ≤ u) : Builtin.Str.strSliceIndices none (some u) 1 len = Builtin.Str.strSliceIndices none (some (min u len)) 1 len := by
  have h1 : ¬ (u < 0) := by omega
  have h2 : ¬ (min u (len : Int) < 0) := by omega
  have e : max (0 : Int) (min u (len : Int)) = max 0 (min (min u len) (len : Int)) := by omega
  simp only [Builtin.Str.strSliceIndices, h1, h2, if_false, e, show ((1 : Int) > 0) = True from by simp, if_true]
theorem slice_ns_list (x : Str) {b : Int} (hb : 0 ≤ b) : (Txt.slice x none (some b)).cps.toList = x.cps.toList.take b.toNat := by
  have e : Txt.slice x none (some b) = StrLaws.sliceText x none (some (min b x.length)) := by
    show StrLaws.sliceText x none (some b) = _
    unfold StrLaws.sliceText
    rw [sliceIdx_clamp b x.length hb]
  rw [e, StrLaws.sliceText_to (x := x) (j := min b x.length) ⟨by omega, by simp [Str.length]; omega⟩]
  show (x.cps.toList.drop 0).take (min b (x.length : Int) - 0).toNat = _
  have hl : x.length = x.cps.toList.length := by simp [Str.length]
  rw [List.drop_zero]
  by_cases h : b ≤ x.length
  · rw [Int.min_eq_left h]; congr 1; omega
  · rw [List.take_of_length_le (by omega), List.take_of_length_le (by omega)]
theorem str_ne_one {c d : Nat} (h : c ≠ d) : ((⟨#[c]⟩ : Str) == ⟨#[d]⟩) = false := by
  rw [beq_eq_false_iff_ne]
  intro h2
  injection h2 with h2
  injection h2 with h2
  injection h2 with h2
  exact h h2
end Mine
end

section
open PySem PySem.W PyProof.Rows PySem.Calls
namespace Mine
set_option maxRecDepth 100000
set_option maxHeartbeats 8000000
theorem strs_snoc {us : List Value} {ys : List Str} (h : StrsAre us ys) (y : Str) (t : Tok) : StrsAre (us ++ [.str y t]) (ys ++ [y]) := by
  induction h with
  | nil => exact .cons _ _ .nil
  | cons a b _ ih => exact .cons _ _ ih
theorem flat_len (ys : List Str) : (ys.flatMap (·.cps.toList)).length = (ys.map (·.length)).sum := by
  induction ys with
  | nil => rfl
  | cons y ys ih => rw [List.flatMap_cons, List.length_append, ih, List.map_cons, List.sum_cons]; simp [Str.length]
theorem stripGo_len : ∀ (l : List Nat) (o : Option (List Nat)), (stripGo l o).length ≤ l.length + (match o with | none => 0 | some a => a.length + 1)
  | [], none => by simp [stripGo]
  | [], some acc => by simp [stripGo]
  | c :: r, none => by
    rw [stripGo]
    split
    · have := stripGo_len r (some [])
      simp at this ⊢; omega
    · have := stripGo_len r none
      simp at this ⊢; omega
  | c :: r, some acc => by
    rw [stripGo]
    split
    · have := stripGo_len r none
      simp at this ⊢; omega
    · have := stripGo_len r (some (c :: acc))
      simp at this ⊢; omega
theorem stripL_len (l : List Nat) : (stripL l).length ≤ l.length := stripGo_len l none
theorem join_empty_list (ys : List Str) : (Txt.join (Str.ofString "") ys).cps.toList = ys.flatMap (·.cps.toList) := by
  show (Builtin.Str.glued (Str.ofString "") ys).cps.toList = _
  rw [StrLaws.glued_eq_join]
  induction ys with
  | nil => rfl
  | cons y r ih =>
    cases r with
    | nil => simp [Str.join]
    | cons z r =>
      show ((y ++ Str.ofString "" ++ Str.join (Str.ofString "") (z :: r) : Str)).cps.toList = _
      rw [List.flatMap_cons, ← ih]
      show ((y.cps ++ (Str.ofString "").cps) ++ (Str.join (Str.ofString "") (z :: r)).cps).toList = _
      rw [Array.toList_append, Array.toList_append]
      show y.cps.toList ++ [] ++ _ = _
      rw [List.append_nil]
structure SJ (x : Str) (tx : Tok) (l : Addr) (i : Nat) (m : Str → Option Value) (nx : List (Addr × Obj)) : Prop where
  out : ∃ (st : Nat) (op : Option Nat) (ys : List Str) (us : List Value) (n : Nat) (ts tp : Tok), m (Str.ofString "addr") = some (.str x tx) ∧ m (Str.ofString "start") = some (.int (st : Int) ts) ∧
    m (Str.ofString "open_pos") = some (match op with | none => .none | some p => .int (p : Int) tp) ∧ m (Str.ofString "result") = some (.ref l) ∧ nx = [(l, listOf us.toArray n)] ∧ StrsAre us ys ∧
    SG x.cps.toList i st op (ys.flatMap (·.cps.toList)) ∧ ys.length ≤ i
theorem strip_spec {prog : Program} {w : World} {p : Program} {loose : List Str} {mean : ExcName → Option Value} {mg mb : Str → Option Value} {dp un : Nat} {fr : Option (List Env)} {gd : Option (List Code)} {Q E : Value → Shared → Prop} {s : Shared}
   {x : Str} {tx : Tok} (O : Ok w p loose mean mg mb s.heap) (hfill : Challenge.rw_xo0010_01.foot = 6) (hdp : dp + 2 < recursionLimit) (hun : un + 16 < cLine)
   (hx : ∀ c ∈ x.cps.toList, c ≠ 92) (hsz : x.length ≤ 4096)
   (hQ : ∀ r t s', Ext s s' → r.cps.toList = stripL x.cps.toList → Q (.str r t) s') :
   wpAny (model prog w) (arnd dp un fr gd) (call (.ref 77) [.str x tx]) Q E s := by
  have hfillc := hfill
  have hfill2 : Challenge.rw_xo0010_01.foot = 6 ∨ hd.heap_39 = hd.heap_39 := by k_fill; exact .inl rfl
  clear hfill2 hfill
  k_with_none
  k_dflt (refine' enter (f := 77) O ?k6 ?k7 ?k8 ?k9 ?kB ?c5 ?c2 ?c3 ?c4 ?_; (case k6 => k_is); (case k7 => k_is); (case k8 => omega); (case k9 => exact BindsTo.of_eq rfl); (case c5 => decide); (case kB => exact locs rfl); (case c2 => exact rfl); (case c3 => exact rfl); (case c4 => exact rfl); k_whole)
  intro h₁ F N
  have X := O.k
  have T := O.t
  dsimp only
  refine exec_seq ?_
  k_steps
  all_goals refine ⟨?_⟩
  all_goals dsimp only
  · rename_i hno
    have e34 : (!(Builtin.Str.occurrences x (Str.ofString "\"") 0 x.length 1).isEmpty) = decide (34 ∈ x.cps.toList) := StrLaws.found_one x 34
    rw [hno] at e34
    refine hQ x tx _ (Ext.of F.keep) ?_
    rw [stripL_plain (by simpa using e34)]
  · rename_i hyes
    refine exec_seq ?_
    k_steps
    refine ⟨?_⟩
    dsimp only
    refine exec_seq ?_
    k_steps
    refine ⟨?_⟩
    dsimp only
    refine exec_seq ?_
    k_steps
    refine ⟨?_⟩
    dsimp only
    refine exec_seq ?_
    rename_i lr _ _ h9 F N
    refine for_gen (x := x) (t := tx) rfl (show dp + 1 < recursionLimit by omega) O hfillc hx ?_ rfl rfl rfl (fun _ => rfl) F N (SJ x tx lr) ?_ ?_ ?_
    · intro Q' hq
      k_with "call ref" => (exact hq)
      k_steps
    · exact ⟨0, none, [], [], _, _, 0, rfl, rfl, rfl, rfl, rfl, .nil, SG.zero _, Nat.le_refl _⟩
    · rintro i c tp tc m nx aG aL aE aI oG oL oE oI s₁ hc ⟨st, op, ys, us, n, ts, tp2, hm1, hm2, hm3, hm4, rfl, hus, hSG, hyl⟩ hk F1 N1 ⟨hap⟩
      rw [← upd_self hm1, ← upd_self hm2, ← upd_self hm3, ← upd_self hm4] at F1
      have hi : i < x.cps.size := (Array.getElem?_eq_some_iff.mp hc).1
      have hap' := hap _ (List.mem_singleton.mpr rfl)
      have ne1 : @Ne Nat lr aG := hap'.1.1
      have ne2 : @Ne Nat lr aL := hap'.1.2
      have ne3 : @Ne Nat lr aE := hap'.2.1
      have ne4 : @Ne Nat lr aI := hap'.2.2
      clear F N
      have hul : us.length ≤ 4096 := by
        have e : us.length = ys.length := hus.length
        have : x.cps.size ≤ 4096 := hsz
        omega
      have hcl : x.cps.toList[i]? = some c := by simpa using hc
      have hxl : x.length = x.cps.size := rfl
      by_cases h34 : c = 34
      · subst h34
        cases op with
        | none =>
          k_steps
          rename_i F' N'
          exact TurnG.mk' (Kin.heap _ _ _) F' N' ⟨hap⟩ ⟨st, some i, ys, us, n, ts, tp, rfl, rfl, rfl, rfl, rfl, hus, hSG.open' hcl, by omega⟩
        | some p =>
          have hsp : st ≤ p ∧ p < i := ⟨hSG.1, hSG.2.1⟩
          k_steps
          · rename_i F' N'
            refine TurnG.mk' (Kin.heap _ _ _) F' N' ⟨fun q hq => by obtain rfl := List.mem_singleton.mp hq; exact ⟨⟨ne1, ne2⟩, ne3, ne4⟩⟩ ⟨i + 1, none, ys ++ [_], us ++ [_], n + 1, _, 0, rfl, rfl, rfl, rfl, by rw [List.push_toArray], strs_snoc hus _ _, ?_, by simp; omega⟩
            rw [List.flatMap_append, List.flatMap_singleton, slice_ss_list x hsp.1 (by omega)]
            exact hSG.close hcl
          · rename_i hsp2 _ _ F' N'
            refine TurnG.mk' (Kin.heap _ _ _) F' N' ⟨hap⟩ ⟨i + 1, none, ys, us, n, _, 0, rfl, rfl, rfl, rfl, rfl, hus, ?_, by omega⟩
            have := hSG.close hcl
            rw [show st = p by omega, seg_self, List.append_nil] at this
            exact this
      · have hcn : ((⟨#[c]⟩ : Str) == Str.ofString "\"") = false := str_ne_one h34
        k_steps
        exact TurnG.mk' (Kin.heap _ _ _) F1 N1 ⟨hap⟩ ⟨st, op, ys, us, n, ts, tp2, rfl, rfl, rfl, rfl, rfl, hus, hSG.plain hcl h34, by omega⟩
    · rintro m nx s₁ ⟨st, op, ys, us, n, ts, tp2, hm1, hm2, hm3, hm4, rfl, hus, hSG, hyl⟩ hk F1 N1
      rw [← upd_self hm1, ← upd_self hm2, ← upd_self hm3, ← upd_self hm4] at F1
      have hxl : x.length = x.cps.size := rfl
      have hul : us.length ≤ 4096 := by
        have e : us.length = ys.length := hus.length
        omega
      have hD := SG.done (l := x.cps.toList) (by simpa using hSG)
      have hst : st ≤ x.length := by have := hD.1; rw [Array.length_toList] at this; exact this
      refine ⟨?_⟩
      dsimp only
      clear F N
      have hsum : (ys.map (·.length)).sum ≤ 4096 := by
        have h1 := flat_len ys
        have h2 := stripL_len x.cps.toList
        have h3 := congrArg List.length hD.2
        rw [List.length_append] at h3
        have h4 : x.cps.toList.length = x.length := by simp [Str.length]
        omega
      k_steps
      · rename_i F' N'
        have hsl := Txt.slice_le x (some (st : Int)) none
        refine join_list (ys := ys ++ [Txt.slice x (some (st : Int)) none]) ⟨_, (N' _ (List.mem_cons_self ..)).1, rfl, _, rfl⟩ (by rw [List.push_toArray]; exact strs_snoc hus _ _) ?_ (fun t' k => hQ _ _ _ ((Kin.trans (Kin.heap s _ _) (Kin.trans hk (Kin.heap s₁ _ _))).ext F'.keep) ?_)
        · rw [List.map_append, List.sum_append]
          show _ + (Txt.slice x (some (st : Int)) none).length + _ * 0 ≤ _
          omega
        · rw [join_empty_list, List.flatMap_append, List.flatMap_singleton, slice_sn_list x hst]
          exact hD.2
      · rename_i hge
        refine join_list (ys := ys) ⟨_, (N1 _ (List.mem_cons_self ..)).1, rfl, _, rfl⟩ hus ?_ (fun t' k => hQ _ _ _ ((Kin.trans (Kin.heap s _ _) (Kin.trans hk (Kin.heap s₁ _ _))).ext F1.keep) ?_)
        · show _ + _ * 0 ≤ _
          omega
        · have h0 : x.cps.toList.drop st = [] := List.drop_of_length_le (by rw [Array.length_toList]; omega)
          have := hD.2
          rw [h0, List.append_nil] at this
          rw [join_empty_list]
          exact this
end Mine
end

section
open PySem PySem.W PyProof.Rows PySem.Calls
namespace Mine
set_option maxRecDepth 100000
set_option maxHeartbeats 8000000
/-- are the brackets of a text matched, from so many open ones on -/
def chk : List Nat → Int → Bool
  | [], o => o == 0
  | c :: r, o => if c = 40 then chk r (o + 1) else if c = 41 then (if o - 1 < 0 then false else chk r (o - 1)) else chk r o
def checkF (l : List Nat) : Bool := chk (stripL l) 0
theorem stripGo_mem : ∀ (l : List Nat) (o : Option (List Nat)) (c : Nat), c ∈ stripGo l o → c ∈ l ∨ c = 34 ∨ (match o with | none => False | some a => c ∈ a)
  | [], none, c, h => by simp [stripGo] at h
  | [], some acc, c, h => by
    simp [stripGo] at h
    rcases h with h | h
    · exact .inr (.inl h)
    · exact .inr (.inr h)
  | d :: r, none, c, h => by
    rw [stripGo] at h
    split at h
    · rcases stripGo_mem r _ c h with h | h | h
      · exact .inl (.tail _ h)
      · exact .inr (.inl h)
      · simp at h
    · rcases List.mem_cons.mp h with rfl | h
      · exact .inl (.head _)
      · rcases stripGo_mem r _ c h with h | h | h
        · exact .inl (.tail _ h)
        · exact .inr (.inl h)
        · exact h.elim
  | d :: r, some acc, c, h => by
    rw [stripGo] at h
    split at h
    · rcases stripGo_mem r _ c h with h | h | h
      · exact .inl (.tail _ h)
      · exact .inr (.inl h)
      · exact h.elim
    · rcases stripGo_mem r _ c h with h | h | h
      · exact .inl (.tail _ h)
      · exact .inr (.inl h)
      · rcases List.mem_cons.mp h with rfl | h
        · exact .inl (.head _)
        · exact .inr (.inr h)
theorem stripL_free {l : List Nat} (h : ∀ c ∈ l, c ≠ 92) : ∀ c ∈ stripL l, c ≠ 92 := by
  intro c hc
  rcases stripGo_mem l none c hc with h1 | rfl | h1
  · exact h c h1
  · decide
  · exact h1.elim
structure CJ (r : Str) (i : Nat) (m : Str → Option Value) (nx : List (Addr × Obj)) : Prop where
  out : ∃ (o : Int) (tk : Tok), m (Str.ofString "opens") = some (.int o tk) ∧ nx = [] ∧ chk (r.cps.toList.drop i) o = chk r.cps.toList 0 ∧ 0 ≤ o ∧ o ≤ i
theorem check_spec {prog : Program} {w : World} {p : Program} {loose : List Str} {mean : ExcName → Option Value} {mg mb : Str → Option Value} {dp un : Nat} {fr : Option (List Env)} {gd : Option (List Code)} {Q E : Value → Shared → Prop} {s : Shared}
   {x : Str} {tx : Tok} (O : Ok w p loose mean mg mb s.heap) (hfill : Challenge.rw_xo0010_01.foot = 6) (hdp : dp + 3 < recursionLimit) (hun : un + 32 < cLine)
   (hx : ∀ c ∈ x.cps.toList, c ≠ 92) (hsz : x.length ≤ 4096)
   (hQ : ∀ s', Ext s s' → Q (.bool (checkF x.cps.toList)) s') :
   wpAny (model prog w) (arnd dp un fr gd) (call (.ref 84) [.str x tx]) Q E s := by
  have hfillc := hfill
  have hfill2 : Challenge.rw_xo0010_01.foot = 6 ∨ hd.heap_39 = hd.heap_39 := by k_fill; exact .inl rfl
  clear hfill2 hfill
  k_with_none
  k_dflt (refine' enter (f := 84) O ?k6 ?k7 ?k8 ?k9 ?kB ?c5 ?c2 ?c3 ?c4 ?_; (case k6 => k_is); (case k7 => k_is); (case k8 => omega); (case k9 => exact BindsTo.of_eq rfl); (case c5 => decide); (case kB => exact locs rfl); (case c2 => exact rfl); (case c3 => exact rfl); (case c4 => exact rfl); k_whole)
  intro h₁ F N
  have X := O.k
  have T := O.t
  dsimp only
  refine exec_seq ?_
  k_with "call ref" => (refine strip_spec (O.keeps F.keep) hfillc (show dp + 1 + 2 < recursionLimit by omega) (show un + 3 + 16 < cLine by omega) hx hsz ?_; intro r tr s1 hx1 hr; have F1 := fr_ext F hx1; have N1 := news_ext N hx1)
  k_steps
  refine ⟨?_⟩
  rename_i F N
  refine exec_seq ?_
  k_steps
  refine ⟨?_⟩
  dsimp only
  rename_i F N
  have hr92 : ∀ c ∈ r.cps.toList, c ≠ 92 := by rw [hr]; exact stripL_free hx
  have hrl : r.length ≤ 4096 := by
    have := stripL_len x.cps.toList
    rw [← hr] at this
    simp [Str.length] at this hsz ⊢
    omega
  refine exec_seq ?_
  refine for_gen (x := r) (t := tr) rfl (show dp + 1 < recursionLimit by omega) O hfillc hr92 ?_ rfl rfl rfl (fun _ => rfl) F N (CJ r) ?_ ?_ ?_
  · intro Q' hq
    k_with "call ref" => (exact hq)
    k_steps
  · exact ⟨0, _, rfl, rfl, rfl, Int.le_refl 0, Int.le_refl 0⟩
  · rintro i c tp tc m nx aG aL aE aI oG oL oE oI s₁ hc ⟨o, tk2, hm1, rfl, hch, ho, hoi⟩ hk F1 N1 hap
    rw [← upd_self hm1] at F1
    have hi : i < r.cps.size := (Array.getElem?_eq_some_iff.mp hc).1
    have hcl : r.cps.toList[i]? = some c := by simpa using hc
    have hrl2 : r.cps.size ≤ 4096 := hrl
    rw [drop_cons hcl, chk] at hch
    clear F N
    by_cases h40 : c = 40
    · subst h40
      rw [if_pos rfl] at hch
      k_steps
      rename_i F' N'
      exact TurnG.mk' (Kin.heap _ _ _) F' N' hap ⟨o + 1, _, rfl, rfl, hch, by omega, by omega⟩
    · rw [if_neg h40] at hch
      have hn40 : ((⟨#[c]⟩ : Str) == Str.ofString "(") = false := str_ne_one h40
      by_cases h41 : c = 41
      · subst h41
        rw [if_pos rfl] at hch
        k_steps
        · rename_i h' F' N' hneg
          rw [if_pos hneg] at hch
          show Opq (Opq (Q (.bool false) _))
          have hf : checkF x.cps.toList = false := by
            unfold checkF
            rw [← hr, ← hch]
          refine ⟨⟨?_⟩⟩
          rw [← hf]
          exact hQ _ ((Kin.trans (Kin.heap s _ _) (Kin.trans hx1.kin (Kin.trans (Kin.heap s1 _ _) (Kin.trans hk (Kin.heap s₁ _ _))))).ext F'.keep)
        · rename_i h' F' N' hneg
          rw [if_neg hneg] at hch
          exact TurnG.mk' (Kin.heap _ _ _) F' N' hap ⟨o - 1, _, rfl, rfl, hch, by omega, by omega⟩
      · have hn41 : ((⟨#[c]⟩ : Str) == Str.ofString ")") = false := str_ne_one h41
        rw [if_neg h41] at hch
        k_steps
        exact TurnG.mk' (Kin.heap _ _ _) F1 N1 hap ⟨o, tk2, rfl, rfl, hch, ho, by omega⟩
  · rintro m nx s₁ ⟨o, tk2, hm1, rfl, hch, ho, hoi⟩ hk F1 N1
    rw [← upd_self hm1] at F1
    refine ⟨?_⟩
    dsimp only
    clear F N
    k_steps
    have hl : r.cps.toList.drop r.cps.size = [] := List.drop_of_length_le (by simp)
    rw [hl] at hch
    have hf : (o == 0) = checkF x.cps.toList := by
      unfold checkF
      rw [← hr, ← hch]
      rfl
    show Q (.bool (o == 0)) _
    rw [hf]
    exact hQ _ ((Kin.trans (Kin.heap s _ _) (Kin.trans hx1.kin (Kin.trans (Kin.heap s1 _ _) (Kin.trans hk (Kin.heap s₁ _ _))))).ext F1.keep)
end Mine
end

section
open PySem PySem.W PyProof.Rows PySem.Calls
namespace Mine
set_option maxRecDepth 100000
set_option maxHeartbeats 8000000
structure WTurn (h₀ : Heap) (L : Addr) (s : Shared) (n : Nat) (J : Nat → (Str → Option Value) → List (Addr × Obj) → Prop) (s₂ : Shared) : Prop where
  out : ∃ k m nx, k < n ∧ Kin s s₂ ∧ Fr h₀ L s₂.heap m ∧ News h₀ L s₂.heap nx ∧ J k m nx
theorem WTurn.mk' {h₀ : Heap} {L : Addr} {s : Shared} {n : Nat} {J : Nat → (Str → Option Value) → List (Addr × Obj) → Prop} {s₂ : Shared} {m : Str → Option Value} {nx : List (Addr × Obj)} (k : Nat) (hk : k < n)
    (K : Kin s s₂) (F : Fr h₀ L s₂.heap m) (N : News h₀ L s₂.heap nx) (j : J k m nx) : WTurn h₀ L s n J s₂ := ⟨k, m, nx, hk, K, F, N, j⟩
abbrev WPost (h₀ : Heap) (L : Addr) (s : Shared) (n : Nat) (J : Nat → (Str → Option Value) → List (Addr × Obj) → Prop) (Q : Flow → Shared → Prop) (f : Flow) (s₂ : Shared) : Prop :=
  match f with
  | .ret r => Opq (Q (.ret r) s₂)
  | .brk => Opq (Q .next s₂)
  | _ => WTurn h₀ L s n J s₂
section
variable {prog : Program} {w : World} {A : Around} {env : Env} {h₀ : Heap} {s : Shared} {m₀ : Str → Option Value} {news₀ : List (Addr × Obj)} {Q : Flow → Shared → Prop}
theorem while_rule {test : Expr} {body : List Stmt} {pos : Pos} (F : Fr h₀ env.locals s.heap m₀) (N : News h₀ env.locals s.heap news₀)
    (J : Nat → (Str → Option Value) → List (Addr × Obj) → Prop) (n₀ : Nat) (j0 : J n₀ m₀ news₀)
    (turn : ∀ (n : Nat) (m : Str → Option Value) (nx : List (Addr × Obj)) (s₁ : Shared), J n m nx → Kin s s₁ → Fr h₀ env.locals s₁.heap m → News h₀ env.locals s₁.heap nx →
      wpAny (model prog w) A (isTrue test env (eval test env)) (fun b s₂ => Opq ((b = true → wpAny (model prog w) A (execs body env) (WPost h₀ env.locals s n J Q) (fun _ _ => False) s₂) ∧ (b = false → Q .next s₂))) (fun _ _ => False) s₁) :
    wpAny (model prog w) A (exec (.While test body [] pos) env) Q (fun _ _ => False) s := by
  refine wpAny_While (codeAny_whileLoop (fun n s' => ∃ m nx, J n m nx ∧ Kin s s' ∧ Fr h₀ env.locals s'.heap m ∧ News h₀ env.locals s'.heap nx) ?_ n₀ ⟨m₀, news₀, j0, Kin.refl s, F, N⟩)
  rintro n s' ⟨m, nx, j, hk, F', N'⟩
  refine wpAny_mono (turn n m nx s' j hk F' N') (fun b s₂ h => ?_) fun _ _ x => x.elim
  obtain ⟨h1, h2⟩ := h
  cases b with
  | true =>
    rw [if_pos rfl]
    refine wpAny_mono (h1 rfl) (fun f s₃ y => ?_) fun _ _ x => x.elim
    have fin : WTurn h₀ env.locals s n J s₃ → ∃ k, k < n ∧ ∃ m nx, J k m nx ∧ Kin s s₃ ∧ Fr h₀ env.locals s₃.heap m ∧ News h₀ env.locals s₃.heap nx := by
      rintro ⟨k, m', nx', hkn, K, F3, N3, j3⟩
      exact ⟨k, hkn, m', nx', j3, K, F3, N3⟩
    cases f with
    | next => exact fin y
    | cont => exact fin y
    | brk => exact y.out
    | ret v => exact y.out
  | false =>
    rw [if_neg Bool.false_ne_true]
    exact wpAny_execs_nil (h2 rfl)

theorem for_range {iter : Expr} {x : Str} {px pos : Pos} {body : List Stmt} {a b c : Int} {n : Nat} (hn : Builtin.Range.rangeSize a b c = (n : Int)) (hsm : Builtin.Range.small a b c = true)
    (hh : A.handled = none) (_F : Fr h₀ env.locals s.heap m₀) (_N : News h₀ env.locals s.heap news₀)
    (hev : ∀ Q' : Value → Shared → Prop, (∀ h' tk R t u v, Fr h₀ env.locals h' m₀ → News h₀ env.locals h' news₀ → IsRange h' R a b c t u v → Q' (.ref R) { s with heap := h', toks := tk }) → wpAny (model prog w) A (eval iter env) Q' (fun _ _ => False) s)
    (hx : env.kindOf x = some .local) (hp : (env.scope.kind == .class || (env.scope.kind == .module && env.locals != env.globals)) = false)
    (hs : ∀ x, foldedSetIterable iter env x = pure x)
    (J : Nat → (Str → Option Value) → List (Addr × Obj) → Prop) (j0 : J 0 m₀ news₀)
    (turn : ∀ (i : Nat) (t : Tok) (m : Str → Option Value) (nx : List (Addr × Obj)) (it : Addr) (o : Obj) (s₁ : Shared), i < n → J i m nx → Kin s s₁ → Fr h₀ env.locals s₁.heap (fun y => if y = x then some (.int (a + i * c) t) else m y) → News h₀ env.locals s₁.heap ((it, o) :: nx) → (∀ p ∈ nx, p.1 ≠ it) →
      wpAny (model prog w) A (execs body env) (TurnPost h₀ env.locals s it o (J (i + 1)) Q) (fun _ _ => False) s₁)
    (done : ∀ m nx s₁, J n m nx → Kin s s₁ → Fr h₀ env.locals s₁.heap m → News h₀ env.locals s₁.heap nx → Q .next s₁) :
    wpAny (model prog w) A (exec (.For (.Name x px) iter body [] pos) env) Q (fun _ _ => False) s := by
  refine wpAny_For (hev _ fun hb tk R t u v F N hr => ?_) hs
  refine wpAny_pyIter_range hr hsm ?_
  rw [hn]
  refine codeAny_forLoop (fun k s' => ∃ i m nx, k = n + 1 - i ∧ i ≤ n ∧ Kin s s' ∧ Fr h₀ env.locals s'.heap m ∧ (hb.objs.size ≠ env.locals ∧ h₀.get? hb.objs.size = none) ∧ News h₀ env.locals s'.heap nx ∧ (∀ p ∈ nx, p.1 ≠ hb.objs.size) ∧ J i m nx ∧ IsRangeIter s'.heap hb.objs.size (a + i * c) ((n : Int) - i) c) ?_ (n + 1) ?_
  · rintro k s' ⟨i, m, nx, rfl, hi, hk, F', ⟨hIL, hI0⟩, N', hne, j, hit⟩
    by_cases hlt' : i < n
    · refine wpAny_pyNext_range_item hit (by omega) fun h' hit' hs' => ?_
      replace hs' : Heap.SameBut hb.objs.size s'.heap h' := hs'
      obtain ⟨oI, hoI, hoR⟩ : ∃ oI, h'.get? hb.objs.size = some oI ∧ ∀ g : Heap, g.get? hb.objs.size = some oI → IsRangeIter g hb.objs.size (a + i * c + c) ((n : Int) - i - 1) c := ⟨_, hit', fun _ q => q⟩
      have F₁ : Fr h₀ env.locals h' m := ⟨F'.ns.sameBut hs' hIL.symm, fun b q e => (hs'.2 b (fun z => by rw [z, hI0] at e; cases e)).trans (F'.keep b q e), F'.above⟩
      refine wpAny_assign_Name (wpAny_storeName_local hx F₁.ns (fun h₂ hn₂ hs₂ => ?_) hp)
      replace hs₂ : Heap.SameBut env.locals h' h₂ := hs₂
      have N₁ : News h₀ env.locals h' ((hb.objs.size, oI) :: nx) := by
        intro p hp
        rcases List.mem_cons.mp hp with rfl | hp
        · exact ⟨hoI, hIL, hI0⟩
        · exact ⟨(hs'.2 p.1 (hne p hp)).trans (N' p hp).1, (N' p hp).2⟩
      refine wpAny_mono (turn i _ m nx _ _ _ hlt' j (hk.trans (Kin.heap s' h₂ _)) (F₁.set hn₂ hs₂) (N₁.set hs₂) hne) (fun f s₃ y => ?_) fun _ _ y => y.elim
      have fin : Turn h₀ env.locals s hb.objs.size oI (J (i + 1)) s₃ → ∃ k', k' < n + 1 - i ∧ ∃ i m nx, k' = n + 1 - i ∧ i ≤ n ∧ Kin s s₃ ∧ Fr h₀ env.locals s₃.heap m ∧ (hb.objs.size ≠ env.locals ∧ h₀.get? hb.objs.size = none) ∧ News h₀ env.locals s₃.heap nx ∧ (∀ p ∈ nx, p.1 ≠ hb.objs.size) ∧ J i m nx ∧ IsRangeIter s₃.heap hb.objs.size (a + i * c) ((n : Int) - i) c := by
        rintro ⟨m', nx', k', F₃, N₃, hne', j'⟩
        refine ⟨n + 1 - (i + 1), by omega, i + 1, m', nx', rfl, hlt', k', F₃, ⟨hIL, hI0⟩, fun p hp => N₃ p (List.mem_cons_of_mem _ hp), hne', j', ?_⟩
        have h5 := (N₃ _ (List.mem_cons_self ..)).1
        have e1 : a + ((i + 1 : Nat) : Int) * c = a + i * c + c := by push_cast; rw [Int.add_mul, Int.one_mul, Int.add_assoc]
        have e2 : (n : Int) - ((i + 1 : Nat) : Int) = n - i - 1 := by push_cast; omega
        rw [e1, e2]
        exact hoR _ h5
      cases f with
      | next => exact fin y
      | cont => exact fin y
      | brk => exact y.out
      | ret v => exact y.out
    · have e : i = n := by omega
      subst e
      refine wpAny_pyNext_range_end hh hit (by omega) fun h' he' => wpAny_execs_nil ?_
      replace he' : Heap.ExtBut hb.objs.size s'.heap h' := he'
      exact done m nx _ j (hk.trans ⟨rfl, fun _ _ e => e, id⟩) ⟨F'.ns.extBut he' hIL.symm, fun b q e => he' b q (fun z => by rw [z, hI0] at e; cases e) (F'.keep b q e), F'.above⟩
        (fun p hp => ⟨he' p.1 _ (hne p hp) (N' p hp).1, (N' p hp).2⟩)
  · have hLs : @LT.lt Nat _ env.locals hb.objs.size := F.ns.lt
    have hab : @LE.le Nat _ h₀.objs.size env.locals := F.above
    refine ⟨0, m₀, news₀, rfl, Nat.zero_le _, ⟨rfl, fun _ _ e => e, id⟩, F.push _, ⟨Nat.ne_of_gt hLs, Heap.get?_none_of_le (Nat.le_trans hab (Nat.le_of_lt hLs))⟩, fun p hp => ⟨Heap.get?_push_of_some _ (N p hp).1, (N p hp).2⟩, fun p hp => Nat.ne_of_lt (Heap.lt_size (N p hp).1), j0, ?_⟩
    have : a + ((0 : Nat) : Int) * c = a := by simp
    rw [this]
    have h2 : (n : Int) - ((0 : Nat) : Int) = n := by simp
    rw [h2]
    exact Heap.get?_push_size _ rfl
end
end Mine
end

section
open PySem PySem.W PyProof.Rows PySem.Calls
namespace Mine
set_option maxRecDepth 100000
set_option maxHeartbeats 8000000
/-- the quoted text up to its end -/
def unq : List Nat → List Nat
  | [] => []
  | [c] => if c = 34 then [] else [c]
  | c :: d :: r => if c = 34 then (if d = 34 then 34 :: unq r else []) else c :: unq (d :: r)
theorem unq_plain {c : Nat} {r : List Nat} (h : c ≠ 34) : unq (c :: r) = c :: unq r := by
  cases r with
  | nil => simp [unq, h]
  | cons d r => rw [unq, if_neg h]
theorem app_one (d : Str) (c : Nat) : (d ++ (⟨#[c]⟩ : Str)).cps.toList = d.cps.toList ++ [c] := by
  show (d.cps ++ #[c]).toList = _
  rw [Array.toList_append]
structure PJ (x : Str) (tx : Tok) (n : Nat) (m : Str → Option Value) (nx : List (Addr × Obj)) : Prop where
  out : ∃ (k : Nat) (d : Str) (tk td tn : Tok), m (Str.ofString "resp") = some (.str x tx) ∧ m (Str.ofString "n") = some (.int (x.length : Int) tn) ∧ m (Str.ofString "i") = some (.int (k : Int) tk) ∧ m (Str.ofString "dirname") = some (.str d td) ∧ nx = [] ∧
    n = x.length - k ∧ 5 ≤ k ∧ k ≤ x.length ∧ d.length ≤ k ∧ d.cps.toList ++ unq (x.cps.toList.drop k) = unq (x.cps.toList.drop 5)
theorem parse_spec {prog : Program} {w : World} {p : Program} {loose : List Str} {mean : ExcName → Option Value} {mg mb : Str → Option Value} {dp un : Nat} {fr : Option (List Env)} {gd : Option (List Code)} {Q E : Value → Shared → Prop} {s : Shared}
   {x : Str} {tx : Tok} (O : Ok w p loose mean mg mb s.heap) (hfill : Challenge.rw_xo0010_01.foot = 6) (hdp : dp + 3 < recursionLimit) (hun : un + 32 < cLine)
   (hsz : x.length ≤ 4096) (h257 : Txt.slice x none (some 3) = Str.ofString "257") (hq : Txt.slice x (some 3) (some 5) = Str.ofString " \"") (h5 : 5 ≤ x.length)
   (hQ : ∀ r t s', Ext s s' → r.cps.toList = unq (x.cps.toList.drop 5) → Q (.str r t) s') :
   wpAny (model prog w) (arnd dp un fr gd) (call (.ref 63) [.str x tx]) Q E s := by
  have hfill2 : Challenge.rw_xo0010_01.foot = 6 ∨ hd.heap_39 = hd.heap_39 := by k_fill; exact .inl rfl
  clear hfill2 hfill
  k_with_none
  k_dflt (refine' enter (f := 63) O ?k6 ?k7 ?k8 ?k9 ?kB ?c5 ?c2 ?c3 ?c4 ?_; (case k6 => k_is); (case k7 => k_is); (case k8 => omega); (case k9 => exact BindsTo.of_eq rfl); (case c5 => decide); (case kB => exact locs rfl); (case c2 => exact rfl); (case c3 => exact rfl); (case c4 => exact rfl); k_whole)
  intro h₁ F N
  have X := O.k
  have T := O.t
  dsimp only
  refine exec_seq ?_
  k_steps
  refine ⟨?_⟩
  dsimp only
  rename_i F N _ _
  refine exec_seq ?_
  k_steps
  all_goals refine ⟨?_⟩
  all_goals dsimp only
  · exfalso
    rename_i hne
    rw [hq] at hne
    revert hne
    decide
  rename_i F N _ _
  refine exec_seq ?_
  k_steps
  refine ⟨?_⟩
  dsimp only
  refine exec_seq ?_
  k_steps
  refine ⟨?_⟩
  dsimp only
  refine exec_seq ?_
  k_steps
  refine ⟨?_⟩
  dsimp only
  rename_i F N
  refine exec_seq ?_
  refine while_rule F N (PJ x tx) (x.length - 5) ⟨5, Str.ofString "", _, _, _, rfl, rfl, rfl, rfl, rfl, rfl, Nat.le_refl _, h5, Nat.zero_le _, rfl⟩ ?_
  rintro n m nx s₁ ⟨k, d, tk, td, tn, hm1, hm2, hm3, hm4, rfl, rfl, hk5, hkl, hdl, hun2⟩ hk F1 N1
  rw [← upd_self hm1, ← upd_self hm2, ← upd_self hm3, ← upd_self hm4] at F1
  clear F N
  k_steps
  refine ⟨⟨fun hb => ?_, fun hb => ⟨?_⟩⟩⟩
  · have hlt : k < x.length := by have := of_decide_eq_true hb; omega
    have at_ : ∀ j, j < x.length → ∃ c, x.cps[j]? = some c ∧ x.cps.toList[j]? = some c := fun j hj => ⟨x.cps[j]'hj, Array.getElem?_eq_getElem hj, by rw [Array.getElem?_toList]; exact Array.getElem?_eq_getElem hj⟩
    obtain ⟨c, hc, hcl⟩ := at_ k hlt
    have hitem : Txt.item x (k : Int) = ⟨#[c]⟩ := item_meets (by omega) (by rw [Int.toNat_natCast]; exact hc)
    rw [drop_cons hcl] at hun2
    by_cases h34 : c = 34
    · subst h34
      have hit : (Txt.item x (k : Int) == Str.ofString "\"") = true := by rw [hitem]; rfl
      by_cases hend : x.length ≤ k + 1
      · have h0 : x.cps.toList.drop (k + 1) = [] := List.drop_of_length_le (by rw [Array.length_toList]; exact hend)
        rw [h0, unq, if_pos rfl, List.append_nil] at hun2
        k_steps
        show Opq (Opq (wpAny _ _ (execs _ _) _ _ _))
        refine ⟨⟨?_⟩⟩
        k_steps
        rename_i F' N'
        exact hQ d _ _ ((Kin.trans (Kin.heap s _ _) (Kin.trans hk (Kin.heap s₁ _ _))).ext F'.keep) hun2
      · obtain ⟨c2, hc2, hcl2⟩ := at_ (k + 1) (by omega)
        have hitem2 : Txt.item x ((k : Int) + 1) = ⟨#[c2]⟩ := item_meets (by omega) (by rw [show ((k : Int) + 1).toNat = k + 1 by omega]; exact hc2)
        rw [drop_cons hcl2, unq, if_pos rfl] at hun2
        by_cases h2 : c2 = 34
        · subst h2
          have hit2 : (Txt.item x ((k : Int) + 1) != Str.ofString "\"") = false := by rw [hitem2]; rfl
          rw [if_pos rfl] at hun2
          k_steps
          rename_i F' N'
          refine WTurn.mk' (x.length - (k + 2)) (by omega) (Kin.trans hk (Kin.heap s₁ _ _)) F' N' ⟨k + 2, d ++ Txt.item x (k : Int), _, _, _, rfl, rfl, congrArg (fun z : Int => some (Value.int z _)) (by omega), rfl, rfl, rfl, by omega, by omega, by omega, ?_⟩
          rw [hitem, app_one, List.append_assoc]
          exact hun2
        · have hit2 : (Txt.item x ((k : Int) + 1) != Str.ofString "\"") = true := by rw [hitem2]; show (!((⟨#[c2]⟩ : Str) == ⟨#[34]⟩)) = true; rw [str_ne_one h2]; rfl
          rw [if_neg h2, List.append_nil] at hun2
          k_steps
          show Opq (Opq (wpAny _ _ (execs _ _) _ _ _))
          refine ⟨⟨?_⟩⟩
          k_steps
          rename_i F' N' _ _
          exact hQ d _ _ ((Kin.trans (Kin.heap s _ _) (Kin.trans hk (Kin.heap s₁ _ _))).ext F'.keep) hun2
    · have hit : (Txt.item x (k : Int) == Str.ofString "\"") = false := by rw [hitem]; exact str_ne_one h34
      rw [unq_plain h34] at hun2
      k_steps
      rename_i F' N'
      refine WTurn.mk' (x.length - (k + 1)) (by omega) (Kin.trans hk (Kin.heap s₁ _ _)) F' N' ⟨k + 1, d ++ Txt.item x (k : Int), _, _, _, rfl, rfl, rfl, rfl, rfl, rfl, by omega, by omega, by omega, ?_⟩
      rw [hitem, app_one, List.append_assoc]
      exact hun2
  · have hge : k = x.length := by have := of_decide_eq_false hb; omega
    dsimp only
    k_steps
    have h0 : x.cps.toList.drop k = [] := List.drop_of_length_le (by rw [Array.length_toList]; exact Nat.le_of_eq hge.symm)
    rw [h0, unq, List.append_nil] at hun2
    show Q (.str d td) _
    exact hQ d _ _ ((Kin.trans (Kin.heap s _ _) (Kin.trans hk (Kin.heap s₁ _ _))).ext F1.keep) hun2
end Mine
end

section
open PySem PySem.W PyProof.Rows PySem.Calls
namespace Mine
set_option maxRecDepth 100000
set_option maxHeartbeats 8000000
section
local macro_rules | `(tactic| walk_at "leaving ref") => `(tactic| (refine leave_raiseS (by assumption) (by assumption) (by assumption) (by k_asm) ?_; intro h' t' R' RK' U'; (try dsimp only at R' U' ⊢)))
theorem raise_spec {prog : Program} {w : World} {p : Program} {loose : List Str} {mean : ExcName → Option Value} {mg mb : Str → Option Value} {x : Str} {tk : Tok} 
    {dp un : Nat} {gd : Option (List Code)} {cn : Str} {cs : Scope} {a : Addr} {ccd : Value} {outer : List Env} {A₀ : Around} {base h₀ : Heap} {L : Addr} {m : Str → Option Value} {news : List (Addr × Obj)} {s : Shared} {Q E : Value → Shared → Prop} 
    (hx : x.length ≤ 4096) (hB : Below A₀ base outer h₀) (hF : Fr h₀ L s.heap m) (hK : (hd.heap_39 w.params).In h₀) (hN : News h₀ L s.heap news) (hT : Top p loose mean mg mb h₀) (hk : cs.kind = .function)
    (hdp : dp + 2 < recursionLimit) (hu : un + 16 < cLine) (hfill : Challenge.rw_xo0010_01.foot = 6)
    (h257 : (Txt.slice x none (some 3) != Str.ofString "257") = true)
    (hE : ∀ e t k' h' G, Fr h₀ L G m → RaisedS base G (envOf cn cs L a ccd :: outer) e (.ref 54) t [.str x tk] news h' → G.UpToSlots h' → E (.ref e) { s with heap := h', toks := k' }) :
   wpAny (model prog w) ((arnd dp un (some outer) gd).deeper (envOf cn cs L a ccd)) (call (.ref 63) [.str x tk]) Q E s := by
  show wpAny (model prog w) (ktrTop (dp + 1) (un + 3) gd cn cs L a ccd [] outer) (call (.ref 63) [.str x tk]) Q E s
  have hdp1 : (dp + 1) + 1 < recursionLimit := hdp
  have hu1 : (un + 3) + 8 < cLine := by omega
  have hfill2 : Challenge.rw_xo0010_01.foot = 6 ∨ hd.heap_39 = hd.heap_39 := by k_fill; exact .inl rfl
  refine wpAny_call ?_
  k_dflt cell_enter
  clear hfill2
  k_with_none
  k_steps
  refine hE _ _ _ _ _ ?_ (by assumption) (by assumption)
  assumption
end
end Mine
end

section
open PySem PySem.W PyProof.Rows PySem.Calls
namespace Mine
set_option maxRecDepth 100000
set_option maxHeartbeats 8000000
/-- texts of which each quotes the next one -/
def Chain : List (List Nat) → Prop
  | [] => False
  | [t] => t.take 3 ≠ [50, 53, 55]
  | t :: u :: r => t.take 5 = [50, 53, 55, 32, 34] ∧ unq (t.drop 5) = u ∧ Chain (u :: r)
theorem chain_last {ts : List (List Nat)} {i : Nat} {t : List Nat} (h : Chain (ts.drop i)) (ht : ts[i]? = some t) (hl : ts.length = i + 1) : t.take 3 ≠ [50, 53, 55] := by
  have hi : i < ts.length := (List.getElem?_eq_some_iff.mp ht).1
  have ht2 := (List.getElem?_eq_some_iff.mp ht).2
  rw [List.drop_eq_getElem_cons hi, ht2, List.drop_of_length_le (by omega)] at h
  exact h
theorem chain_next {ts : List (List Nat)} {i : Nat} {t : List Nat} (h : Chain (ts.drop i)) (ht : ts[i]? = some t) (hl : i + 1 < ts.length) :
    t.take 5 = [50, 53, 55, 32, 34] ∧ ts[i + 1]? = some (unq (t.drop 5)) ∧ Chain (ts.drop (i + 1)) := by
  have hi : i < ts.length := (List.getElem?_eq_some_iff.mp ht).1
  have ht2 := (List.getElem?_eq_some_iff.mp ht).2
  rw [List.drop_eq_getElem_cons hi, ht2, List.drop_eq_getElem_cons hl] at h
  obtain ⟨h1, h2, h3⟩ := h
  refine ⟨h1, ?_, ?_⟩
  · rw [h2]; exact List.getElem?_eq_getElem hl
  · rw [List.drop_eq_getElem_cons hl]; exact h3
theorem str_of_list {x y : Str} (h : x.cps.toList = y.cps.toList) : x = y := by
  obtain ⟨x⟩ := x
  obtain ⟨y⟩ := y
  congr 1
  exact Array.toList_inj.mp h
theorem is257 {y : Str} (h : y.cps.toList.take 5 = [50, 53, 55, 32, 34]) : Txt.slice y none (some 3) = Str.ofString "257" ∧ Txt.slice y (some 3) (some 5) = Str.ofString " \"" ∧ 5 ≤ y.length := by
  have h5 : 5 ≤ y.length := by
    have := congrArg List.length h
    rw [List.length_take, Array.length_toList] at this
    have h2 : min 5 y.cps.size = 5 := this
    show 5 ≤ y.cps.size
    omega
  refine ⟨str_of_list ?_, str_of_list ?_, h5⟩
  · rw [slice_ns_list y (by decide)]
    have e : y.cps.toList.take 3 = (y.cps.toList.take 5).take 3 := by rw [List.take_take]; rfl
    show y.cps.toList.take 3 = _
    rw [e, h]; rfl
  · have := slice_ss_list y (a := 3) (b := 5) (by decide) h5
    rw [show ((3 : Nat) : Int) = 3 from rfl, show ((5 : Nat) : Int) = 5 from rfl] at this
    rw [this]
    have e : seg y.cps.toList 3 5 = (y.cps.toList.take 5).drop 3 := by unfold seg; rw [List.drop_take]
    rw [e, h]; rfl
theorem not257 {y : Str} (h : y.cps.toList.take 3 ≠ [50, 53, 55]) : (Txt.slice y none (some 3) != Str.ofString "257") = true := by
  rw [bne, Bool.not_eq_true', beq_eq_false_iff_ne]
  intro e
  apply h
  have := congrArg (fun z : Str => z.cps.toList) e
  rw [slice_ns_list y (by decide)] at this
  exact this
theorem drop_cons' {α : Type} {l : List α} {i : Nat} {c : α} (h : l[i]? = some c) : l.drop i = c :: l.drop (i + 1) := by
  have hi : i < l.length := (List.getElem?_eq_some_iff.mp h).1
  rw [List.drop_eq_getElem_cons hi]
  congr 1
  exact (List.getElem?_eq_some_iff.mp h).2
structure TJ (ts : List (List Nat)) (l : Addr) (news : List (Addr × Obj)) (i : Nat) (m : Str → Option Value) (nx : List (Addr × Obj)) : Prop where
  out : ∃ (x : Str) (tx : Tok) (us : List Value) (ys : List Str) (n : Nat), m (Str.ofString "text") = some (.str x tx) ∧ m (Str.ofString "texts") = some (.ref l) ∧ nx = [(l, listOf us.toArray n)] ∧ StrsAre us ys ∧ ys.map (·.cps.toList) ++ (ts.drop i) = ts ∧
    ys.length = i ∧ i < ts.length ∧ ts[i]? = some x.cps.toList ∧ Chain (ts.drop i)
section
local macro_rules | `(tactic| walk_at "noteFrame ref") => `(tactic| (refine' caught_SO0 ?r1 ?r2 ?r3 ?r4 ?c1 ?c2 ?c5 KtsTurn.refl ?c3 ?c4 ?_; (case r1 => assumption); (case r2 => assumption); (case r3 => assumption); (case r4 => assumption); (case c1 => assumption); (case c2 => assumption); (case c5 => assumption); (case c3 => k_is); (case c4 => k_is); k_whole; intro h' g' news₂ KT F' N2 Gt N' B' X' P' D'))
theorem texts_spec {prog : Program} {w : World} {p : Program} {loose : List Str} {mean : ExcName → Option Value} {mg mb : Str → Option Value} {dp un : Nat} {gd : Option (List Code)} {outer : List Env} {base : Heap} {Q E : Value → Shared → Prop} {s : Shared}
   {x : Str} {tx : Tok} {n : Nat} {tn : Tok} {ts : List (List Nat)}
   (OB : Ok w p loose mean mg mb base) (B : Below (arnd dp un (some outer) gd) base outer s.heap) (D : KtsDicts (outer.filterMap (·.frame)) s.heap)
   (hfill : Challenge.rw_xo0010_01.foot = 6) (hdp : dp + 4 < recursionLimit) (hun : un + 64 < cLine)
   (hts : Chain ts) (ht0 : ts[0]? = some x.cps.toList) (hln : ts.length = n) (hn8 : n ≤ 8) (hlen : ∀ t ∈ ts, t.length ≤ 4096)
   (hQ : ∀ l us ys s' g', KtsTurn (outer.filterMap (·.frame)) s.heap g' → (∀ b o, g'.get? b = some o → s'.heap.get? b = some o) → Kin s s' → s.heap.get? l = none → (∃ n, s'.heap.get? l = some (listOf us.toArray n)) → StrsAre us ys → ys.map (·.cps.toList) = ts → Q (.ref l) s') :
   wpAny (model prog w) (arnd dp un (some outer) gd) (call (.ref 118) [.str x tx, .int (n : Int) tn]) Q E s := by
  have O : Ok w p loose mean mg mb s.heap := OB.keeps B.stays
  have hfillc := hfill
  have hfill2 : Challenge.rw_xo0010_01.foot = 6 ∨ hd.heap_39 = hd.heap_39 := by k_fill; exact .inl rfl
  clear hfill2 hfill
  k_with_none
  k_dflt (refine' enter (f := 118) O ?k6 ?k7 ?k8 ?k9 ?kB ?c5 ?c2 ?c3 ?c4 ?_; (case k6 => k_is); (case k7 => k_is); (case k8 => omega); (case k9 => exact BindsTo.of_eq rfl); (case c5 => decide); (case kB => exact locs rfl); (case c2 => exact rfl); (case c3 => exact rfl); (case c4 => exact rfl); k_whole)
  intro h₁ F N
  have X := O.k
  have XB := OB.k
  have TB := OB.t
  have T := O.t
  dsimp only
  refine exec_seq ?_
  k_steps
  refine ⟨?_⟩
  dsimp only
  rename_i l _ _ h9 F N
  refine exec_seq ?_
  refine for_range (a := 0) (b := n) (c := 1) (n := n) ?_ ?_ rfl F N ?_ rfl rfl (fun _ => rfl) (TJ ts l []) ?_ ?_ ?_
  · show (if (1 : Int) > 0 then (if (0 : Int) < (n : Int) then ((n : Int) - 0 - 1) / 1 + 1 else 0) else _) = (n : Int)
    rw [if_pos (by decide)]
    split <;> omega
  · have : n = 0 ∨ n = 1 ∨ n = 2 ∨ n = 3 ∨ n = 4 ∨ n = 5 ∨ n = 6 ∨ n = 7 ∨ n = 8 := by omega
    rcases this with rfl | rfl | rfl | rfl | rfl | rfl | rfl | rfl | rfl <;> decide +kernel
  · intro Q' hq
    k_steps
    exact hq _ _ _ _ _ _ (by assumption) (by assumption) (by assumption)
  · exact ⟨x, tx, [], [], _, rfl, rfl, rfl, .nil, rfl, rfl, (List.getElem?_eq_some_iff.mp ht0).1, ht0, hts⟩
  · rintro i t m nx it o s₁ hi ⟨y, ty, us, ys, n2, hm1, hm2, rfl, hus, hys, hyl, hit, hty, hch⟩ hk F1 N1 hne
    rw [← upd_self hm1, ← upd_self hm2] at F1
    have hne' : @Ne Nat l it := by simpa using hne
    have hul : us.length ≤ 10 := by rw [hus.length]; omega
    clear F N
    refine exec_seq ?_
    k_steps
    refine ⟨?_⟩
    rename_i F N
    have hysz : y.length ≤ 4096 := by
      have := hlen _ (List.mem_of_getElem? hty)
      rw [Array.length_toList] at this
      exact this
    by_cases hlast : i + 1 < n
    · obtain ⟨c1, c2, c3⟩ := chain_next hch hty (by omega)
      obtain ⟨p1, p2, p3⟩ := is257 c1
      refine exec_seq ?_
      k_with "call ref" => (refine parse_spec (O.keeps F.keep) hfillc (show dp + 1 + 3 < recursionLimit by omega) (show un + 3 + 32 < cLine by omega) hysz p1 p2 p3 ?_; intro r tr s2 hx2 hr; have F2 := fr_ext F hx2; have N2 := news_ext N hx2)
      k_steps
      refine ⟨?_⟩
      show wpAny _ _ (execs [] _) _ _ _
      k_steps
      rename_i F' N'
      refine Turn.mk' (Kin.trans hk (Kin.trans (Kin.heap s₁ _ _) (Kin.trans hx2.kin (Kin.heap s2 _ _)))) F' N' (by intro q hq; obtain rfl := List.mem_singleton.mp hq; exact hne') ⟨r, tr, us ++ [_], ys ++ [y], _, rfl, rfl, by rw [List.push_toArray], strs_snoc hus _ _, ?_, by simp [hyl], by omega, by rw [hr]; exact c2, c3⟩
      rw [List.map_append, List.append_assoc]
      show _ ++ (y.cps.toList :: ts.drop (i + 1)) = ts
      rw [← drop_cons' hty]
      exact hys
    · have hn' := not257 (chain_last hch hty (by omega))
      refine exec_seq ?_
      k_with "call ref" => (refine raise_spec (h₀ := s.heap) hysz B F X N T rfl (by omega) (by omega) hfillc hn' ?_; intro e te k' h' G FG R U)
      k_steps
      show Opq (Opq (Opq (Q (.ref l) _)))
      refine ⟨⟨⟨?_⟩⟩⟩
      rename_i h2 g2 _ KT F' _ _ N' _ _ _ _
      refine hQ l (us ++ [_]) (ys ++ [y]) _ g2 KT F'.keep (Kin.trans (Kin.heap s _ _) (Kin.trans hk (Kin.heap s₁ _ _))) (N _ (.tail _ (.head _))).2.2 ⟨_, by rw [← List.push_toArray]; exact (N' _ (.tail _ (.head _))).1⟩ (strs_snoc hus _ _) ?_
      rw [List.map_append]
      have h0 : ts.drop (i + 1) = [] := List.drop_of_length_le (by omega)
      rw [drop_cons' hty, h0] at hys
      exact hys
  · rintro m nx s₁ ⟨y, ty, us, ys, n2, hm1, hm2, rfl, hus, hys, hyl, hit, hty, hch⟩
    exfalso
    omega
end
end Mine
end

section
open PySem PySem.W PyProof.Rows PySem.Calls PyProof.V PySem.Spec
namespace Mine
set_option maxRecDepth 100000
set_option maxHeartbeats 8000000
theorem es_canLayAll0 {ns : List Str} (h : ∀ y ∈ ns, ∀ c ∈ y.cps.toList, c < 128) : PyData.canLayAll0 (ns.map PyData.str) = true := by
  rw [canLayAll_strs', List.all_eq_true]
  intro y hy
  unfold PyData.strOk
  rw [← Array.all_toList, List.all_eq_true]
  intro c hc
  have := h y hy c hc
  exact decide_eq_true (by omega)
theorem es_depthAll : ∀ ns : List Str, PyData.depthAll (ns.map PyData.str) = 0
  | [] => rfl
  | _ :: r => by simp [PyData.depthAll, PyData.depth, es_depthAll r]
theorem es_shaped {ns : List Str} (h : ∀ y ∈ ns, ∀ c ∈ y.cps.toList, c < 128) : SeqAt.shaped (.list (ns.map PyData.str)) = true := by
  simp [SeqAt.shaped, PyData.canLay0, PyData.depth, es_canLayAll0 h, es_depthAll]
theorem es_sameAll : ∀ ns ms : List Str, PySem.Spec.sameAll (ns.map PyData.str) (ms.map PyData.str) = decide (ns = ms)
  | [], [] => by simp [PySem.Spec.sameAll]
  | [], _ :: _ => by simp [PySem.Spec.sameAll]
  | _ :: _, [] => by simp [PySem.Spec.sameAll]
  | a :: r, b :: t => by
    simp only [List.map_cons, PySem.Spec.sameAll, PySem.Spec.same, es_sameAll r t]
    by_cases h : a = b <;> by_cases h' : r = t <;> simp [h, h']
theorem es_same (ns ms : List Str) : PySem.Spec.same (.list (ns.map PyData.str)) (.list (ms.map PyData.str)) = decide (ns = ms) := by
  simp only [PySem.Spec.same]; exact es_sameAll ns ms
theorem es_carried : ∀ {vs : List Value} {ns : List Str}, StrsAre vs ns → CarriedAll vs (ns.map PyData.str)
  | _, _, .nil => .nil
  | _, _, .cons _ t r => .cons (.str _ t) (es_carried r)
section
variable {prog : Program} {w : World} {A : Around} {E : Value → Shared → Prop} {s : Shared} {a b : Addr} {xs ys : List Value} {ns ms : List Str} {Q : Value → Shared → Prop}
theorem ne_strs (ha : s.heap.IsList a xs.toArray) (hb : s.heap.IsList b ys.toArray) (hi : StrsAre xs ns) (hj : StrsAre ys ms) (hn : ∀ y ∈ ns, ∀ c ∈ y.cps.toList, c < 128) (hm : ∀ y ∈ ms, ∀ c ∈ y.cps.toList, c < 128) (hu : A.units + 64 < cLine) (h : Q (.bool (!decide (ns = ms))) s) :
    wpAny (model prog w) A (compareOp .NotEq (.ref a) (.ref b)) Q E s :=
  ne_dataH_same (reads_newData ha (es_carried hi)) (reads_newData hb (es_carried hj)) (es_shaped hn) (es_shaped hm) hu (SeqAt.noMix_of_shape (.list .str) rfl _ _ (list_map_has fun _ => rfl) (list_map_has fun _ => rfl)) (by rw [es_same]; exact h)
end
end Mine
end

section
open PySem PySem.W PyProof.Rows PySem.Calls
namespace Mine
set_option maxRecDepth 100000
set_option maxHeartbeats 8000000
def rowRaw (ds : List Int) (lv : Int) : List Nat := ds.flatMap fun d => if d = lv then [41] else if d = lv + 1 then [40] else []
def insF (k : Int) : List Nat := if k = 1 then [34, 41, 34] else if k = 3 then [34, 40, 34] else []
def rowF (ds : List Int) (tot lv : Int) : List Nat := (rowRaw ds lv).take 1 ++ (insF (Int.fmod (lv + 1 + tot) 4) ++ (rowRaw ds lv).drop 1)
def wStep (ds : List Int) (tot : Int) (ts : List (List Nat)) (lv : Int) : List (List Nat) :=
  ts ++ [match ts.getLast? with | none => rowF ds tot lv | some l => [50, 53, 55, 32, 34] ++ StrLaws.dbl 34 l ++ [34] ++ rowF ds tot lv]
def maxD (ds : List Int) : Int := ds.foldl max 0
def writtenF (ds : List Int) (tot : Int) : List (List Nat) := (List.range ((maxD ds).toNat + 2)).foldl (fun ts (i : Nat) => wStep ds tot ts (maxD ds - (i : Int))) []
def wGo (ds : List Int) (tot : Int) (i : Nat) : List (List Nat) := (List.range i).foldl (fun ts (i : Nat) => wStep ds tot ts (maxD ds - (i : Int))) []
theorem foldl_max_ge : ∀ (l : List Int) (a : Int), a ≤ l.foldl max a ∧ (∀ x ∈ l, x ≤ l.foldl max a) ∧ (l.foldl max a = a ∨ l.foldl max a ∈ l)
  | [], a => ⟨Int.le_refl _, by simp, .inl rfl⟩
  | x :: l, a => by
    obtain ⟨h1, h2, h3⟩ := foldl_max_ge l (max a x)
    rw [List.foldl_cons]
    refine ⟨by omega, fun y hy => ?_, ?_⟩
    · rcases List.mem_cons.mp hy with rfl | hy
      · omega
      · exact h2 y hy
    · rcases h3 with h3 | h3
      · rw [h3]
        by_cases h : a ≤ x
        · right; rw [Int.max_eq_right h]; exact List.mem_cons_self ..
        · left; exact Int.max_eq_left (by omega)
      · exact .inr (List.mem_cons_of_mem _ h3)
theorem maxD_eq {ds : List Int} {M : Int} (h0 : ∀ d ∈ ds, 0 ≤ d) (hM : M ∈ ds) (h : ∀ a ∈ ds, a ≤ M) : maxD ds = M := by
  obtain ⟨h1, h2, h3⟩ := foldl_max_ge ds 0
  have a1 := h2 M hM
  unfold maxD
  rcases h3 with h3 | h3
  · have := h0 M hM; omega
  · have := h _ h3; omega
theorem wGo_succ (ds : List Int) (tot : Int) (i : Nat) : wGo ds tot (i + 1) = wStep ds tot (wGo ds tot i) (maxD ds - (i : Int)) := by
  unfold wGo
  rw [List.range_succ, List.foldl_append]
  rfl
theorem str_app_list (a b : Str) : (a ++ b).cps.toList = a.cps.toList ++ b.cps.toList := by
  show (a.cps ++ b.cps).toList = _
  rw [Array.toList_append]
theorem str_app_len (a b : Str) : (a ++ b).length = a.length + b.length := by
  show (a.cps ++ b.cps).size = _
  rw [Array.size_append]; rfl
theorem len_list (a : Str) : a.length = a.cps.toList.length := by simp [Str.length]
theorem slice_sn_all (x : Str) (a : Nat) : (Txt.slice x (some (a : Int)) none).cps.toList = x.cps.toList.drop a := by
  by_cases h : a ≤ x.length
  · exact slice_sn_list x h
  · rw [List.drop_of_length_le (by rw [← len_list]; omega)]
    rcases PyProof.Rows.slice_sn_cases x (a : Int) (by omega) with ⟨_, h2⟩ | ⟨h1, _⟩
    · rw [len_list] at h2
      exact List.eq_nil_of_length_eq_zero (by omega)
    · omega
theorem exec_seq_to {prog : Program} {w : World} {A : Around} {env : Env} {s : Shared} {Q : Flow → Shared → Prop} {st : Stmt} {rest : List Stmt} {E : Value → Shared → Prop} (P : Shared → Prop)
    (h : wpAny (model prog w) A (exec st env) (fun f s' => f = .next ∧ Opq (P s')) E s) (h2 : ∀ s', P s' → wpAny (model prog w) A (execs rest env) Q E s') :
    wpAny (model prog w) A (execs (st :: rest) env) Q E s := by
  rw [execs_cons]
  refine wpAny_bind (wpAny_mono h (fun f s' x => ?_) fun _ _ x => x)
  obtain ⟨rfl, y⟩ := x
  exact h2 s' y.out
theorem rowRaw_small (ds : List Int) (lv : Int) : ∀ c ∈ rowRaw ds lv, c < 128 := by
  intro c hc
  unfold rowRaw at hc
  obtain ⟨d, _, h⟩ := List.mem_flatMap.mp hc
  split at h
  · rw [List.mem_singleton.mp h]; decide
  · split at h
    · rw [List.mem_singleton.mp h]; decide
    · cases h
theorem rowF_small (ds : List Int) (tot lv : Int) : ∀ c ∈ rowF ds tot lv, c < 128 := by
  intro c hc
  unfold rowF at hc
  rcases List.mem_append.mp hc with h | h
  · exact rowRaw_small ds lv c (List.mem_of_mem_take h)
  · rcases List.mem_append.mp h with h | h
    · unfold insF at h
      split at h
      · have : c = 34 ∨ c = 41 ∨ c = 34 := by simpa using h
        omega
      · split at h
        · have : c = 34 ∨ c = 40 ∨ c = 34 := by simpa using h
          omega
        · cases h
    · exact rowRaw_small ds lv c (List.mem_of_mem_drop h)
theorem dbl_mem {q c : Nat} : ∀ {l : List Nat}, c ∈ StrLaws.dbl q l → c ∈ l := by
  intro l
  induction l with
  | nil => intro h; exact h
  | cons d l ih =>
    intro h
    rw [StrLaws.dbl] at h
    split at h
    · rcases List.mem_cons.mp h with rfl | h
      · exact List.mem_cons_self ..
      · rcases List.mem_cons.mp h with rfl | h
        · exact List.mem_cons_self ..
        · exact List.mem_cons_of_mem _ (ih h)
    · rcases List.mem_cons.mp h with rfl | h
      · exact List.mem_cons_self ..
      · exact List.mem_cons_of_mem _ (ih h)
theorem dbl_len (q : Nat) : ∀ l : List Nat, (StrLaws.dbl q l).length ≤ 2 * l.length
  | [] => Nat.le_refl _
  | d :: l => by
    have := dbl_len q l
    rw [StrLaws.dbl]
    split <;> simp only [List.length_cons] <;> omega
theorem replace_dd (y : Str) : (Txt.replace y (Str.ofString "\"") (Str.ofString "\"\"")).cps.toList = StrLaws.dbl 34 y.cps.toList := StrLaws.replace_double y 34
theorem wStep_small {ds : List Int} {tot lv : Int} {ts : List (List Nat)} (h : ∀ t ∈ ts, ∀ c ∈ t, c < 128) : ∀ t ∈ wStep ds tot ts lv, ∀ c ∈ t, c < 128 := by
  intro t ht c hc
  unfold wStep at ht
  rcases List.mem_append.mp ht with ht | ht
  · exact h t ht c hc
  · rw [List.mem_singleton] at ht
    subst ht
    cases hl : ts.getLast? with
    | none => rw [hl] at hc; exact rowF_small ds tot lv c hc
    | some l =>
      rw [hl] at hc
      have hlm : l ∈ ts := List.mem_of_getLast? hl
      simp only [List.mem_append] at hc
      rcases hc with ((hc | hc) | hc) | hc
      · have : c = 50 ∨ c = 53 ∨ c = 55 ∨ c = 32 ∨ c = 34 := by simpa using hc
        omega
      · exact h l hlm c (dbl_mem hc)
      · rw [List.mem_singleton.mp hc]; decide
      · exact rowF_small ds tot lv c hc
theorem wGo_small (ds : List Int) (tot : Int) : ∀ i, ∀ t ∈ wGo ds tot i, ∀ c ∈ t, c < 128
  | 0 => by intro t ht; cases ht
  | i + 1 => by rw [wGo_succ]; exact wStep_small (wGo_small ds tot i)
structure VJ (ds : List Int) (tot : Int) (tt : Tok) (l lt : Addr) (i : Nat) (m : Str → Option Value) (nx : List (Addr × Obj)) : Prop where
  out : ∃ (us : List Value) (ys : List Str) (n : Nat), m (Str.ofString "depths") = some (.ref l) ∧ m (Str.ofString "total") = some (.int tot tt) ∧ m (Str.ofString "texts") = some (.ref lt) ∧ nx = [(lt, listOf us.toArray n)] ∧ StrsAre us ys ∧
    ys.map (·.cps.toList) = wGo ds tot i ∧ ys.length = i ∧ ∀ y ∈ ys, y.length + 15 ≤ 24 * 2 ^ i
theorem rowRaw_snoc (a : List Int) (d lv : Int) : rowRaw (a ++ [d]) lv = rowRaw a lv ++ (if d = lv then [41] else if d = lv + 1 then [40] else []) := by
  unfold rowRaw
  rw [List.flatMap_append, List.flatMap_singleton]
structure VK (ds : List Int) (lv tot : Int) (tl tt : Tok) (l lt : Addr) (nx0 : List (Addr × Obj)) (i : Nat) (m : Str → Option Value) (nx : List (Addr × Obj)) : Prop where
  out : ∃ (r : Str) (tr : Tok), m (Str.ofString "depths") = some (.ref l) ∧ m (Str.ofString "total") = some (.int tot tt) ∧ m (Str.ofString "texts") = some (.ref lt) ∧ m (Str.ofString "level") = some (.int lv tl) ∧ m (Str.ofString "row") = some (.str r tr) ∧
    nx = nx0 ∧ r.cps.toList = rowRaw (ds.take i) lv ∧ r.length ≤ i
theorem written_spec {prog : Program} {w : World} {p : Program} {loose : List Str} {mean : ExcName → Option Value} {mg mb : Str → Option Value} {dp un : Nat} {fr : Option (List Env)} {gd : Option (List Code)} {Q E : Value → Shared → Prop} {s : Shared}
   {l : Addr} {vs : List Value} {ds : List Int} {tot : Int} {tt : Tok} (O : Ok w p loose mean mg mb s.heap) (hfill : Challenge.rw_xo0010_01.foot = 6) (hdp : dp + 1 < recursionLimit) (hun : un + 128 < cLine)
   (hl : s.heap.IsList l vs.toArray) (hi : IntsAre vs ds) (hn : ds.length ≤ 6) (hn0 : 0 < ds.length) (hds : ∀ d ∈ ds, 0 ≤ d ∧ d ≤ 5) (ht0 : 0 ≤ tot) (ht1 : tot ≤ 1000000000)
   (hQ : ∀ l' us ys s', Ext s s' → s.heap.get? l' = none → (∃ n, s'.heap.get? l' = some (listOf us.toArray n)) → StrsAre us ys → ys.map (·.cps.toList) = writtenF ds tot → Q (.ref l') s') :
   wpAny (model prog w) (arnd dp un fr gd) (call (.ref 111) [.ref l, .int tot tt]) Q E s := by
  have hfill2 : Challenge.rw_xo0010_01.foot = 6 ∨ hd.heap_39 = hd.heap_39 := by k_fill; exact .inl rfl
  clear hfill2 hfill
  k_with_none
  k_dflt (refine' enter (f := 111) O ?k6 ?k7 ?k8 ?k9 ?kB ?c5 ?c2 ?c3 ?c4 ?_; (case k6 => k_is); (case k7 => k_is); (case k8 => omega); (case k9 => exact BindsTo.of_eq rfl); (case c5 => decide); (case kB => exact locs rfl); (case c2 => exact rfl); (case c3 => exact rfl); (case c4 => exact rfl); k_whole)
  intro h₁ F N
  have X := O.k
  have T := O.t
  dsimp only
  refine exec_seq ?_
  k_steps
  refine ⟨?_⟩
  dsimp only
  rename_i lt _ _ h9 F N
  refine exec_seq ?_
  have hM : ∃ M : Nat, M ≤ 5 ∧ maxD ds = M := by
    obtain ⟨h1, h2, h3⟩ := foldl_max_ge ds 0
    refine ⟨(maxD ds).toNat, ?_, ?_⟩
    · unfold maxD
      rcases h3 with h3 | h3
      · omega
      · have := hds _ h3; omega
    · unfold maxD; omega
  obtain ⟨M, hM5, hMd⟩ := hM
  refine for_range (a := maxD ds) (b := -2) (c := -1) (n := M + 2) ?_ ?_ rfl F N ?_ rfl rfl (fun _ => rfl) (VJ ds tot tt l lt) ?_ ?_ ?_
  · rw [hMd]
    show (if (-1 : Int) > 0 then _ else (if (M : Int) > -2 then ((M : Int) - -2 - 1) / (- -1) + 1 else 0)) = ((M + 2 : Nat) : Int)
    rw [if_neg (by decide)]
    rw [if_pos (by omega)]
    show ((M : Int) - -2 - 1) / 1 + 1 = _
    omega
  · rw [hMd]
    have : M = 0 ∨ M = 1 ∨ M = 2 ∨ M = 3 ∨ M = 4 ∨ M = 5 := by omega
    rcases this with rfl | rfl | rfl | rfl | rfl | rfl <;> decide +kernel
  · intro Q' hq
    k_steps
    rename_i a1 a2 _ _ _ _ _ _ _ _ _
    rename IsRange _ _ _ _ _ _ _ _ => hr9
    rw [← maxD_eq (fun d hd => (hds d hd).1) a1 a2] at hr9
    exact hq _ _ _ _ _ _ (by assumption) (by assumption) hr9
  · exact ⟨[], [], _, rfl, rfl, rfl, rfl, .nil, rfl, rfl, by simp⟩
  · rintro i t m nx it o s₁ hi2 ⟨us, ys, n2, hm1, hm2, hm3, rfl, hus, hys, hyl, hyb⟩ hk F1 N1 hne
    rw [← upd_self hm1, ← upd_self hm2, ← upd_self hm3] at F1
    have hne' : @Ne Nat lt it := by simpa using hne
    have hul : us.length ≤ 10 := by rw [hus.length]; omega
    rw [show maxD ds + (i : Int) * -1 = maxD ds - (i : Int) by omega] at F1
    have hlv : -1 ≤ maxD ds - (i : Int) ∧ maxD ds - (i : Int) ≤ 5 := by omega
    generalize hlve : maxD ds - (i : Int) = lv at *
    clear F N
    refine exec_seq ?_
    k_steps
    refine ⟨?_⟩
    rename_i F N
    refine exec_seq ?_
    refine for_list (l := l) (vs := vs) rfl (fun Q' h => ld F rfl h) rfl rfl (fun _ => rfl) F N (VK ds lv tot t tt l lt _) ⟨_, _, rfl, rfl, rfl, rfl, rfl, rfl, rfl, Nat.le_refl 0⟩ (.inl hl) ?_ ?_
    · rintro j v m2 nx2 it2 o2 s2 hv ⟨r, tr, k1, k2, k3, k4, k5, rfl, hr, hrl⟩ hk2 F2 N2 hne2
      rw [← upd_self k1, ← upd_self k2, ← upd_self k3, ← upd_self k4, ← upd_self k5] at F2
      obtain ⟨d, td, rfl, hdd⟩ := ints_at hi hv
      have hj : j < ds.length := (List.getElem?_eq_some_iff.mp hdd).1
      have htk : rowRaw (ds.take (j + 1)) lv = rowRaw (ds.take j) lv ++ (if d = lv then [41] else if d = lv + 1 then [40] else []) := by
        rw [List.take_add_one, hdd, Option.toList_some, rowRaw_snoc]
      clear F N F1 N1
      k_steps
      · rename_i hc _ _ _ _ F' N'
        refine Turn.mk' (Kin.trans hk2 (Kin.heap s2 _ _)) F' N' hne2 ⟨_, _, rfl, rfl, rfl, rfl, rfl, rfl, ?_, ?_⟩
        · rw [htk, if_pos hc, ← hr]
          exact app_one r 41
        · show (r ++ Str.ofString ")").length ≤ j + 1
          have e1 : (Str.ofString ")").length = 1 := rfl
          omega
      · rename_i hc hc2 _ _ _ _ F' N'
        refine Turn.mk' (Kin.trans hk2 (Kin.heap s2 _ _)) F' N' hne2 ⟨_, _, rfl, rfl, rfl, rfl, rfl, rfl, ?_, ?_⟩
        · rw [htk, if_neg hc, if_pos hc2, ← hr]
          exact app_one r 40
        · show (r ++ Str.ofString "(").length ≤ j + 1
          have e1 : (Str.ofString "(").length = 1 := rfl
          omega
      · rename_i hc hc2
        refine Turn.mk' (Kin.trans hk2 (Kin.heap s2 _ _)) F2 N2 hne2 ⟨_, _, rfl, rfl, rfl, rfl, rfl, rfl, ?_, by omega⟩
        rw [htk, if_neg hc, if_neg hc2, ← hr, List.append_nil]
    · rintro m2 nx2 s2 ⟨r, tr, k1, k2, k3, k4, k5, rfl, hr, hrl⟩ hk2 F2 N2
      rw [← upd_self k1, ← upd_self k2, ← upd_self k3, ← upd_self k4, ← upd_self k5] at F2
      refine ⟨?_⟩
      dsimp only
      clear F N F1 N1
      have hvl : vs.length = ds.length := hi.length
      have hr6 : r.length ≤ 6 := by omega
      rw [hvl, List.take_length] at hr
      have hns : (Txt.slice r none (some 1)).cps.toList = r.cps.toList.take 1 := slice_ns_list r (by decide)
      have hsn : (Txt.slice r (some 1) none).cps.toList = r.cps.toList.drop 1 := slice_sn_all r 1
      refine exec_seq_to (fun s' => ∃ rr trr, Kin s2 s' ∧ ∃ m3, Fr s.heap s.heap.objs.size s'.heap m3 ∧ (m3 (Str.ofString "row") = some (.str rr trr) ∧ m3 (Str.ofString "depths") = some (Value.ref l) ∧ m3 (Str.ofString "total") = some (Value.int tot tt) ∧ m3 (Str.ofString "texts") = some (Value.ref lt)) ∧
          News s.heap s.heap.objs.size s'.heap [(it, o), (lt, listOf us.toArray n2)] ∧ rr.cps.toList = rowF ds tot lv) ?_ ?_
      · k_steps
        all_goals (try exact True.intro)
        all_goals
          refine ⟨?_⟩
          rename_i F' N'
          refine ⟨_, _, Kin.heap _ _ _, _, F', ⟨rfl, rfl, rfl, rfl⟩, fun p hp => N' p (List.mem_cons_of_mem _ hp), ?_⟩
          rename Int.fmod _ 4 = _ => hk4
          rw [str_app_list, str_app_list, hns, hsn, hr]
          unfold rowF
          rw [hk4, List.append_assoc]
          rfl
      · rintro s3 ⟨rr, trr, hk3, m3, F3, ⟨j1, j2, j3, j4⟩, N3, hrr⟩
        rw [← upd_self j1, ← upd_self j2, ← upd_self j3, ← upd_self j4] at F3
        have hrr9 : rr.length ≤ 9 := by
          rw [len_list, hrr]
          have h1 : (insF (Int.fmod (lv + 1 + tot) 4)).length ≤ 3 := by unfold insF; split <;> (try split) <;> simp
          have h2 : (rowRaw ds lv).length ≤ 6 := by rw [← hr, ← len_list]; exact hr6
          unfold rowF
          rw [List.length_append, List.length_append, List.length_take, List.length_drop]
          omega
        clear F2 N2
        have hne2 : ∀ p ∈ [(lt, listOf us.toArray n2)], p.1 ≠ it := hne
        rcases List.eq_nil_or_concat ys with rfl | ⟨ys0, y, rfl⟩
        · cases hus
          refine exec_seq ?_
          k_with "compareOp NotEq ref ref" => (refine ne_strs (xs := []) (ys := []) ⟨_, (News.get (by assumption) (List.mem_cons_of_mem _ (List.mem_cons_of_mem _ (List.mem_cons_self ..)))), rfl, _, rfl⟩ ⟨_, (News.get (by assumption) (List.mem_cons_self ..)), rfl, _, rfl⟩ .nil .nil (by simp) (by simp) (show un + 3 + 64 < cLine by omega) ?_)
          k_steps
          refine ⟨?_⟩
          dsimp only
          rename_i l2 _ _ _ hlt2
          have hne3 : @Ne Nat lt l2 := Nat.ne_of_lt hlt2.2
          k_steps
          rename_i F' N'
          refine Turn.mk' (Kin.trans hk (Kin.trans (Kin.heap s₁ _ _) (Kin.trans hk2 (Kin.trans hk3 (Kin.heap s3 _ _))))) F' (fun p hp => N' p (List.mem_cons_of_mem _ hp)) (by intro q hq; obtain rfl := List.mem_singleton.mp hq; exact hne') ⟨[_], [rr], n2 + 1, rfl, rfl, rfl, rfl, .cons _ _ .nil, ?_, by rw [← hyl]; rfl, ?_⟩
          · rw [wGo_succ, ← hys, hlve]
            show [rr.cps.toList] = [rowF ds tot lv]
            rw [hrr]
          · intro z hz
            rw [List.mem_singleton.mp hz]
            have h1 : 1 ≤ 2 ^ i := Nat.one_le_two_pow
            rw [Nat.pow_succ]
            omega
        · rw [List.concat_eq_append] at *
          have hsm : ∀ z ∈ ys0 ++ [y], ∀ c ∈ z.cps.toList, c < 128 := fun z hz => wGo_small ds tot i _ (by rw [← hys]; exact List.mem_map_of_mem hz)
          have hcd : (!decide (ys0 ++ [y] = [])) = true := by simp
          refine exec_seq ?_
          k_with "compareOp NotEq ref ref" => (refine ne_strs (xs := us) (ys := []) ⟨_, (News.get (by assumption) (List.mem_cons_of_mem _ (List.mem_cons_of_mem _ (List.mem_cons_self ..)))), rfl, _, rfl⟩ ⟨_, (News.get (by assumption) (List.mem_cons_self ..)), rfl, _, rfl⟩ hus .nil hsm (by simp) (show un + 3 + 64 < cLine by omega) ?_; rw [hcd])
          have hp64 : 2 ^ i ≤ 64 := Nat.pow_le_pow_right (n := 2) (by decide) (show i ≤ 6 by omega)
          have hy1 : y.length + 15 ≤ 24 * 2 ^ i := hyb y (by simp)
          have hylen : y.length ≤ 1600 := by omega
          have hyl' : (ys0 ++ [y]).length = ys0.length + 1 := by simp
          have hlast : ∀ k, k = ys0.length → (ys0 ++ [y]).getD k Str.empty = y := by rintro k rfl; simp [List.getD]
          have hzl : (Txt.replace y (Str.ofString "\"") (Str.ofString "\"\"")).length ≤ 2 * y.length := by
            rw [len_list, replace_dd, len_list]; exact dbl_len _ _
          have hzz := replace_dd y
          k_steps
          rw [hlast _ (by omega)]
          refine SC.replaceW (by show @Ne Nat _ _; omega) (by show @Ne Nat _ _; omega) (by show @Ne Nat _ _; omega) (by decide) (by omega) (by decide) ?_
          intro tq kq
          generalize Txt.replace y (Str.ofString "\"") (Str.ofString "\"\"") = z at *
          clear hlast hcd hns hsn
          k_steps
          refine ⟨?_⟩
          dsimp only
          rename_i l2 _ hlt2 _ _ _ _ _ _ _ _ _ _ _ _ _
          have hne3 : @Ne Nat lt l2 := Nat.ne_of_lt hlt2.2
          have hul2 : us.length = i := by rw [← hyl]; exact hus.length
          k_steps
          rename_i F' N'
          refine Turn.mk' (Kin.trans hk (Kin.trans (Kin.heap s₁ _ _) (Kin.trans hk2 (Kin.trans hk3 (Kin.heap s3 _ _))))) F' (fun p hp => N' p (List.mem_cons_of_mem _ hp)) (by intro q hq; obtain rfl := List.mem_singleton.mp hq; exact hne') ⟨us ++ [_], (ys0 ++ [y]) ++ [_], n2 + 1, rfl, rfl, rfl, by rw [List.push_toArray], strs_snoc hus _ _, ?_, by rw [List.length_append, hyl]; rfl, ?_⟩
          · rw [wGo_succ, ← hys, hlve, List.map_append]
            unfold wStep
            rw [List.map_append]
            show _ ++ [(Str.ofString "257 \"" ++ z ++ Str.ofString "\"" ++ rr).cps.toList] = _
            rw [str_app_list, str_app_list, str_app_list, hzz, hrr]
            simp only [List.map_cons, List.map_nil, List.getLast?_append, List.getLast?_singleton, Option.some_or]
            rfl
          · intro q hq
            rcases List.mem_append.mp hq with hq | hq
            · have := hyb q hq
              rw [Nat.pow_succ]; omega
            · rw [List.mem_singleton.mp hq, str_app_len, str_app_len, str_app_len, Nat.pow_succ]
              have e1 : (Str.ofString "257 \"").length = 5 := rfl
              have e2 : (Str.ofString "\"").length = 1 := rfl
              omega
  · rintro m nx s₁ ⟨us, ys, n2, hm1, hm2, hm3, rfl, hus, hys, hyl, hyb⟩ hk F1 N1
    rw [← upd_self hm1, ← upd_self hm2, ← upd_self hm3] at F1
    refine ⟨?_⟩
    dsimp only
    clear F N
    k_steps
    refine hQ lt us ys _ ((Kin.trans (Kin.heap s _ _) hk).ext F1.keep) (N1 _ (List.mem_cons_self ..)).2.2 ⟨_, (N1 _ (List.mem_cons_self ..)).1⟩ hus ?_
    rw [hys]
    unfold writtenF wGo
    rw [hMd]
    rfl
end Mine
end

section
open PySem PySem.W PyProof.Rows PySem.Calls
open Sem (wp)
namespace Mine
set_option maxRecDepth 100000
set_option maxHeartbeats 1000000
abbrev lstO (ys : List Value) : Obj := { cls := .type "list", data := .seq ys.toArray ys.length }
structure CTurn (h₀ : Heap) (L : Addr) (m : Str → Option Value) (s : Shared) (news : List (Addr × Obj)) (J : Prop) (s₂ : Shared) : Prop where
  kin : Kin s s₂
  fr : Fr h₀ L s₂.heap m
  news : News h₀ L s₂.heap news
  j : J
section
variable {prog : Program} {w : World} {A : Around} {env : Env} {h₀ : Heap} {s : Shared} {L : Addr} {m : Str → Option Value} {news : List (Addr × Obj)} {Q : Value → Shared → Prop}
theorem comp_range {elt iter : Expr} {x : Str} {px pos : Pos} {ifs : List Expr} {scope : Scope} {cl : List (Str × Addr)} {a b : Int} {n : Nat} (hn : Builtin.Range.rangeSize a b 1 = (n : Int)) (hsm : Builtin.Range.small a b 1 = true) (hns : n ≤ sizeLine)
    (hh : A.handled = none) (_F : Fr h₀ L s.heap m) (_N : News h₀ L s.heap news)
    (hev : ∀ Q' : Value → Shared → Prop, (∀ h' tk R t u v, Fr h₀ L h' m → News h₀ L h' news → IsRange h' R a b 1 t u v → Q' (.ref R) { s with heap := h', toks := tk }) → wpAny (model prog w) A (eval iter env) Q' (fun _ _ => False) s)
    (hclos : closureFor scope env = pure cl) (hcell : ∀ y ∈ scope.names, y.2 ≠ .cell) (hkind : scope.kind = .function)
    (hnames : ∀ y ∈ scope.names, y.2 = .local → scope.names.lookup y.1 = some .local) (hx : scope.names.lookup x = some .local) (hs : ∀ x, foldedSetIterable iter env x = pure x)
    (J : Nat → List Value → Prop) (j0 : J 0 [])
    (turn : ∀ (i : Nat) (t : Tok) (ys : List Value) (I C D : Addr) (oI oC : Obj) (m₂ : Str → Option Value) (s₁ : Shared), i < n → J i ys → LCg.NsObj oC m₂ → m₂ x = some (.int (a + (i : Int)) t) → Kin s s₁ →
      Fr h₀ L s₁.heap m → News h₀ L s₁.heap ((I, oI) :: (C, oC) :: (D, lstO ys) :: news) → ((@Ne Nat I C) ∧ (@Ne Nat I D) ∧ (@Ne Nat C D)) → (∀ p ∈ news, p.1 ≠ I ∧ p.1 ≠ C ∧ p.1 ≠ D) →
      wpAny (model prog w) A (forIn ifs true fun c r => if r = true then do let ok ← isTrue c (compEnvC scope cl C env) (eval c (compEnvC scope cl C env)); pure (ForInStep.yield ok) else pure (ForInStep.yield r))
        (fun ok s₂ => if ok = true then wpAny (model prog w) A (eval elt (compEnvC scope cl C env)) (fun y s₃ => CTurn h₀ L m s ((I, oI) :: (C, oC) :: (D, lstO ys) :: news) (J (i + 1) (ys ++ [y])) s₃) (fun _ _ => False) s₂
          else CTurn h₀ L m s ((I, oI) :: (C, oC) :: (D, lstO ys) :: news) (J (i + 1) ys) s₂) (fun _ _ => False) s₁)
    (hJl : ∀ i ys, J i ys → ys.length ≤ i)
    (done : ∀ (D : Addr) (ys : List Value) (s₁ : Shared), J n ys → Kin s s₁ → Fr h₀ L s₁.heap m → News h₀ L s₁.heap ((D, lstO ys) :: news) → (∀ p ∈ news, p.1 ≠ D) → Q (.ref D) s₁) :
    wpAny (model prog w) A (eval (.ListComp elt [⟨.Name x px, iter, ifs, 0⟩] scope pos) env) Q (fun _ _ => False) s := by
  rw [eval_ListComp]
  refine wpAny_comprehension_free (use := none) rfl hs hclos hkind hnames (hev _ fun hb tk R t u v F N hr => ?_)
  refine wpAny_pyIter_range hr hsm ?_
  rw [hn]
  have hLs : @LT.lt Nat _ L hb.objs.size := F.ns.lt
  have hab : @LE.le Nat _ h₀.objs.size L := F.above
  have hnb : ∀ p ∈ news, @LT.lt Nat _ p.1 hb.objs.size := fun p hp => Heap.lt_size (N p hp).1
  refine wpAny_newObj_type (wpAny_newFunctionEnv hcell (by intro y hy; simp at hy) (fun h₁ hns₁ hsb₁ => ?_) hkind)
  dsimp only at hns₁ hsb₁ ⊢
  generalize hI : hb.objs.size = I at *
  have hI0 : h₀.get? I = none := Heap.get?_none_of_le (show @LE.le Nat _ _ _ by omega)
  generalize hH1 : hb.push { cls := .type "range_iterator", data := .fields #[rawInt a, rawInt (n : Int), rawInt 1] } = H1 at *
  have hz1 : H1.objs.size = I + 1 := by rw [← hH1, Heap.size_push, hI]
  have hg1 : IsRangeIter H1 I a n 1 := by rw [← hH1, ← hI]; exact Heap.get?_push_size _ rfl
  have hk1 : ∀ b o, hb.get? b = some o → H1.get? b = some o := fun b o q => by rw [← hH1]; exact Heap.get?_push_of_some _ q
  generalize hD : H1.objs.size = D at *
  generalize hH2 : H1.push { cls := .type "list", dict := none, data := .seq ([] : List Value).toArray } = H2 at *
  have hz2 : H2.objs.size = D + 1 := by rw [← hH2, Heap.size_push, hD]
  have hg2 : H2.get? D = some (lstO []) := by rw [← hH2, ← hD]; exact Heap.get?_push_size _ rfl
  have hk2 : ∀ b o, H1.get? b = some o → H2.get? b = some o := fun b o q => by rw [← hH2]; exact Heap.get?_push_of_some _ q
  generalize hC : H2.objs.size = C at *
  have hne : (@Ne Nat I C) ∧ (@Ne Nat I D) ∧ (@Ne Nat C D) := ⟨by omega, by omega, by omega⟩
  have hD0 : h₀.get? D = none := Heap.get?_none_of_le (show @LE.le Nat _ _ _ by omega)
  have hC0 : h₀.get? C = none := Heap.get?_none_of_le (show @LE.le Nat _ _ _ by omega)
  have hIL : @Ne Nat I L := by omega
  have hDL : @Ne Nat D L := by omega
  have hCL : @Ne Nat C L := by omega
  have hk3 : ∀ b o, b ≠ C → H2.get? b = some o → h₁.get? b = some o := fun b o hb' q => hsb₁.extBut b o hb' (Heap.get?_push_of_some _ q)
  have hoff : ∀ p ∈ news, p.1 ≠ I ∧ p.1 ≠ C ∧ p.1 ≠ D := fun p hp => by
    have h5 := hnb p hp
    exact ⟨show @Ne Nat _ _ by omega, show @Ne Nat _ _ by omega, show @Ne Nat _ _ by omega⟩
  have hold : ∀ b o, hb.get? b = some o → h₁.get? b = some o := fun b o q => hk3 b o (Nat.ne_of_lt (by have h6 := Heap.lt_size q; rw [hI] at h6; have h7 : @LT.lt Nat _ b I := h6; omega)) (hk2 b o (hk1 b o q))
  have loop : ∀ s₃ : Shared, s₃.heap = h₁ → Kin s s₃ →
      codeAny (model prog w) A (.compLoop (.ListComp elt [⟨.Name x px, iter, ifs, 0⟩] scope pos) 0 (.ref I) (.ref D) (compEnvC scope cl C env))
        (compPost (model prog w) A (fun _ _ => False) none Q (.ref D) C) s₃ := by
    rintro s₃ rfl hkin
    refine codeAny_compLoop_tests (fun k s' => ∃ i ys m', k = n + 1 - i ∧ i ≤ n ∧ J i ys ∧ Kin s s' ∧ Fr h₀ L s'.heap m ∧ s'.heap.Ns C m' ∧ News h₀ L s'.heap ((D, lstO ys) :: news) ∧ IsRangeIter s'.heap I (a + (i : Int)) ((n : Int) - i) 1) ?_ (n + 1)
      ⟨0, [], _, rfl, Nat.zero_le _, j0, hkin, F.keeps hold, hns₁, fun p hp => ?_, ?_⟩
    · rintro k s' ⟨i, ys, m', rfl, hi, j, hk, F', hn', N', hit⟩
      by_cases hlt : i < n
      · refine wpAny_pyNext_range_item hit (by omega) fun h₂ hit₂ hs₂ => ?_
        replace hs₂ : Heap.SameBut I s'.heap h₂ := hs₂
        obtain ⟨oI, hoI, hoR⟩ : ∃ oI, h₂.get? I = some oI ∧ ∀ g : Heap, g.get? I = some oI → IsRangeIter g I (a + (i : Int) + 1) ((n : Int) - i - 1) 1 := ⟨_, hit₂, fun _ q => q⟩
        refine wpAny_assign_Name (wpAny_storeName_local (lookup_relabel_local hx) (hn'.sameBut hs₂ hne.1.symm) (fun h₃ hn₃ hs₃ => ?_) (by simp [compEnvC, relabel, hkind]))
        replace hs₃ : Heap.SameBut C h₂ h₃ := hs₃
        obtain ⟨oC, heC, hoC⟩ := LCg.ns_obj hn₃
        have F₃ : Fr h₀ L h₃ m := (F'.change hs₂ hIL hI0).change hs₃ hCL hC0
        have N₃ : News h₀ L h₃ ((I, oI) :: (C, oC) :: (D, lstO ys) :: news) := fun p hp => by
          rcases List.mem_cons.mp hp with rfl | hp
          · exact ⟨(hs₃.2 _ hne.1).trans hoI, hIL, hI0⟩
          · rcases List.mem_cons.mp hp with rfl | hp
            · exact ⟨heC, hCL, hC0⟩
            · have hpn : p.1 ≠ I ∧ p.1 ≠ C := by
                rcases List.mem_cons.mp hp with rfl | hp
                · exact ⟨hne.2.1.symm, hne.2.2.symm⟩
                · exact ⟨(hoff p hp).1, (hoff p hp).2.1⟩
              exact ⟨(hs₃.2 _ hpn.2).trans ((hs₂.2 _ hpn.1).trans (N' p hp).1), (N' p hp).2⟩
        refine wpAny_mono (turn i s'.toks ys I C D oI oC _ { s' with heap := h₃, toks := s'.toks + 1 + 1 } hlt j hoC (by simp) (hk.trans (Kin.heap s' h₃ _)) F₃ N₃ hne hoff) (fun ok s₂ y => ?_) fun _ _ y => y.elim
        have zz : a + ((i + 1 : Nat) : Int) = a + (i : Int) + 1 ∧ (n : Int) - ((i + 1 : Nat) : Int) = (n : Int) - i - 1 := ⟨by omega, by omega⟩
        cases ok with
        | true =>
          rw [if_pos rfl] at y
          rw [if_pos rfl]
          refine wpAny_mono y (fun v s₄ z => ?_) fun _ _ y => y.elim
          have zI := (z.news _ (List.mem_cons_self ..)).1
          have zC := (z.news _ (List.mem_cons_of_mem _ (List.mem_cons_self ..))).1
          have zD := (z.news _ (List.mem_cons_of_mem _ (List.mem_cons_of_mem _ (List.mem_cons_self ..)))).1
          refine append_at zD (fun h₅ hs₅ hD₅ => ?_) (by rw [List.size_toArray]; have := hJl _ _ j; omega)
          replace hs₅ : Heap.SameBut D s₄.heap h₅ := hs₅
          refine ⟨n + 1 - (i + 1), by omega, i + 1, ys ++ [v], _, rfl, hlt, z.j, z.kin.trans (Kin.heap s₄ h₅ _), z.fr.change hs₅ hDL hD0, (hoC.ns zC).sameBut hs₅ hne.2.2, fun p hp => ?_, ?_⟩
          · rcases List.mem_cons.mp hp with rfl | hp
            · refine ⟨hD₅.trans (congrArg some ?_), hDL, hD0⟩
              unfold lstO
              rw [List.push_toArray, List.length_append]
              rfl
            · exact ⟨(hs₅.2 _ (hoff p hp).2.2).trans (z.news p (List.mem_cons_of_mem _ (List.mem_cons_of_mem _ (List.mem_cons_of_mem _ hp)))).1, (z.news p (List.mem_cons_of_mem _ (List.mem_cons_of_mem _ (List.mem_cons_of_mem _ hp)))).2⟩
          · rw [zz.1, zz.2]
            exact hoR _ ((hs₅.2 _ hne.2.1).trans zI)
        | false =>
          rw [if_neg Bool.false_ne_true] at y
          rw [if_neg Bool.false_ne_true]
          have zI := (y.news _ (List.mem_cons_self ..)).1
          have zC := (y.news _ (List.mem_cons_of_mem _ (List.mem_cons_self ..))).1
          refine ⟨n + 1 - (i + 1), by omega, i + 1, ys, _, rfl, hlt, y.j, y.kin, y.fr, hoC.ns zC, fun p hp => y.news p (List.mem_cons_of_mem _ (List.mem_cons_of_mem _ hp)), ?_⟩
          rw [zz.1, zz.2]
          exact hoR _ zI
      · have e : i = n := by omega
        subst e
        refine wpAny_pyNext_range_end hh hit (by omega) fun h₂ he₂ => ?_
        replace he₂ : Heap.ExtBut I s'.heap h₂ := he₂
        refine ⟨m', hn'.extBut he₂ hne.1.symm, fun h₃ hs₃ => done D ys _ j (hk.trans (Kin.heap s' h₃ _)) ?_ ?_ (fun p hp => (hoff p hp).2.2)⟩
        · exact Fr.change ⟨F'.ns.extBut he₂ hIL.symm, fun b q e => he₂ b q (fun z => by rw [z, hI0] at e; cases e) (F'.keep b q e), F'.above⟩ hs₃ hCL hC0
        · intro p hp
          have hpn : p.1 ≠ I ∧ p.1 ≠ C := by
            rcases List.mem_cons.mp hp with rfl | hp
            · exact ⟨hne.2.1.symm, hne.2.2.symm⟩
            · exact ⟨(hoff p hp).1, (hoff p hp).2.1⟩
          exact ⟨(hs₃.2 _ hpn.2).trans (he₂ _ _ hpn.1 (N' p hp).1), (N' p hp).2⟩
    · rcases List.mem_cons.mp hp with rfl | hp
      · exact ⟨hk3 _ _ hne.2.2.symm hg2, hDL, hD0⟩
      · exact ⟨hold _ _ (N p hp).1, (N p hp).2⟩
    · have e1 : a + ((0 : Nat) : Int) = a := by simp
      have e2 : (n : Int) - ((0 : Nat) : Int) = n := by simp
      rw [e1, e2]
      exact hk3 _ _ hne.1 (hk2 _ _ hg1)
  have hit₁ : IsRangeIter h₁ I a n 1 := hk3 _ _ hne.1 (hk2 _ _ hg1)
  exact codeAny_compStart_list (loop _ rfl ⟨rfl, fun _ _ e => e, id⟩) (wpAny_pyIter_rangeiter hit₁ (loop _ rfl ⟨rfl, fun _ _ e => e, id⟩))
end
end Mine
end

section
open PySem PySem.W PyProof.Rows PySem.Calls
namespace Mine
set_option maxRecDepth 100000
set_option maxHeartbeats 8000000
section
variable {prog : Program} {w : World} {p : Program} {loose : List Str} {mean : ExcName → Option Value} {mg mb : Str → Option Value}
theorem enterC {dp un : Nat} {fr : Option (List Env)} {gd : Option (List Code)} {Q E : Value → Shared → Prop} {s : Shared} {name qual : Str} {params : Arguments} {body : List Stmt} {scope : Scope} {dV kV doc pm cdv ct oc : Value} {an od : Option Addr} {osl : Array (Option Value)} {f : Addr} {vs : List Value} {binds : List (Str × Value)}
    (O : Ok w p loose mean mg mb s.heap) (ho : (hd.heap_39 w.params).lookup f = some ⟨oc, od, .func (fnOf name qual params body scope dV kV doc pm an cdv ct), osl⟩)
    (hcd : codeIn (hd.heap_39 w.params) cdv qual = true) (hroom : dp < recursionLimit)
    (hbind : bindArgs (fnOf name qual params body scope dV kV doc pm an cdv ct) ⟨vs, []⟩ = pure binds)
    (hkind : ∀ x ∈ binds, scope.names.lookup x.1 = some .local ∨ (scope.names.lookup x.1 = some .cell ∧ ((cellsFrom (s.heap.objs.size + 1) scope.names []).lookup x.1).isSome = true))
    (hco : scope.isCoroutine = false) (hgen : scope.isGenerator = false) (hk : scope.kind = .function)
    (h : ∀ h₁ tk, Fr s.heap s.heap.objs.size h₁ (bindL (envOfC qual scope s.heap.objs.size f cdv).kindOf binds fun _ => none) → Cl s.heap.objs.size (cellsFrom (s.heap.objs.size + 1) scope.names []) h₁ (bindC (envOfC qual scope s.heap.objs.size f cdv).kindOf binds fun _ => none) → News s.heap s.heap.objs.size h₁ [] →
      wpAny (model prog w) ((arnd dp un fr gd).deeper (envOfC qual scope s.heap.objs.size f cdv)) (execs body (envOfC qual scope s.heap.objs.size f cdv))
        (fun fl s' => Q (match fl with | .ret v => v | _ => .none) s') (fun _ _ => False) { s with heap := h₁, toks := tk }) :
    wpAny (model prog w) (arnd dp un fr gd) (call (.ref f) vs) Q E s := by
  refine wpAny_call (codeAny_call_cells (fd := fnOf name qual params body scope dV kV doc pm an cdv ct) (body := body) (binds := binds) hroom (O.k _ _ ho) rfl O.t.nolimit (codeRec_of O.k hcd) rfl hbind rfl hkind (fun s₁ X => ?_) hco hgen hk)
  obtain ⟨h₁, tk, rfl, _⟩ := X.done
  exact wpAny_mono (h h₁ tk ⟨X.toInCall.ns, X.toInCall.keep, X.toInCall.fresh⟩ ⟨X.cell, X.apart, X.above⟩ News.nil) (fun fl s' x => x) fun _ _ x => x.elim
end
theorem str_attrs : PlainAttrs "str" :=
  ⟨⟨"object.__getattribute__", by rw [typeLookup_type, builtinLookup_eq_fast]; kernel_rfl, by decide +kernel⟩, by rw [typeLookup_type, builtinLookup_eq_fast]; kernel_rfl⟩
theorem cl_one {L c : Addr} {n : Str} {h h₀ : Heap} {cm : Str → Option Value} (C : Cl L [(n, c)] h cm) (h0 : h₀.objs.size ≤ L) : ∃ oc, oc.data = .cell (cm n) ∧ (c ≠ L ∧ h₀.get? c = none) ∧ h.get? c = some oc := by
  obtain ⟨o, ho, hd⟩ := C.cell n c (by simp [List.lookup])
  have := C.above n c (by simp)
  exact ⟨o, hd, ⟨Nat.ne_of_gt this, Heap.get?_none_of_le (Nat.le_trans h0 (Nat.le_of_lt this))⟩, ho⟩
def aheadGo (l : List Nat) (i : Nat) : List Int := (List.range i).flatMap fun k => if l[k]? = some 40 then [openF (l.take k)] else []
def aheadF (l : List Nat) : List Int := aheadGo l l.length
theorem aheadGo_succ (l : List Nat) (i : Nat) : aheadGo l (i + 1) = aheadGo l i ++ (if l[i]? = some 40 then [openF (l.take i)] else []) := by
  unfold aheadGo
  rw [List.range_succ, List.flatMap_append, List.flatMap_singleton]
theorem aheadGo_len (l : List Nat) : ∀ i, (aheadGo l i).length ≤ i
  | 0 => Nat.le_refl _
  | i + 1 => by
    have := aheadGo_len l i
    rw [aheadGo_succ, List.length_append]
    split <;> simp <;> omega
set_option maxHeartbeats 1000000
theorem ahead_spec {prog : Program} {w : World} {p : Program} {loose : List Str} {mean : ExcName → Option Value} {mg mb : Str → Option Value} {dp un : Nat} {fr : Option (List Env)} {gd : Option (List Code)} {Q E : Value → Shared → Prop} {s : Shared}
   {x : Str} {tx : Tok} (O : Ok w p loose mean mg mb s.heap) (hfill : Challenge.rw_xo0010_01.foot = 6) (hdp : dp + 4 < recursionLimit) (hun : un + 64 < cLine)
   (hsz : x.length ≤ 4096) (hx : ∀ c ∈ x.cps.toList, c ≠ 92) (hx8 : ∀ c ∈ x.cps.toList, c < 128)
   (hQ : ∀ l (us : List Value) s', Ext s s' → s.heap.get? l = none → s'.heap.IsList l us.toArray → IntsAre us (aheadF x.cps.toList) → Q (.ref l) s') :
   wpAny (model prog w) (arnd dp un fr gd) (call (.ref 123) [.str x tx]) Q E s := by
  have hfillc := hfill
  have hfill2 : Challenge.rw_xo0010_01.foot = 6 ∨ hd.heap_39 = hd.heap_39 := by k_fill; exact .inl rfl
  clear hfill2 hfill
  k_with_none
  k_dflt (refine' enterC (f := 123) O ?k6 ?k7 ?k8 ?k9 ?kB ?c2 ?c3 ?c4 ?_; (case k6 => k_is); (case k7 => k_is); (case k8 => omega); (case k9 => exact rfl); (case c2 => exact rfl); (case c3 => exact rfl); (case c4 => exact rfl); k_whole)
  · intro y hy
    replace hy : y ∈ [(Str.ofString "row", Value.str x tx)] := hy
    rw [List.mem_singleton.mp hy]
    exact .inr ⟨rfl, rfl⟩
  intro h₁ tk F C N
  replace F : Fr s.heap s.heap.objs.size h₁ (fun _ => none) := F
  replace C : Cl s.heap.objs.size [(Str.ofString "row", s.heap.objs.size + 1)] h₁ (fun y => if y = Str.ofString "row" then some (.str x tx) else none) := C
  have X := O.k
  have T := O.t
  obtain ⟨oc, hoc, hcn, hoce⟩ := cl_one C (Nat.le_refl _)
  replace hoc : oc.data = .cell (some (.str x tx)) := hoc
  replace N : News s.heap s.heap.objs.size h₁ [(s.heap.objs.size + 1, oc)] := fun q hq => by rw [List.mem_singleton.mp hq]; exact ⟨hoce, hcn⟩
  refine exec_seq (wpAny_Return_some ?_)
  refine comp_range (h₀ := s.heap) (L := s.heap.objs.size) (m := fun _ => none) (news := [(s.heap.objs.size + 1, oc)]) (a := 0) (b := (x.length : Int)) (n := x.length) (cl := [(Str.ofString "row", s.heap.objs.size + 1)]) ?_ ?_ ?_ rfl F N ?_ (by with_unfolding_all rfl) (by decide) rfl (by decide) rfl (fun _ => rfl)
    (fun i ys => IntsAre ys (aheadGo x.cps.toList i)) .nil ?_ ?_ ?_
  · show (if (1 : Int) > 0 then (if (0 : Int) < (x.length : Int) then ((x.length : Int) - 0 - 1) / 1 + 1 else 0) else _) = (x.length : Int)
    rw [if_pos (by decide)]
    split <;> omega
  · exact small_one (by omega) (by omega) (by omega) (by omega)
  · exact Nat.le_trans hsz (by decide)
  · intro Q' hq
    k_steps
    exact hq _ _ _ _ _ _ (by assumption) (by assumption) (by assumption)
  · intro i t ys I C' D oI oC m₂ s₁ hi j hoC hm hk F1 N1 hne hoff
    rw [show (0 : Int) + (i : Int) = (i : Int) by omega] at hm
    have hit : ∃ c, x.cps[i]? = some c ∧ x.cps.toList[i]? = some c := ⟨x.cps[i]'hi, Array.getElem?_eq_getElem hi, by rw [Array.getElem?_toList]; exact Array.getElem?_eq_getElem hi⟩
    obtain ⟨c, hc, hcl⟩ := hit
    have hitem : Txt.item x (i : Int) = ⟨#[c]⟩ := item_meets (by omega) (by rw [Int.toNat_natCast]; exact hc)
    have hxi : (i : Int) < x.length := by omega
    clear F N C hoce hQ
    refine wpAny_tests_one ?_
    by_cases h40 : c = 40
    · have hte : (Txt.item x (i : Int) == Str.ofString "(") = true := by rw [hitem, h40]; rfl
      have hzl : (Txt.slice x none (some (i : Int))).cps.toList = x.cps.toList.take i := slice_ns_list x (by omega)
      have hz8 : ∀ c ∈ (Txt.slice x none (some (i : Int))).cps.toList, c < 128 := by rw [hzl]; exact fun c hc => hx8 c (List.mem_of_mem_take hc)
      have hz92 : ∀ c ∈ (Txt.slice x none (some (i : Int))).cps.toList, c ≠ 92 := by rw [hzl]; exact fun c hc => hx c (List.mem_of_mem_take hc)
      have hzs : (Txt.slice x none (some (i : Int))).length ≤ 4096 := Nat.le_trans (Txt.slice_le x _ _) hsz
      k_with "getMethod str" => (refine getMethod_builtin (typeIs_str _ _ _) str_attrs F.slot_str_encode F.type_str_encode (by rintro a ⟨⟩) ?_)
      k_with "call builtin:str.encode" => (refine call_encode hz8 (Nat.le_trans hzs (by decide)) ?_; intro bb tb kb hbb)
      k_steps
      rename_i h9 t9 k9 F9 N9 _
      refine pdepth0_spec (O.keeps F9.keep) hfillc (show dp + 1 + 1 < recursionLimit by omega) (show un + 3 + 8 < cLine by omega) (by rw [hbb]; exact hz92) ?_ ?_
      · have e5 := congrArg List.length hbb
        simp only [nats, List.length_map, Array.length_toList] at e5
        rw [e5]
        exact Nat.le_trans hzs (by decide)
      · intro td sd hxd
        refine ⟨hk.trans (Kin.trans (Kin.heap s₁ _ _) hxd.kin), fr_ext F9 hxd, news_ext N9 hxd, ?_⟩
        rw [aheadGo_succ, hcl, h40, if_pos rfl, hbb, hzl]
        exact j.append (.cons _ _ .nil)
    · have hte : (Txt.item x (i : Int) == Str.ofString "(") = false := by rw [hitem]; exact str_ne_one h40
      k_steps
      refine ⟨hk.trans (Kin.heap s₁ _ _), F1, N1, ?_⟩
      rw [aheadGo_succ, hcl, if_neg (by simpa using h40), List.append_nil]
      exact j
  · intro i ys h
    rw [h.length]
    exact aheadGo_len _ _
  · intro D ys s₁ j hk F1 N1 _
    refine ⟨?_⟩
    dsimp only
    refine hQ D ys s₁ ((Kin.trans (Kin.heap s _ _) hk).ext F1.keep) (N1 _ (List.mem_cons_self ..)).2.2 ⟨_, (N1 _ (List.mem_cons_self ..)).1, rfl, _, rfl⟩ ?_
    have e9 : x.length = x.cps.toList.length := by simp [Str.length]
    rw [e9] at j
    exact j
end Mine
end

section
open PySem PySem.W PyProof.Rows PySem.Calls
namespace Mine
set_option maxRecDepth 100000
set_option maxHeartbeats 8000000
section
variable {prog : Program} {w : World} {A : Around} {env : Env} {h₀ : Heap} {s : Shared} {m₀ : Str → Option Value} {news₀ : List (Addr × Obj)} {Q : Flow → Shared → Prop}
theorem list_turns {x : Str} {px : Pos} {body : List Stmt} {l : Addr} {vs : List Value}
    (hh : A.handled = none)
    (hx : env.kindOf x = some .local) (hp : (env.scope.kind == .class || (env.scope.kind == .module && env.locals != env.globals)) = false)
    (F : Fr h₀ env.locals s.heap m₀) (N : News h₀ env.locals s.heap news₀)
    (J : Nat → (Str → Option Value) → List (Addr × Obj) → Prop) (j0 : J 0 m₀ news₀)
    (hl : h₀.IsList l vs.toArray ∨ ∀ i m nx, J i m nx → ∃ n, (l, listOf vs.toArray n) ∈ nx)
    (turn : ∀ i v m nx it o s₁, vs[i]? = some v → J i m nx → Kin s s₁ → Fr h₀ env.locals s₁.heap (fun y => if y = x then some v else m y) → News h₀ env.locals s₁.heap ((it, o) :: nx) → (∀ p ∈ nx, p.1 ≠ it) →
      wpAny (model prog w) A (execs body env) (TurnPost h₀ env.locals s it o (J (i + 1)) Q) (fun _ _ => False) s₁)
    (done : ∀ m nx s₁, J vs.length m nx → Kin s s₁ → Fr h₀ env.locals s₁.heap m → News h₀ env.locals s₁.heap nx → Q .next s₁) :
    wpAny (model prog w) A (pyIter (.ref l)) (fun it s₂ => codeAny (model prog w) A (.forLoop (.Name x px) it body [] env) (fun r s' => match r with | .ok f => Q f s' | .error e => cameBackBy (model prog w) A env (fun _ _ => False) e s') s₂) (fun _ _ => False) s := by
  have isl : ∀ {i m nx h}, J i m nx → Fr h₀ env.locals h m → News h₀ env.locals h nx → h.IsList l vs.toArray := by
    intro i m nx h j F N
    rcases hl with y | y
    · exact y.at fun o e => F.keep l o e
    · obtain ⟨n, hn⟩ := y i m nx j
      exact ⟨_, (N _ hn).1, rfl, n, rfl⟩
  have hls := isl j0 F N
  refine wpAny_pyIter_list hls ?_
  have hlt : l ≠ s.heap.objs.size := by
    obtain ⟨ol, hol, _⟩ := hls
    exact Nat.ne_of_lt (Heap.lt_size hol)
  refine codeAny_forLoop (fun k s' => ∃ i m nx o, k = vs.length + 1 - i ∧ i ≤ vs.length ∧ Kin s s' ∧ Fr h₀ env.locals s'.heap m ∧ News h₀ env.locals s'.heap ((s.heap.objs.size, o) :: nx) ∧ (∀ p ∈ nx, p.1 ≠ s.heap.objs.size) ∧ J i m nx ∧ s'.heap.IsListIter s.heap.objs.size l i) ?_ (vs.length + 1) ?_
  · rintro k s' ⟨i, m, nx, o, rfl, hi, hk, F', N', hne, j, hit⟩
    have hl' : s'.heap.IsList l vs.toArray := isl j F' fun p hp => N' p (List.mem_cons_of_mem _ hp)
    have hIL : s.heap.objs.size ≠ env.locals := (N' _ (List.mem_cons_self ..)).2.1
    have hI0 : h₀.get? s.heap.objs.size = none := (N' _ (List.mem_cons_self ..)).2.2
    by_cases hlt' : i < vs.length
    · refine wpAny_pyNext_list_item hit hl' (x := vs[i]) (by simp [hlt']) fun h' hit' hs' => ?_
      replace hs' : Heap.SameBut s.heap.objs.size s'.heap h' := hs'
      obtain ⟨o', ho', hoc, hod⟩ := hit'
      have F₁ : Fr h₀ env.locals h' m := ⟨F'.ns.sameBut hs' hIL.symm, fun b q e => (hs'.2 b (fun z => by rw [z, hI0] at e; cases e)).trans (F'.keep b q e), F'.above⟩
      have N₁ : News h₀ env.locals h' ((s.heap.objs.size, o') :: nx) := by
        intro p hp
        rcases List.mem_cons.mp hp with rfl | hp
        · exact ⟨ho', hIL, hI0⟩
        · have y := N' p (List.mem_cons_of_mem _ hp)
          exact ⟨(hs'.2 p.1 (hne p hp)).trans y.1, y.2⟩
      refine wpAny_assign_Name (wpAny_storeName_local hx F₁.ns (fun h₂ hn₂ hs₂ => ?_) hp)
      replace hs₂ : Heap.SameBut env.locals h' h₂ := hs₂
      refine wpAny_mono (turn i vs[i] m nx _ o' _ (by simp [hlt']) j (hk.trans (Kin.heap s' h₂ _)) (F₁.set hn₂ hs₂) (N₁.set hs₂) hne) (fun f s₃ y => ?_) fun _ _ y => y.elim
      have fin : Turn h₀ env.locals s s.heap.objs.size o' (J (i + 1)) s₃ → ∃ k', k' < vs.length + 1 - i ∧ ∃ i m nx o, k' = vs.length + 1 - i ∧ i ≤ vs.length ∧ Kin s s₃ ∧ Fr h₀ env.locals s₃.heap m ∧ News h₀ env.locals s₃.heap ((s.heap.objs.size, o) :: nx) ∧ (∀ p ∈ nx, p.1 ≠ s.heap.objs.size) ∧ J i m nx ∧ s₃.heap.IsListIter s.heap.objs.size l i := by
        rintro ⟨m', nx', k', F₃, N₃, hne', j'⟩
        exact ⟨vs.length + 1 - (i + 1), by omega, i + 1, m', nx', o', rfl, hlt', k', F₃, N₃, hne', j', ⟨o', (N₃ _ (List.mem_cons_self ..)).1, hoc, hod⟩⟩
      cases f with
      | next => exact fin y
      | cont => exact fin y
      | brk => exact y.out
      | ret v => exact y.out
    · have e : i = vs.length := by omega
      subst e
      refine wpAny_pyNext_list_end hh hit hl' (by simp) fun h' he' => wpAny_execs_nil ?_
      replace he' : Heap.ExtBut s.heap.objs.size s'.heap h' := he'
      exact done m nx _ j (hk.trans ⟨rfl, fun _ _ e => e, id⟩) ⟨F'.ns.extBut he' hIL.symm, fun b q e => he' b q (fun z => by rw [z, hI0] at e; cases e) (F'.keep b q e), F'.above⟩
        (fun p hp => ⟨he' p.1 _ (hne p hp) (N' p (List.mem_cons_of_mem _ hp)).1, (N' p (List.mem_cons_of_mem _ hp)).2⟩)
  · refine ⟨0, m₀, news₀, _, rfl, Nat.zero_le _, ⟨rfl, fun _ _ e => e, id⟩, F.push _, News.push F N _, fun p hp => Nat.ne_of_lt (Heap.lt_size (N p hp).1), j0, ⟨_, Heap.get?_push_size _ rfl, rfl, rfl⟩⟩
end
/-- a goal that the walk leaves alone -/
structure Hold (P : Prop) : Prop where
  out : P
def cutL : List Nat → List Nat
  | [] => [0]
  | c :: r => if c = 41 then 0 :: cutL r else match cutL r with | [] => [] | n :: t => (n + 1) :: t
theorem cutL_free : ∀ l : List Nat, 41 ∉ l → cutL l = [l.length]
  | [], _ => rfl
  | c :: r, h => by
    have hc : c ≠ 41 := fun e => h (e ▸ List.mem_cons_self ..)
    rw [cutL, if_neg hc, cutL_free r fun e => h (List.mem_cons_of_mem _ e)]
    rfl
theorem cutL_app : ∀ (l r : List Nat), 41 ∉ l → cutL (l ++ 41 :: r) = l.length :: cutL r
  | [], r, _ => by rw [List.nil_append, cutL, if_pos rfl]; rfl
  | c :: l, r, h => by
    have hc : c ≠ 41 := fun e => h (e ▸ List.mem_cons_self ..)
    rw [List.cons_append, cutL, if_neg hc, cutL_app l r fun e => h (List.mem_cons_of_mem _ e)]
    rfl
theorem cutL_sum : ∀ l : List Nat, (cutL l).sum ≤ l.length ∧ (cutL l).length ≤ l.length + 1
  | [] => by simp [cutL]
  | c :: r => by
    have ⟨h1, h2⟩ := cutL_sum r
    rw [cutL]
    split
    · simp; omega
    · cases hr : cutL r with
      | nil => simp
      | cons n t => rw [hr] at h1 h2; simp at h1 h2 ⊢; omega
theorem split_ne (x y : Str) : Txt.split x y ≠ [] := by
  unfold Txt.split
  split
  · simp
  · split
    · simp
    · rw [StrLaws.partsBetween_eq]
      obtain ⟨p, q, e⟩ := StrLaws.partsFrom_ne x y.length 0 (Builtin.Str.occurrences x y 0 x.length (x.length + 1))
      rw [e]; simp
theorem cut_join : ∀ parts : List Str, parts ≠ [] → (∀ p ∈ parts, 41 ∉ p.cps.toList) → cutL (Str.join ⟨#[41]⟩ parts).cps.toList = parts.map (·.length)
  | [], h, _ => absurd rfl h
  | [p], _, h => by
    show cutL p.cps.toList = _
    rw [cutL_free _ (h p (List.mem_cons_self ..))]
    simp [Str.length]
  | p :: q :: r, _, h => by
    have ih := cut_join (q :: r) (by simp) fun z hz => h z (List.mem_cons_of_mem _ hz)
    show cutL ((p ++ (⟨#[41]⟩ : Str) ++ Str.join ⟨#[41]⟩ (q :: r) : Str)).cps.toList = _
    rw [str_app_list, str_app_list, List.append_assoc]
    show cutL (p.cps.toList ++ 41 :: (Str.join ⟨#[41]⟩ (q :: r)).cps.toList) = _
    rw [cutL_app _ _ (h p (List.mem_cons_self ..)), ih]
    simp [Str.length]
theorem split_cut (x : Str) : (Txt.split x (Str.ofString ")")).map (·.length) = cutL x.cps.toList := by
  show (Txt.split x ⟨#[41]⟩).map (·.length) = _
  rw [← cut_join _ (split_ne x _) (StrLaws.split_free x 41), StrLaws.join_split]
theorem sum_take_le : ∀ (l : List Nat) (i : Nat), (l.take i).sum ≤ l.sum
  | [], i => by simp
  | a :: l, 0 => by simp
  | a :: l, i + 1 => by
    have := sum_take_le l i
    rw [List.take_succ_cons, List.sum_cons, List.sum_cons]; omega
def runI (cnt n : Nat) : List Int := (List.range n).map fun k => ((cnt + (k + 1) : Nat) : Int)
def belowGo : Nat → List Nat → List (List Int)
  | _, [] => []
  | cnt, n :: t => runI cnt n :: belowGo (cnt + n) t
theorem belowGo_snoc : ∀ (l : List Nat) (cnt n : Nat), belowGo cnt (l ++ [n]) = belowGo cnt l ++ [runI (cnt + l.sum) n]
  | [], cnt, n => by simp [belowGo]
  | a :: l, cnt, n => by
    rw [List.cons_append, belowGo, belowGo_snoc l (cnt + a) n, belowGo, List.sum_cons, List.cons_append, Nat.add_assoc]
theorem belowGo_len : ∀ (l : List Nat) (cnt : Nat), (belowGo cnt l).length = l.length
  | [], _ => rfl
  | a :: l, cnt => by rw [belowGo, List.length_cons, belowGo_len l, List.length_cons]
structure BelowAre (us : List Value) (bl : List (List Int)) (dyn : List (Addr × Obj)) : Prop where
  len : us.length = bl.length
  at_ : ∀ (j : Nat) (v : Value), us[j]? = some v → ∃ (a : Addr) (ys : List Value) (b : List Int), v = Value.ref a ∧ (a, lstO ys) ∈ dyn ∧ bl[j]? = some b ∧ IntsAre ys b
theorem BelowAre.snoc {us : List Value} {bl : List (List Int)} {dyn : List (Addr × Obj)} (h : BelowAre us bl dyn) {D : Addr} {ys : List Value} {b : List Int} (hb : IntsAre ys b) : BelowAre (us ++ [.ref D]) (bl ++ [b]) ((D, lstO ys) :: dyn) := by
  refine ⟨by simp [h.len], fun j v hv => ?_⟩
  by_cases hj : j < us.length
  · rw [List.getElem?_append_left hj] at hv
    obtain ⟨a, ys', b', h1, h2, h3, h4⟩ := h.at_ j v hv
    exact ⟨a, ys', b', h1, List.mem_cons_of_mem _ h2, by rw [List.getElem?_append_left (by rw [← h.len]; exact hj)]; exact h3, h4⟩
  · have hj2 : j = us.length := by
      have := (List.getElem?_eq_some_iff.mp hv).1
      simp at this; omega
    subst hj2
    rw [List.getElem?_append_right (Nat.le_refl _), Nat.sub_self] at hv
    have hv2 : Value.ref D = v := Option.some.inj hv
    refine ⟨D, ys, b, hv2.symm, List.mem_cons_self .., ?_, hb⟩
    rw [List.getElem?_append_right (by rw [h.len]; exact Nat.le_refl _), h.len, Nat.sub_self]
    rfl
theorem strs_at {vs : List Value} {rs : List Str} (h : StrsAre vs rs) {i : Nat} {v : Value} (hv : vs[i]? = some v) : ∃ r t, v = .str r t ∧ rs[i]? = some r := by
  induction h generalizing i with
  | nil => cases hv
  | cons y t h ih =>
    cases i with
    | zero => exact ⟨y, t, (Option.some.inj hv).symm, rfl⟩
    | succ i => exact ih hv
theorem runI_succ (cnt n : Nat) : runI cnt (n + 1) = runI cnt n ++ [((cnt + (n + 1) : Nat) : Int)] := by
  unfold runI
  rw [List.range_succ, List.map_append]
  rfl
structure BJ1 (lb c1 c2 lv : Addr) (oc2 : Obj) (vs : List Value) (rs : List Nat) (i : Nat) (m : Str → Option Value) (nx : List (Addr × Obj)) : Prop where
  out : ∃ (us : List Value) (dyn : List (Addr × Obj)) (n : Nat) (o1 : Obj) (tc : Tok), nx = (lb, listOf us.toArray n) :: (c1, o1) :: (c2, oc2) :: (lv, listOf vs.toArray 0) :: dyn ∧ m (Str.ofString "below") = some (.ref lb) ∧
    o1.data = .cell (some (.int ((rs.take i).sum : Nat) tc)) ∧ BelowAre us (belowGo 0 (rs.take i)) dyn ∧ nx.Pairwise (fun p q => p.1 ≠ q.1)
abbrev tupO (a b : Value) : Obj := { cls := .type "tuple", data := .seq #[a, b] }
structure PileAre (us : List Value) (pile : List (Int × Int)) (tn : List (Addr × Obj)) : Prop where
  len : us.length = pile.length
  at_ : ∀ (j : Nat) (v : Value), us[j]? = some v → ∃ (a : Addr) (ta td : Tok) (nd d : Int), v = Value.ref a ∧ (a, tupO (.int nd ta) (.int d td)) ∈ tn ∧ pile[j]? = some (nd, d)
theorem PileAre.snoc {us : List Value} {pile : List (Int × Int)} {tn : List (Addr × Obj)} (h : PileAre us pile tn) (a : Addr) (ta td : Tok) (nd d : Int) : PileAre (us ++ [.ref a]) (pile ++ [(nd, d)]) ((a, tupO (.int nd ta) (.int d td)) :: tn) := by
  refine ⟨by simp [h.len], fun j v hv => ?_⟩
  by_cases hj : j < us.length
  · rw [List.getElem?_append_left hj] at hv
    obtain ⟨a', ta', td', nd', d', h1, h2, h3⟩ := h.at_ j v hv
    exact ⟨a', ta', td', nd', d', h1, List.mem_cons_of_mem _ h2, by rw [List.getElem?_append_left (by rw [← h.len]; exact hj)]; exact h3⟩
  · have hj2 : j = us.length := by
      have := (List.getElem?_eq_some_iff.mp hv).1
      simp at this; omega
    subst hj2
    rw [List.getElem?_append_right (Nat.le_refl _), Nat.sub_self] at hv
    have hv2 : Value.ref a = v := Option.some.inj hv
    refine ⟨a, ta, td, nd, d, hv2.symm, List.mem_cons_self .., ?_⟩
    rw [List.getElem?_append_right (by rw [h.len]; exact Nat.le_refl _), h.len, Nat.sub_self]
    rfl
theorem PileAre.append {us ws : List Value} {p q : List (Int × Int)} {tn tm : List (Addr × Obj)} (h : PileAre us p tn) (k : PileAre ws q tm) : PileAre (us ++ ws) (p ++ q) (tn ++ tm) := by
  refine ⟨by simp [h.len, k.len], fun j v hv => ?_⟩
  by_cases hj : j < us.length
  · rw [List.getElem?_append_left hj] at hv
    obtain ⟨a', ta', td', nd', d', h1, h2, h3⟩ := h.at_ j v hv
    exact ⟨a', ta', td', nd', d', h1, List.mem_append_left _ h2, by rw [List.getElem?_append_left (by rw [← h.len]; exact hj)]; exact h3⟩
  · rw [List.getElem?_append_right (by omega)] at hv
    obtain ⟨a', ta', td', nd', d', h1, h2, h3⟩ := k.at_ _ v hv
    refine ⟨a', ta', td', nd', d', h1, List.mem_append_right _ h2, ?_⟩
    rw [List.getElem?_append_right (by rw [← h.len]; omega), ← h.len]
    exact h3
theorem PileAre.left {us : List Value} {v : Value} {p : List (Int × Int)} {x : Int × Int} {tn : List (Addr × Obj)} (h : PileAre (us ++ [v]) (p ++ [x]) tn) : PileAre us p tn := by
  have hl : us.length = p.length := by have := h.len; simp at this; exact this
  refine ⟨hl, fun j w hw => ?_⟩
  have hj : j < us.length := (List.getElem?_eq_some_iff.mp hw).1
  obtain ⟨a, ta, td, nd, d, h1, h2, h3⟩ := h.at_ j w (by rw [List.getElem?_append_left hj]; exact hw)
  exact ⟨a, ta, td, nd, d, h1, h2, by rw [List.getElem?_append_left (by omega)] at h3; exact h3⟩
theorem pile_last {up0 : List Value} {v : Value} {pile : List (Int × Int)} {tn : List (Addr × Obj)} {nd d : Int} (h : PileAre (up0 ++ [v]) pile tn) (hp : pile[up0.length]? = some (nd, d)) : ∃ pile0, pile = pile0 ++ [(nd, d)] := by
  have hl : up0.length + 1 = pile.length := by have := h.len; rw [List.length_append] at this; exact this
  refine ⟨pile.take up0.length, ?_⟩
  have e1 : pile.take (up0.length + 1) = pile := List.take_of_length_le (by omega)
  rw [← e1, List.take_add_one, hp, List.take_append_of_le_length (by rw [List.length_take]; omega), List.take_take, Nat.min_self]
  rfl
def backGo (BL : List (List Int)) : Nat → List (Int × Int) → Option (List Int)
  | k, pile => match pile.getLast? with
    | none => some []
    | some (nd, d) => match k with
      | 0 => none
      | k + 1 => if nd < 0 then none else match BL[nd.toNat]? with
        | none => none
        | some ch => (backGo BL k (pile.dropLast ++ ch.reverse.map fun o => (o, d + 1))).map (d :: ·)
def backF (l : List Nat) : Option (List Int) := backGo (belowGo 0 (cutL l)) 12 (((belowGo 0 (cutL l)).headD []).reverse.map fun o => (o, 0))
theorem backGo_nil {BL : List (List Int)} {k : Nat} {rest : List Int} (h : backGo BL k [] = some rest) : rest = [] := by
  unfold backGo at h
  simpa using h.symm
theorem backGo_snoc {BL : List (List Int)} {k : Nat} {p : List (Int × Int)} {nd d : Int} {rest : List Int} (h : backGo BL k (p ++ [(nd, d)]) = some rest) :
    ∃ k' ch r, k = k' + 1 ∧ 0 ≤ nd ∧ BL[nd.toNat]? = some ch ∧ backGo BL k' (p ++ ch.reverse.map fun o => (o, d + 1)) = some r ∧ rest = d :: r := by
  unfold backGo at h
  rw [List.getLast?_append, List.getLast?_singleton] at h
  simp only [Option.some_or] at h
  cases k with
  | zero => simp at h
  | succ k =>
    simp only at h
    by_cases hn : nd < 0
    · rw [if_pos hn] at h; cases h
    · rw [if_neg hn] at h
      cases hb : BL[nd.toNat]? with
      | none => rw [hb] at h; cases h
      | some ch =>
        rw [hb] at h
        simp only [List.dropLast_concat] at h
        obtain ⟨r, hr, e⟩ := Option.map_eq_some_iff.mp h
        exact ⟨k, ch, r, rfl, by omega, rfl, hr, e.symm⟩
section
variable {prog : Program} {w : World} {A : Around} {E : Value → Shared → Prop} {s : Shared}
theorem item_any {value slice : Expr} {l : Addr} {items : Array Value} {i : Int} {u : Tok} {v : Value} {Q : Value → Shared → Prop} (hl : s.heap.IsList l items) (h0 : 0 ≤ i) (hfit : i < 2 ^ 63) (hx : items[i.toNat]? = some v) (h : Q v s)
    (hs : subscripted slice false (.ref l) (.int i u) = operate [.ref l, .int i u] (getItem (.ref l) (.int i u)) := by with_unfolding_all rfl) :
    wpAny (model prog w) A (subscriptTail value slice (.ref l) (.int i u)) Q E s := tail_any hl.typeIs slot_list_getitem.lookup (wpAny_getItem_list hl h0 hfit hx h) hs
theorem ne_longer {a b : Addr} {xs : List Value} {Q : Value → Shared → Prop} (ha : s.heap.IsList a xs.toArray) (hb : s.heap.IsList b #[]) (hne : xs ≠ []) (hu : A.units < cLine) (h : Q (.bool true) s) :
    wpAny (model prog w) A (compareOp .NotEq (.ref a) (.ref b)) Q E s :=
  cmp_ofNotEq (SeqAt.RcNeAt.lists_lengths ha hb (by cases xs with | nil => exact absurd rfl hne | cons v r => simp) hu _ _ _ _ h)
end
theorem belowGo_ent : ∀ (l : List Nat) (cnt j : Nat) (b : List Int), (belowGo cnt l)[j]? = some b → b.length ≤ l.sum
  | [], _, _, _, h => by simp [belowGo] at h
  | a :: l, cnt, 0, b, h => by
    have : runI cnt a = b := Option.some.inj h
    rw [← this]; simp [runI]
  | a :: l, cnt, j + 1, b, h => by
    have := belowGo_ent l (cnt + a) j b h
    rw [List.sum_cons]; omega
structure KJ (BL : List (List Int)) (Dd : List Int) (lb c1 c2 ld : Addr) (us : List Value) (nb : Nat) (o1 : Obj) (dyn : List (Addr × Obj)) (k : Nat) (m : Str → Option Value) (nx : List (Addr × Obj)) : Prop where
  out : ∃ (lp : Addr) (up ud : List Value) (np nd : Nat) (pile : List (Int × Int)) (tnp : List (Addr × Obj)) (dl rest : List Int) (o2 : Obj) (cv : Option Value),
    (m (Str.ofString "pile") = some (.ref lp) ∧ m (Str.ofString "depths") = some (.ref ld) ∧ m (Str.ofString "below") = some (.ref lb)) ∧
    nx = (ld, listOf ud.toArray nd) :: (lp, listOf up.toArray np) :: (lb, listOf us.toArray nb) :: (c1, o1) :: (c2, o2) :: (tnp ++ dyn) ∧ IntsAre ud dl ∧ PileAre up pile tnp ∧ o2.data = .cell cv ∧
    backGo BL k pile = some rest ∧ dl ++ rest = Dd ∧ (up.length + 100 * k ≤ 1300 ∧ ud.length + k ≤ 12) ∧
    ((@Ne Nat lp ld ∧ @Ne Nat lp lb ∧ @Ne Nat lp c1 ∧ @Ne Nat lp c2) ∧ (∀ p ∈ tnp ++ dyn, p.1 ≠ lp) ∧ (∀ p ∈ tnp ++ dyn, p.1 ≠ ld) ∧ (∀ p ∈ tnp ++ dyn, p.1 ≠ c2))
end Mine
end

section
open PySem PySem.W PyProof.Rows PySem.Calls
open Sem (wp)
namespace Mine
set_option maxRecDepth 100000
set_option maxHeartbeats 1000000
/-- an iterator, as a comprehension sees it -/
structure Src (prog : Program) (w : World) (A : Around) (h₀ : Heap) (L : Addr) (I : Addr) (news : List (Addr × Obj)) (n : Nat) (P : Nat → Value → Prop) (St : Nat → Heap → Prop) : Prop where
  item : ∀ i (s : Shared) (Q : Option Value → Shared → Prop) (E : Value → Shared → Prop), i < n → St i s.heap → (∀ b o, h₀.get? b = some o → s.heap.get? b = some o) → News h₀ L s.heap news →
    (∀ v h' tk, P i v → St (i + 1) h' → Heap.SameBut I s.heap h' → Q (some v) { s with heap := h', toks := tk }) → wpAny (model prog w) A (pyNext (.ref I)) Q E s
  done : ∀ (s : Shared) (Q : Option Value → Shared → Prop) (E : Value → Shared → Prop), St n s.heap → (∀ b o, h₀.get? b = some o → s.heap.get? b = some o) → News h₀ L s.heap news →
    (∀ h', Heap.ExtBut I s.heap h' → Q none { s with heap := h' }) → wpAny (model prog w) A (pyNext (.ref I)) Q E s
  frame : ∀ i (h g : Heap) oI, St i h → h.get? I = some oI → g.get? I = some oI → St i g
  there : ∀ i h, St i h → ∃ oI, h.get? I = some oI
  self : ∀ (s : Shared) (Q : Value → Shared → Prop) (E : Value → Shared → Prop), St 0 s.heap → Q (.ref I) s → wpAny (model prog w) A (pyIter (.ref I)) Q E s
/-- an element's end -/
structure ETurn (h₀ : Heap) (L : Addr) (m : Str → Option Value) (s : Shared) (I C D : Addr) (oI oC oD : Obj) (news : List (Addr × Obj)) (J : List (Addr × Obj) → Prop) (s₃ : Shared) : Prop where
  out : ∃ tn', CTurn h₀ L m s ((I, oI) :: (C, oC) :: (D, oD) :: (tn' ++ news)) (J tn') s₃ ∧ ∀ p ∈ tn', p.1 ≠ I ∧ p.1 ≠ C ∧ p.1 ≠ D
section
variable {prog : Program} {w : World} {A : Around} {env : Env} {h₀ : Heap} {s : Shared} {L : Addr} {m : Str → Option Value} {news : List (Addr × Obj)}
theorem comp_core {elt iter : Expr} {x : Str} {px pos : Pos} {scope : Scope} {cl : List (Str × Addr)} {n : Nat} {I : Addr} {P : Nat → Value → Prop} {St : Nat → Heap → Prop} {RR : Value → Addr → Result → Shared → Prop} (hns : n ≤ sizeLine)
    (S : Src prog w A h₀ L I news n P St)
    (hcell : ∀ y ∈ scope.names, y.2 ≠ .cell) (hkind : scope.kind = .function) (hx : scope.names.lookup x = some .local)
    (F : Fr h₀ L s.heap m) (N : News h₀ L s.heap news) (hst : St 0 s.heap) (hIL : @Ne Nat I L) (hI0 : h₀.get? I = none) (hIn : ∀ p ∈ news, @Ne Nat p.1 I)
    (J : Nat → List Value → List (Addr × Obj) → Prop) (j0 : J 0 [] [])
    (turn : ∀ (i : Nat) (v : Value) (ys : List Value) (tn : List (Addr × Obj)) (C D : Addr) (oI oC : Obj) (m₂ : Str → Option Value) (s₁ : Shared), i < n → P i v → J i ys tn → LCg.NsObj oC m₂ → m₂ x = some v → Kin s s₁ →
      Fr h₀ L s₁.heap m → News h₀ L s₁.heap ((I, oI) :: (C, oC) :: (D, lstO ys) :: (tn ++ news)) → ((@Ne Nat I C) ∧ (@Ne Nat I D) ∧ (@Ne Nat C D)) → (∀ p ∈ tn ++ news, p.1 ≠ I ∧ p.1 ≠ C ∧ p.1 ≠ D) →
      wpAny (model prog w) A (eval elt (compEnvC scope cl C env)) (fun y s₃ => ETurn h₀ L m s I C D oI oC (lstO ys) news (J (i + 1) (ys ++ [y])) s₃) (fun _ _ => False) s₁)
    (hJl : ∀ i ys tn, J i ys tn → ys.length ≤ i)
    (done : ∀ (C D : Addr) (ys : List Value) (tn : List (Addr × Obj)) (m' : Str → Option Value) (s₁ : Shared), J n ys tn → Kin s s₁ → Fr h₀ L s₁.heap m → News h₀ L s₁.heap ((D, lstO ys) :: (tn ++ news)) → (∀ p ∈ tn ++ news, p.1 ≠ D) → s₁.heap.Ns C m' →
      (@Ne Nat C L ∧ @Ne Nat C D ∧ h₀.get? C = none ∧ ∀ p ∈ tn ++ news, p.1 ≠ C) → RR (.ref D) C (.ok .next) s₁) :
    wpAny (model prog w) A (newList []) (fun acc s₃ => wpAny (model prog w) A (newFunctionEnv scope env.globals cl [] env.qual none .none (some env)) (fun cenv s₄ =>
      codeAny (model prog w) A (.compStart (.ListComp elt [⟨.Name x px, iter, [], 0⟩] scope pos) 0 (.ref I) acc { cenv with scope := relabel scope env }) (RR acc cenv.locals) s₄) (fun _ _ => False) s₃) (fun _ _ => False) s := by
  have hLs : @LT.lt Nat _ L s.heap.objs.size := F.ns.lt
  have hab : @LE.le Nat _ h₀.objs.size L := F.above
  have hnb : ∀ p ∈ news, @LT.lt Nat _ p.1 s.heap.objs.size := fun p hp => Heap.lt_size (N p hp).1
  refine wpAny_newObj_type (wpAny_newFunctionEnv hcell (by intro y hy; simp at hy) (fun h₁ hns₁ hsb₁ => ?_) hkind)
  dsimp only at hns₁ hsb₁ ⊢
  obtain ⟨oI0, hoI0⟩ := S.there 0 _ hst
  have hIlt : @LT.lt Nat _ I s.heap.objs.size := Heap.lt_size hoI0
  generalize hH1 : s.heap = H1 at *
  generalize hD : H1.objs.size = D at *
  generalize hH2 : H1.push { cls := .type "list", dict := none, data := .seq ([] : List Value).toArray } = H2 at *
  have hz2 : H2.objs.size = D + 1 := by rw [← hH2, Heap.size_push, hD]
  have hg2 : H2.get? D = some (lstO []) := by rw [← hH2, ← hD]; exact Heap.get?_push_size _ rfl
  have hk2 : ∀ b o, H1.get? b = some o → H2.get? b = some o := fun b o q => by rw [← hH2]; exact Heap.get?_push_of_some _ q
  generalize hC : H2.objs.size = C at *
  have hne : (@Ne Nat I C) ∧ (@Ne Nat I D) ∧ (@Ne Nat C D) := ⟨by omega, by omega, by omega⟩
  have hD0 : h₀.get? D = none := Heap.get?_none_of_le (show @LE.le Nat _ _ _ by omega)
  have hC0 : h₀.get? C = none := Heap.get?_none_of_le (show @LE.le Nat _ _ _ by omega)
  have hDL : @Ne Nat D L := by omega
  have hCL : @Ne Nat C L := by omega
  have hk3 : ∀ b o, b ≠ C → H2.get? b = some o → h₁.get? b = some o := fun b o hb' q => hsb₁.extBut b o hb' (Heap.get?_push_of_some _ q)
  have hoff : ∀ p ∈ news, p.1 ≠ I ∧ p.1 ≠ C ∧ p.1 ≠ D := fun p hp => by
    have h5 := hnb p hp
    exact ⟨hIn p hp, show @Ne Nat _ _ by omega, show @Ne Nat _ _ by omega⟩
  have hold : ∀ b o, H1.get? b = some o → h₁.get? b = some o := fun b o q => by
    have h6 := Heap.lt_size q
    rw [hD] at h6
    have h7 : @LT.lt Nat _ b D := h6
    exact hk3 b o (show @Ne Nat _ _ by omega) (hk2 b o q)
  have loop : ∀ s₃ : Shared, s₃.heap = h₁ → Kin s s₃ →
      codeAny (model prog w) A (.compLoop (.ListComp elt [⟨.Name x px, iter, [], 0⟩] scope pos) 0 (.ref I) (.ref D) (compEnvC scope cl C env))
        (RR (.ref D) C) s₃ := by
    rintro s₃ rfl hkin
    refine codeAny_compLoop_tests (fun k s' => ∃ i ys tn m', k = n + 1 - i ∧ i ≤ n ∧ J i ys tn ∧ Kin s s' ∧ Fr h₀ L s'.heap m ∧ s'.heap.Ns C m' ∧ News h₀ L s'.heap ((D, lstO ys) :: (tn ++ news)) ∧ (∀ p ∈ tn, p.1 ≠ I ∧ p.1 ≠ C ∧ p.1 ≠ D) ∧ St i s'.heap) ?_ (n + 1)
      ⟨0, [], [], _, rfl, Nat.zero_le _, j0, hkin, F.keeps hold, hns₁, fun p hp => ?_, by simp, ?_⟩
    · rintro k s' ⟨i, ys, tn, m', rfl, hi, j, hk, F', hn', N', htn, hit⟩
      have hoff2 : ∀ p ∈ tn ++ news, p.1 ≠ I ∧ p.1 ≠ C ∧ p.1 ≠ D := fun p hp => by
        rcases List.mem_append.mp hp with hp | hp
        · exact htn p hp
        · exact hoff p hp
      have Nn : News h₀ L s'.heap news := fun p hp => N' p (List.mem_cons_of_mem _ (List.mem_append_right _ hp))
      by_cases hlt : i < n
      · refine S.item i s' _ _ hlt hit F'.keep Nn fun v h₂ tk₂ hPv hit₂ hs₂ => ?_
        obtain ⟨oI, hoI⟩ := S.there _ _ hit₂
        have hoR : ∀ g : Heap, g.get? I = some oI → St (i + 1) g := fun g q => S.frame _ _ _ oI hit₂ hoI q
        refine wpAny_assign_Name (wpAny_storeName_local (lookup_relabel_local hx) (hn'.sameBut hs₂ hne.1.symm) (fun h₃ hn₃ hs₃ => ?_) (by simp [compEnvC, relabel, hkind]))
        replace hs₃ : Heap.SameBut C h₂ h₃ := hs₃
        obtain ⟨oC, heC, hoC⟩ := LCg.ns_obj hn₃
        have F₃ : Fr h₀ L h₃ m := (F'.change hs₂ hIL hI0).change hs₃ hCL hC0
        have N₃ : News h₀ L h₃ ((I, oI) :: (C, oC) :: (D, lstO ys) :: (tn ++ news)) := fun p hp => by
          rcases List.mem_cons.mp hp with rfl | hp
          · exact ⟨(hs₃.2 _ hne.1).trans hoI, hIL, hI0⟩
          · rcases List.mem_cons.mp hp with rfl | hp
            · exact ⟨heC, hCL, hC0⟩
            · have hpn : p.1 ≠ I ∧ p.1 ≠ C := by
                rcases List.mem_cons.mp hp with rfl | hp
                · exact ⟨hne.2.1.symm, hne.2.2.symm⟩
                · exact ⟨(hoff2 p hp).1, (hoff2 p hp).2.1⟩
              exact ⟨(hs₃.2 _ hpn.2).trans ((hs₂.2 _ hpn.1).trans (N' p hp).1), (N' p hp).2⟩
        refine wpAny_tests_nil ?_
        rw [if_pos rfl]
        refine wpAny_mono (turn i v ys tn C D oI oC _ { s' with heap := h₃, toks := tk₂ + 1 } hlt hPv j hoC (by simp) (hk.trans (Kin.heap s' h₃ _)) F₃ N₃ hne hoff2) (fun y s₄ zt => ?_) fun _ _ y => y.elim
        obtain ⟨tn', z, htn'⟩ := zt.out
        have zI := (z.news _ (List.mem_cons_self ..)).1
        have zC := (z.news _ (List.mem_cons_of_mem _ (List.mem_cons_self ..))).1
        have zD := (z.news _ (List.mem_cons_of_mem _ (List.mem_cons_of_mem _ (List.mem_cons_self ..)))).1
        refine append_at zD (fun h₅ hs₅ hD₅ => ?_) (by rw [List.size_toArray]; have := hJl _ _ _ j; omega)
        replace hs₅ : Heap.SameBut D s₄.heap h₅ := hs₅
        refine ⟨n + 1 - (i + 1), by omega, i + 1, ys ++ [y], tn', _, rfl, hlt, z.j, z.kin.trans (Kin.heap s₄ h₅ _), z.fr.change hs₅ hDL hD0, (hoC.ns zC).sameBut hs₅ hne.2.2, fun p hp => ?_, htn', hoR _ ((hs₅.2 _ hne.2.1).trans zI)⟩
        rcases List.mem_cons.mp hp with rfl | hp
        · refine ⟨hD₅.trans (congrArg some ?_), hDL, hD0⟩
          unfold lstO
          rw [List.push_toArray, List.length_append]
          rfl
        · have hpD : p.1 ≠ D := by
            rcases List.mem_append.mp hp with hp | hp
            · exact (htn' p hp).2.2
            · exact (hoff p hp).2.2
          exact ⟨(hs₅.2 _ hpD).trans (z.news p (List.mem_cons_of_mem _ (List.mem_cons_of_mem _ (List.mem_cons_of_mem _ hp)))).1, (z.news p (List.mem_cons_of_mem _ (List.mem_cons_of_mem _ (List.mem_cons_of_mem _ hp)))).2⟩
      · have e : i = n := by omega
        subst e
        refine S.done s' _ _ hit F'.keep Nn fun h₂ he₂ => ?_
        refine done C D ys tn m' _ j (hk.trans (Kin.heap s' h₂ _)) ⟨F'.ns.extBut he₂ hIL.symm, fun b q e => he₂ b q (fun z => by rw [z, hI0] at e; cases e) (F'.keep b q e), F'.above⟩ (fun p hp => ?_) (fun p hp => (hoff2 p hp).2.2) (hn'.extBut he₂ hne.1.symm)
          ⟨hCL, hne.2.2, hC0, fun p hp => (hoff2 p hp).2.1⟩
        have hpn : p.1 ≠ I := by
          rcases List.mem_cons.mp hp with rfl | hp
          · exact hne.2.1.symm
          · exact (hoff2 p hp).1
        exact ⟨he₂ _ _ hpn (N' p hp).1, (N' p hp).2⟩
    · rcases List.mem_cons.mp hp with rfl | hp
      · exact ⟨hk3 _ _ hne.2.2.symm hg2, hDL, hD0⟩
      · have hp' : p ∈ news := by simpa using hp
        exact ⟨hold _ _ (N p hp').1, (N p hp').2⟩
    · exact S.frame _ _ _ oI0 hst hoI0 (hold _ _ hoI0)
  exact codeAny_compStart_list (loop _ rfl ⟨rfl, fun _ _ e => e, id⟩) (S.self _ _ _ (S.frame _ _ _ oI0 hst hoI0 (hold _ _ hoI0)) (loop _ rfl ⟨rfl, fun _ _ e => e, id⟩))
end
end Mine
end

section
open PySem PySem.W PyProof.Rows PySem.Calls
open Sem (wp)
namespace Mine
set_option maxRecDepth 100000
set_option maxHeartbeats 1000000
/-- a list, and what a comprehension over it makes -/
structure CList (prog : Program) (w : World) (A : Around) (env : Env) (elt : Expr) (x : Str) (scope : Scope) (cl : List (Str × Addr)) (h₀ : Heap) (L : Addr) (m : Str → Option Value) (Fin : Addr → List Value → List (Addr × Obj) → Shared → Prop) (xv : Value) (s : Shared) : Prop where
  out : ∃ (l : Addr) (vs : List Value) (k : Nat) (news : List (Addr × Obj)) (J : Nat → List Value → List (Addr × Obj) → Prop), xv = .ref l ∧ vs.length ≤ sizeLine ∧ Fr h₀ L s.heap m ∧ News h₀ L s.heap news ∧ (l, listOf vs.toArray k) ∈ news ∧ J 0 [] [] ∧
    (∀ (i : Nat) (v : Value) (ys : List Value) (tn : List (Addr × Obj)) (I C D : Addr) (oI oC : Obj) (m₂ : Str → Option Value) (s₁ : Shared), i < vs.length → vs[i]? = some v → J i ys tn → LCg.NsObj oC m₂ → m₂ x = some v → Kin s s₁ →
      Fr h₀ L s₁.heap m → News h₀ L s₁.heap ((I, oI) :: (C, oC) :: (D, lstO ys) :: (tn ++ news)) → ((@Ne Nat I C) ∧ (@Ne Nat I D) ∧ (@Ne Nat C D)) → (∀ p ∈ tn ++ news, p.1 ≠ I ∧ p.1 ≠ C ∧ p.1 ≠ D) →
      wpAny (model prog w) A (eval elt (compEnvC scope cl C env)) (fun y s₃ => ETurn h₀ L m s I C D oI oC (lstO ys) news (J (i + 1) (ys ++ [y])) s₃) (fun _ _ => False) s₁) ∧
    (∀ i ys tn, J i ys tn → ys.length ≤ i) ∧
    (∀ (D : Addr) (ys : List Value) (tn : List (Addr × Obj)) (s₁ : Shared), J vs.length ys tn → Kin s s₁ → (∀ p ∈ tn ++ news, p.1 ≠ D) → News h₀ L s₁.heap ((D, lstO ys) :: (tn ++ news)) → Fin D ys (tn ++ news) s₁)
section
variable {prog : Program} {w : World} {A : Around} {env : Env} {h₀ : Heap} {s : Shared} {L : Addr} {m : Str → Option Value} {news : List (Addr × Obj)}
theorem src_list {I l : Addr} {vs : List Value} {k : Nat} (hh : A.handled = none) (hm : (l, listOf vs.toArray k) ∈ news) (hne : @Ne Nat l I) : Src prog w A h₀ L I news vs.length (fun i v => vs[i]? = some v) (fun i h => h.IsListIter I l i) where
  item := fun i s Q E hi hst _ N hQ => by
    refine wpAny_pyNext_list_item hst ⟨_, (N _ hm).1, rfl, k, rfl⟩ (x := vs[i]) (by simp [hi]) fun h' hit' hs' => hQ _ h' s.toks (by simp [hi]) hit' hs'
  done := fun s Q E hst _ N hQ => wpAny_pyNext_list_end hh hst ⟨_, (N _ hm).1, rfl, k, rfl⟩ (by simp) fun h' he' => hQ h' he'
  frame := fun i h g oI hst h1 h2 => by
    obtain ⟨o, ho, r⟩ := hst
    rw [h1] at ho
    obtain rfl := Option.some.inj ho
    exact ⟨_, h2, r⟩
  there := fun i h hst => let ⟨o, ho, _⟩ := hst; ⟨o, ho⟩
  self := fun s Q E hst hQ => wpAny_pyIter_listiter hst hQ
theorem comp_block {elt iter : Expr} {x : Str} {px pos : Pos} {scope : Scope} {cl : List (Str × Addr)} {RR : Value → Addr → Result → Shared → Prop} {Fin : Addr → List Value → List (Addr × Obj) → Shared → Prop} {xv : Value} (hh : A.handled = none)
    (hcell : ∀ y ∈ scope.names, y.2 ≠ .cell) (hkind : scope.kind = .function) (hx : scope.names.lookup x = some .local)
    (c : CList prog w A env elt x scope cl h₀ L m Fin xv s)
    (done : ∀ (C D : Addr) (ys : List Value) (nx : List (Addr × Obj)) (m' : Str → Option Value) (s₁ : Shared), Kin s s₁ → Fr h₀ L s₁.heap m → News h₀ L s₁.heap ((D, lstO ys) :: nx) → (∀ p ∈ nx, p.1 ≠ D) → s₁.heap.Ns C m' →
      (@Ne Nat C L ∧ @Ne Nat C D ∧ h₀.get? C = none ∧ ∀ p ∈ nx, p.1 ≠ C) → (∀ s₂, Kin s s₂ → News h₀ L s₂.heap ((D, lstO ys) :: nx) → Fin D ys nx s₂) → RR (.ref D) C (.ok .next) s₁) :
    wpAny (model prog w) A (pyIter xv) (fun it s₂ => wpAny (model prog w) A (newList []) (fun acc s₃ => wpAny (model prog w) A (newFunctionEnv scope env.globals cl [] env.qual none .none (some env)) (fun cenv s₄ =>
      codeAny (model prog w) A (.compStart (.ListComp elt [⟨.Name x px, iter, [], 0⟩] scope pos) 0 it acc { cenv with scope := relabel scope env }) (RR acc cenv.locals) s₄) (fun _ _ => False) s₃) (fun _ _ => False) s₂) (fun _ _ => False) s := by
  obtain ⟨l, vs, k, news, J, rfl, hsz, F, N, hm, j0, turn, hJl, fin⟩ := c
  have hls : s.heap.IsList l vs.toArray := ⟨_, (N _ hm).1, rfl, k, rfl⟩
  have hll : @LT.lt Nat _ l s.heap.objs.size := Heap.lt_size (N _ hm).1
  have hLs : @LT.lt Nat _ L s.heap.objs.size := F.ns.lt
  have hab : @LE.le Nat _ h₀.objs.size L := F.above
  refine wpAny_pyIter_list hls ?_
  refine comp_core (news := news) hsz (src_list hh hm (show @Ne Nat l s.heap.objs.size by omega)) hcell hkind hx (F.push _) (fun p hp => ⟨Heap.get?_push_of_some _ (N p hp).1, (N p hp).2⟩) ⟨_, Heap.get?_push_size _ rfl, rfl, rfl⟩ (by omega) (Heap.get?_none_of_le (show @LE.le Nat _ _ _ by omega))
    (fun p hp => Nat.ne_of_lt (Heap.lt_size (N p hp).1)) J j0 (fun i v ys tn C D oI oC m₂ s₁ hi hv hJ hoC hmx hk F1 N1 hne hoff => ?_) hJl (fun C D ys tn m' s₁ j hk F1 N1 hoff hns hC => ?_)
  · exact turn i v ys tn _ C D oI oC m₂ s₁ hi hv hJ hoC hmx ⟨hk.os, hk.gens, hk.bare⟩ F1 N1 hne hoff |> fun z => wpAny_mono z (fun y s₃ ⟨tn', z1, z2⟩ => ⟨⟨tn', ⟨⟨z1.kin.os, z1.kin.gens, z1.kin.bare⟩, z1.fr, z1.news, z1.j⟩, z2⟩⟩) fun _ _ e => e
  · exact done C D ys (tn ++ news) m' s₁ ⟨hk.os, hk.gens, hk.bare⟩ F1 N1 hoff hns hC fun s₂ hk2 N2 => fin D ys tn s₂ j hk2 hoff N2
theorem comp_list {elt iter : Expr} {x : Str} {px pos : Pos} {scope : Scope} {cl : List (Str × Addr)} {Q : Value → Shared → Prop} (hh : A.handled = none)
    (hclos : closureFor scope env = pure cl) (hcell : ∀ y ∈ scope.names, y.2 ≠ .cell) (hkind : scope.kind = .function)
    (hnames : ∀ y ∈ scope.names, y.2 = .local → scope.names.lookup y.1 = some .local) (hx : scope.names.lookup x = some .local) (hs : ∀ x, foldedSetIterable iter env x = pure x)
    (h : wpAny (model prog w) A (eval iter env) (fun xv s₁ => CList prog w A env elt x scope cl h₀ L m (fun D ys nx s₂ => Fr h₀ L s₂.heap m → Q (.ref D) s₂) xv s₁) (fun _ _ => False) s) :
    wpAny (model prog w) A (eval (.ListComp elt [⟨.Name x px, iter, [], 0⟩] scope pos) env) Q (fun _ _ => False) s := by
  rw [eval_ListComp]
  refine wpAny_comprehension_free (use := none) rfl hs hclos hkind hnames (wpAny_mono h (fun xv s₁ c => ?_) fun _ _ e => e)
  refine comp_block hh hcell hkind hx c fun C D ys nx m' s₂ hk F1 N1 hoff hns hC fin => ⟨m', hns, fun h₃ hs₃ => ?_⟩
  refine fin _ (hk.trans (Kin.heap s₂ h₃ _)) (fun p hp => ?_) (F1.change hs₃ hC.1 hC.2.2.1)
  have hpC : p.1 ≠ C := by
    rcases List.mem_cons.mp hp with rfl | hp
    · exact hC.2.1.symm
    · exact hC.2.2.2 p hp
  exact ⟨(hs₃.2 _ hpC).trans (N1 p hp).1, (N1 p hp).2⟩
theorem comp_list_assign {elt iter : Expr} {x y : Str} {px py pos spos : Pos} {scope : Scope} {cl : List (Str × Addr)} {Q : Flow → Shared → Prop} (hh : A.handled = none) (hLe : env.locals = L)
    (hsw : swapsWith (.ListComp elt [⟨.Name x px, iter, [], 0⟩] scope pos) (some (.Name y py)) spos.line env = pure true)
    (hclos : closureFor scope env = pure cl) (hcell : ∀ y ∈ scope.names, y.2 ≠ .cell) (hkind : scope.kind = .function)
    (hnames : ∀ y ∈ scope.names, y.2 = .local → scope.names.lookup y.1 = some .local) (hx : scope.names.lookup x = some .local) (hs : ∀ x, foldedSetIterable iter env x = pure x)
    (hy : env.kindOf y = some .local) (hp : (env.scope.kind == .class || (env.scope.kind == .module && env.locals != env.globals)) = false)
    (h : wpAny (model prog w) A (eval iter env) (fun xv s₁ => CList prog w A env elt x scope cl h₀ L m (fun D ys nx s₂ => Fr h₀ L s₂.heap (fun z => if z = y then some (.ref D) else m z) → Q .next s₂) xv s₁) (fun _ _ => False) s) :
    wpAny (model prog w) A (exec (.Assign [.Name y py] (.ListComp elt [⟨.Name x px, iter, [], 0⟩] scope pos) spos) env) Q (fun _ _ => False) s := by
  subst hLe
  rw [exec_Assign_Name_used _ _ _ _ hsw]
  refine wpAny_bind (wpAny_standAt (wpAny_bind ?_))
  show wpAny _ A (do let _ ← comprehension (.ListComp elt [⟨.Name x px, iter, [], 0⟩] scope pos) scope env _ (newList []) false (eval iter env) (some (assign (.Name y py) env))) _ _ s
  refine wpAny_bind (wpAny_mono (wpAny_comprehension_free (use := some (assign (.Name y py) env)) (Q := fun _ s' => Q .next s') rfl hs hclos hkind hnames
    (wpAny_mono h (fun xv s₁ c => ?_) fun _ _ e => e)) (fun _ s' hq => wpAny_pure (wpAny_pure hq)) fun _ _ e => e)
  refine comp_block hh hcell hkind hx c fun C D ys nx m' s₂ hk F1 N1 hoff hns hC fin => ?_
  show wpAny _ A (assign (.Name y py) env (.ref D)) _ _ _
  refine wpAny_assign_Name (wpAny_storeName_local hy F1.ns (fun h₂ hn₂ hs₂ => ?_) hp)
  replace hs₂ : Heap.SameBut env.locals s₂.heap h₂ := hs₂
  have F₂ := F1.set hn₂ hs₂
  refine ⟨m', hns.sameBut hs₂ hC.1, fun h₃ hs₃ => ?_⟩
  refine fin _ (hk.trans ⟨rfl, fun _ _ e => e, id⟩) (fun p hp => ?_) (F₂.change hs₃ hC.1 hC.2.2.1)
  have hpC : p.1 ≠ C := by
    rcases List.mem_cons.mp hp with rfl | hp
    · exact hC.2.1.symm
    · exact hC.2.2.2 p hp
  exact ⟨(hs₃.2 _ hpC).trans ((hs₂.2 _ (N1 p hp).2.1).trans (N1 p hp).1), (N1 p hp).2⟩
end
end Mine
end

section
open PySem PySem.W PyProof.Rows PySem.Calls
namespace Mine
set_option maxRecDepth 100000
set_option maxHeartbeats 8000000
theorem news_dup {h₀ h : Heap} {L : Addr} {nx : List (Addr × Obj)} {q : Addr × Obj} (N : News h₀ L h nx) (hq : q ∈ nx) : News h₀ L h (q :: nx) := fun p hp => by
  rcases List.mem_cons.mp hp with rfl | hp
  · exact N _ hq
  · exact N p hp
theorem news_tok {h₀ h : Heap} {L T : Addr} {nd d : Int} {tnd t : Tok} {rest : List (Addr × Obj)} (_ : News h₀ L h ((T, tupO (.int nd tnd) (.int d t)) :: rest)) : ∃ tq, t = tq := ⟨t, rfl⟩
section
local macro_rules | `(tactic| walk_at "eval ListComp") => `(tactic| (refine Hold.out ?_))
local macro_rules | `(tactic| walk_at "compareOp NotEq ref ref") => `(tactic| (refine Hold.out ?_))
local macro_rules | `(tactic| walk_at "call builtin:list.pop") => `(tactic| (refine Hold.out ?_))
local macro_rules | `(tactic| walk_at "subscriptTail Name Name ref int") => `(tactic| (refine Hold.out ?_))
local macro_rules | `(tactic| walk_at "binaryOp Add ref ref") => `(tactic| (refine Hold.out ?_))
local macro_rules | `(tactic| k_all) => `(tactic| assumption)
theorem back_spec {prog : Program} {w : World} {p : Program} {loose : List Str} {mean : ExcName → Option Value} {mg mb : Str → Option Value} {dp un : Nat} {fr : Option (List Env)} {gd : Option (List Code)} {Q E : Value → Shared → Prop} {s : Shared}
   {x : Str} {tx : Tok} (O : Ok w p loose mean mg mb s.heap) (hfill : Challenge.rw_xo0010_01.foot = 6) (hdp : dp + 4 < recursionLimit) (hun : un + 128 < cLine)
   (hsz : x.length ≤ 100) 
   {Dd : List Int} (hD : backF x.cps.toList = some Dd)
   (hQ : ∀ l (us : List Value) s', Ext s s' → s.heap.get? l = none → s'.heap.IsList l us.toArray → IntsAre us Dd → Q (.ref l) s') :
   wpAny (model prog w) (arnd dp un fr gd) (call (.ref 128) [.str x tx]) Q E s := by
  have hfillc := hfill
  have hfill2 : Challenge.rw_xo0010_01.foot = 6 ∨ hd.heap_39 = hd.heap_39 := by k_fill; exact .inl rfl
  clear hfill2 hfill
  k_with_none
  k_dflt (refine' enterC (f := 128) O ?k6 ?k7 ?k8 ?k9 ?kB ?c2 ?c3 ?c4 ?_; (case k6 => k_is); (case k7 => k_is); (case k8 => omega); (case k9 => exact rfl); (case c2 => exact rfl); (case c3 => exact rfl); (case c4 => exact rfl); k_whole)
  · intro y hy
    replace hy : y ∈ [(Str.ofString "row", Value.str x tx)] := hy
    rw [List.mem_singleton.mp hy]
    exact .inl rfl
  intro h₁ tk F C N
  replace F : Fr s.heap s.heap.objs.size h₁ (fun y => if y = Str.ofString "row" then some (.str x tx) else none) := F
  obtain ⟨oc1, hoc1, hcn1, hoce1⟩ : ∃ oc, oc.data = .cell none ∧ (s.heap.objs.size + 1 ≠ s.heap.objs.size ∧ s.heap.get? (s.heap.objs.size + 1) = none) ∧ h₁.get? (s.heap.objs.size + 1) = some oc := by
    obtain ⟨o, ho, hd⟩ := C.cell (Str.ofString "count") (s.heap.objs.size + 1) rfl
    exact ⟨o, hd, ⟨Nat.succ_ne_self _, Heap.get?_none_of_le (Nat.le_succ _)⟩, ho⟩
  obtain ⟨oc2, hoc2, hcn2, hoce2⟩ : ∃ oc, oc.data = .cell none ∧ (s.heap.objs.size + 2 ≠ s.heap.objs.size ∧ s.heap.get? (s.heap.objs.size + 2) = none) ∧ h₁.get? (s.heap.objs.size + 2) = some oc := by
    obtain ⟨o, ho, hd⟩ := C.cell (Str.ofString "depth") (s.heap.objs.size + 1 + 1) rfl
    exact ⟨o, hd, ⟨show @Ne Nat _ _ by omega, Heap.get?_none_of_le (by omega)⟩, ho⟩
  replace N : News s.heap s.heap.objs.size h₁ [(s.heap.objs.size + 1, oc1), (s.heap.objs.size + 2, oc2)] := fun q hq => by
    rcases List.mem_cons.mp hq with rfl | hq
    · exact ⟨hoce1, hcn1⟩
    · rw [List.mem_singleton.mp hq]; exact ⟨hoce2, hcn2⟩
  have X := O.k
  have T := O.t
  clear C hoce1 hoce2 hcn1 hcn2
  refine exec_seq ?_
  k_steps
  refine ⟨?_⟩
  refine exec_seq ?_
  k_steps
  refine ⟨?_⟩
  refine exec_seq ?_
  refine wpAny_For ?_ (fun _ => rfl)
  rename_i lb _ hl1 _ _ oc9 F N hd1
  have hNb := fun q hq => Heap.lt_size (N q hq).1
  refine wpAny_mono (Q := fun v s' => Opq (∃ (lv : Addr) (vs : List Value) (o1 : Obj), v = .ref lv ∧ StrsAre vs (Txt.split x (Str.ofString ")")) ∧ Kin s s' ∧ Fr s.heap s.heap.objs.size s'.heap (fun y => if y = Str.ofString "below" then some (Value.ref lb) else if y = Str.ofString "row" then some (Value.str x tx) else none) ∧
      News s.heap s.heap.objs.size s'.heap [(lb, listOf #[] 0), (s.heap.objs.size + 1, o1), (s.heap.objs.size + 2, oc2), (lv, listOf vs.toArray 0)] ∧ (∃ tc, o1.data = .cell (some (.int 0 tc))) ∧ (∀ y ∈ Txt.split x (Str.ofString ")"), y.length ≤ x.length) ∧ @LT.lt Nat _ lb lv ∧ @LT.lt Nat _ (s.heap.objs.size + 2) lv)) (E := fun _ _ => False) ?_ ?_ (fun _ _ x => x.elim)
  · k_steps
    rename_i ls h8 k8 a5 a4 a3 a2 a1 a0
    refine ⟨_, _, oc9, rfl, by rw [← a5]; exact a4, ⟨rfl, fun _ _ e => e, id⟩, a1, ?_, ⟨_, hd1⟩, by rw [← a5]; exact a3, hNb _ (List.mem_cons_self ..), hNb _ (List.mem_cons_of_mem _ (List.mem_cons_of_mem _ (List.mem_cons_self ..)))⟩
    intro q hq
    apply a0
    simp only [List.mem_cons, List.not_mem_nil, or_false] at hq ⊢
    rcases hq with h | h | h | h
    · exact .inr (.inl h)
    · exact .inr (.inr (.inl h))
    · exact .inr (.inr (.inr h))
    · exact .inl h
  · rintro v s1 ⟨lv, vs, o1, rfl, hvs, hk1, F1, N1, ⟨tc, ho1⟩, hle, hlt1, hlt2⟩
    have hl1a : @LT.lt Nat _ (s.heap.objs.size + 1) lb := hl1.1
    have hl1b : @LT.lt Nat _ (s.heap.objs.size + 2) lb := hl1.2
    refine list_turns (vs := vs) rfl rfl rfl F1 N1 (BJ1 lb (s.heap.objs.size + 1) (s.heap.objs.size + 2) lv oc2 vs (cutL x.cps.toList)) ?_ ?_ ?_ ?_
    · refine ⟨[], [], 0, o1, tc, rfl, rfl, ho1, ⟨rfl, by intro j v h; cases h⟩, ?_⟩
      have n1 : lb ≠ s.heap.objs.size + 1 := show @Ne Nat _ _ by omega
      have n2 : lb ≠ s.heap.objs.size + 2 := show @Ne Nat _ _ by omega
      have n3 : lb ≠ lv := show @Ne Nat _ _ by omega
      have n4 : s.heap.objs.size + 1 ≠ s.heap.objs.size + 2 := show @Ne Nat _ _ by omega
      have n5 : s.heap.objs.size + 1 ≠ lv := show @Ne Nat _ _ by omega
      have n6 : s.heap.objs.size + 2 ≠ lv := show @Ne Nat _ _ by omega
      simp [n1, n2, n3, n5, n6]
    · refine .inr ?_
      rintro i m nx ⟨us, dyn, n, o1, tc, rfl, _⟩
      exact ⟨0, by simp⟩
    · rintro i v m nx it o s₁ hv ⟨us, dyn, n, o1, tc, rfl, hm1, ho1, hB, hP⟩ hk F2 N2 hne
      rw [← upd_self hm1] at F2
      obtain ⟨r, tr, rfl, hr⟩ := strs_at hvs hv
      have hrl : r.length ≤ 100 := Nat.le_trans (hle r (List.mem_of_getElem? hr)) hsz
      simp only [List.pairwise_cons, List.mem_cons, forall_eq_or_imp] at hP hne
      obtain ⟨⟨p1, p2, p3, p4⟩, ⟨p5, p6, p7⟩, ⟨p8, p9⟩, p10, p11⟩ := hP
      obtain ⟨q1, q2, q3, q4, q5⟩ := hne
      have e1 : @Ne Nat lb (s.heap.objs.size + 1) := p1
      have e2 : @Ne Nat lb (s.heap.objs.size + 2) := p2
      have e3 : @Ne Nat lb lv := p3
      have e5 : @Ne Nat (s.heap.objs.size + 1) lv := p6
      have e6 : @Ne Nat lb it := q1
      have e7 : @Ne Nat (s.heap.objs.size + 1) it := q2
      have d1 : ∀ p ∈ dyn, p.1 ≠ lb := fun p hp => (p4 p hp).symm
      have d2 : ∀ p ∈ dyn, p.1 ≠ s.heap.objs.size + 1 := fun p hp => (p7 p hp).symm
      have hxl : x.length = x.cps.toList.length := len_list x
      have hcut := cutL_sum x.cps.toList
      have hri : (cutL x.cps.toList)[i]? = some r.length := by rw [← split_cut, List.getElem?_map, hr]; rfl
      have hcnt : ((cutL x.cps.toList).take i).sum ≤ 10000 := by have := sum_take_le (cutL x.cps.toList) i; omega
      have hil : i < (cutL x.cps.toList).length := (List.getElem?_eq_some_iff.mp hri).1
      have hub : us.length ≤ 200 := by rw [hB.len, belowGo_len, List.length_take]; omega
      generalize hce : ((cutL x.cps.toList).take i).sum = cnt at *
      clear F N F1 N1
      refine exec_seq ?_
      k_steps
      refine ⟨?_⟩
      refine comp_range (h₀ := s.heap) (L := s.heap.objs.size) (a := 1) (b := (r.length : Int) + 1) (n := r.length) (cl := [(Str.ofString "count", s.heap.objs.size + 1)]) ?_ ?_ ?_ rfl F2 N2 ?_ (by with_unfolding_all rfl) (by decide) rfl (by decide) rfl (fun _ => rfl)
        (fun i ys => IntsAre ys (runI cnt i)) .nil ?_ ?_ ?_
      · show (if (1 : Int) > 0 then (if (1 : Int) < (r.length : Int) + 1 then ((r.length : Int) + 1 - 1 - 1) / 1 + 1 else 0) else _) = (r.length : Int)
        rw [if_pos (by decide)]
        split <;> omega
      · exact small_one (by omega) (by omega) (by omega) (by omega)
      · exact Nat.le_trans hrl (by decide)
      · intro Q' hq
        k_steps
        exact hq _ _ _ _ _ _ (by assumption) (by assumption) (by assumption)
      · intro k t ys I C' D oI oC m₂ s₂ hk3 j hoC hm hk2 F3 N3 hne3 hoff3
        refine wpAny_tests_nil ?_
        rw [if_pos rfl]
        clear F2 N2
        k_steps
        refine ⟨hk2.trans (Kin.heap s₂ _ _), F3, N3, ?_⟩
        rw [runI_succ, show ((cnt + (k + 1) : Nat) : Int) = (cnt : Int) + (1 + (k : Int)) by omega]
        exact j.append (.cons _ _ .nil)
      · intro i ys h
        rw [h.length]
        simp [runI]
      · intro D ys s₂ j hk2 F3 N3 hoff3
        have e10 : @Ne Nat lb D := hoff3 (lb, listOf us.toArray n) (by k_mem)
        have e11 : @Ne Nat (s.heap.objs.size + 1) D := hoff3 (_, o1) (by k_mem)
        clear F2 N2
        k_steps
        refine ⟨?_⟩
        k_steps
        rename_i hh1 hh2 o9 F' N' hd9
        have e12 : it ≠ D := hoff3 (it, o) (by k_mem)
        have e13 : s.heap.objs.size + 2 ≠ D := hoff3 (_, oc2) (by k_mem)
        have e14 : lv ≠ D := hoff3 (lv, listOf vs.toArray 0) (by k_mem)
        have e15 : ∀ p ∈ dyn, p.1 ≠ D := fun p hp => hoff3 p (by simp [hp])
        have ht1 : (cutL x.cps.toList).take (i + 1) = (cutL x.cps.toList).take i ++ [r.length] := by rw [List.take_add_one, hri]; rfl
        obtain ⟨tz, hd10⟩ : ∃ tz, o9.data = .cell (some (.int (((cutL x.cps.toList).take (i + 1)).sum : Nat) tz)) := ⟨_, by rw [ht1, List.sum_append, hce, List.sum_singleton, Int.natCast_add]; exact hd9⟩
        refine Turn.mk' (hk.trans (Kin.trans hk2 (Kin.heap s₂ _ _))) F' (nx := (lb, listOf (us.toArray.push (Value.ref D)) (n + 1)) :: (s.heap.objs.size + 1, o9) :: (s.heap.objs.size + 2, oc2) :: (lv, listOf vs.toArray 0) :: (D, lstO ys) :: dyn) ?_ ?_
          ⟨us ++ [.ref D], (D, lstO ys) :: dyn, n + 1, o9, tz, by rw [List.push_toArray], rfl, hd10, ?_, ?_⟩
        · intro q hq
          apply N'
          simp only [List.mem_cons] at hq ⊢
          rcases hq with h | h | h | h | h | h | h <;> simp [h]
        · intro q hq
          simp only [List.mem_cons] at hq
          rcases hq with rfl | rfl | rfl | rfl | rfl | hq
          · exact q1
          · exact q2
          · exact q3
          · exact q4
          · exact e12.symm
          · exact q5 q hq
        · rw [ht1, belowGo_snoc, hce, Nat.zero_add]
          exact hB.snoc j
        · simp only [List.pairwise_cons, List.mem_cons, forall_eq_or_imp]
          exact ⟨⟨p1, p2, p3, e10, p4⟩, ⟨p5, p6, e11, p7⟩, ⟨p8, e13, p9⟩, ⟨e14, p10⟩, fun a ha => (e15 a ha).symm, p11⟩
    · rintro m nx s₁ ⟨us, dyn, n, o1, tc, rfl, hm1, ho1, hB, hP⟩ hk F2 N2
      rw [← upd_self hm1] at F2
      clear F N F1 N1
      refine ⟨?_⟩
      refine exec_seq ?_
      k_steps
      refine ⟨?_⟩
      have hc1 : 1 ≤ (cutL x.cps.toList).length := by rw [← split_cut, List.length_map]; exact List.length_pos_iff.mpr (split_ne x _)
      have hvl : vs.length = (cutL x.cps.toList).length := by rw [hvs.length, ← split_cut, List.length_map]
      rw [hvl, List.take_length] at hB ho1
      rename_i ld _ _ _ hld _ F4 N4
      have hB1 : 0 < us.length := by rw [hB.len, belowGo_len]; omega
      obtain ⟨v0, us', rfl⟩ : ∃ v0 us', us = v0 :: us' := by
        cases us with
        | nil => simp at hB1
        | cons v0 us' => exact ⟨v0, us', rfl⟩
      obtain ⟨a0, ys0, b0, rfl, hm0, hb0, hi0⟩ := hB.at_ 0 v0 rfl
      refine exec_seq ?_
      refine comp_list_assign (h₀ := s.heap) (L := s.heap.objs.size) (m := fun y => if y = Str.ofString "depths" then some (Value.ref ld) else if y = Str.ofString "below" then some (Value.ref lb) else m y) (cl := []) rfl rfl (by with_unfolding_all rfl) (by with_unfolding_all rfl) (by decide) rfl (by decide) rfl (fun _ => rfl) rfl rfl ?_
      replace N4 : News s.heap s.heap.objs.size _ ((a0, listOf ys0.toArray ys0.length) :: (ld, listOf #[] 0) :: (lb, listOf (Value.ref a0 :: us').toArray n) :: (s.heap.objs.size + 1, o1) :: (s.heap.objs.size + 2, oc2) :: dyn) := fun p hp => by
        rcases List.mem_cons.mp hp with rfl | hp
        · exact N4 (a0, lstO ys0) (by simp [hm0])
        · refine N4 p ?_
          simp only [List.mem_cons] at hp ⊢
          rcases hp with h | h | h | h | h <;> simp [h]
      have hy100 : ys0.length ≤ 100 := by
        rw [hi0.length]
        have z1 := belowGo_ent _ _ _ _ hb0
        have z2 := (cutL_sum x.cps.toList).1
        have z3 := len_list x
        omega
      k_steps
      rename_i D0 ws0 _ F5 N5 hw0 _ hl5
      refine ⟨D0, ws0, 0, _, fun i ys tn => (PileAre ys ((b0.reverse.take i).map fun o => (o, 0)) tn ∧ ys.length = i) ∧ ∀ p ∈ tn, @Ne Nat p.1 ld ∧ @Ne Nat p.1 (s.heap.objs.size + 2), rfl, ?_, F5, N5, List.mem_cons_self .., ⟨⟨⟨rfl, by intro j v h; cases h⟩, rfl⟩, by intro p hp; cases hp⟩, ?_, fun i ys tn h => Nat.le_of_eq h.1.2, ?_⟩
      · rw [hw0.length, List.length_reverse, ← hi0.length]
        exact Nat.le_trans hy100 (by decide)
      · rintro i v ys tn I C' D oI oC m₂ s₂ hi hv ⟨⟨hp1, hp2⟩, hp3⟩ hoC hmx hk2 F6 N6 hne6 hoff6
        obtain ⟨nd, tnd, rfl, hnd⟩ := ints_at hw0 hv
        clear F5 N5
        k_steps
        rename_i T9 _ F7 N7 hl7
        have hl71 : @LT.lt Nat _ I T9 := hl7.1
        have hl72 : @LT.lt Nat _ C' T9 := hl7.2.1
        have hl73 : @LT.lt Nat _ D T9 := hl7.2.2.1
        refine ⟨⟨(T9, tupO (.int nd tnd) (.int 0 s₂.toks)) :: tn, ⟨hk2.trans (Kin.heap s₂ _ _), F7, fun q hq => N7 q ?_, ⟨⟨?_, by simp [hp2]⟩, ?_⟩⟩, ?_⟩⟩
        · simp only [List.mem_cons, List.cons_append] at hq ⊢
          rcases hq with h | h | h | h | h <;> simp [h]
        · rw [List.take_add_one, hnd, Option.toList_some, List.map_append]
          exact hp1.snoc T9 tnd s₂.toks nd 0
        · intro q hq
          rcases List.mem_cons.mp hq with rfl | hq
          · have z1 : @LT.lt Nat _ ld T9 := ktn_ltOf hl7.2.2.2 (ld, listOf #[] 0) (by k_mem)
            have z2 : @LT.lt Nat _ (s.heap.objs.size + 2) T9 := ktn_ltOf hl7.2.2.2 (s.heap.objs.size + 2, oc2) (by k_mem)
            exact ⟨show @Ne Nat T9 _ by omega, show @Ne Nat T9 _ by omega⟩
          · exact hp3 q hq
        · intro q hq
          rcases List.mem_cons.mp hq with rfl | hq
          · exact ⟨show @Ne Nat _ _ by omega, show @Ne Nat _ _ by omega, show @Ne Nat _ _ by omega⟩
          · exact hoff6 q (List.mem_append_left _ hq)
      · rintro Dp ys tn s₂ ⟨⟨hp1, hp2⟩, hp3⟩ hk2 hoffp N6 F6
        refine ⟨?_⟩
        refine exec_seq ?_
        have hdc : ∀ p ∈ dyn, @Ne Nat p.1 (s.heap.objs.size + 2) := fun p hp => ((List.pairwise_cons.mp (List.pairwise_cons.mp (List.pairwise_cons.mp hP).2).2).1 p (List.mem_cons_of_mem _ hp)).symm
        clear hP
        have hA4 : AllLt ld dyn := hld.2.2.2.2
        have hlt9 : @LT.lt Nat _ lb ld ∧ @LT.lt Nat _ (s.heap.objs.size + 1) ld ∧ @LT.lt Nat _ (s.heap.objs.size + 2) ld := ⟨hld.1, hld.2.1, hld.2.2.1⟩
        refine while_rule F6 (news₀ := (ld, listOf #[] 0) :: (Dp, listOf ys.toArray ys.length) :: (lb, listOf (Value.ref a0 :: us').toArray n) :: (s.heap.objs.size + 1, o1) :: (s.heap.objs.size + 2, oc2) :: (tn ++ dyn)) ?_
          (KJ (belowGo 0 (cutL x.cps.toList)) Dd lb (s.heap.objs.size + 1) (s.heap.objs.size + 2) ld (Value.ref a0 :: us') n o1 dyn) 12 ?_ ?_
        · intro q hq
          apply N6
          simp only [List.mem_cons, List.mem_append] at hq ⊢
          rcases hq with h | h | h | h | h | h | h <;> simp [h]
        · have z0 : ws0.length = b0.reverse.length := hw0.length
          rw [z0, List.take_length] at hp1
          refine ⟨Dp, ys, [], ys.length, 0, _, tn, [], Dd, oc2, none, ⟨rfl, rfl, rfl⟩, rfl, .nil, hp1, hoc2, ?_, rfl, ⟨?_, by simp⟩, ⟨?_, ?_, ?_, ?_⟩, ?_, ?_, ?_⟩
          · have hD2 := hD
            unfold backF at hD2
            have hb1 : (belowGo 0 (cutL x.cps.toList)).headD [] = b0 := by
              cases hbl : belowGo 0 (cutL x.cps.toList) with
              | nil => rw [hbl] at hb0; cases hb0
              | cons z zs => rw [hbl] at hb0; exact Option.some.inj hb0
            rw [hb1] at hD2
            exact hD2
          · rw [hp2, z0, List.length_reverse, ← hi0.length]
            omega
          · exact (hoffp (ld, listOf #[] 0) (by k_mem)).symm
          · exact (hoffp (lb, listOf (Value.ref a0 :: us').toArray n) (by k_mem)).symm
          · exact (hoffp (s.heap.objs.size + 1, o1) (by k_mem)).symm
          · exact (hoffp (s.heap.objs.size + 2, oc2) (by k_mem)).symm
          · intro p hp
            refine hoffp p ?_
            rcases List.mem_append.mp hp with h | h <;> simp [h]
          · intro p hp
            rcases List.mem_append.mp hp with h | h
            · exact (hp3 p h).1
            · exact Nat.ne_of_lt (ktn_ltOf hA4 p h)
          · intro p hp
            rcases List.mem_append.mp hp with h | h
            · exact (hp3 p h).2
            · exact hdc p h
        · rintro k m3 nx s₃ ⟨lp, up, ud, np, nd, pile, tnp, dl, rest, o2, cv, ⟨g1, g2, g3⟩, rfl, hud, hup, ho2, hgo, hdl, ⟨hb1, hb2⟩, ⟨i1, i2, i3, i4⟩, i5, i6, i7⟩ hk3 F8 N8
          rw [← upd_self g1, ← upd_self g2, ← upd_self g3] at F8
          clear F6 N6
          rcases List.eq_nil_or_concat up with rfl | ⟨up0, v9, hup9⟩
          · k_steps
            refine ⟨?_⟩
            rename_i e20 _ F20 N20 _
            refine ke_ne_ints (xs := []) (ys := []) ⟨_, (N20 (lp, listOf #[] np) (by k_mem)).1, rfl, _, rfl⟩ ⟨_, (N20 (e20, listOf #[] 0) (by k_mem)).1, rfl, _, rfl⟩ .nil .nil (show un + 3 + 64 < cLine by omega) ?_
            k_steps
            refine ⟨⟨fun h => (by cases h), fun _ => ⟨?_⟩⟩⟩
            have hp0 : pile = [] := List.eq_nil_of_length_eq_zero (by rw [← hup.len]; rfl)
            rw [hp0] at hgo
            rw [backGo_nil hgo, List.append_nil] at hdl
            k_steps
            exact hQ ld ud _ ((Kin.trans (Kin.heap s _ _) (Kin.trans hk1 (Kin.trans hk (Kin.trans (Kin.heap s₁ _ _) (Kin.trans hk2 (Kin.trans hk3 (Kin.heap s₃ _ _))))))).ext F20.keep) (N20 (ld, listOf ud.toArray nd) (by k_mem)).2.2 ⟨_, (N20 (ld, listOf ud.toArray nd) (by k_mem)).1, rfl, _, rfl⟩ (hdl ▸ hud)
          · rw [List.concat_eq_append] at hup9
            subst hup9
            obtain ⟨a9, ta9, td9, nd9, d9, rfl, hm9, hp9⟩ := hup.at_ up0.length v9 (by simp)
            obtain ⟨pile0, rfl⟩ := pile_last hup hp9
            obtain ⟨k', ch, r', rfl, hnd0, hch, hgo', rfl⟩ := backGo_snoc hgo
            k_steps
            refine ⟨?_⟩
            rename_i e20 _ F20 N20 _
            refine ne_longer (xs := up0 ++ [Value.ref a9]) ⟨_, (N20 (lp, listOf (up0 ++ [Value.ref a9]).toArray np) (by k_mem)).1, rfl, _, rfl⟩ ⟨_, (N20 (e20, listOf #[] 0) (by k_mem)).1, rfl, _, rfl⟩ (by simp) (show un + 3 < cLine by omega) ?_
            k_steps
            refine ⟨⟨fun _ => ?_, fun h => (by cases h)⟩⟩
            have u1 : @Ne Nat a9 lp := i5 (a9, _) (List.mem_append_left _ hm9)
            have u2 : @Ne Nat a9 ld := i6 (a9, _) (List.mem_append_left _ hm9)
            have u3 : @Ne Nat a9 (s.heap.objs.size + 2) := i7 (a9, _) (List.mem_append_left _ hm9)
            have u4 : @Ne Nat lp ld := i1
            have u5 : @Ne Nat ld lb := by omega
            have u6 : @Ne Nat ld (s.heap.objs.size + 1) := by omega
            have u7 : @Ne Nat ld (s.heap.objs.size + 2) := by omega
            have u8 : @Ne Nat lb (s.heap.objs.size + 2) := by omega
            have hul : ud.length ≤ 100 := by omega
            replace N20 : News s.heap s.heap.objs.size _ ((a9, tupO (.int nd9 ta9) (.int d9 td9)) :: (ld, listOf ud.toArray nd) :: (lp, listOf (up0 ++ [Value.ref a9]).toArray np) :: (lb, listOf (Value.ref a0 :: us').toArray n) :: (s.heap.objs.size + 1, o1) :: (s.heap.objs.size + 2, o2) :: (tnp ++ dyn)) := fun q hq => by
              rcases List.mem_cons.mp hq with rfl | hq
              · exact N20 (a9, tupO (.int nd9 ta9) (.int d9 td9)) (by simp [hm9])
              · exact N20 q (List.mem_cons_of_mem _ hq)
            refine exec_seq ?_
            k_steps
            refine ⟨?_⟩
            refine kl_pop (p := up0) (y := Value.ref a9) F20 N20 (by simpa using kpa_last (Value.ref a9) up0) (by k_upd) (by simp; exact Nat.le_trans (show up0.length + 1 ≤ 2000 by simp at hb1; omega) (by decide)) ?_
            intro h21 F21 N21
            clear F20 N20
            k_steps
            refine ⟨?_⟩
            rename_i o9 F22 N22 hd22
            refine exec_seq ?_
            k_steps
            refine ⟨?_⟩
            rename_i F23 N23
            refine exec_seq ?_
            k_steps
            refine ⟨?_⟩
            have hnl : nd9.toNat < (Value.ref a0 :: us').length := by rw [hB.len]; exact (List.getElem?_eq_some_iff.mp hch).1
            obtain ⟨vb, hvb⟩ : ∃ vb, (Value.ref a0 :: us')[nd9.toNat]? = some vb := ⟨_, List.getElem?_eq_getElem hnl⟩
            obtain ⟨ab, ysb, bb, rfl, hmb, hbb, hib⟩ := hB.at_ _ _ hvb
            rw [hch] at hbb
            obtain rfl := Option.some.inj hbb
            have hyb : ysb.length ≤ 100 := by
              rw [hib.length]
              have z1 := belowGo_ent _ _ _ _ hch
              have z2 := (cutL_sum x.cps.toList).1
              have z3 := len_list x
              omega
            have hnb : nd9 < 2 ^ 63 := by
              have z1 := hB.len
              rw [belowGo_len] at z1
              have z2 := (cutL_sum x.cps.toList).2
              have z3 := len_list x
              omega
            replace N23 : News s.heap s.heap.objs.size _ ((ab, listOf ysb.toArray ysb.length) :: (ld, listOf (ud.toArray.push (Value.int d9 td9)) (nd + 1)) :: (lp, listOf up0.toArray (np + 1)) :: (lb, listOf (Value.ref a0 :: us').toArray n) :: (s.heap.objs.size + 1, o1) :: (s.heap.objs.size + 2, o9) :: (tnp ++ dyn)) := fun q hq => by
              rcases List.mem_cons.mp hq with rfl | hq
              · exact N23 (ab, lstO ysb) (by simp [hmb])
              · exact N23 q (List.mem_cons_of_mem _ hq)
            refine comp_list (h₀ := s.heap) (L := s.heap.objs.size) (m := fun y => if y = Str.ofString "node" then some (Value.int nd9 ta9) else if y = Str.ofString "pile" then some (Value.ref lp) else if y = Str.ofString "depths" then some (Value.ref ld) else if y = Str.ofString "below" then some (Value.ref lb) else m3 y) (cl := [(Str.ofString "depth", s.heap.objs.size + 2)]) rfl (by with_unfolding_all rfl) (by decide) rfl (by decide) rfl (fun _ => rfl) ?_
            k_steps
            refine ⟨?_⟩
            refine item_any ⟨_, (N23 (lb, listOf (Value.ref a0 :: us').toArray n) (by k_mem)).1, rfl, _, rfl⟩ hnd0 hnb (by simpa using hvb) ?_
            k_steps
            rename_i D1 ws1 _ F25 N25 hw1 _ hl25
            refine ⟨D1, ws1, 0, _, fun i ys tn => (PileAre ys ((ch.reverse.take i).map fun o => (o, d9 + 1)) tn ∧ ys.length = i) ∧ ∀ p ∈ tn, @Ne Nat p.1 ld ∧ @Ne Nat p.1 (s.heap.objs.size + 2), rfl, ?_, F25, N25, List.mem_cons_self .., ⟨⟨⟨rfl, by intro j v h; cases h⟩, rfl⟩, by intro p hp; cases hp⟩, ?_, fun i ys tn h => Nat.le_of_eq h.1.2, ?_⟩
            · rw [hw1.length, List.length_reverse, ← hib.length]
              exact Nat.le_trans hyb (by decide)
            · rintro i v ys2 tn2 I C' D oI oC m₂ s₄ hi hv ⟨⟨hp1, hp2⟩, hp3⟩ hoC hmx hk4 F26 N26 hne6 hoff6
              obtain ⟨nd1, tnd, rfl, hnd⟩ := ints_at hw1 hv
              replace N26 := news_dup (q := (s.heap.objs.size + 2, o9)) N26 (by simp)
              clear F25 N25
              k_steps
              rename_i T9 _ F7 N7 hl7
              have hl71 : @LT.lt Nat _ I T9 := hl7.2.1
              have hl72 : @LT.lt Nat _ C' T9 := hl7.2.2.1
              have hl73 : @LT.lt Nat _ D T9 := hl7.2.2.2.1
              obtain ⟨tq, htq⟩ := news_tok N7
              rw [htq] at N7
              refine ⟨⟨(T9, tupO (.int nd1 tnd) (.int (d9 + 1) tq)) :: tn2, ⟨hk4.trans (Kin.heap s₄ _ _), F7, fun q hq => N7 q ?_, ⟨⟨?_, by simp [hp2]⟩, ?_⟩⟩, ?_⟩⟩
              · simp only [List.mem_cons, List.cons_append] at hq ⊢
                rcases hq with h | h | h | h | h
                · exact .inr (.inr (.inl h))
                · exact .inr (.inr (.inr (.inl h)))
                · exact .inr (.inr (.inr (.inr (.inl h))))
                · exact .inl h
                · exact .inr (.inr (.inr (.inr (.inr h))))
              · rw [List.take_add_one, hnd, Option.toList_some, List.map_append]
                exact hp1.snoc T9 tnd tq nd1 (d9 + 1)
              · intro q hq
                rcases List.mem_cons.mp hq with rfl | hq
                · have z1 : @LT.lt Nat _ ld T9 := ktn_ltOf hl7.2.2.2.2 (ld, listOf (ud.toArray.push (Value.int d9 td9)) (nd + 1)) (by k_mem)
                  have z2 : @LT.lt Nat _ (s.heap.objs.size + 2) T9 := hl7.1
                  exact ⟨show @Ne Nat T9 _ by omega, show @Ne Nat T9 _ by omega⟩
                · exact hp3 q hq
              · intro q hq
                rcases List.mem_cons.mp hq with rfl | hq
                · exact ⟨show @Ne Nat _ _ by omega, show @Ne Nat _ _ by omega, show @Ne Nat _ _ by omega⟩
                · exact hoff6 q (List.mem_append_left _ hq)
            · rintro Dq ys2 tn2 s₄ ⟨⟨hp1, hp2⟩, hp3⟩ hk4 hoffq N26 F26
              clear F25 N25
              k_steps
              refine ⟨?_⟩
              refine add_lists F26 N26 ⟨_, (N26 (lp, listOf up0.toArray (np + 1)) (by simp)).1, rfl, _, rfl⟩ ⟨_, (N26 (Dq, lstO ys2) (by simp)).1, rfl, _, rfl⟩ (fun h' F27 N27 => ?_) ?_
              · have hN := fun q hq => Heap.lt_size (N26 q hq).1
                clear F26
                k_steps
                refine ⟨?_⟩
                k_steps
                rename_i F28 N28
                have z0 : ws1.length = ch.reverse.length := hw1.length
                have z1 : up0.length + 1 + 100 * (k' + 1) ≤ 1300 := by simpa using hb1
                have z2 := hib.length
                rw [z0, List.take_length] at hp1
                rw [List.length_reverse] at z0
                refine WTurn.mk' k' (Nat.lt_succ_self _) (hk3.trans (Kin.trans (Kin.heap s₃ _ _) (Kin.trans hk4 (Kin.heap s₄ _ _)))) F28
                  (nx := (ld, listOf (ud.toArray.push (Value.int d9 td9)) (nd + 1)) :: (s₄.heap.objs.size, listOf (up0 ++ ys2).toArray 0) :: (lb, listOf (Value.ref a0 :: us').toArray n) :: (s.heap.objs.size + 1, o1) :: (s.heap.objs.size + 2, o9) :: ((tnp ++ tn2) ++ dyn)) ?_ ?_
                · intro q hq
                  apply N28
                  simp only [List.mem_cons, List.mem_append] at hq ⊢
                  rcases hq with h | h | h | h | h | (h | h) | h <;> simp [h]
                · refine ⟨s₄.heap.objs.size, up0 ++ ys2, ud ++ [.int d9 td9], 0, nd + 1, _, tnp ++ tn2, dl ++ [d9], r', o9, _, ⟨rfl, rfl, rfl⟩, by rw [List.push_toArray], hud.append (.cons _ _ .nil), hup.left.append hp1, hd22, hgo', by rw [← hdl]; simp, ⟨?_, by simp; omega⟩, ⟨?_, ?_, ?_, ?_⟩, ?_, ?_, ?_⟩
                  · rw [List.length_append, hp2]
                    omega
                  · exact (Nat.ne_of_lt (hN (ld, listOf (ud.toArray.push (Value.int d9 td9)) (nd + 1)) (by simp))).symm
                  · exact (Nat.ne_of_lt (hN (lb, listOf (Value.ref a0 :: us').toArray n) (by simp))).symm
                  · exact (Nat.ne_of_lt (hN (s.heap.objs.size + 1, o1) (by simp))).symm
                  · exact (Nat.ne_of_lt (hN (s.heap.objs.size + 2, o9) (by simp))).symm
                  · intro p hp
                    refine Nat.ne_of_lt (hN p ?_)
                    simp only [List.mem_append] at hp
                    rcases hp with (h | h) | h <;> simp [h]
                  · intro p hp
                    simp only [List.mem_append] at hp
                    rcases hp with (h | h) | h
                    · exact i6 p (List.mem_append_left _ h)
                    · exact (hp3 p h).1
                    · exact i6 p (List.mem_append_right _ h)
                  · intro p hp
                    simp only [List.mem_append] at hp
                    rcases hp with (h | h) | h
                    · exact i7 p (List.mem_append_left _ h)
                    · exact (hp3 p h).2
                    · exact i7 p (List.mem_append_right _ h)
              · refine Nat.le_trans (m := 2000) ?_ (by decide)
                have z0 : ws1.length = ch.reverse.length := hw1.length
                have z1 : up0.length + 1 + 100 * (k' + 1) ≤ 1300 := by simpa using hb1
                have z2 := hib.length
                rw [List.length_reverse] at z0
                omega
end
end Mine
end

section
open PySem PySem.W PyProof.Rows PySem.Calls
namespace Mine
set_option maxRecDepth 100000
set_option maxHeartbeats 8000000

/-- the row that a text holds -/
def leftF (t : List Nat) : List Nat := if (stripL t).take 4 = [50, 53, 55, 32] then (stripL t).drop 4 else stripL t
def rowUp (T : List (List Nat)) (i : Nat) : List Nat := (T.take i).flatMap leftF
def accUp (T : List (List Nat)) (i : Nat) : Int := ((T.take i).map openF).foldl (· + ·) 0
def closedUp (T : List (List Nat)) (i : Nat) : List Nat := rowUp T i ++ List.replicate (accUp T i).toNat 41
def sizesUp (T : List (List Nat)) (i : Nat) : List Int := (List.range i).map fun k => accUp T (k + 1)
def levs (ds : List Int) : List Int := (List.range (maxD ds + 1).toNat).map fun (k : Nat) => (k : Int)
def countsF (ds : List Int) : List Int := (levs ds).map (fun v => ((ds.count v : Nat) : Int)) ++ [0]
def dueAt (ds : List Int) (lv : Int) (k : Nat) : List Int :=
  match ds[k]? with
  | none => []
  | some d => if d = lv then [((ds.take k).count lv : Nat) + ((ds.drop k).count (lv - 1) : Nat)] else []
def dueIn (ds : List Int) (lv : Int) (i : Nat) : List Int := (List.range i).flatMap (dueAt ds lv)
def dueUp (ds : List Int) (j : Nat) : List Int := (List.range j).flatMap fun (lv : Nat) => dueIn ds lv ds.length
def gapAt (ds : List Int) (k : Nat) : Int := (if k > 0 then ds.getD (k - 1) 0 else -1) + 1 - ds.getD k 0
def firstUp (ds : List Int) (i : Nat) : List Nat := (List.range i).flatMap fun k => List.replicate (gapAt ds k).toNat 41 ++ [40]
def firstF (ds : List Int) : List Nat := firstUp ds ds.length ++ List.replicate (ds.getLastD 0 + 1).toNat 41
def plain (l : List Nat) : Bool := l.all fun c => c != 92 && decide (c < 128)
def turnB (T : List (List Nat)) (i : Nat) : Bool :=
  decide (0 ≤ accUp T i) && (decide (accUp T i ≤ 10) && (plain (rowUp T i) && (decide ((rowUp T i).length ≤ 90) &&
    (checkF (closedUp T i) && (!checkF (closedUp T i ++ [41]) && !checkF (40 :: closedUp T i))))))
theorem plain_ok {l : List Nat} (h : plain l = true) : (∀ c ∈ l, c ≠ 92) ∧ ∀ c ∈ l, c < 128 := by
  unfold plain at h
  rw [List.all_eq_true] at h
  refine ⟨fun c hc => ?_, fun c hc => ?_⟩
  · have := h c hc
    rw [Bool.and_eq_true, bne_iff_ne] at this
    exact this.1
  · have := h c hc
    rw [Bool.and_eq_true, decide_eq_true_eq] at this
    exact this.2

structure TurnOk (T : List (List Nat)) (i : Nat) : Prop where
  nn : 0 ≤ accUp T i
  le : accUp T i ≤ 10
  pl : plain (rowUp T i) = true
  ln : (rowUp T i).length ≤ 90
  c1 : checkF (closedUp T i) = true
  c2 : checkF (closedUp T i ++ [41]) = false
  c3 : checkF (40 :: closedUp T i) = false
theorem turnB_ok {T : List (List Nat)} {i : Nat} (h : turnB T i = true) : TurnOk T i := by
  unfold turnB at h
  simp only [Bool.and_eq_true, decide_eq_true_eq, Bool.not_eq_true'] at h
  obtain ⟨h1, h2, h3, h4, h5, h6, h7⟩ := h
  exact ⟨h1, h2, h3, h4, h5, h6, h7⟩

structure LawOk (ds : List Int) (T : List (List Nat)) : Prop where
  chain : Chain T
  n8 : T.length ≤ 8
  n0 : 0 < T.length
  len : ∀ t ∈ T, t.length ≤ 4000
  pl : ∀ t ∈ T, plain t = true
  turn : ∀ i, i < T.length → TurnOk T (i + 1)
  sizes : sizesUp T T.length = countsF ds
  ahead : aheadF (rowUp T T.length) = dueUp ds (maxD ds + 1).toNat
  back : backF (rowUp T T.length) = some ds
  f1 : checkF (firstF ds) = true
  f2 : aheadF (firstF ds) = ds
  f3 : plain (firstF ds) = true
  f4 : (firstF ds).length ≤ 90
  m5 : maxD ds ≤ 5
/-- all depths that so many numbers give -/
def allDs : Nat → List (List Int)
  | 0 => [[0]]
  | n + 1 => (allDs n).flatMap fun ds => (List.range (min (ds.getLastD 0) 2 + 2).toNat).map fun (k : Nat) => ds ++ [(k : Int)]
theorem dstep_all {n : Nat} {ds : List Int} (h : ds ∈ allDs n) (h0 : 0 ≤ ds.getLastD 0) (x : Int) : dstep ds x ∈ allDs (n + 1) ∧ 0 ≤ (dstep ds x).getLastD 0 := by
  have hb : 0 < min (ds.getLastD 0) 2 + 2 := by omega
  have h1 : 0 ≤ Int.fmod x (min (ds.getLastD 0) 2 + 2) := Int.fmod_nonneg_of_pos _ hb
  have h2 : Int.fmod x (min (ds.getLastD 0) 2 + 2) < min (ds.getLastD 0) 2 + 2 := Int.fmod_lt_of_pos _ hb
  unfold dstep
  refine ⟨?_, ?_⟩
  · rw [allDs, List.mem_flatMap]
    refine ⟨ds, h, ?_⟩
    rw [List.mem_map]
    refine ⟨(Int.fmod x (min (ds.getLastD 0) 2 + 2)).toNat, List.mem_range.mpr (by omega), ?_⟩
    rw [Int.toNat_of_nonneg h1]
  · rw [List.getLastD_eq_getLast?, List.getLast?_append]
    simpa using h1
theorem foldl_all : ∀ (ns : List Int) {n : Nat} {ds : List Int}, ds ∈ allDs n → 0 ≤ ds.getLastD 0 → ns.foldl dstep ds ∈ allDs (n + ns.length)
  | [], n, ds, h, _ => h
  | x :: ns, n, ds, h, h0 => by
    obtain ⟨a, b⟩ := dstep_all h h0 x
    rw [List.foldl_cons, List.length_cons, Nat.add_comm ns.length 1, ← Nat.add_assoc]
    exact foldl_all ns a b
theorem depthsF_all (ns : List Int) : depthsF ns ∈ allDs ns.length := by
  have := foldl_all ns (n := 0) (ds := [0]) (by decide) (by decide)
  rwa [Nat.zero_add] at this

end Mine
end

section
open PySem PySem.W PyProof.Rows PySem.Calls
namespace Mine
set_option maxRecDepth 100000
set_option maxHeartbeats 8000000
theorem sub2 {α : Type} {a b x : α} {l : List α} (h1 : a ∈ l) (h2 : b ∈ l) (h : x ∈ [a, b]) : x ∈ l :=
  List.forall_mem_cons.mpr ⟨h1, List.forall_mem_cons.mpr ⟨h2, List.forall_mem_nil _⟩⟩ x h
theorem sub3 {α : Type} {a b c x : α} {l : List α} (h1 : a ∈ l) (h2 : b ∈ l) (h3 : c ∈ l) (h : x ∈ [a, b, c]) : x ∈ l :=
  List.forall_mem_cons.mpr ⟨h1, fun y hy => sub2 h2 h3 hy⟩ x h
theorem sub4 {α : Type} {a b c d x : α} {l : List α} (h1 : a ∈ l) (h2 : b ∈ l) (h3 : c ∈ l) (h4 : d ∈ l) (h : x ∈ [a, b, c, d]) : x ∈ l :=
  List.forall_mem_cons.mpr ⟨h1, fun y hy => sub3 h2 h3 h4 hy⟩ x h
theorem pushC {A : Around} {base h₀ h : Heap} {outer : List Env} {L a : Addr} {m : Str → Option Value} {name : Str} {scope : Scope} {cd : Value}
    (K : Below A base outer h₀) (F : Fr h₀ L h m) (hk : scope.kind = .function) : Below (A.deeper (envOfC name scope L a cd)) base (envOfC name scope L a cd :: outer) h := by
  have hnew : base.get? L = none := by
    cases hq : base.get? L with
    | none => rfl
    | some o => exact absurd (Nat.lt_of_lt_of_le (Heap.lt_size (K.stays L o hq)) F.above) (Nat.lt_irrefl _)
  refine ⟨Around.frames_deeper K.stack, fun b o e => F.keep b o (K.stays b o e), ?_⟩
  exact .cons (by show scope.kind ≠ .module; rw [hk]; decide) rfl F.ns hnew (K.frames.of_keeps fun b o e _ => ⟨o, F.keep b o e, rfl⟩)
theorem dicts_one {h₀ h : Heap} {L a : Addr} {m : Str → Option Value} {name : Str} {scope : Scope} {cd : Value} (F : Fr h₀ L h m) : KtsDicts ([envOfC name scope L a cd].filterMap (·.frame)) h := by
  obtain ⟨o, es, ep, ho, hd, _⟩ := F.ns
  intro b hb
  have : b = L := by simpa [envOfC] using hb
  exact ⟨o, es, ep, this ▸ ho, hd⟩
theorem fr_turn {h₀ h g' h' : Heap} {L a : Addr} {m : Str → Option Value} {name : Str} {scope : Scope} {cd : Value} (F : Fr h₀ L h m) (T : KtsTurn ([envOfC name scope L a cd].filterMap (·.frame)) h g')
    (k : ∀ b o, g'.get? b = some o → h'.get? b = some o) : Fr h₀ L h' m := by
  obtain ⟨o, es, ep, ho, hd, hs, hf⟩ := F.ns
  refine ⟨?_, fun b q e => ?_, F.above⟩
  · obtain ⟨sl, h1⟩ := T.up ho
    exact ⟨_, es, ep, k _ _ h1, hd, hs, hf⟩
  · refine k _ _ (T.other b q (F.keep b q e) fun hm => ?_)
    have e2 : b = L := by simpa [envOfC] using hm
    exact absurd (Nat.lt_of_lt_of_le (Heap.lt_size e) F.above) (by rw [e2]; exact Nat.lt_irrefl _)
theorem news_turn {h₀ h g' h' : Heap} {L a : Addr} {nx : List (Addr × Obj)} {name : Str} {scope : Scope} {cd : Value} (N : News h₀ L h nx) (T : KtsTurn ([envOfC name scope L a cd].filterMap (·.frame)) h g')
    (k : ∀ b o, g'.get? b = some o → h'.get? b = some o) : News h₀ L h' nx := fun p hp => by
  refine ⟨k _ _ (T.other p.1 p.2 (N p hp).1 fun hm => ?_), (N p hp).2⟩
  have e2 : p.1 = L := by simpa [envOfC] using hm
  exact (N p hp).2.1 e2
/-- a stage of law's walk -/
structure Stg (h₀ : Heap) (L : Addr) (s₁ s : Shared) (P : (Str → Option Value) → List (Addr × Obj) → Prop) : Prop where
  out : ∃ m nx, Kin s₁ s ∧ Fr h₀ L s.heap m ∧ News h₀ L s.heap nx ∧ P m nx
def numsF (xs : List Int) : List Int := (xs.take 5).map (fun x => Int.fmod x 1000000) ++ [1, 5, 4].drop ((xs.take 5).map (fun x => Int.fmod x 1000000)).length
theorem numsF_len (xs : List Int) : 3 ≤ (numsF xs).length ∧ (numsF xs).length ≤ 5 := by
  unfold numsF
  rw [List.length_append, List.length_drop, List.length_map, List.length_take]
  show 3 ≤ min 5 xs.length + (3 - min 5 xs.length) ∧ min 5 xs.length + (3 - min 5 xs.length) ≤ 5
  omega
theorem numsF_in (xs : List Int) : ∀ x ∈ numsF xs, 0 ≤ x ∧ x ≤ 1000000 := by
  intro x hx
  unfold numsF at hx
  rcases List.mem_append.mp hx with h | h
  · obtain ⟨y, _, rfl⟩ := List.mem_map.mp h
    have h1 := Int.fmod_nonneg_of_pos y (b := 1000000) (by decide)
    have h2 := Int.fmod_lt_of_pos y (b := 1000000) (by decide)
    omega
  · have := List.mem_of_mem_drop h
    simp only [List.mem_cons, List.not_mem_nil, or_false] at this
    omega
end Mine
end

section
open PySem PySem.W PyProof.Rows PySem.Calls
namespace Mine
set_option maxRecDepth 100000
set_option maxHeartbeats 8000000
theorem Stg.mk' {h₀ : Heap} {L : Addr} {s₁ s : Shared} {P : (Str → Option Value) → List (Addr × Obj) → Prop} {m : Str → Option Value} {nx : List (Addr × Obj)}
    (k : Kin s₁ s) (F : Fr h₀ L s.heap m) (N : News h₀ L s.heap nx) (p : P m nx) : Stg h₀ L s₁ s P := ⟨m, nx, k, F, N, p⟩
theorem ext_fr {h₀ : Heap} {L : Addr} {m : Str → Option Value} {s s' : Shared} (x : Ext s s') (F : Fr h₀ L s.heap m) : Fr h₀ L s'.heap m := fr_ext F x
theorem ext_news {h₀ : Heap} {L : Addr} {nx : List (Addr × Obj)} {s s' : Shared} (x : Ext s s') (N : News h₀ L s.heap nx) : News h₀ L s'.heap nx := news_ext N x
theorem news_new {h₀ : Heap} {L l : Addr} {s s' : Shared} {m : Str → Option Value} {o : Obj} {nx : List (Addr × Obj)} (F : Fr h₀ L s.heap m) (hn : s.heap.get? l = none) (hl : s'.heap.get? l = some o)
    (N : News h₀ L s'.heap nx) : News h₀ L s'.heap ((l, o) :: nx) := fun p hp => by
  rcases List.mem_cons.mp hp with rfl | hp
  · refine ⟨hl, ?_, kts_none F.keep hn⟩
    rintro rfl
    obtain ⟨o', _, _, ho, _⟩ := F.ns
    rw [hn] at ho
    cases ho
  · exact N p hp
theorem news_ne {h₀ : Heap} {L l : Addr} {s : Shared} {nx : List (Addr × Obj)} (N : News h₀ L s.heap nx) (hn : s.heap.get? l = none) : ∀ p ∈ nx, @Ne Nat p.1 l := fun p hp e => by
  have := (N p hp).1
  rw [show p.1 = l from e, hn] at this
  cases this
theorem StrsAre.rev : ∀ {us : List Value} {ys : List Str}, StrsAre us ys → StrsAre us.reverse ys.reverse
  | _, _, .nil => .nil
  | _, _, .cons y t h => by
    rw [List.reverse_cons, List.reverse_cons]
    exact strs_snoc (StrsAre.rev h) _ _
abbrev rangeO (a b c : Int) (t u v : Tok) : Obj := { cls := .type "range", dict := none, data := .fields #[.int a t, .int b u, .int c v], slots := #[] }
theorem range_news {prog : Program} {w : World} {A : Around} {E : Value → Shared → Prop} {s : Shared} {h₀ : Heap} {L : Addr} {m : Str → Option Value} {Q : Value → Shared → Prop} {n : Int} {t0 : Tok} {nx : List (Addr × Obj)} (F : Fr h₀ L s.heap m) (N : News h₀ L s.heap nx)
    (h : ∀ (R : Addr) (h' : Heap) (tk : Nat) (t u v : Tok), Fr h₀ L h' m → News h₀ L h' ((R, rangeO 0 n 1 t u v) :: nx) → (∀ p ∈ nx, @LT.lt Nat _ p.1 R) → Q (.ref R) { s with heap := h', toks := tk }) :
    wpAny (model prog w) A (call (.type "range") [.int n t0]) Q E s :=
  call_range_1 (h s.heap.objs.size _ _ _ _ _ (F.push _) (News.push F N _) fun p hp => Heap.lt_size (N p hp).1)
theorem sum_bd : ∀ {ns : List Int}, (∀ x ∈ ns, 0 ≤ x ∧ x ≤ 1000000) → 0 ≤ ns.sum ∧ ns.sum ≤ 1000000 * (ns.length : Int)
  | [], _ => by simp
  | x :: ns, h => by
    have h1 := sum_bd fun y hy => h y (List.mem_cons_of_mem _ hy)
    have h2 := h x (List.mem_cons_self ..)
    rw [List.sum_cons, List.length_cons]
    push_cast
    omega
theorem allDs_in : ∀ {n : Nat} {ds : List Int}, ds ∈ allDs n → ds.length = n + 1 ∧ ∀ d ∈ ds, 0 ≤ d ∧ d ≤ 3
  | 0, ds, h => by
    rw [List.mem_singleton.mp h]
    exact ⟨rfl, by intro d hd; rw [List.mem_singleton.mp hd]; decide⟩
  | n + 1, ds, h => by
    rw [allDs, List.mem_flatMap] at h
    obtain ⟨e, he, h⟩ := h
    obtain ⟨k, hk, rfl⟩ := List.mem_map.mp h
    obtain ⟨h1, h2⟩ := allDs_in he
    have hk2 := List.mem_range.mp hk
    refine ⟨by rw [List.length_append, h1]; rfl, fun d hd => ?_⟩
    rcases List.mem_append.mp hd with hd | hd
    · exact h2 d hd
    · rw [List.mem_singleton.mp hd]; omega
theorem rowUp_succ {T : List (List Nat)} {i : Nat} {t : List Nat} (h : T[i]? = some t) : rowUp T (i + 1) = rowUp T i ++ leftF t := by
  unfold rowUp
  rw [List.take_add_one, h, Option.toList_some, List.flatMap_append, List.flatMap_singleton]
theorem accUp_succ {T : List (List Nat)} {i : Nat} {t : List Nat} (h : T[i]? = some t) : accUp T (i + 1) = accUp T i + openF t := by
  unfold accUp
  rw [List.take_add_one, h, Option.toList_some, List.map_append, List.foldl_append]
  rfl
theorem sizesUp_succ (T : List (List Nat)) (i : Nat) : sizesUp T (i + 1) = sizesUp T i ++ [accUp T (i + 1)] := by
  unfold sizesUp
  rw [List.range_succ, List.map_append]
  rfl
theorem levs_take {ds : List Int} {k : Nat} (h : k < (maxD ds + 1).toNat) : (levs ds).take (k + 1) = (levs ds).take k ++ [(k : Int)] := by
  have e : (levs ds)[k]? = some (k : Int) := by
    unfold levs
    rw [List.getElem?_map, List.getElem?_range h]
    rfl
  rw [List.take_add_one, e]
  rfl
theorem levs_all (ds : List Int) : (levs ds).take (maxD ds + 1).toNat = levs ds := List.take_of_length_le (by simp [levs])
structure AJ (T : List (List Nat)) (R lz : Addr) (nx0 : List (Addr × Obj)) (i : Nat) (m : Str → Option Value) (nx : List (Addr × Obj)) : Prop where
  out : ∃ (r : Str) (tr ta : Tok) (us : List Value) (n : Nat), (m (Str.ofString "levels") = some (.ref R) ∧ m (Str.ofString "row") = some (.str r tr) ∧ m (Str.ofString "account") = some (.int (accUp T i) ta) ∧ m (Str.ofString "sizes") = some (.ref lz)) ∧
    nx = (lz, listOf us.toArray n) :: nx0 ∧ r.cps.toList = rowUp T i ∧ IntsAre us (sizesUp T i)
structure DJ (ds : List Int) (R lu : Addr) (r : Str) (tr : Tok) (nx0 : List (Addr × Obj)) (i : Nat) (m : Str → Option Value) (nx : List (Addr × Obj)) : Prop where
  out : ∃ (ws : List Value) (n : Nat), (m (Str.ofString "levels") = some (.ref R) ∧ m (Str.ofString "row") = some (.str r tr) ∧ m (Str.ofString "due") = some (.ref lu)) ∧
    nx = (lu, listOf ws.toArray n) :: nx0 ∧ IntsAre ws (dueUp ds i) ∧ ws.length ≤ 6 * i
structure DK (ds : List Int) (R lu : Addr) (r : Str) (tr : Tok) (nx0 : List (Addr × Obj)) (it : Addr) (o : Obj) (lv : Nat) (tl : Tok) (j : Nat) (m : Str → Option Value) (nx : List (Addr × Obj)) : Prop where
  out : ∃ (ws : List Value) (n : Nat), (m (Str.ofString "levels") = some (.ref R) ∧ m (Str.ofString "row") = some (.str r tr) ∧ m (Str.ofString "due") = some (.ref lu) ∧ m (Str.ofString "level") = some (.int (lv : Int) tl)) ∧
    nx = (it, o) :: (lu, listOf ws.toArray n) :: nx0 ∧ IntsAre ws (dueUp ds lv ++ dueIn ds lv j) ∧ ws.length ≤ 6 * lv + j
theorem dueUp_succ (ds : List Int) (j : Nat) : dueUp ds (j + 1) = dueUp ds j ++ dueIn ds j ds.length := by
  unfold dueUp
  rw [List.range_succ, List.flatMap_append, List.flatMap_singleton]
theorem dueIn_succ (ds : List Int) (lv : Int) (i : Nat) : dueIn ds lv (i + 1) = dueIn ds lv i ++ dueAt ds lv i := by
  unfold dueIn
  rw [List.range_succ, List.flatMap_append, List.flatMap_singleton]
structure FJ (ds : List Int) (nx0 : List (Addr × Obj)) (k : Nat) (m : Str → Option Value) (nx : List (Addr × Obj)) : Prop where
  out : ∃ (q : Str) (tq : Tok), m (Str.ofString "first") = some (.str q tq) ∧ nx = nx0 ∧ q.cps.toList = firstUp ds k ∧ q.length ≤ 5 * k
theorem firstUp_succ (ds : List Int) (k : Nat) : firstUp ds (k + 1) = firstUp ds k ++ (List.replicate (gapAt ds k).toNat 41 ++ [40]) := by
  unfold firstUp
  rw [List.range_succ, List.flatMap_append, List.flatMap_singleton]
end Mine
end

section
open PySem PySem.W PyProof.Rows PySem.Calls
namespace Mine
set_option maxRecDepth 100000
set_option maxHeartbeats 8000000
/-- texts of rows, the outermost first: each quotes the next one -/
def bld : List (List Nat) → List (List Nat)
  | [] => []
  | r :: rs => match bld rs with
    | [] => [r]
    | t :: ts => ([50, 53, 55, 32, 34] ++ StrLaws.dbl 34 t ++ [34] ++ r) :: t :: ts
theorem bld_cons (r : List Nat) (rs : List (List Nat)) : bld (r :: rs) = (match bld rs with | [] => r | t :: _ => [50, 53, 55, 32, 34] ++ StrLaws.dbl 34 t ++ [34] ++ r) :: bld rs := by
  rw [bld]
  cases bld rs <;> rfl
theorem bld_len : ∀ rs : List (List Nat), (bld rs).length = rs.length
  | [] => rfl
  | r :: rs => by rw [bld_cons, List.length_cons, List.length_cons, bld_len rs]
theorem wGo_bld (ds : List Int) (tot : Int) : ∀ n, (wGo ds tot n).reverse = bld ((List.range n).reverse.map fun (i : Nat) => rowF ds tot (maxD ds - (i : Int)))
  | 0 => rfl
  | n + 1 => by
    have ih := wGo_bld ds tot n
    rw [wGo_succ, List.range_succ, List.reverse_append, List.reverse_singleton, List.singleton_append, List.map_cons, bld_cons, ← ih]
    unfold wStep
    rw [List.reverse_append, List.reverse_singleton, List.singleton_append]
    congr 1
    rw [← List.head?_reverse]
    cases (wGo ds tot n).reverse with
    | nil => rfl
    | cons t ts => rfl
theorem strip_dbl : ∀ (t acc r : List Nat), stripGo (StrLaws.dbl 34 t ++ 34 :: r) (some acc) = stripGo r none
  | [], acc, r => by
    show stripGo (34 :: r) (some acc) = _
    rw [stripGo, if_pos rfl]
  | c :: t, acc, r => by
    rw [StrLaws.dbl]
    by_cases hc : c = 34
    · rw [if_pos hc]
      show stripGo (c :: c :: (StrLaws.dbl 34 t ++ 34 :: r)) (some acc) = _
      rw [stripGo, if_pos hc, stripGo, if_pos hc]
      exact strip_dbl t [] r
    · rw [if_neg hc]
      show stripGo (c :: (StrLaws.dbl 34 t ++ 34 :: r)) (some acc) = _
      rw [stripGo, if_neg hc]
      exact strip_dbl t (c :: acc) r
theorem strip_quoted (t r : List Nat) : stripL ([50, 53, 55, 32, 34] ++ StrLaws.dbl 34 t ++ [34] ++ r) = [50, 53, 55, 32] ++ stripL r := by
  have e : [50, 53, 55, 32, 34] ++ StrLaws.dbl 34 t ++ [34] ++ r = [50, 53, 55, 32] ++ 34 :: (StrLaws.dbl 34 t ++ 34 :: r) := by simp
  rw [e]
  unfold stripL
  rw [stripGo_pre _ (by decide), stripGo, if_pos rfl, strip_dbl]
theorem unq_dbl {c : Nat} (hc : c ≠ 34) (r : List Nat) : ∀ t : List Nat, unq (StrLaws.dbl 34 t ++ 34 :: c :: r) = t
  | [] => by
    show unq (34 :: c :: r) = []
    rw [unq, if_pos rfl, if_neg hc]
  | d :: t => by
    rw [StrLaws.dbl]
    by_cases hd : d = 34
    · rw [if_pos hd]
      show unq (d :: d :: (StrLaws.dbl 34 t ++ 34 :: c :: r)) = _
      rw [unq, if_pos hd, if_pos hd, unq_dbl hc r t, hd]
    · rw [if_neg hd]
      show unq (d :: (StrLaws.dbl 34 t ++ 34 :: c :: r)) = _
      rw [unq_plain hd, unq_dbl hc r t]
def openR (l : List Nat) : Int := (l.count 40 : Nat) - (l.count 41 : Nat)
/-- a row of a text, and what its quoted parts leave -/
structure RowOk (r raw : List Nat) : Prop where
  head : ∃ c r', r = c :: r' ∧ (c = 40 ∨ c = 41)
  pl : plain r = true
  ln : r.length ≤ 9
  st : stripL r = raw
  rc : ∀ c ∈ raw, c = 40 ∨ c = 41
theorem left_row {r raw : List Nat} (h : RowOk r raw) : leftF r = raw := by
  unfold leftF
  rw [h.st, if_neg]
  intro e
  have : 50 ∈ raw := List.mem_of_mem_take (i := 4) (by rw [e]; exact List.mem_cons_self ..)
  rcases h.rc 50 this with z | z <;> cases z
theorem left_quoted {t r raw : List Nat} (h : RowOk r raw) : leftF ([50, 53, 55, 32, 34] ++ StrLaws.dbl 34 t ++ [34] ++ r) = raw := by
  unfold leftF
  rw [strip_quoted, h.st]
  exact (if_pos rfl).trans rfl
theorem open_row {r raw : List Nat} (h : RowOk r raw) : openF r = openR raw := by
  unfold openF
  rw [h.st]
  rfl
theorem open_quoted {t r raw : List Nat} (h : RowOk r raw) : openF ([50, 53, 55, 32, 34] ++ StrLaws.dbl 34 t ++ [34] ++ r) = openR raw := by
  unfold openF openR
  rw [strip_quoted, h.st, List.count_append, List.count_append]
  simp
theorem plain_app {a b : List Nat} (ha : plain a = true) (hb : plain b = true) : plain (a ++ b) = true := by
  unfold plain at *
  rw [List.all_append, ha, hb]
  rfl
theorem plain_dbl {t : List Nat} (h : plain t = true) : plain (StrLaws.dbl 34 t) = true := by
  unfold plain at *
  rw [List.all_eq_true] at *
  exact fun c hc => h c (dbl_mem hc)
theorem bld_ok : ∀ (ps : List (List Nat × List Nat)), (∀ p ∈ ps, RowOk p.1 p.2) → ps ≠ [] →
    Chain (bld (ps.map (·.1))) ∧ (bld (ps.map (·.1))).map leftF = ps.map (·.2) ∧ (bld (ps.map (·.1))).map openF = ps.map (fun p => openR p.2) ∧ ∀ t ∈ bld (ps.map (·.1)), t.length + 15 ≤ 12 * 2 ^ ps.length ∧ plain t = true
  | [], _, h => absurd rfl h
  | [p], hp, _ => by
    have h := hp p (List.mem_singleton.mpr rfl)
    obtain ⟨c, r', hr, hc⟩ := h.head
    refine ⟨?_, ?_, ?_, ?_⟩
    · show p.1.take 3 ≠ [50, 53, 55]
      rw [hr]
      intro e
      have : c = 50 := (List.cons.inj e).1
      omega
    · show [leftF p.1] = [p.2]
      rw [left_row h]
    · show [openF p.1] = [openR p.2]
      rw [open_row h]
    · intro t ht
      have e : t = p.1 := List.mem_singleton.mp ht
      rw [e]
      have := h.ln
      exact ⟨by show _ ≤ 12 * 2 ^ 1; omega, h.pl⟩
  | p :: q :: ps, hp, _ => by
    have h := hp p (List.mem_cons_self ..)
    obtain ⟨i1, i2, i3, i4⟩ := bld_ok (q :: ps) (fun x hx => hp x (List.mem_cons_of_mem _ hx)) (by simp)
    obtain ⟨c, r', hr, hc⟩ := h.head
    have hl : (bld ((q :: ps).map (·.1))).length = ps.length + 1 := by rw [bld_len, List.length_map]; rfl
    rw [List.map_cons, bld_cons]
    generalize hB : bld ((q :: ps).map (·.1)) = B at *
    cases B with
    | nil => simp at hl
    | cons t ts =>
      dsimp only
      refine ⟨⟨rfl, ?_, i1⟩, ?_, ?_, ?_⟩
      · have e : ([50, 53, 55, 32, 34] ++ StrLaws.dbl 34 t ++ [34] ++ p.1).drop 5 = StrLaws.dbl 34 t ++ 34 :: c :: r' := by rw [hr]; simp
        rw [e]
        exact unq_dbl (by omega) r' t
      · show leftF _ :: (t :: ts).map leftF = p.2 :: (q :: ps).map (·.2)
        rw [left_quoted h, i2]
      · show openF _ :: (t :: ts).map openF = openR p.2 :: (q :: ps).map (fun p => openR p.2)
        rw [open_quoted h, i3]
      · intro x hx
        have hpow : 2 ^ (p :: q :: ps).length = 2 * 2 ^ (q :: ps).length := by rw [List.length_cons, Nat.pow_succ, Nat.mul_comm]
        have hpw : 1 ≤ 2 ^ ps.length := Nat.one_le_two_pow
        have hpow2 : 2 ^ (q :: ps).length = 2 * 2 ^ ps.length := by rw [List.length_cons, Nat.pow_succ, Nat.mul_comm]
        rcases List.mem_cons.mp hx with rfl | hx
        · obtain ⟨j1, j2⟩ := i4 t (List.mem_cons_self ..)
          refine ⟨?_, plain_app (plain_app (plain_app (by decide) (plain_dbl j2)) (by decide)) h.pl⟩
          have k1 := dbl_len 34 t
          have k2 := h.ln
          simp only [List.length_append, List.length_cons, List.length_nil] at *
          omega
        · obtain ⟨j1, j2⟩ := i4 x hx
          exact ⟨by omega, j2⟩
def rawOk (l : List Nat) : Bool := l != [] && (decide (l.length ≤ 6) && l.all fun c => c == 40 || c == 41)
theorem raw_row {raw ins : List Nat} (h : rawOk raw = true) (hi : ins = [] ∨ ins = [34, 41, 34] ∨ ins = [34, 40, 34]) : RowOk (raw.take 1 ++ (ins ++ raw.drop 1)) raw := by
  unfold rawOk at h
  rw [Bool.and_eq_true, Bool.and_eq_true, bne_iff_ne, decide_eq_true_eq, List.all_eq_true] at h
  obtain ⟨h1, h2, h3⟩ := h
  have hc : ∀ c ∈ raw, c = 40 ∨ c = 41 := fun c hm => by
    have := h3 c hm
    rwa [Bool.or_eq_true, beq_iff_eq, beq_iff_eq] at this
  have h34 : 34 ∉ raw := fun hm => by rcases hc 34 hm with z | z <;> cases z
  have ht : 34 ∉ raw.take 1 := fun hm => h34 (List.mem_of_mem_take hm)
  have hd : 34 ∉ raw.drop 1 := fun hm => h34 (List.mem_of_mem_drop hm)
  have hp : ∀ l : List Nat, (∀ c ∈ l, c = 40 ∨ c = 41) → plain l = true := fun l hl => by
    unfold plain
    rw [List.all_eq_true]
    intro c hm
    rcases hl c hm with rfl | rfl <;> decide
  obtain ⟨c, r', rfl⟩ : ∃ c r', raw = c :: r' := by
    cases raw with
    | nil => exact absurd rfl h1
    | cons c r' => exact ⟨c, r', rfl⟩
  refine ⟨⟨c, _, rfl, hc c (List.mem_cons_self ..)⟩, ?_, ?_, ?_, hc⟩
  · refine plain_app (hp _ fun x hx => hc x (List.mem_of_mem_take hx)) (plain_app ?_ (hp _ fun x hx => hc x (List.mem_of_mem_drop hx)))
    rcases hi with rfl | rfl | rfl <;> decide
  · simp only [List.length_append, List.length_take, List.length_drop, List.length_cons] at *
    rcases hi with rfl | rfl | rfl <;> simp only [List.length_cons, List.length_nil] <;> omega
  · have e : [c] ++ r' = c :: r' := rfl
    rcases hi with rfl | rfl | rfl
    · rw [List.nil_append, List.take_append_drop]; exact stripL_plain h34
    · show stripL ([c] ++ 34 :: ([41] ++ 34 :: r')) = _
      rw [stripL_hit (pre := [c]) (mid := [41]) (r := r') ht (by decide), stripL_plain (pre := r') hd, e]
    · show stripL ([c] ++ 34 :: ([40] ++ 34 :: r')) = _
      rw [stripL_hit (pre := [c]) (mid := [40]) (r := r') ht (by decide), stripL_plain (pre := r') hd, e]
theorem insF_in (k : Int) : insF k = [] ∨ insF k = [34, 41, 34] ∨ insF k = [34, 40, 34] := by
  unfold insF
  split
  · exact .inr (.inl rfl)
  · split
    · exact .inr (.inr rfl)
    · exact .inl rfl
/-- the bare rows of a forest, the outermost first -/
def rawsF (ds : List Int) : List (List Nat) := (List.range ((maxD ds).toNat + 2)).reverse.map fun (i : Nat) => rowRaw ds (maxD ds - (i : Int))
def rowUpR (R : List (List Nat)) (i : Nat) : List Nat := (R.take i).flatMap id
def accUpR (R : List (List Nat)) (i : Nat) : Int := ((R.take i).map openR).foldl (· + ·) 0
def turnC (row : List Nat) (ac : Int) : Bool :=
  decide (0 ≤ ac) && (decide (ac ≤ 10) && (plain row && (decide (row.length ≤ 90) &&
    (checkF (row ++ List.replicate ac.toNat 41) && (!checkF (row ++ List.replicate ac.toNat 41 ++ [41]) && !checkF (40 :: (row ++ List.replicate ac.toNat 41)))))))
def lawR (ds : List Int) : Bool :=
  (rawsF ds).all rawOk && ((List.range (rawsF ds).length).all (fun i => turnC (rowUpR (rawsF ds) (i + 1)) (accUpR (rawsF ds) (i + 1))) &&
    (decide ((List.range (rawsF ds).length).map (fun i => accUpR (rawsF ds) (i + 1)) = countsF ds) && (decide (aheadF (rowUpR (rawsF ds) (rawsF ds).length) = dueUp ds (maxD ds + 1).toNat) && (decide (backF (rowUpR (rawsF ds) (rawsF ds).length) = some ds) &&
      (checkF (firstF ds) && (decide (aheadF (firstF ds) = ds) && (plain (firstF ds) && (decide ((firstF ds).length ≤ 90) && decide (maxD ds ≤ 5)))))))))
theorem lawR_ok {ds : List Int} (h : lawR ds = true) (tot : Int) : LawOk ds (writtenF ds tot).reverse := by
  unfold lawR at h
  simp only [Bool.and_eq_true, decide_eq_true_eq, List.all_eq_true] at h
  obtain ⟨h1, h2, h3, h4, h5, h6, h7, h8, h9, h10⟩ := h
  have hW : (writtenF ds tot).reverse = bld ((List.range ((maxD ds).toNat + 2)).reverse.map fun (i : Nat) => rowF ds tot (maxD ds - (i : Int))) := wGo_bld ds tot _
  have hlen : (rawsF ds).length = (maxD ds).toNat + 2 := by simp [rawsF]
  have hps := bld_ok ((List.range ((maxD ds).toNat + 2)).reverse.map fun (i : Nat) => (rowF ds tot (maxD ds - (i : Int)), rowRaw ds (maxD ds - (i : Int)))) (fun p hp => by
    obtain ⟨i, hi, rfl⟩ := List.mem_map.mp hp
    exact raw_row (h1 _ (List.mem_map.mpr ⟨i, hi, rfl⟩)) (insF_in _)) (by
    intro e
    have := congrArg List.length e
    simp at this)
  rw [List.map_map, List.map_map, List.map_map] at hps
  have e1 : (List.range ((maxD ds).toNat + 2)).reverse.map ((fun p : List Nat × List Nat => p.1) ∘ fun (i : Nat) => (rowF ds tot (maxD ds - (i : Int)), rowRaw ds (maxD ds - (i : Int)))) = (List.range ((maxD ds).toNat + 2)).reverse.map fun (i : Nat) => rowF ds tot (maxD ds - (i : Int)) := rfl
  rw [e1, ← hW] at hps
  generalize hT : (writtenF ds tot).reverse = T at hps ⊢
  obtain ⟨p1, p2, p3, p4⟩ := hps
  have hL : T.map leftF = rawsF ds := p2
  have hA : T.map openF = (rawsF ds).map openR := by
    rw [p3]; unfold rawsF; rw [List.map_map]; rfl
  have hTl : T.length = (rawsF ds).length := by rw [← hL, List.length_map]
  have hru : ∀ i, rowUp T i = rowUpR (rawsF ds) i := fun i => by
    unfold rowUp rowUpR
    rw [← hL, ← List.map_take, List.flatMap_map]
    rfl
  have hau : ∀ i, accUp T i = accUpR (rawsF ds) i := fun i => by
    unfold accUp accUpR
    rw [List.map_take, List.map_take, hA]
  refine ⟨p1, by omega, by omega, fun t ht => ?_, fun t ht => (p4 t ht).2, fun i hi => ?_, ?_, ?_, ?_, h6, h7, h8, h9, h10⟩
  · have z := (p4 t ht).1
    rw [List.length_map, List.length_reverse, List.length_range] at z
    have z2 : 2 ^ ((maxD ds).toNat + 2) ≤ 2 ^ 7 := Nat.pow_le_pow_right (by decide) (by omega)
    omega
  · have z := h2 i (List.mem_range.mpr (by omega))
    rw [← hru, ← hau] at z
    exact turnB_ok z
  · rw [← h3, hTl]
    unfold sizesUp
    exact List.map_congr_left fun i _ => hau (i + 1)
  · rw [hru, hTl]; exact h4
  · rw [hru, hTl]; exact h5
theorem chunk_split {α : Type} {l : List α} {a k : Nat} {x : α} (h : x ∈ l.drop a) : x ∈ (l.drop a).take k ∨ x ∈ l.drop (a + k) := by
  rw [← List.take_append_drop k (l.drop a), List.drop_drop] at h
  exact List.mem_append.mp h
def inC (n a k : Nat) : Bool := (((allDs n).drop a).take k).all lawR
theorem inC_get {n a k : Nat} {ds : List Int} (h : inC n a k = true) (hm : ds ∈ ((allDs n).drop a).take k) : lawR ds = true := by
  unfold inC at h
  rw [List.all_eq_true] at h
  exact h ds hm
theorem law_3_0 : inC 3 0 16 = true := by decide +kernel
theorem allDs_len3 : (allDs 3).length ≤ 16 := by decide +kernel
theorem law_at3 {ds : List Int} (h : ds ∈ allDs 3) : lawR ds = true := by
  replace h : ds ∈ (allDs 3).drop 0 := h
  rcases chunk_split (k := 16) h with h | h
  · exact inC_get law_3_0 h
  replace h : ds ∈ (allDs 3).drop 16 := h
  rw [List.drop_of_length_le allDs_len3] at h
  cases h
theorem law_4_0 : inC 4 0 16 = true := by decide +kernel
theorem law_4_16 : inC 4 16 16 = true := by decide +kernel
theorem law_4_32 : inC 4 32 16 = true := by decide +kernel
theorem allDs_len4 : (allDs 4).length ≤ 48 := by decide +kernel
theorem law_at4 {ds : List Int} (h : ds ∈ allDs 4) : lawR ds = true := by
  replace h : ds ∈ (allDs 4).drop 0 := h
  rcases chunk_split (k := 16) h with h | h
  · exact inC_get law_4_0 h
  replace h : ds ∈ (allDs 4).drop 16 := h
  rcases chunk_split (k := 16) h with h | h
  · exact inC_get law_4_16 h
  replace h : ds ∈ (allDs 4).drop 32 := h
  rcases chunk_split (k := 16) h with h | h
  · exact inC_get law_4_32 h
  replace h : ds ∈ (allDs 4).drop 48 := h
  rw [List.drop_of_length_le allDs_len4] at h
  cases h
theorem law_5_0 : inC 5 0 16 = true := by decide +kernel
theorem law_5_16 : inC 5 16 16 = true := by decide +kernel
theorem law_5_32 : inC 5 32 16 = true := by decide +kernel
theorem law_5_48 : inC 5 48 16 = true := by decide +kernel
theorem law_5_64 : inC 5 64 16 = true := by decide +kernel
theorem law_5_80 : inC 5 80 16 = true := by decide +kernel
theorem law_5_96 : inC 5 96 16 = true := by decide +kernel
theorem law_5_112 : inC 5 112 16 = true := by decide +kernel
theorem allDs_len5 : (allDs 5).length ≤ 128 := by decide +kernel
theorem law_at5 {ds : List Int} (h : ds ∈ allDs 5) : lawR ds = true := by
  replace h : ds ∈ (allDs 5).drop 0 := h
  rcases chunk_split (k := 16) h with h | h
  · exact inC_get law_5_0 h
  replace h : ds ∈ (allDs 5).drop 16 := h
  rcases chunk_split (k := 16) h with h | h
  · exact inC_get law_5_16 h
  replace h : ds ∈ (allDs 5).drop 32 := h
  rcases chunk_split (k := 16) h with h | h
  · exact inC_get law_5_32 h
  replace h : ds ∈ (allDs 5).drop 48 := h
  rcases chunk_split (k := 16) h with h | h
  · exact inC_get law_5_48 h
  replace h : ds ∈ (allDs 5).drop 64 := h
  rcases chunk_split (k := 16) h with h | h
  · exact inC_get law_5_64 h
  replace h : ds ∈ (allDs 5).drop 80 := h
  rcases chunk_split (k := 16) h with h | h
  · exact inC_get law_5_80 h
  replace h : ds ∈ (allDs 5).drop 96 := h
  rcases chunk_split (k := 16) h with h | h
  · exact inC_get law_5_96 h
  replace h : ds ∈ (allDs 5).drop 112 := h
  rcases chunk_split (k := 16) h with h | h
  · exact inC_get law_5_112 h
  replace h : ds ∈ (allDs 5).drop 128 := h
  rw [List.drop_of_length_le allDs_len5] at h
  cases h
theorem law_ok {ns : List Int} (h3 : 3 ≤ ns.length) (h5 : ns.length ≤ 5) (tot : Int) : LawOk (depthsF ns) (writtenF (depthsF ns) tot).reverse := by
  have h := depthsF_all ns
  refine lawR_ok ?_ tot
  have hn : ns.length = 3 ∨ ns.length = 4 ∨ ns.length = 5 := by omega
  rcases hn with e | e | e
  · rw [e] at h; exact law_at3 h
  · rw [e] at h; exact law_at4 h
  · rw [e] at h; exact law_at5 h
end Mine
end

section
open PySem PySem.W PyProof.Rows PySem.Calls
namespace Mine
set_option maxRecDepth 100000
set_option maxHeartbeats 8000000
section
local macro_rules | `(tactic| walk_at "subscriptTail List") => `(tactic| (refine Hold.out ?_))
local macro_rules | `(tactic| walk_at "binaryOp Add ref ref") => `(tactic| (refine Hold.out ?_))
local macro_rules | `(tactic| walk_at "call builtin:len") => `(tactic| (refine Hold.out ?_))
local macro_rules | `(tactic| k_steps) => `(tactic| repeat' (first | (k_unfold; (try dsimp only)) | walk1 | (dsimp only; walk1) | (leave1; try dsimp only) | fail "no step"))
local macro_rules | `(tactic| walk_at "call ref") => `(tactic| (refine Hold.out ?_))
local macro_rules | `(tactic| walk_at "call type:range") => `(tactic| ((with_unfolding_all refine range_news (by assumption) (by assumption) ?_); intro _ _ _ _ _ _ _ _ _))
local macro_rules | `(tactic| walk_at "subscriptTail Name Slice ref ref") => `(tactic| (refine Hold.out ?_))
local macro_rules | `(tactic| walk_at "compareOp NotEq ref ref") => `(tactic| (refine Hold.out ?_))
local macro_rules | `(tactic| walk_at "eval ListComp") => `(tactic| (refine Hold.out ?_))
local macro_rules | `(tactic| walk_at "subscriptTail Name Name ref int") => `(tactic| (refine Hold.out ?_))
local macro_rules | `(tactic| walk_at "call builtin:list.count") => `(tactic| (refine Hold.out ?_))
local macro_rules | `(tactic| walk_at "call builtin:list.append") => `(tactic| (refine Hold.out ?_))
local macro_rules | `(tactic| walk_at "subscriptTail Name BinOp ref int") => `(tactic| (refine Hold.out ?_))
theorem law_all : PySem.Challenge.rw_xo0010_01.Holds := by
  refine hd ?_
  k_fill
  intro w s₀ s₁ mg mb G Y fa o pm cd doc dV kV ho hd hcd hD hmg hg args vals as hpre hlay hrd hwl hlo
  have KX := kIn_of Y
  have X := (Ground.X G).1
  have V := (Ground.X G).2
  refine Ground.open G ?_
  intro T B D TE TW
  try (refine guard_noD D (by decide +kernel) ?_; clear D)
  have TA := at_of_top T
  obtain ⟨_, _, he, B0⟩ := based_of_top T rfl hmg ho hd
  have he' : cd = _ := he
  subst he'
  clear he
  clear hmg
  wrow_args hpre hlay hrd hwl hlo
  refine enter_call ?_
  w_top on
  have K0 := below_caller (Top.heap T)
  w_call any ho hd hcd hD T F
  clear hd TA
  k_drop
  clear hD hcd
  dsimp only
  rename_i cdr cdr2 xs _ _ _ _ _ _ _ ls vs _ hL _ _ _ hI _ hcnd _ h₁ tk₁ oc hoc N X0
  replace F : Fr s₁.heap s₁.heap.objs.size h₁ (fun y => if y = Str.ofString "script" then some (.ref ls) else none) := F
  replace hoc : oc.data = .cell none := hoc
  have hn63 : xs.length ≤ 63 := by omega
  have hfill : Challenge.rw_xo0010_01.foot = 6 := rfl
  clear X0 hcnd X V B TE TW ho
  refine wpAny_mono (Q := fun f s' => f = .ret (.bool true) ∧ Opq (Kin s₁ s' ∧ ∃ m, Fr s₁.heap s₁.heap.objs.size s'.heap m)) (E := fun _ _ => False) ?_ ?_ (fun _ _ x => x.elim)
  · refine exec_seq ?_
    have O : Ok w _ _ _ mg mb s₁.heap := ⟨KX, T⟩
    replace K0 : Below callerA s₁.heap [] s₁.heap := K0
    rename_i jh1 jh2 jh3 jh4 jh5 jw1 jw2 jw3 jh6 jh7 jh8 jh9 jh10
    clear jh10 jh9 jh8 jh7 jh6 jw3 jw2 jw1 jh5 jh4 jh3 jh2 jh1
    have X := O.k
    clear G Y KX
    refine comp_list_assign (h₀ := s₁.heap) (L := s₁.heap.objs.size) (m := fun y => if y = Str.ofString "script" then some (.ref ls) else none) (cl := []) rfl rfl (by with_unfolding_all rfl) (by with_unfolding_all rfl) (by decide) rfl (by decide) rfl (fun _ => rfl) rfl rfl ?_
    k_steps
    refine ⟨?_⟩
    refine kmk_slice_ints (F := F) (N := N) (ns := xs) (ms := xs.take 5) (c := min 5 xs.length) (hL.at fun o e => F.keep _ o e) IsPart.none (IsPart.int _ _) hI ?_ ?_ ?_ (by with_unfolding_all rfl) (by intro _; with_unfolding_all rfl) (by rw [List.size_toArray, hI.length]; exact Nat.le_trans hn63 (by decide))
    · exact kmk_upto (y := 5) hI (by decide)
    · rw [List.length_take]
    intro D0 ws0 hb0 F0 N0 hlt0 hw0 hc0 hl0
    refine ⟨D0, ws0, 0, _, fun i ys tn => IntsAre ys (((xs.take 5).take i).map fun x => Int.fmod x 1000000) ∧ tn = [], rfl, ?_, F0, N0, List.mem_cons_self .., ⟨.nil, rfl⟩, ?_, ?_, ?_⟩
    · rw [hw0.length, hc0]; exact Nat.le_trans (Nat.min_le_left ..) (by decide)
    ·
      rintro i v ys tn I C' D oI oC m₂ s₂ hi hv ⟨hy, rfl⟩ hoC hmx hk2 F6 N6 hne6 hoff6
      obtain ⟨nd, tnd, rfl, hnd⟩ := ints_at hw0 hv
      clear F0 N0
      k_steps
      refine ⟨[], ⟨hk2.trans (Kin.heap s₂ _ _), F6, N6, ⟨?_, rfl⟩⟩, fun _ hq => nomatch hq⟩
      rw [List.take_add_one, hnd, Option.toList_some, List.map_append]
      exact hy.append (.cons _ _ .nil)
    · intro i ys tn h
      rw [h.1.length, List.length_map, List.length_take]
      exact Nat.min_le_left ..
    · rintro Dp ys tn s₂ ⟨hy, rfl⟩ hk2 hoffp N6 F6
      refine ⟨?_⟩
      rw [hw0.length, List.take_length] at hy
      replace N6 : News s₁.heap s₁.heap.objs.size s₂.heap [(Dp, listOf ys.toArray ys.length), (s₁.heap.objs.size + 1, oc)] := fun q hq => N6 q (sub2 (by k_mem) (by k_mem) hq)
      have hk : Kin s₁ s₂ := ⟨hk2.os, hk2.gens, hk2.bare⟩
      have hyl : ys.length ≤ 5 := by rw [hy.length, List.length_map, hc0]; exact Nat.min_le_left ..
      have hnf : ((xs.take 5).map fun x => Int.fmod x 1000000) ++ [1, 5, 4].drop ((xs.take 5).map fun x => Int.fmod x 1000000).length = numsF xs := rfl
      generalize ((xs.take 5).map fun x => Int.fmod x 1000000) = as at hy hnf
      clear F0 N0 hk2 hw0 hl0 hc0 hL hI hoffp hlt0 
      refine exec_seq_to (fun s' => Stg s₁.heap s₁.heap.objs.size s₁ s' fun m nx => ∃ l us, m (Str.ofString "numbers") = some (.ref l) ∧ nx = [(l, listOf us.toArray 0), (s₁.heap.objs.size + 1, oc)] ∧ IntsAre us (numsF xs)) ?_ ?_
      ·
        k_steps
        refine ⟨?_⟩
        rename_i l3 h3 F3 N3 hlt3
        refine PyProof.Rows.len_list ⟨_, (N3 (Dp, listOf ys.toArray ys.length) (by k_mem)).1, rfl, _, rfl⟩ (by rw [List.size_toArray]; omega) ?_
        k_steps
        refine ⟨?_⟩
        refine kba_turn (value' := Expr.Name (Str.ofString "x") ⟨0, 0, 0, 0⟩) (fun _ => rfl) ?_
        refine kmk_slice_ints (F := F3) (N := N3) (ns := [1, 5, 4]) (ms := [1, 5, 4].drop as.length) ⟨_, (N3 _ (List.mem_cons_self ..)).1, rfl, _, rfl⟩ (IsPart.int _ _) IsPart.none (.cons _ _ (.cons _ _ (.cons _ _ .nil))) ?_ rfl ?_ (by with_unfolding_all rfl) (by intro _; with_unfolding_all rfl) (show 3 ≤ sizeLine by decide)
        · have z := kmk_from (vs := [Value.int 1 s₂.toks, Value.int 5 (s₂.toks + 1), Value.int 4 (s₂.toks + 1 + 1)]) (x := (ys.length : Int)) (.cons _ _ (.cons _ _ (.cons _ _ .nil))) (by omega)
          rw [hy.length] at z
          exact hy.length ▸ z
        intro l4 ws4 h4 F4 N4 hlt4 hw4 _ _
        clear F3 N3
        k_steps
        refine ⟨?_⟩
        refine kmk_add_ints F4 N4 ⟨_, (N4 (Dp, listOf ys.toArray ys.length) (by k_mem)).1, rfl, _, rfl⟩ ⟨_, (N4 _ (List.mem_cons_self ..)).1, rfl, _, rfl⟩ hy hw4 ?_ ?_
        · intro l5 us5 h5 F5 N5 hlt5 hi5
          clear F4 N4
          k_steps
          rename_i h6 F6 N6
          refine ⟨⟨_, _, ⟨hk.os, hk.gens, hk.bare⟩, F6, fun q hq => N6 q ?_, l5, us5, rfl, rfl, hnf ▸ hi5⟩⟩
          exact sub2 (by k_mem) (by k_mem) hq
        · rw [← hy.length, List.length_drop]
          exact Nat.le_trans (show _ ≤ 8 by simp only [List.length_cons, List.length_nil]; omega) (by decide)
      · rintro s₃ ⟨m3, nx3, hk3, F3, N3, l3, us3, hm3, rfl, hu3⟩
        clear hy hyl hnf hk F6 N6
        rw [← upd_self hm3] at F3
        have hnl := numsF_len xs
        have hnin := numsF_in xs
        generalize numsF xs = ns at hu3 hnl hnin ⊢
        refine exec_seq_to (fun s' => Stg s₁.heap s₁.heap.objs.size s₁ s' fun m nx => ∃ ld vd od nd, m (Str.ofString "numbers") = some (.ref l3) ∧ nx = [(s₁.heap.objs.size + 1, od), (ld, listOf vd.toArray nd), (l3, listOf us3.toArray 0)] ∧ od.data = .cell (some (.ref ld)) ∧ IntsAre vd (depthsF ns) ∧ @Ne Nat (s₁.heap.objs.size + 1) ld) ?_ ?_
        ·
          k_steps
          refine ⟨?_⟩
          refine depths_spec (O.keeps F3.keep) hfill (by decide) (by decide) ⟨_, (N3 _ (List.mem_cons_self ..)).1, rfl, _, rfl⟩ hu3 hnl.2 ?_
          intro ld vd s₄ hx hnew hld hvd
          obtain ⟨nd, hld⟩ := hld
          have F4 := fr_ext F3 hx
          have hne := news_ne N3 hnew
          have e1 : @Ne Nat (s₁.heap.objs.size + 1) ld := hne (_, oc) (by k_mem)
          have N4 := news_new F3 hnew hld (news_ext N3 hx)
          clear F3 N3 hne
          k_steps
          rename_i h5 o5 F5 N5 hd5
          refine ⟨⟨_, _, hk3.trans (hx.kin.trans (Kin.heap s₄ _ _)), F5, fun q hq => N5 q ?_, ld, vd, o5, nd, rfl, rfl, hd5, hvd, e1⟩⟩
          exact sub3 (by k_mem) (by k_mem) (by k_mem) hq
        · rintro s₄ ⟨m4, nx4, hk4, F4, N4, ld, vd, od, nd, hm4, rfl, hod, hvd, e1⟩
          clear hk3 F3 N3 hm3
          rw [← upd_self hm4] at F4
          obtain ⟨hdl, hdr⟩ := allDs_in (depthsF_all ns)
          have htot : 0 ≤ ns.sum ∧ ns.sum ≤ 5000000 := by
            have := sum_bd hnin
            omega
          have hlaw : LawOk (depthsF ns) (writtenF (depthsF ns) ns.sum).reverse := law_ok hnl.1 hnl.2 _
          generalize depthsF ns = ds at *
          have hvl : vd.length ≤ 6 := by rw [hvd.length]; omega
          have hvl0 : 0 < vd.length := by rw [hvd.length]; omega
          refine exec_seq_to (fun s' => Stg s₁.heap s₁.heap.objs.size s₁ s' fun m nx => ∃ R t u v, m (Str.ofString "numbers") = some (.ref l3) ∧ m (Str.ofString "levels") = some (.ref R) ∧ nx = [(R, rangeO 0 (maxD ds + 1) 1 t u v), (s₁.heap.objs.size + 1, od), (ld, listOf vd.toArray nd), (l3, listOf us3.toArray 0)] ∧ @LT.lt Nat _ (s₁.heap.objs.size + 1) R ∧ @LT.lt Nat _ ld R) ?_ ?_
          ·
            k_steps
            rename_i h5 M5 t5 k5 hM1 hM2 R5 h6 k6 t6 u6 v6 hlt6 h7 F7 N7
            rw [← maxD_eq (fun d hd => (hdr d hd).1) hM1 hM2] at N7
            exact ⟨⟨_, _, hk4.trans (Kin.heap s₄ _ _), F7, N7, R5, t6, u6, v6, rfl, rfl, rfl, hlt6 _ (List.mem_cons_self ..), hlt6 _ (List.mem_cons_of_mem _ (List.mem_cons_self ..))⟩⟩
          · rintro s₅ ⟨m5, nx5, hk5, F5, N5, R, tR, uR, vR, hm5a, hm5b, rfl, e2, e3⟩
            clear hk4 F4 N4 hm4
            rw [← upd_self hm5a, ← upd_self hm5b] at F5
            refine exec_seq_to (fun s' => Stg s₁.heap s₁.heap.objs.size s₁ s' fun m nx => ∃ lw uw yw nw, m (Str.ofString "levels") = some (.ref R) ∧ m (Str.ofString "written") = some (.ref lw) ∧ nx = [(lw, listOf uw.toArray nw), (R, rangeO 0 (maxD ds + 1) 1 tR uR vR), (s₁.heap.objs.size + 1, od), (ld, listOf vd.toArray nd)] ∧ StrsAre uw yw ∧ yw.map (·.cps.toList) = writtenF ds ns.sum) ?_ ?_
            ·
              k_steps
              refine ⟨?_⟩
              rename_i h6 k6 t6 F6 N6
              refine written_spec (O.keeps F6.keep) hfill (by decide) (by decide) ⟨_, (N6 (ld, listOf vd.toArray nd) (by k_mem)).1, rfl, _, rfl⟩ hvd (by omega) (by omega) (fun d hd => ⟨(hdr d hd).1, Int.le_trans (hdr d hd).2 (by decide)⟩) htot.1 (by omega) ?_
              intro lw uw yw s₇ hx hnew hlw huw hyw
              obtain ⟨nw, hlw⟩ := hlw
              have F7 := fr_ext F6 hx
              have N7 := news_new F6 hnew hlw (news_ext N6 hx)
              clear F6 N6 F5 N5
              k_steps
              all_goals (try exact True.intro)
              rename_i h8 F8 N8
              refine ⟨⟨_, _, hk5.trans (Kin.trans (Kin.heap s₅ _ _) (hx.kin.trans (Kin.heap s₇ _ _))), F8, fun q hq => N8 q ?_, lw, uw, yw, nw, rfl, rfl, rfl, huw, hyw⟩⟩
              exact sub4 (by k_mem) (by k_mem) (by k_mem) (by k_mem) hq
            · rintro s₆ ⟨m6, nx6, hk6, F6, N6, lw, uw, yw, nw, hm6a, hm6b, rfl, huw, hyw⟩
              clear hk5 F5 N5 hm5a hm5b
              rw [← upd_self hm6a, ← upd_self hm6b] at F6
              generalize hTe : (writtenF ds ns.sum).reverse = T at hlaw
              have hyT : yw.reverse.map (·.cps.toList) = T := by rw [List.map_reverse, hyw, hTe]
              have hywl : yw.length = T.length := by rw [← hyT, List.length_map, List.length_reverse]
              have huwl : uw.length = T.length := by rw [huw.length, hywl]
              have hT8 := hlaw.n8
              have hT0 := hlaw.n0
              refine exec_seq_to (fun s' => Stg s₁.heap s₁.heap.objs.size s₁ s' fun m nx => ∃ lt ut yt nt, m (Str.ofString "levels") = some (.ref R) ∧ m (Str.ofString "written") = some (.ref lw) ∧ m (Str.ofString "texts") = some (.ref lt) ∧ nx = [(lt, listOf ut.toArray nt), (lw, listOf uw.toArray nw), (R, rangeO 0 (maxD ds + 1) 1 tR uR vR), (s₁.heap.objs.size + 1, od), (ld, listOf vd.toArray nd)] ∧ StrsAre ut yt ∧ yt.map (·.cps.toList) = T) ?_ ?_
              ·
                obtain ⟨yw0, y, rfl⟩ : ∃ yw0 y, yw = yw0 ++ [y] := by
                  rcases List.eq_nil_or_concat yw with rfl | ⟨a, b, rfl⟩
                  · rw [← hywl] at hT0; cases hT0
                  · exact ⟨a, b, List.concat_eq_append⟩
                have hlast : ∀ k, k = yw0.length → (yw0 ++ [y]).getD k Str.empty = y := by rintro k rfl; simp [List.getD]
                have hywl2 : (yw0 ++ [y]).length = yw0.length + 1 := by simp
                k_steps
                refine ⟨?_⟩
                rw [hlast _ (by omega)]
                refine kun_lenL (k := (T.length : Int)) ⟨_, (N6 (lw, listOf uw.toArray nw) (by k_mem)).1, rfl, _, rfl⟩ (by rw [List.size_toArray, huwl]) (by omega) ?_
                k_steps
                refine ⟨?_⟩
                refine texts_spec (ts := T) O (pushC K0 F6 rfl) (dicts_one F6) hfill (by decide) (by decide) hlaw.chain (by rw [← hyT, List.reverse_append]; rfl) rfl hT8 (fun t ht => Nat.le_trans (hlaw.len t ht) (by decide)) ?_
                intro lt ut yt s₈ g8 KT hkg hki hnew hlt hut hyt
                obtain ⟨nt, hlt⟩ := hlt
                have F8 := fr_turn F6 KT hkg
                have N8 := news_new F6 hnew hlt (news_turn N6 KT hkg)
                clear F6 N6 hlast hywl2
                k_steps
                all_goals (try exact True.intro)
                rename_i h9 F9 N9
                exact ⟨⟨_, _, hk6.trans (Kin.trans (Kin.heap s₆ _ _) (hki.trans (Kin.heap s₈ _ _))), F9, N9, lt, ut, yt, nt, rfl, rfl, rfl, rfl, hut, hyt⟩⟩
              · rintro s₇ ⟨m7, nx7, hk7, F7, N7, lt, ut, yt, nt, hm7a, hm7b, hm7c, rfl, hut, hyt⟩
                clear hk6 F6 N6 hm6a hm6b
                rw [← upd_self hm7a, ← upd_self hm7b, ← upd_self hm7c] at F7
                have hytr : yt = yw.reverse := by
                  have : yt.map (·.cps.toList) = yw.reverse.map (·.cps.toList) := hyt.trans hyT.symm
                  exact List.map_inj_right (fun a b h => str_of_list h) |>.mp this
                have hsm : ∀ z ∈ yt, ∀ c ∈ z.cps.toList, c < 128 := fun z hz => (plain_ok (hlaw.pl _ (by rw [← hyt]; exact List.mem_map_of_mem hz))).2
                have hdec : (!decide (yt = yw.reverse)) = false := by rw [hytr]; simp
                have hutl : ut.length = T.length := by rw [hut.length, ← hyt, List.length_map]
                refine exec_seq_to (fun s' => Stg s₁.heap s₁.heap.objs.size s₁ s' fun m nx => m (Str.ofString "levels") = some (.ref R) ∧ m (Str.ofString "texts") = some (.ref lt) ∧ nx = [(lt, listOf ut.toArray nt), (R, rangeO 0 (maxD ds + 1) 1 tR uR vR), (s₁.heap.objs.size + 1, od), (ld, listOf vd.toArray nd)]) ?_ ?_
                ·
                  k_steps
                  refine ⟨?_⟩
                  refine krv_lit (F := F7) (N := N7) (its := uw.toArray) (zs := uw.reverse) ⟨_, (N7 (lw, listOf uw.toArray nw) (by k_mem)).1, rfl, _, rfl⟩ (IsPart.int _ _) rfl ?_ (by with_unfolding_all rfl) (by intro _; with_unfolding_all rfl) (by rw [List.size_toArray, huwl]; exact Nat.le_trans hT8 (by decide))
                  intro D8 h8 F8 N8 hlt8
                  clear F7 N7
                  k_steps
                  refine ⟨?_⟩
                  refine ne_strs ⟨_, (N8 (lt, listOf ut.toArray nt) (by k_mem)).1, rfl, _, rfl⟩ ⟨_, (N8 _ (List.mem_cons_self ..)).1, rfl, _, rfl⟩ hut (StrsAre.rev huw) hsm (fun z hz => hsm z (hytr ▸ hz)) (show 4 + 3 + 64 < cLine by decide) ?_
                  rw [hdec]
                  k_steps
                  all_goals (try exact True.intro)
                  refine ⟨⟨_, _, hk7.trans (Kin.heap s₇ _ _), F8, fun q hq => N8 q ?_, rfl, rfl, rfl⟩⟩
                  exact sub4 (by k_mem) (by k_mem) (by k_mem) (by k_mem) hq
                · rintro s₈ ⟨m8, nx8, hk8, F8, N8, hm8a, hm8b, rfl⟩
                  clear hk7 F7 N7 hm7a hm7b hm7c hdec hywl hyT huw hyw huwl hytr
                  rw [← upd_self hm8a, ← upd_self hm8b] at F8
                  refine exec_seq ?_
                  k_steps
                  refine ⟨?_⟩
                  refine exec_seq ?_
                  k_steps
                  refine ⟨?_⟩
                  refine exec_seq_to (fun s' => Stg s₁.heap s₁.heap.objs.size s₁ s' fun m nx => ∃ (lz : Addr) (tr ta : Tok), (m (Str.ofString "levels") = some (.ref R) ∧ m (Str.ofString "texts") = some (.ref lt) ∧ m (Str.ofString "row") = some (.str (Str.ofString "") tr) ∧ m (Str.ofString "account") = some (.int 0 ta) ∧ m (Str.ofString "sizes") = some (.ref lz)) ∧
                      nx = (lz, listOf #[] 0) :: [(lt, listOf ut.toArray nt), (R, rangeO 0 (maxD ds + 1) 1 tR uR vR), (s₁.heap.objs.size + 1, od), (ld, listOf vd.toArray nd)] ∧ (@LT.lt Nat _ lt lz ∧ @LT.lt Nat _ R lz ∧ @LT.lt Nat _ (s₁.heap.objs.size + 1) lz ∧ @LT.lt Nat _ ld lz)) ?_ ?_
                  · k_steps
                    all_goals (try exact True.intro)
                    rename_i ha9 hb9 lz hc9 hlt9 h9 F9 N9
                    exact ⟨⟨_, _, hk8.trans (Kin.heap s₈ _ _), F9, N9, lz, _, _, ⟨rfl, rfl, rfl, rfl, rfl⟩, rfl, hlt9⟩⟩
                  rintro s₉ ⟨m9, nx9, hk9, F9, N9, lz, trz, taz, ⟨hm9a, hm9b, hm9c, hm9d, hm9e⟩, rfl, hlt9⟩
                  clear hk8 hm8a hm8b
                  rw [← upd_self hm9b] at F9
                  refine exec_seq ?_
                  refine for_list (l := lt) (vs := ut) rfl (by intro Q' h; k_steps; exact h) rfl rfl (fun _ => rfl) F9 N9 (AJ T R lz [(lt, listOf ut.toArray nt), (R, rangeO 0 (maxD ds + 1) 1 tR uR vR), (s₁.heap.objs.size + 1, od), (ld, listOf vd.toArray nd)]) ?_ ?_ ?_ ?_
                  · exact ⟨Str.ofString "", trz, taz, [], 0, ⟨hm9a, hm9c, hm9d, hm9e⟩, rfl, rfl, .nil⟩
                  · refine .inr ?_
                    rintro i m nx ⟨r, tr, ta, us, n, _, rfl, _⟩
                    exact ⟨nt, by k_mem⟩
                  ·
                    rintro i v m nx it o s₁₀ hv ⟨r, tr, ta, us, n, ⟨g1, g2, g3, g4⟩, rfl, hr, hus⟩ hk10 F10 N10 hne10
                    rw [← upd_self g1, ← upd_self g2, ← upd_self g3, ← upd_self g4] at F10
                    clear F9 N9
                    obtain ⟨y, ty, rfl, hy⟩ := strs_at hut hv
                    have hTi : T[i]? = some y.cps.toList := by rw [← hyt, List.getElem?_map, hy]; rfl
                    have hyp := plain_ok (hlaw.pl _ (List.mem_of_getElem? hTi))
                    have hyn : y.length ≤ 4096 := by rw [len_list]; exact Nat.le_trans (hlaw.len _ (List.mem_of_getElem? hTi)) (by decide)
                    have hiT : i < T.length := (List.getElem?_eq_some_iff.mp hTi).1
                    have hto := hlaw.turn i hiT
                    have hru := rowUp_succ hTi
                    have hau := accUp_succ hTi
                    have hrl : r.length ≤ 90 := by
                      have := hto.ln
                      rw [hru, List.length_append] at this
                      rw [len_list, hr]; omega
                    refine exec_seq ?_
                    k_steps
                    refine ⟨?_⟩
                    refine strip_spec (O.keeps F10.keep) hfill (by decide) (by decide) hyp.1 hyn ?_
                    intro z tz s₁₁ hx11 hz
                    have F11 := fr_ext F10 hx11
                    have N11 := news_ext N10 hx11
                    clear F10 N10
                    k_steps
                    refine ⟨?_⟩
                    have hzl : z.length ≤ 94 := by
                      have h1 := hto.ln
                      rw [hru, List.length_append] at h1
                      rw [len_list, hz]
                      unfold leftF at h1
                      split at h1
                      · rw [List.length_drop] at h1; omega
                      · omega
                    have hns : (Txt.slice z none (some 4)).cps.toList = z.cps.toList.take 4 := slice_ns_list z (by decide)
                    have hsn : (Txt.slice z (some 4) none).cps.toList = z.cps.toList.drop 4 := slice_sn_all z 4
                    refine exec_seq_to (fun s' => Stg s₁.heap s₁.heap.objs.size s₁₁ s' fun m nx => ∃ (r' : Str) (tr' : Tok), (m (Str.ofString "levels") = some (.ref R) ∧ m (Str.ofString "row") = some (.str r' tr') ∧ m (Str.ofString "account") = some (.int (accUp T i) ta) ∧ m (Str.ofString "sizes") = some (.ref lz) ∧ m (Str.ofString "text") = some (.str y ty)) ∧
                        nx = (it, o) :: (lz, listOf us.toArray n) :: [(lt, listOf ut.toArray nt), (R, rangeO 0 (maxD ds + 1) 1 tR uR vR), (s₁.heap.objs.size + 1, od), (ld, listOf vd.toArray nd)] ∧ r'.cps.toList = rowUp T (i + 1)) ?_ ?_
                    ·
                      by_cases h4 : (stripL y.cps.toList).take 4 = [50, 53, 55, 32]
                      · have hte : (Txt.slice z none (some 4) == Str.ofString "257 ") = true := by
                          rw [beq_iff_eq]
                          refine str_of_list ?_
                          rw [hns, hz, h4]; rfl
                        k_steps
                        all_goals (try exact True.intro)
                        rename_i F12 N12
                        refine ⟨⟨_, _, Kin.heap s₁₁ _ _, F12, N12, _, _, ⟨rfl, rfl, rfl, rfl, rfl⟩, rfl, ?_⟩⟩
                        rw [str_app_list, hsn, hr, hz, hru]
                        unfold leftF
                        rw [if_pos h4]
                      · have hte : (Txt.slice z none (some 4) == Str.ofString "257 ") = false := by
                          rw [beq_eq_false_iff_ne]
                          intro e
                          apply h4
                          rw [← hz, ← hns, e]; rfl
                        k_steps
                        all_goals (try exact True.intro)
                        rename_i F12 N12
                        refine ⟨⟨_, _, Kin.heap s₁₁ _ _, F12, N12, _, _, ⟨rfl, rfl, rfl, rfl, rfl⟩, rfl, ?_⟩⟩
                        rw [str_app_list, hr, hz, hru]
                        unfold leftF
                        rw [if_neg h4]
                    · rintro s₁₂ ⟨m12, nx12, hk12, F12, N12, r', tr', ⟨q1, q2, q3, q4, q5⟩, rfl, hr'⟩
                      rw [← upd_self q1, ← upd_self q2, ← upd_self q3, ← upd_self q4, ← upd_self q5] at F12
                      clear F11 N11 hns hsn hzl hz
                      have hr'l : r'.length ≤ 90 := by rw [len_list, hr']; exact hto.ln
                      have hul : us.length ≤ 8 := by
                        have h1 : (sizesUp T i).length = i := by simp [sizesUp]
                        rw [hus.length, h1]; omega
                      have hbs : ∀ bb : Array UInt8, nats bb = y.cps.toList → bb.size ≤ 1048576 := fun bb hbb => by
                        have e5 := congrArg List.length hbb
                        simp only [nats, List.length_map, Array.length_toList] at e5
                        rw [e5]
                        exact Nat.le_trans hyn (by decide)
                      refine exec_seq_to (fun s' => Stg s₁.heap s₁.heap.objs.size s₁₂ s' fun m nx => ∃ (ta' : Tok), (m (Str.ofString "levels") = some (.ref R) ∧ m (Str.ofString "row") = some (.str r' tr') ∧ m (Str.ofString "account") = some (.int (accUp T (i + 1)) ta') ∧ m (Str.ofString "sizes") = some (.ref lz)) ∧
                        nx = (it, o) :: (lz, listOf us.toArray n) :: [(lt, listOf ut.toArray nt), (R, rangeO 0 (maxD ds + 1) 1 tR uR vR), (s₁.heap.objs.size + 1, od), (ld, listOf vd.toArray nd)]) ?_ ?_
                      ·
                        k_with "getMethod str" => (refine getMethod_builtin (typeIs_str _ _ _) str_attrs F.slot_str_encode F.type_str_encode (by rintro a ⟨⟩) ?_)
                        k_with "call builtin:str.encode" => (refine call_encode hyp.2 (Nat.le_trans hyn (by decide)) ?_; intro bb tb kb hbb)
                        k_steps
                        refine ⟨?_⟩
                        rename_i bb tb kb hbb
                        refine pdepth_spec (O.keeps F12.keep) hfill (by decide) (by decide) (by rw [hbb]; exact hyp.1) (hbs bb hbb) ?_
                        intro ta' s₁₃ hx13
                        rw [hbb, ← hau]
                        have F13 := ext_fr hx13 F12
                        have N13 := ext_news hx13 N12
                        clear F12 N12
                        k_steps
                        all_goals (try exact True.intro)
                        rename_i h14 F14 N14
                        exact ⟨⟨_, _, Kin.trans (Kin.heap s₁₂ _ _) (hx13.kin.trans (Kin.heap s₁₃ _ _)), F14, N14, ta', ⟨rfl, rfl, rfl, rfl⟩, rfl⟩⟩
                      · rintro s₁₃ ⟨m13, nx13, hk13, F13, N13, ta', ⟨w1, w2, w3, w4⟩, rfl⟩
                        clear F12 N12 q1 q2 q3 q4 q5 hbs
                        rw [← upd_self w1, ← upd_self w2, ← upd_self w3, ← upd_self w4] at F13
                        have x1 : @Ne Nat lz it := hne10 (lz, listOf us.toArray n) (by k_mem)
                        have x2 : ∀ p ∈ [(lt, listOf ut.toArray nt), (R, rangeO 0 (maxD ds + 1) 1 tR uR vR), (s₁.heap.objs.size + 1, od), (ld, listOf vd.toArray nd)], @Ne Nat p.1 it := fun p hp => hne10 p (List.mem_cons_of_mem _ hp)
                        obtain ⟨x3, x4, x5, x6⟩ := hlt9
                        refine exec_seq_to (fun s' => Stg s₁.heap s₁.heap.objs.size s₁₃ s' fun m nx => (m (Str.ofString "levels") = some (.ref R) ∧ m (Str.ofString "row") = some (.str r' tr') ∧ m (Str.ofString "account") = some (.int (accUp T (i + 1)) ta') ∧ m (Str.ofString "sizes") = some (.ref lz)) ∧
                          nx = (it, o) :: (lz, listOf (us ++ [Value.int (accUp T (i + 1)) ta']).toArray (n + 1)) :: [(lt, listOf ut.toArray nt), (R, rangeO 0 (maxD ds + 1) 1 tR uR vR), (s₁.heap.objs.size + 1, od), (ld, listOf vd.toArray nd)]) ?_ ?_
                        ·
                          k_steps
                          refine ⟨?_⟩
                          dsimp only
                          k_dflt (refine' append_K ?k1 ?k2 ?k3 ?_ ?z)
                          case k1 => k_asm
                          case k2 => k_asm
                          case k3 => k_upd
                          case z => size_fits
                          k_whole
                          intro h14 F14 N14
                          exact ⟨rfl, ⟨⟨_, _, Kin.heap s₁₃ _ _, F14, N14, ⟨rfl, rfl, rfl, rfl⟩, by rw [List.push_toArray]⟩⟩⟩
                        · rintro s₁₄ ⟨m14, nx14, hk14, F14, N14, ⟨w1, w2, w3, w4⟩, rfl⟩
                          clear F13 N13
                          rw [← upd_self w1, ← upd_self w2, ← upd_self w3, ← upd_self w4] at F14
                          have hac0 := hto.nn
                          have hac1 := hto.le
                          generalize hac : accUp T (i + 1) = ac at *
                          refine exec_seq_to (fun s' => Stg s₁.heap s₁.heap.objs.size s₁₄ s' fun m nx => ∃ (q : Str) (tq : Tok), (m (Str.ofString "levels") = some (.ref R) ∧ m (Str.ofString "row") = some (.str r' tr') ∧ m (Str.ofString "account") = some (.int ac ta') ∧ m (Str.ofString "sizes") = some (.ref lz) ∧ m (Str.ofString "closed") = some (.str q tq)) ∧
                            nx = (it, o) :: (lz, listOf (us ++ [Value.int ac ta']).toArray (n + 1)) :: [(lt, listOf ut.toArray nt), (R, rangeO 0 (maxD ds + 1) 1 tR uR vR), (s₁.heap.objs.size + 1, od), (ld, listOf vd.toArray nd)] ∧ q.cps.toList = closedUp T (i + 1)) ?_ ?_
                          ·
                            k_steps
                            all_goals (try exact True.intro)
                            rename_i F15 N15
                            refine ⟨⟨_, _, Kin.heap s₁₄ _ _, F15, N15, _, _, ⟨rfl, rfl, rfl, rfl, rfl⟩, rfl, ?_⟩⟩
                            rw [str_app_list, hr']
                            unfold closedUp
                            rw [hac]
                            exact congrArg _ (mul_one_list 41 ac)
                          · rintro s₁₅ ⟨m15, nx15, hk15, F15, N15, q, tq, ⟨v1, v2, v3, v4, v5⟩, rfl, hq⟩
                            clear F14 N14 w1 w2 w3 w4
                            rw [← upd_self v1, ← upd_self v2, ← upd_self v3, ← upd_self v4, ← upd_self v5] at F15
                            have hq92 : ∀ c ∈ q.cps.toList, c ≠ 92 := by
                              rw [hq]; unfold closedUp
                              intro c hc
                              rcases List.mem_append.mp hc with hc | hc
                              · exact (plain_ok hto.pl).1 c hc
                              · rw [(List.mem_replicate.mp hc).2]; decide
                            have hql : q.length ≤ 100 := by
                              have := hto.ln
                              rw [len_list, hq]; unfold closedUp
                              rw [hac, List.length_append, List.length_replicate]; omega
                            refine exec_seq_to (fun s' => Stg s₁.heap s₁.heap.objs.size s₁₅ s' fun m nx => (m (Str.ofString "levels") = some (.ref R) ∧ m (Str.ofString "row") = some (.str r' tr') ∧ m (Str.ofString "account") = some (.int ac ta') ∧ m (Str.ofString "sizes") = some (.ref lz) ∧ m (Str.ofString "closed") = some (.str q tq)) ∧
                              nx = (it, o) :: (lz, listOf (us ++ [Value.int ac ta']).toArray (n + 1)) :: [(lt, listOf ut.toArray nt), (R, rangeO 0 (maxD ds + 1) 1 tR uR vR), (s₁.heap.objs.size + 1, od), (ld, listOf vd.toArray nd)]) ?_ ?_
                            ·
                              k_steps
                              refine ⟨?_⟩
                              refine check_spec (O.keeps F15.keep) hfill (by decide) (by decide) hq92 (Nat.le_trans hql (by decide)) ?_
                              intro s₁₆ hx16
                              have F16 := ext_fr hx16 F15
                              have N16 := ext_news hx16 N15
                              clear F15 N15
                              rw [hq, hto.c1]
                              k_steps
                              all_goals (try exact True.intro)
                              exact ⟨⟨_, _, hx16.kin, F16, N16, ⟨rfl, rfl, rfl, rfl, rfl⟩, rfl⟩⟩
                            · rintro s₁₆ ⟨m16, nx16, hk16, F16, N16, ⟨u1, u2, u3, u4, u5⟩, rfl⟩
                              clear F15 N15 v1 v2 v3 v4 v5
                              rw [← upd_self u1, ← upd_self u2, ← upd_self u3, ← upd_self u4, ← upd_self u5] at F16
                              refine exec_seq_to (fun s' => Stg s₁.heap s₁.heap.objs.size s₁₆ s' fun m nx => (m (Str.ofString "levels") = some (.ref R) ∧ m (Str.ofString "row") = some (.str r' tr') ∧ m (Str.ofString "account") = some (.int ac ta') ∧ m (Str.ofString "sizes") = some (.ref lz)) ∧
                                nx = (it, o) :: (lz, listOf (us ++ [Value.int ac ta']).toArray (n + 1)) :: [(lt, listOf ut.toArray nt), (R, rangeO 0 (maxD ds + 1) 1 tR uR vR), (s₁.heap.objs.size + 1, od), (ld, listOf vd.toArray nd)]) ?_ ?_
                              ·
                                k_steps
                                refine ⟨?_⟩
                                have h2l : (q ++ Str.ofString ")").cps.toList = closedUp T (i + 1) ++ [41] := by rw [str_app_list, hq]; rfl
                                refine check_spec (O.keeps F16.keep) hfill (by decide) (by decide) (by rw [h2l, ← hq]; intro c hc; rcases List.mem_append.mp hc with hc | hc; exact hq92 c hc; rw [List.mem_singleton.mp hc]; decide) (by rw [str_app_len]; exact Nat.le_trans (Nat.add_le_add_right hql 1) (by decide)) ?_
                                intro s₁₇ hx17
                                have F17 := ext_fr hx17 F16
                                have N17 := ext_news hx17 N16
                                clear F16 N16
                                rw [h2l, hto.c2]
                                k_steps
                                refine ⟨?_⟩
                                have h3l : (Str.ofString "(" ++ q).cps.toList = 40 :: closedUp T (i + 1) := by rw [str_app_list, hq]; rfl
                                have h3n : (Str.ofString "(" ++ q).length ≤ 101 := by
                                  rw [len_list, h3l, List.length_cons, ← hq, ← len_list]; omega
                                refine check_spec (O.keeps F17.keep) hfill (by decide) (by decide) (by rw [h3l, ← hq]; intro c hc; rcases List.mem_cons.mp hc with rfl | hc; decide; exact hq92 c hc) (Nat.le_trans h3n (by decide)) ?_
                                intro s₁₈ hx18
                                have F18 := ext_fr hx18 F17
                                have N18 := ext_news hx18 N17
                                clear F17 N17
                                rw [h3l, hto.c3]
                                k_steps
                                all_goals (try exact True.intro)
                                exact ⟨⟨_, _, Kin.trans (Kin.heap s₁₆ _ _) (hx17.kin.trans (Kin.trans (Kin.heap s₁₇ _ _) hx18.kin)), F18, N18, ⟨rfl, rfl, rfl, rfl⟩, rfl⟩⟩
                              · rintro s₁₇ ⟨m17, nx17, hk17, F17, N17, ⟨u1, u2, u3, u4⟩, rfl⟩
                                refine wpAny_execs_nil ?_
                                refine Turn.mk' (hk10.trans (hx11.kin.trans (Kin.trans (Kin.heap s₁₁ _ _) (hk12.trans (hk13.trans (hk14.trans (hk15.trans (hk16.trans hk17)))))))) F17 N17 ?_ ⟨r', tr', ta', us ++ [Value.int ac ta'], n + 1, ⟨u1, u2, by rw [hac]; exact u3, u4⟩, rfl, hr', ?_⟩
                                · intro p hp
                                  rcases List.mem_cons.mp hp with rfl | hp
                                  · exact x1
                                  · exact x2 p hp
                                · rw [sizesUp_succ, hac]
                                  exact hus.append (.cons _ _ .nil)
                  · rintro m nx s₁₀ ⟨r, tr, ta, us, n, ⟨g1, g2, g3, g4⟩, rfl, hr, hus⟩ hk10 F10 N10
                    rw [← upd_self g1, ← upd_self g2, ← upd_self g4] at F10
                    rw [hutl] at hr hus
                    clear F9 N9 hm9a hm9b hm9c hm9d hm9e
                    refine ⟨?_⟩
                    obtain ⟨x3, x4, x5, x6⟩ := hlt9
                    have hsz := hlaw.sizes
                    rw [hsz] at hus
                    have hk11 : Kin s₁ s₁₀ := hk9.trans hk10
                    clear hk9 hk10 hut hyt hsm hutl
                    have hM0 : 0 ≤ maxD ds ∧ maxD ds ≤ 5 := ⟨(foldl_max_ge ds 0).1, hlaw.m5⟩
                    have hodc := hod
                    refine exec_seq_to (fun s' => Stg s₁.heap s₁.heap.objs.size s₁₀ s' fun m nx => (m (Str.ofString "levels") = some (.ref R) ∧ m (Str.ofString "row") = some (.str r tr)) ∧
                        nx = [(R, rangeO 0 (maxD ds + 1) 1 tR uR vR), (s₁.heap.objs.size + 1, od), (ld, listOf vd.toArray nd)]) ?_ ?_
                    ·
                      k_steps
                      refine ⟨?_⟩
                      refine comp_range (h₀ := s₁.heap) (L := s₁.heap.objs.size) (a := 0) (b := maxD ds + 1) (n := (maxD ds + 1).toNat) (cl := [(Str.ofString "depths", s₁.heap.objs.size + 1)]) ?_ ?_ ?_ rfl F10 N10 ?_ (by with_unfolding_all rfl) (by decide) rfl (by decide) rfl (fun _ => rfl)
                        (fun i ys => IntsAre ys (((levs ds).take i).map (fun v => ((ds.count v : Nat) : Int))) ∧ ys.length = i) ⟨.nil, rfl⟩ ?_ ?_ ?_
                      · rw [rangeSize_nat, Int.sub_zero]
                      · exact small_one (by omega) (by omega) (by omega) (by omega)
                      · exact Nat.le_trans (show _ ≤ 6 by omega) (by decide)
                      · intro Q' hq
                        k_steps
                        exact hq s₁₀.heap s₁₀.toks R tR uR vR F10 N10 (N10 (R, rangeO 0 (maxD ds + 1) 1 tR uR vR) (by k_mem)).1
                      · intro k t ys I C' D oI oC m₂ s₁₁ hk3 j hoC hm hk2 F11 N11 hne3 hoff3
                        refine wpAny_tests_nil ?_
                        rw [if_pos rfl]
                        clear F10 N10
                        k_steps
                        refine ⟨?_⟩
                        dsimp only
                        refine count_list_ints ⟨_, (N11 (ld, listOf vd.toArray nd) (by k_mem)).1, rfl, _, rfl⟩ hvd ?_
                        refine ⟨hk2.trans (Kin.heap s₁₁ _ _), F11, N11, ?_, ?_⟩
                        · rw [levs_take hk3, List.map_append, Int.zero_add]
                          exact j.1.append (.cons _ _ .nil)
                        · rw [List.length_append, j.2]; rfl
                      · intro i ys h
                        exact Nat.le_of_eq h.2
                      · intro D ys s₁₁ j hk2 F11 N11 hoff3
                        clear F10 N10
                        rw [levs_all] at j
                        have hyl : ys.length ≤ 6 := by rw [j.2]; omega
                        k_steps
                        refine ⟨?_⟩
                        rename_i l9 h9 F12 N12 hlt12
                        refine kmk_add_ints F12 N12 ⟨_, (N12 (D, lstO ys) (by k_mem)).1, rfl, _, rfl⟩ ⟨_, (N12 _ (List.mem_cons_self ..)).1, rfl, _, rfl⟩ (vs := ys) (ws := [_]) j.1 (.cons _ _ .nil) ?_ ?_
                        · intro l5 us5 h5 F5 N5 hlt5 hi5
                          clear F12 N12
                          k_steps
                          refine ⟨?_⟩
                          refine ke_ne_ints ⟨_, (N5 (lz, listOf us.toArray n) (by k_mem)).1, rfl, _, rfl⟩ ⟨_, (N5 _ (List.mem_cons_self ..)).1, rfl, _, rfl⟩ hus hi5 (show 4 + 3 + 64 < cLine by decide) ?_
                          rw [show (!decide (countsF ds = (levs ds).map (fun v => ((ds.count v : Nat) : Int)) ++ [0])) = false by unfold countsF; simp]
                          k_steps
                          all_goals (try exact True.intro)
                          refine ⟨⟨_, _, hk2.trans (Kin.heap s₁₁ _ _), F5, fun q hq => N5 q ?_, ⟨rfl, rfl⟩, rfl⟩⟩
                          exact sub3 (by k_mem) (by k_mem) (by k_mem) hq
                        · rw [← j.1.length]
                          exact Nat.le_trans (show _ ≤ 7 by simp only [List.length_cons, List.length_nil]; omega) (by decide)
                    · rintro s₁₁ ⟨m11, nx11, hk11b, F11, N11, ⟨g1, g2⟩, rfl⟩
                      have hk12 : Kin s₁ s₁₁ := hk11.trans hk11b
                      clear hk11 hk11b F10 N10 hus x3 x4 x5 x6
                      rw [← upd_self g1, ← upd_self g2] at F11
                      refine exec_seq_to (fun s' => Stg s₁.heap s₁.heap.objs.size s₁₁ s' fun m nx => ∃ (lu : Addr), (m (Str.ofString "levels") = some (.ref R) ∧ m (Str.ofString "row") = some (.str r tr) ∧ m (Str.ofString "due") = some (.ref lu)) ∧
                          nx = (lu, listOf #[] 0) :: [(R, rangeO 0 (maxD ds + 1) 1 tR uR vR), (s₁.heap.objs.size + 1, od), (ld, listOf vd.toArray nd)] ∧ (@LT.lt Nat _ R lu ∧ @LT.lt Nat _ (s₁.heap.objs.size + 1) lu ∧ @LT.lt Nat _ ld lu)) ?_ ?_
                      ·
                        k_steps
                        all_goals (try exact True.intro)
                        rename_i lu h12 hlt12 h13 F13 N13
                        exact ⟨⟨_, _, Kin.heap s₁₁ _ _, F13, N13, lu, ⟨rfl, rfl, rfl⟩, rfl, hlt12⟩⟩
                      · rintro s₁₂ ⟨m12, nx12, hk12b, F12, N12, lu, ⟨g1, g2, g3⟩, rfl, x3, x4, x5⟩
                        have hk13 : Kin s₁ s₁₂ := hk12.trans hk12b
                        clear hk12 hk12b F11 N11
                        rw [← upd_self g1, ← upd_self g2, ← upd_self g3] at F12
                        refine exec_seq ?_
                        refine for_range (a := 0) (b := maxD ds + 1) (c := 1) (n := (maxD ds + 1).toNat) ?_ ?_ rfl F12 N12 ?_ rfl rfl (fun _ => rfl) (DJ ds R lu r tr [(R, rangeO 0 (maxD ds + 1) 1 tR uR vR), (s₁.heap.objs.size + 1, od), (ld, listOf vd.toArray nd)]) ?_ ?_ ?_
                        · rw [rangeSize_nat, Int.sub_zero]
                        · exact small_one (by omega) (by omega) (by omega) (by omega)
                        · intro Q' hq
                          k_steps
                          exact hq s₁₂.heap s₁₂.toks R tR uR vR F12 N12 (N12 (R, rangeO 0 (maxD ds + 1) 1 tR uR vR) (by k_mem)).1
                        · exact ⟨[], 0, ⟨rfl, rfl, rfl⟩, rfl, .nil, Nat.le_refl _⟩
                        ·
                          rintro i t m nx it o s₁₃ hi ⟨ws, n, ⟨g1, g2, g3⟩, rfl, hws, hwl⟩ hk14 F14 N14 hne14
                          rw [← upd_self g1, ← upd_self g2, ← upd_self g3] at F14
                          clear F12 N12
                          rw [show (0 : Int) + (i : Int) * 1 = (i : Int) by omega] at F14
                          have y1 : @Ne Nat lu it := hne14 (lu, listOf ws.toArray n) (by k_mem)
                          have y2 : @Ne Nat R it := hne14 (R, rangeO 0 (maxD ds + 1) 1 tR uR vR) (by k_mem)
                          have y3 : @Ne Nat (s₁.heap.objs.size + 1) it := hne14 (s₁.heap.objs.size + 1, od) (by k_mem)
                          have y4 : @Ne Nat ld it := hne14 (ld, listOf vd.toArray nd) (by k_mem)
                          refine exec_seq ?_
                          refine for_range (a := 0) (b := (vd.length : Int)) (c := 1) (n := vd.length) ?_ ?_ rfl F14 N14 ?_ rfl rfl (fun _ => rfl) (DK ds R lu r tr [(R, rangeO 0 (maxD ds + 1) 1 tR uR vR), (s₁.heap.objs.size + 1, od), (ld, listOf vd.toArray nd)] it o i t) ?_ ?_ ?_
                          · rw [rangeSize_nat, Int.sub_zero, Int.toNat_natCast]
                          · exact small_one (by omega) (by omega) (by omega) (by omega)
                          · intro Q' hq
                            k_steps
                            refine ⟨?_⟩
                            refine kun_lenL (k := (vd.length : Int)) ⟨_, (N14 (ld, listOf vd.toArray nd) (by k_mem)).1, rfl, _, rfl⟩ (by rw [List.size_toArray]) (by omega) ?_
                            k_steps
                            rename_i Rk hk' tk' tz uz vz Fz Nz hltz
                            exact hq _ _ Rk _ _ _ Fz (fun q hq => Nz q (List.mem_cons_of_mem _ hq)) (Nz _ (List.mem_cons_self ..)).1
                          · refine ⟨ws, n, ⟨rfl, rfl, rfl, rfl⟩, rfl, ?_, by omega⟩
                            show IntsAre ws (dueUp ds i ++ [])
                            rw [List.append_nil]; exact hws
                          ·
                            rintro k tk m2 nx2 it2 o2 s₁₄ hk ⟨ws2, n2, ⟨g1, g2, g3, g4⟩, rfl, hws2, hwl2⟩ hk15 F15 N15 hne15
                            rw [← upd_self g1, ← upd_self g2, ← upd_self g3, ← upd_self g4] at F15
                            clear F14 N14
                            rw [show (0 : Int) + (k : Int) * 1 = (k : Int) by omega] at F15
                            obtain ⟨v, hv⟩ : ∃ v, vd[k]? = some v := ⟨_, List.getElem?_eq_getElem hk⟩
                            obtain ⟨d, td, rfl, hdd⟩ := ints_at hvd hv
                            have hdu : dueAt ds i k = if d = (i : Int) then [(((ds.take k).count (i : Int) : Nat) : Int) + (((ds.drop k).count ((i : Int) - 1) : Nat) : Int)] else [] := by unfold dueAt; rw [hdd]
                            have hdi := dueIn_succ ds i k
                            have z1 : @Ne Nat it2 lu := (hne15 (lu, listOf ws2.toArray n2) (by k_mem)).symm
                            have hwl3 : ws2.length ≤ 50 := by omega
                            k_steps
                            refine ⟨?_⟩
                            refine item_any ⟨_, (N15 (ld, listOf vd.toArray nd) (by k_mem)).1, rfl, _, rfl⟩ (by omega) (by omega) (by rw [Int.toNat_natCast, List.getElem?_toArray]; exact hv) ?_
                            k_steps
                            · rename_i hdi2
                              rw [if_pos hdi2] at hdu
                              refine ⟨?_⟩
                              refine kmk_slice_ints (F := F15) (N := N15) (ns := ds) (ms := ds.take k) ⟨_, (N15 (ld, listOf vd.toArray nd) (by k_mem)).1, rfl, _, rfl⟩ IsPart.none (IsPart.int _ _) hvd (kmk_upto (y := (k : Int)) hvd (by omega)) rfl ?_ (by with_unfolding_all rfl) (by intro _; with_unfolding_all rfl) (by rw [List.size_toArray]; exact Nat.le_trans hvl (by decide))
                              intro l16 ws16 h16 F16 N16 hlt16 hw16 _ _
                              clear F15 N15
                              have z2 : @LT.lt Nat _ lu l16 := hlt16 (lu, listOf ws2.toArray n2) (by k_mem)
                              k_steps
                              refine ⟨?_⟩
                              dsimp only
                              refine count_list_ints ⟨_, (N16 _ (List.mem_cons_self ..)).1, rfl, _, rfl⟩ hw16 ?_
                              k_steps
                              refine ⟨?_⟩
                              refine kmk_slice_ints (F := F16) (N := N16) (ns := ds) (ms := ds.drop k) ⟨_, (N16 (ld, listOf vd.toArray nd) (by k_mem)).1, rfl, _, rfl⟩ (IsPart.int _ _) IsPart.none hvd (kmk_from (x := (k : Int)) hvd (by omega)) rfl ?_ (by with_unfolding_all rfl) (by intro _; with_unfolding_all rfl) (by rw [List.size_toArray]; exact Nat.le_trans hvl (by decide))
                              intro l17 ws17 h17 F17 N17 hlt17 hw17 _ _
                              clear F16 N16
                              have z3 : @LT.lt Nat _ lu l17 := hlt17 (lu, listOf ws2.toArray n2) (by k_mem)
                              k_steps
                              refine ⟨?_⟩
                              dsimp only
                              refine count_list_ints ⟨_, (N17 _ (List.mem_cons_self ..)).1, rfl, _, rfl⟩ hw17 ?_
                              k_steps
                              refine ⟨?_⟩
                              dsimp only
                              k_dflt (refine' append_K ?k1 ?k2 ?k3 ?_ ?z)
                              case k1 => k_asm
                              case k2 => k_asm
                              case k3 => k_upd
                              case z => size_fits
                              k_whole
                              intro h18 F18 N18
                              obtain ⟨vx, hvx, N19⟩ : ∃ vx, IntsAre [vx] (dueAt ds i k) ∧ News s₁.heap s₁.heap.objs.size h18 ((it2, o2) :: (it, o) :: (lu, listOf (ws2 ++ [vx]).toArray (n2 + 1)) :: [(R, rangeO 0 (maxD ds + 1) 1 tR uR vR), (s₁.heap.objs.size + 1, od), (ld, listOf vd.toArray nd)]) := by
                                rw [List.push_toArray] at N18
                                refine ⟨_, ?_, fun q hq => N18 q (List.mem_cons_of_mem _ (List.mem_cons_of_mem _ hq))⟩
                                rw [hdu]; exact .cons _ _ .nil
                              clear N18
                              k_steps
                              refine Turn.mk' (hk15.trans (Kin.heap s₁₄ _ _)) F18 N19 (fun p hp => by
                                rcases List.mem_cons.mp hp with rfl | hp
                                · exact hne15 _ (List.mem_cons_self ..)
                                · rcases List.mem_cons.mp hp with rfl | hp
                                  · exact z1.symm
                                  · exact hne15 p (List.mem_cons_of_mem _ (List.mem_cons_of_mem _ hp))) ⟨ws2 ++ [vx], n2 + 1, ⟨rfl, rfl, rfl, rfl⟩, rfl, ?_, by rw [List.length_append]; exact Nat.add_le_add_right hwl2 1⟩
                              rw [hdi, ← List.append_assoc]
                              exact hws2.append hvx
                            · rename_i hdi2
                              rw [if_neg hdi2] at hdu
                              refine Turn.mk' hk15 F15 N15 hne15 ⟨ws2, n2, ⟨rfl, rfl, rfl, rfl⟩, rfl, ?_, by omega⟩
                              rw [hdi, hdu, List.append_nil]
                              exact hws2
                          · rintro m2 nx2 s₁₄ ⟨ws2, n2, ⟨g1, g2, g3, g4⟩, rfl, hws2, hwl2⟩ hk15 F15 N15
                            refine ⟨?_⟩
                            refine wpAny_execs_nil ?_
                            refine Turn.mk' (hk14.trans hk15) F15 N15 (fun p hp => by
                              rcases List.mem_cons.mp hp with rfl | hp
                              · exact y1
                              · exact hne14 p (List.mem_cons_of_mem _ hp)) ⟨ws2, n2, ⟨g1, g2, g3⟩, rfl, ?_, by omega⟩
                            rw [dueUp_succ]
                            rw [hvd.length] at hws2
                            exact hws2
                        · rintro m nx s₁₃ ⟨ws, n, ⟨g1, g2, g3⟩, rfl, hws, hwl⟩ hk14 F14 N14
                          rw [← upd_self g2, ← upd_self g3] at F14
                          have hk15 : Kin s₁ s₁₃ := hk13.trans hk14
                          clear hk13 hk14 F12 N12
                          refine ⟨?_⟩
                          have hpl := plain_ok (hlaw.turn (T.length - 1) (by omega)).pl
                          have hrn := (hlaw.turn (T.length - 1) (by omega)).ln
                          rw [show T.length - 1 + 1 = T.length by omega, ← hr] at hpl hrn
                          have hrn2 : r.length ≤ 90 := by rw [len_list]; exact hrn
                          have hah := hlaw.ahead
                          have hba := hlaw.back
                          rw [← hr] at hah hba
                          refine exec_seq_to (fun s' => Stg s₁.heap s₁.heap.objs.size s₁₃ s' fun m nx => nx = [(s₁.heap.objs.size + 1, od), (ld, listOf vd.toArray nd)]) ?_ ?_
                          ·
                            k_steps
                            refine ⟨?_⟩
                            refine ahead_spec (O.keeps F14.keep) hfill (by decide) (by decide) (Nat.le_trans hrn2 (by decide)) hpl.1 hpl.2 ?_
                            intro l15 us15 s₁₅ hx15 _ hl15 hu15
                            have F15 := ext_fr hx15 F14
                            have N15 := ext_news hx15 N14
                            clear F14 N14
                            k_steps
                            refine ⟨?_⟩
                            refine ke_ne_ints hl15 ⟨_, (N15 (lu, listOf ws.toArray n) (by k_mem)).1, rfl, _, rfl⟩ hu15 hws (show 4 + 3 + 64 < cLine by decide) ?_
                            rw [show (!decide (aheadF r.cps.toList = dueUp ds (maxD ds + 1).toNat)) = false by rw [hah]; simp]
                            k_steps
                            refine ⟨?_⟩
                            refine back_spec (O.keeps F15.keep) hfill (by decide) (by decide) (Nat.le_trans hrn2 (by decide)) hba ?_
                            intro l16 us16 s₁₆ hx16 _ hl16 hu16
                            have F16 := ext_fr hx16 F15
                            have N16 := ext_news hx16 N15
                            clear F15 N15
                            k_steps
                            refine ⟨?_⟩
                            refine ke_ne_ints hl16 ⟨_, (N16 (ld, listOf vd.toArray nd) (by k_mem)).1, rfl, _, rfl⟩ hu16 hvd (show 4 + 3 + 64 < cLine by decide) ?_
                            rw [show (!decide (ds = ds)) = false by simp]
                            k_steps
                            all_goals (try exact True.intro)
                            exact ⟨⟨_, _, hx15.kin.trans hx16.kin, F16, fun q hq => N16 q (List.mem_cons_of_mem _ (List.mem_cons_of_mem _ hq)), rfl⟩⟩
                          · rintro s₁₄ ⟨m14, nx14, hk14, F14, N14, rfl⟩
                            have hk16 : Kin s₁ s₁₄ := hk15.trans hk14
                            clear hk15 hk14 hws hwl hah hba hpl hrn hrn2 hr x3 x4 x5
                            refine exec_seq_to (fun s' => Stg s₁.heap s₁.heap.objs.size s₁₄ s' fun m nx => (∃ tq, m (Str.ofString "first") = some (.str (Str.ofString "") tq)) ∧ nx = [(s₁.heap.objs.size + 1, od), (ld, listOf vd.toArray nd)]) ?_ ?_
                            ·
                              k_steps
                              all_goals (try exact True.intro)
                              rename_i F15 N15
                              exact ⟨⟨_, _, Kin.heap s₁₄ _ _, F15, N15, ⟨_, rfl⟩, rfl⟩⟩
                            · rintro s₁₅ ⟨m15, nx15, hk15, F15, N15, ⟨tq0, g1⟩, rfl⟩
                              have hk17 : Kin s₁ s₁₅ := hk16.trans hk15
                              clear hk16 hk15
                              rw [← upd_self g1] at F15
                              refine exec_seq ?_
                              refine for_range (a := 0) (b := (vd.length : Int)) (c := 1) (n := vd.length) ?_ ?_ rfl F15 N15 ?_ rfl rfl (fun _ => rfl) (FJ ds [(s₁.heap.objs.size + 1, od), (ld, listOf vd.toArray nd)]) ?_ ?_ ?_
                              · rw [rangeSize_nat, Int.sub_zero, Int.toNat_natCast]
                              · exact small_one (by omega) (by omega) (by omega) (by omega)
                              · intro Q' hq
                                k_steps
                                refine ⟨?_⟩
                                refine kun_lenL (k := (vd.length : Int)) ⟨_, (N15 (ld, listOf vd.toArray nd) (by k_mem)).1, rfl, _, rfl⟩ (by rw [List.size_toArray]) (by omega) ?_
                                k_steps
                                rename_i Rk hk' tk' tz uz vz Fz Nz hltz
                                exact hq _ _ Rk _ _ _ Fz (fun q hq => Nz q (List.mem_cons_of_mem _ hq)) (Nz _ (List.mem_cons_self ..)).1
                              · exact ⟨Str.ofString "", tq0, rfl, rfl, rfl, Nat.le_refl _⟩
                              ·
                                rintro k tk m nx it o s₁₆ hk ⟨q, tq, g1, rfl, hq, hql⟩ hk18 F16 N16 hne16
                                rw [← upd_self g1] at F16
                                clear F15 N15
                                rw [show (0 : Int) + (k : Int) * 1 = (k : Int) by omega] at F16
                                obtain ⟨v, hv⟩ : ∃ v, vd[k]? = some v := ⟨_, List.getElem?_eq_getElem hk⟩
                                obtain ⟨d, td, rfl, hdd⟩ := ints_at hvd hv
                                have hdb := hdr d (List.mem_of_getElem? hdd)
                                have hql2 : q.length ≤ 40 := by omega
                                have hfu := firstUp_succ ds k
                                k_steps
                                · rename_i hk0
                                  obtain ⟨v2, hv2⟩ : ∃ v, vd[k - 1]? = some v := ⟨_, List.getElem?_eq_getElem (by omega)⟩
                                  obtain ⟨d2, td2, rfl, hdd2⟩ := ints_at hvd hv2
                                  have hdb2 := hdr d2 (List.mem_of_getElem? hdd2)
                                  have hg : gapAt ds k = d2 + 1 - d := by
                                    unfold gapAt
                                    rw [if_pos (by omega), List.getD_eq_getElem?_getD, List.getD_eq_getElem?_getD, hdd, hdd2]; rfl
                                  refine ⟨?_⟩
                                  refine item_any ⟨_, (N16 (ld, listOf vd.toArray nd) (by k_mem)).1, rfl, _, rfl⟩ (by omega) (by omega) (by rw [show ((k : Int) - 1).toNat = k - 1 by omega, List.getElem?_toArray]; exact hv2) ?_
                                  k_steps
                                  refine ⟨?_⟩
                                  refine item_any ⟨_, (N16 (ld, listOf vd.toArray nd) (by k_mem)).1, rfl, _, rfl⟩ (by omega) (by omega) (by rw [Int.toNat_natCast, List.getElem?_toArray]; exact hv) ?_
                                  k_steps
                                  rename_i F17 N17
                                  refine Turn.mk' (hk18.trans (Kin.heap s₁₆ _ _)) F17 N17 hne16 ⟨_, _, rfl, rfl, ?_, ?_⟩
                                  · rw [str_app_list, str_app_list, hq, hfu, hg, List.append_assoc]
                                    exact congrArg _ (congrArg (· ++ [40]) (mul_one_list 41 (d2 + 1 - d)))
                                  · rw [str_app_len, str_app_len]
                                    have e1 : (Str.ofString "(").length = 1 := rfl
                                    have e2 : (Txt.mul (Str.ofString ")") (d2 + 1 - d)).length ≤ 4 := by
                                      rw [len_list, show (Txt.mul (Str.ofString ")") (d2 + 1 - d)).cps.toList = _ from mul_one_list 41 _, List.length_replicate]; omega
                                    omega
                                · rename_i hk0
                                  have hg : gapAt ds k = -1 + 1 - d := by
                                    unfold gapAt
                                    rw [if_neg (by omega), List.getD_eq_getElem?_getD, hdd]; rfl
                                  refine ⟨?_⟩
                                  refine item_any ⟨_, (N16 (ld, listOf vd.toArray nd) (by k_mem)).1, rfl, _, rfl⟩ (by omega) (by omega) (by rw [Int.toNat_natCast, List.getElem?_toArray]; exact hv) ?_
                                  k_steps
                                  rename_i F17 N17
                                  refine Turn.mk' (hk18.trans (Kin.heap s₁₆ _ _)) F17 N17 hne16 ⟨_, _, rfl, rfl, ?_, ?_⟩
                                  · rw [str_app_list, str_app_list, hq, hfu, hg, List.append_assoc]
                                    exact congrArg _ (congrArg (· ++ [40]) (mul_one_list 41 (-1 + 1 - d)))
                                  · rw [str_app_len, str_app_len]
                                    have e1 : (Str.ofString "(").length = 1 := rfl
                                    have e2 : (Txt.mul (Str.ofString ")") (-1 + 1 - d)).length ≤ 4 := by
                                      rw [len_list, show (Txt.mul (Str.ofString ")") (-1 + 1 - d)).cps.toList = _ from mul_one_list 41 _, List.length_replicate]; omega
                                    omega
                              · rintro m nx s₁₆ ⟨q, tq, g1, rfl, hq, hql⟩ hk18 F16 N16
                                rw [← upd_self g1] at F16
                                have hk19 : Kin s₁ s₁₆ := hk17.trans hk18
                                clear hk17 hk18 F15 N15
                                refine ⟨?_⟩
                                have hql2 : q.length ≤ 40 := by omega
                                refine exec_seq_to (fun s' => Stg s₁.heap s₁.heap.objs.size s₁₆ s' fun m nx => (∃ q' tq', m (Str.ofString "first") = some (.str q' tq') ∧ q'.cps.toList = firstF ds) ∧ nx = [(s₁.heap.objs.size + 1, od), (ld, listOf vd.toArray nd)]) ?_ ?_
                                ·
                                  have hL1 : ds.getD (-1 + (ds.length : Int)).toNat 0 = ds.getLastD 0 := by
                                    rw [List.getLastD_eq_getLast?, List.getLast?_eq_getElem?, List.getD_eq_getElem?_getD, show (-1 + (ds.length : Int)).toNat = ds.length - 1 by omega]
                                  have hL2 : 0 ≤ ds.getLastD 0 ∧ ds.getLastD 0 ≤ 3 := by
                                    rw [← hL1, List.getD_eq_getElem?_getD]
                                    cases hz : ds[(-1 + (ds.length : Int)).toNat]? with
                                    | none => exact ⟨by decide, by decide⟩
                                    | some z => exact hdr z (List.mem_of_getElem? hz)
                                  have hff : firstF ds = firstUp ds vd.length ++ List.replicate (ds.getLastD 0 + 1).toNat 41 := by rw [hvd.length]; rfl
                                  k_steps
                                  all_goals (try exact True.intro)
                                  rename_i F17 N17
                                  refine ⟨⟨_, _, Kin.heap s₁₆ _ _, F17, N17, ⟨_, _, rfl, ?_⟩, rfl⟩⟩
                                  rw [str_app_list, hq, hff, ← hL1]
                                  exact congrArg _ (mul_one_list 41 _)
                                · rintro s₁₇ ⟨m17, nx17, hk17, F17, N17, ⟨q2, tq2, g1, hq2⟩, rfl⟩
                                  rw [← upd_self g1] at F17
                                  have hk20 : Kin s₁ s₁₇ := hk19.trans hk17
                                  clear hk19 hk17 F16 N16 hq hql hql2
                                  have hfp := plain_ok hlaw.f3
                                  have hfl := hlaw.f4
                                  have hf1 := hlaw.f1
                                  have hf2 := hlaw.f2
                                  rw [← hq2] at hfp hfl hf1 hf2
                                  rw [← len_list] at hfl
                                  k_steps
                                  refine ⟨?_⟩
                                  refine check_spec (O.keeps F17.keep) hfill (by decide) (by decide) hfp.1 (Nat.le_trans hfl (by decide)) ?_
                                  intro s₁₈ hx18
                                  have F18 := ext_fr hx18 F17
                                  have N18 := ext_news hx18 N17
                                  clear F17 N17
                                  rw [hf1]
                                  k_steps
                                  refine ⟨?_⟩
                                  refine ahead_spec (O.keeps F18.keep) hfill (by decide) (by decide) (Nat.le_trans hfl (by decide)) hfp.1 hfp.2 ?_
                                  intro l19 us19 s₁₉ hx19 _ hl19 hu19
                                  have F19 := ext_fr hx19 F18
                                  have N19 := ext_news hx19 N18
                                  clear F18 N18
                                  k_steps
                                  · rw [hf2, decide_eq_true rfl]
                                  · exact ⟨hk20.trans (hx18.kin.trans hx19.kin), _, F19⟩
  · rintro f s' ⟨rfl, hk, m, F'⟩
    refine ⟨.inl ⟨_, .bool true, [], rfl, ?_, ReadsW.bool _, ?_, fun _ => ⟨List.nodup_nil, fun _ hm => (nomatch hm)⟩⟩, .of_keep F'.keep, hk.os, hk.bare (.of_eq hg)⟩
    · intro cls; rfl
    · wrow_post
end
end Mine
end

theorem PySem.Challenge.cw_xo0010_01_holds : PySem.Challenge.rw_xo0010_01.Holds := by
  exact Mine.law_all
