import PyProof.Rows.All
import Wide.All
import OpenK.AllK
import Wide.FinOn
import Lean
import PySem.Challenge.RW_tc0037_01
open PySem PySem.W PyProof.Rows PySem.Calls
set_option Elab.async false
set_option maxRecDepth 100000
set_option maxHeartbeats 8000000
namespace Mine
-- Hd
open_top hd for PySem.Challenge.rw_tc0037_01
-- Base
section
noncomputable abbrev PG : Program := PySem.Challenge.rw_tc0037_01.row.prog
noncomputable abbrev LW : List Str := looseW Mine.hd.view_39 [Str.ofString "_name_disallowed_re", Str.ofString "_value_disallowed_re"]

/-- everything that stood stands -/
def Ext (h h' : Heap) : Prop := ∀ b o, h.get? b = some o → h'.get? b = some o
theorem Ext.rfl {h : Heap} : Ext h h := fun _ _ e => e
theorem Ext.trans {h₁ h₂ h₃ : Heap} (a : Ext h₁ h₂) (b : Ext h₂ h₃) : Ext h₁ h₃ := fun x o e => b x o (a x o e)

theorem enter_plain {prog : Program} {w : World} {A : Around} {s : Shared} {K : Frag} {p : Program} {loose : List Str} {mean : ExcName → Option Value} {mg mb : Str → Option Value} {Q E : Value → Shared → Prop}
    {name qual : Str} {params : Arguments} {body : List Stmt} {scope : Scope} {dV kV doc pm cdv ct oc : Value} {an od : Option Addr} {osl : Array (Option Value)} {f : Addr} {pos : List Value} {kw : List (Str × Value)} {binds : List (Str × Value)}
    (X₀ : K.In s.heap) (T : Top p loose mean mg mb s.heap)
    (ho : K.lookup f = some ⟨oc, od, .func (fnOf name qual params body scope dV kV doc pm an cdv ct), osl⟩) (hcd : codeIn K cdv qual = true) (hroom : A.depth < recursionLimit)
    (hbind : BindsTo s (fnOf name qual params body scope dV kV doc pm an cdv ct) ⟨pos, kw⟩ binds) (hloc : ∀ y ∈ binds, scope.names.lookup y.1 = some .local)
    (h : ∀ h₁, Fr s.heap s.heap.objs.size h₁ (fun y => binds.reverse.lookup y) → News s.heap s.heap.objs.size h₁ [] →
      wpAny (model prog w) (A.deeper (envOf qual scope s.heap.objs.size f cdv)) (execs body (envOf qual scope s.heap.objs.size f cdv))
        (fun fl s' => Q (match fl with | .ret v => v | _ => .none) s') (fun _ _ => False)
        { s with heap := h₁, toks := s.toks + binds.length })
    (hcell : ∀ x ∈ scope.names, x.2 ≠ .cell) (hco : scope.isCoroutine = false) (hgen : scope.isGenerator = false) (hk : scope.kind = .function) :
    wpAny (model prog w) A (call (.ref f) pos kw) Q E s := by
  refine wpAny_call ?_
  refine codeAny_call_def (fd := fnOf name qual params body scope dV kV doc pm an cdv ct) (body := body) (binds := binds) hroom (X₀ _ _ ho) rfl T.nolimit (codeRec_of X₀ hcd) rfl hbind hcell hloc (fun h₁ hns hk₁ => ?_) hco hgen hk
  exact wpAny_mono (h h₁ ⟨hns, hk₁, Nat.le_refl _⟩ News.nil) (fun _ _ x => x) fun _ _ x => x.elim

theorem Fr.ext {h₀ h : Heap} {L : Addr} {m : Str → Option Value} (F : Fr h₀ L h m) : Ext h₀ h := F.keep
end
-- Fw
section

/-- only the heap and the tokens have moved -/
def Go (s s' : Shared) : Prop := ∃ h tk, s' = { s with heap := h, toks := tk }
theorem Go.refl {s : Shared} : Go s s := ⟨s.heap, s.toks, by cases s; exact Eq.refl _⟩
theorem Go.trans {a b c : Shared} (x : Go a b) (y : Go b c) : Go a c := by
  obtain ⟨h, t, e1⟩ := x
  obtain ⟨h', t', e2⟩ := y
  subst e1
  exact ⟨h', t', e2⟩
theorem Go.mk {s : Shared} {h : Heap} {tk : Nat} : Go s { s with heap := h, toks := tk } := ⟨h, tk, Eq.refl _⟩
theorem Go.heap {s : Shared} {h : Heap} : Go s { s with heap := h } := ⟨h, s.toks, by cases s; exact Eq.refl _⟩
theorem Go.toks {s : Shared} {tk : Nat} : Go s { s with toks := tk } := ⟨s.heap, tk, by cases s; exact Eq.refl _⟩
theorem Go.gens {a b : Shared} (x : Go a b) : b.gens = a.gens := by
  obtain ⟨h, t, e⟩ := x
  subst e
  exact Eq.refl _
theorem Go.os {a b : Shared} (x : Go a b) : b.os = a.os := by
  obtain ⟨h, t, e⟩ := x
  subst e
  exact Eq.refl _
theorem Go.out {a b : Shared} (x : Go a b) : b = { a with heap := b.heap, toks := b.toks } := by
  obtain ⟨h, t, e⟩ := x
  subst e
  exact Eq.refl _

abbrev upd (m : Str → Option Value) (x : Str) (v : Value) : Str → Option Value := fun y => if y = x then some v else m y

/-- the state seen from a frame (a def's or a comprehension's): what stood before stands; the names' values; the objects made since -/
structure Sta (s₀ : Shared) (env : Env) (own : List (Str × Addr)) (s : Shared) (m : Str → Option Value) (news : List (Addr × Obj)) : Prop where
  go : Go s₀ s
  keep : Ext s₀.heap s.heap
  ns : ∃ ml, s.heap.Ns env.locals ml ∧ ∀ x, env.kindOf x = some .local → ml x = m x
  cell : ∀ n c, env.cells.lookup n = some c → s.heap.IsCell c (m n)
  kinds : ∀ n c, env.cells.lookup n = some c → env.kindOf n ≠ some .local
  addrs : env.cells.Pairwise fun p q => p.2 ≠ q.2
  offL : ∀ n c, env.cells.lookup n = some c → c ≠ env.locals
  newL : s₀.heap.get? env.locals = none
  newC : ∀ p ∈ own, s₀.heap.get? p.2 = none
  ownIn : ∀ p ∈ own, env.cells.lookup p.1 = some p.2
  whose : ∀ n c, env.cells.lookup n = some c → (n, c) ∈ own ∨ ∃ o, s₀.heap.get? c = some o
  made : ∀ p ∈ news, s.heap.get? p.1 = some p.2 ∧ s₀.heap.get? p.1 = none ∧ p.1 ≠ env.locals ∧ ∀ q ∈ own, p.1 ≠ q.2
  nodup : (news.map (·.1)).Nodup

def rdable (env : Env) (x : Str) : Bool :=
  env.kindOf x == some .local || ((env.kindOf x == some .cell || env.kindOf x == some .free) && (env.cells.lookup x).isSome)

section
variable {M : Model} {A : Around} {E : Value → Shared → Prop} {s₀ s s' : Shared} {env : Env} {own : List (Str × Addr)} {m : Str → Option Value} {news : List (Addr × Obj)} {x : Str} {pos : Pos} {v : Value}

theorem Sta.get (S : Sta s₀ env own s m news) {a : Addr} {o : Obj} (h : (a, o) ∈ news) : s.heap.get? a = some o := (S.made _ h).1

theorem Sta.name {Q : Value → Shared → Prop} (S : Sta s₀ env own s m news) (hk : env.scope.kind = .function) (hx : rdable env x = true) (hv : m x = some v) (h : Q v s)
    (hd : (x == ("__debug__" : Str)) = false) (hn : (x == ("__classdict__" : Str)) = false) : wpAny M A (eval (.Name x pos) env) Q E s := by
  refine wpAny_Name ?_ hd
  unfold rdable at hx
  rcases Bool.or_eq_true_iff.mp hx with hl | hc
  · have hl := beq_iff_eq.mp hl
    obtain ⟨ml, n1, n2⟩ := S.ns
    exact wpAny_loadName_local hk hl n1 ((n2 x hl).trans hv) h
  · obtain ⟨hc, hs⟩ := Bool.and_eq_true_iff.mp hc
    obtain ⟨c, hc'⟩ := Option.isSome_iff_exists.mp hs
    have hcell := S.cell x c hc'
    rw [hv] at hcell
    rcases Bool.or_eq_true_iff.mp hc with q | q
    · exact wpAny_loadName_cell hk (beq_iff_eq.mp q) hc' hcell h
    · exact wpAny_loadName_free hk (beq_iff_eq.mp q) hc' hcell h hn

theorem sameBut_ext {a : Addr} {h h' h₀ : Heap} (hs : Heap.SameBut a h h') (k : Ext h₀ h) (hn : h₀.get? a = none) : Ext h₀ h' := fun b o e => by
  refine (hs.2 b ?_).trans (k b o e)
  rintro q
  subst q
  rw [hn] at e
  cases e

theorem Sta.store_local {Q : Unit → Shared → Prop} (S : Sta s₀ env own s m news) (hk : env.scope.kind = .function) (hx : env.kindOf x = some .local)
    (h : ∀ s', Sta s₀ env own s' (upd m x v) news → Q () s') : wpAny M A (storeName env x v) Q E s := by
  obtain ⟨ml, n1, n2⟩ := S.ns
  refine wpAny_storeName_local hx n1 (fun h' hn' hs' => h _ ?_) (by rw [hk]; exact Eq.refl _)
  refine ⟨S.go.trans Go.mk, sameBut_ext hs' S.keep S.newL, ⟨_, hn', fun y hy => ?_⟩, fun n c hc => ?_, S.kinds, S.addrs, S.offL, S.newL, S.newC, S.ownIn, S.whose, fun p hp => ?_, S.nodup⟩
  · by_cases e : y = x
    · subst e; simp [upd]
    · simp only [upd, if_neg e]; exact n2 y hy
  · have hne : n ≠ x := fun e => S.kinds n c hc (e ▸ hx)
    simp only [upd, if_neg hne]
    exact (S.cell n c hc).sameBut hs' (S.offL n c hc)
  · obtain ⟨a, b, c, d⟩ := S.made p hp
    exact ⟨(hs'.2 _ c).trans a, b, c, d⟩

theorem Sta.store_cell {Q : Unit → Shared → Prop} {c : Addr} (S : Sta s₀ env own s m news) (hk : env.scope.kind = .function) (hx : env.kindOf x = some .cell) (hc : env.cells.lookup x = some c) (ho : own.lookup x = some c)
    (h : ∀ s', Sta s₀ env own s' (upd m x v) news → Q () s') : wpAny M A (storeName env x v) Q E s := by
  obtain ⟨ml, n1, n2⟩ := S.ns
  have hm := mem_of_lookup ho
  have hL := S.offL x c hc
  refine wpAny_storeName_cell hk hx hc (S.cell x c hc) fun h' hcl hs' => h _ ?_
  refine ⟨S.go.trans Go.heap, sameBut_ext hs' S.keep (S.newC _ hm), ⟨ml, n1.sameBut hs' (Ne.symm hL), fun y hy => ?_⟩, fun n c' hc' => ?_, S.kinds, S.addrs, S.offL, S.newL, S.newC, S.ownIn, S.whose, fun p hp => ?_, S.nodup⟩
  · have hne : y ≠ x := fun e => by subst e; exact S.kinds _ _ hc hy
    simp only [upd, if_neg hne]
    exact n2 y hy
  · by_cases e : n = x
    · subst e
      rw [hc] at hc'
      cases hc'
      simpa [upd] using hcl
    · simp only [upd, if_neg e]
      exact (S.cell n c' hc').sameBut hs' fun q => e (name_of_addr S.addrs (mem_of_lookup hc') (q ▸ mem_of_lookup hc))
  · obtain ⟨a, b, c', d⟩ := S.made p hp
    exact ⟨(hs'.2 _ (d _ hm)).trans a, b, c', d⟩

theorem get_ne {h : Heap} {a b : Addr} {o : Obj} (ha : h.get? a = none) (hb : h.get? b = some o) : a ≠ b := fun e => by
  subst e
  rw [ha] at hb
  cases hb

theorem Sta.hasL (S : Sta s₀ env own s m news) : ∃ o, s.heap.get? env.locals = some o := by
  obtain ⟨ml, ⟨o, _, _, e, _⟩, _⟩ := S.ns
  exact ⟨o, e⟩
theorem lookup_some {α : Type} : ∀ {l : List (Str × α)} {p : Str × α}, p ∈ l → ∃ c, l.lookup p.1 = some c
  | q :: r, p, h => by
    rw [List.lookup_cons]
    cases hb : p.1 == q.1 with
    | true => exact ⟨q.2, Eq.refl _⟩
    | false =>
      rcases List.mem_cons.mp h with e | h
      · subst e; simp at hb
      · exact lookup_some h

theorem Sta.grow (S : Sta s₀ env own s m news) (g : Go s s') (e : Ext s.heap s'.heap) : Sta s₀ env own s' m news := by
  obtain ⟨ml, n1, n2⟩ := S.ns
  exact ⟨S.go.trans g, S.keep.trans e, ⟨ml, n1.keeps e, n2⟩, fun n c hc => (S.cell n c hc).keeps e, S.kinds, S.addrs, S.offL, S.newL, S.newC, S.ownIn, S.whose,
    fun p hp => let ⟨a, b, c, d⟩ := S.made p hp; ⟨e _ _ a, b, c, d⟩, S.nodup⟩

/-- the frame's own cells stand -/
theorem Sta.hasC (S : Sta s₀ env own s m news) : ∀ p ∈ own, ∃ o, s.heap.get? p.2 = some o := fun p hp => by
  obtain ⟨o, e, _⟩ := S.cell p.1 p.2 (S.ownIn p hp)
  exact ⟨o, e⟩

theorem Sta.drop {news' : List (Addr × Obj)} (S : Sta s₀ env own s m news) (h : ∀ p ∈ news', p ∈ news) (hn : (news'.map (·.1)).Nodup) : Sta s₀ env own s m news' :=
  ⟨S.go, S.keep, S.ns, S.cell, S.kinds, S.addrs, S.offL, S.newL, S.newC, S.ownIn, S.whose, fun p hp => S.made p (h p hp), hn⟩

theorem Sta.names {m' : Str → Option Value} (S : Sta s₀ env own s m news) (h1 : ∀ x, env.kindOf x = some .local → m x = m' x) (h2 : ∀ n c, env.cells.lookup n = some c → m n = m' n) : Sta s₀ env own s m' news := by
  obtain ⟨ml, n1, n2⟩ := S.ns
  exact ⟨S.go, S.keep, ⟨ml, n1, fun x hx => (n2 x hx).trans (h1 x hx)⟩, fun n c hc => h2 n c hc ▸ S.cell n c hc, S.kinds, S.addrs, S.offL, S.newL, S.newC, S.ownIn, S.whose, S.made, S.nodup⟩

theorem Sta.add {a : Addr} {o : Obj} (S : Sta s₀ env own s m news) (g : Go s s') (e : Ext s.heap s'.heap) (hn : s.heap.get? a = none) (ho : s'.heap.get? a = some o) : Sta s₀ env own s' m ((a, o) :: news) := by
  have S' := S.grow g e
  refine ⟨S'.go, S'.keep, S'.ns, S'.cell, S'.kinds, S'.addrs, S'.offL, S'.newL, S'.newC, S'.ownIn, S'.whose, fun p hp => ?_, ?_⟩
  · rcases List.mem_cons.mp hp with q | hp
    · subst q
      refine ⟨ho, ?_, ?_, fun q hq => ?_⟩
      · cases q : s₀.heap.get? a with
        | none => exact Eq.refl _
        | some o' => rw [S.keep _ _ q] at hn; cases hn
      · obtain ⟨_, eL⟩ := S.hasL
        exact get_ne hn eL
      · obtain ⟨_, eC⟩ := S.hasC q hq
        exact get_ne hn eC
    · exact S'.made p hp
  · rw [List.map_cons]
    refine List.nodup_cons.mpr ⟨fun hm => ?_, S.nodup⟩
    obtain ⟨p, hp, q⟩ := List.mem_map.mp hm
    exact get_ne hn (S.made p hp).1 q.symm

theorem Sta.push (S : Sta s₀ env own s m news) (o : Obj) (hf : o.isFreed = false := by rfl) : Sta s₀ env own { s with heap := s.heap.push o } m ((s.heap.objs.size, o) :: news) := by
  refine S.add Go.heap (fun b o' e => Heap.get?_push_of_some _ e) ?_ (Heap.get?_push_size _ hf)
  cases q : s.heap.get? s.heap.objs.size with
  | none => rfl
  | some o' => exact absurd (Heap.lt_size q) (Nat.lt_irrefl _)

theorem Sta.toks (S : Sta s₀ env own s m news) (tk : Nat) : Sta s₀ env own { s with toks := tk } m news := S.grow Go.toks fun _ _ e => e

theorem Sta.put {a : Addr} {o o' : Obj} (S : Sta s₀ env own s m ((a, o) :: news)) (g : Go s s') (hs : Heap.SameBut a s.heap s'.heap) (ho : s'.heap.get? a = some o') : Sta s₀ env own s' m ((a, o') :: news) := by
  obtain ⟨ha, hb, hc, hd⟩ := S.made _ (.head _)
  obtain ⟨ml, n1, n2⟩ := S.ns
  obtain ⟨hx, hy⟩ := List.nodup_cons.mp S.nodup
  refine ⟨S.go.trans g, sameBut_ext hs S.keep hb, ⟨ml, n1.sameBut hs (Ne.symm hc), n2⟩, fun n c e => ?_, S.kinds, S.addrs, S.offL, S.newL, S.newC, S.ownIn, S.whose, fun p hp => ?_, S.nodup⟩
  · refine (S.cell n c e).sameBut hs fun q => ?_
    rcases S.whose n c e with hw | ⟨o1, hw⟩
    · exact hd _ hw q.symm
    · exact get_ne hb hw q.symm
  · rcases List.mem_cons.mp hp with q | hp
    · subst q
      exact ⟨ho, hb, hc, hd⟩
    · obtain ⟨h1, h2, h3, h4⟩ := S.made p (.tail _ hp)
      exact ⟨(hs.2 _ fun q => hx (List.mem_map.mpr ⟨p, hp, q⟩)).trans h1, h2, h3, h4⟩
end

/-- the world that stands: the text's own objects and the start-up's names -/
structure Wd (w : World) (mean : ExcName → Option Value) (mg mb : Str → Option Value) (h : Heap) : Prop where
  K : (Mine.hd.heap_39 w.params).In h
  T : Top Mine.hd.view_39 LW mean mg mb h
theorem Wd.ext {w : World} {mean : ExcName → Option Value} {mg mb : Str → Option Value} {h h' : Heap} (W : Wd w mean mg mb h) (e : Ext h h') : Wd w mean mg mb h' := ⟨W.K.keeps e, W.T.keeps e⟩

/-- room for k calls one in another -/
structure Ok (A : Around) (k : Nat) : Prop where
  hd : A.handled = none
  dp : A.depth + k < recursionLimit
  un : A.units + 10 * k + 200 < cLine
theorem Ok.deeper {A : Around} {k : Nat} (h : Ok A (k + 1)) (env : Env) : Ok (A.deeper env) k := by
  obtain ⟨h1, h2, h3⟩ := h
  exact ⟨h1, by show A.depth + 1 + k < _; omega, by show A.units + 3 + 10 * k + 200 < _; omega⟩
theorem Ok.less {A : Around} {k j : Nat} (h : Ok A k) (hj : j ≤ k) : Ok A j := ⟨h.hd, by have := h.dp; omega, by have := h.un; omega⟩

def retOf : Flow → Value
  | .ret v => v
  | _ => .none

theorem bindL_lookup {k : Str → Option NameKind} {x : Str} (hx : k x = some .local) : ∀ (binds : List (Str × Value)) (m : Str → Option Value), bindL k binds m x = ((binds.reverse.lookup x).or (m x))
  | [], m => by simp [bindL]
  | (n, v) :: r, m => by
    rw [bindL, bindL_lookup hx r, List.reverse_cons, List.lookup_append, Option.or_assoc]
    congr 1
    by_cases e : x = n
    · subst e
      simp [hx]
    · have hb : (x == n) = false := by simpa using e
      split <;> simp [List.lookup_cons, hb, e]
theorem bindC_lookup {k : Str → Option NameKind} {x : Str} (hx : k x ≠ some .local) : ∀ (binds : List (Str × Value)) (m : Str → Option Value), bindC k binds m x = ((binds.reverse.lookup x).or (m x))
  | [], m => by simp [bindC]
  | (n, v) :: r, m => by
    rw [bindC, bindC_lookup hx r, List.reverse_cons, List.lookup_append, Option.or_assoc]
    congr 1
    by_cases e : x = n
    · subst e
      simp [hx]
    · have hb : (x == n) = false := by simpa using e
      split <;> simp [List.lookup_cons, hb, e]

theorem cellsFrom_mem : ∀ (names : List (Str × NameKind)) (n : Nat) (acc : List (Str × Addr)) {p : Str × Addr}, p ∈ cellsFrom n names acc → p ∈ acc ∨ ((p.1, NameKind.cell) ∈ names ∧ n ≤ p.2)
  | [], _, _, _, h => .inl h
  | (y, k) :: r, n, acc, p, h => by
    unfold cellsFrom at h
    by_cases hk : (k == .cell) = true
    · rw [if_pos hk] at h
      rcases cellsFrom_mem r (n + 1) _ h with h | ⟨h1, h2⟩
      · rcases List.mem_cons.mp h with e | h
        · subst e
          exact .inr ⟨by rw [← beq_iff_eq.mp hk]; exact .head _, Nat.le_refl _⟩
        · exact .inl h
      · exact .inr ⟨.tail _ h1, by omega⟩
    · rw [if_neg hk] at h
      rcases cellsFrom_mem r n _ h with h | ⟨h1, h2⟩
      · exact .inl h
      · exact .inr ⟨.tail _ h1, h2⟩

theorem enterM {prog : Program} {w : World} {A : Around} {s : Shared} {mean : ExcName → Option Value} {mg mb : Str → Option Value} {Q E : Value → Shared → Prop} {hw : Heap} {led : List (Addr × Obj)}
    {name qual : Str} {params : Arguments} {body : List Stmt} {scope : Scope} {dV kV doc pm cdv ct oc : Value} {an od : Option Addr} {osl : Array (Option Value)} {f : Addr} {pos : List Value} {kw : List (Str × Value)} {binds : List (Str × Value)}
    (W : Wd w mean mg mb hw) (hsub : Ext hw s.heap) (hoff : ∀ p ∈ led, hw.get? p.1 = none) (hled : ∀ p ∈ led, s.heap.get? p.1 = some p.2) (hnd' : (led.map (·.1)).Nodup)
    (ho : (Mine.hd.heap_39 w.params).lookup f = some ⟨oc, od, .func (fnOf name qual params body scope dV kV doc pm an cdv ct), osl⟩) (hcd : codeIn (Mine.hd.heap_39 w.params) cdv qual = true) (hroom : A.depth < recursionLimit)
    (hbind : BindsTo s (fnOf name qual params body scope dV kV doc pm an cdv ct) ⟨pos, kw⟩ binds)
    (hkind : (binds.all fun y => scope.names.lookup y.1 == some .local || scope.names.lookup y.1 == some .cell) = true)
    (hks : (scope.names.all fun x => x.2 != .cell || scope.names.lookup x.1 == some .cell) = true)
    (hnd : ((cellsFrom 0 scope.names []).map (·.1)).Nodup)
    (h : ∀ L s₁, Wd w mean mg mb (hideAll s.heap (led.map (·.1))) → Sta { s with heap := hideAll s.heap (led.map (·.1)) } (envX qual scope L f cdv (cellsFrom (L + 1) scope.names [])) (cellsFrom (L + 1) scope.names []) s₁ (fun y => binds.reverse.lookup y) led →
      wpAny (model prog w) (A.deeper (envX qual scope L f cdv (cellsFrom (L + 1) scope.names []))) (execs body (envX qual scope L f cdv (cellsFrom (L + 1) scope.names [])))
        (fun fl s' => Q (retOf fl) s') (fun _ _ => False) s₁)
    (hco : scope.isCoroutine = false) (hgen : scope.isGenerator = false) (hk : scope.kind = .function) : wpAny (model prog w) A (call (.ref f) pos kw) Q E s := by
  have W' : Wd w mean mg mb (hideAll s.heap (led.map (·.1))) := W.ext fun b o e => hideAll_get _ (hsub b o e) fun q => by
    obtain ⟨p, hp, q⟩ := List.mem_map.mp q
    have := hoff p hp
    rw [q, e] at this
    cases this
  refine wpAny_call (codeAny_call_function hroom (W.K.keeps hsub _ _ ho) rfl hco hgen rfl (codeRec_of (W.K.keeps hsub) hcd) (hbind _ _ _ _ ?_))
  refine wpAny_newFunctionEnv_cells hk (kindsX hkind _) fun env' he s' x => ?_
  subst he
  refine ⟨(W.T.nolimit.keeps hsub).keeps x.toInCall.keep, codeAny_func ?_⟩
  refine wpAny_mono (h s.heap.objs.size s' W' ?_) (fun fl s'' hq => ?_) fun _ _ y => y.elim
  · have hcm : ∀ {n : Str} {c : Addr}, (cellsFrom (s.heap.objs.size + 1) scope.names []).lookup n = some c → (n, NameKind.cell) ∈ scope.names ∧ s.heap.objs.size + 1 ≤ c := fun hc => by
      rcases cellsFrom_mem _ _ _ (mem_of_lookup hc) with q | q
      · cases q
      · exact q
    have hkn : ∀ n c, (cellsFrom (s.heap.objs.size + 1) scope.names []).lookup n = some c → scope.names.lookup n ≠ some .local := fun n c hc => by
      have h2 := List.all_eq_true.mp hks _ (hcm hc).1
      simp at h2
      rw [h2]
      decide
    have none_at : ∀ c, s.heap.objs.size ≤ c → (hideAll s.heap (led.map (·.1))).get? c = none := fun c hc => by
      cases q : (hideAll s.heap (led.map (·.1))).get? c with
      | none => rfl
      | some o => exact absurd (Heap.lt_size (of_hideAll _ q)) (Nat.not_lt.mpr hc)
    obtain ⟨h₁, tk, e1, hk₁⟩ := x.done
    refine ⟨?_, fun b o e => x.toInCall.keep b o (of_hideAll _ e), ⟨_, x.toInCall.ns, fun y hy => ?_⟩, fun n c hc => ?_, hkn, x.apart, fun n c hc => ?_, none_at _ (Nat.le_refl _), fun p hp => ?_, fun p hp => ?_, fun n c hc => .inl (mem_of_lookup hc), fun p hp => ?_, hnd'⟩
    · rw [e1]
      exact ⟨h₁, tk, rfl⟩
    · refine (bindL_lookup hy binds _).trans ?_
      simp
    · have := x.cell n c hc
      have q := bindC_lookup (k := (envX qual scope s.heap.objs.size f cdv (cellsFrom (s.heap.objs.size + 1) scope.names [])).kindOf) (x := n) (hkn n c hc) binds (fun _ => none)
      rw [Option.or_none] at q
      rw [← q]
      exact this
    · exact Nat.ne_of_gt (x.above n c (mem_of_lookup hc))
    · rcases cellsFrom_mem _ _ _ hp with q | q
      · cases q
      · exact none_at _ (by omega)
    · exact lookup_of_mem_nodup (by
        have := cellsFrom_names scope.names 0 (s.heap.objs.size + 1) [] [] rfl
        rw [← this]
        exact hnd) hp
    · have e := hled p hp
      refine ⟨hk₁ _ _ e |> fun z => by rw [e1]; exact z, hideAll_none _ (List.mem_map_of_mem hp), Nat.ne_of_lt (Heap.lt_size e), fun q hq => ?_⟩
      rcases cellsFrom_mem _ _ _ hq with r | r
      · cases r
      · exact Nat.ne_of_lt (Nat.lt_of_lt_of_le (Nat.lt_succ_of_lt (Heap.lt_size e)) r.2)
  · cases fl <;> exact hq

/-- a call that changes nothing of what stood -/
theorem enter {prog : Program} {w : World} {A : Around} {s : Shared} {mean : ExcName → Option Value} {mg mb : Str → Option Value} {Q E : Value → Shared → Prop}
    {name qual : Str} {params : Arguments} {body : List Stmt} {scope : Scope} {dV kV doc pm cdv ct oc : Value} {an od : Option Addr} {osl : Array (Option Value)} {f : Addr} {pos : List Value} {kw : List (Str × Value)} {binds : List (Str × Value)}
    (W : Wd w mean mg mb s.heap)
    (ho : (Mine.hd.heap_39 w.params).lookup f = some ⟨oc, od, .func (fnOf name qual params body scope dV kV doc pm an cdv ct), osl⟩) (hcd : codeIn (Mine.hd.heap_39 w.params) cdv qual = true) (hroom : A.depth < recursionLimit)
    (hbind : BindsTo s (fnOf name qual params body scope dV kV doc pm an cdv ct) ⟨pos, kw⟩ binds)
    (hkind : (binds.all fun y => scope.names.lookup y.1 == some .local || scope.names.lookup y.1 == some .cell) = true)
    (hks : (scope.names.all fun x => x.2 != .cell || scope.names.lookup x.1 == some .cell) = true)
    (hnd : ((cellsFrom 0 scope.names []).map (·.1)).Nodup)
    (h : ∀ L s₁, Sta s (envX qual scope L f cdv (cellsFrom (L + 1) scope.names [])) (cellsFrom (L + 1) scope.names []) s₁ (fun y => binds.reverse.lookup y) [] →
      wpAny (model prog w) (A.deeper (envX qual scope L f cdv (cellsFrom (L + 1) scope.names []))) (execs body (envX qual scope L f cdv (cellsFrom (L + 1) scope.names [])))
        (fun fl s' => Q (retOf fl) s') (fun _ _ => False) s₁)
    (hco : scope.isCoroutine = false) (hgen : scope.isGenerator = false) (hk : scope.kind = .function) : wpAny (model prog w) A (call (.ref f) pos kw) Q E s :=
  enterM (led := []) W Ext.rfl (fun _ hp => nomatch hp) (fun _ hp => nomatch hp) .nil ho hcd hroom hbind hkind hks hnd (fun L s₁ _ S => h L s₁ S) hco hgen hk
end
-- FwFor
section

/-- a for loop behind its iterator -/
def ForAt (M : Model) (A : Around) (tgt : Expr) (body : List Stmt) (env : Env) (Q : Flow → Shared → Prop) (E : Value → Shared → Prop) (it : Value) (s : Shared) : Prop :=
  codeAny M A (.forLoop tgt it body [] env) (fun r s' => match r with | .ok f => Q f s' | .error e => cameBackBy M A env E e s') s

/-- an iterator walked: what a turn of a for or of a comprehension asks of it -/
structure WalkG (prog : Program) (w : World) (A : Around) (tgt : Expr) (I : Addr) (fp wr : List Addr) (n : Nat) (P : Nat → Value → Heap → Prop) (St : Nat → Heap → Prop) : Prop where
  sub : ∀ b ∈ wr, b ∈ fp
  frame : ∀ i h h', St i h → (∀ b ∈ fp, ∀ o, h.get? b = some o → h'.get? b = some o) → St i h'
  item : ∀ i (s : Shared) (Q : Value → Shared → Prop) (E : Value → Shared → Prop), i < n → St i s.heap →
    (∀ v h' tk, P i v h' → St (i + 1) h' → (∀ b o, b ∉ wr → s.heap.get? b = some o → h'.get? b = some o) → Q v { s with heap := h', toks := tk }) →
    wpAny (model prog w) A (pyNext (.ref I)) (fun r s₁ => ∃ v, r = some v ∧ wpAny (model prog w) A (letOwnedTupleGo tgt (.ref I) v) (fun _ s₂ => Q v s₂) E s₁) E s
  done : ∀ (s : Shared) (Q : Option Value → Shared → Prop) (E : Value → Shared → Prop), St n s.heap →
    (∀ h' tk, (∀ b o, b ∉ wr → s.heap.get? b = some o → h'.get? b = some o) → Q none { s with heap := h', toks := tk }) → wpAny (model prog w) A (pyNext (.ref I)) Q E s
  self : ∀ i (s : Shared) (Q : Value → Shared → Prop) (E : Value → Shared → Prop), St i s.heap → Q (.ref I) s → wpAny (model prog w) A (pyIter (.ref I)) Q E s

theorem WalkG.of {prog : Program} {w : World} {A : Around} {tgt : Expr} {I : Addr} {fp wr : List Addr} {n : Nat} {P : Nat → Value → Prop} {St : Nat → Heap → Prop} (W : Walks prog w A I fp wr n P St)
    (ht : ∀ v, letOwnedTupleGo tgt (.ref I) v = pure ()) : WalkG prog w A tgt I fp wr n (fun i v _ => P i v) St where
  sub := W.sub
  frame := W.frame
  item := fun i s Q E hi st h => W.item i s _ E hi st fun v h' tk hP hst hk => ⟨v, rfl, by rw [ht v]; exact wpAny_pure (h v h' tk hP hst hk)⟩
  done := W.done
  self := W.self

/-- a list of tuples, its items unpacked by the target -/
theorem WalkG.tups {prog : Program} {w : World} {A : Around} {elts : List Expr} {k : Nat} {tpos : Pos} (hh : A.handled = none) (I ax : Addr) (hne : ax ≠ I) (items : Array Value) (hi : ∀ v ∈ items.toList, ∃ T, v = .ref T) :
    WalkG prog w A (.Tuple elts k tpos) I [I, ax] [I] items.size (fun i v _ => items[i]? = some v) (fun i h => h.IsListIter I ax i ∧ h.IsList ax items) where
  sub := (Walks.list (prog := prog) (w := w) hh I ax hne items).sub
  frame := (Walks.list (prog := prog) (w := w) hh I ax hne items).frame
  item := fun i s Q E hlt st h => by
    refine wpAny_pyNext_list_item st.1 st.2 (x := items[i]) (by simp [hlt]) fun h' hit' hs' => ?_
    obtain ⟨T, e⟩ := hi items[i] (by simp)
    refine ⟨_, rfl, ?_⟩
    rw [e]
    refine wpAny_letOwnedTupleGo_listiter hit' ?_
    rw [← e]
    exact h _ h' s.toks (by simp [hlt]) ⟨hit', st.2.extBut hs'.extBut hne⟩ fun b o hb e => hs'.extBut b o (fun h => hb (by simp [h])) e
  done := (Walks.list (prog := prog) (w := w) hh I ax hne items).done
  self := (Walks.list (prog := prog) (w := w) hh I ax hne items).self

theorem WalkG.ofT {prog : Program} {w : World} {A : Around} {elts : List Expr} {k : Nat} {tpos : Pos} {I : Addr} {fp wr : List Addr} {n : Nat} {Pt : Nat → Array Value → Prop} {St : Nat → Heap → Prop} {Mid : Nat → Addr → Heap → Prop}
    (W : WalksT prog w A I fp wr n Pt St Mid) : WalkG prog w A (.Tuple elts k tpos) I fp wr n (fun i v h => ∃ T vals, v = .ref T ∧ Pt i vals ∧ h.IsTuple T vals) St where
  sub := W.sub
  frame := W.frame
  item := fun i s Q E hlt st h => W.item i s _ E hlt st fun T vals h' tk hP _ hT hM hk => by
    refine ⟨_, rfl, W.go elts k tpos i T _ _ _ hM fun h'' hst hk' => ?_⟩
    refine h _ h'' tk ⟨T, vals, rfl, hP, ?_⟩ hst fun b o hb e => hk' b o hb (hk b o hb e)
    obtain ⟨o, ho, r⟩ := hT
    exact ⟨o, hk' _ _ (W.apart _ _ _ hM) ho, r⟩
  done := W.done
  self := W.self

section
variable {prog : Program} {w : World} {A : Around} {E : Value → Shared → Prop} {s₀ s : Shared} {env : Env} {own : List (Str × Addr)} {m : Str → Option Value} {news : List (Addr × Obj)} {tgt : Expr} {body : List Stmt} {Q : Flow → Shared → Prop}

theorem exec_For_ {iter : Expr} {pos : Pos} (h : wpAny (model prog w) A (eval iter env) (fun xv s₁ => wpAny (model prog w) A (pyIter xv) (fun it s₂ => ForAt (model prog w) A tgt body env Q E it s₂) E s₁) E s)
    (hs : ∀ x, foldedSetIterable iter env x = pure x := by intro _; rfl) : wpAny (model prog w) A (exec (.For tgt iter body [] pos) env) Q E s := wpAny_For h hs

/-- a turn's end -/
def TurnPost (s₀ : Shared) (env : Env) (own : List (Str × Addr)) (ow : List (Addr × Obj)) (J : (Str → Option Value) → List (Addr × Obj) → Prop) (Q : Flow → Shared → Prop) (f : Flow) (s : Shared) : Prop :=
  match f with
  | .brk => Q .next s
  | .ret v => Q (.ret v) s
  | _ => ∃ m news, Sta s₀ env own s m (ow ++ news) ∧ J m news

theorem for_walks {I : Addr} {fp wr kp : List Addr} {n : Nat} {P : Nat → Value → Heap → Prop} {St : Nat → Heap → Prop} (W : WalkG prog w A tgt I fp wr n P St)
    (J : Nat → (Str → Option Value) → List (Addr × Obj) → Prop) (S : Sta s₀ env own s m news) (h0 : J 0 m news) (hst : St 0 s.heap)
    (hwr : ∀ b ∈ wr, b ∈ kp) (hex : ∀ i h, St i h → ∀ b ∈ kp, ∃ o, h.get? b = some o) (hkn : kp.Nodup) (hk0 : ∀ b ∈ kp, s₀.heap.get? b = none) (hkL : env.locals ∉ kp) (hkc : ∀ q ∈ own, q.2 ∉ kp) (hkw : ∀ p ∈ news, p.1 ∉ kp)
    (hfp : ∀ b ∈ fp, b ∈ kp ∨ (∃ o, s₀.heap.get? b = some o) ∨ ∃ o, ∀ i m' n', J i m' n' → (b, o) ∈ n')
    (turn : ∀ i v s₂ m₂ news₂ ow, i < n → P i v s₂.heap → J i m₂ news₂ → ow.map (·.1) = kp → Sta s₀ env own s₂ m₂ (ow ++ news₂) →
      wpAny (model prog w) A (assign tgt env v) (fun _ s₃ => wpAny (model prog w) A (execs body env) (TurnPost s₀ env own ow (J (i + 1)) Q) (fun _ _ => False) s₃) (fun _ _ => False) s₂)
    (done : ∀ s₂ m₂ news₂, J n m₂ news₂ → Sta s₀ env own s₂ m₂ news₂ → Q .next s₂) : ForAt (model prog w) A tgt body env Q E (.ref I) s := by
  refine codeAny_forLoop_any
    (fun k s' => ∃ m' news' i, Sta s₀ env own s' m' news' ∧ (∀ p ∈ news', p.1 ∉ kp) ∧ St i s'.heap ∧ J i m' news' ∧ i ≤ n ∧ k = n + 1 - i) ?_ (n + 1) ⟨m, news, 0, S, hkw, hst, h0, Nat.zero_le _, rfl⟩
  rintro k s' ⟨m', news', i, S', hw', st', hJ, hi, rfl⟩
  -- what moves the iterator alone leaves the state
  have still : ∀ h₁ tk₁, (∀ b o, b ∉ wr → s'.heap.get? b = some o → h₁.get? b = some o) → Sta s₀ env own { s' with heap := h₁, toks := tk₁ } m' news' := fun h₁ tk₁ hk => by
    obtain ⟨ml, n1, n2⟩ := S'.ns
    have off : ∀ {b : Addr}, b ∉ kp → b ∉ wr := fun hb hm => hb (hwr _ hm)
    refine ⟨S'.go.trans Go.mk, fun b o e => hk b o (off fun hb => ?_) (S'.keep b o e), ⟨ml, n1.at' fun o e => hk _ o (off hkL) e, n2⟩, fun x c hc => ?_, S'.kinds, S'.addrs, S'.offL, S'.newL, S'.newC, S'.ownIn, S'.whose, fun p hp => ?_, S'.nodup⟩
    · have := hk0 b hb
      rw [e] at this
      cases this
    · obtain ⟨o, e, d⟩ := S'.cell x c hc
      refine ⟨o, hk c o (off fun hb => ?_) e, d⟩
      rcases S'.whose x c hc with h | ⟨o', h⟩
      · exact hkc _ h hb
      · have := hk0 c hb
        rw [h] at this
        cases this
    · obtain ⟨a, b, c, d⟩ := S'.made p hp
      exact ⟨hk _ _ (off (hw' p hp)) a, b, c, d⟩
  by_cases hlt : i < n
  · refine wpAny_mono (W.item i _ (fun v s₂ => wpAny (model prog w) A (assign tgt env v) (fun _ s₃ => wpAny (model prog w) A (execs body env) (fun f s₄ => match f with
        | .next | .cont => ∃ m, m < n + 1 - i ∧ ∃ m' news' j, Sta s₀ env own s₄ m' news' ∧ (∀ p ∈ news', p.1 ∉ kp) ∧ St j s₄.heap ∧ J j m' news' ∧ j ≤ n ∧ m = n + 1 - j
        | .brk => Q .next s₄
        | .ret v => Q (.ret v) s₄) (notedBy (model prog w) A env fun e s' => cameBackBy (model prog w) A env E e s') s₃) (notedBy (model prog w) A env fun e s' => cameBackBy (model prog w) A env E e s') s₂) _ hlt st' fun v h₁ tk₁ hP hst₁ hk₁ => ?_)
      (fun r s₁ hr => by obtain ⟨v, rfl, hr⟩ := hr; exact hr) fun _ _ x => x
    have S₁ := still h₁ tk₁ hk₁
    let ow : List (Addr × Obj) := kp.map fun b => (b, (h₁.get? b).getD default)
    have how : ow.map (·.1) = kp := by simp only [ow, List.map_map]; exact List.map_id' kp
    have hget : ∀ p ∈ ow, h₁.get? p.1 = some p.2 ∧ p.1 ∈ kp := fun p hp => by
      obtain ⟨b, hb, rfl⟩ := List.mem_map.mp hp
      obtain ⟨o, e⟩ := hex _ _ hst₁ b hb
      exact ⟨by simp [e], hb⟩
    have S₂ : Sta s₀ env own { s' with heap := h₁, toks := tk₁ } m' (ow ++ news') := by
      refine ⟨S₁.go, S₁.keep, S₁.ns, S₁.cell, S₁.kinds, S₁.addrs, S₁.offL, S₁.newL, S₁.newC, S₁.ownIn, S₁.whose, fun p hp => ?_, ?_⟩
      · rcases List.mem_append.mp hp with hp | hp
        · obtain ⟨e, hb⟩ := hget p hp
          exact ⟨e, hk0 _ hb, fun q => hkL (q ▸ hb), fun q hq e => hkc q hq (e ▸ hb)⟩
        · exact S₁.made p hp
      · rw [List.map_append, how]
        refine List.nodup_append.mpr ⟨hkn, S₁.nodup, fun a ha b hb e => ?_⟩
        obtain ⟨p, hp, rfl⟩ := List.mem_map.mp hb
        exact hw' p hp (e ▸ ha)
    have fin : ∀ s₃, (∃ m₃ news₃, Sta s₀ env own s₃ m₃ (ow ++ news₃) ∧ J (i + 1) m₃ news₃) → ∃ k', k' < n + 1 - i ∧ ∃ m' news' j, Sta s₀ env own s₃ m' news' ∧ (∀ p ∈ news', p.1 ∉ kp) ∧ St j s₃.heap ∧ J j m' news' ∧ j ≤ n ∧ k' = n + 1 - j := by
      rintro s₃ ⟨m₃, news₃, S₃, hJ₃⟩
      have hnd := S₃.nodup
      rw [List.map_append, how] at hnd
      obtain ⟨_, hn2, hn3⟩ := List.nodup_append.mp hnd
      refine ⟨n + 1 - (i + 1), by omega, m₃, news₃, i + 1, S₃.drop (fun p hp => List.mem_append_right _ hp) hn2, fun p hp hb => hn3 _ hb _ (List.mem_map_of_mem hp) rfl, ?_, hJ₃, hlt, rfl⟩
      refine W.frame _ _ _ hst₁ fun b hb o e => ?_
      rcases hfp b hb with h | ⟨o', h⟩ | ⟨o', h⟩
      · have hm : (b, o) ∈ ow := List.mem_map.mpr ⟨b, h, by simp [e]⟩
        exact (S₃.made _ (List.mem_append_left _ hm)).1
      · have e1 := S₁.keep b o' h
        have e2 : h₁.get? b = some o' := e1
        rw [e] at e2
        cases e2
        exact S₃.keep b _ h
      · have e1 : h₁.get? b = some o' := (S₁.made _ (h _ _ _ hJ)).1
        rw [e] at e1
        cases e1
        exact (S₃.made _ (List.mem_append_right _ (h _ _ _ hJ₃))).1
    refine wpAny_mono (turn i v _ m' news' ow hlt hP hJ how S₂) (fun _ s₃ h₃ => wpAny_mono h₃ (fun f s₄ h₄ => ?_) fun _ _ x => x.elim) fun _ _ x => x.elim
    cases f with
    | ret v => exact h₄
    | brk => exact h₄
    | next => exact fin _ h₄
    | cont => exact fin _ h₄
  · have hin : i = n := by omega
    subst hin
    refine W.done _ _ _ st' fun h₁ tk₁ hk₁ => wpAny_execs_nil ?_
    exact done _ _ _ hJ (still h₁ tk₁ hk₁)

theorem one_of {ow : List (Addr × Obj)} {b : Addr} (h : ow.map (·.1) = [b]) : ∃ o, ow = [(b, o)] := by
  cases ow with
  | nil => cases h
  | cons p r =>
    cases r with
    | nil =>
      rw [List.map_cons, List.map_nil] at h
      exact ⟨p.2, by rw [← (List.cons.inj h).1]⟩
    | cons q t => cases h
theorem nodup1 (a : Addr) : [a].Nodup := by simp
theorem nomem1 {a b : Addr} (h : a ≠ b) : a ∉ [b] := fun e => h (List.mem_singleton.mp e)

theorem Sta.offNew (S : Sta s₀ env own s m news) (o : Obj) (hf : o.isFreed = false) : s₀.heap.get? s.heap.objs.size = none ∧ env.locals ≠ s.heap.objs.size ∧ (∀ q ∈ own, q.2 ≠ s.heap.objs.size) ∧ ∀ p ∈ news, p.1 ≠ s.heap.objs.size := by
  have S' := S.push o hf
  obtain ⟨_, b, c, d⟩ := S'.made _ (.head _)
  refine ⟨b, Ne.symm c, fun q hq => Ne.symm (d q hq), fun p hp e => ?_⟩
  exact (List.nodup_cons.mp S'.nodup).1 (List.mem_map.mpr ⟨p, hp, e⟩)

/-- over a list -/
theorem for_list {ax : Addr} {vs : List Value} (J : Nat → (Str → Option Value) → List (Addr × Obj) → Prop) (hh : A.handled = none) (S : Sta s₀ env own s m news) (hl : s.heap.IsList ax vs.toArray) (h0 : J 0 m news)
    (hax : (∃ o, s₀.heap.get? ax = some o) ∨ ∃ o, ∀ i m' n', J i m' n' → (ax, o) ∈ n')
    (turn : ∀ i v s₂ m₂ news₂ a oo, i < vs.length → vs[i]? = some v → J i m₂ news₂ → Sta s₀ env own s₂ m₂ ((a, oo) :: news₂) →
      wpAny (model prog w) A (assign tgt env v) (fun _ s₃ => wpAny (model prog w) A (execs body env) (TurnPost s₀ env own [(a, oo)] (J (i + 1)) Q) (fun _ _ => False) s₃) (fun _ _ => False) s₂)
    (done : ∀ s₂ m₂ news₂, J vs.length m₂ news₂ → Sta s₀ env own s₂ m₂ news₂ → Q .next s₂) (ht : ∀ it v, letOwnedTupleGo tgt it v = pure () := by intro _ _; rfl) : wpAny (model prog w) A (pyIter (.ref ax)) (fun it s₂ => ForAt (model prog w) A tgt body env Q E it s₂) E s := by
  refine wpAny_pyIter_list hl ?_
  obtain ⟨b, c, d, e⟩ := S.offNew { cls := .type "list_iterator", data := .fields #[.ref ax, .int 0 0] } rfl
  have hlt : ax ≠ s.heap.objs.size := by
    obtain ⟨o, e, _⟩ := hl
    exact Nat.ne_of_lt (Heap.lt_size e)
  refine for_walks (kp := [s.heap.objs.size]) (WalkG.of (Walks.list hh _ ax hlt vs.toArray) (ht _)) J ((S.push { cls := .type "list_iterator", data := .fields #[.ref ax, .int 0 0] }).drop (fun p hp => .tail _ hp) S.nodup) h0
    ⟨⟨_, Heap.get?_push_size _ rfl, rfl, rfl⟩, hl.push _⟩ (fun _ h => h) (fun i h st b hb => ?_) (nodup1 _) (fun x hx => ?_) (nomem1 c) (fun q hq => nomem1 (d q hq)) (fun p hp => nomem1 (e p hp)) (fun x hx => ?_) (fun i v s₂ m₂ news₂ ow hi hP hJ how S₂ => ?_) (fun s₂ m₂ news₂ hJ S₂ => done s₂ m₂ news₂ (by simpa using hJ) S₂)
  · rw [List.mem_singleton.mp hb]
    obtain ⟨⟨o, e, _⟩, _⟩ := st
    exact ⟨o, e⟩
  · rw [List.mem_singleton.mp hx]; exact b
  · rcases List.mem_cons.mp hx with q | hx
    · exact .inl (q ▸ List.mem_singleton.mpr rfl)
    · rw [List.mem_singleton.mp hx]; exact .inr hax
  · obtain ⟨oo, rfl⟩ := one_of how
    exact turn i v s₂ m₂ news₂ _ oo (by simpa using hi) (by simpa using hP) hJ S₂

/-- over a tuple -/
theorem for_tuple {ax : Addr} {vs : List Value} (J : Nat → (Str → Option Value) → List (Addr × Obj) → Prop) (hh : A.handled = none) (S : Sta s₀ env own s m news) (hl : s.heap.IsTuple ax vs.toArray) (h0 : J 0 m news)
    (hax : (∃ o, s₀.heap.get? ax = some o) ∨ ∃ o, ∀ i m' n', J i m' n' → (ax, o) ∈ n')
    (turn : ∀ i v s₂ m₂ news₂ a oo, i < vs.length → vs[i]? = some v → J i m₂ news₂ → Sta s₀ env own s₂ m₂ ((a, oo) :: news₂) →
      wpAny (model prog w) A (assign tgt env v) (fun _ s₃ => wpAny (model prog w) A (execs body env) (TurnPost s₀ env own [(a, oo)] (J (i + 1)) Q) (fun _ _ => False) s₃) (fun _ _ => False) s₂)
    (done : ∀ s₂ m₂ news₂, J vs.length m₂ news₂ → Sta s₀ env own s₂ m₂ news₂ → Q .next s₂) (ht : ∀ it v, letOwnedTupleGo tgt it v = pure () := by intro _ _; rfl) : wpAny (model prog w) A (pyIter (.ref ax)) (fun it s₂ => ForAt (model prog w) A tgt body env Q E it s₂) E s := by
  refine wpAny_pyIter_tuple hl ?_
  obtain ⟨b, c, d, e⟩ := S.offNew { cls := .type "tuple_iterator", data := .fields #[.ref ax, .int 0 0] } rfl
  have hlt : ax ≠ s.heap.objs.size := by
    obtain ⟨o, e, _⟩ := hl
    exact Nat.ne_of_lt (Heap.lt_size e)
  refine for_walks (kp := [s.heap.objs.size]) (WalkG.of (Walks.tuple hh _ ax hlt vs.toArray) (ht _)) J ((S.push { cls := .type "tuple_iterator", data := .fields #[.ref ax, .int 0 0] }).drop (fun p hp => .tail _ hp) S.nodup) h0
    ⟨⟨_, Heap.get?_push_size _ rfl, rfl, rfl⟩, let ⟨o, e, r⟩ := hl; ⟨o, Heap.get?_push_of_some _ e, r⟩⟩ (fun _ h => h) (fun i h st b hb => ?_) (nodup1 _) (fun x hx => ?_) (nomem1 c) (fun q hq => nomem1 (d q hq)) (fun p hp => nomem1 (e p hp)) (fun x hx => ?_) (fun i v s₂ m₂ news₂ ow hi hP hJ how S₂ => ?_) (fun s₂ m₂ news₂ hJ S₂ => done s₂ m₂ news₂ (by simpa using hJ) S₂)
  · rw [List.mem_singleton.mp hb]
    obtain ⟨⟨o, e, _⟩, _⟩ := st
    exact ⟨o, e⟩
  · rw [List.mem_singleton.mp hx]; exact b
  · rcases List.mem_cons.mp hx with q | hx
    · exact .inl (q ▸ List.mem_singleton.mpr rfl)
    · rw [List.mem_singleton.mp hx]; exact .inr hax
  · obtain ⟨oo, rfl⟩ := one_of how
    exact turn i v s₂ m₂ news₂ _ oo (by simpa using hi) (by simpa using hP) hJ S₂

/-- over range(n) -/
theorem for_range {r : Addr} {b₀ : Int} {t₀ u₀ v₀ : Tok} {n : Nat} (J : Nat → (Str → Option Value) → List (Addr × Obj) → Prop) (hh : A.handled = none) (S : Sta s₀ env own s m news) (hr : IsRange s.heap r 0 b₀ 1 t₀ u₀ v₀)
    (hsmall : Builtin.Range.small 0 b₀ 1 = true) (hn : Builtin.Range.rangeSize 0 b₀ 1 = (n : Int)) (h0 : J 0 m news)
    (turn : ∀ i t s₂ m₂ news₂ a oo, i < n → J i m₂ news₂ → Sta s₀ env own s₂ m₂ ((a, oo) :: news₂) →
      wpAny (model prog w) A (assign tgt env (.int (i : Int) t)) (fun _ s₃ => wpAny (model prog w) A (execs body env) (TurnPost s₀ env own [(a, oo)] (J (i + 1)) Q) (fun _ _ => False) s₃) (fun _ _ => False) s₂)
    (done : ∀ s₂ m₂ news₂, J n m₂ news₂ → Sta s₀ env own s₂ m₂ news₂ → Q .next s₂) (ht : ∀ it v, letOwnedTupleGo tgt it v = pure () := by intro _ _; rfl) : wpAny (model prog w) A (pyIter (.ref r)) (fun it s₂ => ForAt (model prog w) A tgt body env Q E it s₂) E s := by
  refine wpAny_pyIter_range hr hsmall ?_
  obtain ⟨b, c, d, e⟩ := S.offNew { cls := .type "range_iterator", data := .fields #[rawInt 0, rawInt (Builtin.Range.rangeSize 0 b₀ 1), rawInt 1] } rfl
  refine for_walks (kp := [s.heap.objs.size]) (WalkG.of (Walks.range hh _ 0 1 n) (ht _)) J ((S.push { cls := .type "range_iterator", data := .fields #[rawInt 0, rawInt (Builtin.Range.rangeSize 0 b₀ 1), rawInt 1] }).drop (fun p hp => .tail _ hp) S.nodup) h0
    (by show IsRangeIter _ _ _ _ _; rw [hn]; simpa using Heap.get?_push_size _ rfl) (fun _ h => h) (fun i h st b hb => ?_) (nodup1 _) (fun x hx => ?_) (nomem1 c) (fun q hq => nomem1 (d q hq)) (fun p hp => nomem1 (e p hp)) (fun x hx => .inl hx) (fun i v s₂ m₂ news₂ ow hi hP hJ how S₂ => ?_) (fun s₂ m₂ news₂ hJ S₂ => done s₂ m₂ news₂ hJ S₂)
  · rw [List.mem_singleton.mp hb]
    exact ⟨_, st⟩
  · rw [List.mem_singleton.mp hx]; exact b
  · obtain ⟨t, rfl⟩ := hP
    obtain ⟨oo, rfl⟩ := one_of how
    have e : (0 : Int) + (i : Int) * 1 = (i : Int) := by omega
    rw [e]
    exact turn i t s₂ m₂ news₂ _ oo hi hJ S₂
end
end
-- FwComp
local macro_rules | `(tactic| walk_at "m:omega") => `(tactic| first | omega | (unfold Addr at *; omega))

section
/-- the closure of a comprehension: its free names' cells -/
def clStep (env : Env) (acc : List (Str × Addr)) (x : Str × NameKind) : List (Str × Addr) := if x.2 == .free then (x.1, (env.cells.lookup x.1).getD 0) :: acc else acc
def clOf (scope : Scope) (env : Env) : List (Str × Addr) := scope.names.foldl (clStep env) []

theorem closureFor_go {env : Env} (f : Str × NameKind → List (Str × Addr) → Sem (ForInStep (List (Str × Addr))))
    (hf : ∀ name kind cs, f (name, kind) cs = if kind == .free then (do let a ← cellOf env name; pure (.yield ((name, a) :: cs))) else pure (.yield cs)) :
    ∀ (names : List (Str × NameKind)) (acc : List (Str × Addr)), (names.all fun x => x.2 != .free || (env.cells.lookup x.1).isSome) = true → (forIn names acc f : Sem (List (Str × Addr))) = pure (names.foldl (clStep env) acc)
  | [], acc, _ => by rw [List.forIn_nil]; rfl
  | (n, k) :: r, acc, h => by
    rw [List.all_cons, Bool.and_eq_true] at h
    rw [List.forIn_cons, hf, List.foldl_cons]
    by_cases hk : (k == .free) = true
    · rw [if_pos hk]
      have h1 := h.1
      have hk' : k = .free := beq_iff_eq.mp hk
      rw [hk'] at h1
      have h2 : (env.cells.lookup n).isSome = true := by simpa using h1
      obtain ⟨c, e⟩ := Option.isSome_iff_exists.mp h2
      have e1 : cellOf env n = pure c := by unfold cellOf; rw [e]
      have e2 : clStep env acc (n, k) = (n, c) :: acc := by unfold clStep; rw [if_pos hk, e]; rfl
      rw [e1, e2, ← closureFor_go f hf r _ h.2]
      rfl
    · rw [if_neg hk]
      have e2 : clStep env acc (n, k) = acc := by unfold clStep; rw [if_neg hk]
      rw [e2, ← closureFor_go f hf r _ h.2]
      rfl
theorem closureFor_clOf {scope : Scope} {env : Env} (h : (scope.names.all fun x => x.2 != .free || (env.cells.lookup x.1).isSome) = true) : closureFor scope env = pure (clOf scope env) := by
  unfold closureFor
  refine congrArg (fun t => t >>= fun cs => pure cs) (closureFor_go (env := env) _ (fun name kind cs => ?_) scope.names [] h)
  cases hk : kind == NameKind.free <;> simp [hk]

theorem clFold_mem {env : Env} : ∀ (names : List (Str × NameKind)) (acc : List (Str × Addr)) {p : Str × Addr}, p ∈ names.foldl (clStep env) acc → p ∈ acc ∨ ((p.1, NameKind.free) ∈ names ∧ p.2 = (env.cells.lookup p.1).getD 0)
  | [], _, _, h => .inl h
  | (n, k) :: r, acc, p, h => by
    rw [List.foldl_cons] at h
    rcases clFold_mem r _ h with h | ⟨h1, h2⟩
    · unfold clStep at h
      by_cases hk : (k == .free) = true
      · rw [if_pos hk] at h
        rcases List.mem_cons.mp h with e | h
        · subst e
          exact .inr ⟨by rw [← beq_iff_eq.mp hk]; exact .head _, rfl⟩
        · exact .inl h
      · rw [if_neg hk] at h
        exact .inl h
    · exact .inr ⟨.tail _ h1, h2⟩
theorem clOf_mem {scope : Scope} {env : Env} {p : Str × Addr} (hok : (scope.names.all fun x => x.2 != .free || (env.cells.lookup x.1).isSome) = true) (h : p ∈ clOf scope env) : (p.1, NameKind.free) ∈ scope.names ∧ env.cells.lookup p.1 = some p.2 := by
  rcases clFold_mem _ _ h with h | ⟨h1, h2⟩
  · cases h
  · refine ⟨h1, ?_⟩
    have h3 := List.all_eq_true.mp hok _ h1
    have h4 : (env.cells.lookup p.1).isSome = true := by simpa using h3
    obtain ⟨c, e⟩ := Option.isSome_iff_exists.mp h4
    rw [e] at h2 ⊢
    rw [h2]
    rfl
theorem clFold_names {env : Env} : ∀ (names : List (Str × NameKind)) (acc : List (Str × Addr)), ((names.map (·.1)).Nodup) → (acc.map (·.1)).Nodup → (∀ a ∈ acc, a.1 ∉ names.map (·.1)) → ((names.foldl (clStep env) acc).map (·.1)).Nodup
  | [], _, _, h, _ => h
  | (n, k) :: r, acc, hn, h, hd => by
    rw [List.map_cons, List.nodup_cons] at hn
    rw [List.foldl_cons]
    refine clFold_names r _ hn.2 ?_ fun a ha => ?_
    · unfold clStep
      split
      · rw [List.map_cons, List.nodup_cons]
        refine ⟨fun hm => ?_, h⟩
        obtain ⟨q, hq, e⟩ := List.mem_map.mp hm
        exact hd q hq (by rw [List.map_cons, e]; exact .head _)
      · exact h
    · unfold clStep at ha
      split at ha
      · rcases List.mem_cons.mp ha with e | ha
        · subst e
          exact hn.1
        · exact fun hm => hd a ha (by rw [List.map_cons]; exact .tail _ hm)
      · exact fun hm => hd a ha (by rw [List.map_cons]; exact .tail _ hm)

theorem cellsFrom_append : ∀ (names : List (Str × NameKind)) (n : Nat) (acc : List (Str × Addr)), cellsFrom n names acc = cellsFrom n names [] ++ acc
  | [], _, _ => rfl
  | (y, k) :: r, n, acc => by
    unfold cellsFrom
    by_cases hk : (k == .cell) = true
    · rw [if_pos hk, if_pos hk, cellsFrom_append r (n + 1) ((y, n) :: acc), cellsFrom_append r (n + 1) [(y, n)], List.append_assoc]
      rfl
    · rw [if_neg hk, if_neg hk, cellsFrom_append r n acc]

/-- the block of a comprehension -/
def cenvOf (scope : Scope) (C : Addr) (env : Env) : Env :=
  { scope := relabel scope env, locals := C, globals := env.globals, cells := cellsFrom (C + 1) scope.names (clOf scope env), qual := env.qual, func := none, code := env.code, frame := env.frame, builtins := env.builtins }
def cownOf (scope : Scope) (C : Addr) : List (Str × Addr) := cellsFrom (C + 1) scope.names []

section
variable {prog : Program} {w : World} {A : Around} {E : Value → Shared → Prop} {R : Result → Shared → Prop} {s : Shared}
theorem compLoop_any {elt target iter : Expr} {ifs : List Expr} {scope : Scope} {pos : Pos} {it acc : Value} {env : Env} (I : Nat → Shared → Prop)
    (turn : ∀ n s, I n s → wpAny (model prog w) A (pyNext it) (fun r s₁ => match r with
      | none => R (.ok .next) s₁
      | some v => wpAny (model prog w) A (letOwnedTupleGo target it v) (fun _ s₁' => wpAny (model prog w) A (assign target env v) (fun _ s₂ =>
          wpAny (model prog w) A (forIn ifs true fun c r => if r = true then do let ok ← isTrue c env (eval c env); pure (ForInStep.yield ok) else pure (ForInStep.yield r)) (fun ok s₃ =>
            if ok = true then wpAny (model prog w) A (eval elt env) (fun x s₄ =>
              wpAny (model prog w) A (call (.builtin "list.append") [acc, x]) (fun _ s₅ => ∃ m, m < n ∧ I m s₅) (notedBy (model prog w) A env fun e s' => R (.error e) s') s₄) (notedBy (model prog w) A env fun e s' => R (.error e) s') s₃
            else ∃ m, m < n ∧ I m s₃) (notedBy (model prog w) A env fun e s' => R (.error e) s') s₂) (notedBy (model prog w) A env fun e s' => R (.error e) s') s₁') (notedBy (model prog w) A env fun e s' => R (.error e) s') s₁) (notedBy (model prog w) A env fun e s' => R (.error e) s') s)
    (n : Nat) (h : I n s) : codeAny (model prog w) A (.compLoop (.ListComp elt [⟨target, iter, ifs, 0⟩] scope pos) 0 it acc env) R s := by
  refine codeAny_loop rfl I (fun n s hI => ?_) n h
  show wpAny _ A ((compTurn (.ListComp elt [⟨target, iter, ifs, 0⟩] scope pos) 0 it acc env).onRaise (fun x => do noteFrame x env; theTreesLotGoes x)) _ _ s
  refine wpAny_noted ?_
  rw [compTurn_list]
  refine wpAny_bind (wpAny_standAt (wpAny_bind (wpAny_mono (turn n s hI) (fun r s₁ h₁ => ?_) fun _ _ h' => h')))
  cases r with
  | none => exact wpAny_pure h₁
  | some v =>
    refine wpAny_bind (wpAny_mono h₁ (fun _ s₁' h₁' => ?_) fun _ _ h' => h')
    refine wpAny_bind (wpAny_mono h₁' (fun _ s₂ h₂ => wpAny_bind (wpAny_mono h₂ (fun ok s₃ h₃ => ?_) fun _ _ h' => h')) fun _ _ h' => h')
    cases ok with
    | false => exact wpAny_pure ⟨rfl, h₃⟩
    | true =>
      exact wpAny_bind (wpAny_bind (wpAny_mono h₃ (fun x s₄ h₄ => wpAny_bind (wpAny_mono h₄ (fun _ s₅ h₅ => wpAny_pure (wpAny_pure ⟨rfl, h₅⟩)) fun _ _ h' => h')) fun _ _ h' => h'))
end

section
variable {prog : Program} {w : World} {A : Around} {E : Value → Shared → Prop} {s₀ s : Shared} {env : Env} {own : List (Str × Addr)} {m : Str → Option Value} {news : List (Addr × Obj)} {elt tgt : Expr} {ifs : List Expr} {scope : Scope}

/-- a turn of a comprehension, from a state s₁ -/
def CompTurn (prog : Program) (w : World) (A : Around) (env : Env) (m : Str → Option Value) (elt tgt : Expr) (ifs : List Expr) (scope : Scope) (wr : List Addr) (s₁ : Shared) (n : Nat) (P : Nat → Value → Heap → Prop) (J : Nat → List Value → List (Addr × Obj) → Prop) : Prop :=
  ∀ i v ys led C s₀ s₂ m₂, i < n → P i v s₂.heap → J i ys led → ys.length ≤ i → (∀ b o, b ∉ wr → s₁.heap.get? b = some o → s₀.heap.get? b = some o) → Go s₁ s₂ → (∀ x, scope.names.lookup x = some .free → m₂ x = m x) →
    Sta s₀ (cenvOf scope C env) (cownOf scope C) s₂ m₂ led →
    wpAny (model prog w) A (assign tgt (cenvOf scope C env) v) (fun _ s₃ =>
      wpAny (model prog w) A (forIn ifs true fun c r => if r = true then do let ok ← isTrue c (cenvOf scope C env) (eval c (cenvOf scope C env)); pure (ForInStep.yield ok) else pure (ForInStep.yield r)) (fun ok s₄ =>
        if ok = true then wpAny (model prog w) A (eval elt (cenvOf scope C env)) (fun y s₅ => ∃ m₅ led₅, Sta s₀ (cenvOf scope C env) (cownOf scope C) s₅ m₅ led₅ ∧ J (i + 1) (ys ++ [y]) led₅) (fun _ _ => False) s₄
        else ∃ m₄ led₄, Sta s₀ (cenvOf scope C env) (cownOf scope C) s₄ m₄ led₄ ∧ J (i + 1) ys led₄) (fun _ _ => False) s₃) (fun _ _ => False) s₂


theorem cellsFrom_nodup : ∀ (names : List (Str × NameKind)) (n : Nat) (acc : List (Str × Addr)), ((names.map (·.1)).Nodup) → (acc.map (·.1)).Nodup → (∀ a ∈ acc, (a.1, NameKind.cell) ∉ names) → ((cellsFrom n names acc).map (·.1)).Nodup
  | [], _, _, _, h, _ => h
  | (y, k) :: r, n, acc, hn, h, hd => by
    rw [List.map_cons, List.nodup_cons] at hn
    unfold cellsFrom
    by_cases hk : (k == .cell) = true
    · rw [if_pos hk]
      have hk' : k = .cell := beq_iff_eq.mp hk
      refine cellsFrom_nodup r _ _ hn.2 ?_ fun a ha hm => ?_
      · rw [List.map_cons, List.nodup_cons]
        refine ⟨fun hm => ?_, h⟩
        obtain ⟨q, hq, e⟩ := List.mem_map.mp hm
        exact hd q hq (by rw [e, hk']; exact .head _)
      · rcases List.mem_cons.mp ha with e | ha
        · subst e
          exact hn.1 (List.mem_map.mpr ⟨_, hm, rfl⟩)
        · exact hd a ha (.tail _ hm)
    · rw [if_neg hk]
      exact cellsFrom_nodup r _ _ hn.2 h fun a ha hm => hd a ha (.tail _ hm)

theorem kind_unique {names : List (Str × NameKind)} (hn : (names.map (·.1)).Nodup) {n : Str} {k k' : NameKind} (h : (n, k) ∈ names) (h' : (n, k') ∈ names) : k = k' := by
  induction names with
  | nil => cases h
  | cons p r ih =>
    rw [List.map_cons, List.nodup_cons] at hn
    rcases List.mem_cons.mp h with e | h <;> rcases List.mem_cons.mp h' with e' | h'
    · rw [← e'] at e; exact (Prod.mk.inj e).2
    · exact absurd (List.mem_map.mpr ⟨_, h', by rw [← e]⟩) hn.1
    · exact absurd (List.mem_map.mpr ⟨_, h, by rw [← e']⟩) hn.1
    · exact ih hn.2 h h'
theorem kind_lookup {names : List (Str × NameKind)} (hn : (names.map (·.1)).Nodup) {n : Str} {k : NameKind} (h : (n, k) ∈ names) : names.lookup n = some k := by
  induction names with
  | nil => cases h
  | cons p r ih =>
    rw [List.map_cons, List.nodup_cons] at hn
    rw [List.lookup_cons]
    rcases List.mem_cons.mp h with e | h
    · rw [← e]; simp
    · have hb : (n == p.1) = false := by
        cases q : n == p.1 with
        | false => rfl
        | true => exact absurd (List.mem_map.mpr ⟨_, h, beq_iff_eq.mp q⟩) hn.1
      rw [hb]
      exact ih hn.2 h
theorem mem_of_kind {names : List (Str × NameKind)} {n : Str} {k : NameKind} (h : names.lookup n = some k) : (n, k) ∈ names := mem_of_lookup h

theorem relabel_local {scope : Scope} {env : Env} {x : Str} (h : (relabel scope env).names.lookup x = some .local) : scope.names.lookup x = some .local := by
  unfold relabel at h
  dsimp only at h
  revert h
  generalize scope.names = names
  induction names with
  | nil => intro h; exact h
  | cons p r ih =>
    obtain ⟨n, k⟩ := p
    intro h
    rw [List.map_cons, List.lookup_cons] at h
    rw [List.lookup_cons]
    by_cases hc : (k == NameKind.free && env.scope.kind == .function && env.kindOf n == some .cell) = true
    · simp only [hc, if_true] at h
      cases q : x == n with
      | true => rw [q] at h; cases h
      | false => rw [q] at h; exact ih h
    · simp only [if_neg hc] at h
      cases q : x == n with
      | true => rw [q] at h; exact h
      | false => rw [q] at h; exact ih h

/-- what is known of the block, whatever the turn -/
structure CS (s : Shared) (env : Env) (m : Str → Option Value) (scope : Scope) (D C : Addr) (fp wr : List Addr) : Prop where
  hD : s.heap.objs.size = D
  hC : C = D + 1
  low : ∀ b ∈ fp, b < D
  sub : ∀ b ∈ wr, b ∈ fp
  nd : (scope.names.map (·.1)).Nodup
  free : ∀ x c, (x, c) ∈ clOf scope env → (x, NameKind.free) ∈ scope.names ∧ env.cells.lookup x = some c ∧ s.heap.IsCell c (m x) ∧ c ∉ wr
  cl : (clOf scope env).Pairwise fun p q => p.2 ≠ q.2
  cln : ((clOf scope env).map (·.1)).Nodup

/-- a state between two turns -/
structure CI (s : Shared) (env : Env) (scope : Scope) (D C : Addr) (fp wr : List Addr) (s' : Shared) (ys : List Value) (m' : Str → Option Value) (led : List (Addr × Obj)) : Prop where
  go : Go s s'
  up : ∀ b o, b ∉ wr → s.heap.get? b = some o → s'.heap.get? b = some o
  acc : ∃ e, s'.heap.get? D = some (listOf ys.toArray e)
  ns : ∃ ml, s'.heap.Ns C ml ∧ ∀ x, (cenvOf scope C env).kindOf x = some .local → ml x = m' x
  cell : ∀ n c, (cenvOf scope C env).cells.lookup n = some c → s'.heap.IsCell c (m' n)
  made : ∀ p ∈ led, s'.heap.get? p.1 = some p.2 ∧ s.heap.get? p.1 = none ∧ p.1 ∉ fp ∧ p.1 ≠ D ∧ p.1 ≠ C ∧ ∀ q ∈ cownOf scope C, p.1 ≠ q.2
  nodup : (led.map (·.1)).Nodup

theorem CS.cells_mem {D C : Addr} {fp wr : List Addr} (_K : CS s env m scope D C fp wr) {n : Str} {c : Addr} (h : (cenvOf scope C env).cells.lookup n = some c) : (n, c) ∈ cownOf scope C ∨ (n, c) ∈ clOf scope env := by
  have h1 := mem_of_lookup h
  unfold cenvOf at h1
  dsimp only at h1
  rw [cellsFrom_append] at h1
  exact List.mem_append.mp h1
theorem CS.own_mem {C : Addr} {q : Str × Addr} (h : q ∈ cownOf scope C) : (q.1, NameKind.cell) ∈ scope.names ∧ C + 1 ≤ q.2 := by
  rcases cellsFrom_mem _ _ _ h with h | h
  · cases h
  · exact h
theorem CS.names {D C : Addr} {fp wr : List Addr} (K : CS s env m scope D C fp wr) : ((cenvOf scope C env).cells.map (·.1)).Nodup := by
  unfold cenvOf
  dsimp only
  refine cellsFrom_nodup _ _ _ K.nd K.cln fun a ha hm => ?_
  have h := (K.free a.1 a.2 ha).1
  cases kind_unique K.nd h hm
theorem CS.lt {D C : Addr} {fp wr : List Addr} (K : CS s env m scope D C fp wr) {x : Str} {c : Addr} (h : (x, c) ∈ clOf scope env) : c < D := by
  have := (K.free x c h).2.2.1.lt
  rw [K.hD] at this
  exact this

/-- the hidden part of the heap: the block's frame and what the turns have made -/
def hid (scope : Scope) (C : Addr) (led : List (Addr × Obj)) : List Addr := C :: ((cownOf scope C).map (·.2) ++ led.map (·.1))
theorem hid_low {C b : Addr} {led : List (Addr × Obj)} (hb : b < C) (hl : ∀ p ∈ led, b ≠ p.1) : b ∉ hid scope C led := fun h => by
  rcases List.mem_cons.mp h with e | h
  · exact Nat.ne_of_lt hb e
  · rcases List.mem_append.mp h with h | h
    · obtain ⟨q, hq, e⟩ := List.mem_map.mp h
      have := (CS.own_mem hq).2
      have : q.2 = b := e
      walk_at "m:omega"
    · obtain ⟨p, hp, e⟩ := List.mem_map.mp h
      exact hl p hp e.symm

theorem CI.sta {D C : Addr} {fp wr : List Addr} (K : CS s env m scope D C fp wr) {s' : Shared} {ys : List Value} {m' : Str → Option Value} {led : List (Addr × Obj)} (X : CI s env scope D C fp wr s' ys m' led) {h₁ : Heap} {tk₁ : Nat} (hk : ∀ b o, b ∉ wr → s'.heap.get? b = some o → h₁.get? b = some o) :
    Sta { s' with heap := hideAll h₁ (hid scope C led), toks := tk₁ } (cenvOf scope C env) (cownOf scope C) { s' with heap := h₁, toks := tk₁ } m' led := by
  have hCw : C ∉ wr := fun h => by have := K.low _ (K.sub _ h); have := K.hC; walk_at "m:omega"
  obtain ⟨ml, n1, n2⟩ := X.ns
  have hcell : ∀ n c, (cenvOf scope C env).cells.lookup n = some c → c ∉ wr := fun n c h hw => by
    rcases K.cells_mem h with h | h
    · have h1 := (CS.own_mem h).2
      have h2 := K.low _ (K.sub _ hw)
      have h3 := K.hC
      have h4 : C + 1 ≤ c := h1
      walk_at "m:omega"
    · exact (K.free n c h).2.2.2 hw
  refine ⟨⟨h₁, tk₁, rfl⟩, fun b o e => of_hideAll _ e, ⟨ml, n1.at' fun o e => hk _ o hCw e, n2⟩, fun n c h => ?_, fun n c h => ?_, ?_, fun n c h => ?_, hideAll_none _ (.head _), fun q hq => ?_, fun q hq => ?_, fun n c h => ?_, fun p hp => ?_, X.nodup⟩
  · obtain ⟨o, e, d⟩ := X.cell n c h
    exact ⟨o, hk c o (hcell n c h) e, d⟩
  · intro hl
    have h1 : scope.names.lookup n = some .local := relabel_local hl
    rcases K.cells_mem h with h | h
    · cases kind_unique K.nd (mem_of_kind h1) (CS.own_mem h).1
    · cases kind_unique K.nd (mem_of_kind h1) (K.free n c h).1
  · show (cellsFrom (C + 1) scope.names (clOf scope env)).Pairwise _
    rw [cellsFrom_append]
    refine List.pairwise_append.mpr ⟨?_, K.cl, fun p hp q hq e => ?_⟩
    · have ok := cellsFrom_ok scope.names ⟨Array.replicate (C + 1) default, {}⟩ 0 [] ⟨fun _ _ hm => (nomatch hm), List.Pairwise.nil⟩ (Nat.zero_le _)
      rw [show (⟨Array.replicate (C + 1) default, {}⟩ : Heap).objs.size = C + 1 from Array.size_replicate] at ok
      exact ok.apart
    · have h1 := (CS.own_mem hp).2
      have h2 := K.lt (x := q.1) (c := q.2) hq
      have h3 := K.hC
      walk_at "m:omega"
  · show c ≠ C
    rcases K.cells_mem h with h | h
    · have h1 : C + 1 ≤ c := (CS.own_mem h).2
      walk_at "m:omega"
    · have h1 := K.lt h
      have h3 := K.hC
      walk_at "m:omega"
  · exact hideAll_none _ (.tail _ (List.mem_append_left _ (List.mem_map_of_mem hq)))
  · refine lookup_of_mem_nodup K.names ?_
    show _ ∈ cellsFrom (C + 1) scope.names (clOf scope env)
    rw [cellsFrom_append]
    exact List.mem_append_left _ hq
  · rcases K.cells_mem h with h | h
    · exact .inl h
    · obtain ⟨_, _, ⟨o, e, _⟩, hw⟩ := K.free n c h
      refine .inr ⟨o, hideAll_get _ (hk c o hw (X.up c o hw e)) (hid_low (by have := K.lt h; have := K.hC; walk_at "m:omega") fun p hp q => ?_)⟩
      have := (X.made p hp).2.1
      rw [← q, e] at this
      cases this
  · obtain ⟨a, b, c, d, e, f⟩ := X.made p hp
    exact ⟨hk _ _ (fun hw => c (K.sub _ hw)) a, hideAll_none _ (.tail _ (List.mem_append_right _ (List.mem_map_of_mem hp))), e, f⟩

/-- what stood, or the iterator's own, stands behind the turn -/
theorem CI.back {D C : Addr} {fp wr : List Addr} (K : CS s env m scope D C fp wr) {s' : Shared} {ys : List Value} {m' m₅ : Str → Option Value} {led led₅ : List (Addr × Obj)} (X : CI s env scope D C fp wr s' ys m' led) {h₁ : Heap} {tk₁ : Nat}
    (hex : ∀ b ∈ fp, ∃ o, h₁.get? b = some o)
    (hk : ∀ b o, b ∉ wr → s'.heap.get? b = some o → h₁.get? b = some o) {s₅ : Shared} (S : Sta { s' with heap := hideAll h₁ (hid scope C led), toks := tk₁ } (cenvOf scope C env) (cownOf scope C) s₅ m₅ led₅) :
    CI s env scope D C fp wr s₅ ys m₅ led₅ ∧ ∀ b ∈ fp, ∀ o, h₁.get? b = some o → s₅.heap.get? b = some o := by
  have hDw : D ∉ wr := fun h => by have := K.low _ (K.sub _ h); walk_at "m:omega"
  have hlow : ∀ p ∈ led, s.heap.get? p.1 = none ∧ p.1 ∉ fp ∧ p.1 ≠ D := fun p hp => ⟨(X.made p hp).2.1, (X.made p hp).2.2.1, (X.made p hp).2.2.2.1⟩
  have hfpk : ∀ b ∈ fp, ∀ o, h₁.get? b = some o → (hideAll h₁ (hid scope C led)).get? b = some o := fun b hb o e =>
    hideAll_get _ e (hid_low (by have := K.low b hb; have := K.hC; walk_at "m:omega") fun p hp q => (hlow p hp).2.1 (q ▸ hb))
  have hup : ∀ b o, b ∉ wr → s.heap.get? b = some o → (hideAll h₁ (hid scope C led)).get? b = some o := fun b o hw e =>
    hideAll_get _ (hk b o hw (X.up b o hw e)) (hid_low (by have := Heap.lt_size e; rw [K.hD] at this; have := K.hC; walk_at "m:omega") fun p hp q => by
      have := (hlow p hp).1
      rw [← q, e] at this
      cases this)
  obtain ⟨e, eD⟩ := X.acc
  have hDb : (hideAll h₁ (hid scope C led)).get? D = some (listOf ys.toArray e) :=
    hideAll_get _ (hk D _ hDw eD) (hid_low (by have := K.hC; walk_at "m:omega") fun p hp q => (hlow p hp).2.2 q.symm)
  refine ⟨⟨X.go.trans (Go.trans Go.mk S.go), fun b o hw e => S.keep b o (hup b o hw e), ⟨e, S.keep _ _ hDb⟩, S.ns, S.cell, fun p hp => ?_, S.nodup⟩, fun b hb o e => S.keep b o (hfpk b hb o e)⟩
  obtain ⟨a, b, c, d⟩ := S.made p hp
  refine ⟨a, ?_, fun hf => ?_, get_ne b hDb, c, d⟩
  · cases q : s.heap.get? p.1 with
    | none => rfl
    | some o =>
      by_cases hw : p.1 ∈ wr
      · obtain ⟨o', e'⟩ := hex _ (K.sub _ hw)
        have := hfpk _ (K.sub _ hw) _ e'
        rw [b] at this
        cases this
      · have := hup _ _ hw q
        rw [b] at this
        cases this
  · obtain ⟨o', e'⟩ := hex _ hf
    have := hfpk _ hf _ e'
    rw [b] at this
    cases this

theorem CI.append {D C : Addr} {fp wr : List Addr} (K : CS s env m scope D C fp wr) {s' : Shared} {ys : List Value} {m' : Str → Option Value} {led : List (Addr × Obj)} (X : CI s env scope D C fp wr s' ys m' led) {y : Value} {h' : Heap} {e' : Nat}
    (hs : Heap.SameBut D s'.heap h') (ho : h'.get? D = some (listOf (ys ++ [y]).toArray e')) : CI s env scope D C fp wr { s' with heap := h' } (ys ++ [y]) m' led := by
  have hCD : C ≠ D := by have := K.hC; walk_at "m:omega"
  obtain ⟨ml, n1, n2⟩ := X.ns
  refine ⟨X.go.trans Go.heap, fun b o hw e => (hs.2 b fun q => ?_).trans (X.up b o hw e), ⟨e', ho⟩, ⟨ml, n1.sameBut hs hCD, n2⟩, fun n c h => (X.cell n c h).sameBut hs fun q => ?_, fun p hp => ?_, X.nodup⟩
  · have := Heap.lt_size e
    rw [K.hD] at this
    walk_at "m:omega"
  · rcases K.cells_mem h with h | h
    · have h1 : C + 1 ≤ c := (CS.own_mem h).2
      have := K.hC
      walk_at "m:omega"
    · have := K.lt h
      exact absurd q (Nat.ne_of_lt this)
  · obtain ⟨a, b, c, d, f⟩ := X.made p hp
    exact ⟨(hs.2 _ d).trans a, b, c, d, f⟩

theorem comp_core {iter : Expr} {pos : Pos} {I : Addr} {fp wr : List Addr} {n : Nat} {P : Nat → Value → Heap → Prop} {St : Nat → Heap → Prop} {RR : Value → Addr → Result → Shared → Prop}
    (W : WalkG prog w A tgt I fp wr n P St) (hsz : n ≤ sizeLine) (J : Nat → List Value → List (Addr × Obj) → Prop) (S : Sta s₀ env own s m news) (hst : St 0 s.heap) (hfp : ∀ b ∈ fp, b < s.heap.objs.size) (hex : ∀ i h, St i h → ∀ b ∈ fp, ∃ o, h.get? b = some o) (hwC : ∀ x c, (x, c) ∈ clOf scope env → c ∉ wr)
    (hkind : scope.kind = .function) (hnd : (scope.names.map (·.1)).Nodup) (hok : (scope.names.all fun x => x.2 != .free || (env.cells.lookup x.1).isSome) = true) (h0 : J 0 [] [])
    (turn : CompTurn prog w A env m elt tgt ifs scope wr s n P J)
    (hRR : ∀ D C s' ys led m', ys.length ≤ n → J n ys led → CS s env m scope D C fp wr → CI s env scope D C fp wr s' ys m' led → RR (.ref D) C (.ok .next) s') :
    wpAny (model prog w) A (newList []) (fun acc s₃ => wpAny (model prog w) A (newFunctionEnv scope env.globals (clOf scope env) [] env.qual none .none (some env)) (fun cenv s₄ =>
      codeAny (model prog w) A (.compStart (.ListComp elt [⟨tgt, iter, ifs, 0⟩] scope pos) 0 (.ref I) acc { cenv with scope := relabel scope env }) (RR acc cenv.locals) s₄) E s₃) E s := by
  refine wpAny_newObj_type ?_
  simp only [newFunctionEnv, Option.isSome_some, if_true]
  refine wpAny_bind (wpAny_alloc ?_)
  refine wpAny_bind (wpAny_layCells _ (fun name kind cells => by cases kind == NameKind.cell <;> simp) _ _ _ _ ?_)
  rw [List.forIn_nil]
  refine wpAny_bind (wpAny_pure (wpAny_pure ?_))
  generalize hD : s.heap.objs.size = D
  generalize hh1 : s.heap.push { cls := .type "list", data := .seq ([] : List Value).toArray } = h1
  have sz1 : h1.objs.size = D + 1 := by rw [← hh1, Heap.size_push, hD]
  generalize hh2 : h1.push { cls := .type "dict", data := .dict #[] } = h2
  have sz2 : h2.objs.size = D + 1 + 1 := by rw [← hh2, Heap.size_push, sz1]
  dsimp only
  rw [sz1, sz2]
  have K : CS s env m scope D (D + 1) fp wr := by
    refine ⟨hD, rfl, fun b hb => hD ▸ hfp b hb, W.sub, hnd, fun x c h => ?_, ?_, clFold_names _ _ hnd .nil fun _ h => nomatch h⟩
    · obtain ⟨h1, h2⟩ := clOf_mem hok h
      exact ⟨h1, h2, S.cell _ _ h2, hwC x c h⟩
    · have hn : ((clOf scope env).map (·.1)).Nodup := clFold_names _ _ hnd .nil fun _ h => nomatch h
      rw [List.nodup_iff_pairwise_ne, List.pairwise_map] at hn
      exact hn.imp_of_mem fun {p q} hp hq hne e => hne (name_of_addr S.addrs (mem_of_lookup (clOf_mem hok hp).2) (e ▸ mem_of_lookup (clOf_mem hok hq).2))
  have up : ∀ b o, s.heap.get? b = some o → (pushCells h2 scope.names).get? b = some o := fun b o e => pushCells_keeps _ _ b o (hh2 ▸ Heap.get?_push_of_some _ (hh1 ▸ Heap.get?_push_of_some _ e))
  have X : CI s env scope D (D + 1) fp wr { s with heap := pushCells h2 scope.names } [] (fun x => if scope.names.lookup x = some .free then m x else none) [] := by
    have ok := cellsFrom_ok scope.names h2 (D + 1 + 1) [] ⟨fun _ _ hm => (nomatch hm), List.Pairwise.nil⟩ (by rw [sz2]; exact Nat.le_refl _)
    rw [sz2] at ok
    refine ⟨Go.heap, fun b o _ e => up b o e, ⟨0, pushCells_keeps _ _ D _ (hh2 ▸ Heap.get?_push_of_some _ (hh1 ▸ hD ▸ Heap.get?_push_size _ rfl))⟩, ⟨fun _ => none, ?_, fun x hx => ?_⟩, fun x c h => ?_, fun _ h => (nomatch h), .nil⟩
    · have := Heap.Ns.new h1 (.type "dict")
      rw [sz1, hh2] at this
      exact this.keeps (pushCells_keeps _ _)
    · rw [relabel_local hx]
      simp
    · rcases K.cells_mem h with h | h
      · have := (ok.empty x c h).1
        rw [if_neg]
        · exact this
        · rw [kind_lookup hnd (CS.own_mem h).1]
          decide
      · obtain ⟨h1, h2, h3, _⟩ := K.free x c h
        rw [if_pos (kind_lookup hnd h1)]
        exact h3.keeps up
  have loop : ∀ s₃ : Shared, s₃ = { s with heap := pushCells h2 scope.names } →
      codeAny (model prog w) A (.compLoop (.ListComp elt [⟨tgt, iter, ifs, 0⟩] scope pos) 0 (.ref I) (.ref D) (cenvOf scope (D + 1) env)) (RR (.ref D) (D + 1)) s₃ := by
    rintro s₃ rfl
    refine compLoop_any (fun k s' => ∃ i ys led m', CI s env scope D (D + 1) fp wr s' ys m' led ∧ St i s'.heap ∧ J i ys led ∧ ys.length ≤ i ∧ i ≤ n ∧ k = n + 1 - i) ?_ (n + 1) ⟨0, [], [], _, X, W.frame _ _ _ hst fun b _ o e => up b o e, h0, Nat.le_refl _, Nat.zero_le _, rfl⟩
    rintro k s' ⟨i, ys, led, m', X, st', hJ, hlen, hi, rfl⟩
    by_cases hlt : i < n
    · refine wpAny_mono (W.item i _ (fun v s₂ => wpAny (model prog w) A (assign tgt (cenvOf scope (D + 1) env) v) (fun _ s₂ =>
          wpAny (model prog w) A (forIn ifs true fun c r => if r = true then do let ok ← isTrue c (cenvOf scope (D + 1) env) (eval c (cenvOf scope (D + 1) env)); pure (ForInStep.yield ok) else pure (ForInStep.yield r)) (fun ok s₃ =>
            if ok = true then wpAny (model prog w) A (eval elt (cenvOf scope (D + 1) env)) (fun x s₄ =>
              wpAny (model prog w) A (call (.builtin "list.append") [.ref D, x]) (fun _ s₅ => ∃ k', k' < n + 1 - i ∧ ∃ i ys led m', CI s env scope D (D + 1) fp wr s₅ ys m' led ∧ St i s₅.heap ∧ J i ys led ∧ ys.length ≤ i ∧ i ≤ n ∧ k' = n + 1 - i) (notedBy (model prog w) A (cenvOf scope (D + 1) env) fun e s' => RR (.ref D) (D + 1) (.error e) s') s₄) (notedBy (model prog w) A (cenvOf scope (D + 1) env) fun e s' => RR (.ref D) (D + 1) (.error e) s') s₃
            else ∃ k', k' < n + 1 - i ∧ ∃ i ys led m', CI s env scope D (D + 1) fp wr s₃ ys m' led ∧ St i s₃.heap ∧ J i ys led ∧ ys.length ≤ i ∧ i ≤ n ∧ k' = n + 1 - i) (notedBy (model prog w) A (cenvOf scope (D + 1) env) fun e s' => RR (.ref D) (D + 1) (.error e) s') s₂) (notedBy (model prog w) A (cenvOf scope (D + 1) env) fun e s' => RR (.ref D) (D + 1) (.error e) s') s₂) _ hlt st' fun v h₁ tk₁ hP hst₁ hk₁ => ?_)
        (fun r s₁ hr => by obtain ⟨v, rfl, hr⟩ := hr; exact hr) fun _ _ x => x
      have S₁ := X.sta K (tk₁ := tk₁) hk₁
      have hfr : ∀ x, scope.names.lookup x = some .free → m' x = m x := fun x hx => by
        have hm := mem_of_kind hx
        have h1 := List.all_eq_true.mp hok _ hm
        have h2 : (env.cells.lookup x).isSome = true := by simpa using h1
        obtain ⟨c, hc⟩ := Option.isSome_iff_exists.mp h2
        have hcl : (x, c) ∈ clOf scope env := by
          have : ∀ (names : List (Str × NameKind)) (acc : List (Str × Addr)), ((x, NameKind.free) ∈ names ∨ (x, c) ∈ acc) → (x, c) ∈ names.foldl (clStep env) acc := by
            intro names
            induction names with
            | nil => intro acc h; exact h.resolve_left fun h => nomatch h
            | cons p r ih =>
              intro acc h
              rw [List.foldl_cons]
              refine ih _ ?_
              rcases h with h | h
              · rcases List.mem_cons.mp h with e | h
                · refine .inr ?_
                  subst e
                  simp [clStep, hc]
                · exact .inl h
              · refine .inr ?_
                unfold clStep
                split
                · exact .tail _ h
                · exact h
          exact this _ _ (.inl hm)
        have hlk : (cenvOf scope (D + 1) env).cells.lookup x = some c := by
          refine lookup_of_mem_nodup K.names ?_
          show _ ∈ cellsFrom _ scope.names (clOf scope env)
          rw [cellsFrom_append]
          exact List.mem_append_right _ hcl
        obtain ⟨o1, e1, d1⟩ := X.cell x c hlk
        obtain ⟨_, _, ⟨o2, e2, d2⟩, hw⟩ := K.free x c hcl
        have e3 := X.up c o2 hw e2
        rw [e1] at e3
        cases e3
        rw [d1] at d2
        exact Data.cell.inj d2
      have fin0 : ∀ s₄ m₄ led₄, Sta { s' with heap := hideAll h₁ (hid scope (D + 1) led), toks := tk₁ } (cenvOf scope (D + 1) env) (cownOf scope (D + 1)) s₄ m₄ led₄ → CI s env scope D (D + 1) fp wr s₄ ys m₄ led₄ ∧ St (i + 1) s₄.heap := fun s₄ m₄ led₄ S₄ => by
        obtain ⟨X₄, hf⟩ := X.back K (hex _ _ hst₁) hk₁ S₄
        exact ⟨X₄, W.frame _ _ _ hst₁ hf⟩
      refine wpAny_mono (turn i v ys led (D + 1) _ _ m' hlt hP hJ hlen (fun b o hw e => ?_) (X.go.trans Go.mk) hfr S₁) (fun _ s₃ h₃ => wpAny_mono h₃ (fun ok s₄ h₄ => ?_) fun _ _ x => x.elim) fun _ _ x => x.elim
      · refine hideAll_get _ (hk₁ b o hw (X.up b o hw e)) (hid_low (by have := Heap.lt_size e; walk_at "m:omega") fun p hp q => ?_)
        have := (X.made p hp).2.1
        rw [← q, e] at this
        cases this
      · cases ok with
        | false =>
          simp only [Bool.false_eq_true, if_false] at h₄ ⊢
          obtain ⟨m₄, led₄, S₄, hJ₄⟩ := h₄
          obtain ⟨X₄, st₄⟩ := fin0 _ _ _ S₄
          exact ⟨n + 1 - (i + 1), by walk_at "m:omega", i + 1, ys, led₄, m₄, X₄, st₄, hJ₄, by walk_at "m:omega", hlt, rfl⟩
        | true =>
          simp only [if_true] at h₄ ⊢
          refine wpAny_mono h₄ (fun y s₅ h₅ => ?_) fun _ _ x => x.elim
          obtain ⟨m₅, led₅, S₅, hJ₅⟩ := h₅
          obtain ⟨X₅, st₅⟩ := fin0 _ _ _ S₅
          obtain ⟨e, eD⟩ := X₅.acc
          refine wpAny_list_append_plain (hsz := by simp only [List.size_toArray]; walk_at "m:omega") ⟨e, eD⟩ fun h₆ hl₆ hs₆ => ?_
          obtain ⟨e', eD'⟩ := hl₆
          have X₆ := X₅.append K (y := y) (e' := e') hs₆ (by rw [eD']; simp)
          refine ⟨n + 1 - (i + 1), by walk_at "m:omega", i + 1, ys ++ [y], led₅, m₅, X₆, W.frame _ _ _ st₅ fun b hb o eb => (hs₆.2 b fun q => ?_).trans eb, hJ₅, by simp; walk_at "m:omega", hlt, rfl⟩
          have := K.low b hb
          walk_at "m:omega"
    · have hin : i = n := by walk_at "m:omega"
      subst hin
      refine W.done _ _ _ st' fun h₁ tk₁ hk₁ => ?_
      refine hRR D (D + 1) _ ys led m' hlen hJ K ?_
      obtain ⟨e, eD⟩ := X.acc
      obtain ⟨ml, n1, n2⟩ := X.ns
      have off : ∀ {b : Addr}, D ≤ b → b ∉ wr := fun hb hw => by have := K.low _ (K.sub _ hw); walk_at "m:omega"
      refine ⟨X.go.trans Go.mk, fun b o hw e => hk₁ b o hw (X.up b o hw e), ⟨e, hk₁ _ _ (off (Nat.le_refl _)) eD⟩, ⟨ml, n1.at' fun o e => hk₁ _ o (off (Nat.le_succ _)) e, n2⟩, fun x c h => ?_, fun p hp => ?_, X.nodup⟩
      · obtain ⟨o, e, d⟩ := X.cell x c h
        refine ⟨o, hk₁ c o ?_ e, d⟩
        rcases K.cells_mem h with h | h
        · have h1 : D + 1 + 1 ≤ c := (CS.own_mem h).2
          exact off (by walk_at "m:omega")
        · exact (K.free x c h).2.2.2
      · obtain ⟨a, r⟩ := X.made p hp
        exact ⟨hk₁ _ _ (fun hw => r.2.1 (K.sub _ hw)) a, r⟩
  exact codeAny_compStart_list (loop _ rfl) (W.self 0 _ _ _ (W.frame _ _ _ hst fun b _ o e => up b o e) (loop _ rfl))
end
end
-- FwComp2
section

section
variable {prog : Program} {w : World} {A : Around} {E : Value → Shared → Prop} {s₀ s s' : Shared} {env : Env} {own : List (Str × Addr)} {m : Str → Option Value} {news : List (Addr × Obj)} {elt tgt iter : Expr} {ifs : List Expr} {scope : Scope} {pos : Pos}

theorem Sta.forget {a : Addr} {o : Obj} {h' : Heap} (S : Sta s₀ env own s m ((a, o) :: news)) (hs : Heap.SameBut a s.heap h') : Sta s₀ env own { s with heap := h' } m news := by
  obtain ⟨ha, hb, hc, hd⟩ := S.made _ (.head _)
  obtain ⟨ml, n1, n2⟩ := S.ns
  obtain ⟨hx, hy⟩ := List.nodup_cons.mp S.nodup
  refine ⟨S.go.trans Go.heap, sameBut_ext hs S.keep hb, ⟨ml, n1.sameBut hs (Ne.symm hc), n2⟩, fun n c e => ?_, S.kinds, S.addrs, S.offL, S.newL, S.newC, S.ownIn, S.whose, fun p hp => ?_, hy⟩
  · refine (S.cell n c e).sameBut hs fun q => ?_
    rcases S.whose n c e with hw | ⟨o1, hw⟩
    · exact hd _ hw q.symm
    · exact get_ne hb hw q.symm
  · obtain ⟨h1, h2, h3, h4⟩ := S.made p (.tail _ hp)
    exact ⟨(hs.2 _ fun q => hx (List.mem_map.mpr ⟨p, hp, q⟩)).trans h1, h2, h3, h4⟩

theorem Sta.adds : ∀ {l : List (Addr × Obj)}, Sta s₀ env own s m news → Go s s' → Ext s.heap s'.heap → (∀ p ∈ l, s.heap.get? p.1 = none ∧ s'.heap.get? p.1 = some p.2) → (l.map (·.1)).Nodup → Sta s₀ env own s' m (l ++ news)
  | [], S, g, e, _, _ => S.grow g e
  | p :: r, S, g, e, h, hn => by
    obtain ⟨h1, h2⟩ := List.nodup_cons.mp hn
    have S' := Sta.adds S g e (fun q hq => h q (.tail _ hq)) h2
    obtain ⟨ha, hb⟩ := h p (.head _)
    refine ⟨S'.go, S'.keep, S'.ns, S'.cell, S'.kinds, S'.addrs, S'.offL, S'.newL, S'.newC, S'.ownIn, S'.whose, fun q hq => ?_, ?_⟩
    · rcases List.mem_cons.mp hq with rfl | hq
      · refine ⟨hb, ?_, ?_, fun q hq => ?_⟩
        · cases q : s₀.heap.get? q.1 with
          | none => rfl
          | some o' => rw [S.keep _ _ q] at ha; cases ha
        · obtain ⟨_, eL⟩ := S.hasL
          exact get_ne ha eL
        · obtain ⟨_, eC⟩ := S.hasC q hq
          exact get_ne ha eC
      · exact S'.made q hq
    · rw [List.cons_append, List.map_cons]
      refine List.nodup_cons.mpr ⟨fun hm => ?_, S'.nodup⟩
      obtain ⟨q, hq, e'⟩ := List.mem_map.mp hm
      rcases List.mem_append.mp hq with hq | hq
      · exact h1 (List.mem_map.mpr ⟨q, hq, e'⟩)
      · exact get_ne ha (S.made q hq).1 e'.symm

/-- a comprehension behind its source -/
def CompAt (M : Model) (A : Around) (env : Env) (elt tgt iter : Expr) (ifs : List Expr) (scope : Scope) (pos : Pos) (use : Option (Value → Sem Unit)) (Q : Value → Shared → Prop) (E : Value → Shared → Prop) (xv : Value) (s : Shared) : Prop :=
  wpAny M A (pyIter xv) (fun it s₂ => wpAny M A (newList []) (fun acc s₃ => wpAny M A (newFunctionEnv scope env.globals (clOf scope env) [] env.qual none .none (some env)) (fun cenv s₄ =>
    codeAny M A (.compStart (.ListComp elt [⟨tgt, iter, ifs, 0⟩] scope pos) 0 it acc { cenv with scope := relabel scope env }) (compPost M A E use Q acc cenv.locals) s₄) E s₃) E s₂) E s

theorem eval_Comp {Q : Value → Shared → Prop} (hkind : scope.kind = .function) (hnd : (scope.names.map (·.1)).Nodup) (hok : (scope.names.all fun x => x.2 != .free || (env.cells.lookup x.1).isSome) = true)
    (h : wpAny (model prog w) A (eval iter env) (fun xv s₁ => CompAt (model prog w) A env elt tgt iter ifs scope pos none Q E xv s₁) E s)
    (hs : ∀ x, foldedSetIterable iter env x = pure x := by intro _; rfl) : wpAny (model prog w) A (eval (.ListComp elt [⟨tgt, iter, ifs, 0⟩] scope pos) env) Q E s := by
  rw [eval_ListComp]
  exact wpAny_comprehension_free (use := none) rfl hs (closureFor_clOf hok) hkind (fun x hx hl => kind_lookup hnd (show (x.1, NameKind.local) ∈ scope.names from hl ▸ hx)) h

theorem exec_Comp {Q : Flow → Shared → Prop} {y : Str} {py spos : Pos} (hsw : swapsWith (.ListComp elt [⟨tgt, iter, ifs, 0⟩] scope pos) (some (.Name y py)) spos.line env = pure true)
    (hkind : scope.kind = .function) (hnd : (scope.names.map (·.1)).Nodup) (hok : (scope.names.all fun x => x.2 != .free || (env.cells.lookup x.1).isSome) = true)
    (h : wpAny (model prog w) A (eval iter env) (fun xv s₁ => CompAt (model prog w) A env elt tgt iter ifs scope pos (some (assign (.Name y py) env)) (fun _ s' => Q .next s') E xv s₁) E s)
    (hs : ∀ x, foldedSetIterable iter env x = pure x := by intro _; rfl) : wpAny (model prog w) A (exec (.Assign [.Name y py] (.ListComp elt [⟨tgt, iter, ifs, 0⟩] scope pos) spos) env) Q E s := by
  rw [exec_Assign_Name_used _ _ _ _ hsw]
  refine wpAny_bind (wpAny_standAt (wpAny_bind ?_))
  show wpAny _ A (do let _ ← comprehension (.ListComp elt [⟨tgt, iter, ifs, 0⟩] scope pos) scope env _ (newList []) false (eval iter env) (some (assign (.Name y py) env))) _ _ s
  refine wpAny_bind (wpAny_mono (wpAny_comprehension_free (use := some (assign (.Name y py) env)) (Q := fun _ s' => Q .next s') rfl hs (closureFor_clOf hok) hkind (fun x hx hl => kind_lookup hnd (show (x.1, NameKind.local) ∈ scope.names from hl ▸ hx)) h)
    (fun _ s' hq => wpAny_pure (wpAny_pure hq)) fun _ _ e => e)

/-- a turn, for the user: from the state s₁ at which the source stands -/
def CTurn (prog : Program) (w : World) (A : Around) (env : Env) (m : Str → Option Value) (elt tgt : Expr) (ifs : List Expr) (scope : Scope) (s₁ : Shared) (n : Nat) (P : Nat → Value → Heap → Prop) (J : Nat → List Value → List (Addr × Obj) → Prop) : Prop :=
  ∀ i v ys led C s₀ s₂ m₂, i < n → P i v s₂.heap → J i ys led → ys.length ≤ i → Ext s₁.heap s₀.heap → (∀ x, scope.names.lookup x = some .free → m₂ x = m x) →
    Sta s₀ (cenvOf scope C env) (cownOf scope C) s₂ m₂ led →
    wpAny (model prog w) A (assign tgt (cenvOf scope C env) v) (fun _ s₃ =>
      wpAny (model prog w) A (forIn ifs true fun c r => if r = true then do let ok ← isTrue c (cenvOf scope C env) (eval c (cenvOf scope C env)); pure (ForInStep.yield ok) else pure (ForInStep.yield r)) (fun ok s₄ =>
        if ok = true then wpAny (model prog w) A (eval elt (cenvOf scope C env)) (fun y s₅ => ∃ m₅ led₅, Sta s₀ (cenvOf scope C env) (cownOf scope C) s₅ m₅ led₅ ∧ J (i + 1) (ys ++ [y]) led₅) (fun _ _ => False) s₄
        else ∃ m₄ led₄, Sta s₀ (cenvOf scope C env) (cownOf scope C) s₄ m₄ led₄ ∧ J (i + 1) ys led₄) (fun _ _ => False) s₃) (fun _ _ => False) s₂

/-- how the list is used: handed on, or stored into a local name -/
def UseOk (env : Env) (m : Str → Option Value) (s₀ : Shared) (own : List (Str × Addr)) (use : Option (Value → Sem Unit)) (M : Model) (A : Around) (Q : Value → Shared → Prop) (E : Value → Shared → Prop) (a : Addr) (news : List (Addr × Obj)) : Prop :=
  match use with
  | none => ∀ s', Sta s₀ env own s' m news → Q (.ref a) s'
  | some u => ∃ m', (∀ s' n', Sta s₀ env own s' m n' → wpAny M A (u (.ref a)) (fun _ s'' => Sta s₀ env own s'' m' n') E s') ∧ ∀ s', Sta s₀ env own s' m' news → Q .none s'

theorem UseOk.store {Q : Value → Shared → Prop} {y : Str} {py : Pos} {a : Addr} {M : Model} (hk : env.scope.kind = .function) (hy : env.kindOf y = some .local) (h : ∀ s', Sta s₀ env own s' (upd m y (.ref a)) news → Q .none s') :
    UseOk env m s₀ own (some (assign (.Name y py) env)) M A Q E a news :=
  ⟨upd m y (.ref a), fun _ _ S => wpAny_assign_Name (S.store_local hk hy fun _ S' => S'), h⟩

theorem comp_end {use : Option (Value → Sem Unit)} {Q : Value → Shared → Prop} {D C : Addr} {fp wr : List Addr} {s₁ : Shared} (S : Sta s₀ env own s₁ m news) (e : ∀ b o, s₁.heap.get? b = some o → s.heap.get? b = some o ∧ b ∉ wr) (g : Go s₁ s) (K : CS s env m scope D C fp wr) {ys : List Value} {m' : Str → Option Value} {led : List (Addr × Obj)}
    (X : CI s env scope D C fp wr s' ys m' led) (hQ : ∀ e, UseOk env m s₀ own use (model prog w) A Q E D ((D, listOf ys.toArray e) :: (led ++ news))) : compPost (model prog w) A E use Q (.ref D) C (.ok .next) s' := by
  obtain ⟨ep, eD⟩ := X.acc
  obtain ⟨ml, n1, n2⟩ := X.ns
  obtain ⟨oC, es, epo, hoC, rC⟩ := n1
  have hup : Ext s₁.heap s'.heap := fun b o q => X.up b o (e b o q).2 (e b o q).1
  have hnone : ∀ {a : Addr}, s.heap.get? a = none → s₁.heap.get? a = none := fun {a} h => by
    cases q : s₁.heap.get? a with
    | none => rfl
    | some o => rw [(e _ _ q).1] at h; cases h
  have hC := K.hC
  have hD := K.hD
  have none_at : ∀ c : Addr, @LE.le Nat _ D c → s.heap.get? c = none := fun c hc => by
    cases q : s.heap.get? c with
    | none => rfl
    | some o => have := Heap.lt_size q; rw [hD] at this; exact absurd this (Nat.not_lt.mpr hc)
  have S' : Sta s₀ env own s' m ((C, oC) :: (D, listOf ys.toArray ep) :: (led ++ news)) := by
    have := S.adds (l := (C, oC) :: (D, listOf ys.toArray ep) :: led) (g.trans X.go) hup (fun p hp => ?_) ?_
    · exact this
    · rcases List.mem_cons.mp hp with rfl | hp
      · exact ⟨hnone (none_at _ (by rw [hC]; exact Nat.le_succ _)), hoC⟩
      · rcases List.mem_cons.mp hp with rfl | hp
        · exact ⟨hnone (none_at _ (Nat.le_refl _)), eD⟩
        · obtain ⟨a, b, _⟩ := X.made p hp
          exact ⟨hnone b, a⟩
    · rw [List.map_cons, List.map_cons]
      refine List.nodup_cons.mpr ⟨fun hm => ?_, List.nodup_cons.mpr ⟨fun hm => ?_, X.nodup⟩⟩
      · rcases List.mem_cons.mp hm with q | hm
        · have q' : C = D := q
          rw [hC] at q'
          exact absurd q' (Nat.succ_ne_self _)
        · obtain ⟨p, hp, q⟩ := List.mem_map.mp hm
          exact (X.made p hp).2.2.2.2.1 q
      · obtain ⟨p, hp, q⟩ := List.mem_map.mp hm
        exact (X.made p hp).2.2.2.1 q
  cases use with
  | none => exact ⟨ml, ⟨oC, es, epo, hoC, rC⟩, fun h' hs => hQ ep _ (S'.forget hs)⟩
  | some u =>
    obtain ⟨m₂, hu, hq⟩ := hQ ep
    show wpAny _ A (u (.ref D)) _ _ _
    exact wpAny_mono (hu s' _ S') (fun _ s'' S'' => ⟨ml, ⟨oC, es, epo, S''.get (.head _), rC⟩, fun h' hs => hq _ (S''.forget hs)⟩) fun _ _ x => x

theorem comp_walk {use : Option (Value → Sem Unit)} {Q : Value → Shared → Prop} {n : Nat} {P : Nat → Value → Heap → Prop} {St : Nat → Heap → Prop} {oI : Obj} {fp : List Addr} (J : Nat → List Value → List (Addr × Obj) → Prop)
    (S : Sta s₀ env own s m news) (hf : oI.isFreed = false) (W : WalkG prog w A tgt s.heap.objs.size fp [s.heap.objs.size] n P St) (hst : St 0 (s.heap.push oI)) (hfp : ∀ b ∈ fp, b = s.heap.objs.size ∨ ∃ o, s.heap.get? b = some o) (hex : ∀ i h, St i h → ∀ b ∈ fp, ∃ o, h.get? b = some o)
    (hsz : n ≤ sizeLine) (hkind : scope.kind = .function) (hnd : (scope.names.map (·.1)).Nodup) (hok : (scope.names.all fun x => x.2 != .free || (env.cells.lookup x.1).isSome) = true) (h0 : J 0 [] [])
    (turn : CTurn prog w A env m elt tgt ifs scope s n P J)
    (done : ∀ ys led a e, ys.length ≤ n → J n ys led → UseOk env m s₀ own use (model prog w) A Q E a ((a, listOf ys.toArray e) :: (led ++ news))) :
    wpAny (model prog w) A (newList []) (fun acc s₃ => wpAny (model prog w) A (newFunctionEnv scope env.globals (clOf scope env) [] env.qual none .none (some env)) (fun cenv s₄ =>
      codeAny (model prog w) A (.compStart (.ListComp elt [⟨tgt, iter, ifs, 0⟩] scope pos) 0 (.ref s.heap.objs.size) acc { cenv with scope := relabel scope env }) (compPost (model prog w) A E use Q acc cenv.locals) s₄) E s₃) E { s with heap := s.heap.push oI } := by
  have hlt : ∀ b o, s.heap.get? b = some o → b ∉ [s.heap.objs.size] := fun b o e hm => by
    have := List.mem_singleton.mp hm
    subst this
    exact Nat.lt_irrefl _ (Heap.lt_size e)
  have S' : Sta s₀ env own { s with heap := s.heap.push oI } m news := S.grow Go.heap fun b o e => Heap.get?_push_of_some _ e
  refine comp_core (RR := fun acc C => compPost (model prog w) A E use Q acc C) W hsz J S' hst (fun b hb => ?_) hex (fun x c h => ?_) hkind hnd hok h0 ?_ fun D C s' ys led m' hlen hJ K X => ?_
  · show b < (s.heap.push oI).objs.size
    rw [Heap.size_push]
    rcases hfp b hb with rfl | ⟨o, e⟩
    · exact Nat.lt_succ_self _
    · exact Nat.lt_succ_of_lt (Heap.lt_size e)
  · obtain ⟨o, e, _⟩ := S.cell _ _ (clOf_mem hok h).2
    exact hlt _ _ e
  · intro i v ys led C s₀' s₂ m₂ hi hP hJ hl hb _ hfr S₂
    exact turn i v ys led C s₀' s₂ m₂ hi hP hJ hl (fun b o e => hb b o (hlt b o e) (Heap.get?_push_of_some _ e)) hfr S₂
  · exact comp_end S (fun b o e => ⟨Heap.get?_push_of_some _ e, hlt b o e⟩) Go.heap K X fun e => done ys led D e hlen hJ

theorem comp_list {use : Option (Value → Sem Unit)} {Q : Value → Shared → Prop} {ax : Addr} {vs : List Value} (J : Nat → List Value → List (Addr × Obj) → Prop) (hh : A.handled = none)
    (S : Sta s₀ env own s m news) (hl : s.heap.IsList ax vs.toArray) (hsz : vs.length ≤ sizeLine) (hkind : scope.kind = .function) (hnd : (scope.names.map (·.1)).Nodup) (hok : (scope.names.all fun x => x.2 != .free || (env.cells.lookup x.1).isSome) = true) (h0 : J 0 [] [])
    (turn : CTurn prog w A env m elt tgt ifs scope s vs.length (fun i v _ => vs[i]? = some v) J)
    (done : ∀ ys led a e, ys.length ≤ vs.length → J vs.length ys led → UseOk env m s₀ own use (model prog w) A Q E a ((a, listOf ys.toArray e) :: (led ++ news)))
    (ht : (∀ it v, letOwnedTupleGo tgt it v = pure ()) ∨ ((∃ es k p, tgt = .Tuple es k p) ∧ ∀ v ∈ vs, ∃ T, v = .ref T)) :
    CompAt (model prog w) A env elt tgt iter ifs scope pos use Q E (.ref ax) s := by
  refine wpAny_pyIter_list hl ?_
  have hlt : ax ≠ s.heap.objs.size := by
    obtain ⟨o, e, _⟩ := hl
    exact Nat.ne_of_lt (Heap.lt_size e)
  have W : WalkG prog w A tgt s.heap.objs.size [s.heap.objs.size, ax] [s.heap.objs.size] vs.length (fun i v _ => vs[i]? = some v) (fun i h => h.IsListIter s.heap.objs.size ax i ∧ h.IsList ax vs.toArray) := by
    rcases ht with ht | ⟨⟨es, k, p, rfl⟩, hv⟩
    · have := WalkG.of (Walks.list (prog := prog) (w := w) hh _ ax hlt vs.toArray) (ht (.ref s.heap.objs.size))
      simpa using this
    · have := WalkG.tups (prog := prog) (w := w) (elts := es) (k := k) (tpos := p) hh s.heap.objs.size ax hlt vs.toArray (by simpa using hv)
      simpa using this
  refine comp_walk J S rfl W ⟨⟨_, Heap.get?_push_size _ rfl, rfl, rfl⟩, hl.push _⟩ (fun b hb => ?_) (fun i h st b hb => ?_) hsz hkind hnd hok h0 turn done
  · rcases List.mem_cons.mp hb with rfl | hb
    · exact .inl rfl
    · rw [List.mem_singleton.mp hb]
      obtain ⟨o, e, _⟩ := hl
      exact .inr ⟨o, e⟩
  · rcases List.mem_cons.mp hb with rfl | hb
    · obtain ⟨⟨o, e, _⟩, _⟩ := st
      exact ⟨o, e⟩
    · rw [List.mem_singleton.mp hb]
      obtain ⟨_, ⟨o, e, _⟩⟩ := st
      exact ⟨o, e⟩

theorem comp_tuple {use : Option (Value → Sem Unit)} {Q : Value → Shared → Prop} {ax : Addr} {vs : List Value} (J : Nat → List Value → List (Addr × Obj) → Prop) (hh : A.handled = none)
    (S : Sta s₀ env own s m news) (hl : s.heap.IsTuple ax vs.toArray) (hsz : vs.length ≤ sizeLine) (hkind : scope.kind = .function) (hnd : (scope.names.map (·.1)).Nodup) (hok : (scope.names.all fun x => x.2 != .free || (env.cells.lookup x.1).isSome) = true) (h0 : J 0 [] [])
    (turn : CTurn prog w A env m elt tgt ifs scope s vs.length (fun i v _ => vs[i]? = some v) J)
    (done : ∀ ys led a e, ys.length ≤ vs.length → J vs.length ys led → UseOk env m s₀ own use (model prog w) A Q E a ((a, listOf ys.toArray e) :: (led ++ news)))
    (ht : ∀ it v, letOwnedTupleGo tgt it v = pure ()) : CompAt (model prog w) A env elt tgt iter ifs scope pos use Q E (.ref ax) s := by
  refine wpAny_pyIter_tuple hl ?_
  have hlt : ax ≠ s.heap.objs.size := by
    obtain ⟨o, e, _⟩ := hl
    exact Nat.ne_of_lt (Heap.lt_size e)
  have W : WalkG prog w A tgt s.heap.objs.size [s.heap.objs.size, ax] [s.heap.objs.size] vs.length (fun i v _ => vs[i]? = some v) (fun i h => h.IsTupleIter s.heap.objs.size ax i ∧ h.IsTuple ax vs.toArray) := by
    have := WalkG.of (Walks.tuple (prog := prog) (w := w) hh _ ax hlt vs.toArray) (ht (.ref s.heap.objs.size))
    simpa using this
  refine comp_walk J S rfl W ⟨⟨_, Heap.get?_push_size _ rfl, rfl, rfl⟩, let ⟨o, e, r⟩ := hl; ⟨o, Heap.get?_push_of_some _ e, r⟩⟩ (fun b hb => ?_) (fun i h st b hb => ?_) hsz hkind hnd hok h0 turn done
  · rcases List.mem_cons.mp hb with rfl | hb
    · exact .inl rfl
    · rw [List.mem_singleton.mp hb]
      obtain ⟨o, e, _⟩ := hl
      exact .inr ⟨o, e⟩
  · rcases List.mem_cons.mp hb with rfl | hb
    · obtain ⟨⟨o, e, _⟩, _⟩ := st
      exact ⟨o, e⟩
    · rw [List.mem_singleton.mp hb]
      obtain ⟨_, ⟨o, e, _⟩⟩ := st
      exact ⟨o, e⟩

theorem comp_range {use : Option (Value → Sem Unit)} {Q : Value → Shared → Prop} {r : Addr} {b₀ : Int} {t₀ u₀ v₀ : Tok} {n : Nat} (J : Nat → List Value → List (Addr × Obj) → Prop) (hh : A.handled = none)
    (S : Sta s₀ env own s m news) (hr : IsRange s.heap r 0 b₀ 1 t₀ u₀ v₀) (hsmall : Builtin.Range.small 0 b₀ 1 = true) (hn : Builtin.Range.rangeSize 0 b₀ 1 = (n : Int))
    (hsz : n ≤ sizeLine) (hkind : scope.kind = .function) (hnd : (scope.names.map (·.1)).Nodup) (hok : (scope.names.all fun x => x.2 != .free || (env.cells.lookup x.1).isSome) = true) (h0 : J 0 [] [])
    (turn : CTurn prog w A env m elt tgt ifs scope s n (fun i v _ => ∃ t, v = .int (i : Int) t) J)
    (done : ∀ ys led a e, ys.length ≤ n → J n ys led → UseOk env m s₀ own use (model prog w) A Q E a ((a, listOf ys.toArray e) :: (led ++ news)))
    (ht : ∀ it v, letOwnedTupleGo tgt it v = pure ()) : CompAt (model prog w) A env elt tgt iter ifs scope pos use Q E (.ref r) s := by
  refine wpAny_pyIter_range hr hsmall ?_
  have W : WalkG prog w A tgt s.heap.objs.size [s.heap.objs.size] [s.heap.objs.size] n (fun i v _ => ∃ t, v = .int (i : Int) t) (fun i h => IsRangeIter h s.heap.objs.size (0 + (i : Nat) * 1) ((n : Int) - (i : Nat)) 1) := by
    have := WalkG.of (Walks.range (prog := prog) (w := w) hh s.heap.objs.size 0 1 n) (ht (.ref s.heap.objs.size))
    simpa using this
  refine comp_walk J S rfl W (by show IsRangeIter _ _ _ _ _; rw [hn]; simpa using Heap.get?_push_size _ rfl) (fun b hb => .inl (List.mem_singleton.mp hb)) (fun i h st b hb => ?_) hsz hkind hnd hok h0 turn done
  rw [List.mem_singleton.mp hb]
  exact ⟨_, st⟩
end
end
-- FwOps
section

section
variable {prog : Program} {w : World} {A : Around} {E : Value → Shared → Prop} {s₀ s : Shared} {env : Env} {own : List (Str × Addr)} {m : Str → Option Value} {news : List (Addr × Obj)} {Q : Value → Shared → Prop} {a b : Int} {t u : Tok} {x y : Str} {pos : Pos}

/-- the next steps, from a state that the frame knows -/
abbrev Nx (s₀ : Shared) (env : Env) (own : List (Str × Addr)) (m : Str → Option Value) (news : List (Addr × Obj)) (P : Shared → Prop) : Prop := ∀ s', Sta s₀ env own s' m news → P s'

theorem o_int {i : Int} {k : Nat} (S : Sta s₀ env own s m news) (h : ∀ t, Nx s₀ env own m news (Q (.int i t))) : wpAny (model prog w) A (eval (.Constant (.int i) k pos) env) Q E s := wpAny_Constant_int (h _ _ (S.toks _))
theorem o_str {k : Nat} (S : Sta s₀ env own s m news) (h : ∀ t, Nx s₀ env own m news (Q (.str x t))) : wpAny (model prog w) A (eval (.Constant (.str x) k pos) env) Q E s := Calls.Constant_str (h _ _ (S.toks _))
theorem o_add (S : Sta s₀ env own s m news) (h : ∀ t, Nx s₀ env own m news (Q (.int (a + b) t))) : wpAny (model prog w) A (binaryOp .Add (.int a t) (.int b u)) Q E s := add_int (h _ _ (S.toks _))
theorem o_sub (S : Sta s₀ env own s m news) (h : ∀ t, Nx s₀ env own m news (Q (.int (a - b) t))) : wpAny (model prog w) A (binaryOp .Sub (.int a t) (.int b u)) Q E s := sub_int (h _ _ (S.toks _))
theorem o_mod (S : Sta s₀ env own s m news) (hb : b ≠ 0) (h : ∀ t, Nx s₀ env own m news (Q (.int (a.fmod b) t))) : wpAny (model prog w) A (binaryOp .Mod (.int a t) (.int b u)) Q E s := mod_int' hb (h _ _ (S.toks _))
theorem o_fdiv (S : Sta s₀ env own s m news) (hb : b ≠ 0) (hl : b.natAbs < 1073741824) (h : ∀ t, Nx s₀ env own m news (Q (.int (a.fdiv b) t))) : wpAny (model prog w) A (binaryOp .FloorDiv (.int a t) (.int b u)) Q E s :=
  floordiv_int hb (h _ _ (S.toks _)) (Or.inl (PyProof.noPylong_small hl))
theorem o_pow (S : Sta s₀ env own s m news) (hb : 0 ≤ b) (hb2 : b ≤ 1000000) (ha : a.natAbs < 2 ^ 64) (h : ∀ t, Nx s₀ env own m news (Q (.int (a ^ b.toNat) t))) : wpAny (model prog w) A (binaryOp .Pow (.int a t) (.int b u)) Q E s := pow_int_small hb hb2 ha (h _ _ (S.toks _))
theorem o_and (S : Sta s₀ env own s m news) (h : ∀ t, Nx s₀ env own m news (Q (.int (Builtin.bitAnd a b) t))) : wpAny (model prog w) A (binaryOp .BitAnd (.int a t) (.int b u)) Q E s := and_int (h _ _ (S.toks _))
theorem o_or (S : Sta s₀ env own s m news) (h : ∀ t, Nx s₀ env own m news (Q (.int (Builtin.bitOr a b) t))) : wpAny (model prog w) A (binaryOp .BitOr (.int a t) (.int b u)) Q E s := or_int (h _ _ (S.toks _))
theorem o_cat (S : Sta s₀ env own s m news) (hsz : x.length + y.length ≤ sizeLine) (h : ∀ t, Nx s₀ env own m news (Q (.str (x ++ y) t))) : wpAny (model prog w) A (binaryOp .Add (.str x t) (.str y u)) Q E s := add_str (fun t' tk => h t' _ (S.toks tk)) hsz

theorem o_newTuple {vs : List Value} (S : Sta s₀ env own s m news) (hsz : vs.length ≤ sizeLine) (h : ∀ a, Nx s₀ env own m ((a, { cls := .type "tuple", data := .seq vs.toArray }) :: news) (Q (.ref a))) : wpAny (model prog w) A (newTuple vs) Q E s :=
  wpAny_newObj_type (h _ _ (S.push _)) (by show vs.toArray.size ≤ sizeLine; rw [List.size_toArray]; exact hsz)
theorem o_newList {vs : List Value} (S : Sta s₀ env own s m news) (hsz : vs.length ≤ sizeLine) (h : ∀ a, Nx s₀ env own m ((a, listOf vs.toArray 0) :: news) (Q (.ref a))) : wpAny (model prog w) A (newList vs) Q E s :=
  wpAny_newObj_type (h _ _ (S.push _)) (by show vs.toArray.size ≤ sizeLine; rw [List.size_toArray]; exact hsz)

theorem isL {l : Addr} {its : Array Value} {n : Nat} {h : Heap} (e : h.get? l = some (listOf its n)) : h.IsList l its := ⟨_, e, rfl, _, rfl⟩
theorem isT {l : Addr} {its : Array Value} {n : Nat} {h : Heap} (e : h.get? l = some { cls := .type "tuple", data := .seq its n }) : IsTup h l its := ⟨_, e, rfl, _, rfl⟩

theorem o_len {l : Addr} {vs : List Value} (S : Sta s₀ env own s m news) (hl : s.heap.IsList l vs.toArray) (hn : vs.length ≤ 2 ^ 24) (h : ∀ t, Nx s₀ env own m news (Q (.int (vs.length : Int) t))) : wpAny (model prog w) A (call (.builtin "len") [.ref l]) Q E s :=
  len_list hl (by simp only [List.size_toArray]; omega) (by have := h (s.toks + 1) _ (S.toks (s.toks + 1 + 1)); simpa using this)

theorem o_range {n : Int} (S : Sta s₀ env own s m news) (h : ∀ a t₁ t₂ t₃, Nx s₀ env own m ((a, { cls := .type "range", data := .fields #[.int 0 t₁, .int n t₂, .int 1 t₃] }) :: news) (Q (.ref a))) : wpAny (model prog w) A (call (.type "range") [.int n t]) Q E s :=
  call_range_1 (h _ _ _ _ _ ((S.push _).toks _))
theorem isR {r : Addr} {n : Int} {h : Heap} {t₁ t₂ t₃ : Tok} (e : h.get? r = some { cls := .type "range", data := .fields #[.int 0 t₁, .int n t₂, .int 1 t₃] }) : IsRange h r 0 n 1 t₁ t₂ t₃ := e
theorem range_small {n : Nat} (hn : n ≤ 2 ^ 24) : Builtin.Range.small 0 (n : Int) 1 = true ∧ Builtin.Range.rangeSize 0 (n : Int) 1 = (n : Int) := by
  refine ⟨small_one (by decide) (by decide) (by omega) (by omega), ?_⟩
  rw [rangeSize_one]
  split <;> omega

theorem o_append {l : Addr} {vs : List Value} {n : Nat} {v : Value} (S : Sta s₀ env own s m ((l, listOf vs.toArray n) :: news)) (hsz : vs.length ≤ sizeLine) (h : ∀ n', Nx s₀ env own m ((l, listOf (vs ++ [v]).toArray n') :: news) (Q .none)) :
    wpAny (model prog w) A (call (.builtin "list.append") [.ref l, v]) Q E s :=
  wpAny_list_append_plain (hsz := by simpa using hsz) ⟨n, S.get (.head _)⟩ fun h' hl hs => by
    obtain ⟨n', e⟩ := hl
    exact h n' _ (S.put Go.heap hs (by rw [show (listOf (vs ++ [v]).toArray n') = listOf (vs.toArray.push v) n' by simp]; exact e))

theorem o_addLists {l l' : Addr} {vs ws : List Value} (S : Sta s₀ env own s m news) (hl : s.heap.IsList l vs.toArray) (hb : s.heap.IsList l' ws.toArray) (hsz : vs.length + ws.length ≤ sizeLine)
    (h : ∀ a, Nx s₀ env own m ((a, listOf (vs ++ ws).toArray 0) :: news) (Q (.ref a))) : wpAny (model prog w) A (binaryOp .Add (.ref l) (.ref l')) Q E s := by
  obtain ⟨⟨cls, dd, data, sl⟩, ho, hc, n, hd⟩ := id hl
  obtain ⟨⟨cls2, dd2, data2, sl2⟩, ho2, hc2, n2, hd2⟩ := id hb
  simp only at hc hd hc2 hd2
  subst hc hd hc2 hd2
  have e : vs.toArray ++ ws.toArray = (vs ++ ws).toArray := by simp
  refine concat_meets ⟨_, ho, rfl⟩ ⟨_, ho2, rfl⟩ noFill_list_add seq_list_add PySem.F.slot_list_add PySem.F.entry_list_add (PySem.F.args_list_add_2 _ _) (list_addW l l' vs.toArray ws.toArray n n2 dd dd2 sl sl2 (by simpa using hsz)) ⟨ho, ho2, ?_⟩
  rw [e]
  exact h _ _ (S.push _)

theorem o_mulList {l : Addr} {vs : List Value} {k : Nat} {z : Int} (n : Nat) (S : Sta s₀ env own s m news) (hl : s.heap.get? l = some (listOf vs.toArray k)) (hz : z = (n : Int)) (hn : n ≤ 1048576) (hsz : vs.length * n ≤ 16777216)
    (h : ∀ a, Nx s₀ env own m ((a, listOf (List.replicate n vs).flatten.toArray 0) :: news) (Q (.ref a))) : wpAny (model prog w) A (binaryOp .Mult (.ref l) (.int z u)) Q E s := by
  have hzn : z.toNat = n := by omega
  have e : List.foldl (fun x1 x2 => x1 ++ x2) #[] (List.replicate (if vs.toArray.isEmpty = true then 0 else z.toNat) vs.toArray) = (List.replicate n vs).flatten.toArray := by
    have h1 : ∀ (k : Nat) (acc : Array Value), List.foldl (fun x1 x2 => x1 ++ x2) acc (List.replicate k vs.toArray) = acc ++ (List.replicate k vs).flatten.toArray := by
      intro k
      induction k with
      | zero => intro acc; simp
      | succ k ih =>
        intro acc
        rw [List.replicate_succ, List.foldl_cons, ih, List.replicate_succ, List.flatten_cons]
        simp
    rw [h1, hzn]
    cases vs with
    | nil => simp
    | cons v r => simp
  have hlo : -(2 ^ 63 : Int) ≤ z := by omega
  have hhi : z < 2 ^ 63 := by omega
  have hsz' : vs.toArray.size * z.toNat ≤ 16777216 := by rw [hzn]; simpa using hsz
  clear hz hzn hn hsz
  have h1 : ¬(!Builtin.List.listFitsIndex z) = true := by
    unfold Builtin.List.listFitsIndex
    rw [decide_eq_true hlo, decide_eq_true hhi]
    decide
  have h2 : ¬vs.toArray.size * z.toNat > (2 ^ 63 - 1) / 8 := by omega
  have h3 : ¬Builtin.List.listTooLong (vs.toArray.size * z.toNat) = true := by unfold Builtin.List.listTooLong; rw [sizeLine_eq]; simp only [gt_iff_lt, decide_eq_true_eq]; omega
  have M := AutoListH.list___mul___list_int_3 l vs.toArray k z u h1 h2 h3
  refine wpAny_binaryOp_repeat_ref (T := "list") (U := "int") (by decide) ⟨_, hl, rfl⟩ (fun s' => typeIs_int s' z u) noFill_list_mul F.fills_int_mul F.slot_int_rmul repeat_list F.slot_int_index.lookup
    (call_meets F.slot_int_rmul (typeIs_int s z u) F.entry_int_rmul (F.args_int_rmul_2 _ _) (int___rmul___int_list z u l vs.toArray k)
      ⟨hl, rfl, ⟨_, hl, rfl⟩, call_meets F.slot_list_mul ⟨_, hl, rfl⟩ F.entry_list_mul (F.args_list_mul_2 _ _) M ⟨hl, ?_⟩⟩)
  rw [e]
  exact h _ _ (S.push _)

theorem o_listRange {r : Addr} {n : Nat} {t₁ t₂ t₃ : Tok} (S : Sta s₀ env own s m news) (hh : A.handled = none) (hr : IsRange s.heap r 0 (n : Int) 1 t₁ t₂ t₃) (hn : n ≤ 2 ^ 24)
    (h : ∀ a ys e, IntsAre ys ((List.range n).map fun k : Nat => (k : Int)) → Nx s₀ env own m ((a, listOf ys.toArray e) :: news) (Q (.ref a))) : wpAny (model prog w) A (call (.type "list") [.ref r]) Q E s := by
  obtain ⟨hs, hz⟩ := range_small hn
  refine call_list_range hh hr hs hz (by simpa using hn) fun h' tk acc c' hk ha hi => ?_
  have hy : acc = acc.toList.toArray := by simp
  refine h _ acc.toList c' ?_ _ (S.add (s' := { s with heap := h', toks := tk }) Go.mk hk ?_ (by rw [← hy]; exact ha))
  · obtain ⟨hsz, hit⟩ := hi
    have key : ∀ (vs : List Value) (k : Nat), (∀ j v, vs[j]? = some v → ∃ t : Tok, v = Value.int ((k + j : Nat) : Int) t) → IntsAre vs ((List.range' k vs.length).map fun k : Nat => (k : Int)) := by
      intro vs
      induction vs with
      | nil => intro k _; exact .nil
      | cons v r ih =>
        intro k hj
        obtain ⟨t, rfl⟩ := hj 0 v rfl
        rw [List.length_cons, List.range'_succ, List.map_cons]
        refine .cons _ t (ih (k + 1) fun j v hv => ?_)
        obtain ⟨t', e⟩ := hj (j + 1) v hv
        exact ⟨t', by rw [e, show ((k + (j + 1) : Nat) : Int) = ((k + 1 + j : Nat) : Int) by omega]⟩
    have := key acc.toList 0 fun j v hv => by
      obtain ⟨t, e⟩ := hit j v (by simpa using hv)
      exact ⟨t, by rw [e, show (0 : Int) + (j : Int) * 1 = ((0 + j : Nat) : Int) by omega]⟩
    rw [Array.length_toList, hsz] at this
    rw [List.range_eq_range']
    exact this
  · cases q : s.heap.get? s.heap.objs.size with
    | none => rfl
    | some o => exact absurd (Heap.lt_size q) (Nat.lt_irrefl _)

theorem o_sum {l : Addr} {vs : List Value} {ns : List Int} (S : Sta s₀ env own s m news) (hh : A.handled = none) (hl : s.heap.IsList l vs.toArray) (hi : IntsAre vs ns)
    (h : ∀ t, Nx s₀ env own m news (Q (.int ns.sum t))) : wpAny (model prog w) A (call (.builtin "sum") [.ref l]) Q E s := by
  obtain ⟨xs, e⟩ := hi.allInts.items
  have hn := hi.numsOf
  rw [e] at hl
  refine sum_intListG hh hl fun h' tk t' hk => ?_
  have e2 : preSum (numAt xs) xs.size = ns.sum := by
    rw [preSum_eq, List.take_of_length_le (by simp), ← nums_intItems, ← e]
    exact congrArg List.sum hn
  rw [e2]
  exact h t' _ (S.grow Go.mk hk)

theorem Sta.perm {news' : List (Addr × Obj)} (S : Sta s₀ env own s m news) (h : news.Perm news') : Sta s₀ env own s m news' :=
  S.drop (fun p hp => h.mem_iff.mpr hp) ((h.map (·.1)).nodup_iff.mp S.nodup)
theorem Sta.sub {news' : List (Addr × Obj)} (S : Sta s₀ env own s m news) (h : news'.Sublist news) : Sta s₀ env own s m news' :=
  S.drop (fun p hp => h.subset hp) (S.nodup.sublist (h.map _))
theorem Sta.bring {pre post : List (Addr × Obj)} {p : Addr × Obj} (S : Sta s₀ env own s m (pre ++ p :: post)) : Sta s₀ env own s m (p :: (pre ++ post)) := S.perm List.perm_middle
theorem Sta.swap {r : List (Addr × Obj)} {p q : Addr × Obj} (S : Sta s₀ env own s m (p :: q :: r)) : Sta s₀ env own s m (q :: p :: r) := S.perm (List.Perm.swap _ _ _)
theorem Sta.tail {r : List (Addr × Obj)} {p : Addr × Obj} (S : Sta s₀ env own s m (p :: r)) : Sta s₀ env own s m r := S.sub (List.sublist_cons_self _ _)

theorem o_unpack {elts : List Expr} {k : Nat} {t : Addr} {vs : List Value} {Q : Unit → Shared → Prop} (S : Sta s₀ env own s m news) (hh : A.handled = none) (ht : IsTup s.heap t vs.toArray)
    (hn : (assignEach elts env).length = vs.length) (hstar : (assignEach elts env).findIdx? (·.1) = none)
    (h : Nx s₀ env own m news fun s' => wpAny (model prog w) A (assignInOrder ((assignEach elts env).map (·.2)) vs) Q E s') : wpAny (model prog w) A (assign (.Tuple elts k pos) env (.ref t)) Q E s :=
  assign_Tuple_tuple hh ht (by simpa using hn) hstar fun h' he => h _ (S.grow Go.heap fun b o e => he b o (Nat.ne_of_lt (Heap.lt_size e)) e)
theorem o_unpackItems {t : Addr} {vs : List Value} {n : Nat} {Q : List Value → Shared → Prop} (S : Sta s₀ env own s m news) (hh : A.handled = none) (ht : IsTup s.heap t vs.toArray) (hn : n = vs.length)
    (h : Nx s₀ env own m news (Q vs)) : wpAny (model prog w) A (unpackItems (.ref t) n none) Q E s := by
  have e : n = vs.toArray.size := by simpa using hn
  subst e
  exact unpackItems_tuple hh ht fun h' he => h _ (S.grow Go.heap fun b o e => he b o (Nat.ne_of_lt (Heap.lt_size e)) e)
end
end
-- FwWalk
section

/-- a frame's environment by a name of its own; what it is -/
structure EnvIs (env lit : Env) : Prop where
  eq : env = lit
structure OwnIs (own lit : List (Str × Addr)) : Prop where
  eq : own = lit

section
variable {M : Model} {prog : Program} {w : World} {A : Around} {E : Value → Shared → Prop} {s₀ s : Shared} {env lit : Env} {own olit : List (Str × Addr)} {m : Str → Option Value} {news : List (Addr × Obj)} {mean : ExcName → Option Value} {mg mb : Str → Option Value} {Q : Value → Shared → Prop} {x : Str} {v : Value} {pos : Pos}
theorem n_name (S : Sta s₀ env own s m news) (he : EnvIs env lit) (hk : lit.scope.kind = .function) (hx : rdable lit x = true) (hv : m x = some v) (hd : (x == ("__debug__" : Str)) = false) (hn : (x == ("__classdict__" : Str)) = false) (h : Q v s) : wpAny M A (eval (.Name x pos) env) Q E s := by
  obtain ⟨rfl⟩ := he
  exact S.name hk hx hv h hd hn
theorem n_glob (W : Wd w mean mg mb s₀.heap) (S : Sta s₀ env own s m news) (he : EnvIs env lit) (hg : lit.globals = mainGlobals) (hk : lit.scope.kind = .function) (hx : lit.kindOf x = some .globalImplicit) (e : nsIn (Mine.hd.heap_39 w.params) mainGlobals x = some (some v)) (hd : (x == ("__debug__" : Str)) = false) (h : Q v s) :
    wpAny M A (eval (.Name x pos) env) Q E s := by
  obtain ⟨rfl⟩ := he
  exact Name_function_global hk hx (loadGlobal_global (env := env) (by rw [hg]; exact W.T.g.keeps S.keep) (mg_of W.K W.T.g e) h) hd
theorem n_blt (W : Wd w mean mg mb s₀.heap) (S : Sta s₀ env own s m news) (he : EnvIs env lit) (hg : lit.globals = mainGlobals) (hb : lit.builtins = builtinsNs) (hk : lit.scope.kind = .function) (hx : lit.kindOf x = some .globalImplicit) (e : nsIn (Mine.hd.heap_39 w.params) mainGlobals x = some none) (hv : bootBuiltins x = some v) (hn : x ≠ "__name__") (hd : (x == ("__debug__" : Str)) = false) (h : Q v s) :
    wpAny M A (eval (.Name x pos) env) Q E s := by
  obtain ⟨rfl⟩ := he
  exact Name_function_global hk hx (loadGlobal_builtin (env := env) (by rw [hg]; exact W.T.g.keeps S.keep) (mg_none_of W.K W.T.g e) (by rw [hb]; exact W.T.b.keeps S.keep) ((W.T.builtins x hn).trans hv) h) hd
theorem n_storeL {Q : Unit → Shared → Prop} (S : Sta s₀ env own s m news) (he : EnvIs env lit) (hk : lit.scope.kind = .function) (hx : lit.kindOf x = some .local) (h : Nx s₀ env own (upd m x v) news (Q ())) : wpAny M A (storeName env x v) Q E s := by
  obtain ⟨rfl⟩ := he
  exact S.store_local hk hx h
theorem n_storeC {Q : Unit → Shared → Prop} {c : Addr} (S : Sta s₀ env own s m news) (he : EnvIs env lit) (ho : OwnIs own olit) (hk : lit.scope.kind = .function) (hx : lit.kindOf x = some .cell) (hc : lit.cells.lookup x = some c) (hc' : olit.lookup x = some c) (h : Nx s₀ env own (upd m x v) news (Q ())) : wpAny M A (storeName env x v) Q E s := by
  obtain ⟨rfl⟩ := he
  obtain ⟨rfl⟩ := ho
  exact S.store_cell hk hx hc hc' h
theorem n_callDef {f : Value} {first : List Value} {e : Expr} {rest : List Expr} (W : Wd w mean mg mb s₀.heap) (hk : keepIn (Mine.hd.heap_39 w.params) f = true) (h : wpAny M A (spliced (backTo pos (starEach (e :: rest) env))) (fun vs s₁ => Ext s₀.heap s₁.heap ∧ wpAny M A (call f (first ++ vs)) Q E s₁) E s)
    (he : starEach (e :: rest) env = (false, eval e env) :: starEach rest env := by rfl) (hplain : (backTo pos (starEach rest env)).any (·.1) = false := by rfl) :
    wpAny M A (callWith pos f first (backTo pos (starEach (e :: rest) env)) []) Q E s :=
  callWith_K W.K hk (wpAny_mono h (fun _ _ q => ⟨W.K.keeps q.1, q.2⟩) fun _ _ y => y) he hplain
theorem n_callDef0 {f : Value} {first : List Value} (W : Wd w mean mg mb s₀.heap) (S : Sta s₀ env own s m news) (hk : keepIn (Mine.hd.heap_39 w.params) f = true) (h : wpAny M A (call f (first ++ [])) Q E s) :
    wpAny M A (callWith pos f first (backTo pos (starEach [] env)) []) Q E s := callWith_K0 (W.K.keeps S.keep) hk h
theorem n_assignTuple {elts k tpos value} {Q : Flow → Shared → Prop} (he : EnvIs env lit) (hw : swappedStores [.Tuple elts k tpos] value lit = pure none)
    (h : wpAny M A (eval value env) (fun v s₁ => wpAny M A (assign (.Tuple elts k tpos) env v) (fun _ => Q .next) E s₁) E s)
    (hs : swapsWithSole [.Tuple elts k tpos] value pos.line env = pure false := by rfl) : wpAny M A (exec (.Assign [.Tuple elts k tpos] value pos) env) Q E s := Assign_Tuple h hs (he.eq ▸ hw)
theorem n_assignSwap {elts k tpos value} {names : List Str} {Q : Flow → Shared → Prop} (he : EnvIs env lit) (hw : swappedStores [.Tuple elts k tpos] value lit = pure (some names))
    (h : wpAny M A (eval value env) (fun v s₁ => wpAny M A (unpackItems v names.length none) (fun items s₂ =>
      wpAny M A (assignInOrder (names.reverse.map fun n => bindName env n) items.reverse) (fun _ => Q .next) E s₂) E s₁) E s)
    (hs : swapsWithSole [.Tuple elts k tpos] value pos.line env = pure false := by rfl) : wpAny M A (exec (.Assign [.Tuple elts k tpos] value pos) env) Q E s := Assign_Tuple_swapped h hs (he.eq ▸ hw)
theorem n_expr {e : Expr} {Q : Flow → Shared → Prop} (he : EnvIs env lit) (hi : interactive lit = false) (h : wpAny M A (eval e env) (fun v s' => match v with | .ref _ => False | _ => Q .next s') E s) (hs : swapsWith e none pos.line env = pure false := by rfl) :
    wpAny M A (exec (.Expr e pos) env) Q E s := wpAny_Expr h (he.eq ▸ hi) hs
theorem n_comp {elt tgt iter : Expr} {ifs : List Expr} {scope : Scope} (hkind : scope.kind = .function) (hnd : (scope.names.map (·.1)).Nodup) (he : EnvIs env lit) (hok : (scope.names.all fun x => x.2 != .free || (lit.cells.lookup x.1).isSome) = true)
    (h : wpAny (model prog w) A (eval iter env) (fun xv s₁ => CompAt (model prog w) A env elt tgt iter ifs scope pos none Q E xv s₁) E s)
    (hs : ∀ x, foldedSetIterable iter env x = pure x := by intro _; rfl) : wpAny (model prog w) A (eval (.ListComp elt [⟨tgt, iter, ifs, 0⟩] scope pos) env) Q E s := eval_Comp hkind hnd (he.eq ▸ hok) h hs
theorem n_compA {elt tgt iter : Expr} {ifs : List Expr} {scope : Scope} {Q : Flow → Shared → Prop} {y : Str} {py spos : Pos} (he : EnvIs env lit) (hsw : swapsWith (.ListComp elt [⟨tgt, iter, ifs, 0⟩] scope pos) (some (.Name y py)) spos.line lit = pure true)
    (hkind : scope.kind = .function) (hnd : (scope.names.map (·.1)).Nodup) (hok : (scope.names.all fun x => x.2 != .free || (lit.cells.lookup x.1).isSome) = true)
    (h : wpAny (model prog w) A (eval iter env) (fun xv s₁ => CompAt (model prog w) A env elt tgt iter ifs scope pos (some (assign (.Name y py) env)) (fun _ s' => Q .next s') E xv s₁) E s)
    (hs : ∀ x, foldedSetIterable iter env x = pure x := by intro _; rfl) : wpAny (model prog w) A (exec (.Assign [.Name y py] (.ListComp elt [⟨tgt, iter, ifs, 0⟩] scope pos) spos) env) Q E s :=
  exec_Comp (he.eq ▸ hsw) hkind hnd (he.eq ▸ hok) h hs

theorem okAll {scope : Scope} (he : EnvIs env lit) (hok : (scope.names.all fun x => x.2 != .free || (lit.cells.lookup x.1).isSome) = true) : (scope.names.all fun x => x.2 != .free || (env.cells.lookup x.1).isSome) = true := he.eq ▸ hok

/-- a turn of a comprehension, its block by a name -/
theorem turnOf {elt tgt : Expr} {ifs : List Expr} {scope : Scope} {s₁ : Shared} {n : Nat} {P : Nat → Value → Heap → Prop} {J : Nat → List Value → List (Addr × Obj) → Prop} (W : Wd w mean mg mb s₁.heap) (he : EnvIs env lit)
    (h : ∀ i v ys led C s₀ s₂ m₂ cenv cown, i < n → P i v s₂.heap → J i ys led → ys.length ≤ i → Ext s₁.heap s₀.heap → (∀ x, scope.names.lookup x = some .free → m₂ x = m x) → Wd w mean mg mb s₀.heap → EnvIs cenv (cenvOf scope C lit) → OwnIs cown (cownOf scope C) → Sta s₀ cenv cown s₂ m₂ led →
      wpAny (model prog w) A (assign tgt cenv v) (fun _ s₃ =>
        wpAny (model prog w) A (forIn ifs true fun c r => if r = true then do let ok ← isTrue c cenv (eval c cenv); pure (ForInStep.yield ok) else pure (ForInStep.yield r)) (fun ok s₄ =>
          if ok = true then wpAny (model prog w) A (eval elt cenv) (fun y s₅ => ∃ m₅ led₅, Sta s₀ cenv cown s₅ m₅ led₅ ∧ J (i + 1) (ys ++ [y]) led₅) (fun _ _ => False) s₄
          else ∃ m₄ led₄, Sta s₀ cenv cown s₄ m₄ led₄ ∧ J (i + 1) ys led₄) (fun _ _ => False) s₃) (fun _ _ => False) s₂) : CTurn prog w A env m elt tgt ifs scope s₁ n P J :=
  fun i v ys led C s₀ s₂ m₂ hi hP hJ hl hE hf S => h i v ys led C s₀ s₂ m₂ _ _ hi hP hJ hl hE hf (W.ext hE) ⟨by rw [he.eq]⟩ ⟨rfl⟩ S

theorem enterE {A : Around} {s : Shared} {Q E : Value → Shared → Prop}
    {name qual : Str} {params : Arguments} {body : List Stmt} {scope : Scope} {dV kV doc pm cdv ct oc : Value} {an od : Option Addr} {osl : Array (Option Value)} {f : Addr} {pos : List Value} {kw : List (Str × Value)} {binds : List (Str × Value)}
    (W : Wd w mean mg mb s.heap)
    (ho : (Mine.hd.heap_39 w.params).lookup f = some ⟨oc, od, .func (fnOf name qual params body scope dV kV doc pm an cdv ct), osl⟩) (hcd : codeIn (Mine.hd.heap_39 w.params) cdv qual = true) (hroom : A.depth < recursionLimit)
    (hbind : BindsTo s (fnOf name qual params body scope dV kV doc pm an cdv ct) ⟨pos, kw⟩ binds)
    (hkind : (binds.all fun y => scope.names.lookup y.1 == some .local || scope.names.lookup y.1 == some .cell) = true)
    (hks : (scope.names.all fun x => x.2 != .cell || scope.names.lookup x.1 == some .cell) = true)
    (hnd : ((cellsFrom 0 scope.names []).map (·.1)).Nodup)
    (hco : scope.isCoroutine = false) (hgen : scope.isGenerator = false) (hk : scope.kind = .function)
    (h : ∀ L s₁ env own m, (∀ x v, binds.reverse.lookup x = some v → m x = some v) → EnvIs env (envX qual scope L f cdv (cellsFrom (L + 1) scope.names [])) → OwnIs own (cellsFrom (L + 1) scope.names []) → Sta s env own s₁ m [] →
      wpAny (model prog w) (A.deeper env) (execs body env) (fun fl s' => Q (retOf fl) s') (fun _ _ => False) s₁) : wpAny (model prog w) A (call (.ref f) pos kw) Q E s :=
  enter W ho hcd hroom hbind hkind hks hnd (fun L s₁ S => h L s₁ _ _ _ (fun _ _ e => e) ⟨rfl⟩ ⟨rfl⟩ S) hco hgen hk
end

section
variable {M : Model} {A : Around} {E : Value → Shared → Prop} {s : Shared} {Q : Value → Shared → Prop} {f v : Value} {vs : List Value} {kw : List (Str × Value)}
theorem app_nil (h : wpAny M A (call f vs kw) Q E s) : wpAny M A (call f ([] ++ vs) kw) Q E s := h
theorem app_one (h : wpAny M A (call f (v :: vs) kw) Q E s) : wpAny M A (call f ([v] ++ vs) kw) Q E s := h
end
theorem n_item {prog : Program} {w : World} {A : Around} {E : Value → Shared → Prop} {s : Shared} {value slice : Expr} {a : Addr} {l : List Value} {k : Int} {u : Tok} {x : Value} {Q : Value → Shared → Prop} (j : Nat) (hl : s.heap.IsList a l.toArray)
    (hk : k = (j : Int)) (hj : j < 2 ^ 32) (hx : l[j]? = some x) (h : Q x s)
    (hs : subscripted slice false (.ref a) (.int k u) = operate [.ref a, .int k u] (getItem (.ref a) (.int k u))) (hg : ∀ r, letTemporaryGo value (.ref a) r = pure ()) :
    wpAny (model prog w) A (subscriptTail value slice (.ref a) (.int k u)) Q E s :=
  item_listL hl (by omega) (by omega) (by rw [show k.toNat = j by omega]; exact hx) h hs hg
theorem ite_t {P P' : Prop} (h : P) : if true = true then P else P' := by simpa using h
theorem ite_f {P P' : Prop} (h : P') : if false = true then P else P' := by simpa using h
theorem ite_b {b : Bool} {P P' : Prop} (h1 : b = true → P) (h2 : b = false → P') : if b = true then P else P' := by
  cases b with
  | true => exact ite_t (h1 rfl)
  | false => exact ite_f (h2 rfl)
end
local macro_rules | `(tactic| walk_at "m:S") => `(tactic| with_reducible assumption)
local macro_rules | `(tactic| walk_at "m:look") => `(tactic| first | with_reducible assumption | exact if_pos rfl | (refine (if_neg (by decide)).trans ?_; walk_at "m:look"))
local macro_rules | `(tactic| walk_at "m:mem") => `(tactic| first | exact List.Mem.head _ | (refine List.Mem.tail _ ?_; walk_at "m:mem"))
local macro_rules | `(tactic| walk_at "m:ok") => `(tactic| first | with_reducible assumption | assumption)
local macro_rules | `(tactic| walk_at "m:arith") => `(tactic| first | assumption | decide | omega)
local macro_rules | `(tactic| walk_at "m:small") => `(tactic| first | omega | (simp only [List.length_append, List.length_cons, List.length_nil]; omega))
local macro_rules | `(tactic| walk_at "m:isl") => `(tactic| first
  | with_reducible assumption
  | exact isL (Sta.get (by with_reducible assumption) (by walk_at "m:mem"))
  | exact Heap.IsList.at (by with_reducible assumption) fun o e => Sta.keep (by with_reducible assumption) _ _ e)
local macro_rules | `(tactic| walk_at "m:name") => `(tactic| first
  | (refine' n_name ?mS ?me ?mk ?mx ?mv ?md ?mn ?_; (case mS => walk_at "m:S"); (case me => walk_at "m:S"); (case mk => exact rfl); (case mx => exact rfl); (case mv => walk_at "m:look"); (case md => decide); (case mn => decide))
  | (refine' n_glob ?mW ?mS ?mE ?mg ?mk ?mx ?me ?md ?_; (case mW => walk_at "m:S"); (case mS => walk_at "m:S"); (case mE => walk_at "m:S"); (case mg => exact rfl); (case mk => exact rfl); (case mx => exact rfl); (case me => k_is); (case md => decide))
  | (refine' n_blt ?mW ?mS ?mE ?mg ?mb ?mk ?mx ?me ?mv ?mn ?md ?_; (case mW => walk_at "m:S"); (case mS => walk_at "m:S"); (case mE => walk_at "m:S"); (case mg => exact rfl); (case mb => exact rfl); (case mk => exact rfl); (case mx => exact rfl); (case me => k_is); (case mv => boot_fast); (case mn => decide); (case md => decide)))
local macro_rules | `(tactic| walk_at "m:store") => `(tactic| first
  | (refine' n_storeL ?mS ?me ?mk ?mx ?_; (case mS => walk_at "m:S"); (case me => walk_at "m:S"); (case mk => exact rfl); (case mx => exact rfl); intro s' S')
  | (refine' n_storeC ?mS ?me ?mO ?mk ?mx ?mc ?mo ?_; (case mS => walk_at "m:S"); (case me => walk_at "m:S"); (case mO => walk_at "m:S"); (case mk => exact rfl); (case mx => exact rfl); (case mc => exact rfl); (case mo => exact rfl); intro s' S'))
local macro_rules | `(tactic| walk_at "m:eval") => `(tactic| first
  | ((with_reducible show wpAny _ _ (eval (Expr.Name _ _) _) _ _ _); walk_at "m:name")
  | ((with_reducible show wpAny _ _ (eval (Expr.Constant _ _ _) _) _ _ _); first
     | (with_reducible refine' o_int ?mS ?_; (case mS => walk_at "m:S"); intro t' s' S')
     | (with_reducible refine' o_str ?mS ?_; (case mS => walk_at "m:S"); intro t' s' S')
     | with_reducible refine Constant_bool ?_
     | with_reducible refine wpAny_Constant_none ?_)
  | ((with_reducible show wpAny _ _ (eval (Expr.Call _ _ _ _) _) _ _ _); first
     | ((with_reducible show wpAny _ _ (eval (Expr.Call (Expr.Attribute _ _ _) _ [] _) _) _ _ _); refine MethodCall_ ?_)
     | ((with_reducible show wpAny _ _ (eval (Expr.Call _ _ [] _) _) _ _ _); refine Call_ ?_))
  | with_reducible refine wpAny_BinOp ?_
  | with_reducible refine wpAny_Compare1 ?_
  | with_reducible refine Subscript_ ?_
  | with_reducible refine Tuple_ ?_
  | with_reducible refine List_ ?_
  | with_reducible refine IfExp_ ?_
  | with_reducible refine BoolOp_one ?_
  | with_reducible refine BoolOp_and ?_
  | with_reducible refine BoolOp_or ?_
  | ((with_reducible show wpAny _ _ (eval (Expr.ListComp _ _ _ _) _) _ _ _); refine' n_comp ?mk ?mn ?me ?mo ?_; (case mk => exact rfl); (case mn => decide); (case me => walk_at "m:S"); (case mo => exact rfl)))
local macro_rules | `(tactic| walk_at "m:exec") => `(tactic| first
  | with_reducible refine wpAny_Return_some ?_
  | with_reducible refine wpAny_If ?_
  | ((with_reducible show wpAny _ _ (exec (Stmt.Assign [Expr.Name _ _] (Expr.ListComp _ _ _ _) _) _) _ _ _); refine' n_compA ?me ?mw ?mk ?mn ?mo ?_; (case me => walk_at "m:S"); (case mw => exact rfl); (case mk => exact rfl); (case mn => decide); (case mo => exact rfl))
  | ((with_reducible show wpAny _ _ (exec (Stmt.Assign [Expr.Name _ _] _ _) _) _ _ _); refine wpAny_Assign_Name ?_)
  | ((with_reducible show wpAny _ _ (exec (Stmt.Assign [Expr.Tuple _ _ _] _ _) _) _ _ _); first
     | (refine' n_assignTuple ?me ?mw ?_; (case me => walk_at "m:S"); (case mw => exact rfl))
     | (refine' n_assignSwap ?me ?mw ?_; (case me => walk_at "m:S"); (case mw => exact rfl)))
  | ((with_reducible show wpAny _ _ (exec (Stmt.Expr _ _) _) _ _ _); refine' n_expr ?me ?mi ?_; (case me => walk_at "m:S"); (case mi => exact rfl))
  | ((with_reducible show wpAny _ _ (exec (Stmt.For _ _ _ _ _) _) _ _ _); refine exec_For_ ?_))
local macro_rules | `(tactic| walk_at "m:isTrue") => `(tactic| first
  | with_reducible refine wpAny_isTrue_Compare1 ?_
  | with_reducible refine isTrue_and_nil ?_
  | with_reducible refine isTrue_or_nil ?_
  | with_reducible refine isTrue_and ?_
  | with_reducible refine isTrue_or ?_
  | with_reducible refine isTrue_not ?_
  | refine isTrue_plain ?_)
local macro_rules | `(tactic| walk_at "m:new") => `(tactic| first
  | (with_reducible refine' o_newTuple ?mS ?mz ?_; (case mS => walk_at "m:S"); (case mz => exact Nat.le_of_ble_eq_true rfl); intro a' s' S')
  | (with_reducible refine' o_newList ?mS ?mz ?_; (case mS => walk_at "m:S"); (case mz => exact Nat.le_of_ble_eq_true rfl); intro a' s' S'))
local macro_rules | `(tactic| walk_at "m:callw") => `(tactic| first
  | ((with_reducible show wpAny _ _ (callWith _ (Value.builtin _) _ _ _) _ _ _); first | with_reducible refine callWith_method0 ?_ | ((with_reducible show wpAny _ _ (callWith _ (Value.builtin _) [] _ _) _ _ _); refine callWith_builtin1 ?_) | refine callWith_method1 ?_)
  | ((with_reducible show wpAny _ _ (callWith _ (Value.type _) _ _ _) _ _ _); with_unfolding_all refine Pv.callWith_type1 ?_)
  | ((with_reducible show wpAny _ _ (callWith _ (Value.ref _) _ _ _) _ _ _); first
     | (refine' n_callDef ?mW ?mk ?_ ?m1 ?m2; (case mW => walk_at "m:S"); (case mk => k_is); (case m1 => exact rfl); (case m2 => exact rfl))
     | (refine' n_callDef0 ?mW ?mS ?mk ?_; (case mW => walk_at "m:S"); (case mS => walk_at "m:S"); (case mk => k_is))))
local macro_rules | `(tactic| walk_at "m:call") => `(tactic| first
  | with_reducible refine app_nil ?_
  | with_reducible refine app_one ?_
  | ((with_reducible show wpAny _ _ (call (Value.builtin "len") [Value.ref _]) _ _ _); refine' o_len ?mS ?ml ?mn ?_; (case mS => walk_at "m:S"); (case ml => walk_at "m:isl"); (case mn => walk_at "m:small"); intro t' s' S')
  | ((with_reducible show wpAny _ _ (call (Value.type "range") [Value.int _ _]) _ _ _); refine' o_range ?mS ?_; (case mS => walk_at "m:S"); intro a' t1' t2' t3' s' S'))
local macro_rules | `(tactic| walk_at "m:bin") => `(tactic| first
  | (with_reducible refine' o_mod ?mS ?mb ?_; (case mS => walk_at "m:S"); (case mb => walk_at "m:arith"); intro t' s' S')
  | (with_reducible refine' o_fdiv ?mS ?mb ?mc ?_; (case mS => walk_at "m:S"); (case mb => walk_at "m:arith"); (case mc => walk_at "m:arith"); intro t' s' S')
  | (with_reducible refine' o_pow ?mS ?mb ?mc ?ma ?_; (case mS => walk_at "m:S"); (case mb => walk_at "m:arith"); (case mc => walk_at "m:arith"); (case ma => walk_at "m:arith"); intro t' s' S')
  | (with_reducible refine' o_and ?mS ?_; (case mS => walk_at "m:S"); intro t' s' S')
  | (with_reducible refine' o_or ?mS ?_; (case mS => walk_at "m:S"); intro t' s' S')
  | (with_reducible refine' o_add ?mS ?_; (case mS => walk_at "m:S"); intro t' s' S')
  | (with_reducible refine' o_sub ?mS ?_; (case mS => walk_at "m:S"); intro t' s' S'))
local macro_rules | `(tactic| walk_at "m:asg") => `(tactic| first
  | with_reducible refine wpAny_assign_Name ?_
  | ((with_reducible show wpAny _ _ (assign (Expr.Tuple _ _ _) _ (Value.ref _)) _ _ _); refine' o_unpack ?mS ?mh ?mt ?mn ?ms ?_; (case mS => walk_at "m:S"); (case mh => walk_at "m:ok"); (case mt => exact isT (Sta.get (by with_reducible assumption) (by walk_at "m:mem"))); (case mn => exact rfl); (case ms => exact rfl); intro s' S'))
local macro_rules | `(tactic| walk_at "m:rest") => `(tactic| first
  | ((with_reducible show wpAny _ _ (unpackItems _ _ _) _ _ _); refine' o_unpackItems ?mS ?mh ?mt ?mn ?_; (case mS => walk_at "m:S"); (case mh => walk_at "m:ok"); (case mt => exact isT (Sta.get (by with_reducible assumption) (by walk_at "m:mem"))); (case mn => exact rfl); intro s' S')
  | ((with_reducible show wpAny _ _ (assignInOrder _ _) _ _ _); first | refine assignInOrder_nil ?_ | refine assignInOrder_cons ?_)
  | ((with_reducible show wpAny _ _ (getMethod (Value.ref _) (Str.ofString "append") _) _ _ _); refine getMethod_list_append (Sta.get (by with_reducible assumption) (by walk_at "m:mem")) rfl rfl ?_)
  | with_reducible refine PyProof.Rows.bindName_ ?_
  | with_reducible refine wpAny_truthy_bool ?_
  | with_reducible refine wpAny_tests_nil ?_
  | with_reducible refine wpAny_tests_one ?_
  | with_reducible refine ite_t ?_
  | with_reducible refine ite_f ?_)
local macro_rules | `(tactic| walk_at "m:1") => `(tactic| first
  | ((with_reducible show wpAny _ _ (eval _ _) _ _ _); walk_at "m:eval")
  | ((with_reducible show wpAny _ _ (spliced _) _ _ _); first | with_reducible refine spliced_none ?_ | refine spliced_more ?_)
  | ((with_reducible show wpAny _ _ (execs _ _) _ _ _); with_reducible first | refine wpAny_execs_cons ?_ | refine wpAny_execs_nil ?_)
  | ((with_reducible show wpAny _ _ (exec _ _) _ _ _); walk_at "m:exec")
  | ((with_reducible show wpAny _ _ (callWith _ _ _ _ _) _ _ _); walk_at "m:callw")
  | ((with_reducible show wpAny _ _ (call _ _ _) _ _ _); walk_at "m:call")
  | ((with_reducible show wpAny _ _ (binaryOp _ _ _) _ _ _); walk_at "m:bin")
  | ((with_reducible show wpAny _ _ (compareOp _ _ _) _ _ _); with_reducible first | refine eq_int ?_ | refine ne_int ?_ | refine eq_bool ?_ | refine eq_str ?_ | refine ne_bool ?_)
  | ((with_reducible show wpAny _ _ (storeName _ _ _) _ _ _); walk_at "m:store")
  | ((with_reducible show wpAny _ _ (isTrue _ _ _) _ _ _); walk_at "m:isTrue")
  | ((with_reducible show wpAny _ _ (assign _ _ _) _ _ _); walk_at "m:asg")
  | walk_at "m:new"
  | walk_at "m:rest"
  | k_unfold)
local macro_rules | `(tactic| walk_at "m:enter") => `(tactic| (refine' enterE ?mW ?mo ?mc ?md ?mb ?mk ?ms ?mn ?m1 ?m2 ?m3 ?_; (case mW => assumption); (case mo => k_is); (case mc => k_is); (case mb => exact BindsTo.of_eq rfl); (case mk => exact rfl); (case ms => exact rfl); (case mn => decide); (case m1 => exact rfl); (case m2 => exact rfl); (case m3 => exact rfl)))
local macro_rules | `(tactic| walk_at "m:go") => `(tactic| repeat (walk_at "m:1"))
-- FwEq
section
theorem eqvAll_nil (ds : List PyData) : PyData.eqvAll ds [] = ds.isEmpty := by
  cases ds <;> simp [PyData.eqvAll]
theorem canAll : ∀ {ds : List PyData}, (∀ d ∈ ds, d.canLay0 = true) → PyData.canLayAll0 ds = true
  | [], _ => by simp [PyData.canLayAll0]
  | d :: r, h => by
    simp only [PyData.canLayAll0, Bool.and_eq_true]
    exact ⟨h d (.head _), canAll fun e he => h e (.tail _ he)⟩
theorem depAll {k : Nat} : ∀ {ds : List PyData}, (∀ d ∈ ds, d.depth ≤ k) → PyData.depthAll ds ≤ k
  | [], _ => by simp [PyData.depthAll]
  | d :: r, h => by
    simp only [PyData.depthAll]
    exact Nat.max_le.mpr ⟨h d (.head _), depAll fun e he => h e (.tail _ he)⟩
theorem shaped_list {ds : List PyData} (h1 : ∀ d ∈ ds, d.canLay0 = true) (h2 : ∀ d ∈ ds, d.depth ≤ 60) : SeqAt.shaped (.list ds) = true := by
  unfold SeqAt.shaped
  rw [Bool.and_eq_true]
  refine ⟨by simp only [PyData.canLay0]; exact canAll h1, decide_eq_true ?_⟩
  have := depAll h2
  simp only [PyData.depth]
  omega
theorem reads_list {h : Heap} {a : Addr} {vs : List Value} {e : Nat} {ds : List PyData} {as : List Addr} (ha : h.get? a = some (listOf vs.toArray e)) (r : ReadsAll h vs ds as) : Reads h (.ref a) (.list ds) (a :: as) :=
  .list ha rfl rfl (by simpa using r)
theorem reads_isL {h : Heap} {a : Addr} {vs : List Value} {ds : List PyData} {as : List Addr} (ha : h.IsList a vs.toArray) (r : ReadsAll h vs ds as) : Reads h (.ref a) (.list ds) (a :: as) := by
  obtain ⟨o, h1, h2, n, h3⟩ := ha
  exact .list h1 h2 h3 (by simpa using r)
theorem reads_ints {h : Heap} : ∀ {vs : List Value} {is : List Int}, IntsAre vs is → ReadsAll h vs (is.map PyData.int) [] := fun x => ints_readAll h x
theorem reads_bools {h : Heap} : ∀ (bs : List Bool), ReadsAll h (bs.map Value.bool) (bs.map PyData.bool) []
  | [] => .nil
  | b :: r => .cons (as := []) (bs := []) (.bool b) (reads_bools r)
theorem ReadsAll.at_ {h : Heap} {f : Value → PyData → Prop} : True := trivial
section
variable {prog : Program} {w : World} {A : Around} {E : Value → Shared → Prop} {s : Shared} {a b : Value} {da db : PyData} {as bs : List Addr} {Q : Value → Shared → Prop}
theorem n_eq (hu : A.units + 64 < cLine) (ra : Reads s.heap a da as) (rb : Reads s.heap b db bs) (ha : SeqAt.shaped da = true) (hb : SeqAt.shaped db = true) (h : Q (.bool (PyData.eqv da db)) s) :
    wpAny (model prog w) A (compareOp .Eq a b) Q E s := SeqAt.compareEq_shaped ra rb ha hb hu h
theorem n_ne (hu : A.units + 64 < cLine) (ra : Reads s.heap a da as) (rb : Reads s.heap b db bs) (ha : SeqAt.shaped da = true) (hb : SeqAt.shaped db = true) (h : Q (.bool (!PyData.eqv da db)) s) :
    wpAny (model prog w) A (compareOp .NotEq a b) Q E s := SeqAt.compareNe_shaped ra rb ha hb hu h
end
end
-- Spec1
section
def ynS (b : Bool) : Str := if b then Str.ofString "yes" else Str.ofString "no"
/-- a list of answers -/
def Yn (vs : List Value) (bs : List Bool) : Prop := vs.length = bs.length ∧ ∀ (i : Nat) (v : Value), vs[i]? = some v → ∃ b t, bs[i]? = some b ∧ v = .str (ynS b) t
/-- the table of who takes whom -/
structure Told (h : Heap) (ta : Addr) (rows : List (List Bool)) : Prop where
  refs : ∃ vs : List Value, h.IsList ta vs.toArray ∧ vs.length = rows.length ∧ ∀ (i : Nat) (v : Value), vs[i]? = some v → ∃ (a : Addr) (r : List Bool), v = .ref a ∧ rows[i]? = some r ∧ h.IsList a (r.map Value.bool).toArray
theorem Told.ext {h h' : Heap} {ta : Addr} {rows : List (List Bool)} (T : Told h ta rows) (e : Ext h h') : Told h' ta rows := by
  obtain ⟨vs, h1, h2, h3⟩ := T.refs
  refine ⟨vs, h1.at fun o q => e _ _ q, h2, fun i v hv => ?_⟩
  obtain ⟨a, r, e1, e2, e3⟩ := h3 i v hv
  exact ⟨a, r, e1, e2, e3.at fun o q => e _ _ q⟩

def mInts (row ans : List Bool) (kind : Bool) : List Int := ((List.range 6).filter fun k => row.getD k false && (ans.getD k false == kind)).map fun k => (2 : Int) ^ k
def mSum (row ans : List Bool) (kind : Bool) : Int := (mInts row ans kind).sum
def eithers (rows : List (List Bool)) (ans : List Bool) : List (Int × Int) := rows.map fun r => (mSum r ans false, mSum r ans true)
def offPair (g : Int) (p : Int × Int) : Bool := (Builtin.bitAnd g p.1 == 0) != (Builtin.bitAnd g p.2 == 0)
def stuckStep (ei : List (Int × Int)) (acc : Int) (g : Nat) : Int := if ei.any (offPair g) then acc else Builtin.bitOr acc g
def stuckI (rows : List (List Bool)) (ans : List Bool) : Int := (List.range 64).foldl (stuckStep (eithers rows ans)) 0
def stuckL (rows : List (List Bool)) (ans : List Bool) : List Int := ((List.range 6).filter fun k => ((stuckI rows ans).fdiv (2 ^ k)).fmod 2 == 1).map fun k : Nat => (k : Int)
end
-- FwWalk2
section
open PySem.Builtin PySem.Builtin.Str
section
variable {prog : Program} {w : World} {A : Around} {E : Value → Shared → Prop} {s₀ s : Shared} {env lit : Env} {own : List (Str × Addr)} {m : Str → Option Value} {news : List (Addr × Obj)} {Q : Value → Shared → Prop} {a b : Int} {t u : Tok} {x y : Str} {pos : Pos} {value slice : Expr}

theorem n_titem {tp : Addr} {l : List Value} {k : Int} {v : Value} (j : Nat) (hl : IsTup s.heap tp l.toArray) (hk : k = (j : Int)) (hj2 : j < 2 ^ 32) (hx : l[j]? = some v) (h : Q v s)
    (hs : subscripted slice false (.ref tp) (.int k u) = operate [.ref tp, .int k u] (getItem (.ref tp) (.int k u))) :
    wpAny (model prog w) A (subscriptTail value slice (.ref tp) (.int k u)) Q E s :=
  subscriptTail_builtinR hl.typeIs slot_tuple_getitem.lookup (getItem_tuple (Q := fun r s' => r = v ∧ Q r s') hl (by omega) (by omega) (j := j) (by
    have hj : j < l.length := (List.getElem?_eq_some_iff.mp hx).1
    subst hk
    unfold seqIndex?
    simp
    omega) (by simpa using hx) ⟨rfl, h⟩) hs
theorem n_litem {tp : Addr} {l : List Value} {k : Int} {v : Value} (j : Nat) (hl : s.heap.IsList tp l.toArray) (hk : k = (j : Int)) (hj2 : j < 2 ^ 32) (hx : l[j]? = some v) (h : Q v s)
    (hs : subscripted slice false (.ref tp) (.int k u) = operate [.ref tp, .int k u] (getItem (.ref tp) (.int k u))) :
    wpAny (model prog w) A (subscriptTail value slice (.ref tp) (.int k u)) Q E s :=
  item_listR hl (by omega) (by omega) (by rw [show k.toNat = j by omega]; simpa using hx) h hs
theorem n_lneg {tp : Addr} {l : List Value} {k : Int} {v : Value} (j : Nat) (hl : s.heap.IsList tp l.toArray) (hk : k + l.length = (j : Int)) (h0 : k < 0) (hx : l[j]? = some v) (hj2 : l.length < 2 ^ 32) (h : Q v s)
    (hs : subscripted slice false (.ref tp) (.int k u) = operate [.ref tp, .int k u] (getItem (.ref tp) (.int k u))) :
    wpAny (model prog w) A (subscriptTail value slice (.ref tp) (.int k u)) Q E s :=
  subscriptTail_builtinR hl.typeIs slot_list_getitem.lookup (wpAny_getItem_list_neg (Q := fun r s' => r = v ∧ Q r s') hl h0 (by simp; omega) (by omega) (by
    rw [show (k + (l.toArray.size : Int)).toNat = j by simp; omega]
    simpa using hx) ⟨rfl, h⟩) hs

theorem ext_push : KeptH (Ext s.heap) := fun _ _ k => fun c o e => Heap.get?_push_of_some _ (k c o e)
theorem o_slice_ns {j : Int} {uj : Tok} (S : Sta s₀ env own s m news) (hz : x.length ≤ sizeLine) (h : ∀ t', Nx s₀ env own m news (Q (.str (Txt.slice x none (some j)) t')))
    (hs : subscripted slice false (.str x t) (.ref s.heap.objs.size) = operate [.ref s.heap.objs.size, .str x t] (getItem (.str x t) (.ref s.heap.objs.size)))
    (ht : ∀ r, letTemporaryGo value (.str x t) r = pure ()) :
    wpAny (model prog w) A (subscriptTail value slice (.str x t) (.ref s.heap.objs.size)) Q E { s with heap := s.heap.push { cls := .type "slice", data := .fields #[.none, .int j uj, .none] } } :=
  tail_of_ItemOn (SBH.sliceItem_ns ext_push (Ext.rfl (h := s.heap)) (fun h' t' k q => h t' _ (S.grow (s' := { s with heap := h', toks := k }) Go.mk q)) hz) hs ht
theorem o_slice_sn {j : Int} {uj : Tok} (S : Sta s₀ env own s m news) (hz : x.length ≤ sizeLine) (h : ∀ t', Nx s₀ env own m news (Q (.str (Txt.slice x (some j) none) t')))
    (hs : subscripted slice false (.str x t) (.ref s.heap.objs.size) = operate [.ref s.heap.objs.size, .str x t] (getItem (.str x t) (.ref s.heap.objs.size)))
    (ht : ∀ r, letTemporaryGo value (.str x t) r = pure ()) :
    wpAny (model prog w) A (subscriptTail value slice (.str x t) (.ref s.heap.objs.size)) Q E { s with heap := s.heap.push { cls := .type "slice", data := .fields #[.int j uj, .none, .none] } } :=
  tail_of_ItemOn (SBH.sliceItem_sn ext_push (Ext.rfl (h := s.heap)) (fun h' t' k q => h t' _ (S.grow (s' := { s with heap := h', toks := k }) Go.mk q)) hz) hs ht

theorem n_part {M : Model} {e : Expr} (h : wpAny M A (eval e env) Q E s) : wpAny M A (evalPart (some e) env) Q E s := h
theorem n_part0 {M : Model} (h : Q .none s) : wpAny M A (evalPart none env) Q E s := wpAny_pure h
theorem o_lenS (S : Sta s₀ env own s m news) (hz : x.length ≤ 2 ^ 24) (h : ∀ t, Nx s₀ env own m news (Q (.int (x.length : Int) t))) : wpAny (model prog w) A (call (.builtin "len") [.str x t]) Q E s :=
  P.len_str (by omega) (h _ _ (S.toks _))
theorem o_truS {Q : Bool → Shared → Prop} (S : Sta s₀ env own s m news) (hz : x.length ≤ 2 ^ 24) (h : Nx s₀ env own m news (Q ((x.length : Int) != 0))) : wpAny (model prog w) A (truthy (.str x t)) Q E s :=
  P.truthy_str (by omega) (h _ (S.toks _))
theorem o_subB {p q : Bool} (S : Sta s₀ env own s m news) (h : ∀ t, Nx s₀ env own m news (Q (.int ((if p then 1 else 0) - (if q then 1 else 0)) t))) : wpAny (model prog w) A (binaryOp .Sub (.bool p) (.bool q)) Q E s :=
  PyProof.Rows.sub_bool (h _ _ (S.toks _))
theorem o_neg (S : Sta s₀ env own s m news) (h : ∀ t, Nx s₀ env own m news (Q (.int (-a) t))) : wpAny (model prog w) A (unaryOp .USub (.int a t)) Q E s := P.neg_int (h _ _ (S.toks _))
theorem o_iadd (S : Sta s₀ env own s m news) (h : ∀ t, Nx s₀ env own m news (Q (.int (a + b) t))) : wpAny (model prog w) A (inplaceOp .Add (.int a t) (.int b u)) Q E s := P.iadd_int (h _ _ (S.toks _))
theorem o_isub (S : Sta s₀ env own s m news) (h : ∀ t, Nx s₀ env own m news (Q (.int (a - b) t))) : wpAny (model prog w) A (inplaceOp .Sub (.int a t) (.int b u)) Q E s := P.isub_int (h _ _ (S.toks _))

def find4 (x y : Str) (i j : Int) : Int := match occurrences x y (fromIndex x.length i) (min (fromIndex x.length j) x.length) 1 with | k :: _ => (k : Int) | [] => -1
theorem gives_find4 (x y : Str) (i j : Int) (t u v z : Tok) : Gives («str.find» ⟨[.str x t, .str y u, .int i v, .int j z], []⟩) (.int (find4 x y i j)) := by
  unfold find4
  show Gives (match occurrences x y (fromIndex x.length i) (min (fromIndex x.length j) x.length) 1 with | k :: _ => retInt k | [] => (do rule "str.find.not-found"; retInt (-1))) _
  cases occurrences x y (fromIndex x.length i) (min (fromIndex x.length j) x.length) 1 with
  | nil => exact .rule (.of_eq rfl)
  | cons k _ => exact .of_eq rfl
theorem o_find4 {v z : Tok} (S : Sta s₀ env own s m news) (h : ∀ t, Nx s₀ env own m news (Q (.int (find4 x y a b) t))) : wpAny (model prog w) A (call (.builtin "str.find") [.str x t, .str y u, .int a v, .int b z]) Q E s :=
  call_gives F.slot_str_find (typeIs_str _ _ _) F.entry_str_find (F.args_str_find_4 _ _ _ _) (gives_find4 x y a b t u v z) (h _ _ (S.toks _))
theorem o_upper (S : Sta s₀ env own s m news) (hf : tooLong (Txt.upper x).length = false) (h : ∀ t, Nx s₀ env own m news (Q (.str (Txt.upper x) t))) : wpAny (model prog w) A (call (.builtin "str.upper") [.str x t]) Q E s := SC.upper hf (h _ _ (S.toks _))
theorem o_lower (S : Sta s₀ env own s m news) (hf : tooLong (Txt.lower x).length = false) (h : ∀ t, Nx s₀ env own m news (Q (.str (Txt.lower x) t))) : wpAny (model prog w) A (call (.builtin "str.lower") [.str x t]) Q E s := SC.lower hf (h _ _ (S.toks _))
end
end
local macro_rules | `(tactic| walk_at "m:callmore") => `(tactic| first
  | ((with_reducible show wpAny _ _ (call (Value.builtin "len") [Value.str _ _]) _ _ _); refine' o_lenS ?mS ?mz ?_; (case mS => walk_at "m:S"); (case mz => walk_at "m:arith"); intro t' s' S')
  | ((with_reducible show wpAny _ _ (call (Value.builtin "str.startswith") _) _ _ _); refine SC.startswith ?_)
  | ((with_reducible show wpAny _ _ (call (Value.builtin "str.endswith") _) _ _ _); refine SC.endswith ?_)
  | ((with_reducible show wpAny _ _ (call (Value.builtin "str.upper") _) _ _ _); refine' o_upper ?mS ?mz ?_; (case mS => walk_at "m:S"); (case mz => walk_at "m:arith"); intro t' s' S')
  | ((with_reducible show wpAny _ _ (call (Value.builtin "str.lower") _) _ _ _); refine' o_lower ?mS ?mz ?_; (case mS => walk_at "m:S"); (case mz => walk_at "m:arith"); intro t' s' S')
  | ((with_reducible show wpAny _ _ (call (Value.builtin "str.find") [_, _, _, _]) _ _ _); refine' o_find4 ?mS ?_; (case mS => walk_at "m:S"); intro t' s' S'))
local macro_rules | `(tactic| walk_at "m:cmpmore") => `(tactic| first
  | with_reducible refine P.gt_str ?_
  | with_reducible refine P.lt_str ?_
  | with_reducible refine P.lt_int ?_
  | with_reducible refine P.gt_int ?_
  | with_reducible refine P.ge_int ?_
  | with_reducible refine SB.contains ?_
  | with_reducible refine SB.notContains ?_
  | ((with_reducible show wpAny _ _ (compareOp .Is _ _) _ _ _); first | (refine wpAny_is_self (by rfl) ?_) | (refine wpAny_is_other (by rfl) (by intro e; cases e) ?_))
  | ((with_reducible show wpAny _ _ (compareOp .IsNot _ _) _ _ _); first | (refine wpAny_isNot_self (by rfl) ?_) | (refine wpAny_isNot_other (by rfl) (by intro e; cases e) ?_)))
local macro_rules | `(tactic| walk_at "m:slice") => `(tactic| first
  | (refine' o_slice_ns (s := ⟨_, _, _, _, _⟩) ?mS ?mz ?_ ?m1 ?m2; (case mS => walk_at "m:S"); (case mz => walk_at "m:arith"); (case m1 => with_unfolding_all rfl); (case m2 => intro _; with_unfolding_all rfl); intro t' s' S')
  | (refine' o_slice_sn (s := ⟨_, _, _, _, _⟩) ?mS ?mz ?_ ?m1 ?m2; (case mS => walk_at "m:S"); (case mz => walk_at "m:arith"); (case m1 => with_unfolding_all rfl); (case m2 => intro _; with_unfolding_all rfl); intro t' s' S'))
local macro_rules | `(tactic| walk_at "m:evalmore") => `(tactic| first
  | ((with_reducible show wpAny _ _ (eval (Expr.Slice _ _ _ _) _) _ _ _); refine wpAny_Slice ?_)
  | ((with_reducible show wpAny _ _ (eval (Expr.UnaryOp _ _ _) _) _ _ _); refine UnaryOp_ ?_)
  | ((with_reducible show wpAny _ _ (eval (Expr.Call (Expr.Attribute _ _ _) _ [] _) _) _ _ _); refine MethodCall_ ?_))
local macro_rules | `(tactic| walk_at "m:2") => `(tactic| first
  | walk_at "m:1"
  | ((with_reducible show wpAny _ _ (eval _ _) _ _ _); walk_at "m:evalmore")
  | ((with_reducible show wpAny _ _ (call _ _ _) _ _ _); walk_at "m:callmore")
  | ((with_reducible show wpAny _ _ (compareOp _ _ _) _ _ _); walk_at "m:cmpmore")
  | ((with_reducible show wpAny _ _ (subscriptTail _ (Expr.Slice _ _ _ _) (Value.str _ _) _) _ _ _); walk_at "m:slice")
  | ((with_reducible show wpAny _ _ (evalPart none _) _ _ _); refine n_part0 ?_)
  | ((with_reducible show wpAny _ _ (evalPart (some _) _) _ _ _); refine n_part ?_)
  | ((with_reducible show wpAny _ _ (unaryOp .USub _) _ _ _); refine' o_neg ?mS ?_; (case mS => walk_at "m:S"); intro t' s' S')
  | ((with_reducible show wpAny _ _ (binaryOp .Sub (.bool _) _) _ _ _); refine' o_subB ?mS ?_; (case mS => walk_at "m:S"); intro t' s' S')
  | ((with_reducible show wpAny _ _ (binaryOp .Add (.str _ _) (.str _ _)) _ _ _); refine' o_cat ?mS ?mz ?_; (case mS => walk_at "m:S"); (case mz => walk_at "m:arith"); intro t' s' S')
  | ((with_reducible show wpAny _ _ (inplaceOp .Add _ _) _ _ _); refine' o_iadd ?mS ?_; (case mS => walk_at "m:S"); intro t' s' S')
  | ((with_reducible show wpAny _ _ (inplaceOp .Sub _ _) _ _ _); refine' o_isub ?mS ?_; (case mS => walk_at "m:S"); intro t' s' S')
  | ((with_reducible show wpAny _ _ (truthy (.str _ _)) _ _ _); refine' o_truS ?mS ?mz ?_; (case mS => walk_at "m:S"); (case mz => walk_at "m:arith"); intro s' S')
  | ((with_reducible show wpAny _ _ (getMethod (Value.str _ _) _ _) _ _ _); first
     | ((with_reducible show wpAny _ _ (getMethod _ (Str.ofString "startswith") _) _ _ _); with_reducible refine GM.startswith ?_)
     | ((with_reducible show wpAny _ _ (getMethod _ (Str.ofString "endswith") _) _ _ _); with_reducible refine GM.endswith ?_)
     | ((with_reducible show wpAny _ _ (getMethod _ (Str.ofString "find") _) _ _ _); with_reducible refine GM.find ?_)
     | ((with_reducible show wpAny _ _ (getMethod _ (Str.ofString "split") _) _ _ _); with_reducible refine GM.split ?_)
     | ((with_reducible show wpAny _ _ (getMethod _ (Str.ofString "upper") _) _ _ _); with_reducible refine GM.upper ?_)
     | ((with_reducible show wpAny _ _ (getMethod _ (Str.ofString "lower") _) _ _ _); with_reducible refine GM.lower ?_)))
local macro_rules | `(tactic| walk_at "m:run") => `(tactic| repeat (walk_at "m:2"))
-- Stuck
section
variable {w : World} {A : Around} {s : Shared} {mean : ExcName → Option Value} {mg mb : Str → Option Value} {Q E : Value → Shared → Prop}
theorem fill : (Mine.hd.heap_39 w.params).In s.heap → model PySem.Challenge.rw_tc0037_01.row.prog w = model PySem.Challenge.rw_tc0037_01.row.prog w := by
  k_fill
  intro _
  rfl

def EitherAre (pl : List (Addr × Obj)) (vs : List Value) (ps : List (Int × Int)) : Prop :=
  ∀ (j : Nat) (v : Value), vs[j]? = some v → ∃ a t t' e x y, v = .ref a ∧ (a, listOf #[.int x t, .int y t'] e) ∈ pl ∧ ps[j]? = some (x, y)

theorem ints_snoc {vs : List Value} {ns : List Int} (h : IntsAre vs ns) (a : Int) (t : Tok) : IntsAre (vs ++ [.int a t]) (ns ++ [a]) := by
  induction h with
  | nil => exact .cons a t .nil
  | cons n u _ ih => exact .cons n u ih
theorem snoc_get {α : Type} {ys : List α} {y v : α} {j : Nat} (h : (ys ++ [y])[j]? = some v) : ys[j]? = some v ∨ (j = ys.length ∧ v = y) := by
  rcases Nat.lt_or_ge j ys.length with hlt | hge
  · rw [List.getElem?_append_left hlt] at h
    exact .inl h
  · rw [List.getElem?_append_right hge] at h
    rcases Nat.eq_zero_or_pos (j - ys.length) with h0 | h0
    · rw [h0] at h
      exact .inr ⟨by omega, (Option.some.inj h).symm⟩
    · rw [List.getElem?_eq_none (by simp only [List.length_cons, List.length_nil]; omega)] at h
      cases h
theorem ynS_eq (b c : Bool) : (ynS b == ynS c) = (b == c) := by cases b <;> cases c <;> decide
theorem fil_true {f : Nat → Bool} {g : Nat → Int} {k : Nat} (h : f k = true) : ((List.range (k + 1)).filter f).map g = ((List.range k).filter f).map g ++ [g k] := by
  rw [List.range_succ, List.filter_append, List.map_append]
  simp [h]
theorem fil_false {f : Nat → Bool} {g : Nat → Int} {k : Nat} (h : f k = false) : ((List.range (k + 1)).filter f).map g = ((List.range k).filter f).map g := by
  rw [List.range_succ, List.filter_append, List.map_append]
  simp [h]

theorem pairs_read {h : Heap} {pl : List (Addr × Obj)} (hpl : ∀ p ∈ pl, h.get? p.1 = some p.2) : ∀ {ys : List Value}, (∀ v ∈ ys, ∃ a t t' e x y, v = Value.ref a ∧ (a, listOf #[.int x t, .int y t'] e) ∈ pl) →
    ∃ ds as, ds.length = ys.length ∧ (∀ d ∈ ds, d.canLay0 = true) ∧ (∀ d ∈ ds, d.depth ≤ 60) ∧ ReadsAll h ys ds as
  | [], _ => ⟨[], _, rfl, fun _ h => (nomatch h), fun _ h => (nomatch h), .nil⟩
  | v :: r, hv => by
    obtain ⟨ds, as, h1, h2, h3, h4⟩ := pairs_read hpl (ys := r) fun v h => hv v (.tail _ h)
    obtain ⟨a, t, t', e, x, y, rfl, hm⟩ := hv v (.head _)
    refine ⟨.list [.int x, .int y] :: ds, _, by simp [h1], fun d hd => ?_, fun d hd => ?_, .cons (reads_list (vs := [.int x t, .int y t']) (hpl _ hm) (.cons (.int x t) (.cons (.int y t') .nil))) h4⟩
    · rcases List.mem_cons.mp hd with rfl | hd
      · simp [PyData.canLay0, PyData.canLayAll0]
      · exact h2 d hd
    · rcases List.mem_cons.mp hd with rfl | hd
      · simp [PyData.depth, PyData.depthAll]
      · exact h3 d hd

theorem law_stuck_c (W : Wd w mean mg mb s.heap) (hA : Ok A 2) {ta aa : Addr} {rows : List (List Bool)} {ans : List Bool} {avs : List Value} (hT : Told s.heap ta rows) (hl : s.heap.IsList aa avs.toArray) (ha : Yn avs ans) (h6 : ans.length = 6) (hr : ∀ r ∈ rows, r.length = 6) (hrl : rows.length ≤ 5)
    (h : ∀ s' a ys e, Go s s' → Ext s.heap s'.heap → s.heap.get? a = none → s'.heap.get? a = some (listOf ys.toArray e) → IntsAre ys (stuckL rows ans) → Q (.ref a) s') :
    wpAny (model PG w) A (call (.ref 229) [.ref ta, .ref aa] []) Q E s := by
  walk_at "m:enter"
  case md => exact Nat.lt_of_le_of_lt (Nat.le_add_right _ _) hA.dp
  intro L s₁ env own m hm he ho S
  have hh : A.handled = none := hA.hd
  have hm1 : m (Str.ofString "told") = some (.ref ta) := hm _ _ rfl
  have hm2 : m (Str.ofString "answers") = some (.ref aa) := hm _ _ rfl
  clear hm
  have hav : avs.length = 6 := ha.1.trans h6
  have hal : avs.length ≤ 2 ^ 24 := by rw [hav]; decide
  have hun : (A.deeper env).units + 64 < cLine := by have := hA.un; show A.units + 3 + 64 < _; omega
  (try k_unmd)
  k_fold
  walk_at "m:go"
  rename_i t0 sA SA R r1 r2 r3 sB SB E0 sC SC T0 sD SD sE SE sF SF sG SG
  obtain ⟨vsT, hT1, hT2, hT3⟩ := hT.refs
  refine for_list (vs := vsT) (fun i m' n' => m' (Str.ofString "answers") = some (.ref aa) ∧ m' (Str.ofString "spots") = some (.ref R) ∧ m' (Str.ofString "either") = some (.ref E0) ∧
      ∃ vs e pl, n' = (E0, listOf vs.toArray e) :: (R, { cls := .type "range", data := .fields #[.int 0 r1, .int (avs.length : Int) r2, .int 1 r3] }) :: pl ∧ vs.length = i ∧ EitherAre pl vs (eithers rows ans)) hh SG.tail (hT1.at fun o q => SG.keep _ _ q) ?h0 ?hax ?turn ?done
  case h0 => exact ⟨by walk_at "m:look", by walk_at "m:look", by walk_at "m:look", [], 0, [], rfl, rfl, fun j v q => by cases q⟩
  case hax =>
    obtain ⟨o, q, _⟩ := hT1
    exact .inl ⟨o, q⟩
  case turn =>
    rintro i v s₂ m₂ n₂ a oo hi hv ⟨h1, h2, h3, vs, e, pl, rfl, hlen, hP⟩ S₂
    obtain ⟨ra, r, rfl, hrow, hlr⟩ := hT3 i v hv
    walk_at "m:go"
    rename_i sG' SG' ta1 sH SH ta2 sI SI TT sJ SJ
    refine comp_tuple (vs := [.str (Str.ofString "no") ta1, .str (Str.ofString "yes") ta2]) (fun i ys led => led = [] ∧ ys.length = i ∧ ∀ (j : Nat) v, ys[j]? = some v → ∃ t, v = .int (mSum r ans (j == 1)) t) hh SJ (isT (SJ.get (.head _))) (Nat.le_of_ble_eq_true rfl) rfl (by decide) (okAll he rfl) ⟨rfl, rfl, fun j v q => by cases q⟩
      (turnOf (W.ext SJ.keep) he ?t2) ?d2 (by intro _ _; rfl)
    case t2 =>
      rintro i v ys led C s₀ s₂ m₂' cenv cown hi hP ⟨rfl, hlen, hys⟩ hle hE hf W₂ he₂ ho₂ S₂
      obtain ⟨tv, rfl⟩ : ∃ t, v = .str (ynS (i == 1)) t := by
        match i, hP with
        | 0, hP => exact ⟨ta1, (Option.some.inj hP).symm⟩
        | 1, hP => exact ⟨ta2, (Option.some.inj hP).symm⟩
      have g1 : m₂' (Str.ofString "answers") = some (.ref aa) := (hf _ rfl).trans (by walk_at "m:look")
      have g2 : m₂' (Str.ofString "spots") = some (.ref R) := (hf _ rfl).trans (by walk_at "m:look")
      have g3 : m₂' (Str.ofString "row") = some (.ref ra) := (hf _ rfl).trans (by walk_at "m:look")
      walk_at "m:go"
      rename_i sK SK
      obtain ⟨rs1, rs2⟩ := range_small (n := avs.length) hal
      refine comp_range (n := avs.length) (fun k ys led => led = [] ∧ IntsAre ys (((List.range k).filter fun k => r.getD k false && (ans.getD k false == (i == 1))).map fun k => (2 : Int) ^ k)) hh SK (isR (SK.keep _ _ (hE _ _ (SJ.get (by walk_at "m:mem"))))) rs1 rs2 (by rw [hav]; exact Nat.le_of_ble_eq_true rfl) rfl (by decide) (okAll he₂ rfl) ⟨rfl, .nil⟩
        (turnOf (W₂.ext SK.keep) he₂ ?t3) ?d3 (by intro _ _; rfl)
      case t3 =>
        rintro k v zs led C' s₀' s₃ m₃ cenv' cown' hk ⟨t, rfl⟩ ⟨rfl, hI⟩ hle' hE' hf' W₃ he₃ ho₃ S₃
        rw [hav] at hk
        have f1 : m₃ (Str.ofString "answers") = some (.ref aa) := (hf' _ rfl).trans (by walk_at "m:look")
        have f2 : m₃ (Str.ofString "row") = some (.ref ra) := (hf' _ rfl).trans (by walk_at "m:look")
        have f3 : m₃ (Str.ofString "kind") = some (.str (ynS (i == 1)) tv) := (hf' _ rfl).trans (by walk_at "m:look")
        have hX : Ext s.heap s₀'.heap := SJ.keep.trans (hE.trans (SK.keep.trans hE'))
        have hr6 : r.length = 6 := hr r (List.mem_of_getElem? hrow)
        walk_at "m:go"
        rename_i sL SL
        refine' n_item k (l := r.map Value.bool) (x := .bool (r.getD k false)) ?q1 ?q2 ?q3 ?q4 ?_ ?q5 ?q6
        case q1 => exact hlr.at fun o q => SL.keep _ _ (hX _ _ q)
        case q2 => rfl
        case q3 => omega
        case q4 =>
          rw [List.getElem?_map, List.getD_eq_getElem?_getD, List.getElem?_eq_getElem (by omega)]
          rfl
        case q5 => with_unfolding_all rfl
        case q6 => intro _; with_unfolding_all rfl
        walk_at "m:go"
        refine ite_b (fun hb => ?_) fun hb => ?_
        · have hak : k < avs.length := by omega
          obtain ⟨b, tb, hb1, hb2⟩ := ha.2 k avs[k] (List.getElem?_eq_getElem hak)
          have hbk : ans.getD k false = b := by rw [List.getD_eq_getElem?_getD, hb1]; rfl
          walk_at "m:go"
          refine' n_item k (l := avs) (x := .str (ynS b) tb) ?q1 ?q2 ?q3 ?q4 ?_ ?q5 ?q6
          case q1 => exact hl.at fun o q => SL.keep _ _ (hX _ _ q)
          case q2 => rfl
          case q3 => omega
          case q4 => rw [List.getElem?_eq_getElem hak, hb2]
          case q5 => with_unfolding_all rfl
          case q6 => intro _; with_unfolding_all rfl
          walk_at "m:go"
          refine ite_b (fun hc => ?_) fun hc => ?_
          · have hf1 : (r.getD k false && (ans.getD k false == (i == 1))) = true := by rw [hb, hbk, ← ynS_eq, hc]; rfl
            walk_at "m:go"
            rename_i SZ
            refine ⟨_, [], SZ, rfl, ?_⟩
            rw [fil_true (f := fun k => r.getD k false && (ans.getD k false == (i == 1))) (g := fun k => (2 : Int) ^ k) hf1, show ((k : Int)).toNat = k by omega]
            exact ints_snoc hI _ _
          · have hf1 : (r.getD k false && (ans.getD k false == (i == 1))) = false := by rw [hb, hbk, ← ynS_eq, hc]; rfl
            walk_at "m:go"
            refine ⟨_, [], SL, rfl, ?_⟩
            rw [fil_false (f := fun k => r.getD k false && (ans.getD k false == (i == 1))) (g := fun k => (2 : Int) ^ k) hf1]
            exact hI
        · have hf1 : (r.getD k false && (ans.getD k false == (i == 1))) = false := by rw [hb]; rfl
          walk_at "m:go"
          refine ⟨_, [], SL, rfl, ?_⟩
          rw [fil_false (f := fun k => r.getD k false && (ans.getD k false == (i == 1))) (g := fun k => (2 : Int) ^ k) hf1]
          exact hI
      case d3 =>
        rintro zs led D e' _ ⟨rfl, hI⟩ s₃ S₃
        rw [hav] at hI
        walk_at "m:go"
        refine o_sum S₃ hh (isL (S₃.get (.head _))) hI fun t s₄ S₄ => ?_
        refine ⟨_, [], S₄.sub (List.nil_sublist _), rfl, by simp [hlen], fun j v hj => ?_⟩
        rcases snoc_get hj with hj | ⟨hjl, rfl⟩
        · exact hys j v hj
        · rw [hjl, hlen]
          exact ⟨t, rfl⟩
    case d2 =>
      rintro ys led D e' hle ⟨rfl, hlen2, hys⟩ sV SV
      obtain ⟨y0, y1, rfl⟩ : ∃ y0 y1, ys = [y0, y1] := by
        match ys, hlen2 with
        | [y0, y1], _ => exact ⟨y0, y1, rfl⟩
      obtain ⟨u0, rfl⟩ := hys 0 y0 rfl
      obtain ⟨u1, rfl⟩ := hys 1 y1 rfl
      walk_at "m:go"
      have hvl : vs.length ≤ sizeLine := by rw [sizeLine_eq]; have := hT2; omega
      refine o_append (SV.bring (pre := [_, _, _])) hvl fun e'' sW SW => ?_
      refine wpAny_execs_nil ?_
      refine ⟨_, _, SW.drop (news' := (a, oo) :: (E0, listOf (vs ++ [Value.ref D]).toArray e'') :: (R, { cls := .type "range", data := .fields #[.int 0 r1, .int (avs.length : Int) r2, .int 1 r3] }) :: (D, listOf #[.int (mSum r ans (0 == 1)) u0, .int (mSum r ans (1 == 1)) u1] e') :: pl) ?p1 ?p2, by walk_at "m:look", by walk_at "m:look", by walk_at "m:look", _, _, _, rfl, by simp [hlen], ?p3⟩
      case p1 =>
        intro p hp
        simp at hp ⊢
        grind
      case p2 =>
        have := SW.nodup
        simp at this ⊢
        grind
      case p3 =>
        intro j v hj
        rcases snoc_get hj with hj | ⟨hjl, rfl⟩
        · obtain ⟨a, t, t', e, x, y, h1, h2, h3⟩ := hP j v hj
          exact ⟨a, t, t', e, x, y, h1, .tail _ h2, h3⟩
        · refine ⟨D, u0, u1, e', _, _, rfl, .head _, ?_⟩
          rw [hjl, hlen]
          unfold eithers
          rw [List.getElem?_map, hrow]
          rfl
  case done =>
    rintro s₂ m₂ n₂ ⟨h1, h2, h3, vs, e, pl, rfl, hlen, hP⟩ S₂
    have hE1 : ∀ v ∈ vs, ∃ a t t' e x y, v = .ref a ∧ (a, listOf #[.int x t, .int y t'] e) ∈ pl := fun v hv => by
      obtain ⟨j, hj, e⟩ := List.getElem_of_mem hv
      obtain ⟨a, t, t', e, x, y, h1, h2, _⟩ := hP j v (by rw [List.getElem?_eq_getElem hj, e])
      exact ⟨a, t, t', e, x, y, h1, h2⟩
    have hvl : vs.length ≤ 5 := by rw [hlen, hT2]; exact hrl
    have hei : (eithers rows ans).length = vs.length := by rw [hlen, hT2]; simp [eithers]
    walk_at "m:go"
    rename_i tz sA SA tb sB SB tc sC SC td sD SD RR q1 q2 q3 sE SE
    have e64 : (2 : Int) ^ ((avs.length : Int)).toNat = ((64 : Nat) : Int) := by rw [hav]; rfl
    obtain ⟨rs1, rs2⟩ := range_small (n := 64) (by decide)
    refine for_range (n := 64) (fun g m' n' => m' (Str.ofString "spots") = some (.ref R) ∧ m' (Str.ofString "either") = some (.ref E0) ∧ (∃ t, m' (Str.ofString "stuck") = some (.int ((List.range g).foldl (stuckStep (eithers rows ans)) 0) t)) ∧
      n' = (E0, listOf vs.toArray e) :: (R, { cls := .type "range", data := .fields #[.int 0 r1, .int (avs.length : Int) r2, .int 1 r3] }) :: pl) hh SE.tail (isR (e64 ▸ SE.get (.head _))) rs1 rs2 ?k0 ?kturn ?kdone
    case k0 => exact ⟨by walk_at "m:look", by walk_at "m:look", ⟨_, by walk_at "m:look"⟩, rfl⟩
    case kturn =>
      rintro g tg s₃ m₃ n₃ a oo hg ⟨g1, g2, ⟨ts, g3⟩, rfl⟩ S₃
      walk_at "m:go"
      rename_i sF SF
      refine comp_list (vs := vs) (fun i ys led => led = [] ∧ (∀ v ∈ ys, v ∈ vs) ∧ ys.isEmpty = !(((eithers rows ans).take i).any (offPair g))) hh SF (isL (SF.get (.tail _ (.head _)))) (by rw [sizeLine_eq]; omega) rfl (by decide) (okAll he rfl) ⟨rfl, fun v q => (by cases q), rfl⟩
        (turnOf (W.ext SF.keep) he ?u2) ?v2 (.inl (by intro _ _; rfl))
      case u2 =>
        rintro i v ys led C s₀ s₄ m₄ cenv cown hi hPv ⟨rfl, hmem, hys⟩ hle hE hf W₂ he₂ ho₂ S₄
        obtain ⟨b, t, t', e', x, y, rfl, hb, hxy⟩ := hP i v hPv
        have f1 : m₄ (Str.ofString "group") = some (.int (g : Int) tg) := (hf _ rfl).trans (by walk_at "m:look")
        have hX : s₀.heap.get? b = some (listOf #[.int x t, .int y t'] e') := hE _ _ (SF.get (.tail _ (.tail _ (.tail _ hb))))
        have htake : ((eithers rows ans).take (i + 1)).any (offPair g) = (((eithers rows ans).take i).any (offPair g) || offPair g (x, y)) := by
          rw [List.take_add_one, hxy, List.any_append]
          simp
        walk_at "m:go"
        rename_i sG SG tt sH SH
        refine' n_item 0 (l := [.int x t, .int y t']) (x := .int x t) ?q1 ?q2 ?q3 ?q4 ?_ ?q5 ?q6
        case q1 => exact isL (SH.keep _ _ hX)
        case q2 => rfl
        case q3 => omega
        case q4 => rfl
        case q5 => with_unfolding_all rfl
        case q6 => intro _; with_unfolding_all rfl
        walk_at "m:go"
        rename_i SI
        refine' n_item 1 (l := [.int x t, .int y t']) (x := .int y t') ?q1 ?q2 ?q3 ?q4 ?_ ?q5 ?q6
        case q1 => exact isL (SI.keep _ _ hX)
        case q2 => rfl
        case q3 => omega
        case q4 => rfl
        case q5 => with_unfolding_all rfl
        case q6 => intro _; with_unfolding_all rfl
        walk_at "m:go"
        refine ite_b (fun hc => ?_) fun hc => ?_
        · walk_at "m:go"
          rename_i SZ _
          refine ⟨_, [], (by assumption), rfl, fun v hv => ?_, ?_⟩
          · rcases List.mem_append.mp hv with hv | hv
            · exact hmem v hv
            · rw [List.mem_singleton.mp hv]
              exact List.mem_of_getElem? hPv
          · rw [htake, show offPair g (x, y) = true from hc]
            simp
        · refine ⟨_, [], (by assumption), rfl, hmem, ?_⟩
          rw [htake, show offPair g (x, y) = false from hc, hys]
          simp
      case v2 =>
        rintro ys led D e' hle ⟨rfl, hmem, hys⟩ sV SV
        walk_at "m:go"
        rename_i NN sW SW
        obtain ⟨ds, as, hd1, hd2, hd3, hd4⟩ := pairs_read (h := sW.heap) (pl := pl) (fun p hp => SW.get (.tail _ (.tail _ (.tail _ (.tail _ (.tail _ hp)))))) (ys := ys) fun v hv => hE1 v (hmem v hv)
        refine n_eq hun (reads_list (SW.get (.tail _ (.head _))) hd4) (reads_list (vs := []) (SW.get (.head _)) .nil) (shaped_list hd2 hd3) (shaped_list (fun _ h => nomatch h) fun _ h => nomatch h) ?_
        have hev : PyData.eqv (.list ds) (.list []) = !((eithers rows ans).any (offPair g)) := by
          rw [PyData.eqv, eqvAll_nil, ← List.take_of_length_le (Nat.le_of_eq hei), ← hys]
          cases ds <;> cases ys <;> simp_all
        rw [hev]
        walk_at "m:go"
        have hfold : (List.range (g + 1)).foldl (stuckStep (eithers rows ans)) 0 = stuckStep (eithers rows ans) ((List.range g).foldl (stuckStep (eithers rows ans)) 0) g := by rw [List.range_succ, List.foldl_append]; rfl
        refine ite_b (fun hc => ?_) fun hc => ?_
        · have hc' : (eithers rows ans).any (offPair g) = false := by simpa using hc
          walk_at "m:go"
          rename_i tk sX0 SX0 sX SX
          have hS : Builtin.bitOr ((List.range g).foldl (stuckStep (eithers rows ans)) 0) (g : Int) = (List.range (g + 1)).foldl (stuckStep (eithers rows ans)) 0 := by
            rw [hfold]
            unfold stuckStep
            rw [hc']
            rfl
          refine ⟨_, _, SX.drop (news' := (a, oo) :: (E0, listOf vs.toArray e) :: (R, { cls := .type "range", data := .fields #[.int 0 r1, .int (avs.length : Int) r2, .int 1 r3] }) :: pl) ?p1 ?p2, by walk_at "m:look", by walk_at "m:look", ⟨tk, by rw [← hS]; walk_at "m:look"⟩, rfl⟩
          case p1 => exact fun p hp => .tail _ (.tail _ hp)
          case p2 =>
            have := SX.nodup
            exact (List.nodup_cons.mp (List.nodup_cons.mp this).2).2
        · have hc' : (eithers rows ans).any (offPair g) = true := by simpa using hc
          walk_at "m:go"
          have hS : (List.range (g + 1)).foldl (stuckStep (eithers rows ans)) 0 = (List.range g).foldl (stuckStep (eithers rows ans)) 0 := by
            rw [hfold]
            unfold stuckStep
            rw [hc']
            rfl
          refine ⟨_, _, SW.drop (news' := (a, oo) :: (E0, listOf vs.toArray e) :: (R, { cls := .type "range", data := .fields #[.int 0 r1, .int (avs.length : Int) r2, .int 1 r3] }) :: pl) ?p4 ?p5, by walk_at "m:look", by walk_at "m:look", ⟨ts, by rw [hS]; walk_at "m:look"⟩, rfl⟩
          case p4 => exact fun p hp => .tail _ (.tail _ hp)
          case p5 =>
            have := SW.nodup
            exact (List.nodup_cons.mp (List.nodup_cons.mp this).2).2
    case kdone =>
      rintro s₃ m₃ n₃ ⟨g1, g2, ⟨ts, g3⟩, rfl⟩ S₃
      walk_at "m:go"
      obtain ⟨rt1, rt2⟩ := range_small (n := avs.length) hal
      refine comp_range (n := avs.length) (fun k ys led => led = [] ∧ IntsAre ys (((List.range k).filter fun k => ((stuckI rows ans).fdiv (2 ^ k)).fmod 2 == 1).map fun k : Nat => (k : Int))) hh S₃ (isR (S₃.get (.tail _ (.head _)))) rt1 rt2 (by rw [hav]; exact Nat.le_of_ble_eq_true rfl) rfl (by decide) (okAll he rfl) ⟨rfl, .nil⟩
        (turnOf (W.ext S₃.keep) he ?t4) ?d4 (by intro _ _; rfl)
      case t4 =>
        rintro k v zs led C' s₀' s₅ m₅ cenv' cown' hk ⟨t, rfl⟩ ⟨rfl, hI⟩ hle' hE' hf' W₅ he₅ ho₅ S₅
        rw [hav] at hk
        have f1 : m₅ (Str.ofString "stuck") = some (.int (stuckI rows ans) ts) := (hf' _ rfl).trans g3
        have hz : (2 : Int) ^ ((k : Int)).toNat ≠ 0 ∧ ((2 : Int) ^ ((k : Int)).toNat).natAbs < 1073741824 := by
          have : k = 0 ∨ k = 1 ∨ k = 2 ∨ k = 3 ∨ k = 4 ∨ k = 5 := by omega
          rcases this with rfl | rfl | rfl | rfl | rfl | rfl <;> decide
        obtain ⟨hz1, hz2⟩ := hz
        walk_at "m:go"
        refine ite_b (fun hc => ?_) fun hc => ?_
        · walk_at "m:go"
          refine ⟨_, [], (by assumption), rfl, ?_⟩
          rw [fil_true (f := fun k => ((stuckI rows ans).fdiv (2 ^ k)).fmod 2 == 1) (g := fun k : Nat => (k : Int)) (by simpa using hc)]
          exact ints_snoc hI _ _
        · refine ⟨_, [], (by assumption), rfl, ?_⟩
          rw [fil_false (f := fun k => ((stuckI rows ans).fdiv (2 ^ k)).fmod 2 == 1) (g := fun k : Nat => (k : Int)) (by simpa using hc)]
          exact hI
      case d4 =>
        rintro ys led D e' hle ⟨rfl, hI⟩ sV SV
        rw [hav] at hI
        obtain ⟨x1, x2, _, _⟩ := SV.made _ (.head _)
        exact h _ D ys e' SV.go SV.keep x2 x1 hI
end
-- L1
section
variable {w : World} {A : Around} {s : Shared} {mean : ExcName → Option Value} {mg mb : Str → Option Value} {Q E : Value → Shared → Prop}
theorem fill1 : (Mine.hd.heap_39 w.params).In s.heap → model PySem.Challenge.rw_tc0037_01.row.prog w = model PySem.Challenge.rw_tc0037_01.row.prog w := by
  k_fill
  intro _
  rfl
def OptV (o : Option Str) (v : Value) : Prop := match o with
  | none => v = .none
  | some x => ∃ t, v = .str x t
def langs : List (Option Str) := [none, some (Str.ofString "a"), some (Str.ofString "b"), some (Str.ofString "ab"), some (Str.ofString "ba"), some (Str.ofString "aba")]
def encs : List (Option Str) := [none, some (Str.ofString "a"), some (Str.ofString "b"), some (Str.ofString "ab"), some (Str.ofString "ba"), some (Str.ofString "")]
def fronts : List Str := [Str.ofString "", Str.ofString "a", Str.ofString "b", Str.ofString "ab", Str.ofString "C", Str.ofString "ba"]
def ends : List Str := [Str.ofString "", Str.ofString "a", Str.ofString "b", Str.ofString "ab", Str.ofString ".a", Str.ofString ".b"]
def langAt (n : Int) : Option Str := langs.getD (n.fmod 6).toNat none
def encAt (n : Int) : Option Str := encs.getD ((n.fdiv 6).fmod 6).toNat none
def frontAt (n : Int) : Str := fronts.getD ((n.fdiv 72).fmod 6).toNat (Str.ofString "")
def endAt (n : Int) : Str := ends.getD ((n.fdiv 432).fmod 6).toNat (Str.ofString "")
theorem six (k : Int) : ∃ j : Nat, k.fmod 6 = (j : Int) ∧ j < 6 := by
  have h1 : 0 ≤ k.fmod 6 := Int.fmod_nonneg_of_pos k (by decide)
  have h2 : k.fmod 6 < 6 := Int.fmod_lt_of_pos k (by decide)
  exact ⟨(k.fmod 6).toNat, by omega, by omega⟩
theorem law_pair_c (W : Wd w mean mg mb s.heap) (hA : Ok A 2) {n : Int} {t : Tok}
    (h : ∀ s' a x y, Go s s' → Ext s.heap s'.heap → s.heap.get? a = none → s'.heap.get? a = some { cls := .type "tuple", data := .seq #[x, y] } → OptV (langAt n) x → OptV (encAt n) y → Q (.ref a) s') :
    wpAny (model PG w) A (call (.ref 203) [.int n t] []) Q E s := by
  walk_at "m:enter"
  case md => exact Nat.lt_of_le_of_lt (Nat.le_add_right _ _) hA.dp
  intro L s₁ env own m hm he ho S
  have hh : A.handled = none := hA.hd
  have hm1 : m (Str.ofString "number") = some (.int n t) := hm _ _ rfl
  clear hm
  (try k_unmd)
  k_fold
  walk_at "m:run"
  rename_i t1 s1 S1 t2 s2 S2 t3 s3 S3 t4 s4 S4 t5 s5 S5 T1 s6 S6 t7 s7 S7 t8 s8 S8
  obtain ⟨j, hj, hj6⟩ := six n
  obtain ⟨x, hx, hxv⟩ : ∃ v, [.none, .str (Str.ofString "a") t1, .str (Str.ofString "b") t2, .str (Str.ofString "ab") t3, .str (Str.ofString "ba") t4, .str (Str.ofString "aba") t5][j]? = some v ∧ OptV (langAt n) v := by
    unfold langAt
    rw [hj]
    have : j = 0 ∨ j = 1 ∨ j = 2 ∨ j = 3 ∨ j = 4 ∨ j = 5 := by omega
    rcases this with rfl | rfl | rfl | rfl | rfl | rfl
    · exact ⟨_, rfl, rfl⟩
    all_goals exact ⟨_, rfl, _, rfl⟩
  refine' n_titem j ?p1 hj ?p2 hx ?_ ?p3
  case p1 => exact isT (S8.get (.head _))
  case p2 => omega
  case p3 => with_unfolding_all rfl
  walk_at "m:run"
  rename_i s9 S9 t10 s10 S10 t11 s11 S11 t12 s12 S12 t13 s13 S13 t14 s14 S14 T2 s15 S15 t16 s16 S16 t17 s17 S17 t18 s18 S18 t19 s19 S19
  obtain ⟨k, hk, hk6⟩ := six (n.fdiv 6)
  obtain ⟨y, hy, hyv⟩ : ∃ v, [.none, .str (Str.ofString "a") t10, .str (Str.ofString "b") t11, .str (Str.ofString "ab") t12, .str (Str.ofString "ba") t13, .str (Str.ofString "") t14][k]? = some v ∧ OptV (encAt n) v := by
    unfold encAt
    rw [hk]
    have : k = 0 ∨ k = 1 ∨ k = 2 ∨ k = 3 ∨ k = 4 ∨ k = 5 := by omega
    rcases this with rfl | rfl | rfl | rfl | rfl | rfl
    · exact ⟨_, rfl, rfl⟩
    all_goals exact ⟨_, rfl, _, rfl⟩
  refine' n_titem k ?p1 hk ?p2 hy ?_ ?p3
  case p1 => exact isT (S19.get (.head _))
  case p2 => omega
  case p3 => with_unfolding_all rfl
  walk_at "m:run"
  rename_i T3 s20 S20
  obtain ⟨x1, x2, _, _⟩ := S20.made _ (.head _)
  exact h _ T3 x y S20.go S20.keep x2 x1 hxv hyv
theorem law_ends_c (W : Wd w mean mg mb s.heap) (hA : Ok A 2) {n : Int} {t : Tok}
    (h : ∀ s' a t1 t2, Go s s' → Ext s.heap s'.heap → s.heap.get? a = none → s'.heap.get? a = some { cls := .type "tuple", data := .seq #[.str (frontAt n) t1, .str (endAt n) t2] } → Q (.ref a) s') :
    wpAny (model PG w) A (call (.ref 210) [.int n t] []) Q E s := by
  walk_at "m:enter"
  case md => exact Nat.lt_of_le_of_lt (Nat.le_add_right _ _) hA.dp
  intro L s₁ env own m hm he ho S
  have hh : A.handled = none := hA.hd
  have hm1 : m (Str.ofString "number") = some (.int n t) := hm _ _ rfl
  clear hm
  (try k_unmd)
  k_fold
  walk_at "m:run"
  rename_i t0 s0 S0 t1 s1 S1 t2 s2 S2 t3 s3 S3 t4 s4 S4 t5 s5 S5 T1 s6 S6 t7 s7 S7 t9 s9 S9 t10 s10 S10 t8 s8 S8
  obtain ⟨j, hj, hj6⟩ := six (n.fdiv 72)
  obtain ⟨x, hx, ux, rfl⟩ : ∃ v : Value, [Value.str (Str.ofString "") t0, .str (Str.ofString "a") t1, .str (Str.ofString "b") t2, .str (Str.ofString "ab") t3, .str (Str.ofString "C") t4, .str (Str.ofString "ba") t5][j]? = some v ∧ ∃ u, v = .str (frontAt n) u := by
    unfold frontAt
    rw [hj]
    have : j = 0 ∨ j = 1 ∨ j = 2 ∨ j = 3 ∨ j = 4 ∨ j = 5 := by omega
    rcases this with rfl | rfl | rfl | rfl | rfl | rfl
    all_goals exact ⟨_, rfl, _, rfl⟩
  refine' n_titem j ?p1 hj ?p2 hx ?_ ?p3
  case p1 => exact isT (S8.get (.head _))
  case p2 => omega
  case p3 => with_unfolding_all rfl
  walk_at "m:run"
  rename_i s20 S20 t20 s20 S20 t10 s10 S10 t11 s11 S11 t12 s12 S12 t13 s13 S13 t14 s14 S14 T2 s15 S15 t16 s16 S16 t17 s17 S17 t18 s18 S18 t19 s19 S19
  obtain ⟨k, hk, hk6⟩ := six (n.fdiv 432)
  obtain ⟨y, hy, uy, rfl⟩ : ∃ v : Value, [Value.str (Str.ofString "") t20, .str (Str.ofString "a") t10, .str (Str.ofString "b") t11, .str (Str.ofString "ab") t12, .str (Str.ofString ".a") t13, .str (Str.ofString ".b") t14][k]? = some v ∧ ∃ u, v = .str (endAt n) u := by
    unfold endAt
    rw [hk]
    have : k = 0 ∨ k = 1 ∨ k = 2 ∨ k = 3 ∨ k = 4 ∨ k = 5 := by omega
    rcases this with rfl | rfl | rfl | rfl | rfl | rfl
    all_goals exact ⟨_, rfl, _, rfl⟩
  refine' n_titem k ?p1 hk ?p2 hy ?_ ?p3
  case p1 => exact isT (S19.get (.head _))
  case p2 => omega
  case p3 => with_unfolding_all rfl
  walk_at "m:run"
  rename_i T3 s30 S30
  obtain ⟨x1, x2, _, _⟩ := S30.made _ (.head _)
  exact h _ T3 _ _ S30.go S30.keep x2 x1
def nameOf (l e : Option Str) : Str := match e with
  | none => l.getD (Str.ofString "C")
  | some y => l.getD (Str.ofString "C") ++ Str.ofString "." ++ y
def Sh (o : Option Str) : Prop := ∀ x, o = some x → x.length ≤ 100
theorem slz : 1000 ≤ sizeLine := by rw [sizeLine_eq]; decide
theorem law_named_c (W : Wd w mean mg mb s.heap) (hA : Ok A 2) {l e : Option Str} {x y : Value} (hx : OptV l x) (hy : OptV e y) (hl : Sh l) (hE : Sh e)
    (h : ∀ s' t, Go s s' → Ext s.heap s'.heap → Q (.str (nameOf l e) t) s') :
    wpAny (model PG w) A (call (.ref 217) [x, y] []) Q E s := by
  walk_at "m:enter"
  case md => exact Nat.lt_of_le_of_lt (Nat.le_add_right _ _) hA.dp
  intro L s₁ env own m hm he ho S
  have hh : A.handled = none := hA.hd
  have hm1 : m (Str.ofString "language") = some x := hm _ _ rfl
  have hm2 : m (Str.ofString "encoding") = some y := hm _ _ rfl
  clear hm
  (try k_unmd)
  k_fold
  have hz := slz
  have fin : ∀ {s' m' n' t}, Sta s env own s' m' n' → Q (.str (nameOf l e) t) s' := fun S => h _ _ S.go S.keep
  have hd : (Str.ofString ".").length = 1 := by decide
  have hC : (Str.ofString "C").length = 1 := by decide
  cases l with
  | none =>
    obtain rfl := hx
    cases e with
    | none =>
      obtain rfl := hy
      walk_at "m:run"
      exact fin (by assumption)
    | some y0 =>
      obtain ⟨uy, rfl⟩ := hy
      have hy0 := hE y0 rfl
      have hcat : (Str.ofString "C" ++ Str.ofString ".").length = 2 := by decide
      walk_at "m:run"
      exact fin (by assumption)
  | some x0 =>
    obtain ⟨ux, rfl⟩ := hx
    have hx0 := hl x0 rfl
    cases e with
    | none =>
      obtain rfl := hy
      walk_at "m:run"
      exact fin (by assumption)
    | some y0 =>
      obtain ⟨uy, rfl⟩ := hy
      have hy0 := hE y0 rfl
      have hcat : (x0 ++ Str.ofString ".").length = x0.length + 1 := by rw [size_cat, hd]
      walk_at "m:run"
      exact fin (by assumption)
def fitsB (f e n : Str) : Bool := decide ((n.length : Int) - f.length - e.length ≥ 0) && (Txt.slice n none (some f.length) == f) && (Txt.slice n (some (f.length + ((n.length : Int) - f.length - e.length))) none == e)
theorem law_fits_c (W : Wd w mean mg mb s.heap) (hA : Ok A 2) {x y z : Str} {t u r : Tok} (hx : x.length ≤ 100) (hy : y.length ≤ 100) (hz : z.length ≤ 1000)
    (h : ∀ s', Go s s' → Ext s.heap s'.heap → Q (.bool (fitsB x y z)) s') :
    wpAny (model PG w) A (call (.ref 224) [.str x t, .str y u, .str z r] []) Q E s := by
  walk_at "m:enter"
  case md => exact Nat.lt_of_le_of_lt (Nat.le_add_right _ _) hA.dp
  intro L s₁ env own m hm he ho S
  have hh : A.handled = none := hA.hd
  have hm1 : m (Str.ofString "front") = some (.str x t) := hm _ _ rfl
  have hm2 : m (Str.ofString "end") = some (.str y u) := hm _ _ rfl
  have hm3 : m (Str.ofString "name") = some (.str z r) := hm _ _ rfl
  clear hm
  (try k_unmd)
  k_fold
  have hsz := slz
  walk_at "m:run"
  refine ite_b (fun c1 => ?_) fun c1 => ?_
  · walk_at "m:run"
    refine ite_b (fun c2 => ?_) fun c2 => ?_
    · walk_at "m:run"
      rename_i S9
      have e : fitsB x y z = (Txt.slice z (some (x.length + ((z.length : Int) - x.length - y.length))) none == y) := by
        unfold fitsB
        rw [c1, c2]
        simp
      have q := h _ S9.go S9.keep
      rw [e] at q
      exact q
    · rename_i S9
      have e : fitsB x y z = false := by
        unfold fitsB
        rw [c2]
        simp
      have q := h _ S9.go S9.keep
      rw [e, ← c2] at q
      exact q
  · rename_i S9
    have e : fitsB x y z = false := by
      unfold fitsB
      rw [c1]
      simp
    have q := h _ S9.go S9.keep
    rw [e, ← c1] at q
    exact q
def collI (a b : Str) : Int := (if decide (b.cps.toList < a.cps.toList) = true then 1 else 0) - (if decide (a.cps.toList < b.cps.toList) = true then 1 else 0)
theorem strcoll_c (W : Wd w mean mg mb s.heap) (hA : Ok A 2) {x y : Str} {t u : Tok}
    (h : ∀ s' t, Go s s' → Ext s.heap s'.heap → Q (.int (collI x y) t) s') :
    wpAny (model PG w) A (call (.ref 52) [.str x t, .str y u] []) Q E s := by
  walk_at "m:enter"
  case md => exact Nat.lt_of_le_of_lt (Nat.le_add_right _ _) hA.dp
  intro L s₁ env own m hm he ho S
  have hh : A.handled = none := hA.hd
  have hm1 : m (Str.ofString "a") = some (.str x t) := hm _ _ rfl
  have hm2 : m (Str.ofString "b") = some (.str y u) := hm _ _ rfl
  clear hm
  (try k_unmd)
  k_fold
  walk_at "m:run"
  rename_i S9
  exact h _ _ S9.go S9.keep
end
-- L2
section
section
variable {prog : Program} {w : World} {A : Around} {E : Value → Shared → Prop} {s : Shared}
theorem draw_list {it t : Addr} {items : Array Value} (hne : t ≠ it) : ∀ (n i : Nat) (s : Shared) (Q : List Value → Shared → Prop), s.heap.IsListIter it t i → s.heap.IsList t items → i + n ≤ items.size →
    (∀ h' : Heap, h'.IsListIter it t (i + n) → Heap.SameBut it s.heap h' → Q ((items.toList.drop i).take n) { s with heap := h' }) → wpAny (model prog w) A (draw (.ref it) n) Q E s
  | 0, i, s, Q, hit, _, _, hQ => by
    show wpAny _ _ (pure []) Q E s
    exact wpAny_pure (by simpa using hQ s.heap hit (Heap.SameBut.refl ..))
  | n + 1, i, s, Q, hit, ht, hle, hQ => by
    have hlt : i < items.size := by omega
    show wpAny _ _ (pyNext (.ref it) >>= _) Q E s
    refine wpAny_bind (wpAny_pyNext_list_item hit ht (x := items[i]) (by simp [hlt]) fun h₁ hit₁ hs₁ => ?_)
    refine wpAny_bind (wpAny_holding (draw_list hne n (i + 1) _ _ hit₁ (ht.extBut hs₁.extBut hne) (by omega) fun h₂ hit₂ hs₂ => wpAny_pure ?_))
    have hd : items.toList.drop i = items[i] :: items.toList.drop (i + 1) := by simp [List.drop_eq_getElem_cons, hlt]
    have := hQ h₂ (by rw [show i + (n + 1) = i + 1 + n by omega]; exact hit₂) (hs₁.trans hs₂)
    rw [hd, List.take_succ_cons] at this
    exact this
theorem unpackItems_list {t : Addr} {items : Array Value} {Q : List Value → Shared → Prop} (hh : A.handled = none) (ht : s.heap.IsList t items)
    (hQ : ∀ h', Heap.ExtBut s.heap.objs.size s.heap h' → Q items.toList { s with heap := h' }) : wpAny (model prog w) A (unpackItems (.ref t) items.size none) Q E s := by
  have hlt : t ≠ s.heap.objs.size := by obtain ⟨o, ho, _⟩ := ht; exact Nat.ne_of_lt (Heap.lt_size ho)
  have hpush : (s.heap.push { cls := .type "list_iterator", data := .fields #[.ref t, .int 0 0] }).IsList t items := ht.at fun o e => Heap.get?_push_of_some _ e
  unfold unpackItems
  refine wpAny_bind ?_
  · unfold notIterableAtAll
    refine wpAny_bind (wpAny_specialOf ht.typeIs slot_list_iter.lookup ?_)
    refine wpAny_pure ?_
    simp only [Bool.false_eq_true, if_false]
    refine wpAny_bind (wpAny_holding (wpAny_pyIter_list ht ?_))
    refine wpAny_bind (wpAny_holding (draw_list hlt items.size 0 _ _ ⟨_, Heap.get?_push_size _ rfl, rfl, rfl⟩ hpush (by omega) fun h₁ hit₁ hs₁ => ?_))
    have hall : List.take items.size (List.drop 0 items.toList) = items.toList := by
      rw [List.drop_zero]; exact List.take_of_length_le (by simp)
    rw [hall]
    rw [if_neg (by simp)]
    have ht₁ : h₁.IsList t items := hpush.extBut hs₁.extBut hlt
    refine wpAny_bind (wpAny_holding (wpAny_pyNext_list_end hh hit₁ ht₁ (by simp) fun h₂ he₂ => ?_))
    simp only [Option.isSome_none, Bool.false_eq_true, if_false]
    refine wpAny_pure (hQ h₂ fun b o hb e => he₂ b o hb (hs₁.extBut b o hb (Heap.get?_push_of_some _ e)))
variable {s₀ : Shared} {env : Env} {own : List (Str × Addr)} {m : Str → Option Value} {news : List (Addr × Obj)} {pos : Pos}
theorem o_unpackL {elts : List Expr} {k : Nat} {t : Addr} {vs : List Value} {Q : Unit → Shared → Prop} (S : Sta s₀ env own s m news) (hh : A.handled = none) (ht : s.heap.IsList t vs.toArray)
    (hn : (assignEach elts env).length = vs.length) (hstar : (assignEach elts env).findIdx? (·.1) = none)
    (h : Nx s₀ env own m news fun s' => wpAny (model prog w) A (assignInOrder ((assignEach elts env).map (·.2)) vs) Q E s') : wpAny (model prog w) A (assign (.Tuple elts k pos) env (.ref t)) Q E s := by
  rw [PyProof.Rows.assign_Tuple]
  refine wpAny_bind (wpAny_standAt ?_)
  unfold unpack
  rw [show (assignEach elts env).length = vs.toArray.size by simpa using hn, hstar]
  exact wpAny_bind (wpAny_holding (unpackItems_list hh ht fun h' he => by simpa using h _ (S.grow Go.heap fun b o e => he b o (Nat.ne_of_lt (Heap.lt_size e)) e)))
end
section
variable {w : World} {A : Around} {s : Shared} {mean : ExcName → Option Value} {mg mb : Str → Option Value} {Q E : Value → Shared → Prop}
theorem localename_c (W : Wd w mean mg mb s.heap) (hA : Ok A 2) {l e : Option Str} {p : Addr} {x y : Value} (hp : IsTup s.heap p #[x, y] ∨ s.heap.IsList p #[x, y]) (hx : OptV l x) (hy : OptV e y) (hl : Sh l) (hE : Sh e)
    (h : ∀ s' t, Go s s' → Ext s.heap s'.heap → Q (.str (nameOf l e) t) s') :
    wpAny (model PG w) A (call (.ref 59) [.ref p] []) Q E s := by
  walk_at "m:enter"
  case md => exact Nat.lt_of_le_of_lt (Nat.le_add_right _ _) hA.dp
  intro L s₁ env own m hm he ho S
  have hh : A.handled = none := hA.hd
  have hm1 : m (Str.ofString "localetuple") = some (.ref p) := hm _ _ rfl
  clear hm
  (try k_unmd)
  k_fold
  have hz := slz
  have hd : (Str.ofString ".").length = 1 := by decide
  have hC : (Str.ofString "C").length = 1 := by decide
  have fin : ∀ {s' m' n' t}, Sta s env own s' m' n' → Q (.str (nameOf l e) t) s' := fun S => h _ _ S.go S.keep
  refine wpAny_execs_cons ?_
  refine wpAny_Try_except ?_
  walk_at "m:run"
  have key : ∀ {elts : List Expr} {k : Nat} {pos : Pos} {R : Unit → Shared → Prop} {E' : Value → Shared → Prop}, (assignEach elts env).length = [x, y].length → (assignEach elts env).findIdx? (·.1) = none →
      Nx s env own m [] (fun s' => wpAny (model PG w) (A.deeper env) (assignInOrder ((assignEach elts env).map (·.2)) [x, y]) R E' s') → wpAny (model PG w) (A.deeper env) (assign (.Tuple elts k pos) env (.ref p)) R E' s₁ := by
    intro elts k pos R E' h1 h2 h3
    rcases hp with hp | hp
    · exact o_unpack S hA.hd (hp.keeps S.keep) h1 h2 h3
    · exact o_unpackL S hA.hd (hp.at fun o q => S.keep _ _ q) h1 h2 h3
  refine key rfl rfl fun s2 S2 => ?_
  walk_at "m:run"
  cases l with
  | none =>
    obtain rfl := hx
    cases e with
    | none =>
      obtain rfl := hy
      walk_at "m:run"
      exact fin (by assumption)
    | some y0 =>
      obtain ⟨uy, rfl⟩ := hy
      have hy0 := hE y0 rfl
      have hcat : (Str.ofString "C" ++ Str.ofString ".").length = 2 := by decide
      walk_at "m:run"
      exact fin (by assumption)
  | some x0 =>
    obtain ⟨ux, rfl⟩ := hx
    have hx0 := hl x0 rfl
    cases e with
    | none =>
      obtain rfl := hy
      walk_at "m:run"
      exact fin (by assumption)
    | some y0 =>
      obtain ⟨uy, rfl⟩ := hy
      have hy0 := hE y0 rfl
      have hcat : (x0 ++ Str.ofString ".").length = x0.length + 1 := by rw [size_cat, hd]
      walk_at "m:run"
      exact fin (by assumption)
end
end
-- L3
section
open PySem.Builtin PySem.Builtin.Str
section
variable {M : Model} {prog : Program} {w : World} {A : Around} {E : Value → Shared → Prop} {s₀ s : Shared} {env lit : Env} {own : List (Str × Addr)} {m : Str → Option Value} {news : List (Addr × Obj)} {Q : Value → Shared → Prop} {a b : Int} {t u : Tok} {x y : Str} {v : Value} {pos : Pos}
theorem n_load (S : Sta s₀ env own s m news) (he : EnvIs env lit) (hk : lit.scope.kind = .function) (hx : lit.kindOf x = some .local) (hv : m x = some v) (h : Q v s) : wpAny M A (loadName env x) Q E s := by
  obtain ⟨rfl⟩ := he
  obtain ⟨ml, n1, n2⟩ := S.ns
  exact wpAny_loadName_local hk hx n1 ((n2 x hx).trans hv) h
theorem o_split (S : Sta s₀ env own s m news) (hy : (y.length == 0) = false) (hsz : x.length ≤ sizeLine) (hsz2 : (partsBetween x (occurrences x y 0 x.length (x.length + 1)) y.length).length ≤ sizeLine)
    (hq : ∀ D l, l.map (·.1) = Txt.split x y → Nx s₀ env own m ((D, listOf (strValues l).toArray 0) :: news) (Q (.ref D))) : wpAny (model prog w) A (call (.builtin "str.split") [.str x t, .str y u]) Q E s := by
  cases h1 : (decide (x.length < y.length) || decide (strKind x < strKind y))
  · cases hf : (occurrences x y 0 x.length (x.length + 1)).isEmpty
    · refine call_meets F.slot_str_split (typeIs_str _ _ _) F.entry_str_split (F.args_str_split_2 _ _) (meets_str_split_sep x y t u h1 hy hf hsz hsz2) ?_
      show wants Q E _ { s with toks := _, heap := s.heap.push { cls := .type "list", data := .seq (strsFrom s.toks (partsBetween x (occurrences x y 0 x.length (x.length + 1)) y.length)).toArray } }
      rw [strsFrom_eq]
      exact hq _ (numbered s.toks _) ((numbered_texts _ _).trans ((if_neg (ne_true_of_eq_false h1)).trans (if_neg (ne_true_of_eq_false hf))).symm) _ ((S.push (listOf (strValues (numbered s.toks (partsBetween x (occurrences x y 0 x.length (x.length + 1)) y.length))).toArray 0)).toks _)
    · exact call_meets F.slot_str_split (typeIs_str _ _ _) F.entry_str_split (F.args_str_split_2 _ _) (meets_str_split_not_found x y t u h1 hy hf)
        (hq _ [(x, t)] ((if_neg (ne_true_of_eq_false h1)).trans (if_pos hf)).symm _ (S.push (listOf (strValues [(x, t)]).toArray 0)))
  · exact call_meets F.slot_str_split (typeIs_str _ _ _) F.entry_str_split (F.args_str_split_2 _ _) (meets_str_split_cannot_occur x y t u h1)
      (hq _ [(x, t)] (if_pos h1).symm _ (S.push (listOf (strValues [(x, t)]).toArray 0)))
theorem o_del {D : Addr} {l : List Value} {n : Nat} {i : Int} {k : Nat} {Q : Unit → Shared → Prop} (S : Sta s₀ env own s m ((D, listOf l.toArray n) :: news)) (hfit : Builtin.List.listFitsIndex i = true) (hk : seqIndex? i l.length = some k) (hsz : l.length ≤ sizeLine)
    (h : Nx s₀ env own m ((D, listOf (l.eraseIdx k).toArray (n + 1)) :: news) (Q ())) : wpAny (model prog w) A (delItem (.ref D) (.int i u)) Q E s :=
  delItem_at (its := l.toArray) (S.get (.head _)) hfit (by simpa using hk) (fun h' hs ho => h _ (S.put Go.heap hs (by simpa using ho))) (by simpa using hsz)
end
end
local macro_rules | `(tactic| walk_at "m:execmore") => `(tactic| first
  | ((with_reducible show wpAny _ _ (exec (Stmt.Assert _ _ _) _) _ _ _); refine wpAny_Assert_holds ?_)
  | ((with_reducible show wpAny _ _ (exec (Stmt.Delete _ _) _) _ _ _); refine wpAny_Delete ?_)
  | ((with_reducible show wpAny _ _ (exec (Stmt.AugAssign (Expr.Name _ _) _ _ _) _) _ _ _); refine wpAny_AugAssign_Name ?_))
local macro_rules | `(tactic| walk_at "m:3") => `(tactic| first
  | walk_at "m:2"
  | ((with_reducible show wpAny _ _ (exec _ _) _ _ _); walk_at "m:execmore")
  | ((with_reducible show wpAny _ _ (deleteEach [] _) _ _ _); refine wpAny_deleteEach_nil ?_)
  | ((with_reducible show wpAny _ _ (deleteEach (_ :: _) _) _ _ _); refine wpAny_deleteEach_cons ?_)
  | ((with_reducible show wpAny _ _ (delete (Expr.Subscript _ _ _) _) _ _ _); refine wpAny_delete_Subscript ?_)
  | ((with_reducible show wpAny _ _ (loadName _ _) _ _ _); refine' n_load ?mS ?me ?mk ?mx ?mv ?_; (case mS => walk_at "m:S"); (case me => walk_at "m:S"); (case mk => exact rfl); (case mx => exact rfl); (case mv => walk_at "m:look"))
  | ((with_reducible show wpAny _ _ (subscriptTail _ _ (Value.ref _) (Value.int _ _)) _ _ _); first
     | (refine' n_litem 0 ?p1 ?p2 ?p3 ?p4 ?_ ?p5; (case p1 => exact isL (Sta.get (by with_reducible assumption) (by walk_at "m:mem"))); (case p2 => exact rfl); (case p3 => decide); (case p4 => exact rfl); (case p5 => with_unfolding_all rfl))))
local macro_rules | `(tactic| walk_at "m:runs") => `(tactic| repeat (walk_at "m:3"))
section
open PySem.Builtin PySem.Builtin.Str
theorem fromIndex_nat (n i : Nat) : fromIndex n (i : Int) = i := by
  unfold fromIndex
  first | (split <;> omega) | omega | simp
theorem occ_full (s sub : Str) (hi : Nat) : ∀ (l : List Nat) (st : Array Nat × Nat), st.fst.size = 1 → (forIn l st (StrLaws.occBody s sub hi 1)).run.fst = st.fst
  | [], st, h => rfl
  | a :: l, st, h => by
    rw [List.forIn_cons]
    unfold StrLaws.occBody
    rw [if_neg (by rw [h]; simp)]
    exact occ_full s sub hi l st h
theorem find4_nil (x : Str) {i j : Nat} (h : i ≤ j) (hj : j ≤ x.length) : find4 x (Str.ofString "") i j = i := by
  unfold find4
  rw [fromIndex_nat, fromIndex_nat, Nat.min_eq_left hj, StrLaws.occ_eq]
  have : List.range' i (j + 1 - i) = i :: List.range' (i + 1) (j - i) := by rw [show j + 1 - i = (j - i) + 1 by omega, List.range'_succ]
  rw [this, List.forIn_cons]
  have hs : subAt x (Str.ofString "") i = true := by
    unfold subAt
    have : (Str.ofString "").length = 0 := by decide
    rw [this]
    have h2 : (Str.ofString "").cps = #[] := by decide
    rw [h2]
    simp
    exact Nat.min_le_left ..
  have hb : StrLaws.occBody x (Str.ofString "") j 1 i (#[], i) = pure (ForInStep.yield (#[i], i + (Str.ofString "").length)) := by
    unfold StrLaws.occBody
    rw [if_pos ⟨⟨⟨by simp, Nat.le_refl _⟩, by
      have : (Str.ofString "").length = 0 := by decide
      rw [this]
      exact h⟩, hs⟩]
    rfl
  rw [hb]
  show (match (forIn (List.range' (i + 1) (j - i)) (#[i], i + (Str.ofString "").length) (StrLaws.occBody x (Str.ofString "") j 1)).run.fst.toList with | k :: _ => (k : Int) | [] => -1) = _
  rw [occ_full _ _ _ _ _ rfl]

def noStr (x : Str) : Bool := x.length == 0
def matchB (f e n : Str) : Bool := (noStr f || Txt.startswith n f) && (noStr e || Txt.endswith n e) && decide ((f.length : Int) ≤ n.length - e.length)
section
variable {w : World} {A : Around} {s : Shared} {mean : ExcName → Option Value} {mg mb : Str → Option Value} {Q E : Value → Shared → Prop}
theorem str_nil {x : Str} (h : x.length = 0) : x = Str.ofString "" := by
  obtain ⟨a⟩ := x
  have : a = #[] := Array.eq_empty_of_size_eq_zero h
  subst this
  decide
theorem len_zero {x : Str} (h : ((x.length : Int) != 0) = false) : x.length = 0 := by
  have : (x.length : Int) = 0 := by simpa using h
  omega
theorem len_pos {x : Str} (h : ((x.length : Int) != 0) = true) : x.length ≠ 0 := by
  have : (x.length : Int) ≠ 0 := by simpa using h
  omega
theorem ellipsis_c (W : Wd w mean mg mb s.heap) (hA : Ok A 2) {f e p n : Str} {t u : Tok} (hc : Txt.contains p (Str.ofString "...") = true) (hs : Txt.split p (Str.ofString "...") = [f, e])
    (hsz : (partsBetween p (occurrences p (Str.ofString "...") 0 p.length (p.length + 1)) (Str.ofString "...").length).length ≤ 1000) (hp : p.length ≤ 1000) (hf : f.length ≤ 100) (hE : e.length ≤ 100) (hn : n.length ≤ 1000)
    (h : ∀ s', Go s s' → Ext s.heap s'.heap → Q (.bool (matchB f e n)) s') :
    wpAny (model PG w) A (call (.ref 45) [.str p t, .str n u] []) Q E s := by
  walk_at "m:enter"
  case md => exact Nat.lt_of_le_of_lt (Nat.le_add_right _ _) hA.dp
  intro L s₁ env own m hm he ho S
  have hh : A.handled = none := hA.hd
  have hm1 : m (Str.ofString "want") = some (.str p t) := hm _ _ rfl
  have hm2 : m (Str.ofString "got") = some (.str n u) := hm _ _ rfl
  clear hm
  (try k_unmd)
  k_fold
  have hz := slz
  have fin : ∀ {s' m' n' b}, Sta s env own s' m' n' → b = matchB f e n → Q (.bool b) s' := fun S q => q ▸ h _ S.go S.keep
  walk_at "m:run"
  refine ite_b (fun c => ?_) fun c => ?_
  · rw [hc] at c
    cases c
  walk_at "m:runs"
  have h3 : (Str.ofString "...").length = 3 := by decide
  refine o_split (by assumption) (by decide) (by omega) (Nat.le_trans hsz hz) fun D l hl s2 S2 => ?_
  rw [hs] at hl
  obtain ⟨t1, t2, rfl⟩ : ∃ t1 t2, l = [(f, t1), (e, t2)] := by
    match l, hl with
    | [(a, t1), (b, t2)], hl =>
      simp at hl
      exact ⟨t1, t2, by rw [hl.1, hl.2]⟩
  have e2 : strValues [(f, t1), (e, t2)] = [.str f t1, .str e t2] := rfl
  rw [e2] at S2
  walk_at "m:runs"
  refine ⟨rfl, ?_⟩
  walk_at "m:runs"
  have h0 : (Str.ofString "").length = 0 := by decide
  refine ite_b (fun c1 => ?_) fun c1 => ?_
  · walk_at "m:runs"
    have c1' := len_pos c1
    refine ite_b (fun c2 => ?_) fun c2 => ?_
    · walk_at "m:runs"
      rename_i S4
      refine o_del (l := [.str f t1, .str e t2]) (k := 0) S4.tail rfl rfl (Nat.le_trans (Nat.le_of_ble_eq_true rfl) hz) fun s5 S5 => ?_
      walk_at "m:runs"
      refine' n_lneg (l := [.str e t2]) 0 ?p1x1 ?p2x1 ?p3x1 ?p4x1 ?p5x1 ?_ ?p6x1
      case p1x1 => exact isL (Sta.get (by assumption) (.head _))
      case p2x1 => rfl
      case p3x1 => decide
      case p4x1 => rfl
      case p5x1 => exact Nat.le_of_ble_eq_true rfl
      case p6x1 => with_unfolding_all rfl
      walk_at "m:runs"
      refine ite_b (fun c3 => ?_) fun c3 => ?_
      · walk_at "m:runs"
        have c3' := len_pos c3
        refine ite_b (fun c4 => ?_) fun c4 => ?_
        · walk_at "m:runs"
          rename_i S4
          refine o_del (l := [.str e t2]) (k := 0) S4 rfl rfl (Nat.le_trans (Nat.le_of_ble_eq_true rfl) hz) fun s5 S8 => ?_
          walk_at "m:runs"
          refine ite_b (fun c5 => ?_) fun c5 => ?_
          · have c5' := of_decide_eq_true c5
            walk_at "m:runs"
            refine fin (by assumption) ?_
            unfold matchB noStr
            simp [c1', c2, c3', c4, c5']
            try omega
          have c5' := of_decide_eq_false c5
          walk_at "m:runs"
          refine for_list (vs := []) (fun i m' n' => m' (Str.ofString "got") = some (.str n u) ∧ (∃ t, m' (Str.ofString "startpos") = some (.int (f.length : Int) t)) ∧ (∃ t, m' (Str.ofString "endpos") = some (.int ((n.length : Int) - e.length) t)) ∧ n' = [(D, listOf ([] : List Value).toArray ((0 + 1) + 1))]) hh S8 (isL (S8.get (.head _))) ⟨by walk_at "m:look", ⟨_, by walk_at "m:look"⟩, ⟨_, by walk_at "m:look"⟩, rfl⟩ (.inr ⟨_, fun _ _ _ q => by rw [q.2.2.2]; exact .head _⟩) ?turn2 ?done2
          case turn2 =>
            rintro i v s6 m6 n6 a6 oo hi hv ⟨g1, ⟨ta, g2⟩, ⟨tb, g3⟩, rfl⟩ S6
            obtain ⟨tv, rfl⟩ : ∃ t, v = .str (Str.ofString "") t := by
              have := List.mem_of_getElem? hv
              simp at this
              all_goals first | exact ⟨_, this⟩ | (rcases this with h | h <;> exact ⟨_, h⟩)
            have hfd : find4 n (Str.ofString "") (f.length : Int) ((n.length : Int) - e.length) = (f.length : Int) := by
              have := find4_nil n (i := ((f.length : Int) : Int).toNat) (j := (((n.length : Int) - e.length) : Int).toNat) (by omega) (by omega)
              rwa [show ((((f.length : Int) : Int).toNat : Nat) : Int) = (f.length : Int) by omega, show (((((n.length : Int) - e.length) : Int).toNat : Nat) : Int) = ((n.length : Int) - e.length) by omega] at this
            walk_at "m:runs"
            refine ite_b (fun c6 => ?_) fun c6 => ?_
            · have := of_decide_eq_true c6
              omega
            walk_at "m:runs"
            rename_i S7
            have hq : find4 n (Str.ofString "") (f.length : Int) ((n.length : Int) - e.length) + ((Str.ofString "").length : Int) = (f.length : Int) := by
              rw [hfd, h0]
              omega
            rw [hq] at S7
            refine ⟨_, _, S7, by walk_at "m:look", ⟨_, by walk_at "m:look"⟩, ⟨_, by walk_at "m:look"⟩, rfl⟩
          case done2 =>
            rintro s6 m6 n6 ⟨g1, ⟨ta, g2⟩, ⟨tb, g3⟩, rfl⟩ S6
            walk_at "m:runs"
            refine fin (by assumption) ?_
            unfold matchB noStr
            simp [c1', c2, c3', c4, c5']
            try omega
        · walk_at "m:runs"
          refine fin (by assumption) ?_
          unfold matchB noStr
          simp [c1', c2, c3', c4]
      · have c3' := len_zero c3
        obtain rfl := str_nil c3'
        walk_at "m:runs"
        refine ite_b (fun c5 => ?_) fun c5 => ?_
        · have c5' := of_decide_eq_true c5
          walk_at "m:runs"
          refine fin (by assumption) ?_
          unfold matchB noStr
          simp [c1', c2, c3', c5', h0]
          try omega
        have c5' := of_decide_eq_false c5
        walk_at "m:runs"
        rename_i S8
        refine for_list (vs := [.str (Str.ofString "") t2]) (fun i m' n' => m' (Str.ofString "got") = some (.str n u) ∧ (∃ t, m' (Str.ofString "startpos") = some (.int (f.length : Int) t)) ∧ (∃ t, m' (Str.ofString "endpos") = some (.int (n.length : Int) t)) ∧ n' = [(D, listOf ([.str (Str.ofString "") t2] : List Value).toArray (0 + 1))]) hh S8 (isL (S8.get (.head _))) ⟨by walk_at "m:look", ⟨_, by walk_at "m:look"⟩, ⟨_, by walk_at "m:look"⟩, rfl⟩ (.inr ⟨_, fun _ _ _ q => by rw [q.2.2.2]; exact .head _⟩) ?turn3 ?done3
        case turn3 =>
          rintro i v s6 m6 n6 a6 oo hi hv ⟨g1, ⟨ta, g2⟩, ⟨tb, g3⟩, rfl⟩ S6
          obtain ⟨tv, rfl⟩ : ∃ t, v = .str (Str.ofString "") t := by
            have := List.mem_of_getElem? hv
            simp at this
            all_goals first | exact ⟨_, this⟩ | (rcases this with h | h <;> exact ⟨_, h⟩)
          have hfd : find4 n (Str.ofString "") (f.length : Int) (n.length : Int) = (f.length : Int) := by
            have := find4_nil n (i := ((f.length : Int) : Int).toNat) (j := ((n.length : Int) : Int).toNat) (by omega) (by omega)
            rwa [show ((((f.length : Int) : Int).toNat : Nat) : Int) = (f.length : Int) by omega, show ((((n.length : Int) : Int).toNat : Nat) : Int) = (n.length : Int) by omega] at this
          walk_at "m:runs"
          refine ite_b (fun c6 => ?_) fun c6 => ?_
          · have := of_decide_eq_true c6
            omega
          walk_at "m:runs"
          rename_i S7
          have hq : find4 n (Str.ofString "") (f.length : Int) (n.length : Int) + ((Str.ofString "").length : Int) = (f.length : Int) := by
            rw [hfd, h0]
            omega
          rw [hq] at S7
          refine ⟨_, _, S7, by walk_at "m:look", ⟨_, by walk_at "m:look"⟩, ⟨_, by walk_at "m:look"⟩, rfl⟩
        case done3 =>
          rintro s6 m6 n6 ⟨g1, ⟨ta, g2⟩, ⟨tb, g3⟩, rfl⟩ S6
          walk_at "m:runs"
          refine fin (by assumption) ?_
          unfold matchB noStr
          simp [c1', c2, c3', c5', h0]
          try omega
    · walk_at "m:runs"
      refine fin (by assumption) ?_
      unfold matchB noStr
      simp [c1', c2]
  · have c1' := len_zero c1
    obtain rfl := str_nil c1'
    walk_at "m:runs"
    rename_i S4
    have S5 := S4.tail
    clear S4
    refine' n_lneg (l := [.str (Str.ofString "") t1, .str e t2]) 1 ?p1x4 ?p2x4 ?p3x4 ?p4x4 ?p5x4 ?_ ?p6x4
    case p1x4 => exact isL (Sta.get (by assumption) (.head _))
    case p2x4 => rfl
    case p3x4 => decide
    case p4x4 => rfl
    case p5x4 => exact Nat.le_of_ble_eq_true rfl
    case p6x4 => with_unfolding_all rfl
    walk_at "m:runs"
    refine ite_b (fun c3 => ?_) fun c3 => ?_
    · walk_at "m:runs"
      have c3' := len_pos c3
      refine ite_b (fun c4 => ?_) fun c4 => ?_
      · walk_at "m:runs"
        rename_i S4
        refine o_del (l := [.str (Str.ofString "") t1, .str e t2]) (k := 1) S4 rfl rfl (Nat.le_trans (Nat.le_of_ble_eq_true rfl) hz) fun s5 S8 => ?_
        walk_at "m:runs"
        refine ite_b (fun c5 => ?_) fun c5 => ?_
        · have c5' := of_decide_eq_true c5
          walk_at "m:runs"
          refine fin (by assumption) ?_
          unfold matchB noStr
          simp [c1', h0, c3', c4, c5']
          try omega
        have c5' := of_decide_eq_false c5
        walk_at "m:runs"
        refine for_list (vs := [.str (Str.ofString "") t1]) (fun i m' n' => m' (Str.ofString "got") = some (.str n u) ∧ (∃ t, m' (Str.ofString "startpos") = some (.int (0 : Int) t)) ∧ (∃ t, m' (Str.ofString "endpos") = some (.int ((n.length : Int) - e.length) t)) ∧ n' = [(D, listOf ([.str (Str.ofString "") t1] : List Value).toArray (0 + 1))]) hh S8 (isL (S8.get (.head _))) ⟨by walk_at "m:look", ⟨_, by walk_at "m:look"⟩, ⟨_, by walk_at "m:look"⟩, rfl⟩ (.inr ⟨_, fun _ _ _ q => by rw [q.2.2.2]; exact .head _⟩) ?turn5 ?done5
        case turn5 =>
          rintro i v s6 m6 n6 a6 oo hi hv ⟨g1, ⟨ta, g2⟩, ⟨tb, g3⟩, rfl⟩ S6
          obtain ⟨tv, rfl⟩ : ∃ t, v = .str (Str.ofString "") t := by
            have := List.mem_of_getElem? hv
            simp at this
            all_goals first | exact ⟨_, this⟩ | (rcases this with h | h <;> exact ⟨_, h⟩)
          have hfd : find4 n (Str.ofString "") (0 : Int) ((n.length : Int) - e.length) = (0 : Int) := by
            have := find4_nil n (i := ((0 : Int) : Int).toNat) (j := (((n.length : Int) - e.length) : Int).toNat) (by omega) (by omega)
            rwa [show ((((0 : Int) : Int).toNat : Nat) : Int) = (0 : Int) by omega, show (((((n.length : Int) - e.length) : Int).toNat : Nat) : Int) = ((n.length : Int) - e.length) by omega] at this
          walk_at "m:runs"
          refine ite_b (fun c6 => ?_) fun c6 => ?_
          · have := of_decide_eq_true c6
            omega
          walk_at "m:runs"
          rename_i S7
          have hq : find4 n (Str.ofString "") (0 : Int) ((n.length : Int) - e.length) + ((Str.ofString "").length : Int) = (0 : Int) := by
            rw [hfd, h0]
            omega
          rw [hq] at S7
          refine ⟨_, _, S7, by walk_at "m:look", ⟨_, by walk_at "m:look"⟩, ⟨_, by walk_at "m:look"⟩, rfl⟩
        case done5 =>
          rintro s6 m6 n6 ⟨g1, ⟨ta, g2⟩, ⟨tb, g3⟩, rfl⟩ S6
          walk_at "m:runs"
          refine fin (by assumption) ?_
          unfold matchB noStr
          simp [c1', h0, c3', c4, c5']
          try omega
      · walk_at "m:runs"
        refine fin (by assumption) ?_
        unfold matchB noStr
        simp [c1', h0, c3', c4]
    · have c3' := len_zero c3
      obtain rfl := str_nil c3'
      walk_at "m:runs"
      refine ite_b (fun c5 => ?_) fun c5 => ?_
      · have c5' := of_decide_eq_true c5
        walk_at "m:runs"
        refine fin (by assumption) ?_
        unfold matchB noStr
        simp [c1', h0, c3', c5', h0]
        try omega
      have c5' := of_decide_eq_false c5
      walk_at "m:runs"
      rename_i S8
      refine for_list (vs := [.str (Str.ofString "") t1, .str (Str.ofString "") t2]) (fun i m' n' => m' (Str.ofString "got") = some (.str n u) ∧ (∃ t, m' (Str.ofString "startpos") = some (.int (0 : Int) t)) ∧ (∃ t, m' (Str.ofString "endpos") = some (.int (n.length : Int) t)) ∧ n' = [(D, listOf ([.str (Str.ofString "") t1, .str (Str.ofString "") t2] : List Value).toArray 0)]) hh S8 (isL (S8.get (.head _))) ⟨by walk_at "m:look", ⟨_, by walk_at "m:look"⟩, ⟨_, by walk_at "m:look"⟩, rfl⟩ (.inr ⟨_, fun _ _ _ q => by rw [q.2.2.2]; exact .head _⟩) ?turn6 ?done6
      case turn6 =>
        rintro i v s6 m6 n6 a6 oo hi hv ⟨g1, ⟨ta, g2⟩, ⟨tb, g3⟩, rfl⟩ S6
        obtain ⟨tv, rfl⟩ : ∃ t, v = .str (Str.ofString "") t := by
          have := List.mem_of_getElem? hv
          simp at this
          all_goals first | exact ⟨_, this⟩ | (rcases this with h | h <;> exact ⟨_, h⟩)
        have hfd : find4 n (Str.ofString "") (0 : Int) (n.length : Int) = (0 : Int) := by
          have := find4_nil n (i := ((0 : Int) : Int).toNat) (j := ((n.length : Int) : Int).toNat) (by omega) (by omega)
          rwa [show ((((0 : Int) : Int).toNat : Nat) : Int) = (0 : Int) by omega, show ((((n.length : Int) : Int).toNat : Nat) : Int) = (n.length : Int) by omega] at this
        walk_at "m:runs"
        refine ite_b (fun c6 => ?_) fun c6 => ?_
        · have := of_decide_eq_true c6
          omega
        walk_at "m:runs"
        rename_i S7
        have hq : find4 n (Str.ofString "") (0 : Int) (n.length : Int) + ((Str.ofString "").length : Int) = (0 : Int) := by
          rw [hfd, h0]
          omega
        rw [hq] at S7
        refine ⟨_, _, S7, by walk_at "m:look", ⟨_, by walk_at "m:look"⟩, ⟨_, by walk_at "m:look"⟩, rfl⟩
      case done6 =>
        rintro s6 m6 n6 ⟨g1, ⟨ta, g2⟩, ⟨tb, g3⟩, rfl⟩ S6
        walk_at "m:runs"
        refine fin (by assumption) ?_
        unfold matchB noStr
        simp [c1', h0, c3', c5', h0]
        try omega
end
end
-- L4
section
open PySem.Builtin PySem.Builtin.Re PySem.Sre
theorem plainAttrs_rep : PlainAttrs "re.Pattern" :=
  ⟨⟨"object.__getattribute__", by rw [typeLookup_type, builtinLookup_eq_fast]; kernel_rfl, by decide +kernel⟩, by rw [typeLookup_type, builtinLookup_eq_fast]; kernel_rfl⟩
theorem slot_rep_search : Slot "re.Pattern" "search" "re.Pattern.search" :=
  .of (owner := "re.Pattern") (n := "search") (by rw [typeLookup_type, builtinLookup_eq_fast]; kernel_rfl) (by decide +kernel) (by decide +kernel) (by decide +kernel)
    (by first | exact .inl (by decide +kernel) | exact .inr (by decide +kernel)) (by rw [isSubtype_type]; kernel_rfl)
theorem type_rep_search : typeOf (.builtin "re.Pattern.search") = pure (.type "method_descriptor") := by show builtinType _ = _; rw [builtinType_eq_fast]; kernel_rfl
theorem entry_rep_search : entryFor table "re.Pattern.search" = some Builtin.«re.Pattern.search» := entryFor_of_tree (by kernel_rfl)
theorem owner_rep : Manifest.owners.lookup (String.ofList ['n', 'r', 'e', 't', 't', 'a', 'P', '.', 'e', 'r'].reverse) = some Manifest.sig_re_Pattern := by kernel_rfl
theorem args_rep_search (a b : Value) : argsOk "re.Pattern.search" ⟨[a, b], []⟩ := by
  unfold argsOk; rw [signature?_of (id := "re.Pattern.search") (n := ['h', 'c', 'r', 'a', 'e', 's']) (o := ['n', 'r', 'e', 't', 't', 'a', 'P', '.', 'e', 'r']) (by kernel_rfl) owner_rep]; kernel_rfl
end
-- L5
section
open PySem.Builtin PySem.Builtin.Re PySem.Sre
/-- a text in which the class of characters that the code looks for does not stand -/
def Clean (code text : Array Nat) : Prop := ∀ c ∈ text, ∀ seen, ∃ seen', inSet code c code.size 5 true seen = .ok (false, seen')
theorem admitted_clean {m : Sre.M} (hc : Clean m.code m.text) (hl : m.lim ≤ m.text.size) : ∀ (fuel s : Nat) (seen : Sre.Seen), ∃ seen', M.admitted m fuel s seen = .ok (none, seen')
  | 0, s, seen => ⟨seen, rfl⟩
  | fuel + 1, s, seen => by
    unfold M.admitted
    by_cases h : s ≥ m.lim
    · exact ⟨seen, if_pos h⟩
    · rw [if_neg h]
      have hs : s < m.text.size := by omega
      have hm : m.text.getD s 0 ∈ m.text := by
        rw [Array.getD_eq_getD_getElem?, Array.getElem?_eq_getElem hs]
        exact Array.getElem_mem hs
      obtain ⟨seen', e⟩ := hc _ hm seen
      rw [e]
      exact admitted_clean hc hl fuel (s + 1) seen'
theorem attempt_clean {m : Sre.M} (hf : m.hasFirstSet = true) (hc : Clean m.code m.text) (hl : m.lim ≤ m.text.size) (s : Nat) (b : Bool) :
    (m.attemptFrom s b).answer = some false ∧ (m.attemptFrom s b).frames = m.frames ∧ (m.attemptFrom s b).outcome = m.outcome := by
  unfold M.attemptFrom
  rw [hf]
  obtain ⟨seen', e⟩ := admitted_clean hc hl (m.lim + 1 - s) s m.seen
  rw [if_neg (by simp), e]
  exact ⟨rfl, rfl, rfl⟩
/-- what the search of a clean text comes to -/
theorem search_clean {code text : Array Nat} {n : Nat} (hn : n = text.size) (hc : Clean code text) (hf : ((match ops[code.getD 0 0]? with | some .INFO => true | _ => false) && code.getD 2 0 == 4) = true) :
    (forSearch code text 0 0 n false).answer = some false ∧ (forSearch code text 0 0 n false).frames = [] ∧ (forSearch code text 0 0 n false).outcome = none := by
  subst hn
  unfold forSearch
  dsimp only
  split
  · exact ⟨rfl, rfl, rfl⟩
  · refine attempt_clean ?_ hc (Nat.le_refl _) 0 true
    exact hf
theorem drive_failed {A : Around} {Mo : Model} {E : Value → Shared → Prop} {s : Shared} {m : Sre.M} {Q : Option Sre.M → Shared → Prop} (h1 : m.answer = some false) (h2 : m.frames = []) (h3 : m.outcome = none) (h : Q none s) :
    wpAny Mo A (reRunToEnd m) Q E s := by
  have hstep : m.step = { m with outcome := some .failed } := by
    unfold M.step
    rw [h1, h2, h3]
    rfl
  have hrun : m.runFor reTurnSteps = { m with outcome := some .failed } := by
    show m.runFor 4 = _
    rw [M.runFor, h3]
    show M.runFor 3 m.step = _
    rw [hstep, M.runFor]
    rfl
  have hdrive : reDrive (2 ^ 64) m = pure { m with outcome := some .failed } := by
    rw [show (2 : Nat) ^ 64 = 18446744073709551615 + 1 from rfl, reDrive]
    rw [hrun]
    rfl
  unfold reRunToEnd
  refine wpAny_bind (wpAny_of_eq hdrive ?_)
  refine wpAny_bind (wpAny_mono (wpAny_forIn_list _ (fun _ _ s' => s' = s) (fun _ s' => s' = s) ?turn (fun _ _ h => h) _ _ rfl) ?post fun _ _ x => x)
  case turn =>
    intro x rest b s' hs'
    dsimp only
    split
    · exact wpAny_bind (wpAny_rule (wpAny_pure hs'))
    · exact wpAny_pure hs'
  case post =>
    intro _ s' hs'
    subst hs'
    exact wpAny_pure h

theorem named_one (x : Str) (t : Tok) : reNamed "re.Pattern.search" "search" ["string", "pos", "endpos"] 1 [.str x t] [] = pure [some (.str x t), none, none] := by
  with_unfolding_all rfl
variable {Mo : Model} {A : Around} {E : Value → Shared → Prop} {s : Shared}
theorem rawItems_wp {a : Addr} {o : Obj} {items : Array Value} {n : Nat} {Q : Array Int → Shared → Prop} (ho : s.heap.get? a = some o) (hd : o.data = .seq items n) (h : Q (items.map reRawOf) s) : wpAny Mo A (reRawItems (.ref a)) Q E s := by
  unfold reRawItems
  exact wpAny_bind (wpAny_seqItems ho hd (wpAny_pure h))
theorem target_wp {p c : Addr} {o oc : Obj} {fs items : Array Value} {n : Nat} {x : Str} {t : Tok} {Q : ReTarget → Shared → Prop} (ho : s.heap.get? p = some o) (hd : o.data = .fields fs) (h6 : reRawNat (fs.getD 6 .none) = 0) (h2 : reRawNat (fs.getD 2 .none) = 0) (h5 : fs.getD 5 .none = .ref c)
    (hc : s.heap.get? c = some oc) (hcd : oc.data = .seq items n) (hx : x.length ≤ 1000)
    (h : Q { pattern := .ref p, string := .str x t, code := (items.map reRawOf).map (·.toNat), text := x.cps, kind := 0, groups := 0, pos := 0, lim := x.cps.size } s) :
    wpAny Mo A (reTarget "re.Pattern.search" "search" ⟨[.ref p, .str x t], []⟩) Q E s := by
  unfold reTarget
  refine wpAny_bind (wpAny_of_eq (named_one x t) ?_)
  refine wpAny_bind (wpAny_pure ?_)
  refine wpAny_bind (wpAny_pure ?_)
  refine wpAny_bind (wpAny_fieldsOf ho hd ?_)
  refine wpAny_bind (wpAny_of_eq (a := (x.cps, 0)) rfl ?_)
  dsimp only
  rw [h6, h5, h2, if_neg (by decide), if_neg (by decide)]
  refine wpAny_bind (wpAny_of_eq (a := ()) rfl ?_)
  refine wpAny_bind (rawItems_wp hc hcd (wpAny_pure ?_))
  have hl : Min.min ((2 ^ 63 - 1 : Int)).toNat x.cps.size = x.cps.size := Nat.min_eq_right (Nat.le_trans hx (by decide))
  have hp : Min.min (0 : Int).toNat x.cps.size = 0 := Nat.min_eq_left (Nat.zero_le _)
  rw [hl, hp]
  exact h
theorem search_wp {p c : Addr} {o oc : Obj} {fs items : Array Value} {code : Array Nat} {n : Nat} {x : Str} {t : Tok} {Q : Fin → Shared → Prop} (ho : s.heap.get? p = some o) (hd : o.data = .fields fs) (h6 : reRawNat (fs.getD 6 .none) = 0) (h2 : reRawNat (fs.getD 2 .none) = 0) (h5 : fs.getD 5 .none = .ref c)
    (hc : s.heap.get? c = some oc) (hcd : oc.data = .seq items n) (hx : x.length ≤ 1000) (hcode : (items.map reRawOf).map (·.toNat) = code) (hcl : Clean code x.cps)
    (hf : ((match ops[code.getD 0 0]? with | some .INFO => true | _ => false) && code.getD 2 0 == 4) = true)
    (h : Q (.done (.ret .none)) s) : wpAny Mo A (Builtin.«re.Pattern.search» ⟨[.ref p, .str x t], []⟩) Q E s := by
  unfold Builtin.«re.Pattern.search»
  refine wpAny_bind (target_wp ho hd h6 h2 h5 hc hcd hx ?_)
  rw [hcode]
  obtain ⟨e1, e2, e3⟩ := search_clean (n := x.cps.size) rfl hcl hf
  unfold reAnswer
  exact wpAny_bind (drive_failed e1 e2 e3 (wpAny_pure h))
end
-- L6
section
def codeN : Array Nat := #[14, 10, 4, 1, 1, 22, 0, 31, 16, 127, 0, 13, 7, 22, 0, 31, 16, 127, 0, 1]
def codeV : Array Nat := #[14, 14, 4, 1, 1, 9, 4294966783, 0, 0, 2147483648, 0, 0, 0, 0, 0, 13, 11, 9, 4294966783, 0, 0, 2147483648, 0, 0, 0, 0, 0, 1]
/-- the letters that the law's texts are made of -/
def letters : List Nat := [97, 98, 99, 65, 66, 67, 46, 110, 111, 121, 101, 115]
def Tame (x : Str) : Prop := (∀ c ∈ x.cps, c ∈ letters) ∧ x.length ≤ 100
theorem clean_of {code : Array Nat} (h : ∀ c ∈ letters, ∀ seen, ∃ seen', Sre.inSet code c code.size 5 true seen = .ok (false, seen')) {x : Str} (hx : Tame x) : Clean code x.cps := fun c hc => h c (hx.1 c hc)
theorem clean_N : ∀ c ∈ letters, ∀ seen, ∃ seen', Sre.inSet codeN c codeN.size 5 true seen = .ok (false, seen') := by
  intro c hc seen
  simp only [letters, List.mem_cons, List.not_mem_nil, or_false] at hc
  rcases hc with rfl | rfl | rfl | rfl | rfl | rfl | rfl | rfl | rfl | rfl | rfl | rfl <;> exact ⟨_, rfl⟩
theorem clean_V : ∀ c ∈ letters, ∀ seen, ∃ seen', Sre.inSet codeV c codeV.size 5 true seen = .ok (false, seen') := by
  intro c hc seen
  simp only [letters, List.mem_cons, List.not_mem_nil, or_false] at hc
  rcases hc with rfl | rfl | rfl | rfl | rfl | rfl | rfl | rfl | rfl | rfl | rfl | rfl <;> exact ⟨_, rfl⟩
section
variable {w : World} {A : Around} {s : Shared} {mean : ExcName → Option Value} {mg mb : Str → Option Value} {Q E : Value → Shared → Prop}
theorem search_at {K : Frag} {prog : Program} {p c : Addr} {o oc : Obj} {fs items : Array Value} {code : Array Nat} {n : Nat} {x : Str} {t : Tok} (X : K.In s.heap) (e : K.lookup p = some o) (e' : K.lookup c = some oc) (hcl : o.cls = .type "re.Pattern") (hd : o.data = .fields fs) (h6 : Builtin.Re.reRawNat (fs.getD 6 .none) = 0) (h2 : Builtin.Re.reRawNat (fs.getD 2 .none) = 0) (h5 : fs.getD 5 .none = .ref c)
    (hcd : oc.data = .seq items n) (hcode : (items.map Builtin.Re.reRawOf).map (·.toNat) = code) (hx : Tame x) (hl : ∀ c ∈ letters, ∀ seen, ∃ seen', Sre.inSet code c code.size 5 true seen = .ok (false, seen'))
    (hf : ((match Sre.ops[code.getD 0 0]? with | some .INFO => true | _ => false) && code.getD 2 0 == 4) = true)
    (h : Q .none s) : wpAny (model prog w) A (call (.builtin "re.Pattern.search") [.ref p, .str x t]) Q E s :=
  wpAny_call_entry slot_rep_search ⟨_, X _ _ e, hcl⟩ entry_rep_search (search_wp (X _ _ e) hd h6 h2 h5 (X _ _ e') hcd (Nat.le_trans hx.2 (by decide)) hcode (clean_of hl hx) hf ⟨_, rfl, h⟩) (args_rep_search _ _)
theorem m_search_at {K : Frag} {prog : Program} {p : Addr} {o : Obj} {pl : Sem Bool} {Q : Value × List Value → Shared → Prop} (X : K.In s.heap) (e : K.lookup p = some o) (hcl : o.cls = .type "re.Pattern") (hd : o.dict = none) (h : Q (.builtin "re.Pattern.search", [.ref p]) s) : wpAny (model prog w) A (getMethod (.ref p) (Str.ofString "search") pl) Q E s :=
  getMethod_builtin ⟨_, X _ _ e, hcl⟩ plainAttrs_rep slot_rep_search type_rep_search (fun a q => by cases q; exact ⟨_, X _ _ e, hd⟩) h
theorem o_search (W : Wd w mean mg mb s.heap) {b : Bool} {x : Str} {t : Tok} (hx : Tame x) (h : Q .none s) : wpAny (model PG w) A (call (.builtin "re.Pattern.search") [.ref (if b then 64 else 69), .str x t]) Q E s := by
  cases b with
  | true =>
    show wpAny (model PG w) A (call (.builtin "re.Pattern.search") [.ref 64, .str x t]) Q E s
    refine' search_at (c := 63) (code := codeN) W.K ?e1 ?e2 ?a1 ?a2 ?a3 ?a4 ?a5 ?a6 ?a7 hx clean_N rfl h
    case e1 => k_is
    case e2 => k_is
    case a1 => rfl
    case a2 => rfl
    case a3 => rfl
    case a4 => rfl
    case a5 => rfl
    case a6 => rfl
    case a7 => first | kernel_rfl | with_unfolding_all rfl | simp [codeN, Builtin.Re.reRawOf]
  | false =>
    show wpAny (model PG w) A (call (.builtin "re.Pattern.search") [.ref 69, .str x t]) Q E s
    refine' search_at (c := 68) (code := codeV) W.K ?e3 ?e4 ?b1 ?b2 ?b3 ?b4 ?b5 ?b6 ?b7 hx clean_V rfl h
    case e3 => k_is
    case e4 => k_is
    case b1 => rfl
    case b2 => rfl
    case b3 => rfl
    case b4 => rfl
    case b5 => rfl
    case b6 => rfl
    case b7 => first | kernel_rfl | with_unfolding_all rfl | simp [codeV, Builtin.Re.reRawOf]
theorem m_search (W : Wd w mean mg mb s.heap) {b : Bool} {pl : Sem Bool} {Q : Value × List Value → Shared → Prop} (h : Q (.builtin "re.Pattern.search", [.ref (if b then 64 else 69)]) s) : wpAny (model PG w) A (getMethod (.ref (if b then 64 else 69)) (Str.ofString "search") pl) Q E s := by
  cases b with
  | true =>
    refine' m_search_at (p := 64) W.K ?e1 ?a1 ?a2 h
    case e1 => k_is
    case a1 => rfl
    case a2 => rfl
  | false =>
    refine' m_search_at (p := 69) W.K ?e3 ?b1 ?b2 h
    case e3 => k_is
    case b1 => rfl
    case b2 => rfl
theorem convert_c (W : Wd w mean mg mb s.heap) (hA : Ok A 0) {x : Addr} {y : Str} {t : Tok} {b : Bool} (hy : Tame y)
    (h : ∀ s', Go s s' → Ext s.heap s'.heap → Q (.str y t) s') :
    wpAny (model PG w) A (call (.ref 91) [.ref x, .str y t] [(Str.ofString "name", .bool b)]) Q E s := by
  walk_at "m:enter"
  case md => exact Nat.lt_of_le_of_lt (Nat.le_add_right _ _) hA.dp
  intro L s₁ env own m hm he ho S
  have hh : A.handled = none := hA.hd
  have hm1 : m (Str.ofString "value") = some (.str y t) := hm _ _ rfl
  have hm2 : m (Str.ofString "name") = some (.bool b) := hm _ _ rfl
  clear hm
  (try k_unmd)
  k_fold
  have hz := slz
  walk_at "m:run"
  refine PySem.call_type_of (typeIs_str _ _ _) (by decide) ?_
  walk_at "m:run"
  cases b with
  | true =>
    walk_at "m:run"
    refine m_search (b := true) (W.ext (Sta.keep (by assumption))) ?_
    walk_at "m:run"
    refine o_search (b := true) (W.ext (Sta.keep (by assumption))) hy ?_
    walk_at "m:run"
    refine PyProof.Rows.truthy_none ?_
    walk_at "m:run"
    exact h _ (Sta.go (by assumption)) (Sta.keep (by assumption))
  | false =>
    walk_at "m:run"
    refine m_search (b := false) (W.ext (Sta.keep (by assumption))) ?_
    walk_at "m:run"
    refine o_search (b := false) (W.ext (Sta.keep (by assumption))) hy ?_
    walk_at "m:run"
    refine PyProof.Rows.truthy_none ?_
    walk_at "m:run"
    exact h _ (Sta.go (by assumption)) (Sta.keep (by assumption))
end
end
-- L7
section
def hN : Str := Str.ofString "_headers"
/-- a table object: its list is l -/
structure Inst (h : Heap) (x l : Addr) : Prop where
  ex : ∃ dx od, PySem.W.InstAt h x (instObj 192 dx) 192 (some od) ∧ lookIn (Str.ofString "_headers") od = some (some (.ref l)) ∧
    ∀ nm ∈ [Str.ofString "_convert_string_type", Str.ofString "get", Str.ofString "keys", Str.ofString "setdefault"], shadowIn (some od) nm = some false
theorem Inst.ext {h h' : Heap} {x l : Addr} (I : Inst h x l) (e : Ext h h') : Inst h' x l := by
  obtain ⟨dx, od, ⟨h1, h2, h3, h4⟩, h5, h6⟩ := I.ex
  exact ⟨dx, od, ⟨e _ _ h1, h2, h3, e _ _ h4⟩, h5, h6⟩
section
variable {w : World} {A : Around} {s : Shared} {mean : ExcName → Option Value} {mg mb : Str → Option Value} {Q E : Value → Shared → Prop} {x l : Addr}
theorem o_attr (W : Wd w mean mg mb s.heap) (I : Inst s.heap x l) {b : Bool} (h : Q (.ref l) { s with toks := s.toks + 1 }) : wpAny (model PG w) A (getAttr (.ref x) (Str.ofString "_headers") b) Q E s := by
  obtain ⟨dx, od, h1, h2, h3⟩ := I.ex
  refine' get_value W.K h1 ?k1 (findObj_own (attr := none) ?k2 ?k3 ?k4 h2) rfl h
  case k1 => k_is
  case k2 => k_is
  case k3 => k_is
  case k4 => rfl
theorem m_conv (W : Wd w mean mg mb s.heap) (I : Inst s.heap x l) {pl : Sem Bool} {Q : Value × List Value → Shared → Prop} (h : Q (.ref 91, [.ref x]) s) : wpAny (model PG w) A (getMethod (.ref x) (Str.ofString "_convert_string_type") pl) Q E s := by
  obtain ⟨dx, od, h1, h2, h3⟩ := I.ex
  refine' method_fn W.K h1 ?k1 ?k2 ?k3 ?k4 (h3 _ (by simp)) h
  case k1 => k_is
  case k2 => k_is
  case k3 => k_is
  case k4 => k_is
theorem m_get (W : Wd w mean mg mb s.heap) (I : Inst s.heap x l) {pl : Sem Bool} {Q : Value × List Value → Shared → Prop} (h : Q (.ref 139, [.ref x]) s) : wpAny (model PG w) A (getMethod (.ref x) (Str.ofString "get") pl) Q E s := by
  obtain ⟨dx, od, h1, h2, h3⟩ := I.ex
  refine' method_fn W.K h1 ?k1 ?k2 ?k3 ?k4 (h3 _ (by simp)) h
  case k1 => k_is
  case k2 => k_is
  case k3 => k_is
  case k4 => k_is
theorem m_keys (W : Wd w mean mg mb s.heap) (I : Inst s.heap x l) {pl : Sem Bool} {Q : Value × List Value → Shared → Prop} (h : Q (.ref 144, [.ref x]) s) : wpAny (model PG w) A (getMethod (.ref x) (Str.ofString "keys") pl) Q E s := by
  obtain ⟨dx, od, h1, h2, h3⟩ := I.ex
  refine' method_fn W.K h1 ?k1 ?k2 ?k3 ?k4 (h3 _ (by simp)) h
  case k1 => k_is
  case k2 => k_is
  case k3 => k_is
  case k4 => k_is
theorem m_setdefault (W : Wd w mean mg mb s.heap) (I : Inst s.heap x l) {pl : Sem Bool} {Q : Value × List Value → Shared → Prop} (h : Q (.ref 182, [.ref x]) s) : wpAny (model PG w) A (getMethod (.ref x) (Str.ofString "setdefault") pl) Q E s := by
  obtain ⟨dx, od, h1, h2, h3⟩ := I.ex
  refine' method_fn W.K h1 ?k1 ?k2 ?k3 ?k4 (h3 _ (by simp)) h
  case k1 => k_is
  case k2 => k_is
  case k3 => k_is
  case k4 => k_is
variable {s₀ : Shared} {env lit : Env} {own : List (Str × Addr)} {m : Str → Option Value} {news : List (Addr × Obj)} {pos : Pos}
theorem o_attrS (S : Sta s₀ env own s m news) (W : Wd w mean mg mb s₀.heap) (I : Inst s₀.heap x l) {b : Bool} (h : Nx s₀ env own m news (Q (.ref l))) : wpAny (model PG w) A (getAttr (.ref x) (Str.ofString "_headers") b) Q E s :=
  o_attr (W.ext S.keep) (I.ext S.keep) (h _ (S.toks _))
theorem n_callKW {f : Value} {first : List Value} {e : Expr} {rest : List Expr} {kws : List Keyword} (W : Wd w mean mg mb s₀.heap) (hk : keepIn (Mine.hd.heap_39 w.params) f = true) (hall : (backToKw pos (keywordEach kws env)).all (·.1.isSome) = true)
    (h : wpAny (model PG w) A (spliced (backTo pos (starEach (e :: rest) env))) (fun vs s₁ => wpAny (model PG w) A (evalAll ((backToKw pos (keywordEach kws env)).map (·.2)))
      (fun ks s₂ => Ext s₀.heap s₂.heap ∧ wpAny (model PG w) A (call f (first ++ vs) (((backToKw pos (keywordEach kws env)).filterMap (·.1)).zip ks)) Q E s₂) E s₁) E s)
    (hplain : ((backTo pos (starEach (e :: rest) env)).any (·.1) || (backToKw pos (keywordEach kws env)).any (·.1.isNone)) = false := by rfl) (he : starEach (e :: rest) env = (false, eval e env) :: starEach rest env := by rfl) :
    wpAny (model PG w) A (callWith pos f first (backTo pos (starEach (e :: rest) env)) (backToKw pos (keywordEach kws env))) Q E s :=
  callWith_KW W.K hk hall (wpAny_mono h (fun _ _ q => wpAny_mono q (fun _ _ q => ⟨W.K.keeps q.1, q.2⟩) fun _ _ y => y) fun _ _ y => y) hplain he
/-- over a list of tuples, with a tuple for a target -/
theorem for_tups {elts : List Expr} {k : Nat} {tpos : Pos} {body : List Stmt} {Q : Flow → Shared → Prop} {prog : Program} {ax : Addr} {vs : List Value} (J : Nat → (Str → Option Value) → List (Addr × Obj) → Prop) (hh : A.handled = none) (S : Sta s₀ env own s m news) (hl : s.heap.IsList ax vs.toArray) (hi : ∀ v ∈ vs, ∃ T, v = .ref T) (h0 : J 0 m news)
    (hax : (∃ o, s₀.heap.get? ax = some o) ∨ ∃ o, ∀ i m' n', J i m' n' → (ax, o) ∈ n')
    (turn : ∀ i v s₂ m₂ news₂ a oo, i < vs.length → vs[i]? = some v → J i m₂ news₂ → Sta s₀ env own s₂ m₂ ((a, oo) :: news₂) →
      wpAny (model prog w) A (assign (.Tuple elts k tpos) env v) (fun _ s₃ => wpAny (model prog w) A (execs body env) (TurnPost s₀ env own [(a, oo)] (J (i + 1)) Q) (fun _ _ => False) s₃) (fun _ _ => False) s₂)
    (done : ∀ s₂ m₂ news₂, J vs.length m₂ news₂ → Sta s₀ env own s₂ m₂ news₂ → Q .next s₂) : wpAny (model prog w) A (pyIter (.ref ax)) (fun it s₂ => ForAt (model prog w) A (.Tuple elts k tpos) body env Q E it s₂) E s := by
  refine wpAny_pyIter_list hl ?_
  obtain ⟨b, c, d, e⟩ := S.offNew { cls := .type "list_iterator", data := .fields #[.ref ax, .int 0 0] } rfl
  have hlt : ax ≠ s.heap.objs.size := by
    obtain ⟨o, e, _⟩ := hl
    exact Nat.ne_of_lt (Heap.lt_size e)
  refine for_walks (kp := [s.heap.objs.size]) (WalkG.tups hh _ ax hlt vs.toArray (by simpa using hi)) J ((S.push { cls := .type "list_iterator", data := .fields #[.ref ax, .int 0 0] }).drop (fun p hp => .tail _ hp) S.nodup) h0
    ⟨⟨_, Heap.get?_push_size _ rfl, rfl, rfl⟩, hl.push _⟩ (fun _ h => h) (fun i h st b hb => ?_) (nodup1 _) (fun x hx => ?_) (nomem1 c) (fun q hq => nomem1 (d q hq)) (fun p hp => nomem1 (e p hp)) (fun x hx => ?_) (fun i v s₂ m₂ news₂ ow hi hP hJ how S₂ => ?_) (fun s₂ m₂ news₂ hJ S₂ => done s₂ m₂ news₂ (by simpa using hJ) S₂)
  · rw [List.mem_singleton.mp hb]
    obtain ⟨⟨o, e, _⟩, _⟩ := st
    exact ⟨o, e⟩
  · rw [List.mem_singleton.mp hx]; exact b
  · rcases List.mem_cons.mp hx with q | hx
    · exact .inl (q ▸ List.mem_singleton.mpr rfl)
    · rw [List.mem_singleton.mp hx]; exact .inr hax
  · obtain ⟨oo, rfl⟩ := one_of how
    exact turn i v s₂ m₂ news₂ _ oo (by simpa using hi) (by simpa using hP) hJ S₂
end
end
local macro_rules | `(tactic| walk_at "m:W") => `(tactic| first | with_reducible assumption | exact Wd.ext (by with_reducible assumption) (Sta.keep (by with_reducible assumption)))
local macro_rules | `(tactic| walk_at "m:I") => `(tactic| first | with_reducible assumption | exact Inst.ext (by with_reducible assumption) (Sta.keep (by with_reducible assumption)))
local macro_rules | `(tactic| walk_at "m:obj") => `(tactic| first
  | ((with_reducible show wpAny _ _ (eval (Expr.Call (Expr.Attribute _ _ _) _ (_ :: _) _) _) _ _ _); refine methodCall_KW ?_)
  | ((with_reducible show wpAny _ _ (eval (Expr.Attribute (Expr.Name _ _) _ _) _) _ _ _); refine Attribute_Name_ ?_)
  | ((with_reducible show wpAny _ _ (getAttr (Value.ref _) (Str.ofString "_headers") _) _ _ _); refine' o_attrS ?mS ?mW ?mI ?_; (case mS => walk_at "m:S"); (case mW => walk_at "m:S"); (case mI => walk_at "m:S"); intro s' S')
  | ((with_reducible show wpAny _ _ (getMethod (Value.ref _) (Str.ofString "_convert_string_type") _) _ _ _); refine' m_conv ?mW ?mI ?_; (case mW => walk_at "m:W"); (case mI => walk_at "m:I"))
  | ((with_reducible show wpAny _ _ (getMethod (Value.ref _) (Str.ofString "get") _) _ _ _); refine' m_get ?mW ?mI ?_; (case mW => walk_at "m:W"); (case mI => walk_at "m:I"))
  | ((with_reducible show wpAny _ _ (getMethod (Value.ref _) (Str.ofString "keys") _) _ _ _); refine' m_keys ?mW ?mI ?_; (case mW => walk_at "m:W"); (case mI => walk_at "m:I"))
  | ((with_reducible show wpAny _ _ (getMethod (Value.ref _) (Str.ofString "setdefault") _) _ _ _); refine' m_setdefault ?mW ?mI ?_; (case mW => walk_at "m:W"); (case mI => walk_at "m:I"))
  | ((with_reducible show wpAny _ _ (callWith _ (Value.ref _) _ _ (backToKw _ _)) _ _ _); refine' n_callKW ?mW ?mk ?ma ?_ ?m1 ?m2; (case mW => walk_at "m:S"); (case mk => k_is); (case ma => exact rfl); (case m1 => exact rfl); (case m2 => exact rfl))
  | ((with_reducible show wpAny _ _ (evalAll _) _ _ _); first | refine evalAll_cons ?_ | refine evalAll_nil ?_)
  | ((with_reducible show Ext _ _ ∧ _); refine ⟨Sta.keep (by with_reducible assumption), ?_⟩))
local macro_rules | `(tactic| walk_at "m:5") => `(tactic| first | walk_at "m:3" | walk_at "m:obj")
local macro_rules | `(tactic| walk_at "m:all") => `(tactic| repeat (walk_at "m:5"))
-- L8
section
/-- the table's rows -/
structure Rows (h : Heap) (vs : List Value) (kvs : List (Str × Str)) : Prop where
  len : vs.length = kvs.length
  at_ : ∀ (i : Nat) (v : Value), vs[i]? = some v → ∃ T k y tk ty, v = .ref T ∧ h.get? T = some { cls := .type "tuple", data := .seq #[.str k tk, .str y ty] } ∧ kvs[i]? = some (k, y)
theorem Rows.ext {h h' : Heap} {vs : List Value} {kvs : List (Str × Str)} (R : Rows h vs kvs) (e : Ext h h') : Rows h' vs kvs :=
  ⟨R.len, fun i v q => let ⟨T, k, y, tk, ty, a, b, c⟩ := R.at_ i v q; ⟨T, k, y, tk, ty, a, e _ _ b, c⟩⟩
theorem Rows.refs {h : Heap} {vs : List Value} {kvs : List (Str × Str)} (R : Rows h vs kvs) : ∀ v ∈ vs, ∃ T, v = .ref T := fun v hv => by
  obtain ⟨j, hj, e⟩ := List.getElem_of_mem hv
  obtain ⟨T, _, _, _, _, a, _⟩ := R.at_ j v (by rw [List.getElem?_eq_getElem hj, e])
  exact ⟨T, a⟩
def Low (x : Str) : Prop := Tame x ∧ Tame (Txt.lower x)
theorem Tame.short {x : Str} (h : Tame x) : Builtin.Str.tooLong x.length = false := by
  have := h.2
  unfold Builtin.Str.tooLong
  simp
  have := slz
  omega
theorem binds_dflt {K : Frag} {s : Shared} {fd : FuncData} {args : Args} {binds : List (Str × Value)} {T : Addr} {o : Obj} {items : Array Value} {n : Nat} {k : Option (Array Value) → Sem (List (Str × Value))} (X : K.In s.heap) (hd : fd.defaults = .ref T) (ho : K.lookup T = some o) (hs : o.data = .seq items n)
    (h₁ : bindArgs fd args = seqItems? fd.defaults >>= k) (h₂ : k (some items) = pure binds) : BindsTo s fd args binds := BindsTo.of_defaults hd (X _ _ ho) hs h₁ h₂
theorem n_kw1 {Mo : Model} {A : Around} {E : Value → Shared → Prop} {s : Shared} {Q : Value → Shared → Prop} {env : Env} {pos : Pos} {nm : Option Str} {e : Expr} (h : wpAny Mo A (eval e env) Q E s) :
    wpAny Mo A ((fun x : Option Str × Sem Value => x.2) ((fun x : Option Str × Sem Value => match x with | (name, t) => (name, do let v ← t; standAt pos; pure v)) (nm, eval e env))) Q E s :=
  wpAny_bind (wpAny_mono h (fun _ _ q => wpAny_bind (wpAny_standAt (wpAny_pure q))) fun _ _ y => y)
def getF (kvs : List (Str × Str)) (n : Str) : Option Str := (kvs.find? fun p => Txt.lower p.1 == Txt.lower n).map (·.2)
theorem getF_hit {kvs : List (Str × Str)} {n : Str} : ∀ {i : Nat} {k y : Str}, (∀ p ∈ kvs.take i, (Txt.lower p.1 == Txt.lower n) = false) → kvs[i]? = some (k, y) → (Txt.lower k == Txt.lower n) = true → getF kvs n = some y := by
  induction kvs with
  | nil => intro i k y _ h; cases h
  | cons q r ih =>
    intro i k y h1 h2 h3
    cases i with
    | zero =>
      obtain rfl := Option.some.inj h2
      unfold getF
      rw [List.find?_cons, h3]
      rfl
    | succ i =>
      have hq : (Txt.lower q.1 == Txt.lower n) = false := h1 q (by simp)
      have := ih (i := i) (fun p hp => h1 p (by rw [List.take_succ_cons]; exact .tail _ hp)) (by simpa using h2) h3
      unfold getF at this ⊢
      rw [List.find?_cons, hq]
      exact this
theorem getF_miss {kvs : List (Str × Str)} {n : Str} (h : ∀ p ∈ kvs, (Txt.lower p.1 == Txt.lower n) = false) : getF kvs n = none := by
  unfold getF
  rw [List.find?_eq_none.mpr fun p hp => by rw [h p hp]; decide]
  rfl
section
variable {w : World} {A : Around} {s : Shared} {mean : ExcName → Option Value} {mg mb : Str → Option Value} {Q E : Value → Shared → Prop} {x l : Addr}
theorem get_c (W : Wd w mean mg mb s.heap) (hA : Ok A 1) (I : Inst s.heap x l) {vs : List Value} {kvs : List (Str × Str)} (hl : s.heap.IsList l vs.toArray) (R : Rows s.heap vs kvs) (hk : ∀ p ∈ kvs, Low p.1) {n : Str} {t : Tok} (hn : Low n)
    (h : ∀ s' v, Go s s' → Ext s.heap s'.heap → OptV (getF kvs n) v → Q v s') :
    wpAny (model PG w) A (call (.ref 139) [.ref x, .str n t] []) Q E s := by
  refine' enterE ?mW ?mo ?mc ?md ?mb ?mk ?ms ?mn ?m1 ?m2 ?m3 ?_
  case mW => assumption
  case mo => k_is
  case mc => k_is
  case md => exact Nat.lt_of_le_of_lt (Nat.le_add_right _ _) hA.dp
  case mb =>
    refine' binds_dflt W.K ?d1 ?d2 ?d3 ?d4 ?d5
    case d1 => exact rfl
    case d2 => k_is
    case d3 => exact rfl
    case d4 => exact rfl
    case d5 => exact rfl
  case mk => exact rfl
  case ms => exact rfl
  case mn => decide
  case m1 => exact rfl
  case m2 => exact rfl
  case m3 => exact rfl
  intro L s₁ env own m hm he ho S
  have hh : A.handled = none := hA.hd
  have hm1 : m (Str.ofString "self") = some (.ref x) := hm _ _ rfl
  have hm2 : m (Str.ofString "name") = some (.str n t) := hm _ _ rfl
  have hm3 : m (Str.ofString "default") = some .none := hm _ _ rfl
  clear hm
  have hnl := hn.2.short
  (try k_unmd)
  k_fold
  walk_at "m:all"
  refine n_kw1 ?_
  walk_at "m:all"
  refine convert_c (W.ext (Sta.keep (by assumption))) (hA.deeper env) hn.2 fun s2 g2 e2 => ?_
  rename_i S9
  have S2 := S9.grow g2 e2
  clear S9
  walk_at "m:all"
  rename_i tl _ s9 S9 s8 S8
  clear S9
  obtain ⟨ol, hol, hol2⟩ := id hl
  refine for_tups (vs := vs) (fun i m' n' => m' (Str.ofString "name") = some (.str (Txt.lower n) tl) ∧ m' (Str.ofString "default") = some .none ∧ n' = [] ∧ ∀ p ∈ kvs.take i, (Txt.lower p.1 == Txt.lower n) = false) hh S8 (hl.at fun o q => S8.keep _ _ q) R.refs ⟨by walk_at "m:look", by walk_at "m:look", rfl, fun p hp => by simp at hp⟩ (.inl ⟨_, hol⟩) ?turn ?done
  case turn =>
    rintro i v s6 m6 n6 a6 oo hi hv ⟨g1, g3, rfl, g4⟩ S6
    obtain ⟨T, k, y, tk, ty, rfl, hT, hkv⟩ := R.at_ i v hv
    have hkl := (hk _ (List.mem_of_getElem? hkv)).2.short
    refine o_unpack S6 hh (isT (S6.keep _ _ hT)) rfl rfl fun s7 S7 => ?_
    walk_at "m:all"
    refine ite_b (fun c => ?_) fun c => ?_
    · walk_at "m:all"
      exact h _ _ (Sta.go (by assumption)) (Sta.keep (by assumption)) (by rw [getF_hit g4 hkv c]; exact ⟨_, rfl⟩)
    · walk_at "m:all"
      rename_i S5
      refine ⟨_, [], S5, by walk_at "m:look", by walk_at "m:look", rfl, fun p hp => ?_⟩
      rw [List.take_add_one, hkv] at hp
      rcases List.mem_append.mp hp with hp | hp
      · exact g4 p hp
      · simp at hp
        rw [hp]
        exact c
  case done =>
    rintro s6 m6 n6 ⟨g1, g3, rfl, g4⟩ S6
    walk_at "m:all"
    refine h _ _ (Sta.go (by assumption)) (Sta.keep (by assumption)) ?_
    rw [getF_miss fun p hp => g4 p (by rw [R.len, List.take_length]; exact hp)]
    rfl
end
end
-- L9
section
/-- the values are these texts -/
def Strs (ys : List Value) (xs : List Str) : Prop := ys.length = xs.length ∧ ∀ (i : Nat) (v : Value), ys[i]? = some v → ∃ x t, v = .str x t ∧ xs[i]? = some x
theorem Strs.nil : Strs [] [] := ⟨rfl, fun i v h => by cases h⟩
theorem Strs.snoc {ys : List Value} {xs : List Str} (h : Strs ys xs) (x : Str) (t : Tok) : Strs (ys ++ [.str x t]) (xs ++ [x]) := by
  refine ⟨by simp [h.1], fun i v hv => ?_⟩
  rcases Nat.lt_or_ge i ys.length with hlt | hge
  · rw [List.getElem?_append_left hlt] at hv
    obtain ⟨x', t', a, b⟩ := h.2 i v hv
    exact ⟨x', t', a, by rw [List.getElem?_append_left (by rw [← h.1]; exact hlt)]; exact b⟩
  · rw [List.getElem?_append_right hge] at hv
    have : i - ys.length = 0 := by
      rcases Nat.eq_zero_or_pos (i - ys.length) with h0 | h0
      · exact h0
      · rw [List.getElem?_eq_none (by simp; omega)] at hv; cases hv
    rw [this] at hv
    obtain rfl := (Option.some.inj hv).symm
    exact ⟨x, t, rfl, by rw [List.getElem?_append_right (by rw [← h.1]; exact hge), ← h.1, this]; rfl⟩
section
variable {w : World} {A : Around} {s : Shared} {mean : ExcName → Option Value} {mg mb : Str → Option Value} {Q E : Value → Shared → Prop} {x l : Addr}
theorem keys_c (W : Wd w mean mg mb s.heap) (hA : Ok A 1) (I : Inst s.heap x l) {vs : List Value} {kvs : List (Str × Str)} (hl : s.heap.IsList l vs.toArray) (R : Rows s.heap vs kvs) (hn : kvs.length ≤ 100)
    (h : ∀ s' a ys e, Go s s' → Ext s.heap s'.heap → s.heap.get? a = none → s'.heap.get? a = some (listOf ys.toArray e) → Strs ys (kvs.map (·.1)) → Q (.ref a) s') :
    wpAny (model PG w) A (call (.ref 144) [.ref x] []) Q E s := by
  walk_at "m:enter"
  case md => exact Nat.lt_of_le_of_lt (Nat.le_add_right _ _) hA.dp
  intro L s₁ env own m hm he ho S
  have hh : A.handled = none := hA.hd
  have hm1 : m (Str.ofString "self") = some (.ref x) := hm _ _ rfl
  clear hm
  (try k_unmd)
  k_fold
  walk_at "m:all"
  rename_i S8
  have hz := slz
  refine comp_list (vs := vs) (fun i ys led => led = [] ∧ Strs ys ((kvs.take i).map (·.1))) hh S8 (hl.at fun o q => S8.keep _ _ q) (by have := R.len; omega) rfl (by decide) (okAll he rfl) ⟨rfl, .nil⟩
    (turnOf (W.ext S8.keep) he ?t2) ?d2 (.inr ⟨⟨_, _, _, rfl⟩, R.refs⟩)
  case t2 =>
    rintro i v ys led C s₀ s₂ m₂ cenv cown hi hP ⟨rfl, hys⟩ hle hE hf W₂ he₂ ho₂ S₂
    obtain ⟨T, k, y, tk, ty, rfl, hT, hkv⟩ := R.at_ i v hP
    refine o_unpack S₂ hh (isT (S₂.keep _ _ (hE _ _ (S8.keep _ _ hT)))) rfl rfl fun s7 S7 => ?_
    walk_at "m:all"
    rename_i S5
    refine ⟨_, [], S5, rfl, ?_⟩
    rw [List.take_add_one, hkv, List.map_append]
    exact hys.snoc k tk
  case d2 =>
    rintro ys led D e' hle ⟨rfl, hys⟩ sV SV
    walk_at "m:all"
    obtain ⟨x1, x2, _, _⟩ := SV.made _ (.head _)
    rw [R.len, List.take_length] at hys
    exact h _ D ys e' SV.go SV.keep x2 x1 hys
end
end
-- L10
section
/-- everything but the object at l stands -/
def ExtB (l : Addr) (h h' : Heap) : Prop := ∀ b o, b ≠ l → h.get? b = some o → h'.get? b = some o
theorem ExtB.of {l : Addr} {h h' : Heap} (e : Ext h h') : ExtB l h h' := fun b o _ q => e b o q
theorem Inst.extB {h h' : Heap} {x l r : Addr} {vs : Array Value} {n : Nat} (I : Inst h x r) (e : ExtB l h h') (hl : h.get? l = some (listOf vs n)) : Inst h' x r := by
  obtain ⟨dx, od, ⟨h1, h2, h3, h4⟩, h5, h6⟩ := I.ex
  refine ⟨dx, od, ⟨e _ _ (fun q => ?_) h1, h2, h3, e _ _ (fun q => ?_) h4⟩, h5, h6⟩
  · rw [q, hl] at h1
    cases h1
  · have h4' : h.get? dx = some od := h4
    rw [q, hl] at h4'
    obtain rfl := Option.some.inj h4'
    cases h5
theorem Rows.extB {h h' : Heap} {vs : List Value} {kvs : List (Str × Str)} {l : Addr} {us : Array Value} {n : Nat} (R : Rows h vs kvs) (e : ExtB l h h') (hl : h.get? l = some (listOf us n)) : Rows h' vs kvs :=
  ⟨R.len, fun i v q => by
    obtain ⟨T, k, y, tk, ty, a, b, c⟩ := R.at_ i v q
    refine ⟨T, k, y, tk, ty, a, e _ _ (fun q => ?_) b, c⟩
    rw [q, hl] at b
    have b' : Value.type "list" = Value.type "tuple" := congrArg Obj.cls (Option.some.inj b)
    exact absurd b' (by decide)⟩
theorem Rows.snoc {h : Heap} {vs : List Value} {kvs : List (Str × Str)} {T : Addr} {k y : Str} {tk ty : Tok} (R : Rows h vs kvs) (hT : h.get? T = some { cls := .type "tuple", data := .seq #[.str k tk, .str y ty] }) : Rows h (vs ++ [.ref T]) (kvs ++ [(k, y)]) := by
  refine ⟨by simp [R.len], fun i v hv => ?_⟩
  rcases Nat.lt_or_ge i vs.length with hlt | hge
  · rw [List.getElem?_append_left hlt] at hv
    obtain ⟨T', k', y', tk', ty', a, b, c⟩ := R.at_ i v hv
    exact ⟨T', k', y', tk', ty', a, b, by rw [List.getElem?_append_left (by rw [← R.len]; exact hlt)]; exact c⟩
  · rw [List.getElem?_append_right hge] at hv
    have h0 : i - vs.length = 0 := by
      rcases Nat.eq_zero_or_pos (i - vs.length) with h0 | h0
      · exact h0
      · rw [List.getElem?_eq_none (by simp; omega)] at hv; cases hv
    rw [h0] at hv
    obtain rfl := (Option.some.inj hv).symm
    exact ⟨T, k, y, tk, ty, rfl, hT, by rw [List.getElem?_append_right (by rw [← R.len]; exact hge), ← R.len, h0]; rfl⟩
theorem enterME {A : Around} {s : Shared} {Q E : Value → Shared → Prop} {hw : Heap} {w : World} {mean : ExcName → Option Value} {mg mb : Str → Option Value} {l : Addr} {ol : Obj}
    {name qual : Str} {params : Arguments} {body : List Stmt} {scope : Scope} {dV kV doc pm cdv ct oc : Value} {an od : Option Addr} {osl : Array (Option Value)} {f : Addr} {pos : List Value} {kw : List (Str × Value)} {binds : List (Str × Value)}
    (W : Wd w mean mg mb hw) (hsub : Ext hw s.heap) (hoff : hw.get? l = none) (hled : s.heap.get? l = some ol)
    (ho : (Mine.hd.heap_39 w.params).lookup f = some ⟨oc, od, .func (fnOf name qual params body scope dV kV doc pm an cdv ct), osl⟩) (hcd : codeIn (Mine.hd.heap_39 w.params) cdv qual = true) (hroom : A.depth < recursionLimit)
    (hbind : BindsTo s (fnOf name qual params body scope dV kV doc pm an cdv ct) ⟨pos, kw⟩ binds)
    (hkind : (binds.all fun y => scope.names.lookup y.1 == some .local || scope.names.lookup y.1 == some .cell) = true)
    (hks : (scope.names.all fun x => x.2 != .cell || scope.names.lookup x.1 == some .cell) = true)
    (hnd : ((cellsFrom 0 scope.names []).map (·.1)).Nodup)
    (hco : scope.isCoroutine = false) (hgen : scope.isGenerator = false) (hk : scope.kind = .function)
    (h : ∀ L s₀ s₁ env own m, (∀ x v, binds.reverse.lookup x = some v → m x = some v) → Go s s₀ → ExtB l s.heap s₀.heap → Ext s₀.heap s.heap → Wd w mean mg mb s₀.heap → EnvIs env (envX qual scope L f cdv (cellsFrom (L + 1) scope.names [])) → OwnIs own (cellsFrom (L + 1) scope.names []) → Sta s₀ env own s₁ m [(l, ol)] →
      wpAny (model PG w) (A.deeper env) (execs body env) (fun fl s' => Q (retOf fl) s') (fun _ _ => False) s₁) : wpAny (model PG w) A (call (.ref f) pos kw) Q E s :=
  enterM (led := [(l, ol)]) W hsub (fun p hp => by rw [List.mem_singleton.mp hp]; exact hoff) (fun p hp => by rw [List.mem_singleton.mp hp]; exact hled) (by simp) ho hcd hroom hbind hkind hks hnd
    (fun L s₁ W' S => h L _ s₁ _ _ _ (fun _ _ e => e) Go.heap (fun b o hb e => hideAll_get _ e (by simpa using hb)) (fun b o e => of_hideAll _ e) W' ⟨rfl⟩ ⟨rfl⟩ S) hco hgen hk
theorem Sta.addB {s₀ s s' : Shared} {env : Env} {own : List (Str × Addr)} {m : Str → Option Value} {news : List (Addr × Obj)} {l T : Addr} {o o' oT : Obj} (S : Sta s₀ env own s m ((l, o) :: news)) (g : Go s s') (e : ExtB l s.heap s'.heap) (ho : s'.heap.get? l = some o')
    (hn : s.heap.get? T = none) (hT : s'.heap.get? T = some oT) : Sta s₀ env own s' m ((l, o') :: (T, oT) :: news) := by
  obtain ⟨ha, hb, hc, hd⟩ := S.made _ (.head _)
  obtain ⟨ml, n1, n2⟩ := S.ns
  obtain ⟨hx, hy⟩ := List.nodup_cons.mp S.nodup
  have hTl : T ≠ l := get_ne hn ha
  refine ⟨S.go.trans g, fun b o q => e b o (fun r => by rw [r, hb] at q; cases q) (S.keep _ _ q), ⟨ml, n1.at' fun o q => e _ o (Ne.symm hc) q, n2⟩, fun n c hcell => ?_, S.kinds, S.addrs, S.offL, S.newL, S.newC, S.ownIn, S.whose, fun p hp => ?_, ?_⟩
  · obtain ⟨oc, q1, q2⟩ := S.cell n c hcell
    refine ⟨oc, e _ _ (fun r => ?_) q1, q2⟩
    rcases S.whose n c hcell with hw | ⟨o1, hw⟩
    · exact hd _ hw r.symm
    · exact get_ne hb hw r.symm
  · rcases List.mem_cons.mp hp with q | hp
    · subst q
      exact ⟨ho, hb, hc, hd⟩
    rcases List.mem_cons.mp hp with q | hp
    · subst q
      refine ⟨hT, ?_, ?_, fun q hq => ?_⟩
      · cases q : s₀.heap.get? T with
        | none => exact Eq.refl _
        | some o' => rw [S.keep _ _ q] at hn; cases hn
      · obtain ⟨_, eL⟩ := S.hasL
        exact get_ne hn eL
      · obtain ⟨_, eC⟩ := S.hasC q hq
        exact get_ne hn eC
    · obtain ⟨h1, h2, h3, h4⟩ := S.made p (.tail _ hp)
      exact ⟨e _ _ (fun r => hx (List.mem_map.mpr ⟨p, hp, r⟩)) h1, h2, h3, h4⟩
  · refine List.nodup_cons.mpr ⟨fun hm => ?_, List.nodup_cons.mpr ⟨fun hm => ?_, hy⟩⟩
    · rcases List.mem_cons.mp hm with q | hm
      · exact hTl q.symm
      · exact hx hm
    · obtain ⟨p, hp, q⟩ := List.mem_map.mp hm
      exact get_ne hn (S.made p (.tail _ hp)).1 q.symm
section
variable {w : World} {A : Around} {s : Shared} {mean : ExcName → Option Value} {mg mb : Str → Option Value} {Q E : Value → Shared → Prop} {x l : Addr}
theorem setdefault_c {hw : Heap} (W : Wd w mean mg mb hw) (hsub : Ext hw s.heap) (hoff : hw.get? l = none) (hA : Ok A 2) (I : Inst s.heap x l) {vs : List Value} {n : Nat} {kvs : List (Str × Str)} (hl : s.heap.get? l = some (listOf vs.toArray n)) (R : Rows s.heap vs kvs) (hk : ∀ p ∈ kvs, Low p.1) (hlen : vs.length ≤ 100)
    {k y : Str} {tk ty : Tok} (hkk : Low k) (hy : Tame y)
    (h1 : ∀ s' z t, getF kvs k = some z → Go s s' → Ext s.heap s'.heap → Q (.str z t) s')
    (h2 : ∀ s' T e, getF kvs k = none → Go s s' → ExtB l s.heap s'.heap → s'.heap.get? l = some (listOf (vs ++ [Value.ref T]).toArray e) → s'.heap.get? T = some { cls := .type "tuple", data := .seq #[.str k tk, .str y ty] } → s.heap.get? T = none → Q (.str y ty) s') :
    wpAny (model PG w) A (call (.ref 182) [.ref x, .str k tk, .str y ty] []) Q E s := by
  refine' enterME ?mW ?mu ?mf ?ml ?mo ?mc ?md ?mb ?mk ?ms ?mn ?m1 ?m2 ?m3 ?_
  case mW => exact W
  case mu => exact hsub
  case mf => exact hoff
  case ml => exact hl
  case mo => k_is
  case mc => k_is
  case md => exact Nat.lt_of_le_of_lt (Nat.le_add_right _ _) hA.dp
  case mb => exact BindsTo.of_eq rfl
  case mk => exact rfl
  case ms => exact rfl
  case mn => decide
  case m1 => exact rfl
  case m2 => exact rfl
  case m3 => exact rfl
  intro L s₀ s₁ env own m hm g0 e0 b0 W₀ he ho S
  have hh : A.handled = none := hA.hd
  have hm1 : m (Str.ofString "self") = some (.ref x) := hm _ _ rfl
  have hm2 : m (Str.ofString "name") = some (.str k tk) := hm _ _ rfl
  have hm3 : m (Str.ofString "value") = some (.str y ty) := hm _ _ rfl
  clear hm
  have I₀ : Inst s₀.heap x l := I.extB e0 hl
  have R₀ : Rows s₀.heap vs kvs := R.extB e0 hl
  (try k_unmd)
  k_fold
  walk_at "m:all"
  have hO := (hA.deeper env)
  have hlS : ∀ {s' m' n'}, Sta s₀ env own s' m' ((l, listOf vs.toArray n) :: n') → s'.heap.IsList l vs.toArray := fun S => isL (S.get (.head _))
  refine get_c (W₀.ext (Sta.keep (by assumption))) hO (I₀.ext (Sta.keep (by assumption))) (hlS (by assumption)) (R₀.ext (Sta.keep (by assumption))) hk hkk fun s2 v g2 e2 hv => ?_
  have S2 := S.grow g2 e2
  clear S
  walk_at "m:all"
  cases hg : getF kvs k with
  | some z =>
    rw [hg] at hv
    obtain ⟨tz, rfl⟩ := hv
    walk_at "m:all"
    rename_i S9
    refine h1 _ z tz hg (g0.trans S9.go) fun b o e => ?_
    by_cases q : b = l
    · subst q
      rw [hl] at e
      rw [← Option.some.inj e]
      exact S9.get (.head _)
    · exact S9.keep _ _ (e0 _ _ q e)
  | none =>
    rw [hg] at hv
    obtain rfl := hv
    walk_at "m:all"
    refine n_kw1 ?_
    walk_at "m:all"
    refine convert_c (W₀.ext (Sta.keep (by assumption))) (hO.less (by decide)) hkk.1 fun s3 g3 e3 => ?_
    rename_i S9
    have S3 := S9.grow g3 e3
    clear S9
    walk_at "m:all"
    refine n_kw1 ?_
    walk_at "m:all"
    refine convert_c (W₀.ext (Sta.keep (by assumption))) (hO.less (by decide)) hy fun s4 g4 e4 => ?_
    have S4 := S3.grow g4 e4
    walk_at "m:all"
    rename_i T s5 S5
    have hz := slz
    refine o_append S5.swap (by omega) fun e' s6 S6 => ?_
    walk_at "m:all"
    exact h2 _ T e' hg (g0.trans S6.go) (fun b o hb e => S6.keep _ _ (e0 _ _ hb e)) (S6.get (.head _)) (S6.get (.tail _ (.head _))) (by
      obtain ⟨_, x2, _, _⟩ := S6.made _ (.tail _ (.head _))
      have hne : T ≠ l := fun q => by
        have := S6.nodup
        simp [q] at this
      cases q : s.heap.get? T with
      | none => rfl
      | some o =>
        have := e0 _ _ hne q
        rw [x2] at this
        cases this)
end
end
-- L11
section
theorem enterMC {prog : Program} {w : World} {A : Around} {s : Shared} {mean : ExcName → Option Value} {mg mb : Str → Option Value} {R : Result → Shared → Prop} {hw : Heap} {led : List (Addr × Obj)}
    {name qual : Str} {params : Arguments} {body : List Stmt} {scope : Scope} {dV kV doc pm cdv ct oc : Value} {an od : Option Addr} {osl : Array (Option Value)} {f : Addr} {pos : List Value} {kw : List (Str × Value)} {binds : List (Str × Value)}
    (W : Wd w mean mg mb hw) (hsub : Ext hw s.heap) (hoff : ∀ p ∈ led, hw.get? p.1 = none) (hled : ∀ p ∈ led, s.heap.get? p.1 = some p.2) (hnd' : (led.map (·.1)).Nodup)
    (ho : (Mine.hd.heap_39 w.params).lookup f = some ⟨oc, od, .func (fnOf name qual params body scope dV kV doc pm an cdv ct), osl⟩) (hcd : codeIn (Mine.hd.heap_39 w.params) cdv qual = true) (hroom : A.depth < recursionLimit)
    (hbind : BindsTo s (fnOf name qual params body scope dV kV doc pm an cdv ct) ⟨pos, kw⟩ binds)
    (hkind : (binds.all fun y => scope.names.lookup y.1 == some .local || scope.names.lookup y.1 == some .cell) = true)
    (hks : (scope.names.all fun x => x.2 != .cell || scope.names.lookup x.1 == some .cell) = true)
    (hnd : ((cellsFrom 0 scope.names []).map (·.1)).Nodup)
    (h : ∀ L s₁, Wd w mean mg mb (hideAll s.heap (led.map (·.1))) → Sta { s with heap := hideAll s.heap (led.map (·.1)) } (envX qual scope L f cdv (cellsFrom (L + 1) scope.names [])) (cellsFrom (L + 1) scope.names []) s₁ (fun y => binds.reverse.lookup y) led →
      wpAny (model prog w) (A.deeper (envX qual scope L f cdv (cellsFrom (L + 1) scope.names []))) (execs body (envX qual scope L f cdv (cellsFrom (L + 1) scope.names [])))
        (fun fl s' => R (.ok (.ret (retOf fl))) s') (fun _ _ => False) s₁)
    (hco : scope.isCoroutine = false) (hgen : scope.isGenerator = false) (hk : scope.kind = .function) : codeAny (model prog w) A (.call (.ref f) ⟨pos, kw⟩) R s := by
  have W' : Wd w mean mg mb (hideAll s.heap (led.map (·.1))) := W.ext fun b o e => hideAll_get _ (hsub b o e) fun q => by
    obtain ⟨p, hp, q⟩ := List.mem_map.mp q
    have := hoff p hp
    rw [q, e] at this
    cases this
  refine codeAny_call_function hroom (W.K.keeps hsub _ _ ho) rfl hco hgen rfl (codeRec_of (W.K.keeps hsub) hcd) (hbind _ _ _ _ ?_)
  refine wpAny_newFunctionEnv_cells hk (kindsX hkind _) fun env' he s' x => ?_
  subst he
  refine ⟨(W.T.nolimit.keeps hsub).keeps x.toInCall.keep, codeAny_func ?_⟩
  refine wpAny_mono (h s.heap.objs.size s' W' ?_) (fun fl s'' hq => ?_) fun _ _ y => y.elim
  · have hcm : ∀ {n : Str} {c : Addr}, (cellsFrom (s.heap.objs.size + 1) scope.names []).lookup n = some c → (n, NameKind.cell) ∈ scope.names ∧ s.heap.objs.size + 1 ≤ c := fun hc => by
      rcases cellsFrom_mem _ _ _ (mem_of_lookup hc) with q | q
      · cases q
      · exact q
    have hkn : ∀ n c, (cellsFrom (s.heap.objs.size + 1) scope.names []).lookup n = some c → scope.names.lookup n ≠ some .local := fun n c hc => by
      have h2 := List.all_eq_true.mp hks _ (hcm hc).1
      simp at h2
      rw [h2]
      decide
    have none_at : ∀ c, s.heap.objs.size ≤ c → (hideAll s.heap (led.map (·.1))).get? c = none := fun c hc => by
      cases q : (hideAll s.heap (led.map (·.1))).get? c with
      | none => rfl
      | some o => exact absurd (Heap.lt_size (of_hideAll _ q)) (Nat.not_lt.mpr hc)
    obtain ⟨h₁, tk, e1, hk₁⟩ := x.done
    refine ⟨?_, fun b o e => x.toInCall.keep b o (of_hideAll _ e), ⟨_, x.toInCall.ns, fun y hy => ?_⟩, fun n c hc => ?_, hkn, x.apart, fun n c hc => ?_, none_at _ (Nat.le_refl _), fun p hp => ?_, fun p hp => ?_, fun n c hc => .inl (mem_of_lookup hc), fun p hp => ?_, hnd'⟩
    · rw [e1]
      exact ⟨h₁, tk, rfl⟩
    · refine (bindL_lookup hy binds _).trans ?_
      simp
    · have := x.cell n c hc
      have q := bindC_lookup (k := (envX qual scope s.heap.objs.size f cdv (cellsFrom (s.heap.objs.size + 1) scope.names [])).kindOf) (x := n) (hkn n c hc) binds (fun _ => none)
      rw [Option.or_none] at q
      rw [← q]
      exact this
    · exact Nat.ne_of_gt (x.above n c (mem_of_lookup hc))
    · rcases cellsFrom_mem _ _ _ hp with q | q
      · cases q
      · exact none_at _ (by omega)
    · exact lookup_of_mem_nodup (by
        have := cellsFrom_names scope.names 0 (s.heap.objs.size + 1) [] [] rfl
        rw [← this]
        exact hnd) hp
    · have e := hled p hp
      refine ⟨hk₁ _ _ e |> fun z => by rw [e1]; exact z, hideAll_none _ (List.mem_map_of_mem hp), Nat.ne_of_lt (Heap.lt_size e), fun q hq => ?_⟩
      rcases cellsFrom_mem _ _ _ hq with r | r
      · cases r
      · exact Nat.ne_of_lt (Nat.lt_of_lt_of_le (Nat.lt_succ_of_lt (Heap.lt_size e)) r.2)
  · cases fl <;> exact hq

end
-- L12
section
section
variable {prog : Program} {w : World} {A : Around} {s₀ s : Shared} {env : Env} {own : List (Str × Addr)} {m : Str → Option Value} {mean : ExcName → Option Value} {mg mb : Str → Option Value} {K : Frag} {C x : Addr} {R : Result → Shared → Prop} {news : List (Addr × Obj)}
theorem osa_sta {ox od' : Obj} {dx : Addr} {name : Str} {tk : Tok} {v : Value} {es es₀ : List DictEntry} {n n₀ : Nat} (S : Sta s₀ env own s m ((dx, dictOf es₀ n₀) :: news)) (X : K.In s.heap)
    (I : PySem.W.InstAt s.heap x ox C (some (dictOf es₀ n₀))) (hd : ox.dict = some dx) (hp : plainOver K C = true) (ht : takerIn K C name = some none) (hh : (clsIn K C).any (·.hasDict) = true)
    (hl : (lookIn name (dictOf es₀ n₀)).isSome = true)
    (e : Obj.putName name (PyData.keyHash w.params name) (.str name s.toks) v (dictOf es₀ n₀) = od') (e' : od' = dictOf es n) (hz : es.length ≤ 1000)
    (h : Nx s₀ env own m ((dx, od') :: news) (R (.ok (.ret .none)))) :
    codeAny (model prog w) A (.call (.builtin "object.__setattr__") ⟨[.ref x, .str name tk, v], []⟩) R s := by
  refine osa_open X I hp ht fun b => ?_
  obtain ⟨cd, hc, hd'⟩ := any_some hh
  have D := S.get (.head _)
  have D' : (s.heap.update dx (Obj.putName name (PyData.keyHash w.params name) (.str name s.toks) v)).get? dx = some od' := by
    rw [Heap.get?_update_self _ D (by rw [e, e']; rfl), e]
  obtain ⟨hx, hcl, hn, -⟩ := I
  obtain ⟨oc, odi, oda, osl⟩ := ox
  dsimp only at hcl hd
  subst hcl hd
  refine wpAny_bind (wpAny_pure (wpAny_bind (wpAny_bind (wpAny_loadPart hx (wpAny_bind ((looks_clsIn X hc).here ?_))))))
  rw [hd']
  refine wpAny_pure (a := some dx) (wpAny_bind (wpAny_pure (wpAny_bind ?_)))
  unfold nsSet
  refine wpAny_bind (wpAny_bind (wpAny_askSetting (wpAny_pure (wpAny_bind (wpAny_mkText (wpAny_bind (wpAny_loadPart D ?_)))))))
  have hl' : (getL name es₀).isSome = true := hl
  have c : (!es₀.toArray.any (·.key.isStr name) && es₀.toArray.any (·.refKey)) = false := by
    rw [← Array.any_toList, ← Array.any_toList]
    unfold getL at hl'
    split at hl'
    · rename_i en he
      rw [List.any_eq_true.mpr ⟨en, List.mem_of_find?_eq_some he, List.find?_some he⟩]; rfl
    · split at hl'
      · cases hl'
      · rename_i z; rw [Bool.not_eq_true] at z; rw [z, Bool.and_false]
  dsimp only
  rw [aRefKeyMayBeTheName_at, c]
  refine wpAny_updatePart D ?_
  refine wpAny_bind (wpAny_lookBehind D' (by rw [e']; exact pastItsLine_dict (by rw [List.size_toArray, sizeLine_eq]; omega)) ?_)
  exact wpAny_pure (h _ (S.put Go.mk (Heap.SameBut.update ..) D'))
end
end
-- L13
section
section
variable {w : World} {A : Around} {s₀ s : Shared} {env lit : Env} {own : List (Str × Addr)} {m : Str → Option Value} {mean : ExcName → Option Value} {mg mb : Str → Option Value} {x : Addr} {news : List (Addr × Obj)} {E : Value → Shared → Prop}
theorem o_setHeaders {dx : Addr} {v : Value} {Q : Unit → Shared → Prop} (S : Sta s₀ env own s m ((dx, dictOf [] 0) :: news)) (W : Wd w mean mg mb s₀.heap) (hx : s₀.heap.get? x = some (instObj 192 dx))
    (h : ∀ od, lookIn (Str.ofString "_headers") od = some (some v) → (∀ nm ∈ [Str.ofString "_convert_string_type", Str.ofString "get", Str.ofString "keys", Str.ofString "setdefault"], shadowIn (some od) nm = some false) →
      Nx s₀ env own m ((dx, od) :: news) (Q ())) : wpAny (model PG w) A (setAttr (.ref x) (Str.ofString "_headers") v) Q E s := by
  have I : PySem.W.InstAt s.heap x (instObj 192 dx) 192 (some (dictOf [] 0)) := ⟨S.keep _ _ hx, rfl, rfl, S.get (.head _)⟩
  have X := W.K.keeps S.keep
  refine' set_plain X I ?k1 ?_
  case k1 => k_is
  refine' osa_sta (C := 192) (S.toks _) X I rfl ?k2 ?k3 ?k4 rfl rfl ?k7 ?k8 (h _ ?k5 ?k6)
  case k2 => k_is
  case k3 => k_is
  case k4 =>
    show hasDictIn _ _ = true
    k_is
  case k7 => exact putName_dict _ _ _ _ _ _
  case k8 => exact Nat.le_of_ble_eq_true rfl
  case k5 => rfl
  case k6 =>
    intro nm hnm
    simp only [List.mem_cons, List.not_mem_nil, or_false] at hnm
    rcases hnm with rfl | rfl | rfl | rfl <;> rfl
/-- the name space of a table whose list is l -/
def IsTab (od : Obj) (l : Addr) : Prop := lookIn (Str.ofString "_headers") od = some (some (.ref l)) ∧ ∀ nm ∈ [Str.ofString "_convert_string_type", Str.ofString "get", Str.ofString "keys", Str.ofString "setdefault"], shadowIn (some od) nm = some false
theorem IsTab.inst {h : Heap} {x dx l : Addr} {od : Obj} (t : IsTab od l) (h1 : h.get? x = some (instObj 192 dx)) (h2 : h.get? dx = some od) : Inst h x l := ⟨dx, od, ⟨h1, rfl, rfl, h2⟩, t.1, t.2⟩
theorem n_setAttr {o value : Expr} {attr : Str} {pos' pos : Pos} {Q : Flow → Shared → Prop} (he : EnvIs env lit) (hs : swapsWith value (some (.Attribute o attr pos')) pos.line lit = pure false)
    (h : wpAny (model PG w) A (eval value env) (fun v s₁ => wpAny (model PG w) A (eval o env) (fun ov s₂ => wpAny (model PG w) A (setAttr ov attr v) (fun _ => Q .next) E s₂) E s₁) E s) :
    wpAny (model PG w) A (exec (.Assign [.Attribute o attr pos'] value pos) env) Q E s := plainObj_wpAny_Assign_Attribute h (he.eq ▸ hs)
end
theorem enterMCE {A : Around} {s : Shared} {R : Result → Shared → Prop} {hw : Heap} {w : World} {mean : ExcName → Option Value} {mg mb : Str → Option Value} {l : Addr} {ol : Obj}
    {name qual : Str} {params : Arguments} {body : List Stmt} {scope : Scope} {dV kV doc pm cdv ct oc : Value} {an od : Option Addr} {osl : Array (Option Value)} {f : Addr} {pos : List Value} {kw : List (Str × Value)} {binds : List (Str × Value)}
    (W : Wd w mean mg mb hw) (hsub : Ext hw s.heap) (hoff : hw.get? l = none) (hled : s.heap.get? l = some ol)
    (ho : (Mine.hd.heap_39 w.params).lookup f = some ⟨oc, od, .func (fnOf name qual params body scope dV kV doc pm an cdv ct), osl⟩) (hcd : codeIn (Mine.hd.heap_39 w.params) cdv qual = true) (hroom : A.depth < recursionLimit)
    (hbind : BindsTo s (fnOf name qual params body scope dV kV doc pm an cdv ct) ⟨pos, kw⟩ binds)
    (hkind : (binds.all fun y => scope.names.lookup y.1 == some .local || scope.names.lookup y.1 == some .cell) = true)
    (hks : (scope.names.all fun x => x.2 != .cell || scope.names.lookup x.1 == some .cell) = true)
    (hnd : ((cellsFrom 0 scope.names []).map (·.1)).Nodup)
    (hco : scope.isCoroutine = false) (hgen : scope.isGenerator = false) (hk : scope.kind = .function)
    (h : ∀ L s₀ s₁ env own m, (∀ x v, binds.reverse.lookup x = some v → m x = some v) → Go s s₀ → ExtB l s.heap s₀.heap → Ext s₀.heap s.heap → Wd w mean mg mb s₀.heap → EnvIs env (envX qual scope L f cdv (cellsFrom (L + 1) scope.names [])) → OwnIs own (cellsFrom (L + 1) scope.names []) → Sta s₀ env own s₁ m [(l, ol)] →
      wpAny (model PG w) (A.deeper env) (execs body env) (fun fl s' => R (.ok (.ret (retOf fl))) s') (fun _ _ => False) s₁) : codeAny (model PG w) A (.call (.ref f) ⟨pos, kw⟩) R s :=
  enterMC (led := [(l, ol)]) W hsub (fun p hp => by rw [List.mem_singleton.mp hp]; exact hoff) (fun p hp => by rw [List.mem_singleton.mp hp]; exact hled) (by simp) ho hcd hroom hbind hkind hks hnd
    (fun L s₁ W' S => h L _ s₁ _ _ _ (fun _ _ e => e) Go.heap (fun b o hb e => hideAll_get _ e (by simpa using hb)) (fun b o e => of_hideAll _ e) W' ⟨rfl⟩ ⟨rfl⟩ S) hco hgen hk
section
variable {w : World} {A : Around} {s : Shared} {mean : ExcName → Option Value} {mg mb : Str → Option Value} {Q E : Value → Shared → Prop}
theorem init_c {hw : Heap} {R : Result → Shared → Prop} {x dx : Addr} (W : Wd w mean mg mb hw) (hsub : Ext hw s.heap) (hoff : hw.get? dx = none) (hA : Ok A 1) (hx : s.heap.get? x = some (instObj 192 dx)) (hdx : s.heap.get? dx = some (dictOf [] 0))
    (h : ∀ s' l e, Go s s' → ExtB dx s.heap s'.heap → s.heap.get? l = none → s'.heap.get? l = some (listOf #[] e) → (∃ od, s'.heap.get? dx = some od ∧ IsTab od l) → l ≠ x → l ≠ dx → R (.ok (.ret .none)) s') :
    codeAny (model PG w) A (.call (.ref 84) ⟨[.ref x], []⟩) R s := by
  refine' enterMCE ?mW ?mu ?mf ?ml ?mo ?mc ?md ?mb ?mk ?ms ?mn ?m1 ?m2 ?m3 ?_
  case mW => exact W
  case mu => exact hsub
  case mf => exact hoff
  case ml => exact hdx
  case mo => k_is
  case mc => k_is
  case md => exact Nat.lt_of_le_of_lt (Nat.le_add_right _ _) hA.dp
  case mb =>
    refine' binds_dflt (W.K.keeps hsub) ?d1 ?d2 ?d3 ?d4 ?d5
    case d1 => exact rfl
    case d2 => k_is
    case d3 => exact rfl
    case d4 => exact rfl
    case d5 => exact rfl
  case mk => exact rfl
  case ms => exact rfl
  case mn => decide
  case m1 => exact rfl
  case m2 => exact rfl
  case m3 => exact rfl
  intro L s₀ s₁ env own m hm g0 e0 b0 W₀ he ho S
  have hh : A.handled = none := hA.hd
  have hm1 : m (Str.ofString "self") = some (.ref x) := hm _ _ rfl
  have hm2 : m (Str.ofString "headers") = some .none := hm _ _ rfl
  clear hm
  have hxd : x ≠ dx := fun q => by
    rw [q, hdx] at hx
    have b' : Value.type "dict" = Value.ref 192 := congrArg Obj.cls (Option.some.inj hx)
    exact absurd b' (by decide)
  have hx' : s₀.heap.get? x = some (instObj 192 dx) := e0 _ _ hxd hx
  have n0 : ∀ b, s₀.heap.get? b = none → b ≠ dx → s.heap.get? b = none := fun b hb hbd => by
    cases q : s.heap.get? b with
    | none => rfl
    | some o =>
      have := e0 b o hbd q
      rw [hb] at this
      cases this
  (try k_unmd)
  k_fold
  walk_at "m:all"
  rename_i a s2 S2 s3 S3
  refine PySem.call_type_of (Tx := "list") ⟨_, S3.get (.head _), rfl⟩ (by decide) ?_
  walk_at "m:all"
  refine n_setAttr he rfl ?_
  walk_at "m:all"
  refine o_setHeaders S3.swap W₀ hx' fun od q1 q2 s4 S4 => ?_
  walk_at "m:all"
  refine for_tups (vs := []) (fun i m' n' => n' = [(dx, od), (a, listOf #[] 0)]) hh S4 (isL (S4.get (.tail _ (.head _)))) (fun v hv => by cases hv) rfl (.inr ⟨_, fun _ _ _ q => by rw [q]; exact .tail _ (.head _)⟩) ?turn ?done
  case turn =>
    intro i v s6 m6 n6 a6 oo hi
    exact absurd hi (Nat.not_lt_zero _)
  case done =>
    rintro s6 m6 n6 rfl S6
    walk_at "m:all"
    obtain ⟨x1, x2, _, _⟩ := S6.made _ (.tail _ (.head _))
    have hne : a ≠ dx := fun q => by
      have := S6.nodup
      simp [q] at this
    exact h _ a 0 (g0.trans S6.go) (fun b o hb e => S6.keep _ _ (e0 _ _ hb e)) (n0 _ x2 hne) x1 ⟨od, S6.get (.head _), q1, q2⟩ (get_ne x2 hx') hne
theorem headers_c (W : Wd w mean mg mb s.heap) (hA : Ok A 2)
    (h : ∀ s' x dx l od e, Go s s' → Ext s.heap s'.heap → s.heap.get? l = none → s.heap.get? x = none → s.heap.get? dx = none → s'.heap.get? l = some (listOf #[] e) → s'.heap.get? x = some (instObj 192 dx) → s'.heap.get? dx = some od → IsTab od l → l ≠ x → l ≠ dx → x ≠ dx → Q (.ref x) s') :
    wpAny (model PG w) A (call (.ref 192) [] []) Q E s := by
  obtain ⟨hh, g, d, t, os⟩ := s
  refine' wpAny_call (make_core (makes_of W.K ?k1) (looks_findIn W.K (r := some (.ref 84)) ?k2) (fun self => bind_fn W.K self ?k3) (.inl rfl) ?_)
  case k1 => k_is
  case k2 => k_is
  case k3 => k_is
  have hwt : (Code.builtin "type.__call__" ⟨[.ref 192], []⟩).weight = 1 := by with_unfolding_all rfl
  have hut : (Code.builtin "type.__call__" ⟨[.ref 192], []⟩).cUnits = 1 := by with_unfolding_all rfl
  have hd : (((hh.push emptyDict).push (instObj 192 hh.objs.size))).get? hh.objs.size = some emptyDict := Heap.get?_push_of_some _ (Heap.get?_push_size _ rfl)
  have hx : (((hh.push emptyDict).push (instObj 192 hh.objs.size))).get? (hh.objs.size + 1) = some (instObj 192 hh.objs.size) := by
    have := Heap.get?_push_size (hh.push emptyDict) (o := instObj 192 hh.objs.size) rfl
    rwa [Heap.size_push] at this
  have sub : Ext hh ((hh.push emptyDict).push (instObj 192 hh.objs.size)) := fun b o e => Heap.get?_push_of_some _ (Heap.get?_push_of_some _ e)
  have off : ∀ b, hh.objs.size ≤ b → hh.get? b = none := fun b hb => by
    cases q : hh.get? b with
    | none => rfl
    | some o => exact absurd (Heap.lt_size q) (Nat.not_lt.mpr hb)
  refine init_c (hw := hh) W sub (off _ (Nat.le_refl _)) ⟨hA.hd, by have := hA.dp; show A.depth + (Code.builtin "type.__call__" ⟨[.ref 192], []⟩).weight + 1 < _; rw [hwt]; omega, by have := hA.un; show A.units + (Code.builtin "type.__call__" ⟨[.ref 192], []⟩).cUnits + 10 * 1 + 200 < _; rw [hut]; omega⟩ hx hd fun s' l e g1 e1 n1 l1 I d1 d2 => ?_
  obtain ⟨od, i1, i2⟩ := I
  have hsz : (hh.objs.size + 1 : Nat) ≠ hh.objs.size := by omega
  refine ⟨rfl, h s' _ _ l od e (Go.trans Go.heap g1) (fun b o q => e1 b o (fun r => ?_) (sub b o q)) ?_ (off _ (Nat.le_succ _)) (off _ (Nat.le_refl _)) l1 (e1 _ _ hsz hx) i1 i2 d1 d2 hsz⟩
  · rw [r] at q
    exact absurd (Heap.lt_size q) (Nat.lt_irrefl _)
  · cases q : hh.get? l with
    | none => rfl
    | some o =>
      rw [sub _ _ q] at n1
      cases n1
end
end
-- L14
section
/-- a pattern: what stands before the dots, and what behind them -/
structure Pat (k f e : Str) : Prop where
  has : Txt.contains k (Str.ofString "...") = true
  cut : Txt.split k (Str.ofString "...") = [f, e]
  parts : (Builtin.Str.partsBetween k (Builtin.Str.occurrences k (Str.ofString "...") 0 k.length (k.length + 1)) (Str.ofString "...").length).length ≤ 1000
  fl : f.length ≤ 100
  el : e.length ≤ 100
  low : Low k
  up : Low (Txt.upper k)
def decF (mt : Str → Bool) (kvs : List (Str × Str)) : Option Str := match kvs.find? (fun p => mt p.1) with
  | some p => getF kvs (Txt.upper p.1)
  | none => some (Str.ofString "")
theorem find_hit {mt : Str → Bool} {k y : Str} : ∀ {kvs : List (Str × Str)} {i : Nat}, (∀ p ∈ kvs.take i, mt p.1 = false) → kvs[i]? = some (k, y) → mt k = true → kvs.find? (fun p => mt p.1) = some (k, y)
  | [], i, _, h2, _ => by cases h2
  | q :: r, 0, _, h2, h3 => by
    obtain rfl := Option.some.inj h2
    rw [List.find?_cons, h3]
  | q :: r, i + 1, h1, h2, h3 => by
    have hq : mt q.1 = false := h1 q (by simp)
    rw [List.find?_cons, hq]
    exact find_hit (i := i) (fun p hp => h1 p (by rw [List.take_succ_cons]; exact .tail _ hp)) (by simpa using h2) h3
theorem decF_hit {mt : Str → Bool} {kvs : List (Str × Str)} {i : Nat} {k y : Str} (h1 : ∀ p ∈ kvs.take i, mt p.1 = false) (h2 : kvs[i]? = some (k, y)) (h3 : mt k = true) : decF mt kvs = getF kvs (Txt.upper k) := by
  unfold decF
  rw [find_hit h1 h2 h3]
theorem decF_miss {mt : Str → Bool} {kvs : List (Str × Str)} (h : ∀ p ∈ kvs, mt p.1 = false) : decF mt kvs = some (Str.ofString "") := by
  unfold decF
  rw [List.find?_eq_none.mpr fun p hp => by rw [h p hp]; decide]
section
variable {w : World} {A : Around} {s : Shared} {mean : ExcName → Option Value} {mg mb : Str → Option Value} {Q E : Value → Shared → Prop} {x l : Addr}
theorem decided_c (W : Wd w mean mg mb s.heap) (hA : Ok A 3) (I : Inst s.heap x l) {vs : List Value} {kvs : List (Str × Str)} (hl : s.heap.IsList l vs.toArray) (R : Rows s.heap vs kvs) (hn : kvs.length ≤ 100) {n : Str} {t : Tok} (hnl : n.length ≤ 1000)
    {mt : Str → Bool} (hk : ∀ p ∈ kvs, ∃ f e, Pat p.1 f e ∧ matchB f e n = mt p.1)
    (h : ∀ s' v, Go s s' → Ext s.heap s'.heap → OptV (decF mt kvs) v → Q v s') :
    wpAny (model PG w) A (call (.ref 241) [.ref x, .str n t] []) Q E s := by
  walk_at "m:enter"
  case md => exact Nat.lt_of_le_of_lt (Nat.le_add_right _ _) hA.dp
  intro L s₁ env own m hm he ho S
  have hh : A.handled = none := hA.hd
  have hm1 : m (Str.ofString "table") = some (.ref x) := hm _ _ rfl
  have hm2 : m (Str.ofString "name") = some (.str n t) := hm _ _ rfl
  clear hm
  (try k_unmd)
  k_fold
  have hO := hA.deeper env
  walk_at "m:all"
  refine keys_c (W.ext S.keep) (hO.less (by decide)) (I.ext S.keep) (hl.at fun o q => S.keep _ _ q) (R.ext S.keep) hn fun s2 a ys e g2 e2 n2 l2 hys => ?_
  have S2 := S.add g2 e2 n2 l2
  walk_at "m:all"
  refine for_list (vs := ys) (fun i m' n' => m' (Str.ofString "table") = some (.ref x) ∧ m' (Str.ofString "name") = some (.str n t) ∧ n' = [(a, listOf ys.toArray e)] ∧ ∀ p ∈ kvs.take i, mt p.1 = false) hh S2 (isL (S2.get (.head _))) ⟨by walk_at "m:look", by walk_at "m:look", rfl, fun p hp => by simp at hp⟩ (.inr ⟨_, fun _ _ _ q => by rw [q.2.2.1]; exact .head _⟩) ?turn ?done
  case turn =>
    rintro i v s6 m6 n6 a6 oo hi hv ⟨g1, g3, rfl, g4⟩ S6
    obtain ⟨k, tk, rfl, hk1⟩ := hys.2 i v hv
    obtain ⟨⟨k', y⟩, hkv, hke⟩ : ∃ p, kvs[i]? = some p ∧ p.1 = k := by
      rw [List.getElem?_map] at hk1
      exact Option.map_eq_some_iff.mp hk1
    obtain rfl : k' = k := hke
    obtain ⟨f, e', P, hmt⟩ := hk _ (List.mem_of_getElem? hkv)
    have hup := P.up.1.short
    walk_at "m:all"
    refine ellipsis_c (W.ext (Sta.keep (by assumption))) (hO.less (by decide)) P.has P.cut P.parts (Nat.le_trans P.low.1.2 (by decide)) P.fl P.el hnl fun s7 g7 e7 => ?_
    rename_i S9
    have S7 := S9.grow g7 e7
    clear S9
    rw [hmt]
    walk_at "m:all"
    refine ite_b (fun c => ?_) fun c => ?_
    · walk_at "m:all"
      rename_i S9
      refine get_c (W.ext S9.keep) (hO.less (by decide)) (I.ext S9.keep) (hl.at fun o q => S9.keep _ _ q) (R.ext S9.keep) (fun p hp => ?_) P.up fun s8 v g8 e8 hv => ?_
      · obtain ⟨f1, e1, P1, _⟩ := hk p hp
        exact P1.low
      have S8 := S9.grow g8 e8
      exact h _ _ S8.go S8.keep (by rw [decF_hit g4 hkv c]; exact hv)
    · walk_at "m:all"
      refine ⟨_, _, S7, by walk_at "m:look", by walk_at "m:look", rfl, fun p hp => ?_⟩
      rw [List.take_add_one, hkv] at hp
      rcases List.mem_append.mp hp with hp | hp
      · exact g4 p hp
      · simp at hp
        rw [hp]
        exact c
  case done =>
    rintro s6 m6 n6 ⟨g1, g3, rfl, g4⟩ S6
    walk_at "m:all"
    refine h _ _ (Sta.go (by assumption)) (Sta.keep (by assumption)) ?_
    have : ys.length = kvs.length := by rw [hys.1]; simp
    rw [decF_miss fun p hp => g4 p (by rw [this, List.take_length]; exact hp)]
    exact ⟨_, rfl⟩
end
end
-- LZip
section
section
variable {prog : Program} {w : World} {A : Around} {s₀ s : Shared} {env : Env} {own : List (Str × Addr)} {m : Str → Option Value} {news : List (Addr × Obj)} {E : Value → Shared → Prop}
/-- an address above all -/
theorem Sta.above (S : Sta s₀ env own s m news) {b : Addr} (hb : s.heap.get? b = none) : s₀.heap.get? b = none ∧ env.locals ≠ b ∧ (∀ q ∈ own, q.2 ≠ b) ∧ ∀ p ∈ news, p.1 ≠ b := by
  refine ⟨?_, ?_, fun q hq => ?_, fun p hp => ?_⟩
  · cases q : s₀.heap.get? b with
    | none => rfl
    | some o => rw [S.keep _ _ q] at hb; cases hb
  · obtain ⟨_, e⟩ := S.hasL
    exact Ne.symm (get_ne hb e)
  · obtain ⟨_, e⟩ := S.hasC q hq
    exact Ne.symm (get_ne hb e)
  · exact Ne.symm (get_ne hb (S.made p hp).1)
theorem for_zip {elts : List Expr} {k : Nat} {tpos : Pos} {body : List Stmt} {Q : Flow → Shared → Prop} {l1 l2 : Addr} {xs ys : List Value} (J : Nat → (Str → Option Value) → List (Addr × Obj) → Prop) (hh : A.handled = none) (S : Sta s₀ env own s m news) (hl1 : s.heap.IsList l1 xs.toArray) (hl2 : s.heap.IsList l2 ys.toArray) (hlen : xs.length = ys.length) (h0 : J 0 m news)
    (hb1 : ∃ o, s₀.heap.get? l1 = some o) (hb2 : ∃ o, s₀.heap.get? l2 = some o)
    (turn : ∀ i x y T s₂ m₂ news₂ ow, i < xs.length → xs[i]? = some x → ys[i]? = some y → s₂.heap.IsTuple T #[x, y] → J i m₂ news₂ → Sta s₀ env own s₂ m₂ (ow ++ news₂) →
      wpAny (model prog w) A (assign (.Tuple elts k tpos) env (.ref T)) (fun _ s₃ => wpAny (model prog w) A (execs body env) (TurnPost s₀ env own ow (J (i + 1)) Q) (fun _ _ => False) s₃) (fun _ _ => False) s₂)
    (done : ∀ s₂ m₂ news₂, J xs.length m₂ news₂ → Sta s₀ env own s₂ m₂ news₂ → Q .next s₂) :
    wpAny (model prog w) A (call (.type "zip") [.ref l1, .ref l2]) (fun xv s₁ => wpAny (model prog w) A (pyIter xv) (fun it s₂ => ForAt (model prog w) A (.Tuple elts k tpos) body env Q E it s₂) E s₁) E s := by
  have none_at : ∀ c, s.heap.objs.size ≤ c → s.heap.get? c = none := fun c hc => by
    cases q : s.heap.get? c with
    | none => rfl
    | some o => exact absurd (Heap.lt_size q) (Nat.not_lt.mpr hc)
  have lt1 : l1 < s.heap.objs.size := by obtain ⟨o, e, _⟩ := hl1; exact Heap.lt_size e
  have lt2 : l2 < s.heap.objs.size := by obtain ⟨o, e, _⟩ := hl2; exact Heap.lt_size e
  refine call_zip_2 hl1 hl2 fun h' hz hTI hTO hi1 hi2 _ hk => ?_
  unfold Addr at *
  have D : ZipApart (s.heap.objs.size + 4) (s.heap.objs.size + 2) (s.heap.objs.size + 3) s.heap.objs.size (s.heap.objs.size + 1) l1 l2 := by
    constructor <;> (show (_ : Nat) ≠ _; omega)
  have W := WalksT.zip2 (prog := prog) (w := w) hh _ _ _ _ _ l1 l2 D xs.toArray ys.toArray
  have S' : Sta s₀ env own { s with heap := h' } m news := S.grow Go.heap hk
  have st : IsZip h' (s.heap.objs.size + 4) (s.heap.objs.size + 2) (s.heap.objs.size + 3) .none ∧ IsPair h' (s.heap.objs.size + 2) (.ref s.heap.objs.size) (.ref (s.heap.objs.size + 1)) ∧ (∃ a b, IsPair h' (s.heap.objs.size + 3) a b) ∧ h'.IsListIter s.heap.objs.size l1 0 ∧ h'.IsListIter (s.heap.objs.size + 1) l2 0 ∧ h'.IsList l1 xs.toArray ∧ h'.IsList l2 ys.toArray :=
    ⟨hz, hTI, ⟨_, _, hTO⟩, hi1, hi2, hl1.at fun o e => hk _ _ e, hl2.at fun o e => hk _ _ e⟩
  refine W.self 0 _ _ _ st ?_
  have hmem : ∀ b ∈ [s.heap.objs.size + 4, s.heap.objs.size + 2, s.heap.objs.size + 3, s.heap.objs.size, s.heap.objs.size + 1], s.heap.objs.size ≤ b := by
    intro b hb
    simp at hb
    omega
  have hmin : min xs.toArray.size ys.toArray.size = xs.length := by simp [hlen]
  refine for_walks (kp := [s.heap.objs.size + 4, s.heap.objs.size + 2, s.heap.objs.size + 3, s.heap.objs.size, s.heap.objs.size + 1]) (WalkG.ofT (elts := elts) (k := k) (tpos := tpos) W) J S' h0 st (fun b hb => ?_) (fun i h st b hb => ?_) ?_ (fun b hb => (S.above (none_at b (hmem b hb))).1) (fun hb => (S.above (none_at _ (hmem _ hb))).2.1 rfl)
    (fun q hq hb => (S.above (none_at _ (hmem _ hb))).2.2.1 q hq rfl) (fun p hp hb => (S.above (none_at _ (hmem _ hb))).2.2.2 p hp rfl) (fun b hb => ?_) (fun i v s₂ m₂ news₂ ow hi hP hJ how S₂ => ?_) (fun s₂ m₂ news₂ hJ S₂ => done s₂ m₂ news₂ (hmin ▸ hJ) S₂)
  · simp at hb
    rcases hb with rfl | rfl | rfl | rfl <;> simp
  · obtain ⟨a1, a2, ⟨_, _, a3⟩, ⟨o4, a4, _⟩, ⟨o5, a5, _⟩, _⟩ := st
    simp at hb
    rcases hb with rfl | rfl | rfl | rfl | rfl
    · exact ⟨_, a1⟩
    · exact ⟨_, a2⟩
    · exact ⟨_, a3⟩
    · exact ⟨_, a4⟩
    · exact ⟨_, a5⟩
  · simp
  · simp at hb
    rcases hb with rfl | rfl | rfl | rfl | rfl | rfl | rfl
    · exact .inl (by simp)
    · exact .inl (by simp)
    · exact .inl (by simp)
    · exact .inl (by simp)
    · exact .inl (by simp)
    · exact .inr (.inl hb1)
    · exact .inr (.inl hb2)
  · obtain ⟨T, vals, rfl, ⟨x, y, hx, hy, rfl⟩, hT⟩ := hP
    exact turn i x y T s₂ m₂ news₂ ow (by rw [← hmin]; exact hi) (by simpa using hx) (by simpa using hy) hT hJ S₂
end
end
-- P0
section
/-- the answers of those left that a row takes -/
def metF (ans : List Bool) (left : List Nat) (row : List Bool) : List Bool := (left.filter fun k => row.getD k false).map fun k => ans.getD k false
def sole (met : List Bool) : Bool := match met with
  | [] => false
  | b :: r => r.all (· == b)
structure Pick where
  key : Str
  ans : Str
  row : List Bool
def pick0 : Pick := ⟨Str.ofString "", Str.ofString "", []⟩
def pickStep (ans : List Bool) (left : List Nat) (way : Int) (p : Pick) (q : Str × List Bool) : Pick :=
  if sole (metF ans left q.2) && (p.key == Str.ofString "" || collI q.1 p.key == way) then ⟨q.1, ynS ((metF ans left q.2).headD false), q.2⟩ else p
def pickF (prs : List (Str × List Bool)) (ans : List Bool) (left : List Nat) (way : Int) : Pick := prs.foldl (pickStep ans left way) pick0
structure LS where
  kvs : List (Str × Str)
  left : List Nat
def turnF (prs : List (Str × List Bool)) (ans : List Bool) (way : Int) (σ : LS) : LS :=
  let p := pickF prs ans σ.left way
  if p.key == Str.ofString "" then σ else
  match getF σ.kvs p.key with
  | some z => ⟨σ.kvs, if z == p.ans then σ.left.filter fun k => !p.row.getD k false else σ.left⟩
  | none => ⟨σ.kvs ++ [(p.key, p.ans)], σ.left.filter fun k => !p.row.getD k false⟩
def learnF (prs : List (Str × List Bool)) (ans : List Bool) (way : Int) : LS := (List.range prs.length).foldl (fun σ _ => turnF prs ans way σ) ⟨[], List.range 6⟩
end
-- P1
section
section
variable {prs : List (Str × List Bool)} {ans : List Bool} {way : Int} {left : List Nat}
theorem pick_of (left : List Nat) (way : Int) (hne : ∀ q ∈ prs, (q.1 == Str.ofString "") = false) :
    ((pickF prs ans left way).key == Str.ofString "") = true ∧ (∀ q ∈ prs, sole (metF ans left q.2) = false) ∨
    ∃ q ∈ prs, sole (metF ans left q.2) = true ∧ pickF prs ans left way = ⟨q.1, ynS ((metF ans left q.2).headD false), q.2⟩ := by
  have key : ∀ (l : List (Str × List Bool)) (p : Pick), (∀ q ∈ l, q ∈ prs) → (p = pick0 ∨ ∃ q ∈ prs, sole (metF ans left q.2) = true ∧ p = ⟨q.1, ynS ((metF ans left q.2).headD false), q.2⟩) →
      (l.foldl (pickStep ans left way) p = pick0 ∧ p = pick0 ∧ (∀ q ∈ l, sole (metF ans left q.2) = false)) ∨ ∃ q ∈ prs, sole (metF ans left q.2) = true ∧ l.foldl (pickStep ans left way) p = ⟨q.1, ynS ((metF ans left q.2).headD false), q.2⟩ := by
    intro l
    induction l with
    | nil =>
      intro p _ hp
      rcases hp with rfl | hp
      · exact .inl ⟨rfl, rfl, fun q hq => absurd hq List.not_mem_nil⟩
      · exact .inr hp
    | cons a r ih =>
      intro p hl hp
      rw [List.foldl_cons]
      have ha := hl a (.head _)
      have hr : ∀ q ∈ r, q ∈ prs := fun q hq => hl q (.tail _ hq)
      by_cases hs : sole (metF ans left a.2) = true
      · by_cases hc : (p.key == Str.ofString "" || collI a.1 p.key == way) = true
        · have e : pickStep ans left way p a = ⟨a.1, ynS ((metF ans left a.2).headD false), a.2⟩ := by
            unfold pickStep
            rw [hs, hc]
            rfl
          rw [e]
          rcases ih ⟨a.1, ynS ((metF ans left a.2).headD false), a.2⟩ hr (.inr ⟨a, ha, hs, rfl⟩) with ⟨_, h2, _⟩ | h
          · have : a.1 = Str.ofString "" := congrArg Pick.key h2
            have h0 := hne a ha
            rw [this] at h0
            simp at h0
          · exact .inr h
        · have e : pickStep ans left way p a = p := by
            unfold pickStep
            rw [hs, Bool.true_and, if_neg hc]
          rw [e]
          rcases hp with rfl | hp
          · exact absurd (by simp [pick0]) hc
          · rcases ih p hr (.inr hp) with ⟨_, rfl, _⟩ | h
            · exact absurd (by simp [pick0]) hc
            · exact .inr h
      · have hs' : sole (metF ans left a.2) = false := by simpa using hs
        have e : pickStep ans left way p a = p := by
          unfold pickStep
          rw [hs', Bool.false_and, if_neg (by decide)]
        rw [e]
        rcases ih p hr hp with ⟨h1, h2, h3⟩ | h
        · refine .inl ⟨h1, h2, fun q hq => ?_⟩
          rcases List.mem_cons.mp hq with rfl | hq
          · exact hs'
          · exact h3 q hq
        · exact .inr h
  rcases key prs pick0 (fun q hq => hq) (.inl rfl) with ⟨h1, _, h3⟩ | h
  · exact .inl ⟨by unfold pickF; rw [h1]; rfl, h3⟩
  · exact .inr h
theorem sole_at {left : List Nat} {row : List Bool} (h : sole (metF ans left row) = true) : ∀ x ∈ left, row.getD x false = true → ans.getD x false = (metF ans left row).headD false := by
  intro x hx hr
  have hm : ans.getD x false ∈ metF ans left row := List.mem_map.mpr ⟨x, List.mem_filter.mpr ⟨hx, hr⟩, rfl⟩
  generalize metF ans left row = M at h hm
  cases M with
  | nil => cases h
  | cons b r =>
    rcases List.mem_cons.mp hm with h1 | h1
    · exact h1
    · have := List.all_eq_true.mp h _ h1
      simpa using this
theorem sole_some {left : List Nat} {row : List Bool} (h : sole (metF ans left row) = true) : ∃ x ∈ left, row.getD x false = true := by
  unfold metF at h
  cases hf : left.filter (fun k => row.getD k false) with
  | nil => rw [hf] at h; cases h
  | cons a r =>
    have : a ∈ left.filter (fun k => row.getD k false) := by rw [hf]; exact .head _
    exact ⟨a, (List.mem_filter.mp this).1, by simpa using (List.mem_filter.mp this).2⟩
/-- a row that takes one of those left, all of them with one answer, is sole -/
theorem sole_of {left : List Nat} {row : List Bool} {b : Bool} (h1 : ∃ x ∈ left, row.getD x false = true) (h2 : ∀ x ∈ left, row.getD x false = true → ans.getD x false = b) : sole (metF ans left row) = true := by
  have hall : ∀ c ∈ metF ans left row, c = b := by
    intro c hc
    obtain ⟨x, hx, rfl⟩ := List.mem_map.mp hc
    exact h2 x (List.mem_filter.mp hx).1 (by simpa using (List.mem_filter.mp hx).2)
  obtain ⟨x, hx, hr⟩ := h1
  have hm : ans.getD x false ∈ metF ans left row := List.mem_map.mpr ⟨x, List.mem_filter.mpr ⟨hx, hr⟩, rfl⟩
  cases hM : metF ans left row with
  | nil => rw [hM] at hm; cases hm
  | cons c r =>
    rw [hM] at hall
    have hc := hall c (.head _)
    show r.all (· == c) = true
    exact List.all_eq_true.mpr fun d hd => by rw [hall d (.tail _ hd), hc]; simp
/-- a group that each row meets in both answers or in none -/
def Good (prs : List (Str × List Bool)) (ans : List Bool) (G : Nat → Bool) : Prop := ∀ q ∈ prs, (∃ x, x < 6 ∧ G x = true ∧ q.2.getD x false = true) → ∀ b, ∃ x, x < 6 ∧ G x = true ∧ q.2.getD x false = true ∧ ans.getD x false = b
def live (prs : List (Str × List Bool)) (left : List Nat) : Nat := (prs.filter fun q => left.any fun x => q.2.getD x false).length
/-- what holds after a number of turns -/
structure Inv (prs : List (Str × List Bool)) (ans : List Bool) (mt : Nat → Str → Bool) (σ : LS) : Prop where
  keys : ∀ p ∈ σ.kvs, (∃ q ∈ prs, q.1 = p.1) ∧ ∀ x ∈ σ.left, mt x p.1 = false
  first : ∀ x, x < 6 → x ∉ σ.left → ∃ k, σ.kvs.find? (fun p => mt x p.1) = some (k, ynS (ans.getD x false))
  part : ∃ P : Nat → Bool, σ.left = (List.range 6).filter P
  good : ∀ G, Good prs ans G → ∀ x, x < 6 → G x = true → x ∈ σ.left
structure Told2 (prs : List (Str × List Bool)) (mt : Nat → Str → Bool) : Prop where
  ne : ∀ q ∈ prs, (q.1 == Str.ofString "") = false
  same : ∀ q ∈ prs, ∀ q' ∈ prs, (Txt.lower q.1 == Txt.lower q'.1) = true → q.1 = q'.1
  up : ∀ q ∈ prs, Txt.lower (Txt.upper q.1) = Txt.lower q.1
  at_ : ∀ q ∈ prs, ∀ x, mt x q.1 = q.2.getD x false
variable {mt : Nat → Str → Bool} {σ : LS}
/-- one turn -/
theorem turn_of (T : Told2 prs mt) (I : Inv prs ans mt σ) :
    (turnF prs ans way σ = σ ∧ (∀ q ∈ prs, sole (metF ans σ.left q.2) = false)) ∨
    (Inv prs ans mt (turnF prs ans way σ) ∧ live prs (turnF prs ans way σ).left < live prs σ.left) := by
  rcases pick_of (prs := prs) (ans := ans) σ.left way T.ne with ⟨h1, h2⟩ | ⟨q, hq, hs, hp⟩
  · refine .inl ⟨?_, h2⟩
    unfold turnF
    exact if_pos h1
  · refine .inr ?_
    have hk : ((pickF prs ans σ.left way).key == Str.ofString "") = false := by rw [hp]; exact T.ne q hq
    obtain ⟨z, hz, hzr⟩ := sole_some hs
    have hmiss : getF σ.kvs (pickF prs ans σ.left way).key = none := by
      rw [hp]
      refine getF_miss fun p hp' => ?_
      obtain ⟨⟨q', hq', e⟩, hx⟩ := I.keys p hp'
      by_cases hc : (Txt.lower p.1 == Txt.lower q.1) = true
      · rw [← e] at hc
        have := T.same q' hq' q hq hc
        have h0 := hx z hz
        rw [← e, this, T.at_ q hq, hzr] at h0
        cases h0
      · simpa using hc
    have ht : turnF prs ans way σ = ⟨σ.kvs ++ [(q.1, ynS ((metF ans σ.left q.2).headD false))], σ.left.filter fun k => !q.2.getD k false⟩ := by
      unfold turnF
      dsimp only
      rw [if_neg (by rw [hk]; decide), hmiss, hp]
    rw [ht]
    obtain ⟨P, hP⟩ := I.part
    refine ⟨⟨?_, ?_, ⟨fun k => P k && !q.2.getD k false, ?_⟩, ?_⟩, ?_⟩
    · intro p hp'
      rcases List.mem_append.mp hp' with h | h
      · obtain ⟨h1, h2⟩ := I.keys p h
        exact ⟨h1, fun x hx => h2 x (List.mem_filter.mp hx).1⟩
      · rw [List.mem_singleton] at h
        subst h
        refine ⟨⟨q, hq, rfl⟩, fun x hx => ?_⟩
        have := (List.mem_filter.mp hx).2
        rw [T.at_ q hq]
        simpa using this
    · intro x hx hn
      by_cases hl : x ∈ σ.left
      · have hr : q.2.getD x false = true := by
          by_cases hr : q.2.getD x false = true
          · exact hr
          · exact absurd (List.mem_filter.mpr ⟨hl, by simpa using hr⟩) hn
        have hnone : σ.kvs.find? (fun p => mt x p.1) = none := List.find?_eq_none.mpr fun p hp' => by rw [(I.keys p hp').2 x hl]; decide
        refine ⟨q.1, ?_⟩
        rw [List.find?_append, hnone, sole_at hs x hl hr, Option.none_or, List.find?_cons, show mt x q.1 = true by rw [T.at_ q hq]; exact hr]
      · obtain ⟨k, hk'⟩ := I.first x hx hl
        exact ⟨k, by rw [List.find?_append, hk']; rfl⟩
    · show List.filter _ σ.left = _
      rw [hP, List.filter_filter]
      congr 1
      funext k
      exact Bool.and_comm _ _
    · intro G hG x hx hGx
      have hl := I.good G hG x hx hGx
      refine List.mem_filter.mpr ⟨hl, ?_⟩
      by_cases hr : q.2.getD x false = true
      · obtain ⟨y, hy, hGy, hry, hay⟩ := hG q hq ⟨x, hx, hGx, hr⟩ (!(metF ans σ.left q.2).headD false)
        have := sole_at hs y (I.good G hG y hy hGy) hry
        rw [hay] at this
        exfalso
        revert this
        cases (metF ans σ.left q.2).headD false <;> decide
      · simpa using hr
    · unfold live
      have hsub : (prs.filter fun q' => (σ.left.filter fun k => !q.2.getD k false).any fun x => q'.2.getD x false) = (prs.filter fun q' => σ.left.any fun x => q'.2.getD x false).filter fun q' => (σ.left.filter fun k => !q.2.getD k false).any fun x => q'.2.getD x false := by
        rw [List.filter_filter]
        congr 1
        funext q'
        rw [Bool.eq_iff_iff]
        constructor
        · intro h
          obtain ⟨x, hx, hr⟩ := List.any_eq_true.mp h
          rw [h, Bool.true_and]
          exact List.any_eq_true.mpr ⟨x, (List.mem_filter.mp hx).1, hr⟩
        · intro h
          exact (Bool.and_eq_true_iff.mp h).1
      rw [hsub]
      refine Nat.lt_of_le_of_ne (List.length_filter_le _ _) fun he => ?_
      have hall := List.length_filter_eq_length_iff.mp he q (List.mem_filter.mpr ⟨hq, List.any_eq_true.mpr ⟨z, hz, hzr⟩⟩)
      obtain ⟨x, hx, hr⟩ := List.any_eq_true.mp hall
      have := (List.mem_filter.mp hx).2
      rw [hr] at this
      cases this
theorem inv0 : Inv prs ans mt ⟨[], List.range 6⟩ :=
  ⟨fun p hp => absurd hp List.not_mem_nil, fun x hx h => absurd (List.mem_range.mpr hx) h, ⟨fun _ => true, by decide⟩, fun _ _ x hx _ => List.mem_range.mpr hx⟩
theorem learn_inv (T : Told2 prs mt) (way : Int) : Inv prs ans mt (learnF prs ans way) ∧ ∀ q ∈ prs, sole (metF ans (learnF prs ans way).left q.2) = false := by
  have key : ∀ n, let σ := (List.range n).foldl (fun σ _ => turnF prs ans way σ) ⟨[], List.range 6⟩
      Inv prs ans mt σ ∧ ((∀ q ∈ prs, sole (metF ans σ.left q.2) = false) ∨ live prs σ.left + n ≤ prs.length) := by
    intro n
    induction n with
    | zero => exact ⟨inv0, .inr (List.length_filter_le _ _)⟩
    | succ n ih =>
      obtain ⟨h1, h2⟩ := ih
      rw [List.range_succ (n := n), List.foldl_append]
      generalize (List.range n).foldl (fun σ _ => turnF prs ans way σ) ⟨[], List.range 6⟩ = τ at h1 h2
      show Inv prs ans mt (turnF prs ans way τ) ∧ ((∀ q ∈ prs, sole (metF ans (turnF prs ans way τ).left q.2) = false) ∨ live prs (turnF prs ans way τ).left + (n + 1) ≤ prs.length)
      rcases turn_of (way := way) T h1 with ⟨h3, h4⟩ | ⟨h3, h4⟩
      · rw [h3]
        exact ⟨h1, .inl h4⟩
      · refine ⟨h3, ?_⟩
        rcases h2 with h2 | h2
        · rcases pick_of (prs := prs) (ans := ans) τ.left way T.ne with ⟨h5, _⟩ | ⟨q, hq, hs, _⟩
          · have : turnF prs ans way τ = τ := by
              unfold turnF
              exact if_pos h5
            rw [this] at h4
            exact absurd h4 (Nat.lt_irrefl _)
          · exact absurd (hs.symm.trans (h2 q hq)) (by decide)
        · right
          omega
  obtain ⟨h1, h2⟩ := key prs.length
  refine ⟨h1, ?_⟩
  rcases h2 with h2 | h2
  · exact h2
  · intro q hq
    show sole (metF ans ((List.range prs.length).foldl (fun σ _ => turnF prs ans way σ) ⟨[], List.range 6⟩).left q.2) = false
    have h0 : live prs ((List.range prs.length).foldl (fun σ _ => turnF prs ans way σ) ⟨[], List.range 6⟩).left = 0 := by omega
    have he := List.eq_nil_of_length_eq_zero h0
    by_cases hs : sole (metF ans ((List.range prs.length).foldl (fun σ _ => turnF prs ans way σ) ⟨[], List.range 6⟩).left q.2) = true
    · obtain ⟨z, hz, hzr⟩ := sole_some hs
      have : q ∈ (prs.filter fun q => ((List.range prs.length).foldl (fun σ _ => turnF prs ans way σ) ⟨[], List.range 6⟩).left.any fun x => q.2.getD x false) := List.mem_filter.mpr ⟨hq, List.any_eq_true.mpr ⟨z, hz, hzr⟩⟩
      rw [he] at this
      cases this
    · simpa using hs
/-- those left are a good group: the widest -/
theorem left_good (T : Told2 prs mt) (way : Int) : Good prs ans fun x => decide (x ∈ (learnF prs ans way).left) := by
  obtain ⟨I, hs⟩ := learn_inv (ans := ans) T way
  obtain ⟨P, hP⟩ := I.part
  intro q hq ⟨x, hx, hxl, hxr⟩ b
  have h0 := hs q hq
  by_cases hb : ∃ y, y < 6 ∧ decide (y ∈ (learnF prs ans way).left) = true ∧ q.2.getD y false = true ∧ ans.getD y false = b
  · exact hb
  · rw [sole_of (b := !b) ⟨x, of_decide_eq_true hxl, hxr⟩ fun y hy hyr => ?_] at h0
    · cases h0
    · have hy6 : y < 6 := by
        rw [hP] at hy
        exact List.mem_range.mp (List.mem_filter.mp hy).1
      have : ans.getD y false ≠ b := fun e => hb ⟨y, hy6, decide_eq_true hy, hyr, e⟩
      revert this
      cases ans.getD y false <;> cases b <;> decide
theorem decided_due (T : Told2 prs mt) (way : Int) {x : Nat} (hx : x < 6) :
    decF (mt x) (learnF prs ans way).kvs = some (if x ∈ (learnF prs ans way).left then Str.ofString "" else ynS (ans.getD x false)) := by
  obtain ⟨I, _⟩ := learn_inv (ans := ans) T way
  by_cases hl : x ∈ (learnF prs ans way).left
  · rw [if_pos hl]
    exact decF_miss fun p hp => (I.keys p hp).2 x hl
  · rw [if_neg hl]
    obtain ⟨k, hk⟩ := I.first x hx hl
    unfold decF
    rw [hk]
    show getF _ (Txt.upper k) = _
    have hkm := List.mem_of_find?_eq_some hk
    have hkt : mt x k = true := by simpa using List.find?_some hk
    obtain ⟨⟨q, hq, e⟩, _⟩ := I.keys _ hkm
    simp only at e
    have hup : Txt.lower (Txt.upper k) = Txt.lower k := by rw [← e]; exact T.up q hq
    obtain ⟨h1, as, bs, hsplit, hall⟩ := List.find?_eq_some_iff_append.mp hk
    refine getF_hit (i := as.length) (k := k) (y := ynS (ans.getD x false)) (fun p hp => ?_) (by rw [hsplit]; simp) (by rw [hup]; simp)
    rw [hsplit, List.take_append_of_le_length (Nat.le_refl _), List.take_length] at hp
    by_cases hc : (Txt.lower p.1 == Txt.lower (Txt.upper k)) = true
    · rw [hup] at hc
      have hpm : p ∈ (learnF prs ans way).kvs := by rw [hsplit]; exact List.mem_append_left _ hp
      obtain ⟨⟨q', hq', e'⟩, _⟩ := I.keys _ hpm
      have : p.1 = k := by rw [← e, ← e']; exact T.same q' hq' q hq (by rw [e, e']; exact hc)
      have h0 := hall p hp
      rw [this, hkt] at h0
      cases h0
    · simpa using hc
end
end
-- P2
section
theorem band_nat (a b : Nat) : Builtin.bitAnd (a : Int) (b : Int) = ((a &&& b : Nat) : Int) := by
  unfold Builtin.bitAnd
  rw [decide_eq_true (Int.natCast_nonneg a), decide_eq_true (Int.natCast_nonneg b)]
  rfl
theorem bnn (x : Int) : Builtin.bitNot (Builtin.bitNot x) = x := by
  unfold Builtin.bitNot
  omega
theorem bor_nat (a b : Nat) : Builtin.bitOr (a : Int) (b : Int) = ((a ||| b : Nat) : Int) := by
  unfold Builtin.bitOr Builtin.bitAnd
  rw [decide_eq_false (show ¬ (0 : Int) ≤ Builtin.bitNot (a : Int) by unfold Builtin.bitNot; omega), decide_eq_false (show ¬ (0 : Int) ≤ Builtin.bitNot (b : Int) by unfold Builtin.bitNot; omega)]
  show Builtin.bitNot (Builtin.bitNot _) = _
  rw [bnn, bnn, bnn]
  rfl
def maskN (b : Nat → Bool) : Nat := (((List.range 6).filter b).map fun k => 2 ^ k).sum
theorem sumf {b : Nat → Bool} {a : Nat} {l : List Nat} : (((a :: l).filter b).map fun k => 2 ^ k).sum = (if b a = true then 2 ^ a else 0) + ((l.filter b).map fun k => 2 ^ k).sum := by
  rw [List.filter_cons]
  by_cases h : b a = true
  · rw [if_pos h, if_pos h]
    rfl
  · rw [if_neg h, if_neg h, Nat.zero_add]
def six6 (a b c d e f : Bool) : Nat := (if a = true then 2 ^ 0 else 0) + ((if b = true then 2 ^ 1 else 0) + ((if c = true then 2 ^ 2 else 0) + ((if d = true then 2 ^ 3 else 0) + ((if e = true then 2 ^ 4 else 0) + ((if f = true then 2 ^ 5 else 0) + 0)))))
theorem six6_bits : ∀ a b c d e f : Bool, six6 a b c d e f < 64 ∧ (six6 a b c d e f).testBit 0 = a ∧ (six6 a b c d e f).testBit 1 = b ∧ (six6 a b c d e f).testBit 2 = c ∧ (six6 a b c d e f).testBit 3 = d ∧ (six6 a b c d e f).testBit 4 = e ∧ (six6 a b c d e f).testBit 5 = f := by decide
theorem maskN_six (b : Nat → Bool) : maskN b = six6 (b 0) (b 1) (b 2) (b 3) (b 4) (b 5) := by
  unfold maskN
  rw [show List.range 6 = [0, 1, 2, 3, 4, 5] from rfl, sumf, sumf, sumf, sumf, sumf, sumf]
  rfl
theorem maskN_lt (b : Nat → Bool) : maskN b < 64 := by
  rw [maskN_six]
  exact (six6_bits _ _ _ _ _ _).1
theorem maskN_bit (b : Nat → Bool) {j : Nat} (hj : j < 6) : (maskN b).testBit j = b j := by
  rw [maskN_six]
  obtain ⟨_, h0, h1, h2, h3, h4, h5⟩ := six6_bits (b 0) (b 1) (b 2) (b 3) (b 4) (b 5)
  have : j = 0 ∨ j = 1 ∨ j = 2 ∨ j = 3 ∨ j = 4 ∨ j = 5 := by omega
  rcases this with rfl | rfl | rfl | rfl | rfl | rfl <;> assumption
theorem pow_cast : ∀ l : List Nat, (l.map fun k => (2 : Int) ^ k).sum = (((l.map fun k => 2 ^ k).sum : Nat) : Int)
  | [] => rfl
  | a :: r => by
    rw [List.map_cons, List.sum_cons, List.map_cons, List.sum_cons, pow_cast r, Int.natCast_add, Int.natCast_pow]
    rfl
theorem mSum_mask (row ans : List Bool) (kind : Bool) : mSum row ans kind = ((maskN fun k => row.getD k false && (ans.getD k false == kind) : Nat) : Int) := by
  unfold mSum mInts
  rw [pow_cast]
  rfl
theorem meets (g : Nat) (b : Nat → Bool) : (Builtin.bitAnd (g : Int) ((maskN b : Nat) : Int) == 0) = false ↔ ∃ x, x < 6 ∧ g.testBit x = true ∧ b x = true := by
  rw [band_nat]
  constructor
  · intro h
    have h1 : g &&& maskN b ≠ 0 := by
      intro e
      rw [e] at h
      cases h
    apply Classical.byContradiction
    intro hn
    apply h1
    apply Nat.eq_of_testBit_eq
    intro i
    rw [Nat.testBit_and, Nat.zero_testBit]
    by_cases hi : i < 6
    · rw [maskN_bit b hi]
      cases hg : g.testBit i with
      | false => rfl
      | true =>
        cases hb : b i with
        | false => rfl
        | true => exact absurd ⟨i, hi, hg, hb⟩ hn
    · have : (maskN b).testBit i = false := Nat.testBit_lt_two_pow (Nat.lt_of_lt_of_le (maskN_lt b) (show 2 ^ 6 ≤ 2 ^ i from Nat.pow_le_pow_right (by decide) (by omega)))
      rw [this, Bool.and_false]
  · rintro ⟨x, hx, h1, h2⟩
    apply beq_false_of_ne
    intro e
    have e' : g &&& maskN b = 0 := by exact_mod_cast e
    have := Nat.testBit_and g (maskN b) x
    rw [e', Nat.zero_testBit, h1, maskN_bit b hx, h2] at this
    cases this
section
variable {prs : List (Str × List Bool)} {ans : List Bool} {way : Int}
theorem good_iff (g : Nat) : ((eithers (prs.map (·.2)) ans).any (offPair (g : Int))) = false ↔ Good prs ans fun x => g.testBit x := by
  unfold eithers
  rw [List.any_eq_false]
  have hm : ∀ row : List Bool, ∀ kind, (Builtin.bitAnd (g : Int) (mSum row ans kind) == 0) = false ↔ ∃ x, x < 6 ∧ g.testBit x = true ∧ row.getD x false = true ∧ ans.getD x false = kind := by
    intro row kind
    rw [mSum_mask, meets]
    constructor
    · rintro ⟨x, h1, h2, h3⟩
      have := Bool.and_eq_true_iff.mp h3
      exact ⟨x, h1, h2, this.1, by simpa using this.2⟩
    · rintro ⟨x, h1, h2, h3, h4⟩
      exact ⟨x, h1, h2, Bool.and_eq_true_iff.mpr ⟨h3, by simpa using h4⟩⟩
  constructor
  · intro h q hq ⟨x, hx, hg, hr⟩ b
    have h0 := h _ (List.mem_map.mpr ⟨q.2, List.mem_map.mpr ⟨q, hq, rfl⟩, rfl⟩)
    unfold offPair at h0
    have hx' := (hm q.2 (ans.getD x false)).mpr ⟨x, hx, hg, hr, rfl⟩
    refine (hm q.2 b).mp ?_
    revert h0 hx'
    cases ans.getD x false <;> cases b <;> cases (Builtin.bitAnd (g : Int) (mSum q.2 ans false) == 0) <;> cases (Builtin.bitAnd (g : Int) (mSum q.2 ans true) == 0) <;> decide
  · intro h p hp
    obtain ⟨row, hrow, rfl⟩ := List.mem_map.mp hp
    obtain ⟨q, hq, rfl⟩ := List.mem_map.mp hrow
    unfold offPair
    have h1 := hm q.2 false
    have h2 := hm q.2 true
    have h3 : (∃ x, x < 6 ∧ g.testBit x = true ∧ q.2.getD x false = true ∧ ans.getD x false = false) ↔ ∃ x, x < 6 ∧ g.testBit x = true ∧ q.2.getD x false = true ∧ ans.getD x false = true :=
      ⟨fun ⟨x, a, b, c, _⟩ => h q hq ⟨x, a, b, c⟩ true, fun ⟨x, a, b, c, _⟩ => h q hq ⟨x, a, b, c⟩ false⟩
    rw [← h1, ← h2] at h3
    show ¬ ((Builtin.bitAnd (g : Int) (mSum q.2 ans false) == 0) != (Builtin.bitAnd (g : Int) (mSum q.2 ans true) == 0)) = true
    revert h3
    cases (Builtin.bitAnd (g : Int) (mSum q.2 ans false) == 0) <;> cases (Builtin.bitAnd (g : Int) (mSum q.2 ans true) == 0) <;> simp
theorem stuckI_bits : ∃ a : Nat, stuckI (prs.map (·.2)) ans = (a : Int) ∧ ∀ j, j < 6 → (a.testBit j = true ↔ ∃ g, g < 64 ∧ Good prs ans (fun x => g.testBit x) ∧ g.testBit j = true) := by
  have key : ∀ n, ∃ a : Nat, (List.range n).foldl (stuckStep (eithers (prs.map (·.2)) ans)) 0 = (a : Int) ∧ ∀ j, j < 6 → (a.testBit j = true ↔ ∃ g, g < n ∧ Good prs ans (fun x => g.testBit x) ∧ g.testBit j = true) := by
    intro n
    induction n with
    | zero =>
      refine ⟨0, rfl, fun j _ => ⟨fun h => ?_, fun ⟨g, h, _⟩ => absurd h (Nat.not_lt_zero _)⟩⟩
      rw [Nat.zero_testBit] at h
      cases h
    | succ n ih =>
      obtain ⟨a, h1, h2⟩ := ih
      rw [List.range_succ, List.foldl_append]
      show ∃ b : Nat, stuckStep _ _ n = _ ∧ _
      rw [h1]
      unfold stuckStep
      by_cases hc : (eithers (prs.map (·.2)) ans).any (offPair (n : Int)) = true
      · rw [if_pos hc]
        refine ⟨a, rfl, fun j hj => (h2 j hj).trans ⟨fun ⟨g, q1, q2⟩ => ⟨g, Nat.lt_succ_of_lt q1, q2⟩, fun ⟨g, q1, q2, q3⟩ => ⟨g, ?_, q2, q3⟩⟩⟩
        refine Nat.lt_of_le_of_ne (Nat.le_of_lt_succ q1) fun e => ?_
        subst e
        rw [(good_iff g).mpr q2] at hc
        cases hc
      · rw [if_neg hc, bor_nat]
        have hg : Good prs ans fun x => n.testBit x := (good_iff n).mp (by simpa using hc)
        refine ⟨a ||| n, rfl, fun j hj => ?_⟩
        rw [Nat.testBit_or, Bool.or_eq_true, h2 j hj]
        constructor
        · rintro (⟨g, q1, q2⟩ | q)
          · exact ⟨g, Nat.lt_succ_of_lt q1, q2⟩
          · exact ⟨n, Nat.lt_succ_self _, hg, q⟩
        · rintro ⟨g, q1, q2, q3⟩
          rcases Nat.lt_or_ge g n with h | h
          · exact .inl ⟨g, h, q2, q3⟩
          · obtain rfl : g = n := Nat.le_antisymm (Nat.le_of_lt_succ q1) h
            exact .inr q3
  exact key 64
theorem bit_int (a k : Nat) : ((((a : Int).fdiv (2 ^ k)).fmod 2) == 1) = a.testBit k := by
  have e1 : ((2 : Int) ^ k) = ((2 ^ k : Nat) : Int) := by rw [Int.natCast_pow]; rfl
  rw [e1, Int.fdiv_eq_ediv_of_nonneg _ (Int.natCast_nonneg _), Int.fmod_eq_emod_of_nonneg _ (by decide), ← Int.natCast_ediv, Nat.testBit_eq_decide_div_mod_eq]
  have e2 : ((a / 2 ^ k : Nat) : Int) % 2 = ((a / 2 ^ k % 2 : Nat) : Int) := by rw [Int.natCast_emod]; rfl
  rw [e2]
  have h2 : a / 2 ^ k % 2 < 2 := Nat.mod_lt _ (by decide)
  generalize a / 2 ^ k % 2 = m at h2
  have : m = 0 ∨ m = 1 := by omega
  rcases this with rfl | rfl <;> rfl
theorem stuck_left {mt : Nat → Str → Bool} (T : Told2 prs mt) (way : Int) : stuckL (prs.map (·.2)) ans = (learnF prs ans way).left.map fun k : Nat => (k : Int) := by
  obtain ⟨I, _⟩ := learn_inv (ans := ans) T way
  obtain ⟨P, hP⟩ := I.part
  obtain ⟨a, h1, h2⟩ := stuckI_bits (prs := prs) (ans := ans)
  unfold stuckL
  rw [h1]
  congr 1
  rw [hP]
  refine List.filter_congr fun k hk => ?_
  have hk6 := List.mem_range.mp hk
  rw [bit_int, Bool.eq_iff_iff, h2 k hk6]
  have hmem : P k = true ↔ k ∈ (learnF prs ans way).left := by
    rw [hP]
    exact ⟨fun h => List.mem_filter.mpr ⟨hk, h⟩, fun h => (List.mem_filter.mp h).2⟩
  rw [hmem]
  constructor
  · rintro ⟨g, _, hG, hb⟩
    exact I.good _ hG k hk6 hb
  · intro hl
    have hG := left_good (ans := ans) T way
    refine ⟨maskN fun x => decide (x ∈ (learnF prs ans way).left), maskN_lt _, fun q hq ⟨x, hx, hxl, hr⟩ b => ?_, ?_⟩
    · obtain ⟨y, hy, hyl, q1, q2⟩ := hG q hq ⟨x, hx, (maskN_bit (fun x => decide (x ∈ (learnF prs ans way).left)) hx).symm.trans hxl, hr⟩ b
      exact ⟨y, hy, by show (maskN _).testBit y = true; rw [maskN_bit _ hy]; exact hyl, q1, q2⟩
    · rw [maskN_bit _ hk6]
      exact decide_eq_true hl
end
end
-- P3
section
def patOf (f e : Str) : Str := f ++ Str.ofString "..." ++ e
def spots : List (Str × Str) := fronts.flatMap fun f => ends.map fun e => (f, e)
theorem t_app : ∀ p ∈ spots, nameOf (some (p.1 ++ Str.ofString ".")) (some (Str.ofString "." ++ p.2)) = patOf p.1 p.2 := by decide +kernel
theorem t_has : ∀ p ∈ spots, Txt.contains (patOf p.1 p.2) (Str.ofString "...") = true := by decide +kernel
theorem t_cut : ∀ p ∈ spots, Txt.split (patOf p.1 p.2) (Str.ofString "...") = [p.1, p.2] := by decide +kernel
theorem t_len : ∀ p ∈ spots, p.1.length ≤ 100 ∧ p.2.length ≤ 100 ∧ (patOf p.1 p.2 == Str.ofString "") = false := by decide +kernel
theorem t_parts : ∀ p ∈ spots, (Builtin.Str.partsBetween (patOf p.1 p.2) (Builtin.Str.occurrences (patOf p.1 p.2) (Str.ofString "...") 0 (patOf p.1 p.2).length ((patOf p.1 p.2).length + 1)) (Str.ofString "...").length).length ≤ 1000 := by decide +kernel
theorem t_up : ∀ p ∈ spots, Txt.lower (Txt.upper (patOf p.1 p.2)) = Txt.lower (patOf p.1 p.2) := by decide +kernel
def tameB (x : Str) : Bool := x.cps.toList.all (fun c => letters.contains c) && decide (x.length ≤ 100)
theorem tame_of {x : Str} (h : tameB x = true) : Tame x := by
  have h' := Bool.and_eq_true_iff.mp h
  refine ⟨fun c hc => ?_, of_decide_eq_true h'.2⟩
  have := List.all_eq_true.mp h'.1 c (by simpa using hc)
  simpa using this
theorem t_low : ∀ p ∈ spots, tameB (patOf p.1 p.2) = true ∧ tameB (Txt.lower (patOf p.1 p.2)) = true ∧ tameB (Txt.upper (patOf p.1 p.2)) = true := by decide +kernel
def lows : List Str := spots.map fun p => Txt.lower (patOf p.1 p.2)
theorem nodup_lows : (spots.map fun p => (Txt.lower (patOf p.1 p.2)).cps.toList).Nodup := by decide +kernel
theorem spot_inj : ∀ {l : List (Str × Str)} {g : Str × Str → List Nat}, (l.map g).Nodup → ∀ p ∈ l, ∀ q ∈ l, g p = g q → p = q
  | [], _, _, p, hp, _, _, _ => nomatch hp
  | a :: r, g, h, p, hp, q, hq, e => by
    rw [List.map_cons, List.nodup_cons] at h
    rcases List.mem_cons.mp hp with rfl | hp' <;> rcases List.mem_cons.mp hq with rfl | hq'
    · rfl
    · exact absurd (List.mem_map.mpr ⟨q, hq', e.symm⟩) h.1
    · exact absurd (List.mem_map.mpr ⟨p, hp', e⟩) h.1
    · exact spot_inj h.2 p hp' q hq' e
theorem t_same {p q : Str × Str} (hp : p ∈ spots) (hq : q ∈ spots) (e : (Txt.lower (patOf p.1 p.2) == Txt.lower (patOf q.1 q.2)) = true) : p = q :=
  spot_inj nodup_lows p hp q hq (by
    have e' : Txt.lower (patOf p.1 p.2) = Txt.lower (patOf q.1 q.2) := by simpa using e
    simp only [e'])
def nameL : List Str := langs.flatMap fun l => encs.map fun e => nameOf l e
theorem t_fits : ∀ n ∈ nameL, ∀ p ∈ spots, matchB p.1 p.2 n = fitsB p.1 p.2 n := by decide +kernel
theorem t_nlen : ∀ n ∈ nameL, n.length ≤ 100 := by decide +kernel
theorem pat_of {p : Str × Str} (hp : p ∈ spots) : Pat (patOf p.1 p.2) p.1 p.2 :=
  ⟨t_has p hp, t_cut p hp, t_parts p hp, (t_len p hp).1, (t_len p hp).2.1, ⟨tame_of (t_low p hp).1, tame_of (t_low p hp).2.1⟩, ⟨tame_of (t_low p hp).2.2, by rw [t_up p hp]; exact tame_of (t_low p hp).2.1⟩⟩
theorem spot_mem (n : Int) : (frontAt n, endAt n) ∈ spots := by
  unfold frontAt endAt spots
  obtain ⟨i, hi, hi6⟩ := six (n.fdiv 72)
  obtain ⟨j, hj, hj6⟩ := six (n.fdiv 432)
  rw [hi, hj]
  refine List.mem_flatMap.mpr ⟨_, List.getElem_mem (l := fronts) (n := i) hi6, List.mem_map.mpr ⟨_, List.getElem_mem (l := ends) (n := j) hj6, ?_⟩⟩
  simp [List.getD, List.getElem?_eq_getElem (l := fronts) hi6, List.getElem?_eq_getElem (l := ends) hj6]
theorem name_mem (n : Int) : nameOf (langAt n) (encAt n) ∈ nameL := by
  unfold langAt encAt nameL
  obtain ⟨i, hi, hi6⟩ := six n
  obtain ⟨j, hj, hj6⟩ := six (n.fdiv 6)
  rw [hi, hj]
  refine List.mem_flatMap.mpr ⟨_, List.getElem_mem (l := langs) (n := i) hi6, List.mem_map.mpr ⟨_, List.getElem_mem (l := encs) (n := j) hj6, ?_⟩⟩
  simp [List.getD, List.getElem?_eq_getElem (l := langs) hi6, List.getElem?_eq_getElem (l := encs) hj6]
/-- the tables that the law works on -/
def ansL (ns : List Int) : List Bool := ns.map fun n => ((n.fdiv 36).fmod 2) == 1
def namesL (ns : List Int) : List Str := ns.map fun n => nameOf (langAt n) (encAt n)
def patsL (ns : List Int) : List Str := (ns.take 5).map fun n => patOf (frontAt n) (endAt n)
def rowsL (ns : List Int) : List (List Bool) := (ns.take 5).map fun n => (namesL ns).map fun x => matchB (frontAt n) (endAt n) x
def mtL (ns : List Int) (k : Nat) (p : Str) : Bool := match spots.find? (fun q => patOf q.1 q.2 == p) with
  | some q => match (namesL ns)[k]? with
    | some x => matchB q.1 q.2 x
    | none => false
  | none => false
theorem find_spot {p : Str × Str} (hp : p ∈ spots) : spots.find? (fun q => patOf q.1 q.2 == patOf p.1 p.2) = some p := by
  cases h : spots.find? (fun q => patOf q.1 q.2 == patOf p.1 p.2) with
  | none =>
    have := List.find?_eq_none.mp h p hp
    simp at this
  | some q =>
    have h1 := List.mem_of_find?_eq_some h
    have h2 : patOf q.1 q.2 = patOf p.1 p.2 := by simpa using List.find?_some h
    rw [t_same h1 hp (by rw [h2]; simp)]
theorem told2 (ns : List Int) : Told2 ((patsL ns).zip (rowsL ns)) (mtL ns) := by
  have hm : ∀ q ∈ (patsL ns).zip (rowsL ns), ∃ n, q = (patOf (frontAt n) (endAt n), (namesL ns).map fun x => matchB (frontAt n) (endAt n) x) := by
    unfold patsL rowsL
    intro q hq
    rw [List.zip_map'] at hq
    obtain ⟨n, _, e⟩ := List.mem_map.mp hq
    exact ⟨n, e.symm⟩
  refine ⟨fun q hq => ?_, fun q hq q' hq' e => ?_, fun q hq => ?_, fun q hq x => ?_⟩
  · obtain ⟨n, rfl⟩ := hm q hq
    have h0 := (t_len (frontAt n, endAt n) (spot_mem n)).2.2
    exact h0
  · obtain ⟨n, rfl⟩ := hm q hq
    obtain ⟨n', rfl⟩ := hm q' hq'
    have := t_same (p := (frontAt n, endAt n)) (q := (frontAt n', endAt n')) (spot_mem n) (spot_mem n') e
    rw [Prod.mk.injEq] at this
    show patOf _ _ = patOf _ _
    rw [this.1, this.2]
  · obtain ⟨n, rfl⟩ := hm q hq
    have h0 := t_up (frontAt n, endAt n) (spot_mem n)
    exact h0
  · obtain ⟨n, rfl⟩ := hm q hq
    unfold mtL
    have h0 := find_spot (p := (frontAt n, endAt n)) (spot_mem n)
    simp only at h0
    simp only [h0]
    show (match (namesL ns)[x]? with | some x => _ | none => false) = _
    rw [List.getD_eq_getElem?_getD, List.getElem?_map]
    cases (namesL ns)[x]? <;> rfl
end
-- FwMore
section
theorem ints_get : ∀ {vs : List Value} {ns : List Nat} {j : Nat} {v : Value}, IntsAre vs (ns.map fun k : Nat => (k : Int)) → vs[j]? = some v → ∃ k t, ns[j]? = some k ∧ v = .int (k : Int) t
  | vs, [], j, v, h, q => by
    cases h
    cases q
  | vs, a :: r, j, v, h, q => by
    cases h with
    | cons n t h' =>
      cases j with
      | zero => exact ⟨a, t, rfl, (Option.some.inj q).symm⟩
      | succ j => exact ints_get (j := j) h' q
theorem yn_nil : Yn [] [] := ⟨rfl, fun i v h => by cases h⟩
theorem yn_snoc {vs : List Value} {bs : List Bool} (h : Yn vs bs) (b : Bool) (t : Tok) : Yn (vs ++ [.str (ynS b) t]) (bs ++ [b]) := by
  refine ⟨by simp [h.1], fun i v hv => ?_⟩
  rcases snoc_get hv with hv | ⟨hi, rfl⟩
  · obtain ⟨c, t', h1, h2⟩ := h.2 i v hv
    have hlt := (List.getElem?_eq_some_iff.mp h1).1
    exact ⟨c, t', by rw [List.getElem?_append_left hlt]; exact h1, h2⟩
  · exact ⟨b, t, by rw [hi, h.1]; simp, rfl⟩
theorem yn_cons {v : Value} {vs : List Value} {bs : List Bool} (h : Yn (v :: vs) bs) : ∃ b t r, bs = b :: r ∧ v = .str (ynS b) t ∧ Yn vs r := by
  obtain ⟨h1, h2⟩ := h
  cases bs with
  | nil => cases h1
  | cons b r =>
    obtain ⟨c, t, h3, h4⟩ := h2 0 v rfl
    obtain rfl : b = c := Option.some.inj h3
    exact ⟨b, t, r, rfl, h4, by simpa using h1, fun i v hv => h2 (i + 1) v hv⟩
theorem yn_reads {h : Heap} : ∀ {vs : List Value} {bs : List Bool}, Yn vs bs → ReadsAll h vs (bs.map fun b => PyData.str (ynS b)) []
  | [], bs, y => by
    cases bs with
    | nil => exact .nil
    | cons b r => cases y.1
  | v :: vs, bs, y => by
    obtain ⟨b, t, r, rfl, rfl, y'⟩ := yn_cons y
    exact .cons (as := []) (bs := []) (.str _ t) (yn_reads y')
theorem flat_rep {α : Type} (x : α) : ∀ n, (List.replicate n [x]).flatten = List.replicate n x
  | 0 => rfl
  | n + 1 => by rw [List.replicate_succ, List.flatten_cons, flat_rep x n, List.replicate_succ]; rfl
theorem yn_rep (b : Bool) (t : Tok) : ∀ n, Yn (List.replicate n [Value.str (ynS b) t]).flatten (List.replicate n b) := fun n => by
  rw [flat_rep]
  refine ⟨by simp, fun i v hv => ?_⟩
  rw [List.getElem?_replicate] at hv ⊢
  by_cases h : i < n
  · rw [if_pos h] at hv ⊢
    exact ⟨b, t, rfl, (Option.some.inj hv).symm⟩
  · rw [if_neg h] at hv
    cases hv
theorem ynS_lay (b : Bool) : (PyData.str (ynS b)).canLay0 = true := by
  simp only [PyData.canLay0]
  cases b <;> decide +kernel
theorem met_shaped (bs : List Bool) : SeqAt.shaped (.list (bs.map fun b => PyData.str (ynS b))) = true :=
  shaped_list (fun d hd => by
    obtain ⟨b, _, rfl⟩ := List.mem_map.mp hd
    exact ynS_lay b) fun d hd => by
    obtain ⟨b, _, rfl⟩ := List.mem_map.mp hd
    simp [PyData.depth]
theorem ynS_inj (a b : Bool) : (ynS a == ynS b) = (a == b) := ynS_eq a b
theorem eqv_rep (b : Bool) : ∀ r : List Bool, PyData.eqvAll (r.map fun b => PyData.str (ynS b)) ((List.replicate r.length b).map fun b => PyData.str (ynS b)) = r.all (· == b)
  | [] => by simp [PyData.eqvAll]
  | a :: r => by
    rw [List.length_cons, List.replicate_succ, List.map_cons, List.map_cons, List.all_cons]
    simp only [PyData.eqvAll, PyData.eqv]
    rw [ynS_inj, eqv_rep b r]
theorem eqv_sole (b : Bool) (r : List Bool) : PyData.eqv (.list ((b :: r).map fun b => PyData.str (ynS b))) (.list ((List.replicate (b :: r).length b).map fun b => PyData.str (ynS b))) = sole (b :: r) := by
  simp only [PyData.eqv]
  rw [eqv_rep]
  simp [sole]
theorem metF_snoc_t {ans : List Bool} {left : List Nat} {row : List Bool} {i k : Nat} (hk : left[i]? = some k) (h : row.getD k false = true) : metF ans (left.take (i + 1)) row = metF ans (left.take i) row ++ [ans.getD k false] := by
  unfold metF
  rw [List.take_add_one, hk]
  simp only [Option.toList, List.filter_append, List.map_append]
  rw [List.filter_cons, if_pos h]
  rfl
theorem metF_snoc_f {ans : List Bool} {left : List Nat} {row : List Bool} {i k : Nat} (hk : left[i]? = some k) (h : row.getD k false = false) : metF ans (left.take (i + 1)) row = metF ans (left.take i) row := by
  unfold metF
  rw [List.take_add_one, hk]
  simp only [Option.toList, List.filter_append, List.map_append]
  rw [List.filter_cons, if_neg (by rw [h]; decide)]
  simp
section
variable {prog : Program} {w : World} {A : Around} {E : Value → Shared → Prop} {s₀ s s' : Shared} {env : Env} {own : List (Str × Addr)} {m : Str → Option Value} {news : List (Addr × Obj)}
theorem pick1 (v : Value) (r : List Value) : slicePick (v :: r).toArray none (some 1) none = [v].toArray := by
  have e : sliceBounds none (some 1) none (v :: r).toArray.size = (((0 : Nat) : Int), ((1 : Nat) : Int), 1) := by
    simp only [sliceBounds, Option.getD_none, show (1 : Int) > 0 by decide, if_true, if_neg (show ¬ ((1 : Int) < 0) by omega)]
    congr 2
    have h1 : (((v :: r).toArray.size : Nat) : Int) = (r.length : Int) + 1 := by simp
    omega
  unfold slicePick
  rw [e]
  rfl
theorem o_list1 {value slice : Expr} {l : Addr} {v : Value} {r : List Value} {uj : Tok} {Q : Value → Shared → Prop} (S : Sta s₀ env own s m news) (hl : s.heap.IsList l (v :: r).toArray) (hz : (v :: r).length ≤ sizeLine)
    (h : ∀ a, Nx s₀ env own m ((a, listOf [v].toArray 0) :: news) (Q (.ref a)))
    (hs : subscripted slice false (.ref l) (.ref s.heap.objs.size) = operate [.ref s.heap.objs.size, .ref l] (getItem (.ref l) (.ref s.heap.objs.size)))
    (ht : ∀ r, letTemporaryGo value (.ref l) r = pure ()) :
    wpAny (model prog w) A (subscriptTail value slice (.ref l) (.ref s.heap.objs.size)) Q E { s with heap := s.heap.push { cls := .type "slice", data := .fields #[.none, .int 1 uj, .none] } } := by
  refine slice_listK (lo := none) (hi := some 1) hl .none (.int 1 uj) ?_ hs ht (by simpa using hz)
  rw [pick1]
  refine h _ _ (S.add (Go.heap (s := s)) (fun b o q => Heap.get?_push_of_some _ (Heap.get?_push_of_some _ q)) (fresh_above _ 1) ?_)
  have e : s.heap.objs.size + 1 = (s.heap.push { cls := .type "slice", data := .fields #[.none, .int 1 uj, .none] }).objs.size := by rw [Heap.size_push]
  rw [e]
  exact Heap.get?_push_size _ rfl
end
end
-- L15
section
/-- the rows, each written in the ledger -/
def RowsN (tl : List (Addr × Obj)) (vs : List Value) (kvs : List (Str × Str)) : Prop := vs.length = kvs.length ∧ ∀ (i : Nat) (v : Value), vs[i]? = some v → ∃ T k y tk ty, v = .ref T ∧ (T, ({ cls := .type "tuple", data := .seq #[.str k tk, .str y ty] } : Obj)) ∈ tl ∧ kvs[i]? = some (k, y)
theorem RowsN.up {tl tl' : List (Addr × Obj)} {vs : List Value} {kvs : List (Str × Str)} (R : RowsN tl vs kvs) (hn : ∀ p ∈ tl, p ∈ tl') : RowsN tl' vs kvs :=
  ⟨R.1, fun i v q => let ⟨T, k, y, tk, ty, a, b, c⟩ := R.2 i v q; ⟨T, k, y, tk, ty, a, hn _ b, c⟩⟩
theorem RowsN.rows {h : Heap} {tl : List (Addr × Obj)} {vs : List Value} {kvs : List (Str × Str)} (R : RowsN tl vs kvs) (ht : ∀ p ∈ tl, h.get? p.1 = some p.2) : Rows h vs kvs :=
  ⟨R.1, fun i v q => let ⟨T, k, y, tk, ty, a, b, c⟩ := R.2 i v q; ⟨T, k, y, tk, ty, a, ht _ b, c⟩⟩
theorem RowsN.snoc {tl : List (Addr × Obj)} {vs : List Value} {kvs : List (Str × Str)} {T : Addr} {k y : Str} {tk ty : Tok} (R : RowsN tl vs kvs) : RowsN ((T, { cls := .type "tuple", data := .seq #[.str k tk, .str y ty] }) :: tl) (vs ++ [.ref T]) (kvs ++ [(k, y)]) := by
  refine ⟨by simp [R.1], fun i v hv => ?_⟩
  rcases Nat.lt_or_ge i vs.length with hlt | hge
  · rw [List.getElem?_append_left hlt] at hv
    obtain ⟨T', k', y', tk', ty', a, b, c⟩ := R.2 i v hv
    exact ⟨T', k', y', tk', ty', a, .tail _ b, by rw [List.getElem?_append_left (by rw [← R.1]; exact hlt)]; exact c⟩
  · rw [List.getElem?_append_right hge] at hv
    have h0 : i - vs.length = 0 := by
      rcases Nat.eq_zero_or_pos (i - vs.length) with h0 | h0
      · exact h0
      · rw [List.getElem?_eq_none (by simp; omega)] at hv; cases hv
    rw [h0] at hv
    obtain rfl := (Option.some.inj hv).symm
    exact ⟨T, k, y, tk, ty, rfl, .head _, by rw [List.getElem?_append_right (by rw [← R.1]; exact hge), ← R.1, h0]; rfl⟩
def sig (pats : List Str) (rows : List (List Bool)) (ans : List Bool) (way : Int) (i : Nat) : LS := (List.range i).foldl (fun σ _ => turnF (pats.zip rows) ans way σ) ⟨[], List.range 6⟩
theorem sig_succ (pats : List Str) (rows : List (List Bool)) (ans : List Bool) (way : Int) (i : Nat) : sig pats rows ans way (i + 1) = turnF (pats.zip rows) ans way (sig pats rows ans way i) := by
  unfold sig
  rw [show List.range (i + 1) = List.range i ++ [i] from List.range_succ, List.foldl_append]
  rfl
/-- the state after i turns -/
structure LJ (pats : List Str) (rows : List (List Bool)) (ans : List Bool) (way : Int) (tw : Tok) (pa ta aa x dx l : Addr) (od : Obj) (i : Nat) (m : Str → Option Value) (news : List (Addr × Obj)) : Prop where
  patterns : m (Str.ofString "patterns") = some (.ref pa)
  told : m (Str.ofString "told") = some (.ref ta)
  answers : m (Str.ofString "answers") = some (.ref aa)
  wayv : m (Str.ofString "way") = some (.int way tw)
  table : m (Str.ofString "table") = some (.ref x)
  ledger : ∃ vs en tl lf ys ln, news = (l, listOf vs.toArray en) :: (x, instObj 192 dx) :: (dx, od) :: (lf, listOf ys.toArray ln) :: tl ∧ m (Str.ofString "left") = some (.ref lf) ∧ RowsN tl vs (sig pats rows ans way i).kvs ∧
    IntsAre ys ((sig pats rows ans way i).left.map fun k : Nat => (k : Int))
  keys : ∀ p ∈ (sig pats rows ans way i).kvs, p.1 ∈ pats
  small : ∀ k ∈ (sig pats rows ans way i).left, k < 6
  few : (sig pats rows ans way i).kvs.length ≤ i
  less : (sig pats rows ans way i).left.length ≤ 6
theorem str_bne (x y : Str) : (x.cps.toList != y.cps.toList) = !(x == y) := by
  obtain ⟨a⟩ := x
  obtain ⟨b⟩ := y
  by_cases h : a = b
  · subst h
    simp
  · have h1 : (a.toList != b.toList) = true := by
      simpa using h
    have h2 : ((Str.mk a) == (Str.mk b)) = false := by
      apply beq_false_of_ne
      intro q
      exact h (congrArg Str.cps q)
    show (a.toList != b.toList) = _
    rw [h1, h2]
    rfl
theorem n_neS {prog : Program} {w : World} {A : Around} {E : Value → Shared → Prop} {s : Shared} {x y : Str} {t u : Tok} {Q : Value → Shared → Prop} (h : Q (.bool (!(x == y))) s) : wpAny (model prog w) A (compareOp .NotEq (.str x t) (.str y u)) Q E s :=
  P.ne_str (by rw [str_bne]; exact h)
def pickAt (pats : List Str) (rows : List (List Bool)) (ans : List Bool) (way : Int) (left : List Nat) (j : Nat) : Pick := ((pats.zip rows).take j).foldl (pickStep ans left way) pick0
/-- within a turn, after j patterns -/
structure PJ (h : Heap) (pats : List Str) (rows : List (List Bool)) (ans : List Bool) (way : Int) (tw : Tok) (left : List Nat) (pa ta aa x lf : Addr) (base : List (Addr × Obj)) (j : Nat) (m : Str → Option Value) (news : List (Addr × Obj)) : Prop where
  patterns : m (Str.ofString "patterns") = some (.ref pa)
  told : m (Str.ofString "told") = some (.ref ta)
  answers : m (Str.ofString "answers") = some (.ref aa)
  wayv : m (Str.ofString "way") = some (.int way tw)
  table : m (Str.ofString "table") = some (.ref x)
  leftv : m (Str.ofString "left") = some (.ref lf)
  pick : ∃ t, m (Str.ofString "pick") = some (.str (pickAt pats rows ans way left j).key t)
  answer : ∃ t, m (Str.ofString "answer") = some (.str (pickAt pats rows ans way left j).ans t)
  taken : ∃ tr, m (Str.ofString "taken") = some (.ref tr) ∧ ((pickAt pats rows ans way left j).key = Str.ofString "" ∨ h.IsList tr ((pickAt pats rows ans way left j).row.map Value.bool).toArray)
  ledger : news = base
theorem pick_form {pats : List Str} {rows : List (List Bool)} {ans : List Bool} {way : Int} {left : List Nat} (j : Nat) : pickAt pats rows ans way left j = pick0 ∨ ∃ q ∈ pats.zip rows, ∃ b, pickAt pats rows ans way left j = ⟨q.1, ynS b, q.2⟩ := by
  unfold pickAt
  have key : ∀ (l : List (Str × List Bool)) (p : Pick), (∀ q ∈ l, q ∈ pats.zip rows) → (p = pick0 ∨ ∃ q ∈ pats.zip rows, ∃ b, p = ⟨q.1, ynS b, q.2⟩) →
      (l.foldl (pickStep ans left way) p = pick0 ∨ ∃ q ∈ pats.zip rows, ∃ b, l.foldl (pickStep ans left way) p = ⟨q.1, ynS b, q.2⟩) := by
    intro l
    induction l with
    | nil => exact fun p _ hp => hp
    | cons a r ih =>
      intro p hl hp
      refine ih _ (fun q hq => hl q (.tail _ hq)) ?_
      unfold pickStep
      split
      · exact .inr ⟨a, hl a (.head _), _, rfl⟩
      · exact hp
  exact key _ pick0 (fun q hq => List.mem_of_mem_take hq) (.inl rfl)
section
variable {w : World} {A : Around} {s : Shared} {mean : ExcName → Option Value} {mg mb : Str → Option Value} {Q E : Value → Shared → Prop}
theorem learned_c (W : Wd w mean mg mb s.heap) (hA : Ok A 4) {pa ta aa : Addr} {pats : List Str} {rows : List (List Bool)} {ans : List Bool} {pvs avs : List Value} {way : Int} {tw : Tok}
    (hp : s.heap.IsList pa pvs.toArray) (hps : Strs pvs pats) (hT : Told s.heap ta rows) (hl : s.heap.IsList aa avs.toArray) (ha : Yn avs ans) (h6 : ans.length = 6) (hr : ∀ r ∈ rows, r.length = 6) (hpr : pats.length = rows.length) (hpl : pats.length ≤ 5) (hlow : ∀ p ∈ pats, Low p)
    (h : ∀ s' a x dx l lf od vs ys n e led, Go s s' → Ext s.heap s'.heap → (∀ p ∈ led, s.heap.get? p.1 = none ∧ s'.heap.get? p.1 = some p.2) → (led.map (·.1)).Nodup → (a, ({ cls := .type "tuple", data := .seq #[.ref x, .ref lf] } : Obj)) ∈ led → (x, instObj 192 dx) ∈ led → (dx, od) ∈ led → IsTab od l → (l, listOf vs.toArray n) ∈ led → (lf, listOf ys.toArray e) ∈ led →
      RowsN led vs (learnF (pats.zip rows) ans way).kvs → (learnF (pats.zip rows) ans way).kvs.length ≤ 5 → IntsAre ys ((learnF (pats.zip rows) ans way).left.map fun k : Nat => (k : Int)) → Q (.ref a) s') :
    wpAny (model PG w) A (call (.ref 234) [.ref pa, .ref ta, .ref aa, .int way tw] []) Q E s := by
  walk_at "m:enter"
  case md => exact Nat.lt_of_le_of_lt (Nat.le_add_right _ _) hA.dp
  intro L s₁ env own m hm he ho S
  have hh : A.handled = none := hA.hd
  have hm1 : m (Str.ofString "patterns") = some (.ref pa) := hm _ _ rfl
  have hm2 : m (Str.ofString "told") = some (.ref ta) := hm _ _ rfl
  have hm3 : m (Str.ofString "answers") = some (.ref aa) := hm _ _ rfl
  have hm4 : m (Str.ofString "way") = some (.int way tw) := hm _ _ rfl
  clear hm
  (try k_unmd)
  k_fold
  have hO := hA.deeper env
  have hun : (A.deeper env).units + 64 < cLine := by have := hO.un; omega
  have hav : avs.length = 6 := ha.1.trans h6
  have hal : avs.length ≤ 2 ^ 24 := by rw [hav]; decide
  have hpv : pvs.length ≤ 5 := by rw [hps.1]; exact hpl
  have hpa : pvs.length ≤ 2 ^ 24 := by have : (5 : Nat) ≤ 2 ^ 24 := by decide
                                       omega
  walk_at "m:all"
  refine headers_c (W.ext S.keep) (hO.less (by decide)) fun s2 x dx l od e2 g2 k2 nl nx nd l2 x2 d2 tb h1 h2 h3 => ?_
  have S2 : Sta s env own s2 m [(l, listOf #[] e2), (x, instObj 192 dx), (dx, od)] := by
    have := S.adds (l := [(l, listOf #[] e2), (x, instObj 192 dx), (dx, od)]) g2 k2 (by
      intro p hp
      simp at hp
      rcases hp with rfl | rfl | rfl
      · exact ⟨nl, l2⟩
      · exact ⟨nx, x2⟩
      · exact ⟨nd, d2⟩) (by simp [h1, h2, h3])
    exact this
  walk_at "m:all"
  rename_i tl s3 S3 rr r1 r2 r3 s4 S4
  refine o_listRange S4 hA.hd (isR (S4.get (.head _))) hal fun lf ys n hI s5 S5 => ?_
  walk_at "m:all"
  rename_i T0 sA SA sB SB sC SC tl2 sD SD RR q1 q2 q3 sR SR
  obtain ⟨rs1, rs2⟩ := range_small (n := pvs.length) hpa
  have SR' := SR.drop (news' := [(l, listOf #[] e2), (x, instObj 192 dx), (dx, od), (lf, listOf ys.toArray n)]) (by intro p hp; simp at hp ⊢; grind) (by have := SR.nodup; simp at this ⊢; grind)
  refine for_range (n := pvs.length) (fun i m' n' => LJ pats rows ans way tw pa ta aa x dx l od i m' n') hh SR' (isR (SR.get (.head _))) rs1 rs2 ?k0 ?kturn ?kdone
  case k0 =>
    refine ⟨by walk_at "m:look", by walk_at "m:look", by walk_at "m:look", by walk_at "m:look", by walk_at "m:look", ⟨[], _, [], lf, ys, n, rfl, by walk_at "m:look", ⟨rfl, fun i v q => (by simp at q)⟩, ?_⟩, ?_, ?_, Nat.le_refl _, Nat.le_refl _⟩
    · rw [hav] at hI
      exact hI
    · intro p hp
      exact absurd hp List.not_mem_nil
    · intro k hk
      exact List.mem_range.mp hk
  case kturn =>
    intro i ti s6 m6 n6 a oo hi J S6
    obtain ⟨j1, j2, j3, j4, j5, ⟨vs, en, tl, lf', ys', ln, rfl, j6, j7, j8⟩, j9, j10, j11, j12⟩ := J
    iterate 14 walk_at "m:5"
    refine o_newTuple (by assumption) (Nat.le_of_ble_eq_true rfl) fun T s7 S7 => ?_
    rename_i tp s9 S9 tn s10 S10 tkn s11 S11
    refine o_unpack (vs := [.str (Str.ofString "") tp, .str (Str.ofString "") tn, .ref tkn]) S7 hh (isT (S7.get (.head _))) rfl rfl fun s8 S8 => ?_
    walk_at "m:all"
    rename_i s12 S12
    obtain ⟨tvs, ht1, ht2, ht3⟩ := hT.refs
    have hpt : pvs.length = tvs.length := by rw [hps.1, ht2, hpr]
    refine for_zip (xs := pvs) (ys := tvs) (PJ s.heap pats rows ans way tw (sig pats rows ans way i).left pa ta aa x lf' ((a, oo) :: (l, listOf vs.toArray en) :: (x, instObj 192 dx) :: (dx, od) :: (lf', listOf ys'.toArray ln) :: tl)) hh (S12.tail.tail) (hp.at fun o q => S12.keep _ _ q) (ht1.at fun o q => S12.keep _ _ q) hpt ?i0 ?iax ?iay ?iturn ?idone
    case i0 =>
      exact ⟨by walk_at "m:look", by walk_at "m:look", by walk_at "m:look", by walk_at "m:look", by walk_at "m:look", by walk_at "m:look", ⟨_, by walk_at "m:look"⟩, ⟨_, by walk_at "m:look"⟩, ⟨_, by walk_at "m:look", .inl rfl⟩, rfl⟩
    case iax => obtain ⟨o, q, _⟩ := hp; exact ⟨o, q⟩
    case iay => obtain ⟨o, q, _⟩ := ht1; exact ⟨o, q⟩
    case iturn =>
      rintro j xv yv T s13 m13 n13 ow hj hxv hyv hTT PJ0 S13
      obtain ⟨q1, q2, q3, q4, q5, q6, ⟨tp', q7⟩, ⟨tn', q8⟩, ⟨tr, q9, q10⟩, rfl⟩ := PJ0
      obtain ⟨p, tq, rfl, hpj⟩ := hps.2 j xv hxv
      obtain ⟨ra, r, rfl, hrj, hlr⟩ := ht3 j yv hyv
      have hr6 : r.length = 6 := hr r (List.mem_of_getElem? hrj)
      refine o_unpack (vs := [.str p tq, .ref ra]) S13 hh hTT rfl rfl fun s14 S14 => ?_
      walk_at "m:all"
      rename_i s15 S15 s16 S16
      obtain ⟨σ, hσ⟩ : ∃ σ, σ = sig pats rows ans way i := ⟨_, rfl⟩
      rw [← hσ] at q7 q8 q10 j8 j10 j12
      have hyl : ys'.length = σ.left.length := by have := j8.length; simpa using this
      have hz := slz
      refine comp_list (vs := ys') (fun k ys led => led = [] ∧ Yn ys (metF ans (σ.left.take k) r)) hh S16 (isL (S16.get (List.mem_append_right _ (by walk_at "m:mem")))) (by omega) rfl (by decide) (okAll he rfl) ⟨rfl, yn_nil⟩
        (turnOf (W.ext S16.keep) he ?mt2) ?md2 (.inl (by intro _ _; rfl))
      case mt2 =>
        rintro k v zs led C' s₀' s₃ m₃ cenv' cown' hk hP ⟨rfl, hzs⟩ hle' hE' hf' W₃ he₃ ho₃ S₃
        obtain ⟨z, tz, hz1, rfl⟩ := ints_get j8 hP
        have hz6 := j10 z (List.mem_of_getElem? hz1)
        have f1 : m₃ (Str.ofString "answers") = some (.ref aa) := (hf' _ rfl).trans (by walk_at "m:look")
        have f2 : m₃ (Str.ofString "row") = some (.ref ra) := (hf' _ rfl).trans (by walk_at "m:look")
        have hX : Ext s.heap s₀'.heap := S16.keep.trans hE'
        walk_at "m:all"
        rename_i sL SL
        refine' n_item z (l := r.map Value.bool) (x := .bool (r.getD z false)) ?q1 ?q2 ?q3 ?q4 ?_ ?q5 ?q6
        case q1 => exact hlr.at fun o q => SL.keep _ _ (hX _ _ q)
        case q2 => rfl
        case q3 => omega
        case q4 =>
          rw [List.getElem?_map, List.getD_eq_getElem?_getD, List.getElem?_eq_getElem (by omega)]
          rfl
        case q5 => with_unfolding_all rfl
        case q6 => intro _; with_unfolding_all rfl
        walk_at "m:all"
        refine ite_b (fun hb => ?_) fun hb => ?_
        · have hak : z < avs.length := by omega
          obtain ⟨b, tb', hb1, hb2⟩ := ha.2 z avs[z] (List.getElem?_eq_getElem hak)
          have hbk : ans.getD z false = b := by rw [List.getD_eq_getElem?_getD, hb1]; rfl
          walk_at "m:all"
          refine' n_item z (l := avs) (x := .str (ynS b) tb') ?q1 ?q2 ?q3 ?q4 ?_ ?q5 ?q6
          case q1 => exact hl.at fun o q => SL.keep _ _ (hX _ _ q)
          case q2 => rfl
          case q3 => omega
          case q4 => rw [List.getElem?_eq_getElem hak, hb2]
          case q5 => with_unfolding_all rfl
          case q6 => intro _; with_unfolding_all rfl
          walk_at "m:all"
          refine ⟨_, [], (by assumption), rfl, ?_⟩
          rw [metF_snoc_t hz1 hb, hbk]
          exact yn_snoc hzs b tb'
        · walk_at "m:all"
          refine ⟨_, [], SL, rfl, ?_⟩
          rw [metF_snoc_f hz1 hb]
          exact hzs
      case md2 =>
        rintro ys led D e' hle ⟨rfl, hzs⟩
        refine UseOk.store (by rw [he.eq]) (by rw [he.eq]; rfl) fun sD SD => ?_
        rw [hyl, List.take_length] at hzs
        walk_at "m:all"
        rename_i a0 sE SE
        have hsh := met_shaped (metF ans σ.left r)
        have hne : pickAt pats rows ans way σ.left (j + 1) = pickStep ans σ.left way (pickAt pats rows ans way σ.left j) (p, r) := by
          unfold pickAt
          have hz : (pats.zip rows)[j]? = some (p, r) := by rw [List.getElem?_zip_eq_some]; exact ⟨hpj, hrj⟩
          rw [List.take_add_one, hz, List.foldl_append]
          rfl
        refine n_ne hun (reads_list (SE.get (.tail _ (.head _))) (yn_reads hzs)) (reads_list (vs := []) (SE.get (.head _)) .nil) hsh (shaped_list (ds := []) (fun _ h => nomatch h) fun _ h => nomatch h) ?_
        have hlen6 : ys.length ≤ 6 := by omega
        cases ys with
        | nil =>
          have hmet : metF ans σ.left r = [] := List.eq_nil_of_length_eq_zero hzs.1.symm
          have hc : (!PyData.eqv (.list ((metF ans σ.left r).map fun b => PyData.str (ynS b))) (.list [])) = false := by
            rw [hmet]
            simp [PyData.eqv, PyData.eqvAll]
          rw [hc]
          walk_at "m:all"
          have hstep : pickAt pats rows ans way σ.left (j + 1) = pickAt pats rows ans way σ.left j := by
            rw [hne]
            unfold pickStep
            rw [hmet]
            rfl
          subst hσ
          exact ⟨_, _, SE.sub (by repeat (first | exact List.Sublist.refl _ | apply List.Sublist.cons)), ⟨by walk_at "m:look", by walk_at "m:look", by walk_at "m:look", by walk_at "m:look", by walk_at "m:look", by walk_at "m:look", ⟨tp', by rw [hstep]; walk_at "m:look"⟩, ⟨tn', by rw [hstep]; walk_at "m:look"⟩, ⟨tr, by walk_at "m:look", by rw [hstep]; exact q10⟩, rfl⟩⟩
        | cons v ys =>
          obtain ⟨b, tb, rr, hmet, rfl, hrr⟩ := yn_cons hzs
          have hc : (!PyData.eqv (.list ((metF ans σ.left r).map fun b => PyData.str (ynS b))) (.list [])) = true := by
            rw [hmet]
            simp [PyData.eqv, PyData.eqvAll]
          rw [hc]
          walk_at "m:all"
          rename_i tt sF SF
          refine o_list1 (s := ⟨_, _, _, _, _⟩) (v := .str (ynS b) tb) (r := ys) SF (isL (SF.get (.tail _ (.head _)))) (Nat.le_trans hlen6 (Nat.le_trans (by decide) slz)) (fun a1 sG SG => ?_) (by with_unfolding_all rfl) (by intro _; with_unfolding_all rfl)
          walk_at "m:all"
          rename_i tL sH SH
          refine o_mulList (vs := [.str (ynS b) tb]) (Value.str (ynS b) tb :: ys).length SH (SH.get (.head _)) rfl (Nat.le_trans hlen6 (by decide)) (by rw [List.length_singleton, Nat.one_mul]; exact Nat.le_trans hlen6 (by decide)) fun a2 sI SI => ?_
          walk_at "m:all"
          have hrl : rr.length = ys.length := hrr.1.symm
          refine n_eq hun (reads_list (SI.get (.tail _ (.tail _ (.tail _ (.head _))))) (yn_reads hzs)) (reads_list (SI.get (.head _)) (yn_reads (yn_rep b tb _))) hsh (met_shaped _) ?_
          rw [hmet, show (Value.str (ynS b) tb :: ys).length = (b :: rr).length by simp [hrl], eqv_sole]
          walk_at "m:all"
          refine ite_b (fun hsole => ?_) fun hsole => ?_
          · walk_at "m:all"
            rename_i tY sK SK
            refine ite_b (fun hpick => ?_) fun hpick => ?_
            · iterate 10 walk_at "m:5"
              rename_i tM sM SM
              refine' n_item 0 (l := Value.str (ynS b) tb :: ys) (x := .str (ynS b) tb) ?w1 rfl (by decide) rfl ?_ ?w5 ?w6
              case w1 => exact isL (SM.get (.tail _ (.tail _ (.tail _ (.head _)))))
              case w5 => with_unfolding_all rfl
              case w6 => intro _; with_unfolding_all rfl
              iterate 3 walk_at "m:5"
              refine o_newTuple (vs := [.str p tq, .str (ynS b) tb, .ref ra]) (by assumption) (Nat.le_of_ble_eq_true rfl) fun T2 sT ST => ?_
              refine o_unpack (vs := [.str p tq, .str (ynS b) tb, .ref ra]) ST hh (isT (ST.get (.head _))) rfl rfl fun sU SU => ?_
              walk_at "m:all"
              rename_i sV SV
              have hstep : pickAt pats rows ans way σ.left (j + 1) = ⟨p, ynS b, r⟩ := by
                rw [hne]
                unfold pickStep
                rw [if_pos (Bool.and_eq_true_iff.mpr ⟨by rw [hmet]; exact hsole, Bool.or_eq_true_iff.mpr (.inl hpick)⟩), hmet]
                rfl
              subst hσ
              exact ⟨_, _, SV.sub (by repeat (first | exact List.Sublist.refl _ | apply List.Sublist.cons)), ⟨by walk_at "m:look", by walk_at "m:look", by walk_at "m:look", by walk_at "m:look", by walk_at "m:look", by walk_at "m:look", ⟨tq, by rw [hstep]; walk_at "m:look"⟩, ⟨tb, by rw [hstep]; walk_at "m:look"⟩, ⟨ra, by walk_at "m:look", by rw [hstep]; exact .inr hlr⟩, rfl⟩⟩
            · walk_at "m:all"
              refine strcoll_c (W.ext SK.keep) (hO.less (by decide)) fun sN tN gN eN => ?_
              have SN := SK.grow gN eN
              walk_at "m:all"
              refine ite_b (fun hcoll => ?_) fun hcoll => ?_
              · iterate 10 walk_at "m:5"
                rename_i tM sM SM
                refine' n_item 0 (l := Value.str (ynS b) tb :: ys) (x := .str (ynS b) tb) ?w1 rfl (by decide) rfl ?_ ?w5 ?w6
                case w1 => exact isL (SM.get (.tail _ (.tail _ (.tail _ (.head _)))))
                case w5 => with_unfolding_all rfl
                case w6 => intro _; with_unfolding_all rfl
                iterate 3 walk_at "m:5"
                refine o_newTuple (vs := [.str p tq, .str (ynS b) tb, .ref ra]) (by assumption) (Nat.le_of_ble_eq_true rfl) fun T2 sT ST => ?_
                refine o_unpack (vs := [.str p tq, .str (ynS b) tb, .ref ra]) ST hh (isT (ST.get (.head _))) rfl rfl fun sU SU => ?_
                walk_at "m:all"
                rename_i sV SV
                have hstep : pickAt pats rows ans way σ.left (j + 1) = ⟨p, ynS b, r⟩ := by
                  rw [hne]
                  unfold pickStep
                  rw [if_pos (Bool.and_eq_true_iff.mpr ⟨by rw [hmet]; exact hsole, Bool.or_eq_true_iff.mpr (.inr hcoll)⟩), hmet]
                  rfl
                subst hσ
                exact ⟨_, _, SV.sub (by repeat (first | exact List.Sublist.refl _ | apply List.Sublist.cons)), ⟨by walk_at "m:look", by walk_at "m:look", by walk_at "m:look", by walk_at "m:look", by walk_at "m:look", by walk_at "m:look", ⟨tq, by rw [hstep]; walk_at "m:look"⟩, ⟨tb, by rw [hstep]; walk_at "m:look"⟩, ⟨ra, by walk_at "m:look", by rw [hstep]; exact .inr hlr⟩, rfl⟩⟩
              · walk_at "m:all"
                have hstep : pickAt pats rows ans way σ.left (j + 1) = pickAt pats rows ans way σ.left j := by
                  rw [hne]
                  unfold pickStep
                  rw [if_neg (by rw [hpick, hcoll]; simp)]
                subst hσ
                exact ⟨_, _, SN.sub (by repeat (first | exact List.Sublist.refl _ | apply List.Sublist.cons)), ⟨by walk_at "m:look", by walk_at "m:look", by walk_at "m:look", by walk_at "m:look", by walk_at "m:look", by walk_at "m:look", ⟨tp', by rw [hstep]; walk_at "m:look"⟩, ⟨tn', by rw [hstep]; walk_at "m:look"⟩, ⟨tr, by walk_at "m:look", by rw [hstep]; exact q10⟩, rfl⟩⟩
          · walk_at "m:all"
            have hstep : pickAt pats rows ans way σ.left (j + 1) = pickAt pats rows ans way σ.left j := by
              rw [hne]
              unfold pickStep
              rw [hmet, hsole]
              rfl
            subst hσ
            exact ⟨_, _, SI.sub (by repeat (first | exact List.Sublist.refl _ | apply List.Sublist.cons)), ⟨by walk_at "m:look", by walk_at "m:look", by walk_at "m:look", by walk_at "m:look", by walk_at "m:look", by walk_at "m:look", ⟨tp', by rw [hstep]; walk_at "m:look"⟩, ⟨tn', by rw [hstep]; walk_at "m:look"⟩, ⟨tr, by walk_at "m:look", by rw [hstep]; exact q10⟩, rfl⟩⟩
    case idone =>
      rintro s13 m13 n13 PJ0 S13
      obtain ⟨q1, q2, q3, q4, q5, q6, ⟨tp', q7⟩, ⟨tn', q8⟩, ⟨tr, q9, q10⟩, rfl⟩ := PJ0
      walk_at "m:all"
      refine n_neS ?_
      walk_at "m:all"
      refine ite_b (fun c1 => ?_) fun c1 => ?_
      · walk_at "m:all"
        rename_i tX s14 S14
        have I : Inst s14.heap x l := tb.inst (S14.get (by walk_at "m:mem")) (S14.get (by walk_at "m:mem"))
        walk_at "m:all"
        obtain ⟨σ, hσ⟩ : ∃ σ, σ = sig pats rows ans way i := ⟨_, rfl⟩
        rw [← hσ] at q7 q8 q10 c1 j7 j8 j9 j10 j11 j12
        rw [← hσ]
        have hform := pick_form (pats := pats) (rows := rows) (ans := ans) (way := way) (left := σ.left) pvs.length
        have hpkF : pickF (pats.zip rows) ans σ.left way = pickAt pats rows ans way σ.left pvs.length := by
          unfold pickAt pickF
          rw [List.take_of_length_le (l := pats.zip rows) (i := pvs.length) (by rw [List.length_zip, hps.1]; exact Nat.min_le_left _ _)]
        obtain ⟨pk, hpk⟩ : ∃ pk, pk = pickAt pats rows ans way σ.left pvs.length := ⟨_, rfl⟩
        rw [← hpk] at q7 q8 q10 c1 hform hpkF
        rw [← hpk]
        have hkne : (pk.key == Str.ofString "") = false := by simpa using c1
        obtain ⟨qq, hqq, bb, hpe⟩ := hform.resolve_left (fun e => by rw [e] at hkne; simp [pick0] at hkne)
        have hkp : pk.key ∈ pats := by rw [hpe]; exact (List.of_mem_zip hqq).1
        have hprl : pk.row.length = 6 := by rw [hpe]; exact hr _ (List.of_mem_zip hqq).2
        have htl := q10.resolve_left (fun e => by rw [e] at hkne; simp at hkne)
        have hans : Tame pk.ans := by
          rw [hpe]
          show Tame (ynS bb)
          cases bb
          · exact tame_of (by decide +kernel)
          · exact tame_of (by decide +kernel)
        have hsig : sig pats rows ans way (i + 1) = turnF (pats.zip rows) ans way σ := by rw [sig_succ, hσ]
        have hz := slz
        have hsl : (l, listOf vs.toArray en) ∈ ((a, oo) :: (l, listOf vs.toArray en) :: (x, instObj 192 dx) :: (dx, od) :: (lf', listOf ys'.toArray ln) :: tl) := .tail _ (.head _)
        refine wpAny_mono (Q := fun v sX => ∃ z tz vs' en' tl' kvs', v = .str z tz ∧ Sta s env own sX m13 ((a, oo) :: (l, listOf vs'.toArray en') :: (x, instObj 192 dx) :: (dx, od) :: (lf', listOf ys'.toArray ln) :: tl') ∧ RowsN tl' vs' kvs' ∧ (∀ p ∈ kvs', p.1 ∈ pats) ∧ kvs'.length ≤ i + 1 ∧
          ((z == pk.ans) = true → sig pats rows ans way (i + 1) = ⟨kvs', σ.left.filter fun k => !pk.row.getD k false⟩) ∧ ((z == pk.ans) = false → sig pats rows ans way (i + 1) = ⟨kvs', σ.left⟩)) ?call ?rest fun _ _ e => e
        case call =>
          refine setdefault_c (vs := vs) (n := en) (kvs := σ.kvs) W S14.keep (S14.made _ hsl).2.1 (hO.less (by decide)) I (S14.get hsl) (j7.rows fun p hp => S14.get (.tail _ (.tail _ (.tail _ (.tail _ (.tail _ hp)))))) (fun p hp => hlow _ (j9 p hp)) (by rw [j7.1]; omega) (hlow _ hkp) hans (fun sX z t hget gX eX => ?_) fun sX T e hget gX eX hlX hTX hTn => ?_
          · refine ⟨z, t, vs, en, tl, σ.kvs, rfl, S14.grow gX eX, j7, j9, by omega, fun hc => ?_, fun hc => ?_⟩
            · rw [hsig]
              unfold turnF
              dsimp only
              rw [hpkF, if_neg (by rw [hkne]; decide), hget]
              dsimp only
              rw [if_pos hc]
            · rw [hsig]
              unfold turnF
              dsimp only
              rw [hpkF, if_neg (by rw [hkne]; decide), hget]
              dsimp only
              rw [if_neg (by rw [hc]; decide)]
          · have SP := S14.drop (news' := (l, listOf vs.toArray en) :: (a, oo) :: (x, instObj 192 dx) :: (dx, od) :: (lf', listOf ys'.toArray ln) :: tl) (by intro p hp; simp at hp ⊢; grind) (by have := S14.nodup; simp at this ⊢; grind)
            have SB := SP.addB gX eX hlX hTn hTX
            refine ⟨pk.ans, tn', vs ++ [.ref T], e, _ :: tl, σ.kvs ++ [(pk.key, pk.ans)], rfl, SB.drop (news' := (a, oo) :: (l, listOf (vs ++ [Value.ref T]).toArray e) :: (x, instObj 192 dx) :: (dx, od) :: (lf', listOf ys'.toArray ln) :: (T, { cls := .type "tuple", data := .seq #[.str pk.key tp', .str pk.ans tn'] }) :: tl) (by intro p hp; simp at hp ⊢; grind) (by have := SB.nodup; simp at this ⊢; grind), j7.snoc, fun p hp => ?_, by simp; omega, fun hc => ?_, fun hc => ?_⟩
            · rcases List.mem_append.mp hp with hp | hp
              · exact j9 p hp
              · rw [List.mem_singleton.mp hp]
                exact hkp
            · rw [hsig]
              unfold turnF
              dsimp only
              rw [hpkF, if_neg (by rw [hkne]; decide), hget]
            · exact absurd hc (by simp)
        case rest =>
          rintro v sX ⟨z, tz, vs', en', tl', kvs', rfl, SX, k1, k2, k3, hT1, hF1⟩
          walk_at "m:all"
          refine ite_b (fun hzc => ?_) fun hzc => ?_
          · walk_at "m:all"
            have e1 := hT1 hzc
            have hyl : ys'.length = σ.left.length := by have := j8.length; simpa using this
            refine comp_list (vs := ys') (fun k ys led => led = [] ∧ IntsAre ys (((σ.left.take k).filter fun z => !pk.row.getD z false).map fun k : Nat => (k : Int))) hh SX (isL (SX.get (by walk_at "m:mem"))) (by omega) rfl (by decide) (okAll he rfl) ⟨rfl, .nil⟩
              (turnOf (W.ext SX.keep) he ?lt2) ?ld2 (.inl (by intro _ _; rfl))
            case lt2 =>
              rintro k v zs led C' s₀' s₃ m₃ cenv' cown' hk hP ⟨rfl, hzs⟩ hle' hE' hf' W₃ he₃ ho₃ S₃
              obtain ⟨u, tu, hu1, rfl⟩ := ints_get j8 hP
              have hu6 := j10 u (List.mem_of_getElem? hu1)
              have f1 : m₃ (Str.ofString "taken") = some (.ref tr) := (hf' _ rfl).trans (by walk_at "m:look")
              have hX : Ext s.heap s₀'.heap := SX.keep.trans hE'
              walk_at "m:all"
              rename_i sL SL
              refine' n_item u (l := pk.row.map Value.bool) (x := .bool (pk.row.getD u false)) ?o1 ?o2 ?o3 ?o4 ?_ ?o5 ?o6
              case o1 => exact htl.at fun o q => SL.keep _ _ (hX _ _ q)
              case o2 => rfl
              case o3 => omega
              case o4 =>
                rw [List.getElem?_map, List.getD_eq_getElem?_getD, List.getElem?_eq_getElem (by omega)]
                rfl
              case o5 => with_unfolding_all rfl
              case o6 => intro _; with_unfolding_all rfl
              walk_at "m:all"
              refine ite_b (fun hb => ?_) fun hb => ?_
              · walk_at "m:all"
                refine ⟨_, [], (by assumption), rfl, ?_⟩
                rw [List.take_add_one, hu1, List.filter_append, List.map_append]
                have : [u].filter (fun z => !pk.row.getD z false) = [u] := by rw [List.filter_cons, if_pos hb]; rfl
                show IntsAre _ (_ ++ ([u].filter _).map _)
                rw [this]
                exact ints_snoc hzs _ _
              · walk_at "m:all"
                refine ⟨_, [], (by assumption), rfl, ?_⟩
                rw [List.take_add_one, hu1, List.filter_append, List.map_append]
                have : [u].filter (fun z => !pk.row.getD z false) = [] := by rw [List.filter_cons, if_neg (by rw [hb]; decide)]; rfl
                show IntsAre _ (_ ++ ([u].filter _).map _)
                rw [this, List.map_nil, List.append_nil]
                exact hzs
            case ld2 =>
              rintro ys led D e' hle ⟨rfl, hzs⟩
              refine UseOk.store (by rw [he.eq]) (by rw [he.eq]; rfl) fun sD SD => ?_
              rw [hyl, List.take_length] at hzs
              walk_at "m:all"
              refine ⟨_, _, SD.drop (news' := (a, oo) :: (l, listOf vs'.toArray en') :: (x, instObj 192 dx) :: (dx, od) :: (D, listOf ys.toArray e') :: tl') (by intro p hp; simp at hp ⊢; grind) (by have := SD.nodup; simp at this ⊢; grind), ⟨by walk_at "m:look", by walk_at "m:look", by walk_at "m:look", by walk_at "m:look", by walk_at "m:look", ⟨vs', en', tl', D, ys, e', rfl, by walk_at "m:look", by rw [e1]; exact k1, by rw [e1]; exact hzs⟩, by rw [e1]; exact k2, ?_, by rw [e1]; exact k3, ?_⟩⟩
              · rw [e1]
                exact fun k hk => j10 k (List.mem_filter.mp hk).1
              · rw [e1]
                exact Nat.le_trans (List.length_filter_le _ _) j12
          · walk_at "m:all"
            have e1 := hF1 hzc
            exact ⟨_, _, SX, ⟨q1, q2, q3, q4, q5, ⟨vs', en', tl', lf', ys', ln, rfl, q6, by rw [e1]; exact k1, by rw [e1]; exact j8⟩, by rw [e1]; exact k2, by rw [e1]; exact j10, by rw [e1]; exact k3, by rw [e1]; exact j12⟩⟩
      · walk_at "m:all"
        rename_i S14
        have hkey : (pickF (pats.zip rows) ans (sig pats rows ans way i).left way).key == Str.ofString "" := by
          have : pickAt pats rows ans way (sig pats rows ans way i).left pvs.length = pickF (pats.zip rows) ans (sig pats rows ans way i).left way := by
            unfold pickAt pickF
            rw [List.take_of_length_le (l := pats.zip rows) (i := pvs.length) (by rw [List.length_zip, hps.1]; exact Nat.min_le_left _ _)]
          rw [← this]
          simpa using c1
        have hsig : sig pats rows ans way (i + 1) = sig pats rows ans way i := by
          rw [sig_succ]
          unfold turnF
          exact if_pos hkey
        exact ⟨_, _, S14, ⟨q1, q2, q3, q4, q5, ⟨vs, en, tl, lf', ys', ln, rfl, q6, hsig ▸ j7, hsig ▸ j8⟩, hsig ▸ j9, hsig ▸ j10, hsig ▸ Nat.le_succ_of_le j11, hsig ▸ j12⟩⟩
  case kdone =>
    rintro s6 m6 n6 J S6
    obtain ⟨j1, j2, j3, j4, j5, ⟨vs, en, tl, lf', ys', ln, rfl, j6, j7, j8⟩, j9, j10, j11, j12⟩ := J
    walk_at "m:all"
    rename_i a7 s7 S7
    have e : sig pats rows ans way pvs.length = learnF (pats.zip rows) ans way := by
      unfold sig learnF
      rw [hps.1, List.length_zip, ← hpr, Nat.min_self]
    rw [e] at j7 j8 j11
    refine h _ a7 x dx l lf' od vs ys' en ln _ S7.go S7.keep (fun p hp => ⟨(S7.made p hp).2.1, (S7.made p hp).1⟩) S7.nodup (.head _) (by walk_at "m:mem") (by walk_at "m:mem") tb (by walk_at "m:mem") (by walk_at "m:mem") (j7.up fun p hp => ?_) (Nat.le_trans j11 hpv) j8
    exact .tail _ (.tail _ (.tail _ (.tail _ (.tail _ hp))))
end
end
-- LawBase
section
/-- behind the k-th statement of a function's body, in its frame -/
structure At (w : World) (f : Addr) (k : Nat) (body : List Stmt) (env : Env) (own : List (Str × Addr)) : Prop where
  ex : ∃ name qual params full scope dV kV doc pm an cdv ct oc od osl L, (Mine.hd.heap_39 w.params).lookup f = some ⟨oc, od, .func (fnOf name qual params full scope dV kV doc pm an cdv ct), osl⟩ ∧ body = full.drop k ∧
    EnvIs env (envX qual scope L f cdv (cellsFrom (L + 1) scope.names [])) ∧ OwnIs own (cellsFrom (L + 1) scope.names [])
theorem At.elim {w : World} {f : Addr} {k : Nat} {body : List Stmt} {env : Env} {own : List (Str × Addr)} {P : List Stmt → Prop}
    {name qual : Str} {params : Arguments} {full : List Stmt} {scope : Scope} {dV kV doc pm cdv ct oc : Value} {an od : Option Addr} {osl : Array (Option Value)} (a : At w f k body env own)
    (ho : (Mine.hd.heap_39 w.params).lookup f = some ⟨oc, od, .func (fnOf name qual params full scope dV kV doc pm an cdv ct), osl⟩)
    (h : ∀ L, EnvIs env (envX qual scope L f cdv (cellsFrom (L + 1) scope.names [])) → OwnIs own (cellsFrom (L + 1) scope.names []) → P (full.drop k)) : P body := by
  obtain ⟨name', qual', params', full', scope', dV', kV', doc', pm', an', cdv', ct', oc', od', osl', L, h1, rfl, h3, h4⟩ := a.ex
  rw [ho] at h1
  have h2 := Option.some.inj h1
  have h5 : Data.func (fnOf name qual params full scope dV kV doc pm an cdv ct) = Data.func (fnOf name' qual' params' full' scope' dV' kV' doc' pm' an' cdv' ct') := congrArg Obj.data h2
  have h6 := Data.func.inj h5
  have hb : full = full' := by
    have := congrArg FuncData.body h6
    exact FuncBody.stmts.inj this
  have hs : scope = scope' := congrArg FuncData.scope h6
  have hq : qual = qual' := congrArg FuncData.qualname h6
  have hc : cdv = cdv' := congrArg FuncData.code h6
  subst hb hs hq hc
  exact h L h3 h4
theorem At.mk' {w : World} {f : Addr} {k : Nat} {body : List Stmt} {env : Env} {own : List (Str × Addr)}
    {name qual : Str} {params : Arguments} {full : List Stmt} {scope : Scope} {dV kV doc pm cdv ct oc : Value} {an od : Option Addr} {osl : Array (Option Value)} {L : Addr}
    (ho : (Mine.hd.heap_39 w.params).lookup f = some ⟨oc, od, .func (fnOf name qual params full scope dV kV doc pm an cdv ct), osl⟩)
    (hb : full.drop k = body) (he : EnvIs env (envX qual scope L f cdv (cellsFrom (L + 1) scope.names []))) (hw : OwnIs own (cellsFrom (L + 1) scope.names [])) : At w f k body env own :=
  ⟨_, _, _, _, _, _, _, _, _, _, _, _, _, _, _, L, ho, hb.symm, he, hw⟩

/-- a local name that means a list -/
def LV (x : Str) (m : Str → Option Value) (news : List (Addr × Obj)) (P : List Value → Prop) : Prop := ∃ a vs e, m x = some (.ref a) ∧ (a, listOf vs.toArray e) ∈ news ∧ P vs
theorem LV.up {x : Str} {m m' : Str → Option Value} {news news' : List (Addr × Obj)} {P P' : List Value → Prop} (h : LV x m news P) (hm : m' x = m x) (hn : ∀ p ∈ news, p ∈ news') (hP : ∀ vs, P vs → P' vs) : LV x m' news' P' := by
  obtain ⟨a, vs, e, h1, h2, h3⟩ := h
  exact ⟨a, vs, e, hm.trans h1, hn _ h2, hP _ h3⟩
def tupOf (x y : Value) : Obj := { cls := .type "tuple", data := .seq #[x, y] }
def PairsIn (news : List (Addr × Obj)) (ns : List Int) (vs : List Value) : Prop := vs.length = ns.length ∧ ∀ (j : Nat) (v : Value), vs[j]? = some v → ∃ a x y n, ns[j]? = some n ∧ v = .ref a ∧ (a, tupOf x y) ∈ news ∧ OptV (langAt n) x ∧ OptV (encAt n) y
def EndsIn (news : List (Addr × Obj)) (ns : List Int) (vs : List Value) : Prop := vs.length = ns.length ∧ ∀ (j : Nat) (v : Value), vs[j]? = some v → ∃ a t1 t2 n, ns[j]? = some n ∧ v = .ref a ∧ (a, tupOf (.str (frontAt n) t1) (.str (endAt n) t2)) ∈ news
def ToldIn (news : List (Addr × Obj)) (rows : List (List Bool)) (vs : List Value) : Prop := vs.length = rows.length ∧ ∀ (j : Nat) (v : Value), vs[j]? = some v → ∃ a r e, rows[j]? = some r ∧ v = .ref a ∧ (a, listOf (r.map Value.bool).toArray e) ∈ news
theorem PairsIn.up {news news' : List (Addr × Obj)} {ns : List Int} (hn : ∀ p ∈ news, p ∈ news') : ∀ vs, PairsIn news ns vs → PairsIn news' ns vs := fun _ ⟨h, g⟩ => ⟨h, fun j v hv => let ⟨a, x, y, n, h1, h2, h3, h4⟩ := g j v hv; ⟨a, x, y, n, h1, h2, hn _ h3, h4⟩⟩
theorem EndsIn.up {news news' : List (Addr × Obj)} {ns : List Int} (hn : ∀ p ∈ news, p ∈ news') : ∀ vs, EndsIn news ns vs → EndsIn news' ns vs := fun _ ⟨h, g⟩ => ⟨h, fun j v hv => let ⟨a, x, y, n, h1, h2, h3⟩ := g j v hv; ⟨a, x, y, n, h1, h2, hn _ h3⟩⟩
theorem ToldIn.up {news news' : List (Addr × Obj)} {rows : List (List Bool)} (hn : ∀ p ∈ news, p ∈ news') : ∀ vs, ToldIn news rows vs → ToldIn news' rows vs := fun _ ⟨h, g⟩ => ⟨h, fun j v hv => let ⟨a, r, e, h1, h2, h3⟩ := g j v hv; ⟨a, r, e, h1, h2, hn _ h3⟩⟩
theorem PairsIn.nil : PairsIn [] [] [] := ⟨rfl, fun j v h => by cases h⟩
theorem EndsIn.nil : EndsIn [] [] [] := ⟨rfl, fun j v h => by cases h⟩
theorem ToldIn.nil : ToldIn [] [] [] := ⟨rfl, fun j v h => by cases h⟩
theorem snoc_at {α : Type} {l : List α} {x : α} {k : Nat} (h : k = l.length) : (l ++ [x])[k]? = some x := by subst h; simp
theorem snoc_old {α : Type} {l : List α} {x y : α} {k : Nat} (h : l[k]? = some y) : (l ++ [x])[k]? = some y := by
  rw [List.getElem?_append_left (List.getElem?_eq_some_iff.mp h).1]
  exact h
theorem PairsIn.snoc {led : List (Addr × Obj)} {ns : List Int} {vs : List Value} {a : Addr} {x y : Value} {n : Int} (h : PairsIn led ns vs) (hx : OptV (langAt n) x) (hy : OptV (encAt n) y) : PairsIn ((a, tupOf x y) :: led) (ns ++ [n]) (vs ++ [.ref a]) := by
  refine ⟨by simp [h.1], fun j v hv => ?_⟩
  rcases snoc_get hv with hv | ⟨hi, rfl⟩
  · obtain ⟨b, x', y', n', h1, h2, h3, h4⟩ := h.2 j v hv
    exact ⟨b, x', y', n', snoc_old h1, h2, .tail _ h3, h4⟩
  · exact ⟨a, x, y, n, snoc_at (hi.trans h.1), rfl, .head _, hx, hy⟩
theorem EndsIn.snoc {led : List (Addr × Obj)} {ns : List Int} {vs : List Value} {a : Addr} {t1 t2 : Tok} {n : Int} (h : EndsIn led ns vs) : EndsIn ((a, tupOf (.str (frontAt n) t1) (.str (endAt n) t2)) :: led) (ns ++ [n]) (vs ++ [.ref a]) := by
  refine ⟨by simp [h.1], fun j v hv => ?_⟩
  rcases snoc_get hv with hv | ⟨hi, rfl⟩
  · obtain ⟨b, x', y', n', h1, h2, h3⟩ := h.2 j v hv
    exact ⟨b, x', y', n', snoc_old h1, h2, .tail _ h3⟩
  · exact ⟨a, t1, t2, n, snoc_at (hi.trans h.1), rfl, .head _⟩
theorem ToldIn.snoc {led : List (Addr × Obj)} {rows : List (List Bool)} {vs : List Value} {a : Addr} {r : List Bool} {e : Nat} (h : ToldIn led rows vs) : ToldIn ((a, listOf (r.map Value.bool).toArray e) :: led) (rows ++ [r]) (vs ++ [.ref a]) := by
  refine ⟨by simp [h.1], fun j v hv => ?_⟩
  rcases snoc_get hv with hv | ⟨hi, rfl⟩
  · obtain ⟨b, r', e', h1, h2, h3⟩ := h.2 j v hv
    exact ⟨b, r', e', snoc_old h1, h2, .tail _ h3⟩
  · exact ⟨a, r, e, snoc_at (hi.trans h.1), rfl, .head _⟩
theorem ToldIn.told {news : List (Addr × Obj)} {rows : List (List Bool)} {vs : List Value} {h : Heap} {ta : Addr} (t : ToldIn news rows vs) (hl : h.IsList ta vs.toArray) (hn : ∀ p ∈ news, h.get? p.1 = some p.2) : Told h ta rows :=
  ⟨vs, hl, t.1, fun i v hv => let ⟨a, r, e, h1, h2, h3⟩ := t.2 i v hv; ⟨a, r, h2, h1, isL (hn _ h3)⟩⟩
section
variable {prog : Program} {w : World} {A : Around} {E : Value → Shared → Prop} {s₀ s s' : Shared} {env : Env} {own : List (Str × Addr)} {m : Str → Option Value} {news : List (Addr × Obj)}
theorem subTail_ops {value slice : Expr} {o i : Value} {T id : String} {ops : List Value} {Q : Value → Shared → Prop} (hT : s.TypeIs o T)
    (hl : typeLookup (.type T) "__getitem__" = pure (some (.builtin id))) (h : wpAny (model prog w) A (getItem o i) Q E s)
    (hs : subscripted slice false o i = operate ops (getItem o i)) : wpAny (model prog w) A (subscriptTail value slice o i) Q E s := by
  unfold subscriptTail
  refine wpAny_bind ?_
  rw [getitemInPython_of_ne hT.not_modules]
  refine wpAny_bind (wpAny_specialOf hT hl ?_)
  have fin : wpAny (model prog w) A (subscripted slice false o i) (fun r s₃ => wpAny (model prog w) A (letTemporaryGo value o r >>= fun _ => pure r) Q E s₃) E s := by
    rw [hs]
    exact wpAny_operating (wpAny_mono h (fun r s₃ h₃ => wpAny_bind (wpAny_letTemporaryGo (wpAny_pure h₃))) fun _ _ x => x)
  first
    | exact wpAny_pure (wpAny_bind fin)
    | exact wpAny_bind (wpAny_pure (wpAny_bind fin))
    | exact wpAny_bind fin
theorem n_assignC {lit : Env} {x : Str} {pos' pos : Pos} {value : Expr} {Q : Flow → Shared → Prop} {M : Model} (he : EnvIs env lit) (hsw : swapsWith value (some (.Name x pos')) pos.line lit = pure false)
    (h : wpAny M A (eval value env) (fun v s₁ => wpAny M A (storeName env x v) (fun _ => Q .next) E s₁) E s) : wpAny M A (exec (.Assign [.Name x pos'] value pos) env) Q E s :=
  wpAny_Assign_Name h (he.eq ▸ hsw)
theorem slice_R {value slice : Expr} {l : Addr} {items : Array Value} {vl vu : Value} {lo hi : Option Int} {Q : Value → Shared → Prop}
    (hl : s.heap.IsList l items) (pl : IsPart vl lo) (pu : IsPart vu hi)
    (h : Q (.ref (s.heap.objs.size + 1)) { s with heap := (s.heap.push { cls := .type "slice", data := .fields #[vl, vu, .none] }).push { cls := .type "list", data := .seq (slicePick items lo hi none) } })
    (hs : subscripted slice false (.ref l) (.ref s.heap.objs.size) = operate [.ref s.heap.objs.size, .ref l] (getItem (.ref l) (.ref s.heap.objs.size)))
    (hsz : items.size ≤ sizeLine) :
    wpAny (model prog w) A (subscriptTail value slice (.ref l) (.ref s.heap.objs.size)) Q E { s with heap := s.heap.push { cls := .type "slice", data := .fields #[vl, vu, .none] } } := by
  refine subTail_ops (Heap.IsList.typeIs (s := { s with heap := s.heap.push { cls := .type "slice", data := .fields #[vl, vu, .none] } }) (hl.push _)) list_getitem_lookup
    (wpAny_getItem_list_slice (hl.push _) (Heap.IsSliceOf.new ..) pl pu .none (by simp) ?_ hsz) hs
  show Q (.ref (s.heap.push _).objs.size) _
  rw [Heap.size_push]
  exact h
theorem o_listTo {value slice : Expr} {l : Addr} {vs : List Value} {ns : List Int} {j : Int} {uj : Tok} {Q : Value → Shared → Prop} (S : Sta s₀ env own s m news) (hl : s.heap.IsList l vs.toArray) (hI : IntsAre vs ns) (hj : 0 ≤ j) (hz : vs.length ≤ sizeLine)
    (h : ∀ a ws, IntsAre ws (ns.take j.toNat) → Nx s₀ env own m ((a, listOf ws.toArray 0) :: news) (Q (.ref a)))
    (hs : subscripted slice false (.ref l) (.ref s.heap.objs.size) = operate [.ref s.heap.objs.size, .ref l] (getItem (.ref l) (.ref s.heap.objs.size))) :
    wpAny (model prog w) A (subscriptTail value slice (.ref l) (.ref s.heap.objs.size)) Q E { s with heap := s.heap.push { cls := .type "slice", data := .fields #[.none, .int j uj, .none] } } := by
  refine slice_R (lo := none) (hi := some j) hl .none (.int j uj) ?_ hs (by simpa using hz)
  refine h _ (slicePick vs.toArray none (some j) none).toList (kmk_upto hI hj) _ (S.add (Go.heap (s := s)) (fun b o q => Heap.get?_push_of_some _ (Heap.get?_push_of_some _ q)) (fresh_above _ 1) ?_)
  have e : s.heap.objs.size + 1 = (s.heap.push { cls := .type "slice", data := .fields #[.none, .int j uj, .none] }).objs.size := by rw [Heap.size_push]
  rw [e]
  exact Heap.get?_push_size _ rfl
theorem o_listFrom {value slice : Expr} {l : Addr} {vs : List Value} {ns : List Int} {j : Int} {uj : Tok} {Q : Value → Shared → Prop} (S : Sta s₀ env own s m news) (hl : s.heap.IsList l vs.toArray) (hI : IntsAre vs ns) (hj : 0 ≤ j) (hz : vs.length ≤ sizeLine)
    (h : ∀ a ws, IntsAre ws (ns.drop j.toNat) → Nx s₀ env own m ((a, listOf ws.toArray 0) :: news) (Q (.ref a)))
    (hs : subscripted slice false (.ref l) (.ref s.heap.objs.size) = operate [.ref s.heap.objs.size, .ref l] (getItem (.ref l) (.ref s.heap.objs.size))) :
    wpAny (model prog w) A (subscriptTail value slice (.ref l) (.ref s.heap.objs.size)) Q E { s with heap := s.heap.push { cls := .type "slice", data := .fields #[.int j uj, .none, .none] } } := by
  refine slice_R (lo := some j) (hi := none) hl (.int j uj) .none ?_ hs (by simpa using hz)
  refine h _ (slicePick vs.toArray (some j) none none).toList (kmk_from hI hj) _ (S.add (Go.heap (s := s)) (fun b o q => Heap.get?_push_of_some _ (Heap.get?_push_of_some _ q)) (fresh_above _ 1) ?_)
  have e : s.heap.objs.size + 1 = (s.heap.push { cls := .type "slice", data := .fields #[.int j uj, .none, .none] }).objs.size := by rw [Heap.size_push]
  rw [e]
  exact Heap.get?_push_size _ rfl
end
theorem ints_at : ∀ {vs : List Value} {ns : List Int} {j : Nat} {v : Value}, IntsAre vs ns → vs[j]? = some v → ∃ n t, ns[j]? = some n ∧ v = .int n t
  | _, _, _, _, .nil, q => by cases q
  | _, _, 0, _, .cons n t _, q => ⟨n, t, rfl, (Option.some.inj q).symm⟩
  | _, _, j + 1, _, .cons _ _ h, q => ints_at (j := j) h q
theorem reads_strs {h : Heap} : ∀ {vs : List Value} {xs : List Str}, Strs vs xs → ReadsAll h vs (xs.map PyData.str) []
  | [], xs, y => by
    cases xs with
    | nil => exact .nil
    | cons b r => cases y.1
  | v :: vs, xs, ⟨h1, h2⟩ => by
    cases xs with
    | nil => cases h1
    | cons b r =>
      obtain ⟨c, t, h3, h4⟩ := h2 0 v rfl
      obtain rfl : b = c := Option.some.inj h4
      subst h3
      exact .cons (as := []) (bs := []) (.str b t) (reads_strs ⟨by simpa using h1, fun i v hv => h2 (i + 1) v hv⟩)
theorem strs_shaped {xs : List Str} (h : ∀ x ∈ xs, PyData.strOk x = true) : SeqAt.shaped (.list (xs.map PyData.str)) = true :=
  shaped_list (fun d hd => by
    obtain ⟨b, hb, rfl⟩ := List.mem_map.mp hd
    simp only [PyData.canLay0]
    exact h b hb) fun d hd => by
    obtain ⟨b, _, rfl⟩ := List.mem_map.mp hd
    simp [PyData.depth]
theorem eqv_same {d : PyData} (h : SeqAt.shaped d = true) : PyData.eqv d d = true := SeqAt.eqv_refl d (SeqAt.canLay_of_shaped h)
theorem names_ok : ∀ x ∈ nameL, PyData.strOk x = true := by decide +kernel
theorem pats_ok : ∀ p ∈ spots, PyData.strOk (patOf p.1 p.2) = true := by decide +kernel
theorem namesL_ok (N : List Int) : ∀ x ∈ namesL N, PyData.strOk x = true := fun x hx => by
  obtain ⟨n, _, e⟩ := List.mem_map.mp hx
  have h0 := names_ok (nameOf (langAt n) (encAt n)) (name_mem n)
  rw [e] at h0
  exact h0
theorem patsL_ok (N : List Int) : ∀ x ∈ patsL N, PyData.strOk x = true := fun x hx => by
  obtain ⟨n, _, e⟩ := List.mem_map.mp hx
  have h0 := pats_ok (frontAt n, endAt n) (spot_mem n)
  dsimp only at h0 e
  rw [e] at h0
  exact h0
end
-- LA
section
def numsL (ns : List Int) : List Int := (ns.take 6).map (fun n => n.fmod 1000000) ++ [985, 1520, 1767, 597, 324, 46].drop (ns.take 6).length
section
variable {w : World} {A : Around} {s₀ s : Shared} {mean : ExcName → Option Value} {mg mb : Str → Option Value} {Q : Flow → Shared → Prop} {E : Value → Shared → Prop} {env : Env} {own : List (Str × Addr)} {m : Str → Option Value} {news : List (Addr × Obj)} {body : List Stmt}
theorem phA (W : Wd w mean mg mb s₀.heap) (hA : Ok A 4) (a : At w 246 0 body env own) (S : Sta s₀ env own s m []) {t : Addr} {vs : List Value} {ns : List Int} (hm : m (Str.ofString "script") = some (.ref t)) (ht : s₀.heap.IsList t vs.toArray) (hI : IntsAre vs ns) (hn : ns.length ≤ 63)
    (next : ∀ body' s' m' news', At w 246 2 body' env own → Sta s₀ env own s' m' news' → LV (Str.ofString "numbers") m' news' (fun vs => IntsAre vs (numsL ns)) → wpAny (model PG w) A (execs body' env) Q E s') : wpAny (model PG w) A (execs body env) Q E s := by
  refine' At.elim (P := fun b => wpAny (model PG w) A (execs b env) Q E s) a ?mo ?_
  case mo => k_is
  intro L he ho
  have hh : A.handled = none := hA.hd
  have hz := slz
  simp only [List.drop_zero]
  have hvl : vs.length ≤ sizeLine := by have := hI.length; omega
  walk_at "m:all"
  rename_i t1 s1 S1
  refine o_listTo (s := ⟨_, _, _, _, _⟩) S1 (by walk_at "m:isl") hI (by decide) hvl (fun l6 ws hw s2 S2 => ?_) (by with_unfolding_all rfl)
  walk_at "m:all"
  obtain ⟨n6, hn6⟩ : ∃ n6, n6 = ns.take 6 := ⟨_, rfl⟩
  have hw' : IntsAre ws n6 := hn6 ▸ hw
  have hw6 : ws.length ≤ 6 := by have := hw'.length; rw [hn6, List.length_take] at this; omega
  refine comp_list (vs := ws) (fun k ys led => led = [] ∧ IntsAre ys ((n6.take k).map fun n => n.fmod 1000000)) hh S2 (isL (S2.get (.head _))) (by omega) rfl (by decide) (okAll he rfl) ⟨rfl, .nil⟩
    (turnOf (W.ext S2.keep) he ?t2) ?d2 (.inl (by intro _ _; rfl))
  case t2 =>
    rintro k v zs led C' s₀' s₃ m₃ cenv' cown' hk hP ⟨rfl, hzs⟩ hle' hE' hf' W₃ he₃ ho₃ S₃
    obtain ⟨n, tn, hn1, rfl⟩ := ints_at hw' hP
    walk_at "m:all"
    refine call_int_int ?_
    walk_at "m:all"
    refine ⟨_, [], (by assumption), rfl, ?_⟩
    rw [List.take_add_one, hn1, List.map_append]
    exact ints_snoc hzs _ _
  case d2 =>
    rintro ys led D e' hle ⟨rfl, hzs⟩
    refine UseOk.store (by rw [he.eq]) (by rw [he.eq]; rfl) fun sD SD => ?_
    have hwn : ws.length = n6.length := hw'.length
    rw [hwn, List.take_length] at hzs
    walk_at "m:all"
    refine o_listFrom (s := ⟨_, _, _, _, _⟩) (vs := [_, _, _, _, _, _]) (by assumption) (isL (Sta.get (by assumption) (.head _))) (.cons _ _ (.cons _ _ (.cons _ _ (.cons _ _ (.cons _ _ (.cons _ _ .nil)))))) (Int.natCast_nonneg _) (Nat.le_trans (Nat.le_of_ble_eq_true rfl) hz) (fun l7 ws7 hw7 s7 S7 => ?_) (by with_unfolding_all rfl)
    walk_at "m:all"
    have hyl : ys.length = n6.length := by have := hzs.length; simpa using this
    have hn66 : n6.length ≤ 6 := by rw [hn6, List.length_take]; omega
    have h7 : ws7.length ≤ 6 := by have := hw7.length; simp at this; omega
    refine o_addLists S7 (isL (S7.get (.tail _ (.tail _ (.head _))))) (isL (S7.get (.head _))) (by omega) fun a8 s8 S8 => ?_
    iterate 1 walk_at "m:5"
    rename_i s9 S9
    refine next _ _ _ _ ?at1 S9 ⟨a8, ys ++ ws7, 0, by walk_at "m:look", .head _, ?_⟩
    case at1 =>
      refine' At.mk' (L := L) ?ao ?ab he ho
      case ao => k_is
      case ab => rfl
    have e1 : numsL ns = n6.map (fun n => n.fmod 1000000) ++ [985, 1520, 1767, 597, 324, 46].drop ((ys.length : Int)).toNat := by
      unfold numsL
      rw [← hn6, Int.toNat_natCast, hyl]
    rw [e1]
    exact IntsAre.append hzs hw7
end
end
-- LB
section
section
variable {w : World} {A : Around} {s₀ s : Shared} {mean : ExcName → Option Value} {mg mb : Str → Option Value} {Q : Flow → Shared → Prop} {E : Value → Shared → Prop} {env : Env} {own : List (Str × Addr)} {m : Str → Option Value} {news : List (Addr × Obj)} {body : List Stmt}
theorem phB (W : Wd w mean mg mb s₀.heap) (hA : Ok A 4) (a : At w 246 2 body env own) (S : Sta s₀ env own s m news) {N : List Int} (h6 : N.length = 6) (b1 : LV (Str.ofString "numbers") m news (fun vs => IntsAre vs N))
    (next : ∀ body' s' m' news', At w 246 5 body' env own → Sta s₀ env own s' m' news' → LV (Str.ofString "pairs") m' news' (PairsIn news' N) → LV (Str.ofString "ends") m' news' (EndsIn news' (N.take 5)) → LV (Str.ofString "answers") m' news' (fun vs => Yn vs (ansL N)) →
      wpAny (model PG w) A (execs body' env) Q E s') : wpAny (model PG w) A (execs body env) Q E s := by
  refine' At.elim (P := fun b => wpAny (model PG w) A (execs b env) Q E s) a ?mo ?_
  case mo => k_is
  intro L he ho
  have hh : A.handled = none := hA.hd
  have hz := slz
  obtain ⟨nu, nvs, ne, n1, n2, hI⟩ := b1
  have hnl : nvs.length = 6 := by rw [hI.length, h6]
  simp only [List.drop_succ_cons, List.drop_zero]
  walk_at "m:all"
  refine comp_list (vs := nvs) (fun k ys led => PairsIn led (N.take k) ys) hh S (isL (S.get n2)) (by omega) rfl (by decide) (okAll he rfl) PairsIn.nil
    (turnOf (W.ext S.keep) he ?t1) ?d1 (.inl (by intro _ _; rfl))
  case t1 =>
    rintro k v zs led C' s₀' s₃ m₃ cenv' cown' hk hP hJ hle' hE' hf' W₃ he₃ ho₃ S₃
    obtain ⟨n, tn, hn1, rfl⟩ := ints_at hI hP
    walk_at "m:all"
    rename_i s4 S4
    refine law_pair_c (W₃.ext S4.keep) (hA.less (by decide)) fun s5 T x y g5 e5 hn5 ho5 hx hy => ?_
    walk_at "m:all"
    refine ⟨_, _, S4.add g5 e5 hn5 ho5, ?_⟩
    rw [List.take_add_one, hn1]
    exact hJ.snoc hx hy
  case d1 =>
    rintro ys led D e' hle hJ
    rw [hnl, List.take_of_length_le (Nat.le_of_eq h6)] at hJ
    refine UseOk.store (by rw [he.eq]) (by rw [he.eq]; rfl) fun sD SD => ?_
    walk_at "m:all"
    rename_i tA sA SA
    refine o_listTo (s := ⟨_, _, _, _, _⟩) SA (isL (SA.get (.tail _ (List.mem_append_right _ n2)))) hI (by decide) (by omega) (fun l5 ws hw sB SB => ?_) (by with_unfolding_all rfl)
    walk_at "m:all"
    have hw' : IntsAre ws (N.take 5) := hw
    have hwl : ws.length = 5 := by rw [hw'.length, List.length_take]; omega
    refine comp_list (vs := ws) (fun k ys led => EndsIn led ((N.take 5).take k) ys) hh SB (isL (SB.get (.head _))) (by omega) rfl (by decide) (okAll he rfl) EndsIn.nil
      (turnOf (W.ext SB.keep) he ?t2) ?d2 (.inl (by intro _ _; rfl))
    case t2 =>
      rintro k v zs led2 C' s₀' s₃ m₃ cenv' cown' hk hP hJ2 hle' hE' hf' W₃ he₃ ho₃ S₃
      obtain ⟨n, tn, hn1, rfl⟩ := ints_at hw' hP
      walk_at "m:all"
      rename_i s4 S4
      refine law_ends_c (W₃.ext S4.keep) (hA.less (by decide)) fun s5 T x y g5 e5 hn5 ho5 => ?_
      walk_at "m:all"
      refine ⟨_, _, S4.add g5 e5 hn5 ho5, ?_⟩
      rw [List.take_add_one, hn1]
      exact hJ2.snoc
    case d2 =>
      rintro ys2 led2 D2 e2 hle2 hJ2
      rw [hwl, List.take_of_length_le (by rw [List.length_take]; omega)] at hJ2
      refine UseOk.store (by rw [he.eq]) (by rw [he.eq]; rfl) fun sE SE => ?_
      walk_at "m:all"
      refine' n_assignC he ?sw1 ?_
      case sw1 => exact rfl
      walk_at "m:all"
      refine comp_list (vs := nvs) (fun k ys led => led = [] ∧ Yn ys (ansL (N.take k))) hh SE (isL (SE.get (.tail _ (List.mem_append_right _ (.tail _ (.tail _ (List.mem_append_right _ n2))))))) (by omega) rfl (by decide) (okAll he rfl) ⟨rfl, yn_nil⟩
        (turnOf (W.ext SE.keep) he ?t3) ?d3 (.inl (by intro _ _; rfl))
      case t3 =>
        rintro k v zs led3 C' s₀' s₃ m₃ cenv' cown' hk hP ⟨rfl, hJ3⟩ hle' hE' hf' W₃ he₃ ho₃ S₃
        obtain ⟨n, tn, hn1, rfl⟩ := ints_at hI hP
        walk_at "m:all"
        rename_i t1 s1 S1 t2 s2 S2 T3 s3 S3 t4 s4 S4 t5 s5 S5 t6 s6 S6 t7 s7 S7
        obtain ⟨j, hj, hj2⟩ : ∃ j : Nat, (n.fdiv 36).fmod 2 = (j : Int) ∧ j < 2 := by
          have h1 : 0 ≤ (n.fdiv 36).fmod 2 := Int.fmod_nonneg_of_pos _ (by decide)
          have h2 : (n.fdiv 36).fmod 2 < 2 := Int.fmod_lt_of_pos _ (by decide)
          exact ⟨((n.fdiv 36).fmod 2).toNat, by omega, by omega⟩
        obtain ⟨b, tb, hb, hbv⟩ : ∃ b tb, [Value.str (Str.ofString "no") t1, .str (Str.ofString "yes") t2][j]? = some (.str (ynS b) tb) ∧ (((n.fdiv 36).fmod 2) == 1) = b := by
          rw [hj]
          have : j = 0 ∨ j = 1 := by omega
          rcases this with rfl | rfl
          · exact ⟨false, t1, rfl, rfl⟩
          · exact ⟨true, t2, rfl, rfl⟩
        refine' n_titem j ?p1 hj ?p2 hb ?_ ?p3
        case p1 => exact isT (S7.get (.head _))
        case p2 => omega
        case p3 => with_unfolding_all rfl
        walk_at "m:all"
        refine ⟨_, [], S7.sub (List.nil_sublist _), rfl, ?_⟩
        rw [List.take_add_one, hn1]
        unfold ansL at hJ3 ⊢
        rw [List.map_append]
        show Yn _ (_ ++ [_])
        subst hbv
        exact yn_snoc hJ3 _ tb
      case d3 =>
        rintro ys3 led3 D3 e3 hle3 ⟨rfl, hJ3⟩
        rw [hnl, List.take_of_length_le (Nat.le_of_eq h6)] at hJ3
        intro sF SF0
        iterate 1 walk_at "m:5"
        rename_i sG SF
        refine next _ _ _ _ ?at1 SF ⟨D, ys, e', by walk_at "m:look", by simp, PairsIn.up (by intro p hp; simp [hp]) _ hJ⟩ ⟨D2, ys2, e2, by walk_at "m:look", by simp, EndsIn.up (by intro p hp; simp [hp]) _ hJ2⟩ ⟨D3, ys3, e3, by walk_at "m:look", by simp, hJ3⟩
        case at1 =>
          refine' At.mk' (L := L) ?ao ?ab he ho
          case ao => k_is
          case ab => rfl
end
end
-- LC
section
theorem sh_langs : ∀ o ∈ langs, ∀ x, o = some x → x.length ≤ 100 := by
  intro o ho
  simp only [langs, List.mem_cons, List.not_mem_nil, or_false] at ho
  rcases ho with rfl | rfl | rfl | rfl | rfl | rfl <;> intro x hx <;> first | (cases hx; done) | (obtain rfl := (Option.some.inj hx).symm; decide)
theorem sh_encs : ∀ o ∈ encs, ∀ x, o = some x → x.length ≤ 100 := by
  intro o ho
  simp only [encs, List.mem_cons, List.not_mem_nil, or_false] at ho
  rcases ho with rfl | rfl | rfl | rfl | rfl | rfl <;> intro x hx <;> first | (cases hx; done) | (obtain rfl := (Option.some.inj hx).symm; decide)
theorem sh_lang (n : Int) : Sh (langAt n) := by
  unfold langAt
  obtain ⟨i, hi, hi6⟩ := six n
  rw [hi]
  refine sh_langs _ ?_
  have := List.getElem_mem (l := langs) (n := i) hi6
  simpa [List.getD, List.getElem?_eq_getElem (l := langs) hi6] using this
theorem sh_enc (n : Int) : Sh (encAt n) := by
  unfold encAt
  obtain ⟨i, hi, hi6⟩ := six (n.fdiv 6)
  rw [hi]
  refine sh_encs _ ?_
  have := List.getElem_mem (l := encs) (n := i) hi6
  simpa [List.getD, List.getElem?_eq_getElem (l := encs) hi6] using this
section
variable {w : World} {A : Around} {s₀ s : Shared} {mean : ExcName → Option Value} {mg mb : Str → Option Value} {Q : Flow → Shared → Prop} {E : Value → Shared → Prop} {env : Env} {own : List (Str × Addr)} {m : Str → Option Value} {news : List (Addr × Obj)} {body : List Stmt}
theorem phC (W : Wd w mean mg mb s₀.heap) (hA : Ok A 4) (a : At w 246 5 body env own) (S : Sta s₀ env own s m news) {N : List Int} (h6 : N.length = 6) (b2 : LV (Str.ofString "pairs") m news (PairsIn news N)) (b3 : LV (Str.ofString "ends") m news (EndsIn news (N.take 5))) (b4 : LV (Str.ofString "answers") m news (fun vs => Yn vs (ansL N)))
    (next : ∀ body' s' m' news', At w 246 7 body' env own → Sta s₀ env own s' m' news' → LV (Str.ofString "ends") m' news' (EndsIn news' (N.take 5)) → LV (Str.ofString "answers") m' news' (fun vs => Yn vs (ansL N)) → LV (Str.ofString "names") m' news' (fun vs => Strs vs (namesL N)) →
      wpAny (model PG w) A (execs body' env) Q E s') : wpAny (model PG w) A (execs body env) Q E s := by
  refine' At.elim (P := fun b => wpAny (model PG w) A (execs b env) Q E s) a ?mo ?_
  case mo => k_is
  intro L he ho
  have hh : A.handled = none := hA.hd
  have hun : A.units + 64 < cLine := by have := hA.un; omega
  have hz := slz
  obtain ⟨pl, pvs, pe, p1, p2, hP0⟩ := b2
  have hpl : pvs.length = 6 := by rw [hP0.1, h6]
  simp only [List.drop_succ_cons, List.drop_zero]
  walk_at "m:all"
  refine' n_assignC he ?sw1 ?_
  case sw1 => exact rfl
  walk_at "m:all"
  refine comp_list (vs := pvs) (fun k ys led => led = [] ∧ Strs ys (namesL (N.take k))) hh S (isL (S.get p2)) (by omega) rfl (by decide) (okAll he rfl) ⟨rfl, .nil⟩
    (turnOf (W.ext S.keep) he ?t1) ?d1 (.inl (by intro _ _; rfl))
  case t1 =>
    rintro k v zs led C' s₀' s₃ m₃ cenv' cown' hk hP ⟨rfl, hJ⟩ hle' hE' hf' W₃ he₃ ho₃ S₃
    obtain ⟨T, x, y, n, hn1, rfl, hT, hx, hy⟩ := hP0.2 k v hP
    walk_at "m:all"
    rename_i s4 S4
    refine localename_c (l := langAt n) (e := encAt n) (W₃.ext S4.keep) (hA.less (by decide)) (.inl (isT (S4.keep _ _ (hE' _ _ (S.get hT))))) hx hy (sh_lang n) (sh_enc n) fun s5 t5 g5 e5 => ?_
    walk_at "m:all"
    refine ⟨_, [], S4.grow g5 e5, rfl, ?_⟩
    rw [List.take_add_one, hn1]
    unfold namesL at hJ ⊢
    rw [List.map_append]
    exact hJ.snoc _ t5
  case d1 =>
    rintro ys led D e' hle ⟨rfl, hJ⟩
    rw [hpl, List.take_of_length_le (Nat.le_of_eq h6)] at hJ
    intro sD0 SD0
    walk_at "m:all"
    rename_i sE SE
    refine comp_list (vs := pvs) (fun k ys led => led = [] ∧ Strs ys (namesL (N.take k))) hh SE (isL (SE.get (.tail _ p2))) (by omega) rfl (by decide) (okAll he rfl) ⟨rfl, .nil⟩
      (turnOf (W.ext SE.keep) he ?t2) ?d2 (.inr ⟨⟨_, _, _, rfl⟩, fun v hv => by
        obtain ⟨j, hj, e⟩ := List.getElem_of_mem hv
        obtain ⟨T, _, _, _, _, h, _⟩ := hP0.2 j v (by rw [List.getElem?_eq_getElem hj, e])
        exact ⟨T, h⟩⟩)
    case t2 =>
      rintro k v zs led C' s₀' s₃ m₃ cenv' cown' hk hP ⟨rfl, hJ2⟩ hle' hE' hf' W₃ he₃ ho₃ S₃
      obtain ⟨T, x, y, n, hn1, rfl, hT, hx, hy⟩ := hP0.2 k v hP
      refine o_unpack (vs := [x, y]) S₃ hh (isT (S₃.keep _ _ (hE' _ _ (SE.get (.tail _ hT))))) rfl rfl fun s7 S7 => ?_
      walk_at "m:all"
      rename_i s4 S4
      refine law_named_c (l := langAt n) (e := encAt n) (W₃.ext S4.keep) (hA.less (by decide)) hx hy (sh_lang n) (sh_enc n) fun s5 t5 g5 e5 => ?_
      walk_at "m:all"
      refine ⟨_, [], S4.grow g5 e5, rfl, ?_⟩
      rw [List.take_add_one, hn1]
      unfold namesL at hJ2 ⊢
      rw [List.map_append]
      exact hJ2.snoc _ t5
    case d2 =>
      rintro ys2 led2 D2 e2 hle2 ⟨rfl, hJ2⟩
      rw [hpl, List.take_of_length_le (Nat.le_of_eq h6)] at hJ2
      intro sF SF
      have hsh := strs_shaped (namesL_ok N)
      refine n_ne hun (reads_list (SF.get (.tail _ (.head _))) (reads_strs hJ)) (reads_list (SF.get (.head _)) (reads_strs hJ2)) hsh hsh ?_
      rw [eqv_same hsh]
      iterate 1 walk_at "m:5"
      rw [if_neg (show ¬ ((!true) = true) by decide)]
      refine wpAny_execs_nil ?_
      refine next _ _ _ _ ?at1 SF (b3.up (if_neg (by decide)) (by intro p hp; simp [hp]) (EndsIn.up (by intro p hp; simp [hp]))) (b4.up (if_neg (by decide)) (by intro p hp; simp [hp]) fun _ h => h) ⟨D, ys, e', by walk_at "m:look", by simp, hJ⟩
      case at1 =>
        refine' At.mk' (L := L) ?ao ?ab he ho
        case ao => k_is
        case ab => rfl
end
end
-- LD
section
theorem t_sh : ∀ p ∈ spots, (p.1 ++ Str.ofString ".").length ≤ 100 ∧ (Str.ofString "." ++ p.2).length ≤ 100 ∧ p.1.length ≤ 100 ∧ p.2.length ≤ 100 ∧ (p.1 ++ Str.ofString "...").length ≤ 100 := by decide +kernel
theorem ends_refs {news : List (Addr × Obj)} {ns : List Int} {vs : List Value} (h : EndsIn news ns vs) : ∀ v ∈ vs, ∃ T, v = .ref T := fun v hv => by
  obtain ⟨j, hj, e⟩ := List.getElem_of_mem hv
  obtain ⟨T, _, _, _, _, h, _⟩ := h.2 j v (by rw [List.getElem?_eq_getElem hj, e])
  exact ⟨T, h⟩
def pats5 (ns : List Int) : List Str := ns.map fun n => patOf (frontAt n) (endAt n)
section
variable {w : World} {A : Around} {s₀ s : Shared} {mean : ExcName → Option Value} {mg mb : Str → Option Value} {Q : Flow → Shared → Prop} {E : Value → Shared → Prop} {env : Env} {own : List (Str × Addr)} {m : Str → Option Value} {news : List (Addr × Obj)} {body : List Stmt}
theorem phD (W : Wd w mean mg mb s₀.heap) (hA : Ok A 4) (a : At w 246 7 body env own) (S : Sta s₀ env own s m news) {N : List Int} (h6 : N.length = 6) (b3 : LV (Str.ofString "ends") m news (EndsIn news (N.take 5))) (b4 : LV (Str.ofString "answers") m news (fun vs => Yn vs (ansL N))) (b5 : LV (Str.ofString "names") m news (fun vs => Strs vs (namesL N)))
    (next : ∀ body' s' m' news', At w 246 9 body' env own → Sta s₀ env own s' m' news' → LV (Str.ofString "ends") m' news' (EndsIn news' (N.take 5)) → LV (Str.ofString "answers") m' news' (fun vs => Yn vs (ansL N)) → LV (Str.ofString "names") m' news' (fun vs => Strs vs (namesL N)) → LV (Str.ofString "patterns") m' news' (fun vs => Strs vs (patsL N)) →
      wpAny (model PG w) A (execs body' env) Q E s') : wpAny (model PG w) A (execs body env) Q E s := by
  refine' At.elim (P := fun b => wpAny (model PG w) A (execs b env) Q E s) a ?mo ?_
  case mo => k_is
  intro L he ho
  have hh : A.handled = none := hA.hd
  have hun : A.units + 64 < cLine := by have := hA.un; omega
  have hz := slz
  obtain ⟨el, evs, ee, p1, p2, hP0⟩ := id b3
  have h5 : (N.take 5).length = 5 := by rw [List.length_take]; omega
  have hel : evs.length = 5 := by rw [hP0.1, h5]
  simp only [List.drop_succ_cons, List.drop_zero]
  walk_at "m:all"
  refine comp_list (vs := evs) (fun k ys led => led = [] ∧ Strs ys (pats5 ((N.take 5).take k))) hh S (isL (S.get p2)) (by omega) rfl (by decide) (okAll he rfl) ⟨rfl, .nil⟩
    (turnOf (W.ext S.keep) he ?t1) ?d1 (.inr ⟨⟨_, _, _, rfl⟩, ends_refs hP0⟩)
  case t1 =>
    rintro k v zs led C' s₀' s₃ m₃ cenv' cown' hk hP ⟨rfl, hJ⟩ hle' hE' hf' W₃ he₃ ho₃ S₃
    obtain ⟨T, t1, t2, n, hn1, rfl, hT⟩ := hP0.2 k v hP
    obtain ⟨l1, l2, l3, l4, l5⟩ := t_sh (frontAt n, endAt n) (spot_mem n)
    dsimp only at l1 l2 l3 l4 l5
    have hd : (Str.ofString ".").length = 1 := by decide
    have hd3 : (Str.ofString "...").length = 3 := by decide
    refine o_unpack (vs := [.str (frontAt n) t1, .str (endAt n) t2]) S₃ hh (isT (S₃.keep _ _ (hE' _ _ (S.get hT)))) rfl rfl fun s7 S7 => ?_
    walk_at "m:all"
    rename_i tw aL sL SL
    refine localename_c (l := some (frontAt n ++ Str.ofString ".")) (e := some (Str.ofString "." ++ endAt n)) (W₃.ext SL.keep) (hA.less (by decide)) (.inr (isL (SL.get (.head _)))) ⟨_, rfl⟩ ⟨_, rfl⟩ (fun x hx => by obtain rfl := (Option.some.inj hx).symm; exact l1) (fun x hx => by obtain rfl := (Option.some.inj hx).symm; exact l2) fun s5 t5 g5 e5 => ?_
    walk_at "m:all"
    refine ⟨_, [], (SL.grow g5 e5).sub (List.nil_sublist _), rfl, ?_⟩
    have h0 := t_app (frontAt n, endAt n) (spot_mem n)
    dsimp only at h0
    rw [h0, List.take_add_one, hn1]
    unfold pats5 at hJ ⊢
    rw [List.map_append]
    exact hJ.snoc _ t5
  case d1 =>
    rintro ys led D e' hle ⟨rfl, hJ⟩
    rw [hel, List.take_of_length_le (Nat.le_of_eq h5)] at hJ
    refine UseOk.store (by rw [he.eq]) (by rw [he.eq]; rfl) fun sE SE => ?_
    walk_at "m:all"
    refine comp_list (vs := evs) (fun k ys led => led = [] ∧ Strs ys (pats5 ((N.take 5).take k))) hh SE (isL (SE.get (.tail _ p2))) (by omega) rfl (by decide) (okAll he rfl) ⟨rfl, .nil⟩
      (turnOf (W.ext SE.keep) he ?t2) ?d2 (.inr ⟨⟨_, _, _, rfl⟩, ends_refs hP0⟩)
    case t2 =>
      rintro k v zs led C' s₀' s₃ m₃ cenv' cown' hk hP ⟨rfl, hJ2⟩ hle' hE' hf' W₃ he₃ ho₃ S₃
      obtain ⟨T, t1, t2, n, hn1, rfl, hT⟩ := hP0.2 k v hP
      obtain ⟨l1, l2, l3, l4, l5⟩ := t_sh (frontAt n, endAt n) (spot_mem n)
      dsimp only at l1 l2 l3 l4 l5
      have hd : (Str.ofString ".").length = 1 := by decide
      have hd3 : (Str.ofString "...").length = 3 := by decide
      refine o_unpack (vs := [.str (frontAt n) t1, .str (endAt n) t2]) S₃ hh (isT (S₃.keep _ _ (hE' _ _ (SE.get (.tail _ hT))))) rfl rfl fun s7 S7 => ?_
      walk_at "m:all"
      refine ⟨_, [], (by assumption), rfl, ?_⟩
      rw [List.take_add_one, hn1]
      unfold pats5 at hJ2 ⊢
      rw [List.map_append]
      exact hJ2.snoc _ _
    case d2 =>
      rintro ys2 led2 D2 e2 hle2 ⟨rfl, hJ2⟩
      rw [hel, List.take_of_length_le (Nat.le_of_eq h5)] at hJ2
      intro sF SF
      have hsh : SeqAt.shaped (.list ((pats5 (N.take 5)).map PyData.str)) = true := strs_shaped (patsL_ok N)
      refine n_ne hun (reads_list (SF.get (.tail _ (.head _))) (reads_strs hJ)) (reads_list (SF.get (.head _)) (reads_strs hJ2)) hsh hsh ?_
      rw [eqv_same hsh]
      iterate 1 walk_at "m:5"
      rw [if_neg (show ¬ ((!true) = true) by decide)]
      refine wpAny_execs_nil ?_
      refine next _ _ _ _ ?at1 SF (b3.up (if_neg (by decide)) (by intro p hp; simp [hp]) (EndsIn.up (by intro p hp; simp [hp]))) (b4.up (if_neg (by decide)) (by intro p hp; simp [hp]) fun _ h => h) (b5.up (if_neg (by decide)) (by intro p hp; simp [hp]) fun _ h => h) ⟨D, ys, e', by walk_at "m:look", by simp, hJ⟩
      case at1 =>
        refine' At.mk' (L := L) ?ao ?ab he ho
        case ao => k_is
        case ab => rfl
end
end
-- LE
section
theorem told_reads {h : Heap} {news : List (Addr × Obj)} (hn : ∀ p ∈ news, h.get? p.1 = some p.2) : ∀ {vs : List Value} {rows : List (List Bool)}, ToldIn news rows vs → ∃ as, ReadsAll h vs (rows.map fun r => PyData.list (r.map PyData.bool)) as
  | [], rows, t => by
    cases rows with
    | nil => exact ⟨_, .nil⟩
    | cons r rs => cases t.1
  | v :: vs, rows, ⟨t1, t2⟩ => by
    cases rows with
    | nil => cases t1
    | cons r rs =>
      obtain ⟨a, r', e, h1, rfl, h3⟩ := t2 0 v rfl
      obtain rfl : r = r' := Option.some.inj h1
      obtain ⟨as, h4⟩ := told_reads hn (vs := vs) (rows := rs) ⟨by simpa using t1, fun j v hv => t2 (j + 1) v hv⟩
      exact ⟨_, .cons (reads_list (hn _ h3) (reads_bools r)) h4⟩
theorem told_shaped (rows : List (List Bool)) : SeqAt.shaped (.list (rows.map fun r => PyData.list (r.map PyData.bool))) = true :=
  shaped_list (fun d hd => by
    obtain ⟨r, _, rfl⟩ := List.mem_map.mp hd
    simp only [PyData.canLay0]
    refine canAll fun d hd => ?_
    obtain ⟨b, _, rfl⟩ := List.mem_map.mp hd
    simp [PyData.canLay0]) fun d hd => by
    obtain ⟨r, _, rfl⟩ := List.mem_map.mp hd
    have : PyData.depthAll (r.map PyData.bool) ≤ 1 := depAll fun d hd => by
      obtain ⟨b, _, rfl⟩ := List.mem_map.mp hd
      simp [PyData.depth]
    simp only [PyData.depth]
    omega
def rowsK (N ns : List Int) : List (List Bool) := ns.map fun n => (namesL N).map fun x => matchB (frontAt n) (endAt n) x
theorem name_len {N : List Int} {x : Str} (h : x ∈ namesL N) : x.length ≤ 1000 := by
  obtain ⟨n, _, e⟩ := List.mem_map.mp h
  have := t_nlen _ (name_mem n)
  rw [e] at this
  omega
section
variable {w : World} {A : Around} {s₀ s : Shared} {mean : ExcName → Option Value} {mg mb : Str → Option Value} {Q : Flow → Shared → Prop} {E : Value → Shared → Prop} {env : Env} {own : List (Str × Addr)} {m : Str → Option Value} {news : List (Addr × Obj)} {body : List Stmt}
theorem phE (W : Wd w mean mg mb s₀.heap) (hA : Ok A 4) (a : At w 246 9 body env own) (S : Sta s₀ env own s m news) {N : List Int} (h6 : N.length = 6) (b3 : LV (Str.ofString "ends") m news (EndsIn news (N.take 5))) (b4 : LV (Str.ofString "answers") m news (fun vs => Yn vs (ansL N))) (b5 : LV (Str.ofString "names") m news (fun vs => Strs vs (namesL N))) (b6 : LV (Str.ofString "patterns") m news (fun vs => Strs vs (patsL N)))
    (next : ∀ body' s' m' news', At w 246 11 body' env own → Sta s₀ env own s' m' news' → LV (Str.ofString "answers") m' news' (fun vs => Yn vs (ansL N)) → LV (Str.ofString "names") m' news' (fun vs => Strs vs (namesL N)) → LV (Str.ofString "patterns") m' news' (fun vs => Strs vs (patsL N)) → LV (Str.ofString "told") m' news' (ToldIn news' (rowsL N)) →
      wpAny (model PG w) A (execs body' env) Q E s') : wpAny (model PG w) A (execs body env) Q E s := by
  refine' At.elim (P := fun b => wpAny (model PG w) A (execs b env) Q E s) a ?mo ?_
  case mo => k_is
  intro L he ho
  have hh : A.handled = none := hA.hd
  have hun : A.units + 64 < cLine := by have := hA.un; omega
  have hz := slz
  obtain ⟨el, evs, ee, p1, p2, hP0⟩ := id b3
  obtain ⟨nl, nvs, ne, n1, n2, hN0⟩ := id b5
  obtain ⟨ql, qvs, qe, r1, r2, hQ0⟩ := id b6
  have h5 : (N.take 5).length = 5 := by rw [List.length_take]; omega
  have hel : evs.length = 5 := by rw [hP0.1, h5]
  have hnl : nvs.length = 6 := by rw [hN0.1, namesL, List.length_map, h6]
  have hql : qvs.length = 5 := by rw [hQ0.1, patsL, List.length_map, h5]
  simp only [List.drop_succ_cons, List.drop_zero]
  walk_at "m:all"
  refine comp_list (vs := qvs) (fun k ys led => ToldIn led (rowsK N ((N.take 5).take k)) ys) hh S (isL (S.get r2)) (by omega) rfl (by decide) (okAll he rfl) ToldIn.nil
    (turnOf (W.ext S.keep) he ?t1) ?d1 (.inl (by intro _ _; rfl))
  case t1 =>
    rintro k v zs led C' s₀' s₃ m₃ cenv' cown' hk hP hJ hle' hE' hf' W₃ he₃ ho₃ S₃
    obtain ⟨p, tq, rfl, hp1⟩ := hQ0.2 k v hP
    obtain ⟨n, hn1, rfl⟩ : ∃ n, (N.take 5)[k]? = some n ∧ patOf (frontAt n) (endAt n) = p := by
      unfold patsL at hp1
      rw [List.getElem?_map] at hp1
      exact Option.map_eq_some_iff.mp hp1
    have P := pat_of (p := (frontAt n, endAt n)) (spot_mem n)
    dsimp only at P
    have f1 : m₃ (Str.ofString "names") = some (.ref nl) := (hf' _ rfl).trans (by walk_at "m:look")
    walk_at "m:all"
    rename_i s4 S4
    refine comp_list (vs := nvs) (fun k ys led => led = [] ∧ ys = ((namesL N).take k).map fun x => Value.bool (matchB (frontAt n) (endAt n) x)) hh S4 (isL (S4.keep _ _ (hE' _ _ (S.get n2)))) (by omega) rfl (by decide) (okAll he₃ rfl) ⟨rfl, rfl⟩
      (turnOf (W₃.ext S4.keep) he₃ ?t2) ?d2 (.inl (by intro _ _; rfl))
    case t2 =>
      rintro j v zs2 led2 C2 s₀2 s2 m2 cenv2 cown2 hj hPj ⟨rfl, hJ2⟩ hle2 hE2 hf2 W2 he2 ho2 S2
      obtain ⟨x, tx, rfl, hx1⟩ := hN0.2 j v hPj
      have f2 : m2 (Str.ofString "pattern") = some (.str (patOf (frontAt n) (endAt n)) tq) := (hf2 _ rfl).trans (by walk_at "m:look")
      walk_at "m:all"
      rename_i s5 S5
      refine ellipsis_c (W2.ext S5.keep) (hA.less (by decide)) P.has P.cut P.parts (Nat.le_trans P.low.1.2 (by decide)) P.fl P.el (name_len (List.mem_of_getElem? hx1)) fun s7 g7 e7 => ?_
      walk_at "m:all"
      refine ⟨_, [], S5.grow g7 e7, rfl, ?_⟩
      rw [List.take_add_one, hx1, List.map_append, hJ2]
      rfl
    case d2 =>
      rintro ys2 led2 D2 e2 hle2 ⟨rfl, hJ2⟩ sF SF
      refine ⟨_, _, SF, ?_⟩
      rw [List.take_add_one, hn1]
      unfold rowsK at hJ ⊢
      rw [List.map_append]
      rw [hnl, List.take_of_length_le (Nat.le_of_eq (by rw [namesL, List.length_map, h6]))] at hJ2
      have := hJ.snoc (a := D2) (r := (namesL N).map fun x => matchB (frontAt n) (endAt n) x) (e := e2)
      rw [List.map_map] at this
      rw [hJ2]
      exact this
  case d1 =>
    rintro ys led D e' hle hJ
    rw [hql, List.take_of_length_le (Nat.le_of_eq h5)] at hJ
    refine UseOk.store (by rw [he.eq]) (by rw [he.eq]; rfl) fun sE SE => ?_
    walk_at "m:all"
    refine comp_list (vs := evs) (fun k ys led => ToldIn led (rowsK N ((N.take 5).take k)) ys) hh SE (isL (SE.get (.tail _ (List.mem_append_right _ p2)))) (by omega) rfl (by decide) (okAll he rfl) ToldIn.nil
      (turnOf (W.ext SE.keep) he ?t3) ?d3 (.inr ⟨⟨_, _, _, rfl⟩, ends_refs hP0⟩)
    case t3 =>
      rintro k v zs led3 C' s₀' s₃ m₃ cenv' cown' hk hP hJ3 hle' hE' hf' W₃ he₃ ho₃ S₃
      obtain ⟨T, t1, t2, n, hn1, rfl, hT⟩ := hP0.2 k v hP
      obtain ⟨l1, l2, l3, l4, l5⟩ := t_sh (frontAt n, endAt n) (spot_mem n)
      dsimp only at l1 l2 l3 l4 l5
      have f1 : m₃ (Str.ofString "names") = some (.ref nl) := (hf' _ rfl).trans (by walk_at "m:look")
      refine o_unpack (vs := [.str (frontAt n) t1, .str (endAt n) t2]) S₃ hh (isT (S₃.keep _ _ (hE' _ _ (SE.get (.tail _ (List.mem_append_right _ hT)))))) rfl rfl fun s7 S7 => ?_
      walk_at "m:all"
      rename_i s4 S4
      refine comp_list (vs := nvs) (fun k ys led => led = [] ∧ ys = ((namesL N).take k).map fun x => Value.bool (matchB (frontAt n) (endAt n) x)) hh S4 (isL (S4.keep _ _ (hE' _ _ (SE.get (.tail _ (List.mem_append_right _ n2)))))) (by omega) rfl (by decide) (okAll he₃ rfl) ⟨rfl, rfl⟩
        (turnOf (W₃.ext S4.keep) he₃ ?t4) ?d4 (.inl (by intro _ _; rfl))
      case t4 =>
        rintro j v zs2 led2 C2 s₀2 s2 m2 cenv2 cown2 hj hPj ⟨rfl, hJ2⟩ hle2 hE2 hf2 W2 he2 ho2 S2
        obtain ⟨x, tx, rfl, hx1⟩ := hN0.2 j v hPj
        have f2 : m2 (Str.ofString "front") = some (.str (frontAt n) t1) := (hf2 _ rfl).trans (by walk_at "m:look")
        have f3 : m2 (Str.ofString "end") = some (.str (endAt n) t2) := (hf2 _ rfl).trans (by walk_at "m:look")
        walk_at "m:all"
        rename_i s5 S5
        refine law_fits_c (W2.ext S5.keep) (hA.less (by decide)) l3 l4 (name_len (List.mem_of_getElem? hx1)) fun s7 g7 e7 => ?_
        walk_at "m:all"
        refine ⟨_, [], S5.grow g7 e7, rfl, ?_⟩
        have hfit : matchB (frontAt n) (endAt n) x = fitsB (frontAt n) (endAt n) x := by
          obtain ⟨n0, _, e0⟩ := List.mem_map.mp (List.mem_of_getElem? hx1)
          have h0 := t_fits _ (name_mem n0) (frontAt n, endAt n) (spot_mem n)
          rw [e0] at h0
          exact h0
        rw [List.take_add_one, hx1, List.map_append, hJ2, ← hfit]
        rfl
      case d4 =>
        rintro ys2 led2 D2 e2 hle2 ⟨rfl, hJ2⟩ sF SF
        refine ⟨_, _, SF, ?_⟩
        rw [List.take_add_one, hn1]
        unfold rowsK at hJ3 ⊢
        rw [List.map_append]
        rw [hnl, List.take_of_length_le (Nat.le_of_eq (by rw [namesL, List.length_map, h6]))] at hJ2
        have := hJ3.snoc (a := D2) (r := (namesL N).map fun x => matchB (frontAt n) (endAt n) x) (e := e2)
        rw [List.map_map] at this
        rw [hJ2]
        exact this
    case d3 =>
      rintro ys3 led3 D3 e3 hle3 hJ3
      rw [hel, List.take_of_length_le (Nat.le_of_eq h5)] at hJ3
      intro sG SG
      have hsh := told_shaped (rowsK N (N.take 5))
      obtain ⟨as1, hr1⟩ := told_reads (h := sG.heap) (news := led) (fun p hp => SG.get (.tail _ (List.mem_append_right _ (.tail _ (List.mem_append_left _ hp))))) hJ
      obtain ⟨as2, hr2⟩ := told_reads (h := sG.heap) (news := led3) (fun p hp => SG.get (.tail _ (List.mem_append_left _ hp))) hJ3
      refine n_ne hun (reads_list (SG.get (.tail _ (List.mem_append_right _ (.head _)))) hr1) (reads_list (SG.get (.head _)) hr2) hsh hsh ?_
      rw [eqv_same hsh]
      iterate 1 walk_at "m:5"
      rw [if_neg (show ¬ ((!true) = true) by decide)]
      refine wpAny_execs_nil ?_
      refine next _ _ _ _ ?at1 SG (b4.up (if_neg (by decide)) (by intro p hp; simp [hp]) fun _ h => h) (b5.up (if_neg (by decide)) (by intro p hp; simp [hp]) fun _ h => h) (b6.up (if_neg (by decide)) (by intro p hp; simp [hp]) fun _ h => h) ⟨D, ys, e', by walk_at "m:look", by simp, ToldIn.up (by intro p hp; simp [hp]) _ hJ⟩
      case at1 =>
        refine' At.mk' (L := L) ?ao ?ab he ho
        case ao => k_is
        case ab => rfl
end
end
-- LF
section
def dueL (stuck : List Int) (ans : List Bool) (k : Nat) : Str := if stuck.any (· == (k : Int)) = true then Str.ofString "" else ynS (ans.getD k false)
section
variable {w : World} {A : Around} {s₀ s : Shared} {mean : ExcName → Option Value} {mg mb : Str → Option Value} {Q : Flow → Shared → Prop} {E : Value → Shared → Prop} {env : Env} {own : List (Str × Addr)} {m : Str → Option Value} {news : List (Addr × Obj)} {body : List Stmt}
theorem phF (W : Wd w mean mg mb s₀.heap) (hA : Ok A 4) (a : At w 246 11 body env own) (S : Sta s₀ env own s m news) {N : List Int} (h6 : N.length = 6) (b4 : LV (Str.ofString "answers") m news (fun vs => Yn vs (ansL N))) (b5 : LV (Str.ofString "names") m news (fun vs => Strs vs (namesL N))) (b6 : LV (Str.ofString "patterns") m news (fun vs => Strs vs (patsL N))) (b7 : LV (Str.ofString "told") m news (ToldIn news (rowsL N)))
    (next : ∀ body' s' m' news', At w 246 13 body' env own → Sta s₀ env own s' m' news' → LV (Str.ofString "answers") m' news' (fun vs => Yn vs (ansL N)) → LV (Str.ofString "names") m' news' (fun vs => Strs vs (namesL N)) → LV (Str.ofString "patterns") m' news' (fun vs => Strs vs (patsL N)) → LV (Str.ofString "told") m' news' (ToldIn news' (rowsL N)) →
      LV (Str.ofString "stuck") m' news' (fun vs => IntsAre vs (stuckL (rowsL N) (ansL N))) → LV (Str.ofString "due") m' news' (fun vs => Strs vs ((List.range 6).map (dueL (stuckL (rowsL N) (ansL N)) (ansL N)))) →
      wpAny (model PG w) A (execs body' env) Q E s') : wpAny (model PG w) A (execs body env) Q E s := by
  refine' At.elim (P := fun b => wpAny (model PG w) A (execs b env) Q E s) a ?mo ?_
  case mo => k_is
  intro L he ho
  have hh : A.handled = none := hA.hd
  have hun : A.units + 64 < cLine := by have := hA.un; omega
  have hz := slz
  obtain ⟨al, avs, ae, a1, a2, hA0⟩ := id b4
  obtain ⟨tl, tvs, te, t1, t2, hT0⟩ := id b7
  have h6a : (ansL N).length = 6 := by rw [ansL, List.length_map, h6]
  have hav : avs.length = 6 := by rw [hA0.1, h6a]
  simp only [List.drop_succ_cons, List.drop_zero]
  walk_at "m:all"
  refine law_stuck_c (W.ext S.keep) (hA.less (by decide)) (hT0.told (isL (S.get t2)) fun p hp => S.get hp) (isL (S.get a2)) hA0 h6a (fun r hr => ?_) (by rw [rowsL, List.length_map, List.length_take]; omega) fun s1 sl svs e1 g1 k1 sn1 sl1 hs1 => ?_
  · obtain ⟨n, _, rfl⟩ := List.mem_map.mp hr
    rw [List.length_map, namesL, List.length_map, h6]
  have S1 := S.add g1 k1 sn1 sl1
  walk_at "m:all"
  rename_i s2 S2 t3 s3 S3 R q1 q2 q3 s4 S4
  refine comp_range (n := 6) (fun k ys led => led = [] ∧ Strs ys ((List.range k).map (dueL (stuckL (rowsL N) (ansL N)) (ansL N)))) hh S4 (isR (S4.get (.head _))) (by decide) (by decide) (by omega) rfl (by decide) (okAll he rfl) ⟨rfl, .nil⟩
    (turnOf (W.ext S4.keep) he ?t1) ?d1 (by intro _ _; rfl)
  case t1 =>
    rintro k v zs led C' s₀' s₅ m₅ cenv' cown' hk ⟨t, rfl⟩ ⟨rfl, hJ⟩ hle' hE' hf' W₅ he₅ ho₅ S₅
    have f1 : m₅ (Str.ofString "answers") = some (.ref al) := (hf' _ rfl).trans (by walk_at "m:look")
    have f2 : m₅ (Str.ofString "stuck") = some (.ref sl) := (hf' _ rfl).trans (by walk_at "m:look")
    walk_at "m:all"
    rename_i s6 S6
    refine in_list_ints (ns := stuckL (rowsL N) (ansL N)) (isL (S6.keep _ _ (hE' _ _ (S4.get (.tail _ (.head _)))))) hs1 ?_
    walk_at "m:all"
    refine ite_b (fun hc => ?_) fun hc => ?_
    · walk_at "m:all"
      refine ⟨_, [], (by assumption), rfl, ?_⟩
      have hd : dueL (stuckL (rowsL N) (ansL N)) (ansL N) k = Str.ofString "" := if_pos hc
      rw [List.range_succ, List.map_append]
      show Strs _ (_ ++ [_])
      rw [hd]
      exact hJ.snoc _ _
    · have hak : k < avs.length := by omega
      obtain ⟨b, tb, hb1, hb2⟩ := hA0.2 k avs[k] (List.getElem?_eq_getElem hak)
      have hbk : (ansL N).getD k false = b := by rw [List.getD_eq_getElem?_getD, hb1]; rfl
      walk_at "m:all"
      refine' n_item k (l := avs) (x := .str (ynS b) tb) ?q1 ?q2 ?q3 ?q4 ?_ ?q5 ?q6
      case q1 => exact isL (S6.keep _ _ (hE' _ _ (S4.get (.tail _ (.tail _ a2)))))
      case q2 => rfl
      case q3 => omega
      case q4 => rw [List.getElem?_eq_getElem hak, hb2]
      case q5 => with_unfolding_all rfl
      case q6 => intro _; with_unfolding_all rfl
      walk_at "m:all"
      refine ⟨_, [], (by assumption), rfl, ?_⟩
      have hd : dueL (stuckL (rowsL N) (ansL N)) (ansL N) k = ynS b := by
        unfold dueL
        rw [if_neg (by rw [hc]; decide), hbk]
      rw [List.range_succ, List.map_append]
      show Strs _ (_ ++ [_])
      rw [hd]
      exact hJ.snoc _ _
  case d1 =>
    rintro ys led D e' hle ⟨rfl, hJ⟩
    refine UseOk.store (by rw [he.eq]) (by rw [he.eq]; rfl) fun sE SE => ?_
    refine next _ _ _ _ ?at1 SE (b4.up (show upd (upd m _ _) _ _ _ = _ from (if_neg (by decide)).trans (if_neg (by decide))) (by intro p hp; simp [hp]) fun _ h => h) (b5.up (show upd (upd m _ _) _ _ _ = _ from (if_neg (by decide)).trans (if_neg (by decide))) (by intro p hp; simp [hp]) fun _ h => h) (b6.up (show upd (upd m _ _) _ _ _ = _ from (if_neg (by decide)).trans (if_neg (by decide))) (by intro p hp; simp [hp]) fun _ h => h) (b7.up (show upd (upd m _ _) _ _ _ = _ from (if_neg (by decide)).trans (if_neg (by decide))) (by intro p hp; simp [hp]) (ToldIn.up (by intro p hp; simp [hp])))
      ⟨sl, svs, e1, by walk_at "m:look", by simp, hs1⟩ ⟨D, ys, e', by walk_at "m:look", by simp, hJ⟩
    case at1 =>
      refine' At.mk' (L := L) ?ao ?ab he ho
      case ao => k_is
      case ab => rfl
end
end
-- P4
section
section
variable {N : List Int}
theorem prs_snd (N : List Int) : ((patsL N).zip (rowsL N)).map (·.2) = rowsL N := by
  unfold patsL rowsL
  rw [List.zip_map', List.map_map]
  rfl
theorem stuck_eq (N : List Int) (way : Int) : stuckL (rowsL N) (ansL N) = (learnF ((patsL N).zip (rowsL N)) (ansL N) way).left.map fun k : Nat => (k : Int) := by
  have := stuck_left (ans := ansL N) (told2 N) way
  rw [prs_snd] at this
  exact this
theorem any_cast (x : Nat) : ∀ l : List Nat, (l.map fun k : Nat => (k : Int)).any (· == (x : Int)) = l.contains x
  | [] => rfl
  | a :: r => by
    rw [List.map_cons, List.any_cons, any_cast x r, List.contains_cons]
    congr 1
    by_cases h : a = x
    · subst h
      simp
    · rw [beq_false_of_ne (show ((a : Nat) : Int) ≠ (x : Int) by omega), beq_false_of_ne (show x ≠ a by omega)]
theorem due_eq (N : List Int) (way : Int) {x : Nat} (hx : x < 6) : decF (mtL N x) (learnF ((patsL N).zip (rowsL N)) (ansL N) way).kvs = some (dueL (stuckL (rowsL N) (ansL N)) (ansL N) x) := by
  rw [decided_due (told2 N) way hx]
  congr 1
  unfold dueL
  rw [stuck_eq N way, any_cast]
  by_cases h : x ∈ (learnF ((patsL N).zip (rowsL N)) (ansL N) way).left
  · rw [if_pos h, if_pos (by simpa using h)]
  · rw [if_neg h, if_neg (by simpa using h)]
theorem key_pat (N : List Int) (way : Int) : ∀ p ∈ (learnF ((patsL N).zip (rowsL N)) (ansL N) way).kvs, ∃ f e, Pat p.1 f e ∧ ∀ x y, (namesL N)[x]? = some y → matchB f e y = mtL N x p.1 := by
  intro p hp
  obtain ⟨I, _⟩ := learn_inv (ans := ansL N) (told2 N) way
  obtain ⟨⟨q, hq, e⟩, _⟩ := I.keys p hp
  have hm : ∃ n, q.1 = patOf (frontAt n) (endAt n) := by
    have := (List.of_mem_zip (a := q.1) (b := q.2) hq).1
    obtain ⟨n, _, e⟩ := List.mem_map.mp this
    exact ⟨n, e.symm⟩
  obtain ⟨n, hn⟩ := hm
  rw [← e, hn]
  refine ⟨frontAt n, endAt n, pat_of (p := (frontAt n, endAt n)) (spot_mem n), fun x y hy => ?_⟩
  unfold mtL
  have h0 := find_spot (p := (frontAt n, endAt n)) (spot_mem n)
  simp only at h0
  simp only [h0, hy]
theorem pats_low (N : List Int) : ∀ p ∈ patsL N, Low p := fun x hx => by
  obtain ⟨n, _, e⟩ := List.mem_map.mp hx
  rw [← e]
  exact (pat_of (p := (frontAt n, endAt n)) (spot_mem n)).low
end
theorem ints_shaped (is : List Int) : SeqAt.shaped (.list (is.map PyData.int)) = true :=
  shaped_list (fun d hd => by
    obtain ⟨b, hb, rfl⟩ := List.mem_map.mp hd
    simp [PyData.canLay0]) fun d hd => by
    obtain ⟨b, _, rfl⟩ := List.mem_map.mp hd
    simp [PyData.depth]
theorem yes_ok : PyData.strOk (Str.ofString "") = true ∧ PyData.strOk (ynS false) = true ∧ PyData.strOk (ynS true) = true := by decide +kernel
theorem due_ok (st : List Int) (ans : List Bool) (k : Nat) : PyData.strOk (dueL st ans k) = true := by
  unfold dueL
  split
  · exact yes_ok.1
  · cases ans.getD k false
    · exact yes_ok.2.1
    · exact yes_ok.2.2
end
-- LG
section
section
variable {w : World} {A : Around} {s₀ s : Shared} {mean : ExcName → Option Value} {mg mb : Str → Option Value} {Q : Flow → Shared → Prop} {E : Value → Shared → Prop} {env : Env} {own : List (Str × Addr)} {m : Str → Option Value} {news : List (Addr × Obj)} {body : List Stmt}
/-- what each turn of the loop needs -/
structure GJ (N : List Int) (m : Str → Option Value) (news : List (Addr × Obj)) : Prop where
  answers : LV (Str.ofString "answers") m news (fun vs => Yn vs (ansL N))
  names : LV (Str.ofString "names") m news (fun vs => Strs vs (namesL N))
  patterns : LV (Str.ofString "patterns") m news (fun vs => Strs vs (patsL N))
  told : LV (Str.ofString "told") m news (ToldIn news (rowsL N))
  stuck : LV (Str.ofString "stuck") m news (fun vs => IntsAre vs (stuckL (rowsL N) (ansL N)))
  due : LV (Str.ofString "due") m news (fun vs => Strs vs ((List.range 6).map (dueL (stuckL (rowsL N) (ansL N)) (ansL N))))
theorem GJ.up {N : List Int} {m m' : Str → Option Value} {news news' : List (Addr × Obj)} (J : GJ N m news) (hn : ∀ p ∈ news, p ∈ news')
    (h1 : m' (Str.ofString "answers") = m (Str.ofString "answers")) (h2 : m' (Str.ofString "names") = m (Str.ofString "names")) (h3 : m' (Str.ofString "patterns") = m (Str.ofString "patterns")) (h4 : m' (Str.ofString "told") = m (Str.ofString "told")) (h5 : m' (Str.ofString "stuck") = m (Str.ofString "stuck")) (h6 : m' (Str.ofString "due") = m (Str.ofString "due")) : GJ N m' news' :=
  ⟨J.answers.up h1 hn fun _ h => h, J.names.up h2 hn fun _ h => h, J.patterns.up h3 hn fun _ h => h, J.told.up h4 hn (ToldIn.up hn), J.stuck.up h5 hn fun _ h => h, J.due.up h6 hn fun _ h => h⟩
theorem phG (W : Wd w mean mg mb s₀.heap) (hA : Ok A 4) (a : At w 246 13 body env own) (S : Sta s₀ env own s m news) {N : List Int} (h6 : N.length = 6) (J0 : GJ N m news)
    (fin : ∀ s' m' news', Sta s₀ env own s' m' news' → Q (.ret (.bool true)) s') : wpAny (model PG w) A (execs body env) Q E s := by
  refine' At.elim (P := fun b => wpAny (model PG w) A (execs b env) Q E s) a ?mo ?_
  case mo => k_is
  intro L he ho
  have hh : A.handled = none := hA.hd
  have hun : A.units + 64 < cLine := by have := hA.un; omega
  have hz := slz
  simp only [List.drop_succ_cons, List.drop_zero]
  walk_at "m:all"
  rename_i t1 s1 S1 t2 s2 S2 t3 s3 S3 tp s4 S4
  refine for_tuple (vs := [.int (-1) t2, .int 1 t3]) (fun i m' n' => GJ N m' n' ∧ n' = (tp, ({ cls := .type "tuple", data := .seq #[.int (-1) t2, .int 1 t3] } : Obj)) :: news) hh S4 (isT (S4.get (.head _))) ⟨J0.up (fun p hp => .tail _ hp) rfl rfl rfl rfl rfl rfl, rfl⟩ (.inr ⟨_, fun _ _ _ q => by rw [q.2]; exact .head _⟩) ?turn ?done
  case turn =>
    rintro i v s5 m5 n5 ai oi hi hv ⟨J, hn5⟩ S5
    obtain ⟨way, tw, rfl⟩ : ∃ z t, v = .int z t := by
      match i, hv with
      | 0, hv => exact ⟨_, _, (Option.some.inj hv).symm⟩
      | 1, hv => exact ⟨_, _, (Option.some.inj hv).symm⟩
    obtain ⟨al, avs, ae, a1, a2, hA0⟩ := id J.answers
    obtain ⟨nl, nvs, ne, n1, n2, hN0⟩ := id J.names
    obtain ⟨ql, qvs, qe, r1, r2, hQ0⟩ := id J.patterns
    obtain ⟨tl, tvs, te, c1, c2, hT0⟩ := id J.told
    obtain ⟨sl, svs, se, e1, e2, hS0⟩ := id J.stuck
    obtain ⟨dl, dvs, de, d1, d2, hD0⟩ := id J.due
    have h6a : (ansL N).length = 6 := by rw [ansL, List.length_map, h6]
    have h6n : (namesL N).length = 6 := by rw [namesL, List.length_map, h6]
    have hav : avs.length = 6 := by rw [hA0.1, h6a]
    have hnl : nvs.length = 6 := by rw [hN0.1, h6n]
    walk_at "m:all"
    rename_i s6 S6
    refine learned_c (pats := patsL N) (rows := rowsL N) (ans := ansL N) (W.ext S6.keep) (hA.less (by decide)) (isL (S6.get (.tail _ r2))) hQ0 (hT0.told (isL (S6.get (.tail _ c2))) fun p hp => S6.get (.tail _ hp)) (isL (S6.get (.tail _ a2))) hA0 h6a (fun r hr => ?_) (by rw [patsL, rowsL, List.length_map, List.length_map]) (by rw [patsL, List.length_map, List.length_take]; omega) (pats_low N)
      fun s7 aT x dx l lf od vs ys en ey led g7 k7 hled hnd m1 m2 m3 tb m4 m5' R7 hfew hleft => ?_
    · obtain ⟨n, _, rfl⟩ := List.mem_map.mp hr
      rw [List.length_map, h6n]
    have S7 := S6.adds g7 k7 hled hnd
    have hil : ∀ p ∈ led, p ∈ led ++ (ai, oi) :: n5 := fun p hp => List.mem_append_left _ hp
    have hin : ∀ p ∈ n5, p ∈ led ++ (ai, oi) :: n5 := fun p hp => List.mem_append_right _ (.tail _ hp)
    refine o_unpack (vs := [.ref x, .ref lf]) S7 hh (isT (S7.get (hil _ m1))) rfl rfl fun s8 S8 => ?_
    walk_at "m:all"
    rename_i s9 S9 s10 S10
    have hsh := ints_shaped (stuckL (rowsL N) (ansL N))
    rw [← stuck_eq N way] at hleft
    refine n_ne hun (reads_list (S10.get (hil _ m5')) (reads_ints hleft)) (reads_list (S10.get (hin _ e2)) (reads_ints hS0)) hsh hsh ?_
    rw [eqv_same hsh]
    walk_at "m:all"
    rw [if_neg (show ¬ ((!true) = true) by decide)]
    walk_at "m:all"
    have R10 : Rows s10.heap vs (learnF ((patsL N).zip (rowsL N)) (ansL N) way).kvs := R7.rows fun p hp => S10.get (hil _ hp)
    have I10 : Inst s10.heap x l := tb.inst (S10.get (hil _ m2)) (S10.get (hil _ m3))
    have L10 : s10.heap.IsList l vs.toArray := isL (S10.get (hil _ m4))
    refine comp_list (vs := nvs) (fun k ys led => led = [] ∧ Strs ys ((List.range k).map (dueL (stuckL (rowsL N) (ansL N)) (ansL N)))) hh S10 (isL (S10.get (hin _ n2))) (by omega) rfl (by decide) (okAll he rfl) ⟨rfl, .nil⟩
      (turnOf (W.ext S10.keep) he ?t2) ?d2 (.inl (by intro _ _; rfl))
    case t2 =>
      rintro j v zs led2 C2 s₀2 s11 m11 cenv2 cown2 hj hPj ⟨rfl, hJ2⟩ hle2 hE2 hf2 W2 he2 ho2 S11
      obtain ⟨y, ty, rfl, hy1⟩ := hN0.2 j v hPj
      have f2 : m11 (Str.ofString "table") = some (.ref x) := (hf2 _ rfl).trans (by walk_at "m:look")
      walk_at "m:all"
      rename_i s12 S12
      have hX : Ext s10.heap s12.heap := hE2.trans S12.keep
      refine decided_c (mt := mtL N j) (W2.ext S12.keep) (hA.less (by decide)) (I10.ext hX) (L10.at fun o q => hX _ _ q) (R10.ext hX) (Nat.le_trans hfew (by decide)) (name_len (List.mem_of_getElem? hy1)) (fun p hp => ?_) fun s13 v g13 k13 hv13 => ?_
      · obtain ⟨f, e, h1, h2⟩ := key_pat N way p hp
        exact ⟨f, e, h1, h2 j y hy1⟩
      have S13 := S12.grow g13 k13
      rw [due_eq N way (by omega)] at hv13
      obtain ⟨tv, rfl⟩ := hv13
      walk_at "m:all"
      refine ⟨_, [], S13, rfl, ?_⟩
      rw [List.range_succ, List.map_append]
      exact hJ2.snoc _ tv
    case d2 =>
      rintro ys2 led2 D2 ez2 hle2 ⟨rfl, hJ2⟩ sF SF
      rw [hnl] at hJ2
      walk_at "m:all"
      have hsd := strs_shaped (xs := (List.range 6).map (dueL (stuckL (rowsL N) (ansL N)) (ansL N))) (fun d hd => by
        obtain ⟨k, _, rfl⟩ := List.mem_map.mp hd
        exact due_ok _ _ _)
      refine n_ne hun (reads_list (SF.get (.head _)) (reads_strs hJ2)) (reads_list (SF.get (.tail _ (hin _ d2))) (reads_strs hD0)) hsd hsd ?_
      rw [eqv_same hsd]
      walk_at "m:all"
      rw [if_neg (show ¬ ((!true) = true) by decide)]
      walk_at "m:all"
      have hne : ∀ z, z ≠ Str.ofString "way" → z ≠ Str.ofString "table" → z ≠ Str.ofString "left" → (upd (upd (upd m5 (Str.ofString "way") (Value.int way tw)) (Str.ofString "table") (Value.ref x)) (Str.ofString "left") (Value.ref lf)) z = m5 z := fun z h1 h2 h3 => (if_neg h3).trans ((if_neg h2).trans (if_neg h1))
      exact ⟨_, n5, SF.sub (.cons _ (List.sublist_append_right led _)), J.up (fun p hp => hp) (hne _ (by decide) (by decide) (by decide)) (hne _ (by decide) (by decide) (by decide)) (hne _ (by decide) (by decide) (by decide)) (hne _ (by decide) (by decide) (by decide)) (hne _ (by decide) (by decide) (by decide)) (hne _ (by decide) (by decide) (by decide)), hn5⟩
  case done =>
    rintro s5 m5 n5 ⟨J, rfl⟩ S5
    walk_at "m:all"
    exact fin _ _ _ (by assumption)
end
end
-- LLaw
section
theorem numsL_len (ns : List Int) : (numsL ns).length = 6 := by
  unfold numsL
  rw [List.length_append, List.length_map, List.length_drop]
  have : (ns.take 6).length ≤ 6 := by rw [List.length_take]; omega
  simp only [List.length_cons, List.length_nil]
  omega
section
variable {w : World} {A : Around} {s : Shared} {mean : ExcName → Option Value} {mg mb : Str → Option Value} {Q E : Value → Shared → Prop}
theorem law_c (W : Wd w mean mg mb s.heap) (hA : Ok A 5) {t : Addr} {vs : List Value} {ns : List Int} (ht : s.heap.IsList t vs.toArray) (hI : IntsAre vs ns) (hn : ns.length ≤ 63)
    (h : ∀ s', Go s s' → Ext s.heap s'.heap → Q (.bool true) s') : wpAny (model PG w) A (call (.ref 246) [.ref t] []) Q E s := by
  walk_at "m:enter"
  case md => exact Nat.lt_of_le_of_lt (Nat.le_add_right _ _) hA.dp
  intro L s₁ env own m hm he ho S
  have hm1 : m (Str.ofString "script") = some (.ref t) := hm _ _ rfl
  clear hm
  (try k_unmd)
  have hO := hA.deeper env
  have h6 := numsL_len ns
  refine phA W hO ?at0 S hm1 ht hI hn fun bA sA mA nA aA SA b1 => ?_
  case at0 =>
    refine' At.mk' (L := L) ?ao ?ab he ho
    case ao => k_is
    case ab => rfl
  refine phB W hO aA SA h6 b1 fun bB sB mB nB aB SB b2 b3 b4 => ?_
  refine phC W hO aB SB h6 b2 b3 b4 fun bC sC mC nC aC SC b3 b4 b5 => ?_
  refine phD W hO aC SC h6 b3 b4 b5 fun bD sD mD nD aD SD b3 b4 b5 b6 => ?_
  refine phE W hO aD SD h6 b3 b4 b5 b6 fun bE sE mE nE aE SE b4 b5 b6 b7 => ?_
  refine phF W hO aE SE h6 b4 b5 b6 b7 fun bF sF mF nF aF SF b4 b5 b6 b7 b8 b9 => ?_
  exact phG W hO aF SF h6 ⟨b4, b5, b6, b7, b8, b9⟩ fun s' m' n' S' => h _ S'.go S'.keep
end
end
-- Top
section
theorem ok_caller : Ok callerA 5 := ⟨rfl, by decide +kernel, by decide +kernel⟩
end
end Mine
theorem PySem.Challenge.cw_tc0037_01_holds : PySem.Challenge.rw_tc0037_01.Holds :=
  Mine.hd (by
  w_strict (k_fill
            intro w s₀ s₁ mg mb G Y fa o pm cd doc dV kV ho hd hcd hD hmg hg args vals as hpre hlay hrd hwl hlo
            have KX := kIn_of Y
            refine Ground.open G ?_
            intro T B D TE TW
            have h246 : mg (Str.ofString "law") = some (.ref 246) := mg_of KX T.g (by k_is)
            have hfa : some (Value.ref fa) = some (.ref 246) := hmg.symm.trans h246
            obtain rfl : fa = 246 := by
              injection hfa with q
              injection q
            wrow_args hpre hlay hrd hwl hlo
            have hI' := ‹IntsAre _ _›
            refine Mine.law_c (A := callerA) ⟨KX, T⟩ Mine.ok_caller (by assumption) hI' (by omega) fun s' g e => ?_
            obtain ⟨hh, tk, rfl⟩ := g
            refine ⟨.inl ⟨.bool true, .bool true, [], rfl, raisesW_false (by wrow_none_raised), .bool true, ?_, ?_⟩, .of_keep e, rfl, .of_eq hg⟩
            · wrow_post
            · exact unshared_nil))
