import PyProof.Rows.All
import Wide.All
import OpenK.AllK
import Wide.FinOn
import Lean
import PySem.Challenge.RW_sx0040_01
set_option Elab.async false

section
open PySem PySem.W PyProof.Rows
set_option Elab.async false
set_option maxRecDepth 100000
set_option maxHeartbeats 8000000
namespace Mine
open_top hd for PySem.Challenge.rw_sx0040_01
end Mine
end

section
theorem Mine.quietFw : True := by
  w_top off
  trivial
open PySem PySem.W PySem.Spec PySem.Calls PyProof.Rows
set_option Elab.async false
set_option maxRecDepth 100000
set_option maxHeartbeats 8000000
namespace Mine
noncomputable abbrev PRG : Program := (OpenRow.toRowW (OpenLaw.row Challenge.rw_sx0040_01)).prog
noncomputable abbrev LO : List Str := looseW Mine.hd.view_39 [Str.ofString "Atomic", Str.ofString "SHORT_STRING", Str.ofString "decode_lazy", Str.ofString "peek"]

/-- the walk halts here -/
def Stay (P : Prop) : Prop := P
/-- all but the addresses of S stays as it was -/
def Kp (S : List Addr) (h h' : Heap) : Prop := ∀ b o, b ∉ S → h.get? b = some o → h'.get? b = some o
theorem Kp.refl {S : List Addr} {h : Heap} : Kp S h h := fun _ _ _ e => e
theorem Kp.trans {S : List Addr} {h₁ h₂ h₃ : Heap} (x : Kp S h₁ h₂) (y : Kp S h₂ h₃) : Kp S h₁ h₃ := fun b o n e => y b o n (x b o n e)
theorem Kp.mono {S T : List Addr} {h h' : Heap} (x : Kp S h h') (st : ∀ b ∈ S, b ∈ T) : Kp T h h' := fun b o n e => x b o (fun q => n (st b q)) e

/-- what a call may change -/
def Cells (h base : Heap) (l : List Env) (cells : List (Addr × Obj)) : Prop :=
  ∀ p ∈ cells, h.get? p.1 = some p.2 ∧ base.get? p.1 = none ∧ p.1 ∉ l.filterMap (·.frame)
theorem Cells.nil {h base : Heap} {l : List Env} : Cells h base l [] := fun _ hp => nomatch hp

/-- where a def is called: no exception at hand, at most so deep -/
abbrev topA (d u : Nat) (l : List Env) : Around := { handled := none, depth := d, frames := some l, guards := some [], units := u }
theorem wk {α : Type} {M : Model} {d u d' u' : Nat} {l : List Env} {t : Sem α} {Q : α → Shared → Prop} {E : Value → Shared → Prop} {s : Shared} (hd : d' ≤ d) (hu : u' ≤ u) (h : wpAny M (topA d u l) t Q E s) : wpAny M (topA d' u' l) t Q E s :=
  fun Γ p hΓ => h Γ p ⟨hΓ.1, Nat.le_trans hΓ.2.1 hd, hΓ.2.2.1, hΓ.2.2.2.1, Nat.le_trans hΓ.2.2.2.2 hu⟩
theorem below_wk {d u d' u' : Nat} {l : List Env} {base h : Heap} (B : Below (topA d u l) base l h) : Below (topA d' u' l) base l h := ⟨rfl, B.stays, B.frames⟩

/-- the ground that stays through the whole call of the law -/
structure Amb (w : World) (mean : ExcName → Option Value) (mg mb : Str → Option Value) (base : Heap) : Prop where
  X : (Mine.hd.heap_39 w.params).In base
  T : Top Mine.hd.view_39 LO mean mg mb base

/-- a frame's map, written out -/
def bmap : List (Str × Value) → Str → Option Value
  | [], _ => none
  | (k, v) :: r, y => if y = k then some v else bmap r y
theorem bmap_lookup : ∀ (b : List (Str × Value)) (y : Str), b.lookup y = bmap b y
  | [], _ => rfl
  | (k, v) :: r, y => by
    rw [List.lookup_cons, bmap]
    by_cases h : y = k
    · subst h; simp
    · have : (y == k) = false := by simpa using h
      rw [this, if_neg h]
      exact bmap_lookup r y

section
variable {w : World} {mean : ExcName → Option Value} {mg mb : Str → Option Value} {base : Heap} {A : Around} {l : List Env} {s : Shared}

theorem below_hide {h : Heap} {cells : List (Addr × Obj)} (B : Below A base l h) (C : Cells h base l cells) : Below A base l (hideAll h (cells.map (·.1))) := by
  refine ⟨B.stack, fun b o e => hideAll_get _ (B.stays b o e) fun q => ?_, funFrames_hideAll B.frames fun env he b hb hf => ?_⟩
  · obtain ⟨p, hp, rfl⟩ := List.mem_map.mp q
    rw [(C p hp).2.1] at e
    cases e
  · obtain ⟨p, hp, rfl⟩ := List.mem_map.mp hb
    exact (C p hp).2.2 (List.mem_filterMap.mpr ⟨env, he, hf⟩)

theorem enter {R : Result → Shared → Prop} {name qual : Str} {params : Arguments} {body : List Stmt} {scope : Scope} {dV kV doc pm cdv ct oc : Value} {an od : Option Addr} {osl : Array (Option Value)} {f : Addr} {args : Args}
    {binds rb : List (Str × Value)} {cells : List (Addr × Obj)}
    (AM : Amb w mean mg mb base) (B : Below A base l s.heap) (C : Cells s.heap base l cells)
    (ho : (Mine.hd.heap_39 w.params).lookup f = some ⟨oc, od, .func (fnOf name qual params body scope dV kV doc pm an cdv ct), osl⟩) (hcd : codeIn (Mine.hd.heap_39 w.params) cdv qual = true) (hroom : A.depth < recursionLimit)
    (hbind : BindsTo s (fnOf name qual params body scope dV kV doc pm an cdv ct) args binds) (hloc : ∀ y ∈ binds, scope.names.lookup y.1 = some .local)
    (hrb : binds.reverse = rb) (hco : scope.isCoroutine = false) (hgen : scope.isGenerator = false) (hk : scope.kind = .function) (hcell : ∀ x ∈ scope.names, x.2 ≠ .cell)
    (h : ∀ g L' h₁, g = hideAll s.heap (cells.map (·.1)) → Fr g L' h₁ (bmap rb) → News g L' h₁ cells → Below A base l g → (Mine.hd.heap_39 w.params).In g → Top Mine.hd.view_39 LO mean mg mb g → (∀ p ∈ cells, p.1 < L') →
      wpAny (model PRG w) (A.deeper (envOf qual scope L' f cdv)) (execs body (envOf qual scope L' f cdv))
        (fun fl s' => R (.ok (.ret (match fl with | .ret v => v | _ => .none))) s')
        (fun e s' => wpAny (model PRG w) (A.deeper (envOf qual scope L' f cdv)) (leaving (envOf qual scope L' f cdv) e) (fun _ s'' => R (.error e) s'') (fun e' s'' => R (.error e') s'') s')
        { s with heap := h₁, toks := s.toks + binds.length }) : codeAny (model PRG w) A (.call (.ref f) args) R s := by
  have X := AM.X.keeps B.stays
  refine codeAny_call_def (fd := fnOf name qual params body scope dV kV doc pm an cdv ct) (body := body) (binds := binds) hroom (X _ _ ho) rfl (AM.T.nolimit.keeps B.stays) (codeRec_of X hcd) rfl hbind hcell hloc (fun h₁ hns hk₁ => ?_) hco hgen hk
  have Bg := below_hide B C
  exact h _ s.heap.objs.size h₁ rfl ⟨by subst hrb; rwa [show bmap binds.reverse = fun x => binds.reverse.lookup x from funext fun x => (bmap_lookup _ x).symm], fun b o e => hk₁ b o (of_hideAll _ e), Nat.le_of_eq (hideAll_size _ _)⟩
    (fun p hp => ⟨hk₁ _ _ (C p hp).1, Nat.ne_of_lt (Heap.lt_size (C p hp).1), hideAll_none _ (List.mem_map_of_mem hp)⟩) Bg (AM.X.keeps Bg.stays) (AM.T.keeps Bg.stays) fun p hp => Heap.lt_size (C p hp).1

/-- the same for a body that raises nothing -/
theorem enterF {Q E : Value → Shared → Prop} {name qual : Str} {params : Arguments} {body : List Stmt} {scope : Scope} {dV kV doc pm cdv ct oc : Value} {an od : Option Addr} {osl : Array (Option Value)} {f : Addr} {pos : List Value} {kw : List (Str × Value)}
    {binds rb : List (Str × Value)} {cells : List (Addr × Obj)}
    (AM : Amb w mean mg mb base) (B : Below A base l s.heap) (C : Cells s.heap base l cells)
    (ho : (Mine.hd.heap_39 w.params).lookup f = some ⟨oc, od, .func (fnOf name qual params body scope dV kV doc pm an cdv ct), osl⟩) (hcd : codeIn (Mine.hd.heap_39 w.params) cdv qual = true) (hroom : A.depth < recursionLimit)
    (hbind : BindsTo s (fnOf name qual params body scope dV kV doc pm an cdv ct) ⟨pos, kw⟩ binds) (hloc : ∀ y ∈ binds, scope.names.lookup y.1 = some .local)
    (hrb : binds.reverse = rb) (hco : scope.isCoroutine = false) (hgen : scope.isGenerator = false) (hk : scope.kind = .function) (hcell : ∀ x ∈ scope.names, x.2 ≠ .cell)
    (h : ∀ g L' h₁, g = hideAll s.heap (cells.map (·.1)) → Fr g L' h₁ (bmap rb) → News g L' h₁ cells → Below A base l g → (Mine.hd.heap_39 w.params).In g → Top Mine.hd.view_39 LO mean mg mb g → (∀ p ∈ cells, p.1 < L') →
      wpAny (model PRG w) (A.deeper (envOf qual scope L' f cdv)) (execs body (envOf qual scope L' f cdv))
        (fun fl s' => Q (match fl with | .ret v => v | _ => .none) s') (fun _ _ => False)
        { s with heap := h₁, toks := s.toks + binds.length }) : wpAny (model PRG w) A (call (.ref f) pos kw) Q E s :=
  wpAny_call (enter AM B C ho hcd hroom hbind hloc hrb hco hgen hk hcell fun g L' h₁ hg F N Bg X T lt => wpAny_mono (h g L' h₁ hg F N Bg X T lt) (fun _ _ x => x) fun _ _ x => x.elim)

theorem enterFC {R : Result → Shared → Prop} {name qual : Str} {params : Arguments} {body : List Stmt} {scope : Scope} {dV kV doc pm cdv ct oc : Value} {an od : Option Addr} {osl : Array (Option Value)} {f : Addr} {pos : List Value} {kw : List (Str × Value)}
    {binds rb : List (Str × Value)} {cells : List (Addr × Obj)}
    (AM : Amb w mean mg mb base) (B : Below A base l s.heap) (C : Cells s.heap base l cells)
    (ho : (Mine.hd.heap_39 w.params).lookup f = some ⟨oc, od, .func (fnOf name qual params body scope dV kV doc pm an cdv ct), osl⟩) (hcd : codeIn (Mine.hd.heap_39 w.params) cdv qual = true) (hroom : A.depth < recursionLimit)
    (hbind : BindsTo s (fnOf name qual params body scope dV kV doc pm an cdv ct) ⟨pos, kw⟩ binds) (hloc : ∀ y ∈ binds, scope.names.lookup y.1 = some .local)
    (hrb : binds.reverse = rb) (hco : scope.isCoroutine = false) (hgen : scope.isGenerator = false) (hk : scope.kind = .function) (hcell : ∀ x ∈ scope.names, x.2 ≠ .cell)
    (h : ∀ g L' h₁, g = hideAll s.heap (cells.map (·.1)) → Fr g L' h₁ (bmap rb) → News g L' h₁ cells → Below A base l g → (Mine.hd.heap_39 w.params).In g → Top Mine.hd.view_39 LO mean mg mb g → (∀ p ∈ cells, p.1 < L') →
      wpAny (model PRG w) (A.deeper (envOf qual scope L' f cdv)) (execs body (envOf qual scope L' f cdv))
        (fun fl s' => R (.ok (.ret (match fl with | .ret v => v | _ => .none))) s') (fun _ _ => False)
        { s with heap := h₁, toks := s.toks + binds.length }) : codeAny (model PRG w) A (.call (.ref f) ⟨pos, kw⟩) R s :=
  enter AM B C ho hcd hroom hbind hloc hrb hco hgen hk hcell fun g L' h₁ hg F N Bg X T lt => wpAny_mono (h g L' h₁ hg F N Bg X T lt) (fun _ _ x => x) fun _ _ x => x.elim
theorem wkC {M : Model} {d u d' u' : Nat} {l : List Env} {c : Code} {R : Result → Shared → Prop} {s : Shared} (hd : d' ≤ d) (hu : u' ≤ u) (h : codeAny M (topA d u l) c R s) : codeAny M (topA d' u' l) c R s :=
  fun Γ p hc hΓ => h Γ p hc ⟨hΓ.1, Nat.le_trans hΓ.2.1 hd, hΓ.2.2.1, hΓ.2.2.2.1, Nat.le_trans hΓ.2.2.2.2 hu⟩

/-- at a call within a body -/
theorem amb_call {g h : Heap} {L : Addr} {m : Str → Option Value} {news cells : List (Addr × Obj)} {env : Env} (B : Below A base l g) (F : Fr g L h m) (N : News g L h news) (sub : ∀ p ∈ cells, p ∈ news)
    (hf : env.frame = some L) (hk : env.scope.kind = .function) : Below (A.deeper env) base (env :: l) h ∧ Cells h base (env :: l) cells := by
  refine ⟨pushX B F hf hk, fun p hp => ?_⟩
  obtain ⟨n1, n2, n3⟩ := N p (sub p hp)
  refine ⟨n1, fresh_of_stays B.stays n3, fun q => ?_⟩
  obtain ⟨e, he, hfe⟩ := List.mem_filterMap.mp q
  rcases List.mem_cons.mp he with rfl | he
  · rw [hf] at hfe; exact n2 (Option.some.inj hfe).symm
  · obtain ⟨_, o, ho, _⟩ := B.frames.mem (List.mem_filterMap.mpr ⟨e, he, hfe⟩)
    rw [n3] at ho; cases ho

theorem after_call {g h h₂ : Heap} {L : Addr} {m : Str → Option Value} {news cells out rest : List (Addr × Obj)} (F : Fr g L h m) (N : News g L h news) (sub : ∀ p ∈ cells, p ∈ news)
    (k : Kp (cells.map (·.1)) h h₂) (ho : ∀ p ∈ out, h₂.get? p.1 = some p.2 ∧ (p.1 ∈ cells.map (·.1) ∨ h.get? p.1 = none)) (hr : ∀ p ∈ rest, p ∈ news ∧ p.1 ∉ cells.map (·.1)) :
    Fr g L h₂ m ∧ News g L h₂ (out ++ rest) := by
  have nL : L ∉ cells.map (·.1) := fun q => by
    obtain ⟨p, hp, e⟩ := List.mem_map.mp q
    exact (N p (sub p hp)).2.1 e
  have ng : ∀ b o, g.get? b = some o → b ∉ cells.map (·.1) := fun b o e q => by
    obtain ⟨p, hp, rfl⟩ := List.mem_map.mp q
    rw [(N p (sub p hp)).2.2] at e; cases e
  obtain ⟨oL, es, ep, hL, r⟩ := F.ns
  refine ⟨⟨⟨oL, es, ep, k L oL nL hL, r⟩, fun b o e => k b o (ng b o e) (F.keep b o e), F.above⟩, fun p hp => ?_⟩
  rcases List.mem_append.mp hp with hp | hp
  · obtain ⟨h1, h2⟩ := ho p hp
    refine ⟨h1, ?_, ?_⟩
    · rintro rfl
      rcases h2 with h2 | h2
      · exact nL h2
      · rw [h2] at hL; cases hL
    · cases q : g.get? p.1 with
      | none => rfl
      | some o =>
        rcases h2 with h2 | h2
        · exact absurd h2 (ng _ _ q)
        · rw [F.keep _ _ q] at h2; cases h2
  · obtain ⟨h1, h2⟩ := hr p hp
    exact ⟨k _ _ h2 (N p h1).1, (N p h1).2⟩

/-- a call that changes nothing of what stands -/
theorem pcall {d u D U : Nat} {g h : Heap} {L : Addr} {m : Str → Option Value} {env : Env} (B : Below (topA d u l) base l g) (F : Fr g L h m) (hf : env.frame = some L) (hk : env.scope.kind = .function) : Below (topA D U (env :: l)) base (env :: l) h :=
  ⟨rfl, (pushX B F hf hk).stays, (pushX B F hf hk).frames⟩
theorem pback {g h h₂ : Heap} {L : Addr} {m : Str → Option Value} {news : List (Addr × Obj)} (F : Fr g L h m) (N : News g L h news) (k : Kp [] h h₂) : Fr g L h₂ m ∧ News g L h₂ news := by
  have := after_call (cells := []) (out := []) (rest := news) F N (fun _ hp => nomatch hp) k (fun _ hp => nomatch hp) fun p hp => ⟨hp, fun q => nomatch q⟩
  exact ⟨this.1, this.2⟩
/-- the same, with new things -/
theorem pbackN {g h h₂ : Heap} {L : Addr} {m : Str → Option Value} {news out : List (Addr × Obj)} (F : Fr g L h m) (N : News g L h news) (k : Kp [] h h₂) (ho : ∀ p ∈ out, h₂.get? p.1 = some p.2 ∧ h.get? p.1 = none) : Fr g L h₂ m ∧ News g L h₂ (out ++ news) ∧ ∀ p ∈ out, ∀ q ∈ news, @Ne Nat q.1 p.1 := by
  have := after_call (cells := []) (out := out) (rest := news) F N (fun _ hp => nomatch hp) k (fun p hp => ⟨(ho p hp).1, .inr (ho p hp).2⟩) fun p hp => ⟨hp, fun q => nomatch q⟩
  refine ⟨this.1, this.2, fun p hp q hq e => ?_⟩
  have := (N q hq).1
  rw [e, (ho p hp).2] at this
  cases this

theorem pback1 {g h h₂ : Heap} {L a : Addr} {o : Obj} {m : Str → Option Value} {news : List (Addr × Obj)} (F : Fr g L h m) (N : News g L h news) (k : Kp [] h h₂) (ho : h₂.get? a = some o) (hf : h.get? a = none) :
    Fr g L h₂ m ∧ News g L h₂ ((a, o) :: news) ∧ ∀ q ∈ news, @Ne Nat q.1 a := by
  have z := pbackN (out := [(a, o)]) F N k fun p hp => by
    obtain rfl := List.mem_singleton.mp hp
    exact ⟨ho, hf⟩
  exact ⟨z.1, z.2.1, fun q hq => z.2.2 _ (.head _) q hq⟩

theorem pbackL {g h h₂ : Heap} {L a : Addr} {o : Obj} {m : Str → Option Value} {news cs : List (Addr × Obj)} (F : Fr g L h m) (N : News g L h news) (k : Kp [] h h₂) (ho : h₂.get? a = some o) (hq : ∀ z ∈ cs, h₂.get? z.1 = some z.2)
    (hf : ∀ z ∈ a :: cs.map (·.1), h.get? z = none) : Fr g L h₂ m ∧ News g L h₂ ((a, o) :: (cs ++ news)) ∧ ∀ p ∈ a :: cs.map (·.1), ∀ q ∈ news, @Ne Nat q.1 p := by
  have z := pbackN (out := (a, o) :: cs) F N k fun p hp => by
    rcases List.mem_cons.mp hp with rfl | hp
    · exact ⟨ho, hf _ (.head _)⟩
    · exact ⟨hq p hp, hf _ (.tail _ (List.mem_map_of_mem hp))⟩
  refine ⟨z.1, z.2.1, fun p hp q hq => ?_⟩
  rcases List.mem_cons.mp hp with rfl | hp
  · exact z.2.2 _ (.head _) q hq
  · obtain ⟨y, hy, rfl⟩ := List.mem_map.mp hp
    exact z.2.2 _ (.tail _ hy) q hq

/-- what a body leaves: all but its cells as it was -/
theorem kp_of {g h h' : Heap} {L : Addr} {m : Str → Option Value} {cells : List (Addr × Obj)} (hg : g = hideAll h (cells.map (·.1))) (F : Fr g L h' m) : Kp (cells.map (·.1)) h h' := fun b o n e =>
  F.keep b o (by rw [hg]; exact hideAll_get _ e n)
theorem fresh_from {g h h' : Heap} {L : Addr} {cells news : List (Addr × Obj)} (hg : g = hideAll h (cells.map (·.1))) (N : News g L h' news) {p : Addr × Obj} (hp : p ∈ news) (hn : p.1 ∉ cells.map (·.1)) : h.get? p.1 = none := by
  cases q : h.get? p.1 with
  | none => rfl
  | some o =>
    have := (N p hp).2.2
    rw [hg, hideAll_get _ q hn] at this; cases this
end

section
variable {prog : Program} {w : World} {A : Around} {E : Value → Shared → Prop} {s : Shared} {env : Env} {test : PySem.Expr} {body orelse : List Stmt} {Q : Flow → Shared → Prop} {pos : Pos}
/-- a while by any word on the whole state and a measure -/
theorem whl_inv (I : Nat → Shared → Prop) (hE : PassesOwn (model prog w) A env E)
    (turn : ∀ k s, I k s → wpAny (model prog w) A (isTrue test env (eval test env)) (fun b s₂ => if b = true then
      (wpAny (model prog w) A (execs body env) (fun f s₃ => match f with | .next => Stay (∃ k', k' < k ∧ I k' s₃) | .cont => Stay (∃ k', k' < k ∧ I k' s₃) | .brk => Q .next s₃ | .ret v => Q (.ret v) s₃) E s₂)
      else (wpAny (model prog w) A (execs orelse env) Q E s₂)) E s) {k : Nat} (h : I k s) : wpAny (model prog w) A (exec (.While test body orelse pos) env) Q E s := by
  have all : ∀ k s, I k s → WhlRest prog w A E env test body orelse Q 0 s := by
    intro k
    induction k using Nat.strongRecOn with
    | ind k ih =>
      intro s hs
      have z : WhlRest prog w A E env test body orelse Q 1 s := whl_turn hE (wpAny_mono (turn k s hs) (fun b s₂ hb => by
        cases b with
        | false => exact .no rfl (by rwa [if_neg Bool.false_ne_true] at hb)
        | true =>
          rw [if_pos rfl] at hb
          refine .yes rfl (wpAny_mono hb (fun f s₃ hf => ?_) fun _ _ x => x)
          cases f with
          | next => obtain ⟨k', hk, hI⟩ := hf; exact ih k' hk s₃ hI
          | cont => obtain ⟨k', hk, hI⟩ := hf; exact ih k' hk s₃ hI
          | brk => exact hf
          | ret v => exact hf) fun _ _ x => x)
      exact z
  exact whl_start 0 (all k s h)
end
theorem Fr.congr {g h : Heap} {L : Addr} {m m' : Str → Option Value} (F : Fr g L h m) (e : ∀ x, m x = m' x) : Fr g L h m' := by
  rwa [show m' = m from funext fun x => (e x).symm]
theorem Fr.put {g h : Heap} {L : Addr} {m : Str → Option Value} {k : Str} {v : Value} (F : Fr g L h m) (e : m k = some v) : Fr g L h (fun y => if y = k then some v else m y) :=
  Fr.congr F fun x => by
    by_cases q : x = k
    · subst q; rw [if_pos rfl, e]
    · rw [if_neg q]
theorem Fr.put2 {g h : Heap} {L : Addr} {m : Str → Option Value} {k k' : Str} {v v' : Value} (F : Fr g L h m) (e : m k = some v) (e' : m k' = some v') : Fr g L h (fun y => if y = k then some v else if y = k' then some v' else m y) :=
  Fr.congr F fun x => by
    by_cases q : x = k
    · subst q; rw [if_pos rfl, e]
    · rw [if_neg q]
      by_cases q : x = k'
      · subst q; rw [if_pos rfl, e']
      · rw [if_neg q]
end Mine
end

section
theorem Mine.quietPure : True := by
  w_top off
  trivial
set_option Elab.async false
namespace Mine
/-- the octets of a number, the high one first -/
def digs (n : Nat) : List UInt8 := if n = 0 then [] else digs (n / 256) ++ [UInt8.ofNat (n % 256)]
termination_by n
decreasing_by omega
theorem digs_zero : digs 0 = [] := by rw [digs]; rfl
theorem digs_pos {n : Nat} (h : n ≠ 0) : digs n = digs (n / 256) ++ [UInt8.ofNat (n % 256)] := by rw [digs, if_neg h]
def ben (b : List UInt8) : Int := List.foldl (fun (a k : Int) => a * 256 + k) 0 (b.map fun c => ((c.toNat : Nat) : Int))
theorem ben_nil : ben [] = 0 := rfl
theorem ben_snoc (b : List UInt8) (x : UInt8) : ben (b ++ [x]) = ben b * 256 + (x.toNat : Int) := by
  unfold ben; rw [List.map_append, List.foldl_append]; rfl
theorem ben_digs (n : Nat) : ben (digs n) = (n : Int) := by
  induction n using Nat.strongRecOn with
  | ind n ih =>
    by_cases h : n = 0
    · subst h; rw [digs_zero]; rfl
    · rw [digs_pos h, ben_snoc, ih (n / 256) (by omega)]
      have : (UInt8.ofNat (n % 256)).toNat = n % 256 := by
        rw [UInt8.toNat_ofNat']; omega
      rw [this]; omega
theorem digs_len1 {n : Nat} (h0 : n ≠ 0) (h : n < 256) : (digs n).length = 1 := by
  rw [digs_pos h0, List.length_append, show n / 256 = 0 from by omega, digs_zero]; rfl
theorem digs_len2 {n : Nat} (h0 : 256 ≤ n) (h : n < 65536) : (digs n).length = 2 := by
  rw [digs_pos (by omega), List.length_append, digs_len1 (by omega) (by omega)]; rfl
theorem digs_len {n : Nat} (h : n < 65536) : (digs n).length ≤ 2 := by
  by_cases h0 : n = 0
  · subst h0; rw [digs_zero]; decide
  · by_cases h1 : n < 256
    · rw [digs_len1 h0 h1]; decide
    · rw [digs_len2 (by omega) h]; decide
theorem digs_len_pos {n : Nat} (h : n ≠ 0) : 1 ≤ (digs n).length := by
  rw [digs_pos h, List.length_append, List.length_singleton]; omega
theorem digs_head {n : Nat} (h : n ≠ 0) : ∃ d r, digs n = d :: r ∧ d ≠ 0 := by
  induction n using Nat.strongRecOn with
  | ind n ih =>
    by_cases h1 : n / 256 = 0
    · refine ⟨UInt8.ofNat (n % 256), [], by rw [digs_pos h, h1, digs_zero]; rfl, fun e => ?_⟩
      have := congrArg UInt8.toNat e
      rw [UInt8.toNat_ofNat'] at this
      have z : (0 : UInt8).toNat = 0 := rfl
      rw [z] at this; omega
    · obtain ⟨d, r, e, hd⟩ := ih (n / 256) (by omega) h1
      exact ⟨d, r ++ [UInt8.ofNat (n % 256)], by rw [digs_pos h, e]; rfl, hd⟩

/-- what a row of octets is laid out from -/
inductive Tr where
  | leaf (b : List UInt8)
  | num (n : Nat)
  | node (ts : List Tr)
def single : List UInt8 → Bool
  | [x] => x.toNat < 128
  | _ => false
def hdr (base len : Nat) : List UInt8 := if len < 56 then [UInt8.ofNat (base + len)] else UInt8.ofNat (base + 55 + (digs len).length) :: digs len
def encB (b : List UInt8) : List UInt8 := if single b then b else hdr 128 b.length ++ b
mutual
def Tr.enc : Tr → List UInt8
  | .leaf b => encB b
  | .num n => encB (digs n)
  | .node ts => hdr 192 (encs ts).length ++ encs ts
def encs : List Tr → List UInt8
  | [] => []
  | t :: ts => t.enc ++ encs ts
end
def Tr.body : Tr → List UInt8
  | .leaf b => b
  | .num n => digs n
  | .node ts => encs ts
def Tr.isB : Tr → Bool
  | .node _ => false
  | _ => true
def Tr.base : Tr → Nat
  | .node _ => 192
  | _ => 128
def Tr.hd (t : Tr) : List UInt8 := if t.isB && single t.body then [] else hdr t.base t.body.length
theorem Tr.enc_eq (t : Tr) : t.enc = t.hd ++ t.body := by
  cases t with
  | leaf b =>
    rw [Tr.enc]; unfold encB Tr.hd
    cases h : single b <;> simp [Tr.isB, Tr.body, Tr.base, h]
  | num n =>
    rw [Tr.enc]; unfold encB Tr.hd
    cases h : single (digs n) <;> simp [Tr.isB, Tr.body, Tr.base, h]
  | node ts => rw [Tr.enc]; rfl
theorem encs_append (a b : List Tr) : encs (a ++ b) = encs a ++ encs b := by
  induction a with
  | nil => rw [List.nil_append, encs]; rfl
  | cons t a ih => rw [List.cons_append, encs, encs, ih, List.append_assoc]
theorem encs_cons (t : Tr) (b : List Tr) : encs (t :: b) = t.enc ++ encs b := by rw [encs]
theorem encs_nil : encs [] = [] := by rw [encs]
theorem hdr_len (base len : Nat) : 1 ≤ (hdr base len).length := by
  unfold hdr; split <;> simp
theorem Tr.enc_pos (t : Tr) : 1 ≤ t.enc.length := by
  rw [t.enc_eq]; unfold Tr.hd
  split
  · rename_i h
    simp only [Bool.and_eq_true] at h
    obtain ⟨_, h⟩ := h
    revert h
    generalize t.body = b
    rw [List.nil_append]
    match b with
    | [] => intro h; exact absurd h (by decide)
    | x :: _ => intro _; simp
  · rw [List.length_append]; have := hdr_len t.base t.body.length; omega
end Mine
end

section
theorem Mine.quietPure2 : True := by
  w_top off
  trivial
namespace Mine
theorem u8 {n : Nat} (h : n < 256) : (UInt8.ofNat n).toNat = n := by
  rw [UInt8.toNat_ofNat']; omega
/-- the five ways an item's octets begin -/
theorem Tr.lay (t : Tr) (hL : t.body.length < 65536) :
    (t.isB = true ∧ t.hd = [] ∧ ∃ x, t.body = [x] ∧ x.toNat < 128) ∨
    (t.isB = true ∧ t.body.length < 56 ∧ (∃ x, t.hd = [x] ∧ x.toNat = 128 + t.body.length) ∧ (t.body.length = 1 → ∃ y, t.body = [y] ∧ 128 ≤ y.toNat)) ∨
    (t.isB = true ∧ 56 ≤ t.body.length ∧ ∃ x, t.hd = x :: digs t.body.length ∧ x.toNat = 183 + (digs t.body.length).length) ∨
    (t.isB = false ∧ t.body.length < 56 ∧ ∃ x, t.hd = [x] ∧ x.toNat = 192 + t.body.length) ∨
    (t.isB = false ∧ 56 ≤ t.body.length ∧ ∃ x, t.hd = x :: digs t.body.length ∧ x.toNat = 247 + (digs t.body.length).length) := by
  have hd2 := digs_len hL
  cases hB : t.isB with
  | false =>
    have hb : t.base = 192 := by cases t <;> simp_all [Tr.isB, Tr.base]
    have e : t.hd = hdr 192 t.body.length := by unfold Tr.hd; rw [hB, hb]; rfl
    right; right; right
    by_cases h : t.body.length < 56
    · exact .inl ⟨rfl, h, _, by rw [e]; unfold hdr; rw [if_pos h], u8 (by omega)⟩
    · exact .inr ⟨rfl, by omega, _, by rw [e]; unfold hdr; rw [if_neg h], u8 (by omega)⟩
  | true =>
    have hb : t.base = 128 := by cases t <;> simp_all [Tr.isB, Tr.base]
    cases hs : single t.body with
    | true =>
      left
      refine ⟨rfl, by unfold Tr.hd; rw [hB, hs]; rfl, ?_⟩
      revert hs
      generalize t.body = b
      match b with
      | [] => intro h; exact absurd h (by decide)
      | [x] => intro h; exact ⟨x, rfl, by simpa [single] using h⟩
      | _ :: _ :: _ => intro h; exact absurd h (by simp [single])
    | false =>
      have e : t.hd = hdr 128 t.body.length := by unfold Tr.hd; rw [hB, hb, hs]; rfl
      right
      by_cases h : t.body.length < 56
      · refine .inl ⟨rfl, h, ⟨_, by rw [e]; unfold hdr; rw [if_pos h], u8 (by omega)⟩, fun h1 => ?_⟩
        revert hs h1
        generalize t.body = b
        match b with
        | [] => intro _ h; exact absurd h (by decide)
        | [x] => intro h _; exact ⟨x, rfl, by simpa [single] using h⟩
        | _ :: _ :: _ => intro _ h; exact absurd h (by simp)
      · exact .inr (.inl ⟨rfl, by omega, _, by rw [e]; unfold hdr; rw [if_neg h], u8 (by omega)⟩)
end Mine
end

section
theorem Mine.quietRules : True := by
  w_top off
  trivial
open PySem PySem.W PySem.Spec PySem.Calls PyProof.Rows
set_option Elab.async false
set_option maxRecDepth 100000
set_option maxHeartbeats 8000000
namespace Mine
theorem cut_eq (c : List UInt8) (p q : Nat) : (c.drop (min p c.length)).take (min q c.length - min p c.length) = (c.drop p).take (q - p) := by
  by_cases h : p ≤ c.length
  · rw [Nat.min_eq_left h]
    by_cases h2 : q ≤ c.length
    · rw [Nat.min_eq_left h2]
    · rw [Nat.min_eq_right (by omega), List.take_of_length_le (by simp), List.take_of_length_le (by rw [List.length_drop]; omega)]
  · rw [show min p c.length = c.length from Nat.min_eq_right (by omega), List.drop_eq_nil_of_le (Nat.le_refl _), List.drop_eq_nil_of_le (by omega : c.length ≤ p)]
    simp
section
variable {prog : Program} {w : World} {A : Around} {E : Value → Shared → Prop} {s : Shared} {value slice : PySem.Expr} {c : List UInt8} {t : Tok} {g : Heap} {L : Addr} {m : PySem.Str → Option Value} {news : List (Addr × Obj)} {Q : Value → Shared → Prop} {i j : Int} {ti tj : Tok}
/-- octets cut at two places -/
theorem cut_bytes {r : List UInt8} (F : Fr g L s.heap m) (N : News g L s.heap news) (hi : 0 ≤ i) (hj : 0 ≤ j) (hz : c.length ≤ 16777216) (er : (c.drop i.toNat).take (j.toNat - i.toNat) = r)
    (h : ∀ h' t' k, Fr g L h' m → News g L h' news → Q (.bytes r.toArray t') { s with heap := h', toks := k })
    (hs : subscripted slice false (.bytes c.toArray t) (.ref s.heap.objs.size) = operate [.ref s.heap.objs.size, .bytes c.toArray t] (getItem (.bytes c.toArray t) (.ref s.heap.objs.size)) := by with_unfolding_all rfl)
    (ht : ∀ r, letTemporaryGo value (.bytes c.toArray t) r = pure () := by intro _; with_unfolding_all rfl) :
    wpAny (model prog w) A (subscriptTail value slice (.bytes c.toArray t) (.ref s.heap.objs.size)) Q E { s with heap := s.heap.push { cls := .type "slice", data := .fields #[.int i ti, .int j tj, .none] } } := by
  refine KBc.slice_K F N rfl (.int i ti) (.int j tj) (by rw [KBw.ints_length]; simpa using hz) (fun h' t' k F' N' _ => ?_) hs ht
  have e : KBy.picked c.toArray (some i) (some j) = r.toArray := by
    rw [KBc.picked_eq]
    show List.toArray _ = _
    congr 1
    simp only [Option.elim, List.size_toArray]
    rw [show i = ((i.toNat : Nat) : Int) from (Int.toNat_of_nonneg hi).symm, show j = ((j.toNat : Nat) : Int) from (Int.toNat_of_nonneg hj).symm, clipAt_nat, clipAt_nat, ← er]
    exact cut_eq c i.toNat j.toNat
  rw [e]
  exact h h' t' k F' N'
end
end Mine
end

section
theorem Mine.quietRow : True := by
  w_top off
  trivial
open PySem PySem.W PySem.Spec PySem.Calls PyProof.Rows
set_option Elab.async false
set_option maxRecDepth 100000
set_option maxHeartbeats 8000000
namespace Mine
abbrev ent (P : Params) (n : String) (t : Tok) (v : Value) : DictEntry := ⟨PyData.keyHash P (Str.ofString n), .str (Str.ofString n) t, v⟩
/-- a lazy row, as it stands -/
structure Row where
  x : Addr
  d : Addr
  el : Addr
  kw : Addr
  τ : Nat → Tok
  c : List UInt8
  kids : List Tr
  p : Nat
  els : List Value
  eln : Nat
  sed : Option Addr
  len : Bool
def Row.ix (r : Row) : Nat := r.p + (encs (r.kids.take r.els.length)).length
def Row.en (r : Row) : Nat := r.p + (encs r.kids).length
def Row.lenV (r : Row) : Value := if r.len then .int (r.kids.length : Int) (r.τ 12) else .none
def Row.sedV (r : Row) : Value := match r.sed with | none => .none | some b => .ref b
abbrev rowD (P : Params) (τ : Nat → Tok) (c : List UInt8) (p en ix : Int) (el : Addr) (len sed : Value) (kw : Addr) : Obj :=
  dictOf [ent P "rlp" (τ 0) (.bytes c.toArray (τ 8)), ent P "start" (τ 1) (.int p (τ 9)), ent P "end" (τ 2) (.int en (τ 10)), ent P "index" (τ 3) (.int ix (τ 11)),
    ent P "_elements" (τ 4) (.ref el), ent P "_len" (τ 5) len, ent P "sedes" (τ 6) sed, ent P "sedes_kwargs" (τ 7) (.ref kw)] 8
def Row.dict (P : Params) (r : Row) : Obj := rowD P r.τ r.c (r.p : Int) (r.en : Int) (r.ix : Int) r.el r.lenV r.sedV r.kw
def Row.cells (P : Params) (r : Row) : List (Addr × Obj) := [(r.x, instObj 152 r.d), (r.d, r.dict P), (r.el, W.listOf r.els.toArray r.eln)]
/-- what a kid is read as -/
def Elm : Tr → Value → Prop
  | .leaf b, v => ∃ t, v = .bytes b.toArray t
  | .num n, v => ∃ t, v = .int (n : Int) t
  | .node _, v => ∃ a, v = .ref a
structure Row.Ok (r : Row) : Prop where
  lay : ∃ pre post, r.c = pre ++ (encs r.kids ++ post) ∧ pre.length = r.p
  small : r.c.length < 65536
  le : r.els.length ≤ r.kids.length
  whole : r.len = true → r.els.length = r.kids.length
theorem Row.Ok.at {r : Row} (o : r.Ok) {t : Tr} (h : r.kids[r.els.length]? = some t) : ∃ pre post, r.c = pre ++ (t.enc ++ post) ∧ pre.length = r.ix := by
  obtain ⟨pre, post, e, hp⟩ := o.lay
  have hlt : r.els.length < r.kids.length := by
    rcases Nat.lt_or_ge r.els.length r.kids.length with q | q
    · exact q
    · rw [List.getElem?_eq_none q] at h; cases h
  have hk : r.kids = r.kids.take r.els.length ++ (t :: r.kids.drop (r.els.length + 1)) := by
    have := List.take_append_drop r.els.length r.kids
    rw [List.drop_eq_getElem_cons hlt] at this
    rw [List.getElem?_eq_getElem hlt] at h
    rw [Option.some.inj h] at this
    exact this.symm
  refine ⟨pre ++ encs (r.kids.take r.els.length), encs (r.kids.drop (r.els.length + 1)) ++ post, ?_, ?_⟩
  · have e2 : encs r.kids = encs (r.kids.take r.els.length) ++ (t.enc ++ encs (r.kids.drop (r.els.length + 1))) := by
      conv => lhs; rw [hk]
      rw [encs_append, encs_cons]
    rw [e, e2]; simp only [List.append_assoc]
  · rw [List.length_append, hp]; rfl
theorem Row.ix_next (r : Row) {t : Tr} {v : Value} (h : r.kids[r.els.length]? = some t) : ({ r with els := r.els ++ [v] } : Row).ix = r.ix + t.enc.length := by
  have hlt : r.els.length < r.kids.length := by
    rcases Nat.lt_or_ge r.els.length r.kids.length with q | q
    · exact q
    · rw [List.getElem?_eq_none q] at h; cases h
  unfold Row.ix
  show r.p + (encs (r.kids.take (r.els ++ [v]).length)).length = _
  rw [List.length_append, List.length_singleton, List.take_add_one, h]
  show r.p + (encs (r.kids.take r.els.length ++ [t])).length = _
  rw [encs_append, encs_cons, encs_nil, List.append_nil, List.length_append]
  omega
theorem Row.ix_end (r : Row) (h : r.els.length = r.kids.length) : r.ix = r.en := by
  unfold Row.ix Row.en; rw [h, List.take_length]
theorem Row.ix_lt (r : Row) {t : Tr} (h : r.kids[r.els.length]? = some t) : r.ix < r.en := by
  have hlt : r.els.length < r.kids.length := by
    rcases Nat.lt_or_ge r.els.length r.kids.length with q | q
    · exact q
    · rw [List.getElem?_eq_none q] at h; cases h
  unfold Row.ix Row.en
  have : r.kids = r.kids.take r.els.length ++ (t :: r.kids.drop (r.els.length + 1)) := by
    have := List.take_append_drop r.els.length r.kids
    rw [List.drop_eq_getElem_cons hlt] at this
    rw [List.getElem?_eq_getElem hlt] at h
    rw [Option.some.inj h] at this
    exact this.symm
  have e2 : (encs r.kids).length = (encs (r.kids.take r.els.length)).length + (t.enc.length + (encs (r.kids.drop (r.els.length + 1))).length) := by
    conv => lhs; rw [this]
    rw [encs_append, encs_cons, List.length_append, List.length_append]
  have := t.enc_pos
  omega
theorem encs_len (ts : List Tr) : ts.length ≤ (encs ts).length := by
  induction ts with
  | nil => exact Nat.zero_le _
  | cons t ts ih => rw [encs_cons, List.length_append, List.length_cons]; have := t.enc_pos; omega
theorem Row.Ok.els {r : Row} (o : r.Ok) : r.els.length < 65536 ∧ r.kids.length < 65536 := by
  obtain ⟨pre, post, e, _⟩ := o.lay
  have h1 := congrArg List.length e
  simp only [List.length_append] at h1
  have h2 := encs_len r.kids
  have h3 := o.small
  have h4 := o.le
  omega
theorem row_new {P : Params} {h : Heap} {x d el kw : Addr} {c : List UInt8} {ts : List Tr} {p : Nat} {en ix : Int} {a0 a1 a2 a3 a4 a5 a6 a7 a8 a9 a10 a11 : Tok}
    (k4 : h.get? x = some (instObj 152 d)) (k5 : h.get? d = some (dictOf [ent P "rlp" a0 (.bytes c.toArray a8), ent P "start" a1 (.int (p : Int) a9), ent P "end" a2 (.int en a10), ent P "index" a3 (.int ix a11),
      ent P "_elements" a4 (.ref el), ent P "_len" a5 .none, ent P "sedes" a6 .none, ent P "sedes_kwargs" a7 (.ref kw)] 8)) (k2 : h.get? el = some (W.listOf #[] 0)) (he : en = ((p + (encs ts).length : Nat) : Int)) (hi : ix = ((p : Nat) : Int)) :
    ∃ q : Row, (∀ z ∈ q.cells P, h.get? z.1 = some z.2) ∧ q.x = x ∧ q.d = d ∧ q.el = el ∧ q.kw = kw ∧ q.c = c ∧ q.kids = ts ∧ q.p = p ∧ q.els = [] ∧ q.len = false ∧ q.sed = none := by
  subst he hi
  refine ⟨⟨x, d, el, kw, fun i => match i with | 0 => a0 | 1 => a1 | 2 => a2 | 3 => a3 | 4 => a4 | 5 => a5 | 6 => a6 | 7 => a7 | 8 => a8 | 9 => a9 | 10 => a10 | 11 => a11 | _ => 0, c, ts, p, [], 0, none, false⟩, ?_, rfl, rfl, rfl, rfl, rfl, rfl, rfl, rfl, rfl, rfl⟩
  intro z hz
  simp only [Row.cells, List.mem_cons, List.not_mem_nil, or_false] at hz
  rcases hz with rfl | rfl | rfl
  · exact k4
  · rw [k5]
    simp only [Row.dict, Row.ix, Row.en, Row.lenV, Row.sedV, rowD, List.length_nil, List.take_zero, encs_nil, Nat.add_zero, Bool.false_eq_true, if_false]
  · exact k2
theorem row_keep {P : Params} {h : Heap} {r : Row} {els : List Value} {n : Nat} {len : Bool} {lenV sedV : Value} {its : Array Value} {p en ix : Int} {a0 a1 a2 a3 a4 a5 a6 a7 a8 a9 a10 a11 a12 : Tok}
    (k4 : h.get? r.x = some (instObj 152 r.d)) (k5 : h.get? r.d = some (dictOf [ent P "rlp" a0 (.bytes r.c.toArray a8), ent P "start" a1 (.int p a9), ent P "end" a2 (.int en a10), ent P "index" a3 (.int ix a11),
      ent P "_elements" a4 (.ref r.el), ent P "_len" a5 lenV, ent P "sedes" a6 sedV, ent P "sedes_kwargs" a7 (.ref r.kw)] 8)) (k2 : h.get? r.el = some (W.listOf its n)) (hi : its = els.toArray)
    (hp : p = ((r.p : Nat) : Int)) (he : en = ((r.en : Nat) : Int)) (hx : ix = ((({ r with els := els } : Row).ix : Nat) : Int)) (hl : lenV = if len then .int (r.kids.length : Int) a12 else .none) (hs : sedV = r.sedV) :
    ∃ τ', ∀ z ∈ ({ r with els := els, eln := n, τ := τ', len := len } : Row).cells P, h.get? z.1 = some z.2 := by
  subst hi hp he hx hl hs
  refine ⟨fun i => match i with | 0 => a0 | 1 => a1 | 2 => a2 | 3 => a3 | 4 => a4 | 5 => a5 | 6 => a6 | 7 => a7 | 8 => a8 | 9 => a9 | 10 => a10 | 11 => a11 | 12 => a12 | _ => 0, ?_⟩
  intro z hz
  simp only [Row.cells, List.mem_cons, List.not_mem_nil, or_false] at hz
  rcases hz with rfl | rfl | rfl
  · exact k4
  · exact k5
  · exact k2
theorem pbackQ {P : Params} {g h h₂ : Heap} {L a : Addr} {o : Obj} {m : Str → Option Value} {news : List (Addr × Obj)} {q : Row} (F : Fr g L h m) (N : News g L h news) (k : Kp [] h h₂) (ho : h₂.get? a = some o) (hq : ∀ z ∈ q.cells P, h₂.get? z.1 = some z.2)
    (hf : ∀ z ∈ [a, q.x, q.d, q.el, q.kw], h.get? z = none) : Fr g L h₂ m ∧ News g L h₂ ((a, o) :: (q.x, instObj 152 q.d) :: (q.d, q.dict P) :: (q.el, W.listOf q.els.toArray q.eln) :: news) ∧
      ∀ z ∈ news, @Ne Nat z.1 a ∧ @Ne Nat z.1 q.x ∧ @Ne Nat z.1 q.d ∧ @Ne Nat z.1 q.el := by
  have z := pbackL (cs := q.cells P) F N k ho hq fun z hz => hf z (by
    simp only [Row.cells, List.map_cons, List.map_nil, List.mem_cons, List.not_mem_nil, or_false] at hz
    rcases hz with rfl | rfl | rfl | rfl <;> simp)
  refine ⟨z.1, z.2.1, fun y hy => ⟨z.2.2 _ (.head _) y hy, z.2.2 _ (.tail _ (.head _)) y hy, z.2.2 _ (.tail _ (.tail _ (.head _))) y hy, z.2.2 _ (.tail _ (.tail _ (.tail _ (.head _)))) y hy⟩⟩
end Mine
end

section
theorem Mine.quietBe : True := by
  w_top off
  trivial
open PySem PySem.W PySem.Spec PySem.Calls PyProof.Rows
set_option Elab.async false
set_option maxRecDepth 100000
set_option maxHeartbeats 8000000
namespace Mine
theorem filled0 (w : World) (h : Heap) (X : (Mine.hd.heap_39 w.params).In h) : Challenge.rw_sx0040_01 = Challenge.rw_sx0040_01 := by
  revert X; k_fill; intro _; rfl
local macro_rules | `(tactic| tb_start) => `(tactic| repeat' ((fail_if_success (with_reducible show wpAny _ _ (exec (Stmt.While _ _ _ _) _) _ _ _)); (fail_if_success (with_reducible show wpAny _ _ (exec (Stmt.For _ _ _ _ _) _) _ _ _)); (fail_if_success (with_reducible show wpAny _ _ (pyIter _) _ _ _)); first | (k_unfold; (try dsimp only)) | (k_end; wrow_close) | walk1 | (dsimp only; walk1) | (leave1; walk_say "STEP leave1"; try dsimp only) | fail "no step"))
local macro_rules | `(tactic| walk_at "binaryOp Add bytes bytes") => `(tactic| (k_here; (with_reducible show wpAny _ _ (binaryOp Operator.Add (Value.bytes (List.toArray _) _) (Value.bytes (List.toArray _) _)) _ _ _); (refine bytes_add_K (by simp only [List.size_toArray, List.length_append, List.length_cons, List.length_nil]; omega) rfl ?_); intro _ _))
local macro_rules | `(tactic| walk_at "subscriptTail") => `(tactic| (k_here; (with_reducible show wpAny _ _ (subscriptTail _ _ (Value.bytes (List.toArray _) _) (Value.int _ _)) _ _ _); k_dflt (refine' bytes_item_K ?f ?a ?b ?e ?_; (case f => omega); (case a => omega); (case b => omega); (case e => assumption); k_whole)))
local macro_rules | `(tactic| walk_at "subscriptTail") => `(tactic| (k_here; (with_reducible show wpAny _ _ (subscriptTail _ (Expr.Slice _ _ none _) (Value.bytes (List.toArray _) _) (Value.ref _)) _ _ _); (with_reducible rename Fr _ _ _ _ => F'); (with_reducible rename News _ _ _ _ => N'); (refine cut_bytes (s := ⟨_, _, _, _, _⟩) F' N' (by omega) (by omega) (by omega) (by first | assumption | exact rfl) ?_); intro _ _ _ _ _))
theorem be_spec {w : World} {mean : ExcName → Option Value} {mg mb : Str → Option Value} {base : Heap} {l : List Env} {s : Shared} {Q E : Value → Shared → Prop} {b : List UInt8} {tk : Tok}
  (AM : Amb w mean mg mb base) (B : Below (topA 700 3000 l) base l s.heap) (h1 : b.length ≤ 8)
  (ret : ∀ t h' tk', Kp [] s.heap h' → Q (.int (ben b) t) {s with heap := h', toks := tk'}) :
  wpAny (model PRG w) (topA 700 3000 l) (call (.ref 29) [.bytes b.toArray tk]) Q E s := by
  k_dflt (refine' enterF (rb := [(Str.ofString "value", .bytes b.toArray tk)]) AM B Cells.nil ?k6 ?k7 ?k8 ?k9 ?kL ?cr ?c2 ?c3 ?c4 ?c5 ?_; (case k6 => k_is); (case k7 => k_is); (case k8 => first | exact Nat.lt_of_sub_eq_succ rfl | exact hdep); (case k9 => first | exact BindsTo.of_eq rfl | exact kp_binds (AM.X.keeps B.stays) (fun _ => rfl)); (case kL => exact locs rfl); (case cr => exact rfl); (case c2 => exact rfl); (case c3 => exact rfl); (case c4 => exact rfl); (case c5 => decide); k_whole)
  intro g L' h' hg F N B' X' T' lt
  dsimp only [bmap] at F ⊢
  try k_fold
  tb_start
  rename Fr _ _ _ _ => F₁
  exact ret _ _ _ (kp_of (cells := []) hg F₁)
theorem digits_spec {w : World} {mean : ExcName → Option Value} {mg mb : Str → Option Value} {base : Heap} {l : List Env} {s : Shared} {Q E : Value → Shared → Prop} {n : Nat} {tk : Tok}
  (AM : Amb w mean mg mb base) (B : Below (topA 700 3000 l) base l s.heap) (h1 : n < 65536)
  (ret : ∀ t h' tk', Kp [] s.heap h' → Q (.bytes (digs n).toArray t) {s with heap := h', toks := tk'}) :
  wpAny (model PRG w) (topA 700 3000 l) (call (.ref 219) [.int (n : Int) tk]) Q E s := by
  k_dflt (refine' enterF (rb := [(Str.ofString "n", .int (n : Int) tk)]) AM B Cells.nil ?k6 ?k7 ?k8 ?k9 ?kL ?cr ?c2 ?c3 ?c4 ?c5 ?_; (case k6 => k_is); (case k7 => k_is); (case k8 => first | exact Nat.lt_of_sub_eq_succ rfl | exact hdep); (case k9 => first | exact BindsTo.of_eq rfl | exact kp_binds (AM.X.keeps B.stays) (fun _ => rfl)); (case kL => exact locs rfl); (case cr => exact rfl); (case c2 => exact rfl); (case c3 => exact rfl); (case c4 => exact rfl); (case c5 => decide); k_whole)
  intro g L' h' hg F N B' X' T' lt
  dsimp only [bmap] at F ⊢
  try k_fold
  tb_start
  rename Fr _ _ _ _ => F₁
  rename News _ _ _ _ => N₁
  refine whl_inv (fun k s₂ => ∃ (h₂ : Heap) (tk₂ : Nat) (m₂ : Str → Option Value) (b : List UInt8) (t1 t2 : Tok), s₂ = {s with heap := h₂, toks := tk₂} ∧ Fr g L' h₂ m₂ ∧ m₂ (Str.ofString "found") = some (.bytes b.toArray t1) ∧ m₂ (Str.ofString "n") = some (.int (k : Int) t2) ∧ k < 65536 ∧ (b.length = 0 ∨ (b.length = 1 ∧ k < 256) ∨ (b.length = 2 ∧ k = 0)) ∧ digs n = digs k ++ b) PassesOwn.never ?_ (k := n) ⟨_, _, _, [], _, _, rfl, F₁, rfl, rfl, h1, .inl rfl, by simp⟩
  rintro k s₂ ⟨h₂, tk₂, m₂, b, t1, t2, rfl, F, hfo, hn, hc, hb, hdg⟩
  clear F₁ N₁
  have N : News g L' h₂ [] := News.nil
  replace F := Fr.put2 F hn hfo
  tb_start
  · rename Fr _ _ _ _ => F₁
    have e1 : ((k : Int).fdiv 256) = ((k / 256 : Nat) : Int) := by
      rw [Int.fdiv_eq_ediv_of_nonneg _ (by omega)]; omega
    have e2 : ((k : Int).fmod 256).toNat.toUInt8 = UInt8.ofNat (k % 256) := by
      rw [Int.fmod_eq_emod_of_nonneg _ (by omega), show ((k : Int) % 256).toNat = k % 256 from by omega]
    rw [e1, e2] at F₁
    refine ⟨k / 256, by omega, _, _, _, UInt8.ofNat (k % 256) :: b, _, _, rfl, F₁, rfl, rfl, by omega, ?_, ?_⟩
    · simp only [List.length_cons]; omega
    · rw [hdg, digs_pos (by omega), List.append_assoc]; rfl
  · have k0 : k = 0 := by omega
    subst k0
    rw [digs_zero, List.nil_append] at hdg
    subst hdg
    exact ret _ _ _ (kp_of (cells := []) hg F)
end Mine
end

section
theorem Mine.quietClp : True := by
  w_top off
  trivial
open PySem PySem.W PySem.Spec PySem.Calls PyProof.Rows
set_option Elab.async false
set_option maxRecDepth 100000
set_option maxHeartbeats 8000000
namespace Mine
theorem filled1 (w : World) (h : Heap) (X : (Mine.hd.heap_39 w.params).In h) : Challenge.rw_sx0040_01 = Challenge.rw_sx0040_01 := by
  revert X; k_fill; intro _; rfl
local macro_rules | `(tactic| tb_start) => `(tactic| repeat' ((fail_if_success (with_reducible show wpAny _ _ (exec (Stmt.While _ _ _ _) _) _ _ _)); (fail_if_success (with_reducible show wpAny _ _ (exec (Stmt.For _ _ _ _ _) _) _ _ _)); (fail_if_success (with_reducible show wpAny _ _ (pyIter _) _ _ _)); first | (k_unfold; (try dsimp only)) | (k_end; wrow_close) | walk1 | (dsimp only; walk1) | (leave1; walk_say "STEP leave1"; try dsimp only) | fail "no step"))
local macro_rules | `(tactic| walk_at "binaryOp Add bytes bytes") => `(tactic| (k_here; (with_reducible show wpAny _ _ (binaryOp Operator.Add (Value.bytes (List.toArray _) _) (Value.bytes (List.toArray _) _)) _ _ _); (refine bytes_add_K (by simp only [List.size_toArray, List.length_append, List.length_cons, List.length_nil]; omega) rfl ?_); intro _ _))
local macro_rules | `(tactic| walk_at "subscriptTail") => `(tactic| (k_here; (with_reducible show wpAny _ _ (subscriptTail _ _ (Value.bytes (List.toArray _) _) (Value.int _ _)) _ _ _); k_dflt (refine' bytes_item_K ?f ?a ?b ?e ?_; (case f => omega); (case a => omega); (case b => omega); (case e => assumption); k_whole)))
local macro_rules | `(tactic| walk_at "subscriptTail") => `(tactic| (k_here; (with_reducible show wpAny _ _ (subscriptTail _ (Expr.Slice _ _ none _) (Value.bytes (List.toArray _) _) (Value.ref _)) _ _ _); (with_reducible rename Fr _ _ _ _ => F'); (with_reducible rename News _ _ _ _ => N'); (refine cut_bytes (s := ⟨_, _, _, _, _⟩) F' N' (by omega) (by omega) (by omega) (by first | assumption | exact rfl) ?_); intro _ _ _ _ _))
local macro_rules | `(tactic| walk_at "call ref") => `(tactic| (k_here; (with_reducible show wpAny _ _ (call (Value.ref 29) _) _ _ _); (with_reducible rename Below _ _ _ _ => B'); (with_reducible rename Fr _ _ _ _ => F'); (with_reducible rename News _ _ _ _ => N'); k_dflt ((refine wk (d := 700) (u := 3000) (by first | exact Nat.le_of_ble_eq_true rfl | exact wkd (by assumption)) (by first | exact Nat.le_of_ble_eq_true rfl | exact wku0 (by assumption) | exact wku1 (by assumption) | exact wku2 (by assumption)) ?_); (refine be_spec (by assumption) (pcall B' F' rfl rfl) (by first | omega | decide) ?_); intro t' h' tk' kp'; (have fn' := pback F' N' kp'); clear kp' F' N'; obtain ⟨F', N'⟩ := fn')))
theorem clp_spec {w : World} {mean : ExcName → Option Value} {mg mb : Str → Option Value} {base : Heap} {l : List Env} {s : Shared} {Q E : Value → Shared → Prop} {c pre post : List UInt8} {p : Nat} {t : Tr} {tk tk2 : Tok}
  (AM : Amb w mean mg mb base) (B : Below (topA 600 2500 l) base l s.heap) (hc : c = pre ++ (t.enc ++ post)) (hp : pre.length = p) (hsz : c.length < 65536)
  (ret : ∀ a pfx t1 t2 t3 n h' tk', Kp [] s.heap h' → s.heap.get? a = none →
     h'.get? a = some { cls := .type "tuple", data := .seq #[.bytes (List.toArray pfx) t1, .type (if t.isB then "bytes" else "list"), .int (t.body.length : Int) t2, .int ((p : Int) + t.hd.length) t3] n } → pfx.length ≤ 4 → Q (.ref a) {s with heap := h', toks := tk'}) :
  wpAny (model PRG w) (topA 600 2500 l) (call (.ref 91) [.bytes c.toArray tk, .int (p : Int) tk2]) Q E s := by
  have hL : t.body.length < 65536 := by
    have := congrArg List.length hc
    rw [t.enc_eq] at this
    simp only [List.length_append] at this
    omega
  rcases t.lay hL with ⟨hB, hh, x, hb, hx⟩ | ⟨hB, hL2, ⟨x, hh, hx⟩, h1⟩ | ⟨hB, hL2, x, hh, hx⟩ | ⟨hB, hL2, x, hh, hx⟩ | ⟨hB, hL2, x, hh, hx⟩
  · have hb0 : (((c.getD (p : Int).toNat 0).toNat : Nat) : Int) = (x.toNat : Int) := by
      subst hp; rw [hc, t.enc_eq, hh, hb]; simp
    have hlen : c.length = p + 1 + post.length := by rw [hc, t.enc_eq, hh, hb]; simp; omega
    rw [hB, hb, hh] at ret
    k_dflt (refine' enterF (rb := [(Str.ofString "start", .int (p : Int) tk2), (Str.ofString "rlp", .bytes c.toArray tk)]) AM B Cells.nil ?k6 ?k7 ?k8 ?k9 ?kL ?cr ?c2 ?c3 ?c4 ?c5 ?_; (case k6 => k_is); (case k7 => k_is); (case k8 => first | exact Nat.lt_of_sub_eq_succ rfl | exact hdep); (case k9 => first | exact BindsTo.of_eq rfl | exact kp_binds (AM.X.keeps B.stays) (fun _ => rfl)); (case kL => exact locs rfl); (case cr => exact rfl); (case c2 => exact rfl); (case c3 => exact rfl); (case c4 => exact rfl); (case c5 => decide); k_whole)
    intro g L' h' hg F N B' X' T' lt
    dsimp only [bmap] at F ⊢
    try k_fold
    tb_start
    rename Fr _ _ _ _ => F₁
    rename News _ _ _ _ => N₁
    exact ret _ [] _ _ _ _ _ _ (kp_of (cells := []) hg F₁) (fresh_from (cells := []) hg N₁ (.head _) (by simp)) (by have := (N₁ _ (.head _)).1; simpa using this) (by simp)
  · have hb0 : (((c.getD (p : Int).toNat 0).toNat : Nat) : Int) = 128 + (t.body.length : Int) := by
      subst hp; rw [hc, t.enc_eq, hh, show (128 : Int) + (t.body.length : Int) = ((128 + t.body.length : Nat) : Int) from by omega, ← hx]; simp
    have hlen : c.length = p + 1 + t.body.length + post.length := by rw [hc, t.enc_eq, hh]; simp; omega
    have hcut : (c.drop (p : Int).toNat).take (((p : Int) + 1).toNat - (p : Int).toNat) = [x] := by
      rw [show ((p : Int) + 1).toNat - (p : Int).toNat = 1 from by omega]
      subst hp; rw [hc, t.enc_eq, hh]; simp
    have he : 128 + (t.body.length : Int) - 128 = (t.body.length : Int) := by omega
    rw [hB, hh] at ret
    by_cases hl1 : t.body.length = 1
    · obtain ⟨y, hb, hy⟩ := h1 hl1
      have hb1 : (((c.getD ((p : Int) + 1).toNat 0).toNat : Nat) : Int) = (y.toNat : Int) := by
        rw [show ((p : Int) + 1).toNat = p + 1 from by omega]
        subst hp; rw [hc, t.enc_eq, hh, hb]; simp
      clear hc hp hh hx hL hB
      k_dflt (refine' enterF (rb := [(Str.ofString "start", .int (p : Int) tk2), (Str.ofString "rlp", .bytes c.toArray tk)]) AM B Cells.nil ?k6 ?k7 ?k8 ?k9 ?kL ?cr ?c2 ?c3 ?c4 ?c5 ?_; (case k6 => k_is); (case k7 => k_is); (case k8 => first | exact Nat.lt_of_sub_eq_succ rfl | exact hdep); (case k9 => first | exact BindsTo.of_eq rfl | exact kp_binds (AM.X.keeps B.stays) (fun _ => rfl)); (case kL => exact locs rfl); (case cr => exact rfl); (case c2 => exact rfl); (case c3 => exact rfl); (case c4 => exact rfl); (case c5 => decide); k_whole)
      intro g L' h' hg F N B' X' T' lt
      dsimp only [bmap] at F ⊢
      try k_fold
      tb_start
      all_goals (try (exfalso; omega))
      all_goals
        rename Fr _ _ _ _ => F₁
        rename News _ _ _ _ => N₁
        exact ret _ [x] _ _ _ _ _ _ (kp_of (cells := []) hg F₁) (fresh_from (cells := []) hg N₁ (.head _) (by simp)) (by have := (N₁ _ (.head _)).1; rw [he] at this; exact this) (by simp)
    · clear hc hp hh hx hL hB
      k_dflt (refine' enterF (rb := [(Str.ofString "start", .int (p : Int) tk2), (Str.ofString "rlp", .bytes c.toArray tk)]) AM B Cells.nil ?k6 ?k7 ?k8 ?k9 ?kL ?cr ?c2 ?c3 ?c4 ?c5 ?_; (case k6 => k_is); (case k7 => k_is); (case k8 => first | exact Nat.lt_of_sub_eq_succ rfl | exact hdep); (case k9 => first | exact BindsTo.of_eq rfl | exact kp_binds (AM.X.keeps B.stays) (fun _ => rfl)); (case kL => exact locs rfl); (case cr => exact rfl); (case c2 => exact rfl); (case c3 => exact rfl); (case c4 => exact rfl); (case c5 => decide); k_whole)
      intro g L' h' hg F N B' X' T' lt
      dsimp only [bmap] at F ⊢
      try k_fold
      tb_start
      all_goals (try (exfalso; omega))
      all_goals
        rename Fr _ _ _ _ => F₁
        rename News _ _ _ _ => N₁
        exact ret _ [x] _ _ _ _ _ _ (kp_of (cells := []) hg F₁) (fresh_from (cells := []) hg N₁ (.head _) (by simp)) (by have := (N₁ _ (.head _)).1; rw [he] at this; exact this) (by simp)
  · have hd2 := digs_len hL
    have hd1 := digs_len_pos (n := t.body.length) (by omega)
    obtain ⟨y, r, hdg, hy0⟩ := digs_head (n := t.body.length) (by omega)
    have hb0 : (((c.getD (p : Int).toNat 0).toNat : Nat) : Int) = 183 + ((digs t.body.length).length : Int) := by
      subst hp; rw [hc, t.enc_eq, hh, show (183 : Int) + ((digs t.body.length).length : Int) = ((183 + (digs t.body.length).length : Nat) : Int) from by omega, ← hx]; simp
    have hlen : c.length = p + 1 + (digs t.body.length).length + t.body.length + post.length := by rw [hc, t.enc_eq, hh]; simp; omega
    have hcut : (c.drop (p : Int).toNat).take (((p : Int) + 1).toNat - (p : Int).toNat) = [x] := by
      rw [show ((p : Int) + 1).toNat - (p : Int).toNat = 1 from by omega]
      subst hp; rw [hc, t.enc_eq, hh]; simp
    have hcut2 : (c.drop ((p : Int) + 1).toNat).take (((p : Int) + 2).toNat - ((p : Int) + 1).toNat) = [y] := by
      rw [show ((p : Int) + 2).toNat - ((p : Int) + 1).toNat = 1 from by omega, show ((p : Int) + 1).toNat = p + 1 from by omega]
      subst hp; rw [hc, t.enc_eq, hh, hdg]; simp
    have hcut3 : (c.drop ((p : Int) + 1).toNat).take (((p : Int) + 1 + (183 + ((digs t.body.length).length : Int) - 183)).toNat - ((p : Int) + 1).toNat) = digs t.body.length := by
      rw [show ((p : Int) + 1 + (183 + ((digs t.body.length).length : Int) - 183)).toNat - ((p : Int) + 1).toNat = (digs t.body.length).length from by omega, show ((p : Int) + 1).toNat = p + 1 from by omega]
      subst hp; rw [hc, t.enc_eq, hh]; simp
    have hben := ben_digs t.body.length
    have he : (p : Int) + 1 + (183 + ((digs t.body.length).length : Int) - 183) = (p : Int) + (((x :: digs t.body.length).length : Nat) : Int) := by rw [List.length_cons]; omega
    have hy1 : ([y] == [(0 : UInt8)]) = false := by simpa using hy0
    rw [hB, hh] at ret
    clear hc hp hh hx hdg hy0 hL hB
    k_dflt (refine' enterF (rb := [(Str.ofString "start", .int (p : Int) tk2), (Str.ofString "rlp", .bytes c.toArray tk)]) AM B Cells.nil ?k6 ?k7 ?k8 ?k9 ?kL ?cr ?c2 ?c3 ?c4 ?c5 ?_; (case k6 => k_is); (case k7 => k_is); (case k8 => first | exact Nat.lt_of_sub_eq_succ rfl | exact hdep); (case k9 => first | exact BindsTo.of_eq rfl | exact kp_binds (AM.X.keeps B.stays) (fun _ => rfl)); (case kL => exact locs rfl); (case cr => exact rfl); (case c2 => exact rfl); (case c3 => exact rfl); (case c4 => exact rfl); (case c5 => decide); k_whole)
    intro g L' h' hg F N B' X' T' lt
    dsimp only [bmap] at F ⊢
    try k_fold
    tb_start
    rename Fr _ _ _ _ => F₁
    rename News _ _ _ _ => N₁
    exact ret _ ([x] ++ digs t.body.length) _ _ _ _ _ _ (kp_of (cells := []) hg F₁) (fresh_from (cells := []) hg N₁ (.head _) (by simp)) (by have := (N₁ _ (.head _)).1; rw [he, hben] at this; exact this) (by simp; omega)
  · have hb0 : (((c.getD (p : Int).toNat 0).toNat : Nat) : Int) = 192 + (t.body.length : Int) := by
      subst hp; rw [hc, t.enc_eq, hh, show (192 : Int) + (t.body.length : Int) = ((192 + t.body.length : Nat) : Int) from by omega, ← hx]; simp
    have hlen : c.length = p + 1 + t.body.length + post.length := by rw [hc, t.enc_eq, hh]; simp; omega
    have hcut : (c.drop (p : Int).toNat).take (((p : Int) + 1).toNat - (p : Int).toNat) = [x] := by
      rw [show ((p : Int) + 1).toNat - (p : Int).toNat = 1 from by omega]
      subst hp; rw [hc, t.enc_eq, hh]; simp
    have he : 192 + (t.body.length : Int) - 192 = (t.body.length : Int) := by omega
    rw [hB, hh] at ret
    clear hc hp hh hx hL hB
    k_dflt (refine' enterF (rb := [(Str.ofString "start", .int (p : Int) tk2), (Str.ofString "rlp", .bytes c.toArray tk)]) AM B Cells.nil ?k6 ?k7 ?k8 ?k9 ?kL ?cr ?c2 ?c3 ?c4 ?c5 ?_; (case k6 => k_is); (case k7 => k_is); (case k8 => first | exact Nat.lt_of_sub_eq_succ rfl | exact hdep); (case k9 => first | exact BindsTo.of_eq rfl | exact kp_binds (AM.X.keeps B.stays) (fun _ => rfl)); (case kL => exact locs rfl); (case cr => exact rfl); (case c2 => exact rfl); (case c3 => exact rfl); (case c4 => exact rfl); (case c5 => decide); k_whole)
    intro g L' h' hg F N B' X' T' lt
    dsimp only [bmap] at F ⊢
    try k_fold
    tb_start
    rename Fr _ _ _ _ => F₁
    rename News _ _ _ _ => N₁
    exact ret _ [x] _ _ _ _ _ _ (kp_of (cells := []) hg F₁) (fresh_from (cells := []) hg N₁ (.head _) (by simp)) (by have := (N₁ _ (.head _)).1; rw [he] at this; exact this) (by simp)
  · have hd2 := digs_len hL
    have hd1 := digs_len_pos (n := t.body.length) (by omega)
    obtain ⟨y, r, hdg, hy0⟩ := digs_head (n := t.body.length) (by omega)
    have hb0 : (((c.getD (p : Int).toNat 0).toNat : Nat) : Int) = 247 + ((digs t.body.length).length : Int) := by
      subst hp; rw [hc, t.enc_eq, hh, show (247 : Int) + ((digs t.body.length).length : Int) = ((247 + (digs t.body.length).length : Nat) : Int) from by omega, ← hx]; simp
    have hlen : c.length = p + 1 + (digs t.body.length).length + t.body.length + post.length := by rw [hc, t.enc_eq, hh]; simp; omega
    have hcut : (c.drop (p : Int).toNat).take (((p : Int) + 1).toNat - (p : Int).toNat) = [x] := by
      rw [show ((p : Int) + 1).toNat - (p : Int).toNat = 1 from by omega]
      subst hp; rw [hc, t.enc_eq, hh]; simp
    have hcut2 : (c.drop ((p : Int) + 1).toNat).take (((p : Int) + 2).toNat - ((p : Int) + 1).toNat) = [y] := by
      rw [show ((p : Int) + 2).toNat - ((p : Int) + 1).toNat = 1 from by omega, show ((p : Int) + 1).toNat = p + 1 from by omega]
      subst hp; rw [hc, t.enc_eq, hh, hdg]; simp
    have hcut3 : (c.drop ((p : Int) + 1).toNat).take (((p : Int) + 1 + (247 + ((digs t.body.length).length : Int) - 192 - 56 + 1)).toNat - ((p : Int) + 1).toNat) = digs t.body.length := by
      rw [show ((p : Int) + 1 + (247 + ((digs t.body.length).length : Int) - 192 - 56 + 1)).toNat - ((p : Int) + 1).toNat = (digs t.body.length).length from by omega, show ((p : Int) + 1).toNat = p + 1 from by omega]
      subst hp; rw [hc, t.enc_eq, hh]; simp
    have hben := ben_digs t.body.length
    have he : (p : Int) + 1 + (247 + ((digs t.body.length).length : Int) - 192 - 56 + 1) = (p : Int) + (((x :: digs t.body.length).length : Nat) : Int) := by rw [List.length_cons]; omega
    have hy1 : ([y] == [(0 : UInt8)]) = false := by simpa using hy0
    rw [hB, hh] at ret
    clear hc hp hh hx hdg hy0 hL hB
    k_dflt (refine' enterF (rb := [(Str.ofString "start", .int (p : Int) tk2), (Str.ofString "rlp", .bytes c.toArray tk)]) AM B Cells.nil ?k6 ?k7 ?k8 ?k9 ?kL ?cr ?c2 ?c3 ?c4 ?c5 ?_; (case k6 => k_is); (case k7 => k_is); (case k8 => first | exact Nat.lt_of_sub_eq_succ rfl | exact hdep); (case k9 => first | exact BindsTo.of_eq rfl | exact kp_binds (AM.X.keeps B.stays) (fun _ => rfl)); (case kL => exact locs rfl); (case cr => exact rfl); (case c2 => exact rfl); (case c3 => exact rfl); (case c4 => exact rfl); (case c5 => decide); k_whole)
    intro g L' h' hg F N B' X' T' lt
    dsimp only [bmap] at F ⊢
    try k_fold
    tb_start
    rename Fr _ _ _ _ => F₁
    rename News _ _ _ _ => N₁
    exact ret _ ([x] ++ digs t.body.length) _ _ _ _ _ _ (kp_of (cells := []) hg F₁) (fresh_from (cells := []) hg N₁ (.head _) (by simp)) (by have := (N₁ _ (.head _)).1; rw [he, hben] at this; exact this) (by simp; omega)
theorem clpB_spec {w : World} {mean : ExcName → Option Value} {mg mb : Str → Option Value} {base : Heap} {l : List Env} {s : Shared} {Q E : Value → Shared → Prop} {c pre post : List UInt8} {p : Nat} {t : Tr} {tk tk2 : Tok}
  (AM : Amb w mean mg mb base) (B : Below (topA 600 2500 l) base l s.heap) (hc : c = pre ++ (t.enc ++ post)) (hp : pre.length = p) (hsz : c.length < 65536) (hB : t.isB = true)
  (ret : ∀ a pfx t1 t2 t3 n h' tk', Kp [] s.heap h' → s.heap.get? a = none →
     h'.get? a = some { cls := .type "tuple", data := .seq #[.bytes (List.toArray pfx) t1, .type "bytes", .int (t.body.length : Int) t2, .int (((p + t.hd.length : Nat)) : Int) t3] n } → pfx.length ≤ 4 → Q (.ref a) {s with heap := h', toks := tk'}) :
  wpAny (model PRG w) (topA 600 2500 l) (call (.ref 91) [.bytes c.toArray tk, .int (p : Int) tk2]) Q E s :=
  clp_spec AM B hc hp hsz fun a pfx t1 t2 t3 n h' tk' k f o e => ret a pfx t1 t2 t3 n h' tk' k f (by rw [hB] at o; exact o) e
theorem clpL_spec {w : World} {mean : ExcName → Option Value} {mg mb : Str → Option Value} {base : Heap} {l : List Env} {s : Shared} {Q E : Value → Shared → Prop} {c pre post : List UInt8} {p : Nat} {t : Tr} {tk tk2 : Tok}
  (AM : Amb w mean mg mb base) (B : Below (topA 600 2500 l) base l s.heap) (hc : c = pre ++ (t.enc ++ post)) (hp : pre.length = p) (hsz : c.length < 65536) (hB : t.isB = false)
  (ret : ∀ a pfx t1 t2 t3 n h' tk', Kp [] s.heap h' → s.heap.get? a = none →
     h'.get? a = some { cls := .type "tuple", data := .seq #[.bytes (List.toArray pfx) t1, .type "list", .int (t.body.length : Int) t2, .int (((p + t.hd.length : Nat)) : Int) t3] n } → pfx.length ≤ 4 → Q (.ref a) {s with heap := h', toks := tk'}) :
  wpAny (model PRG w) (topA 600 2500 l) (call (.ref 91) [.bytes c.toArray tk, .int (p : Int) tk2]) Q E s :=
  clp_spec AM B hc hp hsz fun a pfx t1 t2 t3 n h' tk' k f o e => ret a pfx t1 t2 t3 n h' tk' k f (by rw [hB] at o; exact o) e
end Mine
end

section
theorem Mine.quietCpl : True := by
  w_top off
  trivial
open PySem PySem.W PySem.Spec PySem.Calls PyProof.Rows
set_option Elab.async false
set_option maxRecDepth 100000
set_option maxHeartbeats 8000000
namespace Mine
theorem filled2 (w : World) (h : Heap) (X : (Mine.hd.heap_39 w.params).In h) : Challenge.rw_sx0040_01 = Challenge.rw_sx0040_01 := by
  revert X; k_fill; intro _; rfl
local macro_rules | `(tactic| tb_start) => `(tactic| repeat' ((fail_if_success (with_reducible show wpAny _ _ (exec (Stmt.While _ _ _ _) _) _ _ _)); (fail_if_success (with_reducible show wpAny _ _ (exec (Stmt.For _ _ _ _ _) _) _ _ _)); (fail_if_success (with_reducible show wpAny _ _ (pyIter _) _ _ _)); first | (k_unfold; (try dsimp only)) | (k_end; wrow_close) | walk1 | (dsimp only; walk1) | (leave1; walk_say "STEP leave1"; try dsimp only) | fail "no step"))
local macro_rules | `(tactic| walk_at "idle line") => `(tactic| skip)
local macro_rules | `(tactic| walk_at "idle line") => `(tactic| skip)
local macro_rules | `(tactic| walk_at "binaryOp Add bytes bytes") => `(tactic| (k_here; (with_reducible show wpAny _ _ (binaryOp Operator.Add (Value.bytes (List.toArray _) _) (Value.bytes (List.toArray _) _)) _ _ _); (refine bytes_add_K (by simp only [List.size_toArray, List.length_append, List.length_cons, List.length_nil]; omega) rfl ?_); intro _ _))
local macro_rules | `(tactic| walk_at "subscriptTail") => `(tactic| (k_here; (with_reducible show wpAny _ _ (subscriptTail _ _ (Value.bytes (List.toArray _) _) (Value.int _ _)) _ _ _); k_dflt (refine' bytes_item_K ?f ?a ?b ?e ?_; (case f => omega); (case a => omega); (case b => omega); (case e => assumption); k_whole)))
local macro_rules | `(tactic| walk_at "subscriptTail") => `(tactic| (k_here; (with_reducible show wpAny _ _ (subscriptTail _ (Expr.Slice _ _ none _) (Value.bytes (List.toArray _) _) (Value.ref _)) _ _ _); (with_reducible rename Fr _ _ _ _ => F'); (with_reducible rename News _ _ _ _ => N'); (refine cut_bytes (s := ⟨_, _, _, _, _⟩) F' N' (by omega) (by omega) (by omega) (by first | assumption | exact rfl) ?_); intro _ _ _ _ _))
theorem cpl_spec {w : World} {mean : ExcName → Option Value} {mg mb : Str → Option Value} {base : Heap} {l : List Env} {s : Shared} {Q E : Value → Shared → Prop} {c pfx b : List UInt8} {S L : Nat} {tk tk1 tk2 tk3 : Tok}
  (AM : Amb w mean mg mb base) (B : Below (topA 600 2500 l) base l s.heap) (hsz : c.length < 65536) (hpf : pfx.length ≤ 4) (hb : (c.drop S).take L = b)
  (ret : ∀ a t1 v2 t3 n h' tk', Kp [] s.heap h' → s.heap.get? a = none →
     h'.get? a = some { cls := .type "tuple", data := .seq #[.bytes b.toArray t1, v2, .int ((S : Int) + L) t3] n } → Q (.ref a) {s with heap := h', toks := tk'}) :
  wpAny (model PRG w) (topA 600 2500 l) (call (.ref 98) [.bytes c.toArray tk, .bytes pfx.toArray tk1, .int (S : Int) tk2, .type "bytes", .int (L : Int) tk3]) Q E s := by
  have hcut : (c.drop (S : Int).toNat).take (((S : Int) + (L : Int)).toNat - (S : Int).toNat) = b := by
    rw [show ((S : Int) + (L : Int)).toNat - (S : Int).toNat = L from by omega]; exact hb
  have hbl : b.length ≤ c.length := by rw [← hb, List.length_take, List.length_drop]; omega
  clear hb
  k_dflt (refine' enterF (rb := [(Str.ofString "length", .int (L : Int) tk3), (Str.ofString "type_", .type "bytes"), (Str.ofString "start", .int (S : Int) tk2), (Str.ofString "prefix", .bytes pfx.toArray tk1), (Str.ofString "rlp", .bytes c.toArray tk)]) AM B Cells.nil ?k6 ?k7 ?k8 ?k9 ?kL ?cr ?c2 ?c3 ?c4 ?c5 ?_; (case k6 => k_is); (case k7 => k_is); (case k8 => first | exact Nat.lt_of_sub_eq_succ rfl | exact hdep); (case k9 => first | exact BindsTo.of_eq rfl | exact kp_binds (AM.X.keeps B.stays) (fun _ => rfl)); (case kL => exact locs rfl); (case cr => exact rfl); (case c2 => exact rfl); (case c3 => exact rfl); (case c4 => exact rfl); (case c5 => decide); k_whole)
  intro g L' h' hg F N B' X' T' lt
  dsimp only [bmap] at F ⊢
  try k_fold
  tb_start
  rename Fr _ _ _ _ => F₁
  rename News _ _ _ _ => N₁
  exact ret _ _ _ _ _ _ _ (kp_of (cells := []) hg F₁) (fresh_from (cells := []) hg N₁ (.head _) (by simp)) (N₁ _ (.head _)).1
end Mine
end

section
theorem Mine.quietCil : True := by
  w_top off
  trivial
open PySem PySem.W PySem.Spec PySem.Calls PyProof.Rows
set_option Elab.async false
set_option maxRecDepth 100000
set_option maxHeartbeats 8000000
namespace Mine
theorem filled3 (w : World) (h : Heap) (X : (Mine.hd.heap_39 w.params).In h) : Challenge.rw_sx0040_01 = Challenge.rw_sx0040_01 := by
  revert X; k_fill; intro _; rfl
local macro_rules | `(tactic| tb_start) => `(tactic| repeat' ((fail_if_success (with_reducible show wpAny _ _ (exec (Stmt.While _ _ _ _) _) _ _ _)); (fail_if_success (with_reducible show wpAny _ _ (exec (Stmt.For _ _ _ _ _) _) _ _ _)); (fail_if_success (with_reducible show wpAny _ _ (pyIter _) _ _ _)); first | (k_unfold; (try dsimp only)) | (k_end; wrow_close) | walk1 | (dsimp only; walk1) | (leave1; walk_say "STEP leave1"; try dsimp only) | fail "no step"))
local macro_rules | `(tactic| walk_at "idle line") => `(tactic| skip)
local macro_rules | `(tactic| walk_at "binaryOp Add bytes bytes") => `(tactic| (k_here; (with_reducible show wpAny _ _ (binaryOp Operator.Add (Value.bytes (List.toArray _) _) (Value.bytes (List.toArray _) _)) _ _ _); (refine bytes_add_K (by simp only [List.size_toArray, List.length_append, List.length_cons, List.length_nil]; omega) rfl ?_); intro _ _))
local macro_rules | `(tactic| walk_at "subscriptTail") => `(tactic| (k_here; (with_reducible show wpAny _ _ (subscriptTail _ _ (Value.bytes (List.toArray _) _) (Value.int _ _)) _ _ _); k_dflt (refine' bytes_item_K ?f ?a ?b ?e ?_; (case f => omega); (case a => omega); (case b => omega); (case e => assumption); k_whole)))
local macro_rules | `(tactic| walk_at "subscriptTail") => `(tactic| (k_here; (with_reducible show wpAny _ _ (subscriptTail _ (Expr.Slice _ _ none _) (Value.bytes (List.toArray _) _) (Value.ref _)) _ _ _); (with_reducible rename Fr _ _ _ _ => F'); (with_reducible rename News _ _ _ _ => N'); (refine cut_bytes (s := ⟨_, _, _, _, _⟩) F' N' (by omega) (by omega) (by omega) (by first | assumption | exact rfl) ?_); intro _ _ _ _ _))
local macro_rules | `(tactic| walk_at "call ref") => `(tactic| (k_here; (with_reducible show wpAny _ _ (call (Value.ref 91) _) _ _ _); (with_reducible rename Below _ _ _ _ => B'); (with_reducible rename Fr _ _ _ _ => F'); (with_reducible rename News _ _ _ _ => N'); k_dflt ((refine wk (d := 600) (u := 2500) (by first | exact Nat.le_of_ble_eq_true rfl | exact wkd (by assumption)) (by first | exact Nat.le_of_ble_eq_true rfl | exact wku0 (by assumption) | exact wku1 (by assumption) | exact wku2 (by assumption)) ?_); (first | refine clpB_spec (by assumption) (pcall B' F' rfl rfl) (by assumption) (by assumption) (by assumption) (by assumption) ?_ | refine clpL_spec (by assumption) (pcall B' F' rfl rfl) (by assumption) (by assumption) (by assumption) (by assumption) ?_); intro a' pfx' t1' t2' t3' n' h' tk' kp' fr' ho' hp'; (have fn' := pback1 F' N' kp' ho' fr'); clear kp' fr' ho' F' N'; obtain ⟨F', N', l1⟩ := fn'; (try simp only [List.forall_mem_cons, List.not_mem_nil, false_implies, implies_true, and_true, ne_eq] at l1))))
local macro_rules | `(tactic| walk_at "call ref") => `(tactic| (k_here; (with_reducible show wpAny _ _ (call (Value.ref 98) _) _ _ _); (with_reducible rename Below _ _ _ _ => B'); (with_reducible rename Fr _ _ _ _ => F'); (with_reducible rename News _ _ _ _ => N'); k_dflt ((refine wk (d := 600) (u := 2500) (by first | exact Nat.le_of_ble_eq_true rfl | exact wkd (by assumption)) (by first | exact Nat.le_of_ble_eq_true rfl | exact wku0 (by assumption) | exact wku1 (by assumption) | exact wku2 (by assumption)) ?_); (refine cpl_spec (by assumption) (pcall B' F' rfl rfl) (by assumption) (by assumption) (by assumption) ?_); intro a' t1' v2' t3' n' h' tk' kp' fr' ho'; (have fn' := pback1 F' N' kp' ho' fr'); clear kp' fr' ho' F' N'; obtain ⟨F', N', l1⟩ := fn'; (try simp only [List.forall_mem_cons, List.not_mem_nil, false_implies, implies_true, and_true, ne_eq] at l1))))
theorem cilB_spec {w : World} {mean : ExcName → Option Value} {mg mb : Str → Option Value} {base : Heap} {l : List Env} {s : Shared} {Q E : Value → Shared → Prop} {c pre post : List UInt8} {p : Nat} {t : Tr} {tk tk2 : Tok}
  (AM : Amb w mean mg mb base) (B : Below (topA 550 2200 l) base l s.heap) (hc : c = pre ++ (t.enc ++ post)) (hp : pre.length = p) (hsz : c.length < 65536) (hB : t.isB = true)
  (ret : ∀ a t1 t2 n h' tk', Kp [] s.heap h' → s.heap.get? a = none →
     h'.get? a = some { cls := .type "tuple", data := .seq #[.bytes t.body.toArray t1, .int ((p : Int) + t.enc.length) t2] n } → Q (.ref a) {s with heap := h', toks := tk'}) :
  wpAny (model PRG w) (topA 550 2200 l) (call (.ref 113) [.bytes c.toArray tk, .int (p : Int) tk2]) Q E s := by
  have hcut : (c.drop (p + t.hd.length)).take t.body.length = t.body := by
    subst hp; rw [hc, t.enc_eq]; simp
  k_dflt (refine' enterF (rb := [(Str.ofString "start", .int (p : Int) tk2), (Str.ofString "rlp", .bytes c.toArray tk)]) AM B Cells.nil ?k6 ?k7 ?k8 ?k9 ?kL ?cr ?c2 ?c3 ?c4 ?c5 ?_; (case k6 => k_is); (case k7 => k_is); (case k8 => first | exact Nat.lt_of_sub_eq_succ rfl | exact hdep); (case k9 => first | exact BindsTo.of_eq rfl | exact kp_binds (AM.X.keeps B.stays) (fun _ => rfl)); (case kL => exact locs rfl); (case cr => exact rfl); (case c2 => exact rfl); (case c3 => exact rfl); (case c4 => exact rfl); (case c5 => decide); k_whole)
  intro g L' h' hg F N B' X' T' lt
  dsimp only [bmap] at F ⊢
  try k_fold
  tb_start
  rename Fr _ _ _ _ => F₁
  rename News _ _ _ _ => N₁
  exact ret _ _ _ _ _ _ (kp_of (cells := []) hg F₁) (fresh_from (cells := []) hg N₁ (.head _) (by simp)) (by
    have := (N₁ _ (.head _)).1
    rw [show (((p + t.hd.length : Nat)) : Int) + (t.body.length : Int) = (p : Int) + t.enc.length from by rw [t.enc_eq, List.length_append]; omega] at this
    exact this)
theorem cilL_spec {w : World} {mean : ExcName → Option Value} {mg mb : Str → Option Value} {base : Heap} {l : List Env} {s : Shared} {Q E : Value → Shared → Prop} {c pre post : List UInt8} {p : Nat} {ts : List Tr} {tk tk2 : Tok}
  (AM : Amb w mean mg mb base) (B : Below (topA 550 2200 l) base l s.heap) (hc : c = pre ++ ((Tr.node ts).enc ++ post)) (hp : pre.length = p) (hsz : c.length < 65536)
  (ret : ∀ a (q : Row) o t2 n h' tk', Kp [] s.heap h' → h'.get? a = some { cls := .type "tuple", data := .seq #[.ref q.x, .int ((p : Int) + (Tr.node ts).enc.length) t2] n } →
     (∀ z ∈ q.cells w.params, h'.get? z.1 = some z.2) → h'.get? q.kw = some o → Obj.IsDictOf (strKind PRG w) o [] →
     (∀ z ∈ [a, q.x, q.d, q.el, q.kw], s.heap.get? z = none) → [a, q.x, q.d, q.el, q.kw].Nodup → q.Ok → q.c = c → q.kids = ts → q.els = [] → q.len = false → q.sed = none → Q (.ref a) {s with heap := h', toks := tk'}) :
  wpAny (model PRG w) (topA 550 2200 l) (call (.ref 113) [.bytes c.toArray tk, .int (p : Int) tk2]) Q E s := by
  have hB : (Tr.node ts).isB = false := rfl
  k_dflt (refine' enterF (rb := [(Str.ofString "start", .int (p : Int) tk2), (Str.ofString "rlp", .bytes c.toArray tk)]) AM B Cells.nil ?k6 ?k7 ?k8 ?k9 ?kL ?cr ?c2 ?c3 ?c4 ?c5 ?_; (case k6 => k_is); (case k7 => k_is); (case k8 => first | exact Nat.lt_of_sub_eq_succ rfl | exact hdep); (case k9 => first | exact BindsTo.of_eq rfl | exact kp_binds (AM.X.keeps B.stays) (fun _ => rfl)); (case kL => exact locs rfl); (case cr => exact rfl); (case c2 => exact rfl); (case c3 => exact rfl); (case c4 => exact rfl); (case c5 => decide); k_whole)
  intro g L' h' hg F N B' X' T' lt
  dsimp only [bmap] at F ⊢
  try k_fold
  tb_start
  rename Fr _ _ _ _ => F₁
  rename News _ _ _ _ => N₁
  rename Obj.IsDictOf _ _ _ => hd
  have e1 : (((p + (Tr.node ts).hd.length : Nat)) : Int) + ((Tr.node ts).body.length : Int) = (p : Int) + (Tr.node ts).enc.length := by rw [Tr.enc_eq, List.length_append]; omega
  have k1 := (N₁ _ (.head _)).1
  have k2 := (N₁ _ (.tail _ (.head _))).1
  have k3 := (N₁ _ (.tail _ (.tail _ (.head _)))).1
  have k4 := (N₁ _ (.tail _ (.tail _ (.tail _ (.head _))))).1
  have k5 := (N₁ _ (.tail _ (.tail _ (.tail _ (.tail _ (.head _)))))).1
  have hn := fun z hz => fresh_from (cells := []) hg N₁ (p := z) hz (by simp)
  dsimp only at k1 k2 k3 k4 k5
  obtain ⟨q, hq, rfl, rfl, rfl, rfl, rfl, rfl, rp, r1, r2, r3⟩ := row_new (ts := ts) k4 k5 k2 (by show _ = (((_ + (Tr.node ts).body.length : Nat)) : Int); omega) rfl
  refine ret _ q _ _ _ _ _ (kp_of (cells := []) hg F₁) (by rw [e1] at k1; exact k1) hq k3 hd ?_ ?_ ?_ rfl rfl r1 r2 r3
  · intro z hz
    simp only [List.mem_cons, List.not_mem_nil, or_false] at hz
    rcases hz with rfl | rfl | rfl | rfl | rfl
    · exact hn _ (.head _)
    · exact hn _ (.tail _ (.tail _ (.tail _ (.head _))))
    · exact hn _ (.tail _ (.tail _ (.tail _ (.tail _ (.head _)))))
    · exact hn _ (.tail _ (.head _))
    · exact hn _ (.tail _ (.tail _ (.head _)))
  · simp only [List.nodup_cons, List.mem_cons, List.not_mem_nil, or_false, not_or, List.nodup_nil, and_true, not_false_eq_true]
    refine ⟨⟨?_, ?_, ?_, ?_⟩, ⟨?_, ?_, ?_⟩, ⟨?_, ?_⟩, ?_⟩ <;> (refine neN ?_; omega)
  · refine ⟨⟨pre ++ (Tr.node q.kids).hd, post, ?_, ?_⟩, hsz, by rw [r1]; exact Nat.zero_le _, fun z => by rw [r2] at z; cases z⟩
    · rw [hc, Tr.enc_eq]; simp only [List.append_assoc]; rfl
    · rw [List.length_append, hp, rp]
end Mine
end

section
theorem Mine.quietNext : True := by
  w_top off
  trivial
open PySem PySem.W PySem.Spec PySem.Calls PyProof.Rows
set_option Elab.async false
set_option maxRecDepth 100000
set_option maxHeartbeats 8000000
namespace Mine
theorem filled4 (w : World) (h : Heap) (X : (Mine.hd.heap_39 w.params).In h) : Challenge.rw_sx0040_01 = Challenge.rw_sx0040_01 := by
  revert X; k_fill; intro _; rfl
local macro_rules | `(tactic| tb_start) => `(tactic| repeat' ((fail_if_success (with_reducible show wpAny _ _ (exec (Stmt.While _ _ _ _) _) _ _ _)); (fail_if_success (with_reducible show wpAny _ _ (exec (Stmt.For _ _ _ _ _) _) _ _ _)); (fail_if_success (with_reducible show wpAny _ _ (pyIter _) _ _ _)); first | (k_unfold; (try dsimp only)) | (k_end; wrow_close) | walk1 | (dsimp only; walk1) | (leave1; walk_say "STEP leave1"; try dsimp only) | fail "no step"))
local macro_rules | `(tactic| walk_at "idle line") => `(tactic| skip)
local macro_rules | `(tactic| walk_at "idle line") => `(tactic| skip)
local macro_rules | `(tactic| walk_at "binaryOp Add bytes bytes") => `(tactic| (k_here; (with_reducible show wpAny _ _ (binaryOp Operator.Add (Value.bytes (List.toArray _) _) (Value.bytes (List.toArray _) _)) _ _ _); (refine bytes_add_K (by simp only [List.size_toArray, List.length_append, List.length_cons, List.length_nil]; omega) rfl ?_); intro _ _))
local macro_rules | `(tactic| walk_at "subscriptTail") => `(tactic| (k_here; (with_reducible show wpAny _ _ (subscriptTail _ _ (Value.bytes (List.toArray _) _) (Value.int _ _)) _ _ _); k_dflt (refine' bytes_item_K ?f ?a ?b ?e ?_; (case f => omega); (case a => omega); (case b => omega); (case e => assumption); k_whole)))
local macro_rules | `(tactic| walk_at "subscriptTail") => `(tactic| (k_here; (with_reducible show wpAny _ _ (subscriptTail _ (Expr.Slice _ _ none _) (Value.bytes (List.toArray _) _) (Value.ref _)) _ _ _); (with_reducible rename Fr _ _ _ _ => F'); (with_reducible rename News _ _ _ _ => N'); (refine cut_bytes (s := ⟨_, _, _, _, _⟩) F' N' (by omega) (by omega) (by omega) (by first | assumption | exact rfl) ?_); intro _ _ _ _ _))
local macro_rules | `(tactic| walk_at "call ref") => `(tactic| (k_here; (with_reducible show wpAny _ _ (call (Value.ref 113) _) _ _ _); (with_reducible rename Below _ _ _ _ => B'); (with_reducible rename Fr _ _ _ _ => F'); (with_reducible rename News _ _ _ _ => N'); k_dflt ((refine wk (d := 550) (u := 2200) (by first | exact Nat.le_of_ble_eq_true rfl | exact wkd (by assumption)) (by first | exact Nat.le_of_ble_eq_true rfl | exact wku0 (by assumption) | exact wku1 (by assumption) | exact wku2 (by assumption)) ?_); (refine cilB_spec (by assumption) (pcall B' F' rfl rfl) (by assumption) (by assumption) (by assumption) (by first | rfl | assumption) ?_); intro a' t1' t2' n' h' tk' kp' fr' ho'; (have fn' := pback1 F' N' kp' ho' fr'); clear kp' fr' ho' F' N'; obtain ⟨F', N', l1⟩ := fn'; (try simp only [List.forall_mem_cons, List.not_mem_nil, false_implies, implies_true, and_true, ne_eq] at l1))))
local macro_rules | `(tactic| walk_at "call builtin:list.append") => `(tactic| (k_here; (with_reducible show wpAny _ _ (call (Value.builtin _) [Value.ref _, _]) _ _ _); k_dflt (refine' append_K ?k1 ?k2 ?k3 ?_ ?z; (case k1 => k_asm); (case k2 => k_asm); (case k3 => k_upd); (case z => (simp only [List.size_toArray, List.push_toArray, List.length_append, List.length_cons, List.length_nil, sizeLine_eq]; omega)); k_whole); intro h' F' N'; (try k_sweep)))
theorem nextB_spec {w : World} {mean : ExcName → Option Value} {mg mb : Str → Option Value} {base : Heap} {l : List Env} {s : Shared} {Q E : Value → Shared → Prop} {r : Row} {b : List UInt8}
  (AM : Amb w mean mg mb base) (B : Below (topA 500 2000 l) base l s.heap) (C : Cells s.heap base l (r.cells w.params)) (n1 : @Ne Nat r.x r.d) (n2 : @Ne Nat r.x r.el) (n3 : @Ne Nat r.d r.el) (ok : r.Ok)
  (hk : r.kids[r.els.length]? = some (.leaf b)) (hs : r.sed = none)
  (ret : ∀ t τ' n' h' tk', Kp [r.x, r.d, r.el] s.heap h' → (∀ z ∈ ({ r with els := r.els ++ [.bytes b.toArray t], τ := τ', eln := n' } : Row).cells w.params, h'.get? z.1 = some z.2) → Q (.bytes b.toArray t) {s with heap := h', toks := tk'}) :
  wpAny (model PRG w) (topA 500 2000 l) (call (.ref 135) [.ref r.x]) Q E s := by
  obtain ⟨pre, post, hc, hp⟩ := ok.at hk
  have hlt := r.ix_lt hk
  have hsz := ok.small
  obtain ⟨hsm, _⟩ := ok.els
  simp only [Row.cells, Row.dict, rowD, Row.sedV, hs] at C
  k_dflt (refine' enterF (rb := [(Str.ofString "self", .ref r.x)]) AM B C ?k6 ?k7 ?k8 ?k9 ?kL ?cr ?c2 ?c3 ?c4 ?c5 ?_; (case k6 => k_is); (case k7 => k_is); (case k8 => first | exact Nat.lt_of_sub_eq_succ rfl | exact hdep); (case k9 => first | exact BindsTo.of_eq rfl | exact kp_binds (AM.X.keeps B.stays) (fun _ => rfl)); (case kL => exact locs rfl); (case cr => exact rfl); (case c2 => exact rfl); (case c3 => exact rfl); (case c4 => exact rfl); (case c5 => decide); k_whole)
  intro g L' h' hg F N B' X' T' lt
  dsimp only [bmap] at F ⊢
  try k_fold
  tb_start
  rename Fr _ _ _ _ => F₁
  rename News _ _ _ _ => N₁
  have k4 := (N₁ _ (.tail _ (.head _))).1
  have k5 := (N₁ _ (.tail _ (.tail _ (.head _)))).1
  have k2 := (N₁ _ (.tail _ (.tail _ (.tail _ (.head _))))).1
  obtain ⟨τ', hz⟩ := row_keep (r := r) (len := r.len) (a12 := r.τ 12) k4 k5 k2 (List.push_toArray _ _) rfl rfl (by rw [r.ix_next hk]; omega) rfl (by rw [Row.sedV, hs])
  exact ret _ τ' _ _ _ (kp_of hg F₁) hz
local macro_rules | `(tactic| walk_at "call ref") => `(tactic| (k_here; (with_reducible show wpAny _ _ (call (Value.ref 113) _) _ _ _); (with_reducible rename Below _ _ _ _ => B'); (with_reducible rename Fr _ _ _ _ => F'); (with_reducible rename News _ _ _ _ => N'); k_dflt ((refine wk (d := 550) (u := 2200) (by first | exact Nat.le_of_ble_eq_true rfl | exact wkd (by assumption)) (by first | exact Nat.le_of_ble_eq_true rfl | exact wku0 (by assumption) | exact wku1 (by assumption) | exact wku2 (by assumption)) ?_); (refine cilL_spec (by assumption) (pcall B' F' rfl rfl) (by assumption) (by assumption) (by assumption) ?_); intro a' q' o' t2' n' h' tk' kp' ho' hq' _ _ hf' hn' ok' c1' c2' c3' c4' c5'; (have fn' := pbackQ F' N' kp' ho' hq' hf'); clear kp' ho' F' N'; obtain ⟨F', N', l1⟩ := fn'; (try simp only [List.forall_mem_cons, List.not_mem_nil, false_implies, implies_true, and_true, ne_eq] at l1))))
theorem nextN_spec {w : World} {mean : ExcName → Option Value} {mg mb : Str → Option Value} {base : Heap} {l : List Env} {s : Shared} {Q E : Value → Shared → Prop} {r : Row} {ts : List Tr}
  (AM : Amb w mean mg mb base) (B : Below (topA 500 2000 l) base l s.heap) (C : Cells s.heap base l (r.cells w.params)) (n1 : @Ne Nat r.x r.d) (n2 : @Ne Nat r.x r.el) (n3 : @Ne Nat r.d r.el) (ok : r.Ok)
  (hk : r.kids[r.els.length]? = some (.node ts)) (hs : r.sed = none)
  (ret : ∀ (q : Row) τ' n' h' tk', Kp [r.x, r.d, r.el] s.heap h' → (∀ z ∈ ({ r with els := r.els ++ [.ref q.x], τ := τ', eln := n' } : Row).cells w.params, h'.get? z.1 = some z.2) →
    (∀ z ∈ q.cells w.params, h'.get? z.1 = some z.2) → (∀ z ∈ [q.x, q.d, q.el], s.heap.get? z = none) → [q.x, q.d, q.el].Nodup → q.Ok → q.kids = ts → q.els = [] → q.len = false → q.sed = none → Q (.ref q.x) {s with heap := h', toks := tk'}) :
  wpAny (model PRG w) (topA 500 2000 l) (call (.ref 135) [.ref r.x]) Q E s := by
  obtain ⟨pre, post, hc, hp⟩ := ok.at hk
  have hlt := r.ix_lt hk
  have hsz := ok.small
  obtain ⟨hsm, _⟩ := ok.els
  simp only [Row.cells, Row.dict, rowD, Row.sedV, hs] at C
  k_dflt (refine' enterF (rb := [(Str.ofString "self", .ref r.x)]) AM B C ?k6 ?k7 ?k8 ?k9 ?kL ?cr ?c2 ?c3 ?c4 ?c5 ?_; (case k6 => k_is); (case k7 => k_is); (case k8 => first | exact Nat.lt_of_sub_eq_succ rfl | exact hdep); (case k9 => first | exact BindsTo.of_eq rfl | exact kp_binds (AM.X.keeps B.stays) (fun _ => rfl)); (case kL => exact locs rfl); (case cr => exact rfl); (case c2 => exact rfl); (case c3 => exact rfl); (case c4 => exact rfl); (case c5 => decide); k_whole)
  intro g L' h' hg F N B' X' T' lt
  dsimp only [bmap] at F ⊢
  try k_fold
  tb_start
  rename Fr _ _ _ _ => F₁
  rename News _ _ _ _ => N₁
  rename Row.Ok _ => okq
  rename List.Nodup _ => hnd
  rename (_ : Row).els = [] => q1
  rename (_ : Row).len = false => q2
  rename (_ : Row).sed = none => q3
  rename (_ : Row).kids = ts => q4
  have k4 := (N₁ _ (.tail _ (.tail _ (.tail _ (.tail _ (.head _)))))).1
  have k5 := (N₁ _ (.tail _ (.tail _ (.tail _ (.tail _ (.tail _ (.head _))))))).1
  have k2 := (N₁ _ (.tail _ (.tail _ (.tail _ (.tail _ (.tail _ (.tail _ (.head _)))))))).1
  obtain ⟨τ', hz⟩ := row_keep (r := r) (len := r.len) (a12 := r.τ 12) k4 k5 k2 (List.push_toArray _ _) rfl rfl (by rw [r.ix_next hk]; omega) rfl (by rw [Row.sedV, hs])
  refine ret _ τ' _ _ _ (kp_of hg F₁) hz ?_ ?_ ((List.nodup_cons.mp hnd).2.sublist (List.sublist_append_left [_, _, _] [_])) okq q4 q1 q2 q3
  · intro z hz
    simp only [Row.cells, List.mem_cons, List.not_mem_nil, or_false] at hz
    rcases hz with rfl | rfl | rfl
    · exact (N₁ _ (.tail _ (.head _))).1
    · exact (N₁ _ (.tail _ (.tail _ (.head _)))).1
    · exact (N₁ _ (.tail _ (.tail _ (.tail _ (.head _))))).1
  · intro z hz
    simp only [List.mem_cons, List.not_mem_nil, or_false] at hz
    rcases hz with rfl | rfl | rfl
    · exact fresh_from hg N₁ (.tail _ (.head _)) (by simp only [List.map_cons, List.map_nil, List.mem_cons, List.not_mem_nil, or_false, not_or]; refine ⟨?_, ?_, ?_⟩ <;> (refine neN ?_; omega))
    · exact fresh_from hg N₁ (.tail _ (.tail _ (.head _))) (by simp only [List.map_cons, List.map_nil, List.mem_cons, List.not_mem_nil, or_false, not_or]; refine ⟨?_, ?_, ?_⟩ <;> (refine neN ?_; omega))
    · exact fresh_from hg N₁ (.tail _ (.tail _ (.tail _ (.head _)))) (by simp only [List.map_cons, List.map_nil, List.mem_cons, List.not_mem_nil, or_false, not_or]; refine ⟨?_, ?_, ?_⟩ <;> (refine neN ?_; omega))
end Mine
end

section
theorem Mine.quietStar : True := by
  w_top off
  trivial
open PySem PySem.W PySem.Spec PySem.Calls PyProof.Rows
set_option Elab.async false
set_option maxRecDepth 100000
set_option maxHeartbeats 8000000
namespace Mine
/-- an empty dict stands there -/
def EmptyD (h : Heap) (a : Addr) : Prop := ∃ o n, h.get? a = some o ∧ o.cls = .type "dict" ∧ o.data = .dict #[] n ∧ (a == sysModules) = false
section
variable {prog : Program} {w : World} {A : Around} {E : Value → Shared → Prop} {s : Shared}
theorem merge_empty {d a : Addr} {Q : Unit → Shared → Prop} (hd : EmptyD s.heap d) (ha : EmptyD s.heap a) (h : Q () s) : wpAny (model prog w) A (mergeMapping d (.ref a) true) Q E s := by
  obtain ⟨od, nd, hd1, hd2, hd3, hd4⟩ := hd
  obtain ⟨oa, na, ha1, ha2, ha3, ha4⟩ := ha
  have hT : s.TypeIs (.ref a) "dict" := ⟨oa, ha1, ha2⟩
  unfold mergeMapping
  refine wpAny_bind (wpAny_isInstance (T := "dict") (b := true) hT (by rw [isSubtype_type]; kernel_rfl) ?_)
  simp only [if_true]
  refine wpAny_bind (wpAny_specialOf hT (r := some (.builtin "dict.__iter__")) (by rw [typeLookup_type, builtinLookup_eq_fast]; kernel_rfl) ?_)
  simp only [beq_self_eq_true, pure_bind, ha4, Bool.false_eq_true, if_false]
  refine wpAny_bind (wpAny_dictEntries hd1 hd3 ?_)
  simp only [show (#[] : Array DictEntry).isEmpty = true from rfl, if_true]
  refine wpAny_bind (wpAny_dictEntries ha1 ha3 ?_)
  refine wpAny_bind (wpAny_pure ?_)
  refine wpAny_bind (wpAny_dictEntries ha1 ha3 ?_)
  refine wpAny_bind (wpAny_dictEpoch ha1 ha3 ?_)
  exact wpAny_pure h

theorem forIn_one {α β : Type} {M : Model} {a : α} {b : β} {f : α → β → Sem (ForInStep β)} {Q : β → Shared → Prop} (h : wpAny M A (f a b) (fun r s' => Q (match r with | .done b => b | .yield b => b) s') E s) : wpAny M A (forIn [a] b f) Q E s := by
  rw [List.forIn_cons]
  refine wpAny_bind (wpAny_mono h (fun r s' z => ?_) fun _ _ z => z)
  cases r with
  | done b => exact wpAny_pure z
  | yield b => exact wpAny_pure z
theorem merged_empty {f : Value} {x : Sem Value} {Q : Addr → Shared → Prop}
    (h : wpAny (model prog w) A (alloc { cls := .type "dict", data := .dict #[] }) (fun d s₁ => wpAny (model prog w) A x (fun v s₂ => ∃ a, v = .ref a ∧ EmptyD s₂.heap d ∧ EmptyD s₂.heap a ∧ Q d s₂) (fun _ _ => False) s₁) E s) :
    wpAny (model prog w) A (mergedKeywords f [(none, x)]) Q E s := by
  unfold mergedKeywords
  refine wpAny_bind (wpAny_mono h (fun d s₁ h₁ => ?_) fun _ _ z => z)
  refine wpAny_bind (wpAny_holding ?_)
  refine wpAny_bind (forIn_one ?_)
  refine wpAny_bind (wpAny_of_eq (a := ()) rfl ?_)
  refine wpAny_bind (wpAny_mono h₁ (fun v s₂ h₂ => ?_) fun _ _ z => z.elim)
  obtain ⟨a, rfl, hd, ha, hq⟩ := h₂
  refine wpAny_bind (wpAny_onRaise (wpAny_holding (wpAny_tryCatch (wpAny_onRaise (merge_empty hd ha ?_)))))
  refine wpAny_pure ?_
  refine wpAny_of_eq (a := ()) rfl ?_
  exact wpAny_pure hq
theorem keywords_empty {f : Value} {d : Addr} {Q : List (Str × Value) → Shared → Prop} (hd : EmptyD s.heap d) (h : Q [] s) : wpAny (model prog w) A (keywordsIn f d) Q E s := by
  obtain ⟨od, nd, hd1, hd2, hd3, hd4⟩ := hd
  unfold keywordsIn
  refine wpAny_bind (wpAny_dictEntries hd1 hd3 ?_)
  refine wpAny_bind ?_
  exact wpAny_pure (wpAny_pure h)
theorem evalArgs_star {f : Value} {x y : Sem Value} {rest : List (Bool × Sem Value)} {Q : Args → Shared → Prop}
    (h : wpAny (model prog w) A (spliced ((false, x) :: rest)) (fun vs s₀ => wpAny (model prog w) A (alloc { cls := .type "dict", data := .dict #[] }) (fun d s₁ => wpAny (model prog w) A y (fun v s₂ => ∃ a, v = .ref a ∧ EmptyD s₂.heap d ∧ EmptyD s₂.heap a ∧ Q ⟨vs, []⟩ s₂) (fun _ _ => False) s₁) E s₀) E s) :
    wpAny (model prog w) A (evalArgs f true ((false, x) :: rest) [(none, y)]) Q E s := by
  unfold evalArgs
  show wpAny (model prog w) A (spliced ((false, x) :: rest) >>= _) Q E s
  refine wpAny_bind (wpAny_mono h (fun vs s₀ h₀ => ?_) fun _ _ z => z)
  refine wpAny_holding ?_
  refine wpAny_ite ?_
  rw [if_neg (show ¬ (([(none, y)] : List (Option Str × Sem Value)).all (·.1.isSome) = true) from Bool.false_ne_true)]
  refine wpAny_bind (merged_empty (wpAny_mono h₀ (fun d s₁ h₁ => wpAny_mono h₁ (fun v s₂ h₂ => ?_) fun _ _ z => z) fun _ _ z => z))
  obtain ⟨a, e, hd, ha, hq⟩ := h₂
  refine ⟨a, e, hd, ha, ?_⟩
  refine wpAny_bind (wpAny_pure ?_)
  exact wpAny_bind (wpAny_holding (keywords_empty hd (wpAny_pure hq)))
end
section
variable {prog : Program} {w : World} {A : Around} {E : Value → Shared → Prop} {s : Shared} {K : Frag} {env : Env} {pos kp : Pos} {f : Value} {first : List Value} {Q : Value → Shared → Prop} {h₀ : Heap} {e ke : Expr} {rest : List Expr}
def EmptyO (o : Obj) : Prop := o.cls = .type "dict" ∧ ∃ n, o.data = .dict #[] n
/-- a new empty dict -/
def AllocD (M : Model) (A : Around) (Q : Addr → Shared → Prop) (E : Value → Shared → Prop) (s : Shared) : Prop := wpAny M A (alloc { cls := .type "dict", data := .dict #[] }) Q E s
theorem allocD_ {M : Model} {g : Heap} {L : Addr} {m : Str → Option Value} {news : List (Addr × Obj)} {Q : Addr → Shared → Prop} (F : Fr g L s.heap m) (N : News g L s.heap news) (hl : g.NoLimit)
    (h : ∀ d h', Fr g L h' m → News g L h' ((d, { cls := .type "dict", data := .dict #[] }) :: news) → (∀ p ∈ news, p.1 < d) → (d == sysModules) = false → Q d { s with heap := h' }) : AllocD M A Q E s := by
  refine wpAny_alloc (h _ _ (F.push _) (N.push F _) (fun p hp => Heap.lt_size (N p hp).1) ?_)
  obtain ⟨mc, ⟨o, _, _, ho, _⟩, _⟩ := hl
  have h2 : cStatics < s.heap.objs.size := Heap.lt_size (F.keep _ _ ho)
  cases q : s.heap.objs.size == sysModules with
  | false => rfl
  | true =>
    have e : s.heap.objs.size = sysModules := beq_iff_eq.mp q
    rw [e] at h2
    exact absurd h2 (by decide)
def StarEnd (P : Heap → Prop) (d : Addr) (v : Value) (R : Shared → Prop) (s : Shared) : Prop := ∃ a, v = .ref a ∧ EmptyD s.heap d ∧ EmptyD s.heap a ∧ P s.heap ∧ R s
theorem starEnd_ {g : Heap} {L : Addr} {news : List (Addr × Obj)} {P : Heap → Prop} {d a : Addr} {o : Obj} {R : Shared → Prop} (N : News g L s.heap news) (hd : (d, ({ cls := .type "dict", data := .dict #[] } : Obj)) ∈ news) (ha : (a, o) ∈ news) (nd : (d == sysModules) = false) (na : (a == sysModules) = false) (ho : EmptyO o) (hp : P s.heap) (h : R s) : StarEnd P d (.ref a) R s :=
  ⟨a, rfl, ⟨_, _, (N _ hd).1, rfl, rfl, nd⟩, ⟨_, _, (N _ ha).1, ho.1, ho.2.choose_spec, na⟩, hp, h⟩

theorem callWith_kw0 {P : Heap → Prop} (hk : ∀ h, P h → ∃ k, (k = Keeper.frame ∨ k = Keeper.machine ∨ k = Keeper.boundFrame) ∧ Looks (model prog w) h (keeperOf f) k)
    (h : wpAny (model prog w) A (spliced (backTo pos (starEach (e :: rest) env))) (fun vs s₀ => AllocD (model prog w) A (fun d s₁ => wpAny (model prog w) A (eval ke env) (fun v s₂ => StarEnd P d v (fun s₂ => wpAny (model prog w) A (call f (first ++ vs)) Q E s₂) s₂) (fun _ _ => False) s₁) E s₀) E s)
    (he : starEach (e :: rest) env = (false, eval e env) :: starEach rest env := by rfl) :
    wpAny (model prog w) A (callWith pos f first (backTo pos (starEach (e :: rest) env)) (backToKw pos (keywordEach [⟨none, ke, kp⟩] env))) Q E s := by
  rw [he] at h ⊢
  unfold callWith
  refine wpAny_bind (wpAny_holding (wpAny_mono (Q := fun a s₂ => P s₂.heap ∧ a.kw = [] ∧ wpAny (model prog w) A (call f (first ++ a.pos)) Q E s₂) (evalArgs_star (wpAny_mono h (fun vs s₀ h₀ => wpAny_mono h₀ (fun d s₁ h₁ => ?_) fun _ _ z => z) fun _ _ z => z)) (fun a s₂ h₂ => ?_) fun _ _ z => z))
  · show wpAny (model prog w) A (eval ke env >>= fun v => _) _ _ s₁
    refine wpAny_bind (wpAny_mono h₁ (fun v s₂ h₂ => ?_) fun _ _ z => z)
    obtain ⟨a, ea, hd, ha, hX, hq⟩ := h₂
    exact wpAny_bind (wpAny_standAt (wpAny_pure ⟨a, ea, hd, ha, hX, rfl, hq⟩))
  · obtain ⟨hX, hkw, hq⟩ := h₂
    obtain ⟨ap, akw⟩ := a
    dsimp only at hkw hq
    subst hkw
    refine wpAny_bind (wpAny_standAt ?_)
    obtain ⟨k, hk', L⟩ := hk _ hX
    have hst : ∀ l : List (Bool × Sem Value), (l.any (·.1) || (backToKw pos (keywordEach [⟨none, ke, kp⟩] env)).any (·.1.isNone)) = true := fun l => by
      show (l.any _ || (true || _)) = true
      simp
    simp only [hst]
    refine wpAny_bind (L.here ?_)
    have tail : ∀ {t : Sem Value}, wpAny (model prog w) A t Q E s₂ → wpAny (model prog w) A (t >>= fun r => holding [r] point >>= fun _ => pure r) Q E s₂ :=
      fun ht => wpAny_bind (wpAny_mono ht (fun r s₂ hr => wpAny_bind (wpAny_holding (wpAny_point (wpAny_pure hr)))) fun _ _ x => x)
    have marked (mk : Value) : wpAny (model prog w) A (callMarked mk f (first ++ ap) []) Q E s₂ := by unfold callMarked; exact Calls.wpAny_keep hq
    rcases hk' with rfl | rfl | rfl <;> dsimp only <;> first | exact tail (marked _) | exact tail (wpAny_operating hq)
theorem callWith_kw0M {L : Addr} {news : List (Addr × Obj)} {q fa : Addr} {self : Value} (X : K.In h₀) (N : News h₀ L s.heap news) (hq : (q, methodObj (.ref fa) self) ∈ news) (hf : fnIn K fa = true)
    (h : wpAny (model prog w) A (spliced (backTo pos (starEach (e :: rest) env))) (fun vs s₀ => AllocD (model prog w) A (fun d s₁ => wpAny (model prog w) A (eval ke env) (fun v s₂ => StarEnd (MethP K q fa self) d v (fun s₂ => wpAny (model prog w) A (call (.ref q) (first ++ vs)) Q E s₂) s₂) (fun _ _ => False) s₁) E s₀) E s)
    (he : starEach (e :: rest) env = (false, eval e env) :: starEach rest env := by rfl) :
    wpAny (model prog w) A (callWith pos (.ref q) first (backTo pos (starEach (e :: rest) env)) (backToKw pos (keywordEach [⟨none, ke, kp⟩] env))) Q E s :=
  let _ := N
  let _ := X
  let _ := hq
  callWith_kw0 (keeps_M hf) h he
theorem methodCall_kw0 {o : Expr} {name : Str} {apos : Pos}
    (h : wpAny (model prog w) A (eval o env) (fun ov s₁ => wpAny (model prog w) A (getAttr ov name true) (fun f s₂ => wpAny (model prog w) A (callWith pos f [] (backTo pos (starEach (e :: rest) env)) (backToKw pos (keywordEach [⟨none, ke, kp⟩] env))) Q E s₂) E s₁) E s)
    (he : eval (.Call (.Attribute o name apos) (e :: rest) [⟨none, ke, kp⟩] pos) env = (do
      let ov ← eval o env
      standAt apos.atName
      let (f, first) ← holding [ov] (do pure (← getAttr ov name true, ([] : List Value)))
      callWith pos f first (backTo pos (starEach (e :: rest) env)) (backToKw pos (keywordEach [⟨none, ke, kp⟩] env))) := by with_unfolding_all rfl) :
    wpAny (model prog w) A (eval (.Call (.Attribute o name apos) (e :: rest) [⟨none, ke, kp⟩] pos) env) Q E s := by
  rw [he]
  exact wpAny_bind (wpAny_mono h (fun ov s₁ h₁ => wpAny_bind (wpAny_standAt (wpAny_bind (wpAny_holding (wpAny_bind (wpAny_mono h₁ (fun f s₂ h₂ => wpAny_pure h₂) fun _ _ z => z)))))) fun _ _ z => z)
end
end Mine
end

section
theorem Mine.quietDes : True := by
  w_top off
  trivial
open PySem PySem.W PySem.Spec PySem.Calls PyProof.Rows
set_option Elab.async false
set_option maxRecDepth 100000
set_option maxHeartbeats 8000000
namespace Mine
theorem filled5 (w : World) (h : Heap) (X : (Mine.hd.heap_39 w.params).In h) : Challenge.rw_sx0040_01 = Challenge.rw_sx0040_01 := by
  revert X; k_fill; intro _; rfl
local macro_rules | `(tactic| tb_start) => `(tactic| repeat' ((fail_if_success (with_reducible show wpAny _ _ (exec (Stmt.While _ _ _ _) _) _ _ _)); (fail_if_success (with_reducible show wpAny _ _ (exec (Stmt.For _ _ _ _ _) _) _ _ _)); (fail_if_success (with_reducible show wpAny _ _ (pyIter _) _ _ _)); first | (k_unfold; (try dsimp only)) | (k_end; wrow_close) | walk1 | (dsimp only; walk1) | (leave1; walk_say "STEP leave1"; try dsimp only) | fail "no step"))
local macro_rules | `(tactic| walk_at "idle line") => `(tactic| skip)
local macro_rules | `(tactic| walk_at "idle line") => `(tactic| skip)
local macro_rules | `(tactic| walk_at "idle line") => `(tactic| skip)
local macro_rules | `(tactic| walk_at "idle line") => `(tactic| skip)
local macro_rules | `(tactic| walk_at "idle line") => `(tactic| skip)
local macro_rules | `(tactic| walk_at "binaryOp Add bytes bytes") => `(tactic| (k_here; (with_reducible show wpAny _ _ (binaryOp Operator.Add (Value.bytes (List.toArray _) _) (Value.bytes (List.toArray _) _)) _ _ _); (refine bytes_add_K (by simp only [List.size_toArray, List.length_append, List.length_cons, List.length_nil]; omega) rfl ?_); intro _ _))
local macro_rules | `(tactic| walk_at "subscriptTail") => `(tactic| (k_here; (with_reducible show wpAny _ _ (subscriptTail _ _ (Value.bytes (List.toArray _) _) (Value.int _ _)) _ _ _); k_dflt (refine' bytes_item_K ?f ?a ?b ?e ?_; (case f => omega); (case a => omega); (case b => omega); (case e => assumption); k_whole)))
local macro_rules | `(tactic| walk_at "subscriptTail") => `(tactic| (k_here; (with_reducible show wpAny _ _ (subscriptTail _ (Expr.Slice _ _ none _) (Value.bytes (List.toArray _) _) (Value.ref _)) _ _ _); (with_reducible rename Fr _ _ _ _ => F'); (with_reducible rename News _ _ _ _ => N'); (refine cut_bytes (s := ⟨_, _, _, _, _⟩) F' N' (by omega) (by omega) (by omega) (by first | assumption | exact rfl) ?_); intro _ _ _ _ _))
local macro_rules | `(tactic| walk_at "call ref") => `(tactic| (k_here; (with_reducible show wpAny _ _ (call (Value.ref 29) _) _ _ _); (with_reducible rename Below _ _ _ _ => B'); (with_reducible rename Fr _ _ _ _ => F'); (with_reducible rename News _ _ _ _ => N'); k_dflt ((refine wk (d := 700) (u := 3000) (by first | exact Nat.le_of_ble_eq_true rfl | exact wkd (by assumption)) (by first | exact Nat.le_of_ble_eq_true rfl | exact wku0 (by assumption) | exact wku1 (by assumption) | exact wku2 (by assumption)) ?_); (refine be_spec (by assumption) (pcall B' F' rfl rfl) (by first | omega | decide) ?_); intro t' h' tk' kp'; (have fn' := pback F' N' kp'); clear kp' F' N'; obtain ⟨F', N'⟩ := fn')))
abbrev beD (P : Params) (t : Tok) : Obj := dictOf [⟨PyData.keyHash P (Str.ofString "length"), .str (Str.ofString "length") t, .none⟩] 1
theorem des_code {w : World} {mean : ExcName → Option Value} {mg mb : Str → Option Value} {base : Heap} {l : List Env} {s : Shared} {Q E : Value → Shared → Prop} {R : Result → Shared → Prop} {n : Nat} {be bd : Addr} {t0 tk : Tok}
  (AM : Amb w mean mg mb base) (B : Below (topA 600 2500 l) base l s.heap) (C : Cells s.heap base l [(be, instObj 196 bd), (bd, beD w.params t0)]) (hn : n < 65536)
  (ret : ∀ t h' tk', Kp [] s.heap h' → R (.ok (.ret (.int (n : Int) t))) {s with heap := h', toks := tk'}) :
  codeAny (model PRG w) (topA 600 2500 l) (.call (.ref 193) ⟨[.ref be, .bytes (digs n).toArray tk], []⟩) R s := by
  have fin : ∀ {g h' : Heap} {L' : Addr} {m : Str → Option Value} {news : List (Addr × Obj)}, g = hideAll s.heap (List.map (fun x => x.fst) [(be, instObj 196 bd), (bd, beD w.params t0)]) → Fr g L' h' m → News g L' h' [(be, instObj 196 bd), (bd, beD w.params t0)] → Kp [] s.heap h' := by
    intro g h' L' m news hg F N b o _ e
    by_cases q : b ∈ List.map (fun x => x.fst) [(be, instObj 196 bd), (bd, beD w.params t0)]
    · obtain ⟨z, hz, rfl⟩ := List.mem_map.mp q
      rw [(C z hz).1] at e
      cases e
      exact (N z hz).1
    · exact kp_of hg F b o q e
  by_cases h0 : n = 0
  · have hl : (digs n).length = 0 := by rw [h0, digs_zero]; rfl
    have hs : (digs n).toArray.size = (digs n).length := List.size_toArray
    k_dflt (refine' enterFC (rb := [(Str.ofString "serial", .bytes (digs n).toArray tk), (Str.ofString "self", .ref be)]) AM B C ?k6 ?k7 ?k8 ?k9 ?kL ?cr ?c2 ?c3 ?c4 ?c5 ?_; (case k6 => k_is); (case k7 => k_is); (case k8 => first | exact Nat.lt_of_sub_eq_succ rfl | exact hdep); (case k9 => first | exact BindsTo.of_eq rfl | exact kp_binds (AM.X.keeps B.stays) (fun _ => rfl)); (case kL => exact locs rfl); (case cr => exact rfl); (case c2 => exact rfl); (case c3 => exact rfl); (case c4 => exact rfl); (case c5 => decide); k_whole)
    intro g L' h' hg F N B' X' T' lt
    dsimp only [bmap] at F ⊢
    try k_fold
    tb_start
    all_goals (try (exfalso; omega))
    rename Fr _ _ _ _ => F₁
    rename News _ _ _ _ => N₁
    subst h0
    exact ret _ _ _ (fin (news := []) hg F₁ N₁)
  · have hl := digs_len hn
    have hl1 := digs_len_pos h0
    have hben := ben_digs n
    obtain ⟨y, r, hdg, hy0⟩ := digs_head h0
    have hcut : List.take (Int.toNat 1 - Int.toNat 0) (List.drop (Int.toNat 0) (digs n)) = [y] := by rw [hdg]; rfl
    have hy1 : ([y] == [(0 : UInt8)]) = false := by simpa using hy0
    have hs : (digs n).toArray.size = (digs n).length := List.size_toArray
    clear hdg hy0
    k_dflt (refine' enterFC (rb := [(Str.ofString "serial", .bytes (digs n).toArray tk), (Str.ofString "self", .ref be)]) AM B C ?k6 ?k7 ?k8 ?k9 ?kL ?cr ?c2 ?c3 ?c4 ?c5 ?_; (case k6 => k_is); (case k7 => k_is); (case k8 => first | exact Nat.lt_of_sub_eq_succ rfl | exact hdep); (case k9 => first | exact BindsTo.of_eq rfl | exact kp_binds (AM.X.keeps B.stays) (fun _ => rfl)); (case kL => exact locs rfl); (case cr => exact rfl); (case c2 => exact rfl); (case c3 => exact rfl); (case c4 => exact rfl); (case c5 => decide); k_whole)
    intro g L' h' hg F N B' X' T' lt
    dsimp only [bmap] at F ⊢
    try k_fold
    tb_start
    all_goals (try (exfalso; omega))
    rename Fr _ _ _ _ => F₁
    rename News _ _ _ _ => N₁
    rw [← hben] at ret
    exact ret _ _ _ (fin (news := []) hg F₁ N₁)
theorem des_meth {w : World} {mean : ExcName → Option Value} {mg mb : Str → Option Value} {base : Heap} {l : List Env} {s : Shared} {Q E : Value → Shared → Prop} {d u : Nat} {g : Heap} {L q : Addr} {m : Str → Option Value} {env : Env} {news : List (Addr × Obj)} {n : Nat} {be bd : Addr} {t0 tk : Tok}
  (AM : Amb w mean mg mb base) (B : Below (topA d u l) base l g) (F : Fr g L s.heap m) (N : News g L s.heap news) (hf : env.frame = some L) (hk : env.scope.kind = .function) (hq : (q, methodObj (.ref 193) (.ref be)) ∈ news)
  (h1 : (be, instObj 196 bd) ∈ news) (h2 : (bd, beD w.params t0) ∈ news) (hn : n < 65536)
  (ret : ∀ t h' tk', Kp [] s.heap h' → Q (.int (n : Int) t) {s with heap := h', toks := tk'}) :
  wpAny (model PRG w) (topA 600 2500 (env :: l)) (call (.ref q) [.bytes (digs n).toArray tk]) Q E s :=
  call_meth N hq (des_code (Q := Q) (E := E) AM (pcall B F hf hk) (amb_call B F N (fun p hp => by
    simp only [List.mem_cons, List.not_mem_nil, or_false] at hp
    rcases hp with rfl | rfl
    · exact h1
    · exact h2) hf hk).2 hn ret)
end Mine
end

section
theorem Mine.quietNextS : True := by
  w_top off
  trivial
open PySem PySem.W PySem.Spec PySem.Calls PyProof.Rows
set_option Elab.async false
set_option maxRecDepth 100000
set_option maxHeartbeats 8000000
namespace Mine
theorem kp_ro {g h h' : Heap} {L : Addr} {m : Str → Option Value} {cells ro : List (Addr × Obj)} (hg : g = hideAll h ((cells ++ ro).map (·.1))) (F : Fr g L h' m) (h1 : ∀ p ∈ ro, h.get? p.1 = some p.2) (h2 : ∀ p ∈ ro, h'.get? p.1 = some p.2) : Kp (cells.map (·.1)) h h' := by
  intro b o n e
  by_cases q : b ∈ (cells ++ ro).map (·.1)
  · rw [List.map_append, List.mem_append] at q
    rcases q with q | q
    · exact absurd q n
    · obtain ⟨z, hz, rfl⟩ := List.mem_map.mp q
      rw [h1 z hz] at e
      cases e
      exact h2 z hz
  · exact kp_of hg F b o q e
theorem filled6 (w : World) (h : Heap) (X : (Mine.hd.heap_39 w.params).In h) : Challenge.rw_sx0040_01 = Challenge.rw_sx0040_01 := by
  revert X; k_fill; intro _; rfl
local macro_rules | `(tactic| tb_start) => `(tactic| repeat' ((fail_if_success (with_reducible show wpAny _ _ (exec (Stmt.While _ _ _ _) _) _ _ _)); (fail_if_success (with_reducible show wpAny _ _ (exec (Stmt.For _ _ _ _ _) _) _ _ _)); (fail_if_success (with_reducible show wpAny _ _ (pyIter _) _ _ _)); first | (k_unfold; (try dsimp only)) | (k_end; wrow_close) | walk1 | (dsimp only; walk1) | (leave1; walk_say "STEP leave1"; try dsimp only) | fail "no step"))
local macro_rules | `(tactic| walk_at "binaryOp Add bytes bytes") => `(tactic| (k_here; (with_reducible show wpAny _ _ (binaryOp Operator.Add (Value.bytes (List.toArray _) _) (Value.bytes (List.toArray _) _)) _ _ _); (refine bytes_add_K (by simp only [List.size_toArray, List.length_append, List.length_cons, List.length_nil]; omega) rfl ?_); intro _ _))
local macro_rules | `(tactic| walk_at "subscriptTail") => `(tactic| (k_here; (with_reducible show wpAny _ _ (subscriptTail _ _ (Value.bytes (List.toArray _) _) (Value.int _ _)) _ _ _); k_dflt (refine' bytes_item_K ?f ?a ?b ?e ?_; (case f => omega); (case a => omega); (case b => omega); (case e => assumption); k_whole)))
local macro_rules | `(tactic| walk_at "subscriptTail") => `(tactic| (k_here; (with_reducible show wpAny _ _ (subscriptTail _ (Expr.Slice _ _ none _) (Value.bytes (List.toArray _) _) (Value.ref _)) _ _ _); (with_reducible rename Fr _ _ _ _ => F'); (with_reducible rename News _ _ _ _ => N'); (refine cut_bytes (s := ⟨_, _, _, _, _⟩) F' N' (by omega) (by omega) (by omega) (by first | assumption | exact rfl) ?_); intro _ _ _ _ _))
local macro_rules | `(tactic| walk_at "call ref") => `(tactic| (k_here; (with_reducible show wpAny _ _ (call (Value.ref 113) _) _ _ _); (with_reducible rename Below _ _ _ _ => B'); (with_reducible rename Fr _ _ _ _ => F'); (with_reducible rename News _ _ _ _ => N'); k_dflt ((refine wk (d := 550) (u := 2200) (by first | exact Nat.le_of_ble_eq_true rfl | exact wkd (by assumption)) (by first | exact Nat.le_of_ble_eq_true rfl | exact wku0 (by assumption) | exact wku1 (by assumption) | exact wku2 (by assumption)) ?_); (refine cilB_spec (by assumption) (pcall B' F' rfl rfl) (by assumption) (by assumption) (by assumption) (by first | rfl | assumption) ?_); intro a' t1' t2' n' h' tk' kp' fr' ho'; (have fn' := pback1 F' N' kp' ho' fr'); clear kp' fr' ho' F' N'; obtain ⟨F', N', l1⟩ := fn'; (try simp only [List.forall_mem_cons, List.not_mem_nil, false_implies, implies_true, and_true, ne_eq] at l1))))
local macro_rules | `(tactic| walk_at "call builtin:list.append") => `(tactic| (k_here; (with_reducible show wpAny _ _ (call (Value.builtin _) [Value.ref _, _]) _ _ _); k_dflt (refine' append_K ?k1 ?k2 ?k3 ?_ ?z; (case k1 => k_asm); (case k2 => k_asm); (case k3 => k_upd); (case z => (simp only [List.size_toArray, List.push_toArray, List.length_append, List.length_cons, List.length_nil, sizeLine_eq]; omega)); k_whole); intro h' F' N'; (try k_sweep)))
local macro_rules | `(tactic| walk_at "eval Call Attribute") => `(tactic| (k_here; (with_reducible show wpAny _ _ (eval (Expr.Call (Expr.Attribute _ _ _) (_ :: _) [Keyword.mk none _ _] _) _) _ _ _); k_dflt (refine methodCall_kw0 ?_)))
local macro_rules | `(tactic| walk_at "callWith ref") => `(tactic| (k_here; (with_reducible show wpAny _ _ (callWith _ (Value.ref _) _ (backTo _ (starEach (_ :: _) _)) (backToKw _ (keywordEach [Keyword.mk none _ _] _))) _ _ _); k_dflt (refine' callWith_kw0M ?k0 ?k1 ?k2 ?k3 ?_; (case k0 => k_asm); (case k1 => k_asm); (case k2 => k_mem); (case k3 => k_is); k_whole)))
local macro_rules | `(tactic| walk_at "AllocD") => `(tactic| (k_dflt (refine' allocD_ ?k1 ?k2 ?k3 ?_; (case k1 => k_asm); (case k2 => k_asm); (case k3 => exact TopRead.nolimit (by k_asm)); k_whole); intro d' h' F' N' l1 dz'; (try k_lt l1); (try k_sweep)))
local macro_rules | `(tactic| walk_at "StarEnd") => `(tactic| (k_dflt (refine' starEnd_ ?k1 ?k2 ?k3 ?k4 ?k5 ?k6 ?k7 ?_; (case k1 => k_asm); (case k2 => k_mem); (case k3 => k_mem); (case k4 => assumption); (case k5 => assumption); (case k6 => assumption); (case k7 => k_meth)); (try dsimp only [List.nil_append, List.cons_append])))
local macro_rules | `(tactic| walk_at "call ref") => `(tactic| (k_here; (with_reducible show wpAny _ _ (call (Value.ref _) [Value.bytes (List.toArray _) _]) _ _ _); (with_reducible rename Below _ _ _ _ => B'); (with_reducible rename Fr _ _ _ _ => F'); (with_reducible rename News _ _ _ _ => N'); k_dflt ((refine wk (d := 600) (u := 2500) (Nat.le_of_ble_eq_true rfl) (Nat.le_of_ble_eq_true rfl) ?_); (refine' des_meth (by assumption) B' F' N' rfl rfl ?kq ?ka ?kb ?kn ?_; (case kq => k_mem); (case ka => k_mem); (case kb => k_mem); (case kn => assumption)); intro t' h' tk' kp'; (have fn' := pback F' N' kp'); clear kp' F' N'; obtain ⟨F', N'⟩ := fn')))
theorem nextS_spec {w : World} {mean : ExcName → Option Value} {mg mb : Str → Option Value} {base : Heap} {l : List Env} {s : Shared} {Q E : Value → Shared → Prop} {r : Row} {n : Nat} {be bd : Addr} {t0 : Tok} {ko : Obj}
  (AM : Amb w mean mg mb base) (B : Below (topA 500 2000 l) base l s.heap) (C : Cells s.heap base l (r.cells w.params ++ [(r.kw, ko), (be, instObj 196 bd), (bd, beD w.params t0)])) (n1 : @Ne Nat r.x r.d) (n2 : @Ne Nat r.x r.el) (n3 : @Ne Nat r.d r.el)
  (n4 : @Ne Nat r.d r.kw ∧ @Ne Nat r.d be ∧ @Ne Nat r.d bd ∧ @Ne Nat r.el r.kw ∧ @Ne Nat r.el be ∧ @Ne Nat r.el bd ∧ @Ne Nat r.x r.kw ∧ @Ne Nat r.x be ∧ @Ne Nat r.x bd) (ok : r.Ok)
  (hk : r.kids[r.els.length]? = some (.num n)) (hs : r.sed = some be) (hko : EmptyO ko) (hks : (r.kw == sysModules) = false) (hn : n < 65536)
  (ret : ∀ t τ' n' h' tk', Kp [r.x, r.d, r.el] s.heap h' → (∀ z ∈ ({ r with els := r.els ++ [.int (n : Int) t], τ := τ', eln := n' } : Row).cells w.params, h'.get? z.1 = some z.2) → Q (.int (n : Int) t) {s with heap := h', toks := tk'}) :
  wpAny (model PRG w) (topA 500 2000 l) (call (.ref 135) [.ref r.x]) Q E s := by
  obtain ⟨pre, post, hc, hp⟩ := ok.at hk
  have hlt := r.ix_lt hk
  have hsz := ok.small
  obtain ⟨hsm, _⟩ := ok.els
  obtain ⟨n4a, n4b, n4c, n4d, n4e, n4f, n4g, n4h, n4i⟩ := n4
  have hbn : (Tr.num n).body = digs n := rfl
  simp only [Row.cells, Row.dict, rowD, Row.sedV, hs, List.cons_append, List.nil_append] at C
  k_dflt (refine' enterF (rb := [(Str.ofString "self", .ref r.x)]) AM B C ?k6 ?k7 ?k8 ?k9 ?kL ?cr ?c2 ?c3 ?c4 ?c5 ?_; (case k6 => k_is); (case k7 => k_is); (case k8 => first | exact Nat.lt_of_sub_eq_succ rfl | exact hdep); (case k9 => first | exact BindsTo.of_eq rfl | exact kp_binds (AM.X.keeps B.stays) (fun _ => rfl)); (case kL => exact locs rfl); (case cr => exact rfl); (case c2 => exact rfl); (case c3 => exact rfl); (case c4 => exact rfl); (case c5 => decide); k_whole)
  intro g L' h' hg F N B' X' T' lt
  dsimp only [bmap] at F ⊢
  try k_fold
  tb_start
  rename Fr _ _ _ _ => F₁
  rename News _ _ _ _ => N₁
  have k4 := (N₁ _ (.tail _ (.tail _ (.tail _ (.head _))))).1
  have k5 := (N₁ _ (.tail _ (.tail _ (.tail _ (.tail _ (.head _)))))).1
  have k2 := (N₁ _ (.tail _ (.tail _ (.tail _ (.tail _ (.tail _ (.head _))))))).1
  obtain ⟨τ', hz⟩ := row_keep (r := r) (len := r.len) (a12 := r.τ 12) k4 k5 k2 (List.push_toArray _ _) rfl rfl (by rw [r.ix_next hk]; omega) rfl (by rw [Row.sedV, hs])
  refine ret _ τ' _ _ _ (kp_ro (cells := [(r.x, instObj 152 r.d), (r.d, _), (r.el, _)]) (ro := [(r.kw, ko), (be, instObj 196 bd), (bd, beD w.params t0)]) hg F₁ ?_ ?_) hz
  · intro z hz
    exact (C z (.tail _ (.tail _ (.tail _ hz)))).1
  · intro z hz
    exact (N₁ z (.tail _ (.tail _ (.tail _ (.tail _ (.tail _ (.tail _ hz))))))).1
end Mine
end

section
theorem Mine.quietExc : True := by
  w_top off
  trivial
open PySem PySem.W PySem.Spec PySem.Calls PyProof.Rows
set_option Elab.async false
set_option maxRecDepth 100000
set_option maxHeartbeats 8000000
namespace Mine
abbrev frs (l : List Env) : List Addr := l.filterMap (·.frame)
/-- a call that ended with an exception: all but S and the frames' slots as it was -/
def Raised (S : List Addr) (cells : List (Addr × Obj)) (base : Heap) (l : List Env) (e : Addr) (cls : Value) (h h' : Heap) : Prop :=
  ∃ B a0, base.StaysIn B ∧ (∀ b o, b ∉ S → b ∉ frs l → h.get? b = some o → B.get? b = some o) ∧ (∀ z ∈ cells, B.get? z.1 = some z.2) ∧ Heap.FlyingW B l e cls a0 h' ∧ (∀ b o, b ∈ frs l → h.get? b = some o → ∃ sl, h'.get? b = some { o with slots := sl })
/-- the same for a call that ended as it should -/
structure KpF (S fs : List Addr) (h h' : Heap) : Prop where
  other : ∀ b o, b ∉ S → b ∉ fs → h.get? b = some o → h'.get? b = some o
  frame : ∀ b o, b ∈ fs → h.get? b = some o → ∃ sl, h'.get? b = some { o with slots := sl }

section
variable {w : World} {mean : ExcName → Option Value} {mg mb : Str → Option Value} {base : Heap} {A : Around} {l : List Env} {s : Shared}
theorem enterE {Q E : Value → Shared → Prop} {name qual : Str} {params : Arguments} {body : List Stmt} {scope : Scope} {dV kV doc pm cdv ct oc : Value} {an od : Option Addr} {osl : Array (Option Value)} {f : Addr} {pos : List Value} {kw : List (Str × Value)}
    {binds rb : List (Str × Value)} {cells : List (Addr × Obj)}
    (AM : Amb w mean mg mb base) (B : Below A base l s.heap) (C : Cells s.heap base l cells)
    (ho : (Mine.hd.heap_39 w.params).lookup f = some ⟨oc, od, .func (fnOf name qual params body scope dV kV doc pm an cdv ct), osl⟩) (hcd : codeIn (Mine.hd.heap_39 w.params) cdv qual = true) (hroom : A.depth < recursionLimit)
    (hbind : BindsTo s (fnOf name qual params body scope dV kV doc pm an cdv ct) ⟨pos, kw⟩ binds) (hloc : ∀ y ∈ binds, scope.names.lookup y.1 = some .local)
    (hrb : binds.reverse = rb) (hco : scope.isCoroutine = false) (hgen : scope.isGenerator = false) (hk : scope.kind = .function) (hcell : ∀ x ∈ scope.names, x.2 ≠ .cell)
    (h : ∀ g L' h₁, g = hideAll s.heap (cells.map (·.1)) → Fr g L' h₁ (bmap rb) → News g L' h₁ cells → Below A base l g → (Mine.hd.heap_39 w.params).In g → Top Mine.hd.view_39 LO mean mg mb g → (∀ p ∈ cells, p.1 < L') →
      wpAny (model PRG w) (A.deeper (envOf qual scope L' f cdv)) (execs body (envOf qual scope L' f cdv))
        (fun fl s' => Q (match fl with | .ret v => v | _ => .none) s')
        (fun e s' => wpAny (model PRG w) (A.deeper (envOf qual scope L' f cdv)) (leaving (envOf qual scope L' f cdv) e) (fun _ s'' => E e s'') (fun e' s'' => E e' s'') s')
        { s with heap := h₁, toks := s.toks + binds.length }) : wpAny (model PRG w) A (call (.ref f) pos kw) Q E s :=
  wpAny_call (enter AM B C ho hcd hroom hbind hloc hrb hco hgen hk hcell h)
end

theorem len_L {prog : Program} {w : World} {A : Around} {Q E : Value → Shared → Prop} {s : Shared} {g : Heap} {L D : Addr} {news : List (Addr × Obj)} {xs : List Value} {c : Nat} (N : News g L s.heap news) (hm : (D, W.listOf xs.toArray c) ∈ news) (hf : xs.length < 2 ^ 62)
    (h : Q (.int (xs.length : Int) (s.toks + 1)) { s with toks := s.toks + 1 + 1 }) : wpAny (model prog w) A (call (.builtin "len") [.ref D]) Q E s := by
  have hl : s.heap.IsList D xs.toArray := News.isList N hm
  refine Calls.call_len_list hl (by rw [List.size_toArray]; omega) ?_
  rw [List.size_toArray]
  exact h
theorem leave_mk {M : Model} {A : Around} {E : Value → Shared → Prop} {s' : Shared} {base g h : Heap} {outer : List Env} {L a e : Addr} {m : Str → Option Value} {name : Str} {scope : Scope} {cd : Value} {Q : Unit → Shared → Prop} {news : List (Addr × Obj)} {cls : Value} {vs : List Value}
    (hx : Heap.MadeExcOf h s'.heap e cls vs) (K : Below A base outer g) (F : Fr g L h m) (N : News g L h news)
    (hQ : ∀ h', RaisedSN base g outer e cls news h' → g.UpToSlots h' → Q () { s' with heap := h' }) (hk : scope.kind = .function := by rfl) :
    wpAny M (A.deeper (envOf name scope L a cd)) (leaving (envOf name scope L a cd) (.ref e)) Q E s' :=
  leave_raiseS K hx F N (fun h' t R _ U => hQ h' (by
    obtain ⟨⟨B, hB, hBG, hl, hfl, _⟩, _⟩ := R
    exact ⟨B, _, hB, hBG, hl, hfl⟩) U) hk
theorem raised_of {A : Around} {base g g' h h' : Heap} {l : List Env} {e : Addr} {cls : Value} {cells0 cells : List (Addr × Obj)} (hg : g = hideAll h (cells0.map (·.1))) (C : Cells h base l cells0) (K : Below A base l g)
    (T : KtsTurn (frs l) g g') (R : RaisedSN base g' l e cls cells h') (up : g'.UpToSlots h') : Raised (cells0.map (·.1)) cells base l e cls h h' := by
  obtain ⟨B, a0, hB, hBG, hl, hfl⟩ := R
  refine ⟨B, a0, hB, fun b o n nf e => hBG b o (T.other b o (by rw [hg]; exact hideAll_get _ e n) nf) nf, fun z hz => (hl z hz).1, hfl, fun b o hm e => ?_⟩
  have n : b ∉ cells0.map (·.1) := fun q => by
    obtain ⟨z, hz, rfl⟩ := List.mem_map.mp q
    exact (C z hz).2.2 hm
  have e1 : g.get? b = some o := by rw [hg]; exact hideAll_get _ e n
  obtain ⟨sl, e2⟩ := T.frame b o e1 hm
  obtain ⟨_, o', e3, hd⟩ := K.frames.mem hm
  rw [e1] at e3
  cases e3
  obtain ⟨sl', e4⟩ := up b _ e2 hd
  exact ⟨sl', e4⟩

theorem kpF_of {base g g' h h' : Heap} {l : List Env} {L : Addr} {m : Str → Option Value} {cells0 : List (Addr × Obj)} (hg : g = hideAll h (cells0.map (·.1))) (C : Cells h base l cells0)
    (T : KtsTurn (frs l) g g') (F : Fr g' L h' m) : KpF (cells0.map (·.1)) (frs l) h h' := by
  refine ⟨fun b o n nf e => F.keep b o (T.other b o (by rw [hg]; exact hideAll_get _ e n) nf), fun b o hm e => ?_⟩
  have n : b ∉ cells0.map (·.1) := fun q => by
    obtain ⟨z, hz, rfl⟩ := List.mem_map.mp q
    exact (C z hz).2.2 hm
  obtain ⟨sl, e2⟩ := T.frame b o (by rw [hg]; exact hideAll_get _ e n) hm
  exact ⟨sl, F.keep _ _ e2⟩

section
variable {A : Around} {base g h h₂ : Heap} {l : List Env} {L a e : Addr} {m : Str → Option Value} {cls : Value} {name : Str} {scope : Scope} {cd : Value} {cl : List (Str × Addr)} {S : List Addr} {cells news rest : List (Addr × Obj)}
theorem to_SN (K : Below A base l g) (F : Fr g L h m) (N : News g L h news) (R : Raised S cells base (envX name scope L a cd cl :: l) e cls h h₂) (hS : ∀ b ∈ S, b ∈ news.map (·.1)) (hc : ∀ z ∈ cells, z.1 ∈ news.map (·.1) ∨ h.get? z.1 = none) (hr : ∀ z ∈ rest, z ∈ news ∧ z.1 ∉ S) :
    ∃ G, Fr g L G m ∧ RaisedSN base G (envX name scope L a cd cl :: l) e cls (cells ++ rest) h₂ ∧ G.UpToSlots h₂ := by
  obtain ⟨B, a0, hB, ho, hc2, hfl, hfr⟩ := R
  obtain ⟨oL, es, ep, hL, hd⟩ := F.ns
  have nL : L ∉ news.map (·.1) := fun q => by
    obtain ⟨p, hp, e⟩ := List.mem_map.mp q
    exact (N p hp).2.1 e
  have nl : ∀ b ∈ frs l, b ∉ news.map (·.1) := fun b hb q => by
    obtain ⟨p, hp, rfl⟩ := List.mem_map.mp q
    obtain ⟨_, o, e, _⟩ := K.frames.mem hb
    rw [(N p hp).2.2] at e; cases e
  have mem : ∀ {b}, b ∈ frs (envX name scope L a cd cl :: l) → b = L ∨ b ∈ frs l := fun {b} hb => by
    obtain ⟨env, he, hf⟩ := List.mem_filterMap.mp hb
    rcases List.mem_cons.mp he with rfl | he
    · exact .inl (Option.some.inj hf).symm
    · exact .inr (List.mem_filterMap.mpr ⟨env, he, hf⟩)
  have gf : ∀ z ∈ news, base.get? z.1 = none := fun z hz => fresh_of_stays K.stays (N z hz).2.2
  have gfr : ∀ z ∈ news, z.1 ∉ frs (envX name scope L a cd cl :: l) := fun z hz hm => by
    rcases mem hm with q | q
    · exact (N z hz).2.1 q
    · exact nl _ q (List.mem_map_of_mem hz)
  refine ⟨hideAll h (news.map (·.1)), ⟨⟨oL, es, ep, hideAll_get _ hL nL, hd⟩, fun b o e => hideAll_get _ (F.keep b o e) fun q => ?_, F.above⟩, ⟨B, a0, hB, fun b o e nf => ho b o (fun q => ?_) nf (of_hideAll _ e), fun z hz => ?_, hfl⟩, fun b o e nf => ?_⟩
  · obtain ⟨p, hp, rfl⟩ := List.mem_map.mp q
    rw [(N p hp).2.2] at e; cases e
  · rw [hideAll_none _ (hS b q)] at e; cases e
  · rcases List.mem_append.mp hz with hz | hz
    · rcases hc z hz with hq | hq
      · obtain ⟨p, hp, e⟩ := List.mem_map.mp hq
        exact ⟨hc2 z hz, hideAll_none _ hq, by rw [← e]; exact gf p hp⟩
      · refine ⟨hc2 z hz, kts_none (fun b o e => of_hideAll _ e) hq, ?_⟩
        exact fresh_of_stays K.stays (kts_none F.keep hq)
    · obtain ⟨h1, h2⟩ := hr z hz
      exact ⟨ho _ _ h2 (gfr z h1) (N z h1).1, hideAll_none _ (List.mem_map_of_mem h1), gf z h1⟩
  · have e' := of_hideAll _ e
    by_cases q : b ∈ frs (envX name scope L a cd cl :: l)
    · exact hfr b o q e'
    · have nS : b ∉ S := fun q => by rw [hideAll_none _ (hS b q)] at e; cases e
      exact ⟨o.slots, hfl.1 _ _ (ho b o nS q e')⟩
end

section
variable {prog : Program} {w : World} {A₀ : Around} {E : Value → Shared → Prop} {s' : Shared} {base g g₀ G : Heap} {outer : List Env} {L a e : Addr} {m : Str → Option Value} {name : Str} {scope : Scope} {cd : Value} {cl : List (Str × Addr)}
  {b₀ : Stmt} {suite : List Stmt} {pos np : Pos} {rest : List ExceptHandler} {Q : Flow → Shared → Prop} {news : List (Addr × Obj)} {KF : Frag}
  {p : Program} {loose : List Str} {mean : ExcName → Option Value} {mg mb : Str → Option Value} {x : Str} {X T' : String}
theorem caught_X (R : RaisedSN base G (envX name scope L a cd cl :: outer) e (.type X) news s'.heap) (F : Fr g L G m) (K : Below A₀ base outer g) (hsm : G.UpToSlots s'.heap) (XB : KF.In base) (TB : Top p loose mean mg mb base)
    (T0 : KtsTurn (outer.filterMap (·.frame)) g₀ g)
    (ex : nsIn KF mainGlobals x = some none) (hv : bootBuiltins x = some (.type T')) (hn' : x ≠ "__name__")
    (hexc : isSubtype (.type T') (.type "BaseException") = pure true) (hnt : isSubtype (.type ((Manifest.find? T').elim "type" fun y => y.metatype)) (.type "tuple") = pure false) (hsub : isSubtype (.type X) (.type T') = pure true)
    (hE : PassesOwnAt (model prog w) ((A₀.deeper (envX name scope L a cd cl)).mark (some (.ref e))) (A₀.deeper (envX name scope L a cd cl)) (envX name scope L a cd cl) E)
    (k : ∀ h' g', KtsTurn (outer.filterMap (·.frame)) g₀ g' → Fr g' L h' m → News g' L h' news → Below A₀ base outer g' → KF.In g' → Top p loose mean mg mb g' →
      wpAny (model prog w) ((A₀.deeper (envX name scope L a cd cl)).mark (some (.ref e))) (execs (b₀ :: suite) (envX name scope L a cd cl)) Q E { s' with heap := h' })
    (hk : scope.kind = .function := by rfl) (hx : (envX name scope L a cd cl).kindOf x = some .globalImplicit := by rfl) (hd : (x == ("__debug__" : Str)) = false := by decide) :
    wpAny (model prog w) (A₀.deeper (envX name scope L a cd cl)) (noteFrame (.ref e) (envX name scope L a cd cl))
      (fun _ s₂ => wpAny (model prog w) (A₀.deeper (envX name scope L a cd cl)) (setFlight (.ref e) none) (fun _ s₃ =>
        wpAny (model prog w) (A₀.deeper (envX name scope L a cd cl)) (handleBy (.ref e) (envX name scope L a cd cl) (.ExceptHandler (some (.Name x np)) none (b₀ :: suite) pos :: rest)) Q E s₃) E s₂) E s' := by
  obtain ⟨B, a0, hB, hBG, hl, hfl⟩ := R
  have hL : B.get? L = none := by
    obtain ⟨_, ⟨L', _, hf, hn', _⟩, _⟩ := hfl.2.2.1
    obtain rfl : L = L' := Option.some.inj hf
    exact hn'
  refine wpAny_looks_onW (Around.frames_deeper K.stack) rfl hfl fun h₄ hheld₄ hsm₄ => ?_
  refine wpAny_landsW hheld₄ fun h₅ hheld hsm₅' => ?_
  have hsm₅ := hsm₄.trans hsm₅'
  obtain ⟨g₅, T₅, F₅, K₅⟩ := kts_ground (name := name) (scope := scope) (a := a) (cd := cd) K F hBG hheld.1 (hsm.trans hsm₅)
  have X₅ : KF.In g₅ := XB.keeps K₅.stays
  have P₅ : TopRead p loose mg mb g₅ := topRead_of (TB.keeps K₅.stays)
  obtain ⟨ob, hob, hobc⟩ := hheld.there
  refine wpAny_handleBy_builtin (X := X) (T := T') (b := true) hexc hnt hsub (nameX_B F₅ X₅ P₅ ex hv hn' ⟨rfl, ⟨ob, hob, hobc⟩, ?_⟩ hk hx hd)
  refine lands_againW hheld fun h₆ hfl₆ hsm₆ => ?_
  obtain ⟨g₆, T₆, F₆, K₆⟩ := kts_ground (name := name) (scope := scope) (a := a) (cd := cd) K F hBG hfl₆.1 ((hsm.trans hsm₅).trans hsm₆)
  have Nl : News g₆ L h₆ news := fun q hq => ⟨hfl₆.1 _ _ (hl q hq).1, (fun z => by have := (hl q hq).1; rw [z, hL] at this; cases this), T₆.none_ _ (kts_none F.keep (hl q hq).2.1)⟩
  have X₆ : KF.In g₆ := XB.keeps K₆.stays
  have P₆ : Top p loose mean mg mb g₆ := TB.keeps K₆.stays
  exact wpAny_passesOwnAt hE (k h₆ g₆ (T0.trans T₆) F₆ Nl K₆ X₆ P₆)
end
end Mine
end

section
theorem Mine.quietCtx : True := by
  w_top off
  trivial
open PySem PySem.W PySem.Spec PySem.Calls PyProof.Rows
set_option Elab.async false
set_option maxRecDepth 100000
set_option maxHeartbeats 8000000
namespace Mine
/-- an exception that has no other behind it -/
def CtxAt (h : Heap) (e : Addr) : Prop := ∃ oe vs, h.get? e = some oe ∧ oe.data = .fields vs ∧ vs[2]? = some .none
section
variable {M : Model} {A : Around} {E : Value → Shared → Prop} {s : Shared} {base : Heap} {env : Env} {outer : List Env} {L e : Addr} {a0 cls fl : Value} {Q : Unit → Shared → Prop}
theorem entryX {oe : Obj} {vs : Array Value} {head : Value} {hadNext : Bool} (hfr : A.frames = some (env :: outer)) (hl : s.heap.FunFrames base (env :: outer)) (hf : env.frame = some L)
    (he : s.heap.get? e = some oe) (hkb : base.StaysIn s.heap) (hen : base.get? e = none) (hd : oe.data = .fields vs) (h1 : 1 < vs.size) (h0 : vs[0]? = some a0) (h2 : vs[2]? = some .none)
    (h : ∀ h', Heap.NotedW base (env :: outer) e oe.cls a0 (rawInt L) s.heap h' → CtxAt h' e → Q () { s with heap := h' }) :
    wpAny M A (do let a ← frameOf env; let pl ← entryPlaceOf L hadNext; let b ← EntryCells.newEntry head a .none (rawInt L) .none pl; setField (.ref e) 1 b) Q E s := by
  have nef : e ∉ (env :: outer).filterMap (·.frame) := fun hm => by
    obtain ⟨_, o, ho, hnf⟩ := hl.mem hm
    rw [he] at ho; cases ho; exact hnf vs hd
  refine wpAny_bind (wpAny_frameOf_fun hfr hl hf fun h₁ hs => wpAny_bind (wpAny_entryPlaceOf fun pl hpl => ?_))
  unfold EntryCells.newEntry newFields
  refine wpAny_bind (wpAny_newObj_type ?_ (hpl.sizeOk5 _ _ _ _ _))
  obtain ⟨_, same, upto⟩ := hs
  have e1 : h₁.get? e = some oe := (same e nef).trans he
  have kb : base.StaysIn h₁ := fun b o q => (same b fun hm => by rw [(hl.mem hm).1] at q; cases q).trans (hkb b o q)
  generalize hT : ({ cls := .type "traceback", dict := none, data := .fields ([head, .ref L, .none, rawInt L, .none] ++ (if pl.isEmpty then List.replicate 6 Value.none else pl)).toArray } : Obj) = oT
  have dT : oT.data = .fields ([head, .ref L, .none, rawInt L, .none] ++ (if pl.isEmpty then List.replicate 6 Value.none else pl)).toArray := by rw [← hT]
  have fT : oT.isFreed = false := Obj.isFreed_of_fields dT
  have e2 := Heap.get?_push_of_some oT e1
  refine wpAny_setField e2 hd h1 ?_
  have nTe : h₁.objs.size ≠ e := Nat.ne_of_gt (Heap.lt_size e1)
  have d3 := Obj.data_mapFields hd (·.setIfInBounds 1 (Value.ref h₁.objs.size))
  have e3 := Heap.get?_update_self (Obj.mapFields (·.setIfInBounds 1 (Value.ref h₁.objs.size))) e2 (Obj.isFreed_of_fields d3)
  have t3 := (Heap.get?_update_other (h₁.push oT) (Obj.mapFields (·.setIfInBounds 1 (Value.ref h₁.objs.size))) (Ne.symm nTe)).trans (Heap.get?_push_size h₁ fT)
  have keep : ∀ b o, b ≠ e → h₁.get? b = some o → ((h₁.push oT).update e (Obj.mapFields (·.setIfInBounds 1 (Value.ref h₁.objs.size)))).get? b = some o := fun b o n q =>
    (Heap.get?_update_other _ _ (Ne.symm n)).trans (Heap.get?_push_of_some _ q)
  have ne : ∀ b o, s.heap.get? b = some o → (∀ ws, o.data ≠ .fields ws) → b ≠ e := fun b o q hn z => by
    rw [z, he] at q; cases q; exact hn vs hd
  refine h _ ⟨fun b o q => keep b o (fun z => by rw [z, hen] at q; cases q) (kb b o q), hl.of_keeps fun b o q hn => ?_, ?_, fun b o q hn => ?_⟩ ?_
  · obtain ⟨sl, z⟩ := upto b o q
    exact ⟨_, keep b _ (ne b o q hn) z, rfl⟩
  · refine ⟨_, _, h₁.objs.size, _, _, e3, ⟨Obj.cls_mapFields _ _, by rw [Array.getElem?_setIfInBounds_ne (by decide)]; exact h0⟩, d3, by simp [h1], kb.fresh, nTe, t3, dT, ?_⟩
    first | (simp; done) | (rcases hpl with rfl | ⟨_, _, _, _, _, _, _, rfl⟩ <;> simp)
  · obtain ⟨sl, z⟩ := upto b o q
    exact ⟨sl, keep b _ (ne b o q hn) z⟩
  · exact ⟨_, _, e3, d3, by rw [Array.getElem?_setIfInBounds_ne (by decide)]; exact h2⟩

theorem flightX (hkb : base.StaysIn s.heap) (hl : s.heap.FunFrames base outer) (ht : s.heap.TracedAtW base e cls a0 fl) (hc : CtxAt s.heap e)
    (h : ∀ h', base.StaysIn h' → h'.FunFrames base outer → h'.TracedW base e cls a0 → (∀ b o, s.heap.get? b = some o → (∀ vs, o.data ≠ .fields vs) → h'.get? b = some o) → CtxAt h' e → Q () { s with heap := h' }) :
    wpAny M A (setFlight (.ref e) none) Q E s := by
  obtain ⟨oe, vs, T, oT, ts, he, hcls, hd, h1, hnT, hTe, hT, hdT, h3⟩ := ht
  have hsz3 : 3 < ts.size := (Array.getElem?_eq_some_iff.mp h3).1
  have other : ∀ b, b ≠ T → (s.heap.update T (Obj.mapFields (·.setIfInBounds 3 ((none : Option Addr).elim Value.none fun f => rawInt f)))).get? b = s.heap.get? b := fun b n => Heap.get?_update_other _ _ (Ne.symm n)
  have nT : ∀ b o, s.heap.get? b = some o → (∀ ws, o.data ≠ .fields ws) → b ≠ T := fun b o q hn z => by
    rw [z, hT] at q; cases q; exact hn ts hdT
  unfold setFlight
  refine wpAny_bind (wpAny_field he hd h1 ?_)
  rw [if_pos (show (Value.ref T != Value.none) = true from by simp)]
  refine wpAny_setField hT hdT hsz3 (h _ (fun b o q => (other b fun z => by rw [z, hnT] at q; cases q).trans (hkb b o q)) (hl.of_keeps fun b o q hn => ⟨o, (other b (nT b o q hn)).trans q, rfl⟩) ?_ (fun b o q hn => (other b (nT b o q hn)).trans q) ?_)
  · exact ⟨oe, vs, T, _, _, (other e (Ne.symm hTe)).trans he, hcls, hd, h1, hnT, hTe, Heap.get?_update_self _ hT (Obj.isFreed_of_fields (Obj.data_mapFields hdT _)), Obj.data_mapFields hdT _, by simp [hsz3]⟩
  · obtain ⟨oc, cs, c1, c2, c3⟩ := hc
    exact ⟨oc, cs, (other e (Ne.symm hTe)).trans c1, c2, c3⟩

theorem noteX (hfr : A.frames = some (env :: outer)) (hf : env.frame = some L) (hfl : Heap.FlyingW base (env :: outer) e cls a0 s.heap) (hc : CtxAt s.heap e)
    (h : ∀ h', Heap.HeldW base (env :: outer) e cls a0 L h' → s.heap.UpToSlots h' → CtxAt h' e → Q () { s with heap := h' }) : wpAny M A (noteFrame (.ref e) env) Q E s := by
  obtain ⟨hkb, hen, hl, oe, vs, T, oT, ts, he, ⟨hcls, h0⟩, hd, h1, hnT, hTe, hT, hdT, h3⟩ := hfl
  subst hcls
  obtain ⟨oc, cs, c1, c2, c3⟩ := hc
  rw [he] at c1; cases c1
  rw [hd] at c2; cases c2
  unfold noteFrame
  simp only [hf]
  refine wpAny_bind (wpAny_field he hd h1 ?_)
  rw [if_pos (show (Value.ref T != Value.none) = true from by simp)]
  refine wpAny_bind (wpAny_field hT hdT h3 ?_)
  rw [if_neg (show ¬ ((Value.none == rawInt L) = true) from by simp [rawInt])]
  refine wpAny_bind (wpAny_setField hT hdT (Array.getElem?_eq_some_iff.mp h3).1 ?_)
  have other : ∀ b, b ≠ T → (s.heap.update T (Obj.mapFields (·.setIfInBounds 3 Value.none))).get? b = s.heap.get? b := fun b n => Heap.get?_update_other _ _ (Ne.symm n)
  have nT : ∀ b o, s.heap.get? b = some o → (∀ ws, o.data ≠ .fields ws) → b ≠ T := fun b o q hn z => by
    rw [z, hT] at q; cases q; exact hn ts hdT
  refine entryX hfr (hl.of_keeps fun b o q hn => ⟨o, (other b (nT b o q hn)).trans q, rfl⟩) hf ((other e (Ne.symm hTe)).trans he)
    (fun b o q => (other b fun z => by rw [z, hnT] at q; cases q).trans (hkb b o q)) hen hd (Array.getElem?_eq_some_iff.mp h1).1 h0 c3 fun h' ⟨x1, x2, x3, x4⟩ x5 =>
      h h' ⟨x1, hen, x2, x3⟩ (fun b o q hn => x4 b o ((other b (nT b o q hn)).trans q) hn) x5

theorem leaveX {oe : Obj} {vs : Array Value} (hfr : A.frames = some (env :: outer)) (hl : s.heap.FunFrames base (env :: outer)) (hf : env.frame = some L)
    (he : s.heap.get? e = some oe) (hkb : base.StaysIn s.heap) (hen : base.get? e = none) (hd : oe.data = .fields vs) (h1 : vs[1]? = some .none) (h0 : vs[0]? = some a0) (h2 : vs[2]? = some .none)
    (h : ∀ h', Heap.FlyingW base outer e oe.cls a0 h' → s.heap.UpToSlots h' → CtxAt h' e → Q () { s with heap := h' }) : wpAny M A (leaving env (.ref e)) Q E s := by
  unfold leaving noteFrame
  simp only [hf]
  refine wpAny_bind (wpAny_bind (wpAny_field he hd h1 ?_))
  rw [if_neg (by decide)]
  refine entryX hfr hl hf he hkb hen hd (Array.getElem?_eq_some_iff.mp h1).1 h0 h2 fun h₁ ⟨x1, x2, x3, x4⟩ x5 => ?_
  refine flightX x1 x2 x3 x5 fun h₂ y1 y2 y3 y4 y5 => ?_
  obtain ⟨_, _, y2⟩ := y2
  exact h h₂ ⟨y1, hen, y2, y3⟩ (fun b o q hn => by
    obtain ⟨sl, z⟩ := x4 b o q hn
    exact ⟨sl, y4 b _ z hn⟩) y5
end

section
variable {M : Model} {A : Around} {E : Value → Shared → Prop} {s' : Shared} {base g h : Heap} {outer : List Env} {L a e : Addr} {m : Str → Option Value} {name : Str} {scope : Scope} {cd : Value} {cl : List (Str × Addr)} {Q : Unit → Shared → Prop} {news : List (Addr × Obj)} {oe : Obj} {vs : Array Value} {a0 : Value}
theorem hid (K : Below A base outer g) (F : Fr g L h m) (N : News g L h news) (hnew : h.get? e = none) (hkp : ∀ b o, h.get? b = some o → s'.heap.get? b = some o) (hk : scope.kind = .function) :
    ∃ B, base.StaysIn B ∧ (∀ b o, g.get? b = some o → b ∉ outer.filterMap (·.frame) → B.get? b = some o) ∧ (∀ q ∈ news, B.get? q.1 = some q.2 ∧ g.get? q.1 = none ∧ base.get? q.1 = none) ∧ B.get? e = none ∧ B.StaysIn s'.heap ∧
      s'.heap.FunFrames B (envX name scope L a cd cl :: outer) ∧ (A.deeper (envX name scope L a cd cl)).frames = some (envX name scope L a cd cl :: outer) := by
  have K' := pushX (env := envX name scope L a cd cl) K F rfl hk
  have hin : ∀ env ∈ (envX name scope L a cd cl :: outer), ∀ b, env.frame = some b → b ∈ (envX name scope L a cd cl :: outer).filterMap (·.frame) := fun env he b hb => List.mem_filterMap.mpr ⟨env, he, hb⟩
  have mem : ∀ {b}, b ∈ (envX name scope L a cd cl :: outer).filterMap (·.frame) → b = L ∨ b ∈ outer.filterMap (·.frame) := fun {b} hb => by
    obtain ⟨env, he, hf⟩ := List.mem_filterMap.mp hb
    rcases List.mem_cons.mp he with rfl | he
    · exact .inl (Option.some.inj hf).symm
    · exact .inr (List.mem_filterMap.mpr ⟨env, he, hf⟩)
  refine ⟨hideAll h ((envX name scope L a cd cl :: outer).filterMap (·.frame)), fun b o q => hideAll_get _ (K'.stays b o q) fun hm => ?_, fun b o q nm => hideAll_get _ (F.keep b o q) fun hm => ?_, fun q hq => ⟨hideAll_get _ (N q hq).1 fun hm => ?_, (N q hq).2.2, fresh_of_stays K.stays (N q hq).2.2⟩,
    kts_none (fun b o q => of_hideAll _ q) hnew, fun b o q => hkp b o (of_hideAll _ q), (funFrames_hide K'.frames hin).of_keeps fun b o q _ => ⟨o, hkp b o q, rfl⟩, K'.stack⟩
  · rw [(K'.frames.mem hm).1] at q; cases q
  · rcases mem hm with z | z
    · rw [z, kts_self F] at q; cases q
    · exact nm z
  · rcases mem hm with z | z
    · exact (N q hq).2.1 z
    · obtain ⟨o, ho, _⟩ := (K.frames.mem z).2
      rw [(N q hq).2.2] at ho; cases ho
theorem leave_any (he : s'.heap.get? e = some oe) (hd : oe.data = .fields vs) (h1 : vs[1]? = some .none) (h0 : vs[0]? = some a0) (hnew : h.get? e = none) (hkp : ∀ b o, h.get? b = some o → s'.heap.get? b = some o)
    (K : Below A base outer g) (F : Fr g L h m) (N : News g L h news) (hQ : ∀ h', RaisedSN base g outer e oe.cls news h' → g.UpToSlots h' → Q () { s' with heap := h' }) (hk : scope.kind = .function := by rfl) :
    wpAny M (A.deeper (envX name scope L a cd cl)) (leaving (envX name scope L a cd cl) (.ref e)) Q E s' := by
  obtain ⟨B, b1, b2, b3, b4, b5, b6, b7⟩ := hid (name := name) (scope := scope) (a := a) (cd := cd) (cl := cl) K F N hnew hkp hk
  refine wpAny_leaving_firstW (a0 := a0) b7 b6 rfl he b5 b4 hd h1 h0 fun h' hL => ?_
  obtain ⟨k1, ⟨_, _, k2⟩, k3, k4⟩ := hL
  exact hQ h' ⟨B, a0, b1, b2, b3, k1, b4, k2, k3⟩ (((Heap.UpToSlots.of_keeps F.keep).trans (Heap.UpToSlots.of_keeps hkp)).trans k4)
theorem leave_ctx (he : s'.heap.get? e = some oe) (hd : oe.data = .fields vs) (h1 : vs[1]? = some .none) (h0 : vs[0]? = some a0) (h2 : vs[2]? = some .none) (hnew : h.get? e = none) (hkp : ∀ b o, h.get? b = some o → s'.heap.get? b = some o)
    (K : Below A base outer g) (F : Fr g L h m) (N : News g L h news) (hQ : ∀ h', RaisedSN base g outer e oe.cls news h' → g.UpToSlots h' → CtxAt h' e → Q () { s' with heap := h' }) (hk : scope.kind = .function := by rfl) :
    wpAny M (A.deeper (envX name scope L a cd cl)) (leaving (envX name scope L a cd cl) (.ref e)) Q E s' := by
  obtain ⟨B, b1, b2, b3, b4, b5, b6, b7⟩ := hid (name := name) (scope := scope) (a := a) (cd := cd) (cl := cl) K F N hnew hkp hk
  refine leaveX (a0 := a0) b7 b6 rfl he b5 b4 hd h1 h0 h2 fun h' hfl k4 hc => ?_
  exact hQ h' ⟨B, a0, b1, b2, b3, hfl⟩ (((Heap.UpToSlots.of_keeps F.keep).trans (Heap.UpToSlots.of_keeps hkp)).trans k4) hc
/-- a new exception leaves the frame that made it -/
theorem leave_mkC {cls : String} {vs : List Value} (hx : Heap.MadeExc h s'.heap e cls vs) (K : Below A base outer g) (F : Fr g L h m) (N : News g L h news)
    (hQ : ∀ h', RaisedSN base g outer e (.type cls) news h' → g.UpToSlots h' → CtxAt h' e → Q () { s' with heap := h' }) (hk : scope.kind = .function := by rfl) :
    wpAny M (A.deeper (envOf name scope L a cd)) (leaving (envOf name scope L a cd) (.ref e)) Q E s' := by
  obtain ⟨t, he, _, _⟩ := hx.there
  exact leave_ctx (cl := []) (oe := { cls := .type cls, data := .fields #[.ref t, .none, .none, .none, .bool false, .none] }) he rfl rfl rfl rfl hx.new hx.keeps K F N hQ hk
end

section
variable {prog : Program} {w : World} {A : Around} {E : Value → Shared → Prop} {s : Shared} {env : Env}
theorem unchain_plain {e h : Addr} {oe : Obj} {vs : Array Value} {Q : Value → Shared → Prop} (he : s.heap.get? h = some oe) (hd : oe.data = .fields vs) (h2 : vs[2]? = some .none) (hq : Q .none s) :
    wpAny (model prog w) A (runValue (.builtin "proto.unchain" ⟨[.ref e, .ref h, .ref h, .bool false], []⟩)) Q E s := by
  refine wpAny_runValue (codeAny_builtin (b := Builtin.«proto.unchain») (entryFor_of_fast (by kernel_rfl)) ?_)
  unfold Builtin.«proto.unchain»
  refine wpAny_bind (wpAny_field he hd h2 ?_)
  rw [if_pos (by decide)]
  exact wpAny_pure hq
/-- raise within a clause that holds an exception -/
theorem raise_in {cls : String} (F : ExcRaiseFacts cls) {h : Addr} {x : Sem Value} {Q : Flow → Shared → Prop} (hh : A.handled = some (.ref h))
    (hx : wpAny (model prog w) A x (fun v s₁ => ∃ e t, v = .ref e ∧ s₁.heap.get? e = some { cls := .type cls, data := .fields #[.ref t, .none, .none, .none, .bool false, .none] } ∧ h ≠ e ∧ CtxAt s₁.heap h ∧
      E (.ref e) { s₁ with heap := s₁.heap.update e (Obj.mapFields (·.setIfInBounds 2 (.ref h))) }) E s) :
    wpAny (model prog w) A (raiseStmt env (some x) none) Q E s := by
  unfold raiseStmt
  refine wpAny_bind (wpAny_mono hx (fun v s₁ h₁ => ?_) fun _ _ x => x)
  obtain ⟨e, t, rfl, he, hne, hc, hE⟩ := h₁
  obtain ⟨hp, g, d, tk, os⟩ := s₁
  have hsub := F.isExc
  have hmeta := F.plainMeta
  obtain ⟨oh, hs, q1, q2, q3⟩ := hc
  repeat (first | refine wpAny_loadPart he ?_ | wp_step)
  unfold raiseNew
  refine wpAny_bind (wpAny_handled ?_)
  rw [hh]
  dsimp only
  rw [if_pos (show ((Value.ref h != Value.ref e) = true) from by simp [bne_iff_ne, hne])]
  refine wpAny_bind (wpAny_holding (unchain_plain q1 q2 q3 ?_))
  unfold updateField
  refine wpAny_bind (wpAny_bind (wpAny_load he ?_))
  dsimp only
  rw [if_pos (by show 2 < 6; decide)]
  exact wpAny_update he (wpAny_throw hE)
end

section
variable {prog : Program} {w : World} {A₀ : Around} {E : Value → Shared → Prop} {s' : Shared} {base g g₀ G : Heap} {outer : List Env} {L a e : Addr} {m : Str → Option Value} {name : Str} {scope : Scope} {cd : Value} {cl : List (Str × Addr)}
  {b₀ : Stmt} {suite : List Stmt} {pos np : Pos} {rest : List ExceptHandler} {Q : Flow → Shared → Prop} {news : List (Addr × Obj)} {KF : Frag}
  {p : Program} {loose : List Str} {mean : ExcName → Option Value} {mg mb : Str → Option Value} {x : Str} {X T' : String}
theorem caught_C (hc : CtxAt s'.heap e) (R : RaisedSN base G (envX name scope L a cd cl :: outer) e (.type X) news s'.heap) (F : Fr g L G m) (K : Below A₀ base outer g) (hsm : G.UpToSlots s'.heap) (XB : KF.In base) (TB : Top p loose mean mg mb base)
    (T0 : KtsTurn (outer.filterMap (·.frame)) g₀ g)
    (ex : nsIn KF mainGlobals x = some none) (hv : bootBuiltins x = some (.type T')) (hn' : x ≠ "__name__")
    (hexc : isSubtype (.type T') (.type "BaseException") = pure true) (hnt : isSubtype (.type ((Manifest.find? T').elim "type" fun y => y.metatype)) (.type "tuple") = pure false) (hsub : isSubtype (.type X) (.type T') = pure true)
    (hE : PassesOwnAt (model prog w) ((A₀.deeper (envX name scope L a cd cl)).mark (some (.ref e))) (A₀.deeper (envX name scope L a cd cl)) (envX name scope L a cd cl) E)
    (k : ∀ h' g' oe ws, KtsTurn (outer.filterMap (·.frame)) g₀ g' → Fr g' L h' m → News g' L h' ((e, oe) :: news) → oe.data = .fields ws → ws[2]? = some .none → Below A₀ base outer g' → KF.In g' → Top p loose mean mg mb g' →
      wpAny (model prog w) ((A₀.deeper (envX name scope L a cd cl)).mark (some (.ref e))) (execs (b₀ :: suite) (envX name scope L a cd cl)) Q E { s' with heap := h' })
    (hk : scope.kind = .function := by rfl) (hx : (envX name scope L a cd cl).kindOf x = some .globalImplicit := by rfl) (hd : (x == ("__debug__" : Str)) = false := by decide) :
    wpAny (model prog w) (A₀.deeper (envX name scope L a cd cl)) (noteFrame (.ref e) (envX name scope L a cd cl))
      (fun _ s₂ => wpAny (model prog w) (A₀.deeper (envX name scope L a cd cl)) (setFlight (.ref e) none) (fun _ s₃ =>
        wpAny (model prog w) (A₀.deeper (envX name scope L a cd cl)) (handleBy (.ref e) (envX name scope L a cd cl) (.ExceptHandler (some (.Name x np)) none (b₀ :: suite) pos :: rest)) Q E s₃) E s₂) E s' := by
  obtain ⟨B, a0, hB, hBG, hl, hfl⟩ := R
  have hL : B.get? L = none := by
    obtain ⟨_, ⟨L', _, hf, hn', _⟩, _⟩ := hfl.2.2.1
    obtain rfl : L = L' := Option.some.inj hf
    exact hn'
  refine noteX (Around.frames_deeper K.stack) rfl hfl hc fun h₄ hheld₄ hsm₄ hc₄ => ?_
  obtain ⟨q1, q2, q3, q4⟩ := hheld₄
  refine flightX q1 q3 q4 hc₄ fun h₅ r1 r2 r3 r4 hc₅ => ?_
  have hsm₅ := hsm₄.trans (fun b o q hn => ⟨o.slots, r4 b o q hn⟩ : h₄.UpToSlots h₅)
  obtain ⟨g₅, T₅, F₅, K₅⟩ := kts_ground (name := name) (scope := scope) (a := a) (cd := cd) K F hBG r1 (hsm.trans hsm₅)
  have X₅ : KF.In g₅ := XB.keeps K₅.stays
  have P₅ : TopRead p loose mg mb g₅ := topRead_of (TB.keeps K₅.stays)
  obtain ⟨ob, hob, hobc⟩ := Heap.FlyingW.there (l := envX name scope L a cd cl :: outer) ⟨r1, q2, r2, r3⟩
  refine wpAny_handleBy_builtin (X := X) (T := T') (b := true) hexc hnt hsub (nameX_B F₅ X₅ P₅ ex hv hn' ⟨rfl, ⟨ob, hob, hobc⟩, ?_⟩ hk hx hd)
  refine flightX r1 r2 r3.at hc₅ fun h₆ t1 t2 t3 t4 hc₆ => ?_
  have hsm₆ := hsm₅.trans (fun b o q hn => ⟨o.slots, t4 b o q hn⟩ : h₅.UpToSlots h₆)
  obtain ⟨g₆, T₆, F₆, K₆⟩ := kts_ground (name := name) (scope := scope) (a := a) (cd := cd) K F hBG t1 (hsm.trans hsm₆)
  obtain ⟨oe, ws, c1, c2, c3⟩ := hc₆
  have ne₆ : g₆.get? e = none := T₆.none_ _ (kts_fresh (name := name) (scope := scope) (a := a) (cd := cd) F hBG q2 fun o ho m => by
    obtain ⟨_, o', ho', hd⟩ := K.frames.mem m
    rw [ho] at ho'
    cases ho'
    obtain ⟨sl, hs⟩ := (hsm.trans hsm₆) _ _ (F.keep _ _ ho) hd
    rw [c1] at hs
    cases hs
    exact hd _ c2)
  have Nl : News g₆ L h₆ news := fun q hq => ⟨t1 _ _ (hl q hq).1, (fun z => by have := (hl q hq).1; rw [z, hL] at this; cases this), T₆.none_ _ (kts_none F.keep (hl q hq).2.1)⟩
  have Ne := News.more F₆ Nl c1 (fun es n q => by rw [c2] at q; cases q) ne₆
  have X₆ : KF.In g₆ := XB.keeps K₆.stays
  have P₆ : Top p loose mean mg mb g₆ := TB.keeps K₆.stays
  exact wpAny_passesOwnAt hE (k h₆ g₆ oe ws (T0.trans T₆) F₆ Ne c2 c3 K₆ X₆ P₆)
end
section
variable {prog : Program} {w : World} {A : Around} {E : Value → Shared → Prop} {s : Shared} {env : Env}
theorem raise_call_in {cls newId initId : String} (F : ExcCallFacts cls newId initId) (G : ExcRaiseFacts cls) {hA : Addr} {x : Str} {np cpos pos : Pos} {e₀ : PySem.Expr} {rest : List PySem.Expr} {Q : Flow → Shared → Prop} (hh : A.handled = some (.ref hA))
    (h : wpAny (model prog w) A (eval (.Name x np) env) (fun f s₁ => f = .type cls ∧ wpAny (model prog w) A (spliced (backTo cpos (starEach (e₀ :: rest) env))) (fun vs s₂ => vs.length ≤ sizeLine ∧ CtxAt s₂.heap hA ∧
      ∀ h' e t, h'.get? e = some { cls := .type cls, data := .fields #[.ref t, .none, .ref hA, .none, .bool false, .none] } → s₂.heap.get? e = none → (∀ b o, s₂.heap.get? b = some o → h'.get? b = some o) → E (.ref e) { s₂ with heap := h' }) E s₁) E s)
    (he : starEach (e₀ :: rest) env = (false, eval e₀ env) :: starEach rest env := by rfl) (hplain : (backTo cpos (starEach rest env)).any (·.1) = false := by rfl) :
    wpAny (model prog w) A (exec (.Raise (some (.Call (.Name x np) (e₀ :: rest) [] cpos)) none pos) env) Q E s := by
  have core : wpAny (model prog w) A (eval (.Call (.Name x np) (e₀ :: rest) [] cpos) env) (fun v s₁ => ∃ e t, v = .ref e ∧ s₁.heap.get? e = some { cls := .type cls, data := .fields #[.ref t, .none, .none, .none, .bool false, .none] } ∧ hA ≠ e ∧ CtxAt s₁.heap hA ∧
      E (.ref e) { s₁ with heap := s₁.heap.update e (Obj.mapFields (·.setIfInBounds 2 (.ref hA))) }) E s := by
    refine wpAny_Call_ofName (wpAny_mono h (fun f s₁ h₁ => ?_) fun _ _ x => x)
    obtain ⟨rfl, h₁⟩ := h₁
    have hp2 : (backTo cpos (starEach (e₀ :: rest) env)).any (·.1) = false := by
      rw [he]; show (false || (backTo cpos (starEach rest env)).any (·.1)) = false; rw [hplain]; rfl
    refine callWith_excType hp2 ?_
    rw [he] at h₁ ⊢
    refine Calls.evalArgs_plain (wpAny_mono h₁ (fun vs s₂ h₂ => ?_) fun _ _ x => x)
    obtain ⟨hlen, hc, h₃⟩ := h₂
    obtain ⟨hp, g, d, tk, os⟩ := s₂
    refine wpAny_call_exc F (hrest := hlen) fun h' e hm => ?_
    obtain ⟨t, ht, hnt, _⟩ := hm.there
    obtain ⟨oc, cs, c1, c2, c3⟩ := hc
    refine ⟨e, t, rfl, ht, fun z => ?_, ⟨oc, cs, hm.keeps _ _ c1, c2, c3⟩, h₃ _ e t ?_ hm.new fun b o q => ?_⟩
    · rw [z, hm.new] at c1; cases c1
    · exact Heap.get?_update_self _ ht rfl
    · refine (Heap.get?_update_other _ _ fun z => ?_).trans (hm.keeps b o q)
      rw [← z, hm.new] at q; cases q
  rw [arm_exec_Raise]
  first
    | exact wpAny_bind (wpAny_standAt (raise_in G hh (wpAny_bind (wpAny_mono core (fun v s₁ h₁ => wpAny_bind (wpAny_standAt (wpAny_pure h₁))) fun _ _ x => x))))
    | (show wpAny (model prog w) A (do standAt pos; raiseStmt env (some (do let v ← eval (.Call (.Name x np) (e₀ :: rest) [] cpos) env; standAt pos; pure v)) none) Q E s; exact wpAny_bind (wpAny_standAt (raise_in G hh (wpAny_bind (wpAny_mono core (fun v s₁ h₁ => wpAny_bind (wpAny_standAt (wpAny_pure h₁))) fun _ _ x => x)))))
end
theorem Raised.ro {c ro c' : List (Addr × Obj)} {base h h' : Heap} {l : List Env} {e : Addr} {cls : Value} (R : Raised ((c ++ ro).map (·.1)) (c' ++ ro) base l e cls h h') (hr : ∀ z ∈ ro, h.get? z.1 = some z.2) : Raised (c.map (·.1)) c' base l e cls h h' := by
  obtain ⟨B, a0, b1, b2, b3, b4, b5⟩ := R
  refine ⟨B, a0, b1, fun b o n nf q => ?_, fun z hz => b3 z (List.mem_append_left _ hz), b4, b5⟩
  by_cases m : b ∈ ro.map (·.1)
  · obtain ⟨z, hz, rfl⟩ := List.mem_map.mp m
    rw [hr z hz] at q; cases q
    exact b3 z (List.mem_append_right _ hz)
  · exact b2 b o (fun z => by
      rw [List.map_append] at z
      rcases List.mem_append.mp z with z | z
      · exact n z
      · exact m z) nf q
theorem RaisedSN.sub {base G h : Heap} {l : List Env} {e : Addr} {cls : Value} {n1 n2 : List (Addr × Obj)} (R : RaisedSN base G l e cls n1 h) (s : ∀ z ∈ n2, z ∈ n1) : RaisedSN base G l e cls n2 h := by
  obtain ⟨B, a0, hB, hBG, hl, hfl⟩ := R
  exact ⟨B, a0, hB, hBG, fun z hz => hl z (s z hz), hfl⟩
end Mine
end

section
theorem Mine.quietNextE : True := by
  w_top off
  trivial
open PySem PySem.W PySem.Spec PySem.Calls PyProof.Rows
set_option Elab.async false
set_option maxRecDepth 100000
set_option maxHeartbeats 8000000
namespace Mine
theorem row_eqP {Fp : List (Addr × Obj) → Prop} {P : Params} {r : Row} {els : List Value} {n : Nat} {len : Bool} {lenV sedV : Value} {its : Array Value} {p en ix : Int} {a0 a1 a2 a3 a4 a5 a6 a7 a8 a9 a10 a11 a12 : Tok}
    (h : Fp [(r.x, instObj 152 r.d), (r.d, dictOf [ent P "rlp" a0 (.bytes r.c.toArray a8), ent P "start" a1 (.int p a9), ent P "end" a2 (.int en a10), ent P "index" a3 (.int ix a11),
      ent P "_elements" a4 (.ref r.el), ent P "_len" a5 lenV, ent P "sedes" a6 sedV, ent P "sedes_kwargs" a7 (.ref r.kw)] 8), (r.el, W.listOf its n)])
    (hi : its = els.toArray) (hp : p = ((r.p : Nat) : Int)) (he : en = ((r.en : Nat) : Int)) (hx : ix = ((({ r with els := els } : Row).ix : Nat) : Int)) (hl : lenV = if len then .int (r.kids.length : Int) a12 else .none) (hs : sedV = r.sedV) :
    ∃ τ', Fp (({ r with els := els, eln := n, τ := τ', len := len } : Row).cells P) := by
  subst hi hp he hx hl hs
  exact ⟨fun i => match i with | 0 => a0 | 1 => a1 | 2 => a2 | 3 => a3 | 4 => a4 | 5 => a5 | 6 => a6 | 7 => a7 | 8 => a8 | 9 => a9 | 10 => a10 | 11 => a11 | 12 => a12 | _ => 0, h⟩
theorem filled7 (w : World) (h : Heap) (X : (Mine.hd.heap_39 w.params).In h) : Challenge.rw_sx0040_01 = Challenge.rw_sx0040_01 := by
  revert X; k_fill; intro _; rfl
local macro_rules | `(tactic| tb_start) => `(tactic| repeat' ((fail_if_success (with_reducible show wpAny _ _ (call (Value.ref 113) _) _ _ _)); (fail_if_success (with_reducible show wpAny _ _ (exec (Stmt.While _ _ _ _) _) _ _ _)); (fail_if_success (with_reducible show wpAny _ _ (exec (Stmt.For _ _ _ _ _) _) _ _ _)); (fail_if_success (with_reducible show wpAny _ _ (pyIter _) _ _ _)); first | (k_unfold; (try dsimp only)) | (k_end; wrow_close) | walk1 | (dsimp only; walk1) | (leave1; walk_say "STEP leave1"; try dsimp only) | fail "no step"))
local macro_rules | `(tactic| walk_at "call builtin:len") => `(tactic| (k_here; (with_reducible show wpAny _ _ (call (Value.builtin _) [Value.ref _]) _ _ _); k_dflt (refine' len_L ?k1 ?k2 ?k3 ?_; (case k1 => k_asm); (case k2 => k_mem); (case k3 => omega); k_whole)))
local macro_rules | `(tactic| walk_at "leaving ref") => `(tactic| (k_here; k_dflt (refine' leave_mkC ?k0 ?k1 ?k2 ?k3 ?_; (case k0 => assumption); (case k1 => assumption); (case k2 => assumption); (case k3 => k_asm); k_whole); intro h' R' U' C'; (try dsimp only at R' U' ⊢)))
theorem nextE_spec {w : World} {mean : ExcName → Option Value} {mg mb : Str → Option Value} {base : Heap} {l : List Env} {s : Shared} {Q E : Value → Shared → Prop} {r : Row}
  (AM : Amb w mean mg mb base) (B : Below (topA 500 2000 l) base l s.heap) (C : Cells s.heap base l (r.cells w.params)) (n1 : @Ne Nat r.x r.d) (n2 : @Ne Nat r.x r.el) (n3 : @Ne Nat r.d r.el) (ok : r.Ok)
  (hk : r.els.length = r.kids.length)
  (ret : ∀ e τ' h' tk', Raised [r.x, r.d, r.el] (({ r with len := true, τ := τ' } : Row).cells w.params) base l e (.type "StopIteration") s.heap h' → CtxAt h' e → E (.ref e) {s with heap := h', toks := tk'}) :
  wpAny (model PRG w) (topA 500 2000 l) (call (.ref 135) [.ref r.x]) Q E s := by
  have hend := r.ix_end hk
  obtain ⟨hsm, _⟩ := ok.els
  have C' := C
  simp only [Row.cells, Row.dict, rowD, hend] at C
  k_dflt (refine' enterE (rb := [(Str.ofString "self", .ref r.x)]) AM B C ?k6 ?k7 ?k8 ?k9 ?kL ?cr ?c2 ?c3 ?c4 ?c5 ?_; (case k6 => k_is); (case k7 => k_is); (case k8 => first | exact Nat.lt_of_sub_eq_succ rfl | exact hdep); (case k9 => first | exact BindsTo.of_eq rfl | exact kp_binds (AM.X.keeps B.stays) (fun _ => rfl)); (case kL => exact locs rfl); (case cr => exact rfl); (case c2 => exact rfl); (case c3 => exact rfl); (case c4 => exact rfl); (case c5 => decide); k_whole)
  intro g L' h' hg F N B' X' T' lt
  dsimp only [bmap] at F ⊢
  try k_fold
  tb_start
  all_goals (try (exfalso; omega))
  rename RaisedSN _ _ _ _ _ _ _ => R₁
  rename Heap.UpToSlots _ _ => U₁
  obtain ⟨τ', hz⟩ := row_eqP (Fp := fun c => RaisedSN base g l _ _ c _) (r := r) (len := true) (els := r.els) R₁ rfl rfl rfl (by rw [← hend]) (by rw [← hk]; rfl) rfl
  exact ret _ τ' _ _ (raised_of (cells0 := [(r.x, _), (r.d, _), (r.el, _)]) hg C B' KtsTurn.refl hz U₁) (by assumption)
end Mine
end

section
theorem Mine.quietNx : True := by
  w_top off
  trivial
open PySem PySem.W PySem.Spec PySem.Calls PyProof.Rows
set_option Elab.async false
set_option maxRecDepth 100000
set_option maxHeartbeats 8000000
namespace Mine
/-- what a kid is read as, and what is new with it -/
def Kid (P : Params) : Tr → Value → List (Addr × Obj) → Prop
  | .leaf b, v, nw => (∃ t, v = .bytes b.toArray t) ∧ nw = []
  | .num n, v, nw => (∃ t, v = .int (n : Int) t) ∧ nw = []
  | .node ts, v, nw => ∃ q : Row, v = .ref q.x ∧ nw = q.cells P ∧ [q.x, q.d, q.el].Nodup ∧ q.Ok ∧ q.kids = ts ∧ q.els = [] ∧ q.len = false ∧ q.sed = none
def NoNum : Tr → Prop
  | .num _ => False
  | _ => True
def IsNum : Tr → Prop
  | .num n => n < 65536
  | _ => False
/-- the objects that a row's reading leans on -/
def Typed (P : Params) (r : Row) (ro : List (Addr × Obj)) : Prop :=
  (r.sed = none ∧ ro = [] ∧ ∀ t ∈ r.kids, NoNum t) ∨
  ∃ be bd t0 ko, r.sed = some be ∧ ro = [(r.kw, ko), (be, instObj 196 bd), (bd, beD P t0)] ∧ EmptyO ko ∧ (r.kw == sysModules) = false ∧ ∀ t ∈ r.kids, IsNum t
theorem mem_of_get {α} {l : List α} {i : Nat} {x : α} (h : l[i]? = some x) : x ∈ l := List.mem_of_getElem? h
theorem next_spec {w : World} {mean : ExcName → Option Value} {mg mb : Str → Option Value} {base : Heap} {l : List Env} {s : Shared} {Q E : Value → Shared → Prop} {r : Row} {ro : List (Addr × Obj)} {t : Tr}
  (AM : Amb w mean mg mb base) (B : Below (topA 500 2000 l) base l s.heap) (C : Cells s.heap base l (r.cells w.params ++ ro)) (nd : ((r.cells w.params ++ ro).map (·.1)).Nodup) (ok : r.Ok) (ty : Typed w.params r ro)
  (hk : r.kids[r.els.length]? = some t)
  (ret : ∀ v nw τ' n' h' tk', Kp [r.x, r.d, r.el] s.heap h' → (∀ z ∈ ({ r with els := r.els ++ [v], τ := τ', eln := n' } : Row).cells w.params, h'.get? z.1 = some z.2) → (∀ z ∈ nw, h'.get? z.1 = some z.2) → (∀ z ∈ nw, s.heap.get? z.1 = none) → (nw.map (·.1)).Nodup → Kid w.params t v nw → Q v {s with heap := h', toks := tk'}) :
  wpAny (model PRG w) (topA 500 2000 l) (call (.ref 135) [.ref r.x]) Q E s := by
  have C1 : Cells s.heap base l (r.cells w.params) := fun z hz => C z (List.mem_append_left _ hz)
  have nd' := nd
  simp only [Row.cells, List.map_append, List.map_cons, List.map_nil, List.cons_append, List.nil_append, List.nodup_cons, List.mem_cons, not_or] at nd'
  obtain ⟨⟨n1, n2, n4⟩, ⟨n3, n5⟩, n6, _⟩ := nd'
  rcases ty with ⟨hs, hro, hty⟩ | ⟨be, bd, t0, ko, hs, hro, hko, hks, hty⟩
  · have hT := hty t (mem_of_get hk)
    cases t with
    | leaf b => exact nextB_spec AM B C1 n1 n2 n3 ok hk hs fun t τ' n' h' tk' k1 k2 => ret _ [] τ' n' h' tk' k1 k2 (fun _ hz => nomatch hz) (fun _ hz => nomatch hz) List.nodup_nil ⟨⟨t, rfl⟩, rfl⟩
    | num n => exact hT.elim
    | node ts => exact nextN_spec AM B C1 n1 n2 n3 ok hk hs fun q τ' n' h' tk' k1 k2 k3 k4 k5 k6 k7 k8 k9 k10 => ret _ (q.cells w.params) τ' n' h' tk' k1 k2 k3 (fun z hz => k4 _ (by
        simp only [Row.cells, List.mem_cons, List.not_mem_nil, or_false] at hz
        rcases hz with rfl | rfl | rfl <;> simp)) k5 ⟨q, rfl, rfl, k5, k6, k7, k8, k9, k10⟩
  · have hT := hty t (mem_of_get hk)
    subst hro
    simp only [List.map_cons, List.map_nil, List.mem_cons, List.not_mem_nil, or_false, not_or] at n4 n5 n6
    cases t with
    | leaf b => exact hT.elim
    | node b => exact hT.elim
    | num n => exact nextS_spec AM B C n1 n2 n3 ⟨n5.1, n5.2.1, n5.2.2, n6.1, n6.2.1, n6.2.2, n4.1, n4.2.1, n4.2.2⟩ ok hk hs hko hks hT fun t τ' n' h' tk' k1 k2 => ret _ [] τ' n' h' tk' k1 k2 (fun _ hz => nomatch hz) (fun _ hz => nomatch hz) List.nodup_nil ⟨⟨t, rfl⟩, rfl⟩
end Mine
end

section
theorem Mine.quietGetI : True := by
  w_top off
  trivial
open PySem PySem.W PySem.Spec PySem.Calls PyProof.Rows
set_option Elab.async false
set_option maxRecDepth 100000
set_option maxHeartbeats 8000000
namespace Mine
/-- what a run of kids is read as -/
inductive Kids (P : Params) : List Tr → List Value → List (Addr × Obj) → Prop
  | nil : Kids P [] [] []
  | snoc {ts vs nws t v nw} : Kids P ts vs nws → Kid P t v nw → Kids P (ts ++ [t]) (vs ++ [v]) (nw ++ nws)
theorem Kids.len {P : Params} {ts : List Tr} {vs : List Value} {nws : List (Addr × Obj)} (h : Kids P ts vs nws) : ts.length = vs.length := by
  induction h with
  | nil => rfl
  | snoc _ _ ih => rw [List.length_append, List.length_append, ih]; rfl
/-- a row as some reading left it: n more kids read -/
structure Rd (P : Params) (r r' : Row) (h0 : Heap) (nws : List (Addr × Obj)) : Prop where
  same : r'.x = r.x ∧ r'.d = r.d ∧ r'.el = r.el ∧ r'.kw = r.kw ∧ r'.c = r.c ∧ r'.kids = r.kids ∧ r'.p = r.p ∧ r'.sed = r.sed
  ok : r'.Ok
  els : ∃ vs, r'.els = r.els ++ vs ∧ Kids P ((r.kids.drop r.els.length).take vs.length) vs nws
  fresh : ∀ z ∈ nws, h0.get? z.1 = none
  nd : (nws.map (·.1)).Nodup
theorem Rd.refl {P : Params} {r : Row} {h0 : Heap} (o : r.Ok) : Rd P r r h0 [] := ⟨⟨rfl, rfl, rfl, rfl, rfl, rfl, rfl, rfl⟩, o, ⟨[], (List.append_nil _).symm, .nil⟩, (fun _ hz => nomatch hz), List.nodup_nil⟩
theorem Row.Ok.next {r : Row} (o : r.Ok) {t : Tr} (h : r.kids[r.els.length]? = some t) (v : Value) (τ : Nat → Tok) (n : Nat) : ({ r with els := r.els ++ [v], τ := τ, eln := n } : Row).Ok := by
  have hlt : r.els.length < r.kids.length := by
    rcases Nat.lt_or_ge r.els.length r.kids.length with q | q
    · exact q
    · rw [List.getElem?_eq_none q] at h; cases h
  refine ⟨o.lay, o.small, ?_, fun hl => ?_⟩
  · show (r.els ++ [v]).length ≤ r.kids.length
    rw [List.length_append]; simp; omega
  · have := o.whole hl; omega
theorem Rd.next {P : Params} {r r' : Row} {h0 h : Heap} {nws nw : List (Addr × Obj)} {t : Tr} {v : Value} (R : Rd P r r' h0 nws) (hk : r'.kids[r'.els.length]? = some t) (K : Kid P t v nw) (τ : Nat → Tok) (n : Nat)
    (f1 : ∀ z ∈ nw, h.get? z.1 = none) (f2 : ∀ z ∈ nws, h.get? z.1 = some z.2) (f3 : ∀ b o, h0.get? b = some o → ∃ o', h.get? b = some o') (hnd : (nw.map (·.1)).Nodup) :
    Rd P r { r' with els := r'.els ++ [v], τ := τ, eln := n } h0 (nw ++ nws) := by
  obtain ⟨sm, ok, ⟨vs, e1, e2⟩, fr, nd⟩ := R
  obtain ⟨s1, s2, s3, s4, s5, s6, s7, s8⟩ := sm
  refine ⟨⟨s1, s2, s3, s4, s5, s6, s7, s8⟩, ok.next hk v τ n, ⟨vs ++ [v], ?_, ?_⟩, fun z hz => ?_, ?_⟩
  · show r'.els ++ [v] = _
    rw [e1, List.append_assoc]
  · rw [s6, e1, List.length_append] at hk
    have hd : (r.kids.drop r.els.length)[vs.length]? = some t := by rw [List.getElem?_drop]; exact hk
    rw [List.length_append, List.length_singleton, List.take_add_one, hd]
    exact .snoc e2 K
  · rcases List.mem_append.mp hz with hz | hz
    · cases q : h0.get? z.1 with
      | none => rfl
      | some o =>
        obtain ⟨o', ho⟩ := f3 _ _ q
        rw [f1 z hz] at ho; cases ho
    · exact fr z hz
  · rw [List.map_append]
    refine List.nodup_append.mpr ⟨hnd, nd, fun a ha b hb e => ?_⟩
    obtain ⟨x, hx, rfl⟩ := List.mem_map.mp ha
    obtain ⟨y, hy, rfl⟩ := List.mem_map.mp hb
    have h1 := f1 x hx
    rw [e, f2 y hy] at h1
    cases h1

theorem nd_rows {P : Params} {r : Row} {ro : List (Addr × Obj)} (nd : ((r.cells P ++ ro).map (·.1)).Nodup) : ∀ z ∈ ro, z.1 ∉ [r.x, r.d, r.el] := by
  rw [List.map_append] at nd
  intro z hz q
  exact (List.nodup_append.mp nd).2.2 _ q _ (List.mem_map_of_mem hz) rfl
theorem cells_map {P : Params} {r : Row} : (r.cells P).map (·.1) = [r.x, r.d, r.el] := rfl
section
variable {w : World} {mean : ExcName → Option Value} {mg mb : Str → Option Value} {base : Heap} {l : List Env} {s : Shared} {Q E : Value → Shared → Prop} {d u : Nat} {g h0 : Heap} {L : Addr} {m : Str → Option Value} {env : Env} {r r' : Row} {ro nws : List (Addr × Obj)}
/-- all that a reading needs to know of where it stands -/
structure At (P : Params) (base : Heap) (l : List Env) (d u : Nat) (r r' : Row) (ro : List (Addr × Obj)) (h0 g : Heap) (L : Addr) (m : Str → Option Value) (nws : List (Addr × Obj)) (h : Heap) : Prop where
  B : Below (topA d u l) base l g
  F : Fr g L h m
  N : News g L h (r'.cells P ++ (ro ++ nws))
  R : Rd P r r' h0 nws
theorem At.f3 {P : Params} {h : Heap} (A : At P base l d u r r' ro h0 g L m nws h) (hg : ∀ b o, h0.get? b = some o → b ∉ (r.cells P ++ ro).map (·.1) → ∃ o', g.get? b = some o') : ∀ b o, h0.get? b = some o → ∃ o', h.get? b = some o' := by
  intro b o e
  by_cases q : b ∈ (r.cells P ++ ro).map (·.1)
  · obtain ⟨z, hz, rfl⟩ := List.mem_map.mp q
    obtain ⟨⟨s1, s2, s3, _⟩, _⟩ := A.R
    rcases List.mem_append.mp hz with hz | hz
    · have : z.1 ∈ (r'.cells P).map (·.1) := by
        rw [cells_map, s1, s2, s3]; exact List.mem_map_of_mem (f := (·.1)) hz
      obtain ⟨y, hy, e⟩ := List.mem_map.mp this
      exact ⟨_, by rw [← e]; exact (A.N y (List.mem_append_left _ hy)).1⟩
    · exact ⟨_, (A.N z (List.mem_append_right _ (List.mem_append_left _ hz))).1⟩
  · obtain ⟨o', e'⟩ := hg b o e q
    exact ⟨o', A.F.keep _ _ e'⟩
theorem At.rest {P : Params} {h : Heap} (A : At P base l d u r r' ro h0 g L m nws h) (nd : ((r.cells P ++ ro).map (·.1)).Nodup) (hc : ∀ z ∈ r.cells P, ∃ o, h0.get? z.1 = some o) : ∀ p ∈ ro ++ nws, p ∈ r'.cells P ++ (ro ++ nws) ∧ p.1 ∉ (r'.cells P).map (·.1) := by
  intro p hp
  refine ⟨List.mem_append_right _ hp, fun q => ?_⟩
  obtain ⟨⟨s1, s2, s3, _⟩, _, _, fr, _⟩ := A.R
  rw [cells_map, s1, s2, s3] at q
  rcases List.mem_append.mp hp with hp | hp
  · exact nd_rows nd p hp q
  · have q' : p.1 ∈ (r.cells P).map (·.1) := q
    obtain ⟨y, hy, e⟩ := List.mem_map.mp q'
    obtain ⟨o, ho⟩ := hc y hy
    have e' : y.1 = p.1 := e
    rw [e', fr p hp] at ho; cases ho
theorem rest_ne {P : Params} (R : Rd P r r' h0 nws) (nd : ((r.cells P ++ ro).map (·.1)).Nodup) (hc : ∀ z ∈ r.cells P, ∃ o, h0.get? z.1 = some o) : ∀ p ∈ ro ++ nws, p.1 ∉ [r'.x, r'.d, r'.el] := by
  intro p hp q
  obtain ⟨⟨s1, s2, s3, _⟩, _, _, fr, _⟩ := R
  rw [s1, s2, s3] at q
  rcases List.mem_append.mp hp with hp | hp
  · exact nd_rows nd p hp q
  · have q' : p.1 ∈ (r.cells P).map (·.1) := q
    obtain ⟨y, hy, e⟩ := List.mem_map.mp q'
    obtain ⟨o, ho⟩ := hc y hy
    have e' : y.1 = p.1 := e
    rw [e', fr p hp] at ho; cases ho
theorem row_ne {P : Params} (s1 : r'.x = r.x) (s2 : r'.d = r.d) (s3 : r'.el = r.el) (nd : ((r.cells P ++ ro).map (·.1)).Nodup) : @Ne Nat r'.x r'.d ∧ @Ne Nat r'.x r'.el ∧ @Ne Nat r'.d r'.el := by
  rw [List.map_append, cells_map] at nd
  have nd' := (List.nodup_append.mp nd).1
  rw [s1, s2, s3]
  simp only [List.nodup_cons, List.mem_cons, List.not_mem_nil, or_false, not_or] at nd'
  exact ⟨nd'.1.1, nd'.1.2, nd'.2.1⟩
theorem At.held {P : Params} {h : Heap} (A : At P base l d u r r' ro h0 g L m nws h) : ∀ z ∈ r'.cells P ++ nws, h.get? z.1 = some z.2 := fun z hz => (A.N z (by
  rcases List.mem_append.mp hz with hz | hz
  · exact List.mem_append_left _ hz
  · exact List.mem_append_right _ (List.mem_append_right _ hz))).1
theorem At.kp {P : Params} {h : Heap} (A : At P base l d u r r' ro h0 g L m nws h) (hg : g = hideAll h0 ((r.cells P ++ ro).map (·.1))) (C : Cells h0 base l (r.cells P ++ ro)) {S : List Addr} (hS : S = [r.x, r.d, r.el]) : Kp S h0 h := by
  subst hS
  exact kp_ro (cells := r.cells P) (ro := ro) hg A.F (fun z hz => (C z (List.mem_append_right _ hz)).1) (fun z hz => (A.N z (List.mem_append_right _ (List.mem_append_left _ hz))).1)
theorem next_in (AM : Amb w mean mg mb base) (A : At w.params base l d u r r' ro h0 g L m nws s.heap) (hg : ∀ b o, h0.get? b = some o → b ∉ (r.cells w.params ++ ro).map (·.1) → ∃ o', g.get? b = some o') (nd : ((r.cells w.params ++ ro).map (·.1)).Nodup)
    (hc : ∀ z ∈ r.cells w.params, ∃ o, h0.get? z.1 = some o) (ty : Typed w.params r ro) (hf : env.frame = some L) (hk : env.scope.kind = .function) {t : Tr} (ht : r.kids[r'.els.length]? = some t)
    (ret : ∀ v r'' nws' h' tk', At w.params base l d u r r'' ro h0 g L m nws' h' → r''.els.length = r'.els.length + 1 → r''.len = r'.len → Q v {s with heap := h', toks := tk'}) :
    wpAny (model PRG w) (topA 500 2000 (env :: l)) (call (.ref 135) [.ref r.x]) Q E s := by
  have f3 := A.f3 hg
  have rest := A.rest nd hc
  obtain ⟨B, F, N, R⟩ := A
  have sm := R.same
  obtain ⟨s1, s2, s3, s4, s5, s6, s7, s8⟩ := sm
  have ht' : r'.kids[r'.els.length]? = some t := by rw [s6]; exact ht
  have cc := amb_call B F N (cells := r'.cells w.params ++ ro) (fun p hp => by
    rcases List.mem_append.mp hp with hp | hp
    · exact List.mem_append_left _ hp
    · exact List.mem_append_right _ (List.mem_append_left _ hp)) hf hk
  have ty' : Typed w.params r' ro := by
    unfold Typed at ty ⊢
    rw [s4, s6, s8]; exact ty
  have nd' : ((r'.cells w.params ++ ro).map (·.1)).Nodup := by
    rw [List.map_append, cells_map, s1, s2, s3, ← cells_map (P := w.params), ← List.map_append]; exact nd
  rw [← s1]
  refine next_spec AM (pcall B F hf hk) cc.2 nd' R.ok ty' ht' fun v nw τ' n' h' tk' k1 k2 k3 k4 k5 k6 => ?_
  have ac := after_call (cells := r'.cells w.params) (out := ({ r' with els := r'.els ++ [v], τ := τ', eln := n' } : Row).cells w.params ++ nw) (rest := ro ++ nws) F N (fun p hp => List.mem_append_left _ hp) k1 (fun p hp => by
    rcases List.mem_append.mp hp with hp | hp
    · exact ⟨k2 p hp, .inl (List.mem_map_of_mem (f := (·.1)) hp)⟩
    · exact ⟨k3 p hp, .inr (k4 p hp)⟩) rest
  refine ret v _ (nw ++ nws) h' tk' ⟨B, ac.1, fun z hz => ac.2 z ?_, R.next ht' k6 τ' n' k4 (fun z hz => (N z (List.mem_append_right _ (List.mem_append_right _ hz))).1) f3 k5⟩ (by simp) rfl
  rcases List.mem_append.mp hz with hz | hz
  · exact List.mem_append_left _ (List.mem_append_left _ hz)
  · rcases List.mem_append.mp hz with hz | hz
    · exact List.mem_append_right _ (List.mem_append_left _ hz)
    · rcases List.mem_append.mp hz with hz | hz
      · exact List.mem_append_left _ (List.mem_append_right _ hz)
      · exact List.mem_append_right _ (List.mem_append_right _ hz)
theorem nextE_in {name : Str} {scope : Scope} {a : Addr} {cd : Value} {cl : List (Str × Addr)} (AM : Amb w mean mg mb base) (A : At w.params base l d u r r' ro h0 g L m nws s.heap) (nd : ((r.cells w.params ++ ro).map (·.1)).Nodup)
    (hc : ∀ z ∈ r.cells w.params, ∃ o, h0.get? z.1 = some o) (hk : scope.kind = .function) (hend : r'.els.length = r.kids.length)
    (err : ∀ e r'' h' tk' G, RaisedSN base G (envX name scope L a cd cl :: l) e (.type "StopIteration") (r''.cells w.params ++ (ro ++ nws)) h' → Fr g L G m → G.UpToSlots h' → CtxAt h' e → Rd w.params r r'' h0 nws → r''.els = r'.els → r''.len = true → E (.ref e) {s with heap := h', toks := tk'}) :
    wpAny (model PRG w) (topA 500 2000 (envX name scope L a cd cl :: l)) (call (.ref 135) [.ref r.x]) Q E s := by
  have rest := A.rest nd hc
  obtain ⟨B, F, N, R⟩ := A
  obtain ⟨⟨s1, s2, s3, s4, s5, s6, s7, s8⟩, ok, els, fr, ndn⟩ := id R
  have cc := amb_call (env := envX name scope L a cd cl) B F N (cells := r'.cells w.params) (fun p hp => List.mem_append_left _ hp) rfl hk
  have nd' := nd
  rw [List.map_append, cells_map] at nd'
  have nd'' := (List.nodup_append.mp nd').1
  rw [← s1, ← s2, ← s3] at nd''
  simp only [List.nodup_cons, List.mem_cons, List.not_mem_nil, or_false, not_or] at nd''
  rw [← s1]
  refine nextE_spec AM (pcall B F rfl hk) cc.2 nd''.1.1 nd''.1.2 nd''.2.1 ok (by rw [s6]; exact hend) fun e τ' h' tk' Rz hcx => ?_
  obtain ⟨G, q1, q2, q3⟩ := to_SN (rest := ro ++ nws) B F N Rz (fun b hb => by
    obtain ⟨z, hz, e⟩ := List.mem_map.mp (show b ∈ (r'.cells w.params).map (·.1) from hb)
    exact List.mem_map.mpr ⟨z, List.mem_append_left _ hz, e⟩) (fun z hz => .inl (by
    have : z.1 ∈ (r'.cells w.params).map (·.1) := List.mem_map_of_mem (f := (·.1)) hz
    obtain ⟨y, hy, e⟩ := List.mem_map.mp this
    exact List.mem_map.mpr ⟨y, List.mem_append_left _ hy, e⟩)) rest
  refine err e { r' with len := true, τ := τ' } h' tk' G q2 q1 q3 hcx ⟨⟨s1, s2, s3, s4, s5, s6, s7, s8⟩, ⟨ok.lay, ok.small, ok.le, fun _ => by show r'.els.length = r'.kids.length; rw [s6]; exact hend⟩, els, fr, ndn⟩ rfl rfl
end
section
variable {w : World} {A : Around} {E : Value → Shared → Prop} {s : Shared} {env : Env} {test : PySem.Expr} {body orelse : List Stmt} {Q : Flow → Shared → Prop} {pos : Pos} {base : Heap} {l : List Env} {d u : Nat} {g h0 : Heap} {L : Addr} {m : Str → Option Value} {r r0 : Row} {ro nws0 : List (Addr × Obj)}
def AtJ (P : Params) (base : Heap) (l : List Env) (d u : Nat) (r : Row) (ro : List (Addr × Obj)) (h0 g : Heap) (L : Addr) (m : Str → Option Value) (s : Shared) (J : Nat → Row → Prop) (k : Nat) (s' : Shared) : Prop :=
  ∃ r' nws h tk, s' = { s with heap := h, toks := tk } ∧ At P base l d u r r' ro h0 g L m nws h ∧ J k r'
/-- a while that reads on in a row -/
theorem whl_at (J : Nat → Row → Prop) {k0 : Nat} (A0 : At w.params base l d u r r0 ro h0 g L m nws0 s.heap) (j0 : J k0 r0) (hE : PassesOwn (model PRG w) A env E)
    (turn : ∀ k r' nws h tk, At w.params base l d u r r' ro h0 g L m nws h → J k r' → wpAny (model PRG w) A (isTrue test env (eval test env)) (fun b s₂ => if b = true then
      (wpAny (model PRG w) A (execs body env) (fun f s₃ => match f with | .next => Stay (∃ k' : Nat, k' < k ∧ AtJ w.params base l d u r ro h0 g L m s J k' s₃) | .cont => Stay (∃ k' : Nat, k' < k ∧ AtJ w.params base l d u r ro h0 g L m s J k' s₃) | .brk => Q .next s₃ | .ret v => Q (.ret v) s₃) E s₂)
      else (wpAny (model PRG w) A (execs orelse env) Q E s₂)) E { s with heap := h, toks := tk }) : wpAny (model PRG w) A (exec (.While test body orelse pos) env) Q E s :=
  whl_inv (I := fun k s' => AtJ w.params base l d u r ro h0 g L m s J k s') hE (fun k s' h => by
    obtain ⟨r', nws, h, tk, rfl, A', j⟩ := h
    exact turn k r' nws h tk A' j) ⟨r0, nws0, s.heap, s.toks, rfl, A0, j0⟩
end
end Mine
end

section
theorem Mine.quietGetJ : True := by
  w_top off
  trivial
open PySem PySem.W PySem.Spec PySem.Calls PyProof.Rows
set_option Elab.async false
set_option maxRecDepth 100000
set_option maxHeartbeats 8000000
namespace Mine
theorem filled8 (w : World) (h : Heap) (X : (Mine.hd.heap_39 w.params).In h) : Challenge.rw_sx0040_01 = Challenge.rw_sx0040_01 := by
  revert X; k_fill; intro _; rfl
local macro_rules | `(tactic| tb_start) => `(tactic| repeat' ((fail_if_success (with_reducible show wpAny _ _ (call (Value.ref 135) _) _ _ _)); (fail_if_success (with_reducible show wpAny _ _ (exec (Stmt.While _ _ _ _) _) _ _ _)); (fail_if_success (with_reducible show wpAny _ _ (exec (Stmt.For _ _ _ _ _) _) _ _ _)); (fail_if_success (with_reducible show wpAny _ _ (pyIter _) _ _ _)); first | (k_unfold; (try dsimp only)) | (k_end; wrow_close) | walk1 | (dsimp only; walk1) | (leave1; walk_say "STEP leave1"; try dsimp only) | fail "no step"))
local macro_rules | `(tactic| walk_at "call builtin:len") => `(tactic| (k_here; (with_reducible show wpAny _ _ (call (Value.builtin _) [Value.ref _]) _ _ _); k_dflt (refine' len_L ?k1 ?k2 ?k3 ?_; (case k1 => k_asm); (case k2 => k_mem); (case k3 => omega); k_whole)))
theorem getitem_ok {w : World} {mean : ExcName → Option Value} {mg mb : Str → Option Value} {base : Heap} {l : List Env} {s : Shared} {Q E : Value → Shared → Prop} {r : Row} {ro : List (Addr × Obj)} {i : Nat} {tk : Tok}
  (AM : Amb w mean mg mb base) (B : Below (topA 450 1800 l) base l s.heap) (C : Cells s.heap base l (r.cells w.params ++ ro)) (nd : ((r.cells w.params ++ ro).map (·.1)).Nodup) (ok : r.Ok) (ty : Typed w.params r ro) (hi : i < r.kids.length)
  (ret : ∀ r' nws v h' tk', Rd w.params r r' s.heap nws → Kp [r.x, r.d, r.el] s.heap h' → (∀ z ∈ r'.cells w.params ++ nws, h'.get? z.1 = some z.2) → r'.els.length = max r.els.length (i + 1) → r'.len = r.len → r'.els[i]? = some v → Q v {s with heap := h', toks := tk'}) :
  wpAny (model PRG w) (topA 450 1800 l) (call (.ref 142) [.ref r.x, .int (i : Int) tk]) Q E s := by
  obtain ⟨hsm, hsk⟩ := ok.els
  k_dflt (refine' enterF (rb := [(Str.ofString "i", .int (i : Int) tk), (Str.ofString "self", .ref r.x)]) AM B C ?k6 ?k7 ?k8 ?k9 ?kL ?cr ?c2 ?c3 ?c4 ?c5 ?_; (case k6 => k_is); (case k7 => k_is); (case k8 => first | exact Nat.lt_of_sub_eq_succ rfl | exact hdep); (case k9 => first | exact BindsTo.of_eq rfl | exact kp_binds (AM.X.keeps B.stays) (fun _ => rfl)); (case kL => exact locs rfl); (case cr => exact rfl); (case c2 => exact rfl); (case c3 => exact rfl); (case c4 => exact rfl); (case c5 => decide); k_whole)
  intro g L' h' hg F N B' X' T' lt
  dsimp only [bmap] at F ⊢
  try k_fold
  tb_start
  rename Fr _ _ _ _ => F₀
  rename News _ _ _ _ => N₀
  have hcc : ∀ z ∈ r.cells w.params, ∃ o, s.heap.get? z.1 = some o := fun z hz => ⟨_, (C z (List.mem_append_left _ hz)).1⟩
  have hgg : ∀ b o, s.heap.get? b = some o → b ∉ (r.cells w.params ++ ro).map (·.1) → ∃ o', g.get? b = some o' := fun b o e n => ⟨o, by rw [hg]; exact hideAll_get _ e n⟩
  refine whl_at (fun k r' => r'.els.length + k = max r.els.length (i + 1) ∧ r'.len = r.len) (k0 := max r.els.length (i + 1) - r.els.length) (h0 := s.heap) (r0 := r) (nws0 := []) (At.mk B' F₀ (by rwa [List.append_nil]) (Rd.refl ok)) ⟨by omega, rfl⟩ (by passes_own) ?_
  clear F₀ N₀
  intro k r' nws h tk₁ A₁ ⟨j1, j2⟩
  obtain ⟨B₁, F₁, N₁, R₁⟩ := id A₁
  obtain ⟨⟨s1, s2, s3, s4, s5, s6, s7, s8⟩, ok', ⟨vs, els, kk⟩, fr, ndn⟩ := id R₁
  obtain ⟨hsm', _⟩ := ok'.els
  rw [← s1] at F₁
  simp only [Row.cells, Row.dict, rowD, List.cons_append, List.nil_append] at N₁
  clear B₁
  tb_start
  · show wpAny _ _ (call (.ref 135) [.ref r'.x]) _ _ _
    rw [s1]
    refine wk (d := 500) (u := 2000) (Nat.le_of_ble_eq_true rfl) (Nat.le_of_ble_eq_true rfl) ?_
    refine next_in AM A₁ hgg nd hcc ty rfl rfl (t := r.kids[r'.els.length]'(by omega)) (List.getElem?_eq_getElem _) fun v r'' nws' h'' tk'' A'' e1 e2 => ?_
    dsimp only
    tb_start
    exact ⟨k - 1, by omega, r'', nws', h'', _, rfl, A'', by show r''.els.length + (k - 1) = max r.els.length (i + 1); omega, by rw [e2, j2]⟩
  · obtain ⟨v, hv⟩ : ∃ v, r'.els[i]? = some v := ⟨_, List.getElem?_eq_getElem (by omega)⟩
    refine item_listR (News.isList N₁ (.tail _ (.tail _ (.head _)))) (by omega) (by omega) (x := v) (by simpa using hv) ?_
    dsimp only
    tb_start
    have hle : r'.els.length = r.els.length + vs.length := by rw [els, List.length_append]
    refine ret r' nws v h _ R₁ (A₁.kp hg C rfl) (A₁.held) (by omega) j2 hv
end Mine
end

section
theorem Mine.quietGetK : True := by
  w_top off
  trivial
open PySem PySem.W PySem.Spec PySem.Calls PyProof.Rows
set_option Elab.async false
set_option maxRecDepth 100000
set_option maxHeartbeats 8000000
namespace Mine
theorem filled9 (w : World) (h : Heap) (X : (Mine.hd.heap_39 w.params).In h) : Challenge.rw_sx0040_01 = Challenge.rw_sx0040_01 := by
  revert X; k_fill; intro _; rfl
local macro_rules | `(tactic| tb_start) => `(tactic| repeat' ((fail_if_success (with_reducible show wpAny _ _ (call (Value.ref 135) _) _ _ _)); (fail_if_success (with_reducible show wpAny _ _ (exec (Stmt.While _ _ _ _) _) _ _ _)); (fail_if_success (with_reducible show wpAny _ _ (exec (Stmt.For _ _ _ _ _) _) _ _ _)); (fail_if_success (with_reducible show wpAny _ _ (pyIter _) _ _ _)); first | (k_unfold; (try dsimp only)) | (k_end; wrow_close) | walk1 | (dsimp only; walk1) | (leave1; walk_say "STEP leave1"; try dsimp only) | fail "no step"))
local macro_rules | `(tactic| walk_at "idle line") => `(tactic| skip)
local macro_rules | `(tactic| walk_at "idle line") => `(tactic| skip)
local macro_rules | `(tactic| walk_at "idle line") => `(tactic| skip)
local macro_rules | `(tactic| walk_at "idle line") => `(tactic| skip)
local macro_rules | `(tactic| walk_at "idle line") => `(tactic| skip)
local macro_rules | `(tactic| walk_at "idle line") => `(tactic| skip)
local macro_rules | `(tactic| walk_at "idle line") => `(tactic| skip)
local macro_rules | `(tactic| walk_at "idle line") => `(tactic| skip)
local macro_rules | `(tactic| walk_at "idle line") => `(tactic| skip)
local macro_rules | `(tactic| walk_at "idle line") => `(tactic| skip)
local macro_rules | `(tactic| walk_at "call builtin:len") => `(tactic| (k_here; (with_reducible show wpAny _ _ (call (Value.builtin _) [Value.ref _]) _ _ _); k_dflt (refine' len_L ?k1 ?k2 ?k3 ?_; (case k1 => k_asm); (case k2 => k_mem); (case k3 => omega); k_whole)))
theorem getitem_out {w : World} {mean : ExcName → Option Value} {mg mb : Str → Option Value} {base : Heap} {l : List Env} {s : Shared} {Q E : Value → Shared → Prop} {r : Row} {ro : List (Addr × Obj)} {i : Nat} {tk : Tok}
  (AM : Amb w mean mg mb base) (B : Below (topA 450 1800 l) base l s.heap) (C : Cells s.heap base l (r.cells w.params ++ ro)) (nd : ((r.cells w.params ++ ro).map (·.1)).Nodup) (ok : r.Ok) (ty : Typed w.params r ro) (hi : r.kids.length ≤ i) (hi2 : i < 65536)
  (err : ∀ e r' nws h' tk', Rd w.params r r' s.heap nws → Raised [r.x, r.d, r.el] (r'.cells w.params ++ nws) base l e (.type "IndexError") s.heap h' → r'.els.length = r.kids.length → E (.ref e) {s with heap := h', toks := tk'}) :
  wpAny (model PRG w) (topA 450 1800 l) (call (.ref 142) [.ref r.x, .int (i : Int) tk]) Q E s := by
  obtain ⟨hsm, hsk⟩ := ok.els
  have hle0 := ok.le
  k_dflt (refine' enterE (rb := [(Str.ofString "i", .int (i : Int) tk), (Str.ofString "self", .ref r.x)]) AM B C ?k6 ?k7 ?k8 ?k9 ?kL ?cr ?c2 ?c3 ?c4 ?c5 ?_; (case k6 => k_is); (case k7 => k_is); (case k8 => first | exact Nat.lt_of_sub_eq_succ rfl | exact hdep); (case k9 => first | exact BindsTo.of_eq rfl | exact kp_binds (AM.X.keeps B.stays) (fun _ => rfl)); (case kL => exact locs rfl); (case cr => exact rfl); (case c2 => exact rfl); (case c3 => exact rfl); (case c4 => exact rfl); (case c5 => decide); k_whole)
  intro g L' h' hg F N B' X' T' lt
  dsimp only [bmap] at F ⊢
  try k_fold
  tb_start
  rename Fr _ _ _ _ => F₀
  rename News _ _ _ _ => N₀
  have hcc : ∀ z ∈ r.cells w.params, ∃ o, s.heap.get? z.1 = some o := fun z hz => ⟨_, (C z (List.mem_append_left _ hz)).1⟩
  have hgg : ∀ b o, s.heap.get? b = some o → b ∉ (r.cells w.params ++ ro).map (·.1) → ∃ o', g.get? b = some o' := fun b o e n => ⟨o, by rw [hg]; exact hideAll_get _ e n⟩
  refine whl_at (fun k r' => r'.els.length + k = r.kids.length) (k0 := r.kids.length - r.els.length) (h0 := s.heap) (r0 := r) (nws0 := []) (At.mk B' F₀ (by rwa [List.append_nil]) (Rd.refl ok)) (by show r.els.length + (r.kids.length - r.els.length) = r.kids.length; omega) (by passes_own) ?_
  clear F₀ N₀
  have B₀ := B'
  intro k r' nws h tk₁ A₁ j1
  obtain ⟨B₁, F₁, N₁, R₁⟩ := id A₁
  obtain ⟨⟨s1, s2, s3, s4, s5, s6, s7, s8⟩, ok', ⟨vs, els, kk⟩, fr, ndn⟩ := id R₁
  obtain ⟨hsm', _⟩ := ok'.els
  rw [← s1] at F₁
  simp only [Row.cells, Row.dict, rowD, List.cons_append, List.nil_append] at N₁
  clear B₁
  tb_start
  · show wpAny _ _ (call (.ref 135) [.ref r'.x]) _ _ _
    rw [s1]
    refine wk (d := 500) (u := 2000) (Nat.le_of_ble_eq_true rfl) (Nat.le_of_ble_eq_true rfl) ?_
    by_cases hlt : r'.els.length < r.kids.length
    · refine next_in AM A₁ hgg nd hcc ty rfl rfl (t := r.kids[r'.els.length]'(by omega)) (List.getElem?_eq_getElem _) fun v r'' nws' h'' tk'' A'' e1 e2 => ?_
      dsimp only
      tb_start
      exact ⟨k - 1, by omega, r'', nws', h'', _, rfl, A'', by show r''.els.length + (k - 1) = r.kids.length; omega⟩
    · have hend : r'.els.length = r.kids.length := by omega
      refine nextE_in (cl := []) AM A₁ nd hcc rfl hend fun e r'' h'' tk'' G RS FG U hc R'' e1 e2 => ?_
      obtain ⟨⟨q1, q2, q3, q4, q5, q6, q7, q8⟩, ok'', _⟩ := id R''
      dsimp only
      refine caught_C (cl := []) (T' := "StopIteration") hc RS FG B' U AM.X AM.T KtsTurn.refl ?_ ?_ ?_ ?_ ?_ ?_ ?_ ?_
      · k_is
      · boot_by_name
      · decide
      · rw [isSubtype_type]; kernel_rfl
      · rw [show ((Manifest.find? "StopIteration").elim "type" fun x => x.metatype) = "type" from by kernel_rfl, isSubtype_type]; kernel_rfl
      · rw [isSubtype_type]; kernel_rfl
      · passes_own
      clear RS FG U B' X' T' hc A₁ F₁ N₁
      intro h3 g3 oe ws T3 F3 N3 hws hw2 B3 X3 P3
      rw [← q1] at F3
      have hend2 : r''.ix = r''.en := r''.ix_end (by rw [q6, e1]; exact hend)
      simp only [Row.cells, Row.dict, rowD, List.cons_append, List.nil_append] at N3
      rw [hend2] at N3
      tb_start
      refine raise_call_in PySem.F.excCall_IndexError PySem.F.excRaise_IndexError (hA := e) rfl ?_
      tb_start
      · exact ⟨oe, ws, (N3 _ (.head _)).1, hws, hw2⟩
      · refine leave_any (cl := []) (by assumption) rfl rfl rfl (by assumption) (by assumption) B3 F3 N3 fun h4 RS4 U4 => ?_
        refine err _ r'' nws h4 _ R'' ?_ (by rw [e1]; exact hend)
        refine Raised.ro (c := r.cells w.params) (ro := ro) (raised_of hg C B₀ T3 (Mine.RaisedSN.sub RS4 fun z hz => ?_) U4) fun z hz => (C z (List.mem_append_right _ hz)).1
        refine .tail _ ?_
        rcases List.mem_append.mp hz with hz | hz
        · rcases List.mem_append.mp hz with hz | hz
          · simp only [Row.cells, Row.dict, rowD, hend2] at hz
            exact List.mem_append_left (ro ++ nws) hz
          · exact .tail _ (.tail _ (.tail _ (List.mem_append_right _ hz)))
        · exact .tail _ (.tail _ (.tail _ (List.mem_append_left _ hz)))
end Mine
end

section
theorem Mine.quietLen : True := by
  w_top off
  trivial
open PySem PySem.W PySem.Spec PySem.Calls PyProof.Rows
set_option Elab.async false
set_option maxRecDepth 100000
set_option maxHeartbeats 8000000
namespace Mine
theorem KpF.ro {c ro : List (Addr × Obj)} {fs : List Addr} {h h' : Heap} (K : KpF ((c ++ ro).map (·.1)) fs h h') (hr : ∀ z ∈ ro, h.get? z.1 = some z.2) (hr' : ∀ z ∈ ro, h'.get? z.1 = some z.2) : KpF (c.map (·.1)) fs h h' := by
  refine ⟨fun b o n nf q => ?_, K.frame⟩
  by_cases m : b ∈ ro.map (·.1)
  · obtain ⟨z, hz, rfl⟩ := List.mem_map.mp m
    rw [hr z hz] at q; cases q
    exact hr' z hz
  · exact K.other b o (fun z => by
      rw [List.map_append] at z
      rcases List.mem_append.mp z with z | z
      · exact n z
      · exact m z) nf q
theorem Kp.toF {S fs : List Addr} {h h' : Heap} (k : Kp S h h') (d : ∀ b ∈ fs, b ∉ S) : KpF S fs h h' := ⟨fun b o n _ q => k b o n q, fun b o hm q => ⟨o.slots, k b o (d b hm) q⟩⟩
theorem filled10 (w : World) (h : Heap) (X : (Mine.hd.heap_39 w.params).In h) : Challenge.rw_sx0040_01 = Challenge.rw_sx0040_01 := by
  revert X; k_fill; intro _; rfl
local macro_rules | `(tactic| tb_start) => `(tactic| repeat' ((fail_if_success (with_reducible show wpAny _ _ (call (Value.ref 135) _) _ _ _)); (fail_if_success (with_reducible show wpAny _ _ (exec (Stmt.While _ _ _ _) _) _ _ _)); (fail_if_success (with_reducible show wpAny _ _ (exec (Stmt.For _ _ _ _ _) _) _ _ _)); (fail_if_success (with_reducible show wpAny _ _ (pyIter _) _ _ _)); first | (k_unfold; (try dsimp only)) | (k_end; wrow_close) | walk1 | (dsimp only; walk1) | (leave1; walk_say "STEP leave1"; try dsimp only) | fail "no step"))
local macro_rules | `(tactic| walk_at "idle line") => `(tactic| skip)
local macro_rules | `(tactic| walk_at "idle line") => `(tactic| skip)
local macro_rules | `(tactic| walk_at "idle line") => `(tactic| skip)
local macro_rules | `(tactic| walk_at "idle line") => `(tactic| skip)
local macro_rules | `(tactic| walk_at "idle line") => `(tactic| skip)
local macro_rules | `(tactic| walk_at "idle line") => `(tactic| skip)
local macro_rules | `(tactic| walk_at "idle line") => `(tactic| skip)
local macro_rules | `(tactic| walk_at "idle line") => `(tactic| skip)
local macro_rules | `(tactic| walk_at "idle line") => `(tactic| skip)
local macro_rules | `(tactic| walk_at "idle line") => `(tactic| skip)
local macro_rules | `(tactic| walk_at "idle line") => `(tactic| skip)
local macro_rules | `(tactic| walk_at "call builtin:len") => `(tactic| (k_here; (with_reducible show wpAny _ _ (call (Value.builtin _) [Value.ref _]) _ _ _); k_dflt (refine' len_L ?k1 ?k2 ?k3 ?_; (case k1 => k_asm); (case k2 => k_mem); (case k3 => omega); k_whole)))
local macro_rules | `(tactic| k_all) => `(tactic| first | exact List.forall_mem_nil _ | assumption | (refine' List.forall_mem_cons.mpr ⟨?a, ?b⟩; (case a => k_ne); (case b => k_all)))
theorem len_set {w : World} {mean : ExcName → Option Value} {mg mb : Str → Option Value} {base : Heap} {l : List Env} {s : Shared} {Q E : Value → Shared → Prop} {r : Row} {ro : List (Addr × Obj)}
  (AM : Amb w mean mg mb base) (B : Below (topA 450 1800 l) base l s.heap) (C : Cells s.heap base l (r.cells w.params ++ ro)) (nd : ((r.cells w.params ++ ro).map (·.1)).Nodup) (ok : r.Ok) (ty : Typed w.params r ro) (hl : r.len = true) (hne : r.kids.length ≠ 0)
  (ret : ∀ t h' tk', Kp [r.x, r.d, r.el] s.heap h' → (∀ z ∈ r.cells w.params, h'.get? z.1 = some z.2) → Q (.int (r.kids.length : Int) t) {s with heap := h', toks := tk'}) :
  wpAny (model PRG w) (topA 450 1800 l) (call (.ref 149) [.ref r.x]) Q E s := by
  obtain ⟨hsm, hsk⟩ := ok.els
  k_dflt (refine' enterF (rb := [(Str.ofString "self", .ref r.x)]) AM B C ?k6 ?k7 ?k8 ?k9 ?kL ?cr ?c2 ?c3 ?c4 ?c5 ?_; (case k6 => k_is); (case k7 => k_is); (case k8 => first | exact Nat.lt_of_sub_eq_succ rfl | exact hdep); (case k9 => first | exact BindsTo.of_eq rfl | exact kp_binds (AM.X.keeps B.stays) (fun _ => rfl)); (case kL => exact locs rfl); (case cr => exact rfl); (case c2 => exact rfl); (case c3 => exact rfl); (case c4 => exact rfl); (case c5 => decide); k_whole)
  intro g L' h' hg F N B' X' T' lt
  dsimp only [bmap] at F ⊢
  try k_fold
  have N₀ := N
  simp only [Row.cells, Row.dict, rowD, Row.lenV, hl, if_true, List.cons_append, List.nil_append] at N
  tb_start
  · rename Fr _ _ _ _ => F₁
    exact ret _ _ _ (kp_ro (cells := r.cells w.params) (ro := ro) hg F₁ (fun z hz => (C z (List.mem_append_right _ hz)).1) (fun z hz => (N₀ z (List.mem_append_right _ hz)).1)) fun z hz => (N₀ z (List.mem_append_left _ hz)).1
  · exfalso; omega
theorem len_go {w : World} {mean : ExcName → Option Value} {mg mb : Str → Option Value} {base : Heap} {l : List Env} {s : Shared} {Q E : Value → Shared → Prop} {r : Row} {ro : List (Addr × Obj)}
  (AM : Amb w mean mg mb base) (B : Below (topA 450 1800 l) base l s.heap) (C : Cells s.heap base l (r.cells w.params ++ ro)) (nd : ((r.cells w.params ++ ro).map (·.1)).Nodup) (ok : r.Ok) (ty : Typed w.params r ro) (hl : r.len = false ∨ r.kids.length = 0)
  (ret : ∀ r' nws t h' tk', Rd w.params r r' s.heap nws → KpF [r.x, r.d, r.el] (frs l) s.heap h' → (∀ z ∈ r'.cells w.params ++ nws, h'.get? z.1 = some z.2) → r'.els.length = r.kids.length → r'.len = true → Q (.int (r.kids.length : Int) t) {s with heap := h', toks := tk'}) :
  wpAny (model PRG w) (topA 450 1800 l) (call (.ref 149) [.ref r.x]) Q E s := by
  obtain ⟨hsm, hsk⟩ := ok.els
  have hle0 := ok.le
  obtain ⟨lv, hlv, hlv2⟩ : ∃ lv, r.lenV = lv ∧ (lv = .none ∨ lv = .int 0 (r.τ 12)) := by
    refine ⟨_, rfl, ?_⟩
    unfold Row.lenV
    rcases hl with hl | hl
    · rw [hl]; exact .inl rfl
    · rw [hl]; cases r.len <;> simp
  k_dflt (refine' enterF (rb := [(Str.ofString "self", .ref r.x)]) AM B C ?k6 ?k7 ?k8 ?k9 ?kL ?cr ?c2 ?c3 ?c4 ?c5 ?_; (case k6 => k_is); (case k7 => k_is); (case k8 => first | exact Nat.lt_of_sub_eq_succ rfl | exact hdep); (case k9 => first | exact BindsTo.of_eq rfl | exact kp_binds (AM.X.keeps B.stays) (fun _ => rfl)); (case kL => exact locs rfl); (case cr => exact rfl); (case c2 => exact rfl); (case c3 => exact rfl); (case c4 => exact rfl); (case c5 => decide); k_whole)
  intro g L' h' hg F N B' X' T' lt
  dsimp only [bmap] at F ⊢
  try k_fold
  have N₀ := N
  simp only [Row.cells, Row.dict, rowD, hlv, List.cons_append, List.nil_append] at N
  rcases hlv2 with rfl | rfl
  all_goals tb_start
  all_goals (
    have hcc : ∀ z ∈ r.cells w.params, ∃ o, s.heap.get? z.1 = some o := fun z hz => ⟨_, (C z (List.mem_append_left _ hz)).1⟩
    have hgg : ∀ b o, s.heap.get? b = some o → b ∉ (r.cells w.params ++ ro).map (·.1) → ∃ o', g.get? b = some o' := fun b o e n => ⟨o, by rw [hg]; exact hideAll_get _ e n⟩
    rename Fr _ _ _ _ => F₀
    refine whl_at (fun k r' => r'.els.length + k = r.kids.length) (k0 := r.kids.length - r.els.length) (h0 := s.heap) (r0 := r) (nws0 := []) (At.mk B' F₀ (by rwa [List.append_nil]) (Rd.refl ok)) (by show r.els.length + (r.kids.length - r.els.length) = r.kids.length; omega) (by passes_own) ?_
    clear F₀ N₀
    have B₀ := B'
    intro k r' nws h tk₁ A₁ j1
    obtain ⟨B₁, F₁, N₁, R₁⟩ := id A₁
    obtain ⟨⟨s1, s2, s3, s4, s5, s6, s7, s8⟩, ok', ⟨vs, els, kk⟩, fr, ndn⟩ := id R₁
    obtain ⟨hsm', _⟩ := ok'.els
    rw [← s1] at F₁
    simp only [Row.cells, Row.dict, rowD, List.cons_append, List.nil_append] at N₁
    clear B₁
    tb_start
    show wpAny _ _ (call (.ref 135) [.ref r'.x]) _ _ _
    rw [s1]
    refine wk (d := 500) (u := 2000) (Nat.le_of_ble_eq_true rfl) (Nat.le_of_ble_eq_true rfl) ?_
    by_cases hlt : r'.els.length < r.kids.length
    · refine next_in AM A₁ hgg nd hcc ty rfl rfl (t := r.kids[r'.els.length]'(by omega)) (List.getElem?_eq_getElem _) fun v r'' nws' h'' tk'' A'' e1 e2 => ?_
      dsimp only
      tb_start
      exact ⟨k - 1, by omega, r'', nws', h'', _, rfl, A'', by show r''.els.length + (k - 1) = r.kids.length; omega⟩
    · have hend : r'.els.length = r.kids.length := by omega
      refine nextE_in (cl := []) AM A₁ nd hcc rfl hend fun e r'' h'' tk'' G RS FG U hc R'' e1 e2 => ?_
      obtain ⟨⟨q1, q2, q3, q4, q5, q6, q7, q8⟩, ok'', _⟩ := id R''
      dsimp only
      refine caught_C (cl := []) (T' := "StopIteration") hc RS FG B' U AM.X AM.T KtsTurn.refl ?_ ?_ ?_ ?_ ?_ ?_ ?_ ?_
      · k_is
      · boot_by_name
      · decide
      · rw [isSubtype_type]; kernel_rfl
      · rw [show ((Manifest.find? "StopIteration").elim "type" fun x => x.metatype) = "type" from by kernel_rfl, isSubtype_type]; kernel_rfl
      · rw [isSubtype_type]; kernel_rfl
      · passes_own
      clear RS FG U B' X' T' hc A₁ F₁ N₁
      intro h3 g3 oe ws T3 F3 N3 hws hw2 B3 X3 P3
      rw [← q1] at F3
      have hsm'' : r''.els.length < 65536 := by rw [e1]; omega
      simp only [Row.cells, Row.dict, rowD, List.cons_append, List.nil_append] at N3
      obtain ⟨w1, w2, w3⟩ := row_ne (r' := r'') q1 q2 q3 nd
      have w4 : ∀ p ∈ ro ++ nws, p.1 ≠ r''.d := fun p hp z => rest_ne R'' nd hcc p hp (by rw [z]; exact .tail _ (.head _))
      have w5 : @Ne Nat e r''.d := fun z => by
        have z1 := (N3 _ (.head _)).1
        have z2 := (N3 _ (.tail _ (.tail _ (.head _)))).1
        dsimp only at z1 z2
        rw [z, z2] at z1
        cases z1
        cases hws
      tb_start
      rename Fr _ _ _ _ => F₄
      rename News _ _ _ _ => N₄
      have hend2 : r''.els.length = r.kids.length := by rw [e1]; exact hend
      have k4 := (N₄ _ (.tail _ (.head _))).1
      have k5 := (N₄ _ (.tail _ (.tail _ (.head _)))).1
      have k2 := (N₄ _ (.tail _ (.tail _ (.tail _ (.head _))))).1
      obtain ⟨τ', hz⟩ := row_keep (r := r'') (els := r''.els) (len := true) k4 k5 k2 rfl rfl rfl rfl (by rw [hend2, q6]; rfl) rfl
      have hro : ∀ z ∈ ro ++ nws, _ := fun z hz => (N₄ z (.tail _ (.tail _ (.tail _ (.tail _ hz))))).1
      refine hend2 ▸ ret ({ r'' with els := r''.els, eln := r''.eln, τ := τ', len := true } : Row) nws _ _ _ (by
        obtain ⟨sm, o, els, fr, ndn⟩ := R''
        exact ⟨sm, ⟨o.lay, o.small, o.le, fun _ => by show r''.els.length = r''.kids.length; rw [q6]; exact hend2⟩, els, fr, ndn⟩) ?_ ?_ ?_ rfl
      · refine KpF.ro (c := r.cells w.params) (ro := ro) (kpF_of hg C T3 F₄) (fun z hz => (C z (List.mem_append_right _ hz)).1) (fun z hz => hro z (List.mem_append_left _ hz))
      · intro z hz'
        rcases List.mem_append.mp hz' with hz' | hz'
        · exact hz z hz'
        · exact hro z (List.mem_append_right _ hz')
      · exact hend2)
end Mine
end

section
theorem Mine.quietKw : True := by
  w_top off
  trivial
open PySem PySem.W PySem.Spec PySem.Calls PyProof.Rows
set_option Elab.async false
set_option maxRecDepth 100000
set_option maxHeartbeats 8000000
namespace Mine
/-- what runs till the first new object -/
theorem wp_alloc {α : Type} {K : Frag} {M : Model} {A : Around} {E : Value → Shared → Prop} {Q : α → Shared → Prop} {s : Shared} {o : Obj} (X : K.In s.heap) :
    ∀ (t : Sem α) (g : Addr → Sem α), peekA K ⟨M.prog, M.w.params⟩ t = some (o, g) → wpAny M A (g s.heap.objs.size) Q E { s with heap := s.heap.push o } → wpAny M A t Q E s := by
  intro t
  induction t with
  | rule _ k ih => exact fun g e q Γ p hΓ => ih () g e q Γ p hΓ
  | point _ k ih => exact fun g e q Γ p hΓ => ih () g e q Γ p hΓ
  | ask k ih => exact fun g e q Γ p hΓ => ih _ g e q Γ p hΓ
  | load a _ k ih =>
    intro g e q Γ p hΓ
    simp only [peekA] at e
    split at e
    · rename_i ob ho; exact ⟨ob, X _ _ ho, ih ob g e q Γ p hΓ⟩
    · cases e
  | alloc ob k _ =>
    intro g e q
    obtain ⟨e1, e2⟩ := Prod.mk.inj (Option.some.inj (show some (ob, k) = some (o, g) from e))
    subst e1 e2
    show wpAny M A (alloc ob >>= k) Q E s
    exact wpAny_bind (wpAny_alloc q)
  | _ => intro g e; cases e
theorem not_modules {h : Heap} (hl : h.NoLimit) : (h.objs.size == sysModules) = false := by
  obtain ⟨mc, ⟨o, _, _, ho, _⟩, _⟩ := hl
  have h2 : cStatics < h.objs.size := Heap.lt_size ho
  cases q : h.objs.size == sysModules with
  | false => rfl
  | true =>
    have e : h.objs.size = sysModules := beq_iff_eq.mp q
    rw [e] at h2
    exact absurd h2 (by decide)
section
variable {w : World} {mean : ExcName → Option Value} {mg mb : Str → Option Value} {base : Heap} {A : Around} {l : List Env} {s : Shared}
/-- a def with **kw, called with none of them -/
theorem enterKW {R : Result → Shared → Prop} {name qual nm : Str} {params : Arguments} {body : List Stmt} {scope : Scope} {dV kV doc pm cdv ct oc : Value} {an od : Option Addr} {osl : Array (Option Value)} {f : Addr} {args : Args}
    {front rb : List (Str × Value)} {cells : List (Addr × Obj)} {g₁ : Addr → Sem (List (Str × Value))}
    (AM : Amb w mean mg mb base) (B : Below A base l s.heap) (C : Cells s.heap base l cells)
    (ho : (Mine.hd.heap_39 w.params).lookup f = some ⟨oc, od, .func (fnOf name qual params body scope dV kV doc pm an cdv ct), osl⟩) (hcd : codeIn (Mine.hd.heap_39 w.params) cdv qual = true) (hroom : A.depth < recursionLimit)
    (hp : peekA (Mine.hd.heap_39 w.params) ⟨PRG, w.params⟩ (bindArgs (fnOf name qual params body scope dV kV doc pm an cdv ct) args) = some (dictOf [] 0, g₁))
    (hg₁ : ∀ D, g₁ D = pure (front ++ [(nm, Value.ref D)])) (hloc : ∀ D, ∀ y ∈ front ++ [(nm, Value.ref D)], scope.names.lookup y.1 = some .local)
    (hrb : front.reverse = rb) (hco : scope.isCoroutine = false) (hgen : scope.isGenerator = false) (hk : scope.kind = .function) (hcell : ∀ x ∈ scope.names, x.2 ≠ .cell)
    (h : ∀ g L' h₁ D tk, g = hideAll s.heap (cells.map (·.1)) → Fr g L' h₁ (bmap ((nm, .ref D) :: rb)) → News g L' h₁ ((D, dictOf [] 0) :: cells) → Below A base l g → (Mine.hd.heap_39 w.params).In g → Top Mine.hd.view_39 LO mean mg mb g → (∀ p ∈ cells, p.1 < D) →
      s.heap.get? D = none → (D == sysModules) = false →
      wpAny (model PRG w) (A.deeper (envOf qual scope L' f cdv)) (execs body (envOf qual scope L' f cdv))
        (fun fl s' => R (.ok (.ret (match fl with | .ret v => v | _ => .none))) s')
        (fun e s' => wpAny (model PRG w) (A.deeper (envOf qual scope L' f cdv)) (leaving (envOf qual scope L' f cdv) e) (fun _ s'' => R (.error e) s'') (fun e' s'' => R (.error e') s'') s')
        { s with heap := h₁, toks := tk }) : codeAny (model PRG w) A (.call (.ref f) args) R s := by
  have X := AM.X.keeps B.stays
  have T := AM.T.keeps B.stays
  refine codeAny_call_function (fd := fnOf name qual params body scope dV kV doc pm an cdv ct) (body := body) hroom (X _ _ ho) rfl hco hgen rfl (codeRec_of X hcd) ?_
  refine wp_alloc X _ g₁ hp ?_
  rw [hg₁]
  refine wpAny_pure (wpAny_newFunctionEnv hcell (hloc _) (fun h₁ hns hsb => ⟨(T.nolimit.keeps fun b o e => Heap.get?_push_of_some _ e).fresh _ hsb, codeAny_func ?_⟩) hk)
  have Bg := below_hide B C
  have k₁ : ∀ b o, (s.heap.push (dictOf [] 0)).get? b = some o → h₁.get? b = some o := fun b o e => hsb.extBut b o (Nat.ne_of_lt (Heap.lt_size e)) (Heap.get?_push_of_some _ e)
  have k₀ : ∀ b o, s.heap.get? b = some o → h₁.get? b = some o := fun b o e => k₁ b o (Heap.get?_push_of_some _ e)
  have hsz : (s.heap.push (dictOf [] 0)).objs.size = s.heap.objs.size + 1 := by simp [Heap.push]
  have hD : s.heap.get? s.heap.objs.size = none := Heap.get?_none_of_le (Nat.le_refl _)
  refine h _ (s.heap.push (dictOf [] 0)).objs.size h₁ s.heap.objs.size _ rfl ⟨?_, fun b o e => k₀ b o (of_hideAll _ e), ?_⟩ ?_ Bg (AM.X.keeps Bg.stays) (AM.T.keeps Bg.stays) (fun p hp => Heap.lt_size (C p hp).1) hD (not_modules T.nolimit)
  · have e : (fun x => List.lookup x (front ++ [(nm, Value.ref s.heap.objs.size)]).reverse) = bmap ((nm, .ref s.heap.objs.size) :: rb) := funext fun x => by
      rw [List.reverse_append, hrb]
      exact bmap_lookup _ x
    rw [← e]
    exact hns
  · rw [hsz]
    exact Nat.le_succ_of_le (Nat.le_of_eq (hideAll_size _ _))
  · intro p hp
    rcases List.mem_cons.mp hp with rfl | hp
    · refine ⟨k₁ _ _ (Heap.get?_push_size _ rfl), Nat.ne_of_lt (by rw [hsz]; exact Nat.lt_succ_self _), kts_none (fun b o e => of_hideAll _ e) hD⟩
    · exact ⟨k₀ _ _ (C p hp).1, Nat.ne_of_lt (by rw [hsz]; exact Nat.lt_succ_of_lt (Heap.lt_size (C p hp).1)), hideAll_none _ (List.mem_map_of_mem hp)⟩
end
end Mine
end

section
theorem Mine.quietDl : True := by
  w_top off
  trivial
open PySem PySem.W PySem.Spec PySem.Calls PyProof.Rows
set_option Elab.async false
set_option maxRecDepth 100000
set_option maxHeartbeats 8000000
namespace Mine
theorem filled11 (w : World) (h : Heap) (X : (Mine.hd.heap_39 w.params).In h) : Challenge.rw_sx0040_01 = Challenge.rw_sx0040_01 := by
  revert X; k_fill; intro _; rfl
local macro_rules | `(tactic| tb_start) => `(tactic| repeat' ((fail_if_success (with_reducible show wpAny _ _ (call (Value.ref 113) _) _ _ _)); (fail_if_success (with_reducible show wpAny _ _ (exec (Stmt.While _ _ _ _) _) _ _ _)); (fail_if_success (with_reducible show wpAny _ _ (exec (Stmt.For _ _ _ _ _) _) _ _ _)); (fail_if_success (with_reducible show wpAny _ _ (pyIter _) _ _ _)); first | (k_unfold; (try dsimp only)) | (k_end; wrow_close) | walk1 | (dsimp only; walk1) | (leave1; walk_say "STEP leave1"; try dsimp only) | fail "no step"))
theorem decL_none {w : World} {mean : ExcName → Option Value} {mg mb : Str → Option Value} {base : Heap} {l : List Env} {s : Shared} {Q E : Value → Shared → Prop} {ts : List Tr} {c : List UInt8} {tk : Tok}
  (AM : Amb w mean mg mb base) (B : Below (topA 450 1800 l) base l s.heap) (hc : c = (Tr.node ts).enc) (hsz : c.length < 65536)
  (ret : ∀ (q : Row) h' tk', Kp [] s.heap h' → (∀ z ∈ q.cells w.params ++ [(q.kw, dictOf [] 0)], h'.get? z.1 = some z.2) → (∀ z ∈ [q.x, q.d, q.el, q.kw], s.heap.get? z = none) → [q.x, q.d, q.el, q.kw].Nodup → (q.kw == sysModules) = false →
    q.Ok → q.kids = ts → q.els = [] → q.len = false → q.sed = none → Q (.ref q.x) {s with heap := h', toks := tk'}) :
  wpAny (model PRG w) (topA 450 1800 l) (call (.ref 106) [.bytes c.toArray tk]) Q E s := by
  have hc' : c = [] ++ ((Tr.node ts).enc ++ []) := by rw [hc]; simp
  have h0 : ([] : List UInt8).length = 0 := rfl
  refine wpAny_call ?_
  k_dflt (refine' enterKW (front := [(Str.ofString "rlp", .bytes c.toArray tk), (Str.ofString "sedes", .none)]) (rb := [(Str.ofString "sedes", .none), (Str.ofString "rlp", .bytes c.toArray tk)]) (nm := Str.ofString "sedes_kwargs") AM B Cells.nil ?k6 ?k7 ?k8 ?kP ?kT ?kB ?cr ?c2 ?c3 ?c4 ?c5 ?_; (case k6 => k_is); (case k7 => k_is); (case k8 => exact Nat.lt_of_sub_eq_succ rfl); (case kP => exact rfl); (case kT => exact fun _ => rfl); (case kB => exact fun _ => locs rfl); (case cr => exact rfl); (case c2 => exact rfl); (case c3 => exact rfl); (case c4 => exact rfl); (case c5 => decide); k_whole)
  intro g L' h' D tk₁ hg F N B' X' T' lt hD hDm
  dsimp only [bmap] at F ⊢
  try k_fold
  tb_start
  (k_here; (with_reducible show wpAny _ _ (call (Value.ref 113) _) _ _ _); (with_reducible rename Below _ _ _ _ => B'); (with_reducible rename Fr _ _ _ _ => F'); (with_reducible rename News _ _ _ _ => N'); k_dflt ((refine wk (d := 550) (u := 2200) (by first | exact Nat.le_of_ble_eq_true rfl | exact wkd (by assumption)) (by first | exact Nat.le_of_ble_eq_true rfl | exact wku0 (by assumption) | exact wku1 (by assumption) | exact wku2 (by assumption)) ?_); (refine cilL_spec (by assumption) (pcall B' F' rfl rfl) (by assumption) (by assumption) (by assumption) ?_); intro a' q' o' t2' n' h' tk' kp' ho' hq' _ _ hf' hn' ok' c1' c2' c3' c4' c5'; (have fn' := pbackQ F' N' kp' ho' hq' hf'); clear kp' ho' F' N'; obtain ⟨F', N', l1⟩ := fn'; (try simp only [List.forall_mem_cons, List.not_mem_nil, false_implies, implies_true, and_true, ne_eq] at l1)))
  rename List.Nodup _ => nd
  rename (_ : Row).Ok => okq
  have nd1 := nd
  simp only [List.nodup_cons, List.mem_cons, not_or] at nd1
  obtain ⟨⟨w1, w2, w3, w4, _⟩, ⟨w5, w6, w7, _⟩, ⟨w8, w9, _⟩, _⟩ := nd1
  have z1 : @Ne Nat a' q'.d := w2
  have z2 : @Ne Nat q'.x q'.d := w5
  have z3 : @Ne Nat q'.d q'.el := w8
  have z4 : @Ne Nat q'.x q'.el := w6
  simp only [Row.dict, rowD] at N'
  have hsz' : c.toArray.size = (Tr.node ts).enc.length := by rw [List.size_toArray, hc]
  tb_start
  all_goals (try (exfalso; omega))
  rename Fr _ _ _ _ => F₁
  rename News _ _ _ _ => N₁
  have k4 := (N₁ _ (.tail _ (.head _))).1
  have k5 := (N₁ _ (.tail _ (.tail _ (.head _)))).1
  have k2 := (N₁ _ (.tail _ (.tail _ (.tail _ (.head _))))).1
  have k6 := (N₁ _ (.tail _ (.tail _ (.tail _ (.tail _ (.head _)))))).1
  obtain ⟨τ', hz⟩ := row_keep (r := { q' with kw := D, sed := none }) (els := q'.els) (len := q'.len) (a12 := q'.τ 12) k4 k5 k2 rfl rfl rfl rfl rfl rfl
  have hn := fun z hz => fresh_from (cells := []) hg N₁ (p := z) hz (by simp)
  refine ret ({ q' with kw := D, sed := none, els := q'.els, eln := q'.eln, τ := τ', len := q'.len } : Row) _ _ (kp_of (cells := []) hg F₁) ?_ ?_ ?_ hDm ⟨okq.lay, okq.small, okq.le, okq.whole⟩ c2' c3' c4' rfl
  · intro z hz'
    rcases List.mem_append.mp hz' with hz' | hz'
    · exact hz z hz'
    · obtain rfl := List.mem_singleton.mp hz'
      exact k6
  · intro z hz'
    simp only [List.mem_cons, List.not_mem_nil, or_false] at hz'
    rcases hz' with rfl | rfl | rfl | rfl
    · exact hn _ (.tail _ (.head _))
    · exact hn _ (.tail _ (.tail _ (.head _)))
    · exact hn _ (.tail _ (.tail _ (.tail _ (.head _))))
    · exact hD
  · simp only [List.nodup_cons, List.mem_cons, List.not_mem_nil, or_false, not_or, List.nodup_nil, and_true, not_false_eq_true]
    obtain ⟨_, y1, y2, y3⟩ := l1
    exact ⟨⟨w5, w6, fun z => y1 z.symm⟩, ⟨w8, fun z => y2 z.symm⟩, fun z => y3 z.symm⟩
theorem decL_sed {w : World} {mean : ExcName → Option Value} {mg mb : Str → Option Value} {base : Heap} {l : List Env} {s : Shared} {Q E : Value → Shared → Prop} {ts : List Tr} {c : List UInt8} {tk : Tok} {be : Addr}
  (AM : Amb w mean mg mb base) (B : Below (topA 450 1800 l) base l s.heap) (hc : c = (Tr.node ts).enc) (hsz : c.length < 65536)
  (ret : ∀ (q : Row) h' tk', Kp [] s.heap h' → (∀ z ∈ q.cells w.params ++ [(q.kw, dictOf [] 0)], h'.get? z.1 = some z.2) → (∀ z ∈ [q.x, q.d, q.el, q.kw], s.heap.get? z = none) → [q.x, q.d, q.el, q.kw].Nodup → (q.kw == sysModules) = false →
    q.Ok → q.kids = ts → q.els = [] → q.len = false → q.sed = some be → Q (.ref q.x) {s with heap := h', toks := tk'}) :
  wpAny (model PRG w) (topA 450 1800 l) (call (.ref 106) [.bytes c.toArray tk, .ref be]) Q E s := by
  have hc' : c = [] ++ ((Tr.node ts).enc ++ []) := by rw [hc]; simp
  have h0 : ([] : List UInt8).length = 0 := rfl
  refine wpAny_call ?_
  k_dflt (refine' enterKW (front := [(Str.ofString "rlp", .bytes c.toArray tk), (Str.ofString "sedes", .ref be)]) (rb := [(Str.ofString "sedes", .ref be), (Str.ofString "rlp", .bytes c.toArray tk)]) (nm := Str.ofString "sedes_kwargs") AM B Cells.nil ?k6 ?k7 ?k8 ?kP ?kT ?kB ?cr ?c2 ?c3 ?c4 ?c5 ?_; (case k6 => k_is); (case k7 => k_is); (case k8 => exact Nat.lt_of_sub_eq_succ rfl); (case kP => exact rfl); (case kT => exact fun _ => rfl); (case kB => exact fun _ => locs rfl); (case cr => exact rfl); (case c2 => exact rfl); (case c3 => exact rfl); (case c4 => exact rfl); (case c5 => decide); k_whole)
  intro g L' h' D tk₁ hg F N B' X' T' lt hD hDm
  dsimp only [bmap] at F ⊢
  try k_fold
  tb_start
  (k_here; (with_reducible show wpAny _ _ (call (Value.ref 113) _) _ _ _); (with_reducible rename Below _ _ _ _ => B'); (with_reducible rename Fr _ _ _ _ => F'); (with_reducible rename News _ _ _ _ => N'); k_dflt ((refine wk (d := 550) (u := 2200) (by first | exact Nat.le_of_ble_eq_true rfl | exact wkd (by assumption)) (by first | exact Nat.le_of_ble_eq_true rfl | exact wku0 (by assumption) | exact wku1 (by assumption) | exact wku2 (by assumption)) ?_); (refine cilL_spec (by assumption) (pcall B' F' rfl rfl) (by assumption) (by assumption) (by assumption) ?_); intro a' q' o' t2' n' h' tk' kp' ho' hq' _ _ hf' hn' ok' c1' c2' c3' c4' c5'; (have fn' := pbackQ F' N' kp' ho' hq' hf'); clear kp' ho' F' N'; obtain ⟨F', N', l1⟩ := fn'; (try simp only [List.forall_mem_cons, List.not_mem_nil, false_implies, implies_true, and_true, ne_eq] at l1)))
  rename List.Nodup _ => nd
  rename (_ : Row).Ok => okq
  have nd1 := nd
  simp only [List.nodup_cons, List.mem_cons, not_or] at nd1
  obtain ⟨⟨w1, w2, w3, w4, _⟩, ⟨w5, w6, w7, _⟩, ⟨w8, w9, _⟩, _⟩ := nd1
  have z1 : @Ne Nat a' q'.d := w2
  have z2 : @Ne Nat q'.x q'.d := w5
  have z3 : @Ne Nat q'.d q'.el := w8
  have z4 : @Ne Nat q'.x q'.el := w6
  simp only [Row.dict, rowD] at N'
  have hsz' : c.toArray.size = (Tr.node ts).enc.length := by rw [List.size_toArray, hc]
  tb_start
  all_goals (try (exfalso; omega))
  rename Fr _ _ _ _ => F₁
  rename News _ _ _ _ => N₁
  have k4 := (N₁ _ (.tail _ (.head _))).1
  have k5 := (N₁ _ (.tail _ (.tail _ (.head _)))).1
  have k2 := (N₁ _ (.tail _ (.tail _ (.tail _ (.head _))))).1
  have k6 := (N₁ _ (.tail _ (.tail _ (.tail _ (.tail _ (.head _)))))).1
  obtain ⟨τ', hz⟩ := row_keep (r := { q' with kw := D, sed := some be }) (els := q'.els) (len := q'.len) (a12 := q'.τ 12) k4 k5 k2 rfl rfl rfl rfl rfl rfl
  have hn := fun z hz => fresh_from (cells := []) hg N₁ (p := z) hz (by simp)
  refine ret ({ q' with kw := D, sed := some be, els := q'.els, eln := q'.eln, τ := τ', len := q'.len } : Row) _ _ (kp_of (cells := []) hg F₁) ?_ ?_ ?_ hDm ⟨okq.lay, okq.small, okq.le, okq.whole⟩ c2' c3' c4' rfl
  · intro z hz'
    rcases List.mem_append.mp hz' with hz' | hz'
    · exact hz z hz'
    · obtain rfl := List.mem_singleton.mp hz'
      exact k6
  · intro z hz'
    simp only [List.mem_cons, List.not_mem_nil, or_false] at hz'
    rcases hz' with rfl | rfl | rfl | rfl
    · exact hn _ (.tail _ (.head _))
    · exact hn _ (.tail _ (.tail _ (.head _)))
    · exact hn _ (.tail _ (.tail _ (.tail _ (.head _))))
    · exact hD
  · simp only [List.nodup_cons, List.mem_cons, List.not_mem_nil, or_false, not_or, List.nodup_nil, and_true, not_false_eq_true]
    obtain ⟨_, y1, y2, y3⟩ := l1
    exact ⟨⟨w5, w6, fun z => y1 z.symm⟩, ⟨w8, fun z => y2 z.symm⟩, fun z => y3 z.symm⟩
end Mine
end

section
theorem Mine.quietDb : True := by
  w_top off
  trivial
open PySem PySem.W PySem.Spec PySem.Calls PyProof.Rows
set_option Elab.async false
set_option maxRecDepth 100000
set_option maxHeartbeats 8000000
namespace Mine
theorem filled12 (w : World) (h : Heap) (X : (Mine.hd.heap_39 w.params).In h) : Challenge.rw_sx0040_01 = Challenge.rw_sx0040_01 := by
  revert X; k_fill; intro _; rfl
local macro_rules | `(tactic| tb_start) => `(tactic| repeat' ((fail_if_success (with_reducible show wpAny _ _ (call (Value.ref 113) _) _ _ _)); (fail_if_success (with_reducible show wpAny _ _ (exec (Stmt.While _ _ _ _) _) _ _ _)); (fail_if_success (with_reducible show wpAny _ _ (exec (Stmt.For _ _ _ _ _) _) _ _ _)); (fail_if_success (with_reducible show wpAny _ _ (pyIter _) _ _ _)); first | (k_unfold; (try dsimp only)) | (k_end; wrow_close) | walk1 | (dsimp only; walk1) | (leave1; walk_say "STEP leave1"; try dsimp only) | fail "no step"))
theorem emptyD0 : EmptyO (dictOf [] 0) := ⟨rfl, 0, rfl⟩
theorem decB_none {w : World} {mean : ExcName → Option Value} {mg mb : Str → Option Value} {base : Heap} {l : List Env} {s : Shared} {Q E : Value → Shared → Prop} {t : Tr} {c : List UInt8} {tk : Tok}
  (AM : Amb w mean mg mb base) (B : Below (topA 450 1800 l) base l s.heap) (hc : c = t.enc) (hsz : c.length < 65536) (hB : t.isB = true)
  (ret : ∀ t1 h' tk', Kp [] s.heap h' → Q (.bytes t.body.toArray t1) {s with heap := h', toks := tk'}) :
  wpAny (model PRG w) (topA 450 1800 l) (call (.ref 106) [.bytes c.toArray tk]) Q E s := by
  have hc' : c = [] ++ (t.enc ++ []) := by rw [hc]; simp
  have h0 : ([] : List UInt8).length = 0 := rfl
  refine wpAny_call ?_
  k_dflt (refine' enterKW (front := [(Str.ofString "rlp", .bytes c.toArray tk), (Str.ofString "sedes", .none)]) (rb := [(Str.ofString "sedes", .none), (Str.ofString "rlp", .bytes c.toArray tk)]) (nm := Str.ofString "sedes_kwargs") AM B Cells.nil ?k6 ?k7 ?k8 ?kP ?kT ?kB ?cr ?c2 ?c3 ?c4 ?c5 ?_; (case k6 => k_is); (case k7 => k_is); (case k8 => exact Nat.lt_of_sub_eq_succ rfl); (case kP => exact rfl); (case kT => exact fun _ => rfl); (case kB => exact fun _ => locs rfl); (case cr => exact rfl); (case c2 => exact rfl); (case c3 => exact rfl); (case c4 => exact rfl); (case c5 => decide); k_whole)
  intro g L' h' D tk₁ hg F N B' X' T' lt hD hDm
  dsimp only [bmap] at F ⊢
  try k_fold
  tb_start
  (k_here; (with_reducible show wpAny _ _ (call (Value.ref 113) _) _ _ _); (with_reducible rename Below _ _ _ _ => B'); (with_reducible rename Fr _ _ _ _ => F'); (with_reducible rename News _ _ _ _ => N'); k_dflt ((refine wk (d := 550) (u := 2200) (by first | exact Nat.le_of_ble_eq_true rfl | exact wkd (by assumption)) (by first | exact Nat.le_of_ble_eq_true rfl | exact wku0 (by assumption) | exact wku1 (by assumption) | exact wku2 (by assumption)) ?_); (refine cilB_spec (by assumption) (pcall B' F' rfl rfl) (by assumption) (by assumption) (by assumption) (by first | rfl | assumption) ?_); intro a' t1' t2' n' h' tk' kp' fr' ho'; (have fn' := pback1 F' N' kp' ho' fr'); clear kp' fr' ho' F' N'; obtain ⟨F', N', l1⟩ := fn'; (try simp only [List.forall_mem_cons, List.not_mem_nil, false_implies, implies_true, and_true, ne_eq] at l1)))
  have hsz' : c.toArray.size = t.enc.length := by rw [List.size_toArray, hc]
  tb_start
  all_goals (try (exfalso; omega))
  rename Fr _ _ _ _ => F₁
  exact ret _ _ _ (kp_of (cells := []) hg F₁)
local macro_rules | `(tactic| walk_at "idle line") => `(tactic| skip)
local macro_rules | `(tactic| walk_at "idle line") => `(tactic| skip)
local macro_rules | `(tactic| walk_at "idle line") => `(tactic| skip)
local macro_rules | `(tactic| walk_at "idle line") => `(tactic| skip)
local macro_rules | `(tactic| walk_at "idle line") => `(tactic| skip)
local macro_rules | `(tactic| walk_at "idle line") => `(tactic| skip)
local macro_rules | `(tactic| walk_at "idle line") => `(tactic| skip)
local macro_rules | `(tactic| walk_at "idle line") => `(tactic| skip)
local macro_rules | `(tactic| walk_at "eval Call Attribute") => `(tactic| (k_here; (with_reducible show wpAny _ _ (eval (Expr.Call (Expr.Attribute _ _ _) (_ :: _) [Keyword.mk none _ _] _) _) _ _ _); k_dflt (refine methodCall_kw0 ?_)))
local macro_rules | `(tactic| walk_at "callWith ref") => `(tactic| (k_here; (with_reducible show wpAny _ _ (callWith _ (Value.ref _) _ (backTo _ (starEach (_ :: _) _)) (backToKw _ (keywordEach [Keyword.mk none _ _] _))) _ _ _); k_dflt (refine' callWith_kw0M ?k0 ?k1 ?k2 ?k3 ?_; (case k0 => k_asm); (case k1 => k_asm); (case k2 => k_mem); (case k3 => k_is); k_whole)))
local macro_rules | `(tactic| walk_at "AllocD") => `(tactic| (k_dflt (refine' allocD_ ?k1 ?k2 ?k3 ?_; (case k1 => k_asm); (case k2 => k_asm); (case k3 => exact TopRead.nolimit (by k_asm)); k_whole); intro d' h' F' N' l1 dz'; (try k_lt l1); (try k_sweep)))
local macro_rules | `(tactic| walk_at "StarEnd") => `(tactic| (k_dflt (refine' starEnd_ ?k1 ?k2 ?k3 ?k4 ?k5 ?k6 ?k7 ?_; (case k1 => k_asm); (case k2 => k_mem); (case k3 => k_mem); (case k4 => assumption); (case k5 => assumption); (case k6 => assumption); (case k7 => k_meth)); (try dsimp only [List.nil_append, List.cons_append])))
local macro_rules | `(tactic| walk_at "call ref") => `(tactic| (k_here; (with_reducible show wpAny _ _ (call (Value.ref _) [Value.bytes (List.toArray _) _]) _ _ _); (with_reducible rename Below _ _ _ _ => B'); (with_reducible rename Fr _ _ _ _ => F'); (with_reducible rename News _ _ _ _ => N'); k_dflt ((refine wk (d := 600) (u := 2500) (Nat.le_of_ble_eq_true rfl) (Nat.le_of_ble_eq_true rfl) ?_); (refine' des_meth (by assumption) B' F' N' rfl rfl ?kq ?ka ?kb ?kn ?_; (case kq => k_mem); (case ka => k_mem); (case kb => k_mem); (case kn => assumption)); intro t' h' tk' kp'; (have fn' := pback F' N' kp'); clear kp' F' N'; obtain ⟨F', N'⟩ := fn')))
theorem decB_sed {w : World} {mean : ExcName → Option Value} {mg mb : Str → Option Value} {base : Heap} {l : List Env} {s : Shared} {Q E : Value → Shared → Prop} {n : Nat} {c : List UInt8} {be bd : Addr} {t0 : Tok} {tk : Tok}
  (AM : Amb w mean mg mb base) (B : Below (topA 450 1800 l) base l s.heap) (C : Cells s.heap base l [(be, instObj 196 bd), (bd, beD w.params t0)]) (hc : c = (Tr.num n).enc) (hsz : c.length < 65536) (hn : n < 65536)
  (ret : ∀ t1 h' tk', Kp [] s.heap h' → Q (.int (n : Int) t1) {s with heap := h', toks := tk'}) :
  wpAny (model PRG w) (topA 450 1800 l) (call (.ref 106) [.bytes c.toArray tk, .ref be]) Q E s := by
  have hc' : c = [] ++ ((Tr.num n).enc ++ []) := by rw [hc]; simp
  have h0 : ([] : List UInt8).length = 0 := rfl
  have hbn : (Tr.num n).body = digs n := rfl
  have he0 := emptyD0
  refine wpAny_call ?_
  k_dflt (refine' enterKW (front := [(Str.ofString "rlp", .bytes c.toArray tk), (Str.ofString "sedes", .ref be)]) (rb := [(Str.ofString "sedes", .ref be), (Str.ofString "rlp", .bytes c.toArray tk)]) (nm := Str.ofString "sedes_kwargs") AM B C ?k6 ?k7 ?k8 ?kP ?kT ?kB ?cr ?c2 ?c3 ?c4 ?c5 ?_; (case k6 => k_is); (case k7 => k_is); (case k8 => exact Nat.lt_of_sub_eq_succ rfl); (case kP => exact rfl); (case kT => exact fun _ => rfl); (case kB => exact fun _ => locs rfl); (case cr => exact rfl); (case c2 => exact rfl); (case c3 => exact rfl); (case c4 => exact rfl); (case c5 => decide); k_whole)
  intro g L' h' D tk₁ hg F N B' X' T' lt hD hDm
  dsimp only [bmap] at F ⊢
  try k_fold
  tb_start
  (k_here; (with_reducible show wpAny _ _ (call (Value.ref 113) _) _ _ _); (with_reducible rename Below _ _ _ _ => B'); (with_reducible rename Fr _ _ _ _ => F'); (with_reducible rename News _ _ _ _ => N'); k_dflt ((refine wk (d := 550) (u := 2200) (by first | exact Nat.le_of_ble_eq_true rfl | exact wkd (by assumption)) (by first | exact Nat.le_of_ble_eq_true rfl | exact wku0 (by assumption) | exact wku1 (by assumption) | exact wku2 (by assumption)) ?_); (refine cilB_spec (by assumption) (pcall B' F' rfl rfl) (by assumption) (by assumption) (by assumption) (by first | rfl | assumption) ?_); intro a' t1' t2' n' h' tk' kp' fr' ho'; (have fn' := pback1 F' N' kp' ho' fr'); clear kp' fr' ho' F' N'; obtain ⟨F', N', l1⟩ := fn'; (try simp only [List.forall_mem_cons, List.not_mem_nil, false_implies, implies_true, and_true, ne_eq] at l1)))
  have hsz' : c.toArray.size = (Tr.num n).enc.length := by rw [List.size_toArray, hc]
  tb_start
  all_goals (try (exfalso; omega))
  rename Fr _ _ _ _ => F₁
  rename News _ _ _ _ => N₁
  refine ret _ _ _ (kp_ro (cells := []) (ro := [(be, instObj 196 bd), (bd, beD w.params t0)]) hg F₁ (fun z hz => (C z hz).1) (fun z hz => (N₁ z (.tail _ (.tail _ (.tail _ (.tail _ hz))))).1))
end Mine
end

section
theorem Mine.quietLoop : True := by
  w_top off
  trivial
open PySem PySem.W PySem.Spec PySem.Calls PyProof.Rows
set_option Elab.async false
set_option maxRecDepth 100000
set_option maxHeartbeats 8000000
namespace Mine
section
variable {prog : Program} {w : World} {A : Around} {E : Value → Shared → Prop} {s : Shared} {env : Env} {Q : Flow → Shared → Prop}
/-- a for by any word on the whole state -/
theorem for_inv {target : PySem.Expr} {it : Value} {body orelse : List Stmt} (I : Nat → Shared → Prop) (hE : PassesOwn (model prog w) A env E)
    (turn : ∀ n s, I n s → wpAny (model prog w) A (pyNext it) (fun r s₁ => match r with
      | none => wpAny (model prog w) A (execs orelse env) Q E s₁
      | some v => wpAny (model prog w) A (assign target env v) (fun _ s₂ => wpAny (model prog w) A (execs body env) (fun f s₃ => match f with
          | .next => Stay (∃ k, k < n ∧ I k s₃)
          | .cont => Stay (∃ k, k < n ∧ I k s₃)
          | .brk => Q .next s₃
          | .ret v => Q (.ret v) s₃) E s₂) E s₁) E s)
    {n : Nat} (h : I n s) (ht : ∀ v, letOwnedTupleGo target it v = pure () := by intro _; rfl) :
    codeAny (model prog w) A (.forLoop target it body orelse env) (fun r s' => match r with | .ok f => Q f s' | .error e => cameBackBy (model prog w) A env E e s') s := by
  refine codeAny_forLoop I (fun n s hI => wpAny_mono (turn n s hI) (fun r s₁ h₁ => ?_) fun e s' he => hE e s' he) n h ht
  cases r with
  | none => exact wpAny_mono h₁ (fun _ _ x => x) fun e s' he => hE e s' he
  | some v =>
    refine wpAny_mono h₁ (fun _ s₂ h₂ => wpAny_mono h₂ (fun f s₃ h₃ => ?_) fun e s' he => hE e s' he) fun e s' he => hE e s' he
    cases f with
    | next => exact h₃
    | cont => exact h₃
    | brk => exact h₃
    | ret v => exact h₃
end
abbrev iterObj (l : Addr) (i : Nat) : Obj := { cls := .type "list_iterator", data := .fields #[.ref l, .int i 0] }
section
variable {prog : Program} {w : World} {A : Around} {E : Value → Shared → Prop} {s : Shared} {env : Env} {Q : Flow → Shared → Prop} {g : Heap} {L : Addr} {m : Str → Option Value} {news : List (Addr × Obj)} {l : Addr} {xs : List Value} {c : Nat} {x : Str} {px : Pos} {body orelse : List Stmt}
def IterO (l : Addr) (i : Nat) (o : Obj) : Prop := o.cls = .type "list_iterator" ∧ o.data = .fields #[.ref l, .int i 0]
/-- where a for over a list stands -/
def ForAt (g : Heap) (L it l : Addr) (J : Nat → (Str → Option Value) → List (Addr × Obj) → Prop) (s : Shared) (i : Nat) (s' : Shared) : Prop :=
  ∃ m news h tk ito, s' = { s with heap := h, toks := tk } ∧ Fr g L h m ∧ News g L h ((it, ito) :: news) ∧ IterO l i ito ∧ (∀ p ∈ news, @Ne Nat p.1 it) ∧ J i m news
theorem for_list (J : Nat → (Str → Option Value) → List (Addr × Obj) → Prop) (F : Fr g L s.heap m) (N : News g L s.heap news) (j0 : J 0 m news)
    (hl : ∀ i m news, J i m news → (l, W.listOf xs.toArray c) ∈ news) (hE : PassesOwn (model prog w) A env E) (hA : A.handled = none)
    (hf : env.locals = L) (hk : env.scope.kind = .function) (hx : env.kindOf x = some .local)
    (turn : ∀ i m news h tk it ito v, J i m news → xs[i]? = some v → Fr g L h (fun y => if y = x then some v else m y) → News g L h ((it, ito) :: news) → IterO l (i + 1) ito → (∀ p ∈ news, @Ne Nat p.1 it) →
      wpAny (model prog w) A (execs body env) (fun f s₃ => match f with
        | .next => Stay (ForAt g L it l J s (i + 1) s₃)
        | .cont => Stay (ForAt g L it l J s (i + 1) s₃)
        | .brk => Q .next s₃
        | .ret v => Q (.ret v) s₃) E { s with heap := h, toks := tk })
    (done : ∀ m news h tk, J xs.length m news → Fr g L h m → News g L h news → wpAny (model prog w) A (execs orelse env) Q E { s with heap := h, toks := tk }) :
    wpAny (model prog w) A (pyIter (.ref l)) (fun it s₂ => codeAny (model prog w) A (.forLoop (.Name x px) it body orelse env) (fun r s' => match r with | .ok f => Q f s' | .error e => cameBackBy (model prog w) A env E e s') s₂) E s := by
  have hL := News.isList N (hl 0 m news j0)
  refine wpAny_pyIter_list hL ?_
  have F0 := F.push (iterObj l 0)
  have N0 := N.push F (iterObj l 0) rfl
  have ltn : ∀ p ∈ news, @Ne Nat p.1 s.heap.objs.size := fun p hp => Nat.ne_of_lt (Heap.lt_size (N p hp).1)
  refine for_inv (fun k s' => ∃ i, i + k = xs.length ∧ ForAt g L s.heap.objs.size l J s i s') hE (fun k s₁ hI => ?_) (n := xs.length) ⟨0, Nat.zero_add _, m, news, _, s.toks, _, rfl, F0, N0, ⟨rfl, rfl⟩, ltn, j0⟩
  obtain ⟨i, hik, m', news', h, tk, ito, rfl, F', N', hio, dis, j⟩ := hI
  have ho := (N' _ (.head _)).1
  have hit : h.IsListIter s.heap.objs.size l i := ⟨_, ho, hio.1, hio.2⟩
  have Nn : News g L h news' := fun p hp => N' p (.tail _ hp)
  have hL' : h.IsList l xs.toArray := News.isList Nn (hl i m' news' j)
  have after : ∀ h', (∀ b o, b ≠ s.heap.objs.size → h.get? b = some o → h'.get? b = some o) → Fr g L h' m' ∧ News g L h' news' := fun h' kp => by
    obtain ⟨oL, es, ep, hoL, hr⟩ := F'.ns
    refine ⟨⟨⟨oL, es, ep, kp _ _ (fun z => (N' _ (.head _)).2.1 z.symm) hoL, hr⟩, fun b o e => kp b o (fun z => ?_) (F'.keep b o e), F'.above⟩, fun p hp => ⟨kp _ _ (dis p hp) (Nn p hp).1, (Nn p hp).2⟩⟩
    have := (N' _ (.head _)).2.2
    rw [z] at e
    rw [e] at this; cases this
  cases hx' : xs[i]? with
  | none =>
    have hlen : i = xs.length := by
      have := List.getElem?_eq_none_iff.mp hx'
      omega
    subst hlen
    refine wpAny_pyNext_list_end hA hit hL' (by simp) fun h' hb => ?_
    obtain ⟨F'', N''⟩ := after h' hb
    exact done m' news' h' tk j F'' N''
  | some v =>
    refine wpAny_pyNext_list_item hit hL' (by simpa using hx') fun h' hit' hb => ?_
    obtain ⟨F'', N''⟩ := after h' fun b o n e => (hb.2 b n).trans e
    obtain ⟨o', ho', hc', hd'⟩ := hit'
    have N3 : News g L h' ((s.heap.objs.size, o') :: news') := fun p hp => by
      rcases List.mem_cons.mp hp with rfl | hp
      · exact ⟨ho', (N' _ (.head _)).2⟩
      · exact N'' p hp
    refine wpAny_assign_Name ?_
    subst hf
    refine wpAny_storeName_local hx F''.ns (fun h2 hn hs => ?_) (by show (env.scope.kind == .class || (env.scope.kind == .module && env.locals != env.globals)) = false; rw [hk]; rfl)
    refine wpAny_mono (turn i m' news' h2 _ _ o' v j hx' (F''.set hn hs) (N3.set hs) ⟨hc', hd'⟩ dis) (fun f s₃ h₃ => ?_) fun _ _ x => x
    have hlt : i < xs.length := by
      rcases Nat.lt_or_ge i xs.length with q | q
      · exact q
      · rw [List.getElem?_eq_none q] at hx'; cases hx'
    cases f with
    | next => exact ⟨k - 1, by omega, i + 1, by omega, h₃⟩
    | cont => exact ⟨k - 1, by omega, i + 1, by omega, h₃⟩
    | brk => exact h₃
    | ret v => exact h₃
end
end Mine
end

section
theorem Mine.quietPeek : True := by
  w_top off
  trivial
open PySem PySem.W PySem.Spec PySem.Calls PyProof.Rows
set_option Elab.async false
set_option maxRecDepth 100000
set_option maxHeartbeats 8000000
namespace Mine
/-- no numbers, all the way down -/
def Tr.plain : Tr → Prop
  | .num _ => False
  | .leaf _ => True
  | .node ts => plains ts
where plains : List Tr → Prop
  | [] => True
  | t :: r => t.plain ∧ plains r
theorem plains_iff {ts : List Tr} : Tr.plain.plains ts ↔ ∀ t ∈ ts, t.plain := by
  induction ts with
  | nil => simp [Tr.plain.plains]
  | cons t r ih => simp [Tr.plain.plains, ih]
def Tr.at : Tr → List Nat → Option Tr
  | t, [] => some t
  | .node ts, k :: r => (ts[k]?).bind fun t => t.at r
  | .leaf _, _ :: _ => none
  | .num _, _ :: _ => none
theorem Tr.at_append (t : Tr) (a b : List Nat) : t.at (a ++ b) = (t.at a).bind fun x => x.at b := by
  induction a generalizing t with
  | nil => simp [Tr.at]
  | cons k r ih =>
    cases t with
    | node ts =>
      simp only [List.cons_append, Tr.at]
      cases ts[k]? with
      | none => rfl
      | some x => simp [ih]
    | leaf b => simp [Tr.at]
    | num n => simp [Tr.at]
theorem Kids.get {P : Params} {ts : List Tr} {vs : List Value} {nws : List (Addr × Obj)} (h : Kids P ts vs nws) {i : Nat} {v : Value} (hv : vs[i]? = some v) : ∃ t nw, ts[i]? = some t ∧ Kid P t v nw ∧ nw.Sublist nws := by
  induction h with
  | nil => simp at hv
  | @snoc ts vs nws t v' nw hk hK ih =>
    rcases Nat.lt_trichotomy i vs.length with q | q | q
    · rw [List.getElem?_append_left q] at hv
      obtain ⟨t', nw', h1, h2, h3⟩ := ih hv
      exact ⟨t', nw', by rw [List.getElem?_append_left (by rw [hk.len]; exact q)]; exact h1, h2, h3.trans (List.sublist_append_right _ _)⟩
    · subst q
      rw [List.getElem?_append_right (Nat.le_refl _), Nat.sub_self] at hv
      obtain rfl : v' = v := by simpa using hv
      exact ⟨t, nw, by rw [← hk.len, List.getElem?_append_right (Nat.le_refl _), Nat.sub_self]; rfl, hK, List.sublist_append_left _ _⟩
    · rw [List.getElem?_eq_none (by rw [List.length_append]; simp; omega)] at hv
      cases hv
abbrev pmap (iv : Option Value) (v sv ixv rv : Value) : Str → Option Value := fun y => if y = Str.ofString "i" then iv else if y = Str.ofString "ll" then some v else if y = Str.ofString "sedes" then some sv else if y = Str.ofString "index" then some ixv else if y = Str.ofString "rlp" then some rv else none
/-- peek on its way -/
def PJ (P : Params) (t : Tr) (ks : List Nat) (ix : Addr) (io : Obj) (sv ixv rv : Value) (keep : List (Addr × Obj)) (i : Nat) (m : Str → Option Value) (news : List (Addr × Obj)) : Prop :=
  ∃ ti v nw, t.at (ks.take i) = some ti ∧ ti.plain ∧ Kid P ti v nw ∧ (nw.map (·.1)).Nodup ∧ (∃ iv, ∀ y, m y = pmap iv v sv ixv rv y) ∧ news = nw ++ (ix, io) :: keep ∧ ∀ z ∈ nw, ∀ q ∈ (ix, io) :: keep, @Ne Nat q.1 z.1
theorem getE {g : Heap} {h : Heap} {L : Addr} {news : List (Addr × Obj)} (N : News g L h news) {a : Addr} {o o' : Obj} (h1 : (a, o) ∈ news) (h2 : (a, o') ∈ news) : o = o' := by
  have := (N _ h1).1.symm.trans (N _ h2).1
  exact Option.some.inj this
theorem cells_call {A : Around} {base g h : Heap} {l : List Env} {L : Addr} {m : Str → Option Value} {news cells : List (Addr × Obj)} {env : Env} (B : Below A base l g) (F : Fr g L h m) (N : News g L h news) (sub : ∀ p ∈ cells, p ∈ news)
    (hf : env.frame = some L) (hk : env.scope.kind = .function) : Cells h base (env :: l) cells := (amb_call B F N sub hf hk).2
theorem filled13 (w : World) (h : Heap) (X : (Mine.hd.heap_39 w.params).In h) : Challenge.rw_sx0040_01 = Challenge.rw_sx0040_01 := by
  revert X; k_fill; intro _; rfl
local macro_rules | `(tactic| tb_start) => `(tactic| repeat' ((fail_if_success (with_reducible show wpAny _ _ (call (Value.ref 106) _) _ _ _)); (fail_if_success (with_reducible show wpAny _ _ (call (Value.ref 142) _) _ _ _)); (fail_if_success (with_reducible show wpAny _ _ (exec (Stmt.While _ _ _ _) _) _ _ _)); (fail_if_success (with_reducible show wpAny _ _ (exec (Stmt.For _ _ _ _ _) _) _ _ _)); (fail_if_success (with_reducible show wpAny _ _ (pyIter _) _ _ _)); first | (k_unfold; (try dsimp only)) | (k_end; wrow_close) | walk1 | (dsimp only; walk1) | (leave1; walk_say "STEP leave1"; try dsimp only) | fail "no step"))
local macro_rules | `(tactic| walk_at "idle line") => `(tactic| skip)
local macro_rules | `(tactic| walk_at "idle line") => `(tactic| skip)
local macro_rules | `(tactic| walk_at "idle line") => `(tactic| skip)
local macro_rules | `(tactic| walk_at "idle line") => `(tactic| skip)
local macro_rules | `(tactic| walk_at "idle line") => `(tactic| skip)
local macro_rules | `(tactic| walk_at "idle line") => `(tactic| skip)
local macro_rules | `(tactic| walk_at "idle line") => `(tactic| skip)
local macro_rules | `(tactic| walk_at "idle line") => `(tactic| skip)
local macro_rules | `(tactic| walk_at "idle line") => `(tactic| skip)
local macro_rules | `(tactic| walk_at "idle line") => `(tactic| skip)
local macro_rules | `(tactic| walk_at "idle line") => `(tactic| skip)
local macro_rules | `(tactic| walk_at "idle line") => `(tactic| skip)
local macro_rules | `(tactic| walk_at "idle line") => `(tactic| skip)
local macro_rules | `(tactic| walk_at "leaving ref") => `(tactic| (k_here; k_dflt (refine' leave_newS ?k1 ?k0 ?k2 ?k3 ?_; (case k0 => assumption); (case k1 => assumption); (case k2 => assumption); (case k3 => k_asm); k_whole); intro h' R' R0' U'; (try dsimp only at R' U' ⊢)))
theorem peek_way {w : World} {mean : ExcName → Option Value} {mg mb : Str → Option Value} {base : Heap} {l : List Env} {s : Shared} {Q E : Value → Shared → Prop} {ts : List Tr} {c : List UInt8} {tkc : Tok} {ix : Addr} {ks : List Nat} {vs : List Value} {ic : Nat}
  (AM : Amb w mean mg mb base) (B : Below (topA 400 1600 l) base l s.heap) (C : Cells s.heap base l [(ix, W.listOf vs.toArray ic)]) (hvs : vs.length = ks.length ∧ ∀ (i k : Nat), ks[i]? = some k → ∃ t, vs[i]? = some (Value.int (k : Int) t)) (hks : ∀ k ∈ ks, k < 65536)
  (hc : c = (Tr.node ts).enc) (hsz : c.length < 65536) (hpl : (Tr.node ts).plain)
  (ret : ∀ t' v nw h' tk', (Tr.node ts).at ks = some t' → Kp [] s.heap h' → (∀ z ∈ nw, h'.get? z.1 = some z.2) → (∀ z ∈ nw, s.heap.get? z.1 = none) → (nw.map (·.1)).Nodup → Kid w.params t' v nw → Q v {s with heap := h', toks := tk'})
  (err : ∀ e h' tk', (Tr.node ts).at ks = none → Raised [] [] base l e (.type "IndexError") s.heap h' → E (.ref e) {s with heap := h', toks := tk'}) :
  wpAny (model PRG w) (topA 400 1600 l) (call (.ref 164) [.bytes c.toArray tkc, .ref ix]) Q E s := by
  k_dflt (refine' enterE (rb := [(Str.ofString "sedes", .none), (Str.ofString "index", .ref ix), (Str.ofString "rlp", .bytes c.toArray tkc)]) AM B C ?k6 ?k7 ?k8 ?k9 ?kL ?cr ?c2 ?c3 ?c4 ?c5 ?_; (case k6 => k_is); (case k7 => k_is); (case k8 => first | exact Nat.lt_of_sub_eq_succ rfl | exact hdep); (case k9 => first | exact BindsTo.of_eq rfl | exact kp_binds (AM.X.keeps B.stays) (fun _ => rfl)); (case kL => exact locs rfl); (case cr => exact rfl); (case c2 => exact rfl); (case c3 => exact rfl); (case c4 => exact rfl); (case c5 => decide); k_whole)
  intro g L' h' hg F N B' X' T' lt
  dsimp only [bmap] at F ⊢
  try k_fold
  tb_start
  refine wk (d := 450) (u := 1800) (Nat.le_of_ble_eq_true rfl) (Nat.le_of_ble_eq_true rfl) ?_
  rename Fr _ _ _ _ => F₁
  rename News _ _ _ _ => N₁
  refine decL_none AM (pcall B' F₁ rfl rfl) hc hsz fun q h2 tk2 k1 k2 k3 k4 k5 k6 k7 k8 k9 k10 => ?_
  obtain ⟨F₂, N₂, l2⟩ := pbackN (out := q.cells w.params) F₁ N₁ k1 fun p hp => ⟨k2 p (List.mem_append_left _ hp), k3 _ (by
    simp only [Row.cells, List.mem_cons, List.not_mem_nil, or_false] at hp
    rcases hp with rfl | rfl | rfl <;> simp)⟩
  clear F₁ N₁
  simp only [Row.cells, Row.dict, rowD, List.cons_append, List.nil_append] at N₂
  tb_start
  have hd0 : @Ne Nat ix q.x ∧ @Ne Nat ix q.d ∧ @Ne Nat ix q.el := ⟨l2 _ (.head _) _ (.head _), l2 _ (.tail _ (.head _)) _ (.head _), l2 _ (.tail _ (.tail _ (.head _))) _ (.head _)⟩
  refine wpAny_For ?_
  tb_start
  rename Fr _ _ _ _ => F₃
  rename News _ _ _ _ => N₃
  have Nq : News g L' _ (q.cells w.params ++ [(ix, W.listOf vs.toArray ic)]) := fun p hp => N₃ p (.tail _ hp)
  clear N₃
  refine for_list (l := ix) (xs := vs) (c := ic) (PJ w.params (.node ts) ks ix (W.listOf vs.toArray ic) .none (.ref ix) (.bytes c.toArray tkc) []) F₃ Nq ?_ ?_ ?_ rfl rfl rfl rfl ?_ ?_
  · refine ⟨.node ts, .ref q.x, q.cells w.params, rfl, hpl, ⟨q, rfl, rfl, (List.nodup_append.mp (show ([q.x, q.d, q.el] ++ [q.kw]).Nodup from k4)).1, k6, k7, k8, k9, k10⟩, (List.nodup_append.mp (show ([q.x, q.d, q.el] ++ [q.kw]).Nodup from k4)).1, ⟨none, fun y => ?_⟩, rfl, ?_⟩
    · dsimp only [pmap]
      by_cases hy : y = Str.ofString "i"
      · subst hy; rfl
      · rw [if_neg hy]
    · intro z hz p hp
      obtain rfl := List.mem_singleton.mp hp
      simp only [Row.cells, List.mem_cons, List.not_mem_nil, or_false] at hz
      rcases hz with rfl | rfl | rfl
      · exact hd0.1
      · exact hd0.2.1
      · exact hd0.2.2
  · rintro i m news ⟨ti, v, nw, _, _, _, _, _, rfl, _⟩
    simp
  · passes_own
  · clear F₃ Nq
    intro i m news h tk₃ it ito v ⟨ti, cv, nw, q1, q2, q3, q4, ⟨iv, q5⟩, q6, q7⟩ hv F N hio dis
    have F₄ := Mine.Fr.congr F (m' := fun y => if y = Str.ofString "i" then some v else if y = Str.ofString "ll" then some cv else if y = Str.ofString "sedes" then some .none else if y = Str.ofString "index" then some (.ref ix) else if y = Str.ofString "rlp" then some (.bytes c.toArray tkc) else none) (fun y => by
      by_cases hy : y = Str.ofString "i"
      · rw [if_pos hy, if_pos hy]
      · rw [if_neg hy, if_neg hy, q5 y, pmap, if_neg hy])
    clear F
    have hi : i < ks.length := by
      rcases Nat.lt_or_ge i vs.length with z | z
      · omega
      · rw [List.getElem?_eq_none z] at hv; cases hv
    obtain ⟨ti', hti⟩ := hvs.2 i _ (List.getElem?_eq_getElem hi)
    rw [hti] at hv
    obtain rfl := (Option.some.inj hv).symm
    have hki : ks[i] < 65536 := hks _ (List.getElem_mem _)
    have htake : ks.take (i + 1) = ks.take i ++ [ks[i]] := by rw [List.take_add_one, List.getElem?_eq_getElem hi]; rfl
    subst q6
    cases ti with
    | num n => exact q2.elim
    | leaf b =>
      obtain ⟨⟨tb, rfl⟩, rfl⟩ := q3
      simp only [List.nil_append] at N
      tb_start
      rename RaisedSN _ _ _ _ _ _ _ => R₁
      rename Heap.UpToSlots _ _ => U₁
      refine err _ _ _ ?_ (Raised.ro (c := []) (ro := [(ix, W.listOf vs.toArray ic)]) (raised_of hg C B' KtsTurn.refl (Mine.RaisedSN.sub R₁ fun z hz => .tail _ hz) U₁) fun z hz => (C z hz).1)
      rw [← List.take_append_drop (i + 1) ks, Tr.at_append, htake, Tr.at_append, q1]
      rfl
    | node ts' =>
      obtain ⟨r, rfl, rfl, r1, r2, r3, r4, r5, r6⟩ := q3
      have N' := N
      simp only [Row.cells, Row.dict, rowD, List.cons_append, List.nil_append] at N'
      tb_start
      refine wk (d := 450) (u := 1800) (Nat.le_of_ble_eq_true rfl) (Nat.le_of_ble_eq_true rfl) ?_
      have hns : r.kids.length < 65536 := (r2.els).2
      have hnn : ∀ t ∈ r.kids, NoNum t := fun t ht => by
        rw [r3] at ht
        have := plains_iff.mp q2 t ht
        cases t with
        | num n => exact this.elim
        | leaf b => trivial
        | node b => trivial
      have hsub : ∀ p ∈ r.cells w.params ++ ([] : List (Addr × Obj)), p ∈ (it, ito) :: (r.cells w.params ++ [(ix, W.listOf vs.toArray ic)]) := fun p hp => .tail _ (List.mem_append_left _ (by rwa [List.append_nil] at hp))
      have hty : Typed w.params r [] := .inl ⟨r6, rfl, hnn⟩
      have hnd : ((r.cells w.params ++ ([] : List (Addr × Obj))).map (·.1)).Nodup := by rw [List.append_nil]; exact r1
      have nit : ∀ z ∈ r.cells w.params, @Ne Nat z.1 it := fun z hz => dis z (List.mem_append_left _ hz)
      have nix : ∀ z ∈ r.cells w.params, @Ne Nat ix z.1 := fun z hz => q7 z hz _ (.head _)
      have hix := (N (ix, W.listOf vs.toArray ic) (.tail _ (List.mem_append_right _ (.head _)))).1
      have hit := (N (it, ito) (.head _)).1
      have hrest : ∀ p ∈ ([(ix, W.listOf vs.toArray ic), (it, ito)] : List (Addr × Obj)), p ∈ (it, ito) :: (r.cells w.params ++ [(ix, W.listOf vs.toArray ic)]) ∧ p.1 ∉ (r.cells w.params).map (·.1) := by
        intro p hp
        simp only [List.mem_cons, List.not_mem_nil, or_false] at hp
        rcases hp with rfl | rfl
        · exact ⟨.tail _ (List.mem_append_right _ (.head _)), fun z => by
            obtain ⟨y, hy, e⟩ := List.mem_map.mp z
            exact nix y hy e.symm⟩
        · exact ⟨.head _, fun z => by
            obtain ⟨y, hy, e⟩ := List.mem_map.mp z
            exact nit y hy e⟩
      by_cases hlt : ks[i] < r.kids.length
      · refine getitem_ok AM (pcall B' F₄ rfl rfl) (cells_call B' F₄ N hsub rfl rfl) hnd r2 hty hlt fun r' nws v h' tk' R1 K1 H1 e1 e2 e3 => ?_
        obtain ⟨_, _, ⟨vs', ee, kk⟩, fr, ndw⟩ := R1
        rw [r4, List.nil_append] at ee
        rw [ee] at e3
        obtain ⟨t, nw, g1, g2, g3⟩ := kk.get e3
        have g1' : ts'[ks[i]]? = some t := by
          rw [r4] at g1
          simp only [List.length_nil, List.drop_zero] at g1
          rw [← r3]
          have := List.mem_of_getElem? g1
          rw [List.getElem?_take] at g1
          split at g1
          · exact g1
          · cases g1
        have frh : ∀ z ∈ nw, h.get? z.1 = none := fun z hz => fr z (g3.subset hz)
        obtain ⟨F5, N5⟩ := after_call (cells := r.cells w.params) (out := nw) (rest := [(ix, W.listOf vs.toArray ic), (it, ito)]) F₄ N (fun p hp => .tail _ (List.mem_append_left _ hp)) K1 (fun p hp => ⟨H1 p (List.mem_append_right _ (g3.subset hp)), .inr (frh p hp)⟩) hrest
        clear F₄ N N'
        tb_start
        rename Fr _ _ _ _ => F6
        rename News _ _ _ _ => N6
        refine ⟨_, nw ++ [(ix, W.listOf vs.toArray ic)], _, _, ito, rfl, F6, ?_, hio, ?_, t, v, nw, ?_, ?_, g2, ?_, ⟨some (.int (ks[i] : Int) ti'), fun y => ?_⟩, rfl, ?_⟩
        · intro p hp
          apply N6
          rcases List.mem_cons.mp hp with rfl | hp
          · exact List.mem_append_right _ (.tail _ (.head _))
          · rcases List.mem_append.mp hp with hp | hp
            · exact List.mem_append_left _ hp
            · obtain rfl := List.mem_singleton.mp hp
              exact List.mem_append_right _ (.head _)
        · intro p hp e
          rcases List.mem_append.mp hp with hp | hp
          · have := frh p hp
            have e' : p.1 = it := e
            rw [e', hit] at this; cases this
          · obtain rfl := List.mem_singleton.mp hp
            exact dis _ (List.mem_append_right _ (.head _)) e
        · rw [htake, Tr.at_append, q1]
          show ((ts'[ks[i]]?).bind fun t => t.at []) = _
          rw [g1']; rfl
        · exact plains_iff.mp q2 t (List.mem_of_getElem? g1')
        · exact ndw.sublist (g3.map _)
        · dsimp only [pmap]
          by_cases h1 : y = Str.ofString "ll"
          · subst h1; rfl
          · rw [if_neg h1]
            by_cases h2 : y = Str.ofString "i"
            · rw [if_pos h2, if_pos h2]
            · rw [if_neg h2, if_neg h2, if_neg h1, if_neg h1]
        · intro z hz p hp e
          obtain rfl := List.mem_singleton.mp hp
          have := frh z hz
          have e' : ix = z.1 := e
          rw [← e', hix] at this; cases this
      · refine getitem_out AM (pcall B' F₄ rfl rfl) (cells_call B' F₄ N hsub rfl rfl) hnd r2 hty (by omega) hki fun e r' nws h' tk' R1 Rz e1 => ?_
        obtain ⟨⟨s1, s2, s3, _⟩, _, _, fr, _⟩ := R1
        obtain ⟨G, FG, RS, U⟩ := to_SN (cl := []) (rest := [(ix, W.listOf vs.toArray ic)]) B' F₄ N Rz (fun b hb => by
          obtain ⟨z, hz, e⟩ := List.mem_map.mp (show b ∈ (r.cells w.params).map (·.1) from hb)
          exact List.mem_map.mpr ⟨z, .tail _ (List.mem_append_left _ hz), e⟩) (fun z hz => by
          rcases List.mem_append.mp hz with hz | hz
          · have : z.1 ∈ (r.cells w.params).map (·.1) := by
              have := List.mem_map_of_mem (f := (·.1)) hz
              rw [cells_map, s1, s2, s3] at this; exact this
            obtain ⟨y, hy, e⟩ := List.mem_map.mp this
            exact .inl (List.mem_map.mpr ⟨y, .tail _ (List.mem_append_left _ hy), e⟩)
          · exact .inr (fr z hz)) (fun z hz => by
          obtain rfl := List.mem_singleton.mp hz
          exact hrest _ (.head _))
        show wpAny _ _ (leaving _ _) _ _ _
        refine leave_onSN B' FG RS U fun h3 R3 _ U3 => ?_
        refine err _ _ _ ?_ (Raised.ro (c := []) (ro := [(ix, W.listOf vs.toArray ic)]) (raised_of hg C B' KtsTurn.refl (Mine.RaisedSN.sub R3 fun z hz => List.mem_append_right _ hz) U3) fun z hz => (C z hz).1)
        rw [← List.take_append_drop (i + 1) ks, Tr.at_append, htake, Tr.at_append, q1]
        show (((ts'[ks[i]]?).bind fun t => t.at []).bind _) = none
        rw [List.getElem?_eq_none (by rw [← r3]; omega)]; rfl
  · intro m news h tk₃ ⟨ti, cv, nw, q1, q2, q3, q4, ⟨iv, q5⟩, q6, q7⟩ F N
    have F₄ := Mine.Fr.congr F (m' := fun y => if y = Str.ofString "i" then iv else if y = Str.ofString "ll" then some cv else if y = Str.ofString "sedes" then some .none else if y = Str.ofString "index" then some (.ref ix) else if y = Str.ofString "rlp" then some (.bytes c.toArray tkc) else none) q5
    clear F
    tb_start
    subst q6
    rw [hvs.1, List.take_length] at q1
    refine ret ti cv nw _ _ q1 (kp_ro (cells := []) (ro := [(ix, W.listOf vs.toArray ic)]) hg F₄ (fun z hz => (C z hz).1) fun z hz => (N z (List.mem_append_right _ hz)).1) (fun z hz => (N z (List.mem_append_left _ hz)).1) (fun z hz => fresh_from hg N (List.mem_append_left _ hz) ?_) q4 q3
    intro e
    obtain rfl' := List.mem_singleton.mp e
    exact q7 z hz _ (.head _) rfl'.symm
end Mine
end

section
theorem Mine.quietPeek2 : True := by
  w_top off
  trivial
open PySem PySem.W PySem.Spec PySem.Calls PyProof.Rows
set_option Elab.async false
set_option maxRecDepth 100000
set_option maxHeartbeats 8000000
namespace Mine
theorem head_of {g : Heap} {L : Addr} {h : Heap} {a : Addr} {o : Obj} {news : List (Addr × Obj)} (_ : News g L h ((a, o) :: news)) : ∃ x, x = a := ⟨a, rfl⟩
theorem filled14 (w : World) (h : Heap) (X : (Mine.hd.heap_39 w.params).In h) : Challenge.rw_sx0040_01 = Challenge.rw_sx0040_01 := by
  revert X; k_fill; intro _; rfl
local macro_rules | `(tactic| tb_start) => `(tactic| repeat' ((fail_if_success (with_reducible show wpAny _ _ (call (Value.ref 106) _) _ _ _)); (fail_if_success (with_reducible show wpAny _ _ (call (Value.ref 142) _) _ _ _)); (fail_if_success (with_reducible show wpAny _ _ (call (Value.ref 193) _) _ _ _)); (fail_if_success (with_reducible show wpAny _ _ (exec (Stmt.While _ _ _ _) _) _ _ _)); (fail_if_success (with_reducible show wpAny _ _ (exec (Stmt.For _ _ _ _ _) _) _ _ _)); (fail_if_success (with_reducible show wpAny _ _ (pyIter _) _ _ _)); first | (k_unfold; (try dsimp only)) | (k_end; wrow_close) | walk1 | (dsimp only; walk1) | (leave1; walk_say "STEP leave1"; try dsimp only) | fail "no step"))
local macro_rules | `(tactic| walk_at "idle line") => `(tactic| skip)
local macro_rules | `(tactic| walk_at "idle line") => `(tactic| skip)
local macro_rules | `(tactic| walk_at "idle line") => `(tactic| skip)
local macro_rules | `(tactic| walk_at "idle line") => `(tactic| skip)
local macro_rules | `(tactic| walk_at "idle line") => `(tactic| skip)
local macro_rules | `(tactic| walk_at "idle line") => `(tactic| skip)
local macro_rules | `(tactic| walk_at "idle line") => `(tactic| skip)
local macro_rules | `(tactic| walk_at "idle line") => `(tactic| skip)
local macro_rules | `(tactic| walk_at "idle line") => `(tactic| skip)
local macro_rules | `(tactic| walk_at "idle line") => `(tactic| skip)
local macro_rules | `(tactic| walk_at "idle line") => `(tactic| skip)
local macro_rules | `(tactic| walk_at "idle line") => `(tactic| skip)
local macro_rules | `(tactic| walk_at "idle line") => `(tactic| skip)
local macro_rules | `(tactic| walk_at "idle line") => `(tactic| skip)
local macro_rules | `(tactic| walk_at "leaving ref") => `(tactic| (k_here; k_dflt (refine' leave_newS ?k1 ?k0 ?k2 ?k3 ?_; (case k0 => assumption); (case k1 => assumption); (case k2 => assumption); (case k3 => k_asm); k_whole); intro h' R' R0' U'; (try dsimp only at R' U' ⊢)))
theorem peek_waySed {w : World} {mean : ExcName → Option Value} {mg mb : Str → Option Value} {base : Heap} {l : List Env} {s : Shared} {Q E : Value → Shared → Prop} {ts : List Tr} {c : List UInt8} {tkc : Tok} {be bd : Addr} {t0 : Tok} {ix : Addr} {ks : List Nat} {vs : List Value} {ic : Nat}
  (AM : Amb w mean mg mb base) (B : Below (topA 400 1600 l) base l s.heap) (C : Cells s.heap base l ((ix, W.listOf vs.toArray ic) :: [(be, instObj 196 bd), (bd, beD w.params t0)] : List (Addr × Obj))) (hvs : vs.length = ks.length ∧ ∀ (i k : Nat), ks[i]? = some k → ∃ t, vs[i]? = some (Value.int (k : Int) t)) (hks : ∀ k ∈ ks, k < 65536)
  (hc : c = (Tr.node ts).enc) (hsz : c.length < 65536) (hpl : (Tr.node ts).plain) (hleaf : ∀ t', (Tr.node ts).at ks = some t' → ∃ n, n < 65536 ∧ t' = .leaf (digs n))
  (ret : ∀ n t h' tk', (Tr.node ts).at ks = some (.leaf (digs n)) → Kp [] s.heap h' → Q (.int (n : Int) t) {s with heap := h', toks := tk'})
  (err : ∀ e h' tk', (Tr.node ts).at ks = none → Raised [] [] base l e (.type "IndexError") s.heap h' → E (.ref e) {s with heap := h', toks := tk'}) :
  wpAny (model PRG w) (topA 400 1600 l) (call (.ref 164) [.bytes c.toArray tkc, .ref ix, .ref be]) Q E s := by
  k_dflt (refine' enterE (rb := [(Str.ofString "sedes", .ref be), (Str.ofString "index", .ref ix), (Str.ofString "rlp", .bytes c.toArray tkc)]) AM B C ?k6 ?k7 ?k8 ?k9 ?kL ?cr ?c2 ?c3 ?c4 ?c5 ?_; (case k6 => k_is); (case k7 => k_is); (case k8 => first | exact Nat.lt_of_sub_eq_succ rfl | exact hdep); (case k9 => first | exact BindsTo.of_eq rfl | exact kp_binds (AM.X.keeps B.stays) (fun _ => rfl)); (case kL => exact locs rfl); (case cr => exact rfl); (case c2 => exact rfl); (case c3 => exact rfl); (case c4 => exact rfl); (case c5 => decide); k_whole)
  intro g L' h' hg F N B' X' T' lt
  dsimp only [bmap] at F ⊢
  try k_fold
  tb_start
  refine wk (d := 450) (u := 1800) (Nat.le_of_ble_eq_true rfl) (Nat.le_of_ble_eq_true rfl) ?_
  rename Fr _ _ _ _ => F₁
  rename News _ _ _ _ => N₁
  refine decL_none AM (pcall B' F₁ rfl rfl) hc hsz fun q h2 tk2 k1 k2 k3 k4 k5 k6 k7 k8 k9 k10 => ?_
  obtain ⟨F₂, N₂, l2⟩ := pbackN (out := q.cells w.params) F₁ N₁ k1 fun p hp => ⟨k2 p (List.mem_append_left _ hp), k3 _ (by
    simp only [Row.cells, List.mem_cons, List.not_mem_nil, or_false] at hp
    rcases hp with rfl | rfl | rfl <;> simp)⟩
  clear F₁ N₁
  simp only [Row.cells, Row.dict, rowD, List.cons_append, List.nil_append] at N₂
  tb_start
  have hd0 : ∀ z ∈ q.cells w.params, ∀ p ∈ ((ix, W.listOf vs.toArray ic) :: [(be, instObj 196 bd), (bd, beD w.params t0)] : List (Addr × Obj)), @Ne Nat p.1 z.1 := fun z hz p hp => l2 z hz p hp
  refine wpAny_For ?_
  tb_start
  rename Fr _ _ _ _ => F₃
  rename News _ _ _ _ => N₃
  have Nq : News g L' _ (q.cells w.params ++ ((ix, W.listOf vs.toArray ic) :: [(be, instObj 196 bd), (bd, beD w.params t0)] : List (Addr × Obj))) := fun p hp => N₃ p (by
    rcases List.mem_append.mp hp with hp | hp
    · exact .tail _ (List.mem_append_left _ hp)
    · exact .tail _ (.tail _ (.tail _ (.tail _ hp))))
  clear N₃
  refine for_list (l := ix) (xs := vs) (c := ic) (PJ w.params (.node ts) ks ix (W.listOf vs.toArray ic) (.ref be) (.ref ix) (.bytes c.toArray tkc) [(be, instObj 196 bd), (bd, beD w.params t0)]) F₃ Nq ?_ ?_ ?_ rfl rfl rfl rfl ?_ ?_
  · refine ⟨.node ts, .ref q.x, q.cells w.params, rfl, hpl, ⟨q, rfl, rfl, (List.nodup_append.mp (show ([q.x, q.d, q.el] ++ [q.kw]).Nodup from k4)).1, k6, k7, k8, k9, k10⟩, (List.nodup_append.mp (show ([q.x, q.d, q.el] ++ [q.kw]).Nodup from k4)).1, ⟨none, fun y => ?_⟩, rfl, ?_⟩
    · dsimp only [pmap]
      by_cases hy : y = Str.ofString "i"
      · subst hy; rfl
      · rw [if_neg hy]
    · exact hd0
  · rintro i m news ⟨ti, v, nw, _, _, _, _, _, rfl, _⟩
    simp
  · passes_own
  · clear F₃ Nq
    intro i m news h tk₃ it ito v ⟨ti, cv, nw, q1, q2, q3, q4, ⟨iv, q5⟩, q6, q7⟩ hv F N hio dis
    have F₄ := Mine.Fr.congr F (m' := fun y => if y = Str.ofString "i" then some v else if y = Str.ofString "ll" then some cv else if y = Str.ofString "sedes" then some (.ref be) else if y = Str.ofString "index" then some (.ref ix) else if y = Str.ofString "rlp" then some (.bytes c.toArray tkc) else none) (fun y => by
      by_cases hy : y = Str.ofString "i"
      · rw [if_pos hy, if_pos hy]
      · rw [if_neg hy, if_neg hy, q5 y, pmap, if_neg hy])
    clear F
    have hi : i < ks.length := by
      rcases Nat.lt_or_ge i vs.length with z | z
      · omega
      · rw [List.getElem?_eq_none z] at hv; cases hv
    obtain ⟨ti', hti⟩ := hvs.2 i _ (List.getElem?_eq_getElem hi)
    rw [hti] at hv
    obtain rfl := (Option.some.inj hv).symm
    have hki : ks[i] < 65536 := hks _ (List.getElem_mem _)
    have htake : ks.take (i + 1) = ks.take i ++ [ks[i]] := by rw [List.take_add_one, List.getElem?_eq_getElem hi]; rfl
    subst q6
    cases ti with
    | num n => exact q2.elim
    | leaf b =>
      obtain ⟨⟨tb, rfl⟩, rfl⟩ := q3
      simp only [List.nil_append] at N
      tb_start
      rename RaisedSN _ _ _ _ _ _ _ => R₁
      rename Heap.UpToSlots _ _ => U₁
      refine err _ _ _ ?_ (Raised.ro (c := []) (ro := ((ix, W.listOf vs.toArray ic) :: [(be, instObj 196 bd), (bd, beD w.params t0)] : List (Addr × Obj))) (raised_of hg C B' KtsTurn.refl (Mine.RaisedSN.sub R₁ fun z hz => .tail _ (hz)) U₁) fun z hz => (C z hz).1)
      rw [← List.take_append_drop (i + 1) ks, Tr.at_append, htake, Tr.at_append, q1]
      rfl
    | node ts' =>
      obtain ⟨r, rfl, rfl, r1, r2, r3, r4, r5, r6⟩ := q3
      have N' := N
      simp only [Row.cells, Row.dict, rowD, List.cons_append, List.nil_append] at N'
      tb_start
      refine wk (d := 450) (u := 1800) (Nat.le_of_ble_eq_true rfl) (Nat.le_of_ble_eq_true rfl) ?_
      have hns : r.kids.length < 65536 := (r2.els).2
      have hnn : ∀ t ∈ r.kids, NoNum t := fun t ht => by
        rw [r3] at ht
        have := plains_iff.mp q2 t ht
        cases t with
        | num n => exact this.elim
        | leaf b => trivial
        | node b => trivial
      have hsub : ∀ p ∈ r.cells w.params ++ ([] : List (Addr × Obj)), p ∈ (it, ito) :: (r.cells w.params ++ ((ix, W.listOf vs.toArray ic) :: [(be, instObj 196 bd), (bd, beD w.params t0)] : List (Addr × Obj))) := fun p hp => .tail _ (List.mem_append_left _ (by rwa [List.append_nil] at hp))
      have hty : Typed w.params r [] := .inl ⟨r6, rfl, hnn⟩
      have hnd : ((r.cells w.params ++ ([] : List (Addr × Obj))).map (·.1)).Nodup := by rw [List.append_nil]; exact r1
      have nit : ∀ z ∈ r.cells w.params, @Ne Nat z.1 it := fun z hz => dis z (List.mem_append_left _ hz)
      have hit := (N (it, ito) (.head _)).1
      have hrest : ∀ p ∈ ((ix, W.listOf vs.toArray ic) :: [(be, instObj 196 bd), (bd, beD w.params t0)] : List (Addr × Obj)) ++ [(it, ito)], p ∈ (it, ito) :: (r.cells w.params ++ ((ix, W.listOf vs.toArray ic) :: [(be, instObj 196 bd), (bd, beD w.params t0)] : List (Addr × Obj))) ∧ p.1 ∉ (r.cells w.params).map (·.1) := by
        intro p hp
        rcases List.mem_append.mp hp with hp | hp
        · exact ⟨.tail _ (List.mem_append_right _ hp), fun z => by
            obtain ⟨y, hy, e⟩ := List.mem_map.mp z
            exact q7 y hy p hp e.symm⟩
        · obtain rfl := List.mem_singleton.mp hp
          exact ⟨.head _, fun z => by
            obtain ⟨y, hy, e⟩ := List.mem_map.mp z
            exact nit y hy e⟩
      by_cases hlt : ks[i] < r.kids.length
      · refine getitem_ok AM (pcall B' F₄ rfl rfl) (cells_call B' F₄ N hsub rfl rfl) hnd r2 hty hlt fun r' nws v h' tk' R1 K1 H1 e1 e2 e3 => ?_
        obtain ⟨_, _, ⟨vs', ee, kk⟩, fr, ndw⟩ := R1
        rw [r4, List.nil_append] at ee
        rw [ee] at e3
        obtain ⟨t, nw, g1, g2, g3⟩ := kk.get e3
        have g1' : ts'[ks[i]]? = some t := by
          rw [r4] at g1
          simp only [List.length_nil, List.drop_zero] at g1
          rw [← r3]
          rw [List.getElem?_take] at g1
          split at g1
          · exact g1
          · cases g1
        have frh : ∀ z ∈ nw, h.get? z.1 = none := fun z hz => fr z (g3.subset hz)
        obtain ⟨F5, N5⟩ := after_call (cells := r.cells w.params) (out := nw) (rest := ((ix, W.listOf vs.toArray ic) :: [(be, instObj 196 bd), (bd, beD w.params t0)] : List (Addr × Obj)) ++ [(it, ito)]) F₄ N (fun p hp => .tail _ (List.mem_append_left _ hp)) K1 (fun p hp => ⟨H1 p (List.mem_append_right _ (g3.subset hp)), .inr (frh p hp)⟩) hrest
        have keepd : ∀ p ∈ ((ix, W.listOf vs.toArray ic) :: [(be, instObj 196 bd), (bd, beD w.params t0)] : List (Addr × Obj)), ∀ z ∈ nw, @Ne Nat p.1 z.1 := fun p hp z hz e => by
          have h1 := (N p (.tail _ (List.mem_append_right _ hp))).1
          have h2 := frh z hz
          have e' : p.1 = z.1 := e
          rw [← e', h1] at h2; cases h2
        clear F₄ N N'
        tb_start
        rename Fr _ _ _ _ => F6
        rename News _ _ _ _ => N6
        refine ⟨_, nw ++ ((ix, W.listOf vs.toArray ic) :: [(be, instObj 196 bd), (bd, beD w.params t0)] : List (Addr × Obj)), _, _, ito, rfl, F6, ?_, hio, ?_, t, v, nw, ?_, ?_, g2, ?_, ⟨some (.int (ks[i] : Int) ti'), fun y => ?_⟩, rfl, fun z hz p hp => keepd p hp z hz⟩
        · intro p hp
          apply N6
          rcases List.mem_cons.mp hp with rfl | hp
          · exact List.mem_append_right _ (List.mem_append_right _ (.head _))
          · rcases List.mem_append.mp hp with hp | hp
            · exact List.mem_append_left _ hp
            · exact List.mem_append_right _ (List.mem_append_left _ hp)
        · intro p hp e
          rcases List.mem_append.mp hp with hp | hp
          · have := frh p hp
            have e' : p.1 = it := e
            rw [e', hit] at this; cases this
          · exact dis _ (List.mem_append_right _ hp) e
        · rw [htake, Tr.at_append, q1]
          show ((ts'[ks[i]]?).bind fun t => t.at []) = _
          rw [g1']; rfl
        · exact plains_iff.mp q2 t (List.mem_of_getElem? g1')
        · exact ndw.sublist (g3.map _)
        · dsimp only [pmap]
          by_cases h1 : y = Str.ofString "ll"
          · subst h1; rfl
          · rw [if_neg h1]
            by_cases h2 : y = Str.ofString "i"
            · rw [if_pos h2, if_pos h2]
            · rw [if_neg h2, if_neg h2, if_neg h1, if_neg h1]
      · refine getitem_out AM (pcall B' F₄ rfl rfl) (cells_call B' F₄ N hsub rfl rfl) hnd r2 hty (by omega) hki fun e r' nws h' tk' R1 Rz e1 => ?_
        obtain ⟨⟨s1, s2, s3, _⟩, _, _, fr, _⟩ := R1
        obtain ⟨G, FG, RS, U⟩ := to_SN (cl := []) (rest := ((ix, W.listOf vs.toArray ic) :: [(be, instObj 196 bd), (bd, beD w.params t0)] : List (Addr × Obj))) B' F₄ N Rz (fun b hb => by
          obtain ⟨z, hz, e⟩ := List.mem_map.mp (show b ∈ (r.cells w.params).map (·.1) from hb)
          exact List.mem_map.mpr ⟨z, .tail _ (List.mem_append_left _ hz), e⟩) (fun z hz => by
          rcases List.mem_append.mp hz with hz | hz
          · have : z.1 ∈ (r.cells w.params).map (·.1) := by
              have := List.mem_map_of_mem (f := (·.1)) hz
              rw [cells_map, s1, s2, s3] at this; exact this
            obtain ⟨y, hy, e⟩ := List.mem_map.mp this
            exact .inl (List.mem_map.mpr ⟨y, .tail _ (List.mem_append_left _ hy), e⟩)
          · exact .inr (fr z hz)) (fun z hz => hrest _ (List.mem_append_left _ hz))
        show wpAny _ _ (leaving _ _) _ _ _
        refine leave_onSN B' FG RS U fun h3 R3 _ U3 => ?_
        refine err _ _ _ ?_ (Raised.ro (c := []) (ro := ((ix, W.listOf vs.toArray ic) :: [(be, instObj 196 bd), (bd, beD w.params t0)] : List (Addr × Obj))) (raised_of hg C B' KtsTurn.refl (Mine.RaisedSN.sub R3 fun z hz => List.mem_append_right _ (hz)) U3) fun z hz => (C z hz).1)
        rw [← List.take_append_drop (i + 1) ks, Tr.at_append, htake, Tr.at_append, q1]
        show (((ts'[ks[i]]?).bind fun t => t.at []).bind _) = none
        rw [List.getElem?_eq_none (by rw [← r3]; omega)]; rfl
  · intro m news h tk₃ ⟨ti, cv, nw, q1, q2, q3, q4, ⟨iv, q5⟩, q6, q7⟩ F N
    have F₄ := Mine.Fr.congr F (m' := fun y => if y = Str.ofString "i" then iv else if y = Str.ofString "ll" then some cv else if y = Str.ofString "sedes" then some (.ref be) else if y = Str.ofString "index" then some (.ref ix) else if y = Str.ofString "rlp" then some (.bytes c.toArray tkc) else none) q5
    clear F
    subst q6
    rw [hvs.1, List.take_length] at q1
    obtain ⟨n, hn, rfl⟩ := hleaf _ q1
    obtain ⟨⟨tb, rfl⟩, rfl⟩ := q3
    simp only [List.nil_append] at N
    clear F₃ Nq
    tb_start
    refine wk (d := 600) (u := 2500) (Nat.le_of_ble_eq_true rfl) (Nat.le_of_ble_eq_true rfl) ?_
    refine wpAny_call (des_code (Q := Q) (E := E) AM (pcall B' F₄ rfl rfl) (cells_call B' F₄ N (fun p hp => .tail _ hp) rfl rfl) hn fun t5 h5 tk5 k5 => ?_)
    obtain ⟨F₅, N₅⟩ := pback F₄ N k5
    exact ret n _ _ _ q1 (kp_ro (cells := []) (ro := ((ix, W.listOf vs.toArray ic) :: [(be, instObj 196 bd), (bd, beD w.params t0)] : List (Addr × Obj))) hg F₅ (fun z hz => (C z hz).1) fun z hz => (N₅ z (hz)).1)
theorem peek_intSed {w : World} {mean : ExcName → Option Value} {mg mb : Str → Option Value} {base : Heap} {l : List Env} {s : Shared} {Q E : Value → Shared → Prop} {ts : List Tr} {c : List UInt8} {tkc : Tok} {be bd : Addr} {t0 : Tok} {k : Nat} {tki : Tok} {ks : List Nat}
  (AM : Amb w mean mg mb base) (B : Below (topA 400 1600 l) base l s.heap) (C : Cells s.heap base l [(be, instObj 196 bd), (bd, beD w.params t0)]) (hk0 : ks = [k]) (hks : ∀ k ∈ ks, k < 65536)
  (hc : c = (Tr.node ts).enc) (hsz : c.length < 65536) (hpl : (Tr.node ts).plain) (hleaf : ∀ t', (Tr.node ts).at ks = some t' → ∃ n, n < 65536 ∧ t' = .leaf (digs n))
  (ret : ∀ n t h' tk', (Tr.node ts).at ks = some (.leaf (digs n)) → Kp [] s.heap h' → Q (.int (n : Int) t) {s with heap := h', toks := tk'})
  (err : ∀ e h' tk', (Tr.node ts).at ks = none → Raised [] [] base l e (.type "IndexError") s.heap h' → E (.ref e) {s with heap := h', toks := tk'}) :
  wpAny (model PRG w) (topA 400 1600 l) (call (.ref 164) [.bytes c.toArray tkc, .int (k : Int) tki, .ref be]) Q E s := by
  k_dflt (refine' enterE (rb := [(Str.ofString "sedes", .ref be), (Str.ofString "index", .int (k : Int) tki), (Str.ofString "rlp", .bytes c.toArray tkc)]) AM B C ?k6 ?k7 ?k8 ?k9 ?kL ?cr ?c2 ?c3 ?c4 ?c5 ?_; (case k6 => k_is); (case k7 => k_is); (case k8 => first | exact Nat.lt_of_sub_eq_succ rfl | exact hdep); (case k9 => first | exact BindsTo.of_eq rfl | exact kp_binds (AM.X.keeps B.stays) (fun _ => rfl)); (case kL => exact locs rfl); (case cr => exact rfl); (case c2 => exact rfl); (case c3 => exact rfl); (case c4 => exact rfl); (case c5 => decide); k_whole)
  intro g L' h' hg F N B' X' T' lt
  dsimp only [bmap] at F ⊢
  try k_fold
  tb_start
  refine wk (d := 450) (u := 1800) (Nat.le_of_ble_eq_true rfl) (Nat.le_of_ble_eq_true rfl) ?_
  rename Fr _ _ _ _ => F₁
  rename News _ _ _ _ => N₁
  refine decL_none AM (pcall B' F₁ rfl rfl) hc hsz fun q h2 tk2 k1 k2 k3 k4 k5 k6 k7 k8 k9 k10 => ?_
  obtain ⟨F₂, N₂, l2⟩ := pbackN (out := q.cells w.params) F₁ N₁ k1 fun p hp => ⟨k2 p (List.mem_append_left _ hp), k3 _ (by
    simp only [Row.cells, List.mem_cons, List.not_mem_nil, or_false] at hp
    rcases hp with rfl | rfl | rfl <;> simp)⟩
  clear F₁ N₁
  simp only [Row.cells, Row.dict, rowD, List.cons_append, List.nil_append] at N₂
  tb_start
  rename News _ _ _ _ => Nz
  obtain ⟨dl, hdl⟩ := head_of Nz
  subst hdl
  obtain ⟨vs, hv0⟩ : ∃ vs, vs = [Value.int (k : Int) tki] := ⟨_, rfl⟩
  have hvs : vs.length = ks.length ∧ ∀ (i k : Nat), ks[i]? = some k → ∃ t, vs[i]? = some (Value.int (k : Int) t) := by
    subst hv0 hk0
    refine ⟨rfl, fun i k' h => ?_⟩
    cases i with
    | zero => obtain rfl : k = k' := by simpa using h
              exact ⟨tki, rfl⟩
    | succ i => simp at h
  have hd0 : ∀ z ∈ q.cells w.params, ∀ p ∈ ((dl, W.listOf vs.toArray 0) :: [(be, instObj 196 bd), (bd, beD w.params t0)] : List (Addr × Obj)), @Ne Nat p.1 z.1 := fun z hz p hp => by
    rcases List.mem_cons.mp hp with rfl | hp
    · simp only [Row.cells, List.mem_cons, List.not_mem_nil, or_false] at hz
      rcases hz with rfl | rfl | rfl <;> (refine neN ?_; omega)
    · exact l2 z hz p hp
  refine wpAny_For ?_
  tb_start
  rename Fr _ _ _ _ => F₃
  rename News _ _ _ _ => N₃
  have Nq : News g L' _ (q.cells w.params ++ ((dl, W.listOf vs.toArray 0) :: [(be, instObj 196 bd), (bd, beD w.params t0)] : List (Addr × Obj))) := fun p hp => N₃ p (by
    rcases List.mem_append.mp hp with hp | hp
    · exact .tail _ (.tail _ (List.mem_append_left _ hp))
    · rcases List.mem_cons.mp hp with rfl | hp
      · subst hv0; exact .head _
      · exact .tail _ (.tail _ (.tail _ (.tail _ (.tail _ hp)))))
  clear N₃
  refine for_list (l := dl) (xs := vs) (c := 0) (PJ w.params (.node ts) ks dl (W.listOf vs.toArray 0) (.ref be) (.ref dl) (.bytes c.toArray tkc) [(be, instObj 196 bd), (bd, beD w.params t0)]) F₃ Nq ?_ ?_ ?_ rfl rfl rfl rfl ?_ ?_
  · refine ⟨.node ts, .ref q.x, q.cells w.params, rfl, hpl, ⟨q, rfl, rfl, (List.nodup_append.mp (show ([q.x, q.d, q.el] ++ [q.kw]).Nodup from k4)).1, k6, k7, k8, k9, k10⟩, (List.nodup_append.mp (show ([q.x, q.d, q.el] ++ [q.kw]).Nodup from k4)).1, ⟨none, fun y => ?_⟩, rfl, ?_⟩
    · dsimp only [pmap]
      by_cases hy : y = Str.ofString "i"
      · subst hy; rfl
      · rw [if_neg hy]
        by_cases h1 : y = Str.ofString "ll"
        · subst h1; rfl
        · by_cases h2 : y = Str.ofString "sedes"
          · subst h2; rfl
          · by_cases h3 : y = Str.ofString "index"
            · subst h3; rfl
            · simp only [if_neg h1, if_neg h2, if_neg h3]
    · exact hd0
  · rintro i m news ⟨ti, v, nw, _, _, _, _, _, rfl, _⟩
    simp
  · passes_own
  · clear F₃ Nq
    intro i m news h tk₃ it ito v ⟨ti, cv, nw, q1, q2, q3, q4, ⟨iv, q5⟩, q6, q7⟩ hv F N hio dis
    have F₄ := Mine.Fr.congr F (m' := fun y => if y = Str.ofString "i" then some v else if y = Str.ofString "ll" then some cv else if y = Str.ofString "sedes" then some (.ref be) else if y = Str.ofString "index" then some (.ref dl) else if y = Str.ofString "rlp" then some (.bytes c.toArray tkc) else none) (fun y => by
      by_cases hy : y = Str.ofString "i"
      · rw [if_pos hy, if_pos hy]
      · rw [if_neg hy, if_neg hy, q5 y, pmap, if_neg hy])
    clear F
    have hi : i < ks.length := by
      rcases Nat.lt_or_ge i vs.length with z | z
      · omega
      · rw [List.getElem?_eq_none z] at hv; cases hv
    obtain ⟨ti', hti⟩ := hvs.2 i _ (List.getElem?_eq_getElem hi)
    rw [hti] at hv
    obtain rfl := (Option.some.inj hv).symm
    have hki : ks[i] < 65536 := hks _ (List.getElem_mem _)
    have htake : ks.take (i + 1) = ks.take i ++ [ks[i]] := by rw [List.take_add_one, List.getElem?_eq_getElem hi]; rfl
    subst q6
    cases ti with
    | num n => exact q2.elim
    | leaf b =>
      obtain ⟨⟨tb, rfl⟩, rfl⟩ := q3
      simp only [List.nil_append] at N
      tb_start
      rename RaisedSN _ _ _ _ _ _ _ => R₁
      rename Heap.UpToSlots _ _ => U₁
      refine err _ _ _ ?_ (Raised.ro (c := []) (ro := [(be, instObj 196 bd), (bd, beD w.params t0)]) (raised_of hg C B' KtsTurn.refl (Mine.RaisedSN.sub R₁ fun z hz => .tail _ (.tail _ hz)) U₁) fun z hz => (C z hz).1)
      rw [← List.take_append_drop (i + 1) ks, Tr.at_append, htake, Tr.at_append, q1]
      rfl
    | node ts' =>
      obtain ⟨r, rfl, rfl, r1, r2, r3, r4, r5, r6⟩ := q3
      have N' := N
      simp only [Row.cells, Row.dict, rowD, List.cons_append, List.nil_append] at N'
      tb_start
      refine wk (d := 450) (u := 1800) (Nat.le_of_ble_eq_true rfl) (Nat.le_of_ble_eq_true rfl) ?_
      have hns : r.kids.length < 65536 := (r2.els).2
      have hnn : ∀ t ∈ r.kids, NoNum t := fun t ht => by
        rw [r3] at ht
        have := plains_iff.mp q2 t ht
        cases t with
        | num n => exact this.elim
        | leaf b => trivial
        | node b => trivial
      have hsub : ∀ p ∈ r.cells w.params ++ ([] : List (Addr × Obj)), p ∈ (it, ito) :: (r.cells w.params ++ ((dl, W.listOf vs.toArray 0) :: [(be, instObj 196 bd), (bd, beD w.params t0)] : List (Addr × Obj))) := fun p hp => .tail _ (List.mem_append_left _ (by rwa [List.append_nil] at hp))
      have hty : Typed w.params r [] := .inl ⟨r6, rfl, hnn⟩
      have hnd : ((r.cells w.params ++ ([] : List (Addr × Obj))).map (·.1)).Nodup := by rw [List.append_nil]; exact r1
      have nit : ∀ z ∈ r.cells w.params, @Ne Nat z.1 it := fun z hz => dis z (List.mem_append_left _ hz)
      have hit := (N (it, ito) (.head _)).1
      have hrest : ∀ p ∈ ((dl, W.listOf vs.toArray 0) :: [(be, instObj 196 bd), (bd, beD w.params t0)] : List (Addr × Obj)) ++ [(it, ito)], p ∈ (it, ito) :: (r.cells w.params ++ ((dl, W.listOf vs.toArray 0) :: [(be, instObj 196 bd), (bd, beD w.params t0)] : List (Addr × Obj))) ∧ p.1 ∉ (r.cells w.params).map (·.1) := by
        intro p hp
        rcases List.mem_append.mp hp with hp | hp
        · exact ⟨.tail _ (List.mem_append_right _ hp), fun z => by
            obtain ⟨y, hy, e⟩ := List.mem_map.mp z
            exact q7 y hy p hp e.symm⟩
        · obtain rfl := List.mem_singleton.mp hp
          exact ⟨.head _, fun z => by
            obtain ⟨y, hy, e⟩ := List.mem_map.mp z
            exact nit y hy e⟩
      by_cases hlt : ks[i] < r.kids.length
      · refine getitem_ok AM (pcall B' F₄ rfl rfl) (cells_call B' F₄ N hsub rfl rfl) hnd r2 hty hlt fun r' nws v h' tk' R1 K1 H1 e1 e2 e3 => ?_
        obtain ⟨_, _, ⟨vs', ee, kk⟩, fr, ndw⟩ := R1
        rw [r4, List.nil_append] at ee
        rw [ee] at e3
        obtain ⟨t, nw, g1, g2, g3⟩ := kk.get e3
        have g1' : ts'[ks[i]]? = some t := by
          rw [r4] at g1
          simp only [List.length_nil, List.drop_zero] at g1
          rw [← r3]
          rw [List.getElem?_take] at g1
          split at g1
          · exact g1
          · cases g1
        have frh : ∀ z ∈ nw, h.get? z.1 = none := fun z hz => fr z (g3.subset hz)
        obtain ⟨F5, N5⟩ := after_call (cells := r.cells w.params) (out := nw) (rest := ((dl, W.listOf vs.toArray 0) :: [(be, instObj 196 bd), (bd, beD w.params t0)] : List (Addr × Obj)) ++ [(it, ito)]) F₄ N (fun p hp => .tail _ (List.mem_append_left _ hp)) K1 (fun p hp => ⟨H1 p (List.mem_append_right _ (g3.subset hp)), .inr (frh p hp)⟩) hrest
        have keepd : ∀ p ∈ ((dl, W.listOf vs.toArray 0) :: [(be, instObj 196 bd), (bd, beD w.params t0)] : List (Addr × Obj)), ∀ z ∈ nw, @Ne Nat p.1 z.1 := fun p hp z hz e => by
          have h1 := (N p (.tail _ (List.mem_append_right _ hp))).1
          have h2 := frh z hz
          have e' : p.1 = z.1 := e
          rw [← e', h1] at h2; cases h2
        clear F₄ N N'
        tb_start
        rename Fr _ _ _ _ => F6
        rename News _ _ _ _ => N6
        refine ⟨_, nw ++ ((dl, W.listOf vs.toArray 0) :: [(be, instObj 196 bd), (bd, beD w.params t0)] : List (Addr × Obj)), _, _, ito, rfl, F6, ?_, hio, ?_, t, v, nw, ?_, ?_, g2, ?_, ⟨some (.int (ks[i] : Int) ti'), fun y => ?_⟩, rfl, fun z hz p hp => keepd p hp z hz⟩
        · intro p hp
          apply N6
          rcases List.mem_cons.mp hp with rfl | hp
          · exact List.mem_append_right _ (List.mem_append_right _ (.head _))
          · rcases List.mem_append.mp hp with hp | hp
            · exact List.mem_append_left _ hp
            · exact List.mem_append_right _ (List.mem_append_left _ hp)
        · intro p hp e
          rcases List.mem_append.mp hp with hp | hp
          · have := frh p hp
            have e' : p.1 = it := e
            rw [e', hit] at this; cases this
          · exact dis _ (List.mem_append_right _ hp) e
        · rw [htake, Tr.at_append, q1]
          show ((ts'[ks[i]]?).bind fun t => t.at []) = _
          rw [g1']; rfl
        · exact plains_iff.mp q2 t (List.mem_of_getElem? g1')
        · exact ndw.sublist (g3.map _)
        · dsimp only [pmap]
          by_cases h1 : y = Str.ofString "ll"
          · subst h1; rfl
          · rw [if_neg h1]
            by_cases h2 : y = Str.ofString "i"
            · rw [if_pos h2, if_pos h2]
            · rw [if_neg h2, if_neg h2, if_neg h1, if_neg h1]
      · refine getitem_out AM (pcall B' F₄ rfl rfl) (cells_call B' F₄ N hsub rfl rfl) hnd r2 hty (by omega) hki fun e r' nws h' tk' R1 Rz e1 => ?_
        obtain ⟨⟨s1, s2, s3, _⟩, _, _, fr, _⟩ := R1
        obtain ⟨G, FG, RS, U⟩ := to_SN (cl := []) (rest := ((dl, W.listOf vs.toArray 0) :: [(be, instObj 196 bd), (bd, beD w.params t0)] : List (Addr × Obj))) B' F₄ N Rz (fun b hb => by
          obtain ⟨z, hz, e⟩ := List.mem_map.mp (show b ∈ (r.cells w.params).map (·.1) from hb)
          exact List.mem_map.mpr ⟨z, .tail _ (List.mem_append_left _ hz), e⟩) (fun z hz => by
          rcases List.mem_append.mp hz with hz | hz
          · have : z.1 ∈ (r.cells w.params).map (·.1) := by
              have := List.mem_map_of_mem (f := (·.1)) hz
              rw [cells_map, s1, s2, s3] at this; exact this
            obtain ⟨y, hy, e⟩ := List.mem_map.mp this
            exact .inl (List.mem_map.mpr ⟨y, .tail _ (List.mem_append_left _ hy), e⟩)
          · exact .inr (fr z hz)) (fun z hz => hrest _ (List.mem_append_left _ hz))
        show wpAny _ _ (leaving _ _) _ _ _
        refine leave_onSN B' FG RS U fun h3 R3 _ U3 => ?_
        refine err _ _ _ ?_ (Raised.ro (c := []) (ro := [(be, instObj 196 bd), (bd, beD w.params t0)]) (raised_of hg C B' KtsTurn.refl (Mine.RaisedSN.sub R3 fun z hz => List.mem_append_right _ (.tail _ hz)) U3) fun z hz => (C z hz).1)
        rw [← List.take_append_drop (i + 1) ks, Tr.at_append, htake, Tr.at_append, q1]
        show (((ts'[ks[i]]?).bind fun t => t.at []).bind _) = none
        rw [List.getElem?_eq_none (by rw [← r3]; omega)]; rfl
  · intro m news h tk₃ ⟨ti, cv, nw, q1, q2, q3, q4, ⟨iv, q5⟩, q6, q7⟩ F N
    have F₄ := Mine.Fr.congr F (m' := fun y => if y = Str.ofString "i" then iv else if y = Str.ofString "ll" then some cv else if y = Str.ofString "sedes" then some (.ref be) else if y = Str.ofString "index" then some (.ref dl) else if y = Str.ofString "rlp" then some (.bytes c.toArray tkc) else none) q5
    clear F
    subst q6
    rw [hvs.1, List.take_length] at q1
    obtain ⟨n, hn, rfl⟩ := hleaf _ q1
    obtain ⟨⟨tb, rfl⟩, rfl⟩ := q3
    simp only [List.nil_append] at N
    clear F₃ Nq
    tb_start
    refine wk (d := 600) (u := 2500) (Nat.le_of_ble_eq_true rfl) (Nat.le_of_ble_eq_true rfl) ?_
    refine wpAny_call (des_code (Q := Q) (E := E) AM (pcall B' F₄ rfl rfl) (cells_call B' F₄ N (fun p hp => .tail _ hp) rfl rfl) hn fun t5 h5 tk5 k5 => ?_)
    obtain ⟨F₅, N₅⟩ := pback F₄ N k5
    exact ret n _ _ _ q1 (kp_ro (cells := []) (ro := [(be, instObj 196 bd), (bd, beD w.params t0)]) hg F₅ (fun z hz => (C z hz).1) fun z hz => (N₅ z (.tail _ hz)).1)
end Mine
end

section
theorem Mine.quietCode : True := by
  w_top off
  trivial
open PySem PySem.W PySem.Spec PySem.Calls PyProof.Rows
set_option Elab.async false
set_option maxRecDepth 100000
set_option maxHeartbeats 8000000
namespace Mine
/-- a tree as its list objects hold it -/
inductive Rep (ro : List (Addr × Obj)) : Tr → Value → Prop
  | leaf {b : List UInt8} {t : Tok} : Rep ro (.leaf b) (.bytes b.toArray t)
  | node {ts : List Tr} {a : Addr} {vs : List Value} {c : Nat} : (a, W.listOf vs.toArray c) ∈ ro → vs.length = ts.length → (∀ (i : Nat) t v, ts[i]? = some t → vs[i]? = some v → Rep ro t v) → Rep ro (.node ts) (.ref a)
mutual
def Tr.ht : Tr → Nat
  | .node ts => hts ts + 1
  | _ => 0
def hts : List Tr → Nat
  | [] => 0
  | t :: r => max t.ht (hts r)
end
theorem ht_mem {t : Tr} : ∀ {ts : List Tr}, t ∈ ts → t.ht ≤ hts ts
  | a :: r, h => by
    rw [hts]
    rcases List.mem_cons.mp h with rfl | h
    · exact Nat.le_max_left _ _
    · exact Nat.le_trans (ht_mem h) (Nat.le_max_right _ _)
theorem single_no {b : List UInt8} (h : b.length ≠ 1 ∨ ∃ y : Nat, (((b.getD (0 : Int).toNat 0).toNat : Nat) : Int) = (y : Int) ∧ ¬ ((y : Int) < 128)) : single b = false := by
  match b, h with
  | [], _ => rfl
  | [x], h =>
    rcases h with h | ⟨y, h1, h2⟩
    · exact absurd rfl h
    · have hx' : ((x.toNat : Nat) : Int) = (y : Int) := h1
      unfold single
      simp only [decide_eq_false_iff_not]
      omega
  | _ :: _ :: _, _ => rfl
theorem hdr_small {base n : Nat} (h : n < 56) (k : Int) (hk : k = (base : Int) + n) : hdr base n = [k.toNat.toUInt8] := by
  unfold hdr
  rw [if_pos h]
  have : k.toNat = base + n := by omega
  rw [this]
theorem hdr_big {base n : Nat} (h : ¬ n < 56) (k : Int) (hk : k = (base : Int) + 55 + (digs n).length) : hdr base n = [k.toNat.toUInt8] ++ digs n := by
  unfold hdr
  rw [if_neg h]
  have : k.toNat = base + 55 + (digs n).length := by omega
  rw [this]; rfl
theorem cells_c {A : Around} {base g h : Heap} {l : List Env} {L : Addr} {m : Str → Option Value} {news cells : List (Addr × Obj)} {env : Env} (B : Below A base l g) (F : Fr g L h m) (N : News g L h news) (sub : ∀ p ∈ cells, p ∈ news)
    (hf : env.frame = some L) (hk : env.scope.kind = .function) : Cells h base (env :: l) cells := (amb_call B F N sub hf hk).2
theorem wkd {d : Nat} (h : d ≤ 650) : d + 1 ≤ 700 := by omega
theorem wku0 {d : Nat} (h : d ≤ 2900) : d + 3 ≤ 3000 := by omega
theorem wku1 {d : Nat} (h : d ≤ 2900) : d + 4 ≤ 3000 := by omega
theorem wku2 {d : Nat} (h : d ≤ 2900) : d + 5 ≤ 3000 := by omega
theorem filled15 (w : World) (h : Heap) (X : (Mine.hd.heap_39 w.params).In h) : Challenge.rw_sx0040_01 = Challenge.rw_sx0040_01 := by
  revert X; k_fill; intro _; rfl
local macro_rules | `(tactic| tb_start) => `(tactic| repeat' ((fail_if_success (with_reducible show wpAny _ _ (call (Value.ref 226) _) _ _ _)); (fail_if_success (with_reducible show wpAny _ _ (exec (Stmt.While _ _ _ _) _) _ _ _)); (fail_if_success (with_reducible show wpAny _ _ (exec (Stmt.For _ _ _ _ _) _) _ _ _)); (fail_if_success (with_reducible show wpAny _ _ (pyIter _) _ _ _)); first | (k_unfold; (try dsimp only)) | (k_end; wrow_close) | walk1 | (dsimp only; walk1) | (leave1; walk_say "STEP leave1"; try dsimp only) | fail "no step"))
local macro_rules | `(tactic| walk_at "idle line") => `(tactic| skip)
local macro_rules | `(tactic| walk_at "idle line") => `(tactic| skip)
local macro_rules | `(tactic| walk_at "idle line") => `(tactic| skip)
local macro_rules | `(tactic| walk_at "idle line") => `(tactic| skip)
local macro_rules | `(tactic| walk_at "idle line") => `(tactic| skip)
local macro_rules | `(tactic| walk_at "idle line") => `(tactic| skip)
local macro_rules | `(tactic| walk_at "idle line") => `(tactic| skip)
local macro_rules | `(tactic| walk_at "idle line") => `(tactic| skip)
local macro_rules | `(tactic| walk_at "idle line") => `(tactic| skip)
local macro_rules | `(tactic| walk_at "idle line") => `(tactic| skip)
local macro_rules | `(tactic| walk_at "idle line") => `(tactic| skip)
local macro_rules | `(tactic| walk_at "binaryOp Add bytes bytes") => `(tactic| (k_here; (with_reducible show wpAny _ _ (binaryOp Operator.Add (Value.bytes (List.toArray _) _) (Value.bytes (List.toArray _) _)) _ _ _); (refine bytes_add_K (by simp only [List.size_toArray, List.length_append, List.length_cons, List.length_nil]; omega) rfl ?_); intro _ _))
local macro_rules | `(tactic| walk_at "subscriptTail") => `(tactic| (k_here; (with_reducible show wpAny _ _ (subscriptTail _ _ (Value.bytes (List.toArray _) _) (Value.int _ _)) _ _ _); k_dflt (refine' bytes_item_K ?f ?a ?b ?e ?_; (case f => omega); (case a => omega); (case b => omega); (case e => assumption); k_whole)))
local macro_rules | `(tactic| walk_at "subscriptTail") => `(tactic| (k_here; (with_reducible show wpAny _ _ (subscriptTail _ (Expr.Slice _ _ none _) (Value.bytes (List.toArray _) _) (Value.ref _)) _ _ _); (with_reducible rename Fr _ _ _ _ => F'); (with_reducible rename News _ _ _ _ => N'); (refine cut_bytes (s := ⟨_, _, _, _, _⟩) F' N' (by omega) (by omega) (by omega) (by first | assumption | exact rfl) ?_); intro _ _ _ _ _))
local macro_rules | `(tactic| walk_at "call ref") => `(tactic| (k_here; (with_reducible show wpAny _ _ (call (Value.ref 219) _) _ _ _); (with_reducible rename Below _ _ _ _ => B'); (with_reducible rename Fr _ _ _ _ => F'); (with_reducible rename News _ _ _ _ => N'); k_dflt ((refine wk (d := 700) (u := 3000) (by first | exact Nat.le_of_ble_eq_true rfl | exact wkd (by assumption)) (by first | exact Nat.le_of_ble_eq_true rfl | exact wku0 (by assumption) | exact wku1 (by assumption) | exact wku2 (by assumption)) ?_); (refine digits_spec (by assumption) (pcall B' F' rfl rfl) (by omega) ?_); intro t' h' tk' kp'; (have fn' := pback F' N' kp'); clear kp' F' N'; obtain ⟨F', N'⟩ := fn')))
local macro_rules | `(tactic| walk_at "subscriptTail") => `(tactic| (k_here; (with_reducible show wpAny _ _ (subscriptTail _ _ (Value.bytes (List.toArray _) _) (Value.int _ _)) _ _ _); k_dflt (refine' bytes_item_K ?f ?a ?b ?e ?_; (case f => omega); (case a => omega); (case b => omega); (case e => assumption); k_whole)))
theorem code_leaf {w : World} {mean : ExcName → Option Value} {mg mb : Str → Option Value} {base : Heap} {l : List Env} {s : Shared} {Q E : Value → Shared → Prop} {d u : Nat} {b : List UInt8} {tkb : Tok} {ro : List (Addr × Obj)} (hd1 : d ≤ 650) (hu1 : u ≤ 2900) (hdep : d < recursionLimit)
  (AM : Amb w mean mg mb base) (B : Below (topA d u l) base l s.heap) (C : Cells s.heap base l ro) (hsz : b.length < 65536)
  (ret : ∀ t h' tk', Kp [] s.heap h' → Q (.bytes (encB b).toArray t) {s with heap := h', toks := tk'}) :
  wpAny (model PRG w) (topA d u l) (call (.ref 226) [.bytes b.toArray tkb]) Q E s := by
  have hbs : b.toArray.size = b.length := List.size_toArray
  have hbs' : (b.toArray.size : Int) = (b.length : Int) := by rw [hbs]
  obtain ⟨y, hx⟩ : ∃ y : Nat, (((b.getD (0 : Int).toNat 0).toNat : Nat) : Int) = (y : Int) := ⟨_, rfl⟩
  have hd0 : (digs b.toArray.size).length ≤ 2 := digs_len (by omega)
  have hd1' : (digs b.length).length ≤ 2 := digs_len (by omega)
  have hd2 : ((digs b.toArray.size).toArray.size : Int) = ((digs b.toArray.size).length : Int) := by rw [List.size_toArray]
  k_dflt (refine' enterF (rb := [(Str.ofString "tree", .bytes b.toArray tkb)]) AM B C ?k6 ?k7 ?k8 ?k9 ?kL ?cr ?c2 ?c3 ?c4 ?c5 ?_; (case k6 => k_is); (case k7 => k_is); (case k8 => first | exact Nat.lt_of_sub_eq_succ rfl | exact hdep); (case k9 => first | exact BindsTo.of_eq rfl | exact kp_binds (AM.X.keeps B.stays) (fun _ => rfl)); (case kL => exact locs rfl); (case cr => exact rfl); (case c2 => exact rfl); (case c3 => exact rfl); (case c4 => exact rfl); (case c5 => decide); k_whole)
  intro g L' h' hg F N B' X' T' lt
  dsimp only [bmap] at F ⊢
  try k_fold
  tb_start
  all_goals (try (exfalso; omega))
  all_goals (rename Fr _ _ _ _ => F₁)
  all_goals (rename News _ _ _ _ => N₁)
  all_goals have kp : Kp [] s.heap _ := kp_ro (cells := []) (ro := ro) hg F₁ (fun z hz => (C z hz).1) fun z hz => (N₁ z (by first | exact hz | exact .tail _ (.tail _ hz) | exact .tail _ hz)).1
  · have he : encB b = b := by
      unfold encB
      have : single b = true := by
        obtain ⟨x, rfl⟩ := List.length_eq_one_iff.mp (show b.length = 1 by omega)
        have hx' : ((x.toNat : Nat) : Int) = (y : Int) := hx
        unfold single
        simp only [decide_eq_true_eq]
        omega
      rw [this, if_pos rfl]
    have z := fun k => ret tkb _ k kp
    rw [he] at z
    exact z _
  · have e : encB b = [(128 + (b.toArray.size : Int)).toNat.toUInt8] ++ b := by
      unfold encB
      rw [single_no (.inr ⟨y, hx, by assumption⟩), if_neg Bool.false_ne_true, hdr_small (by omega) (128 + (b.toArray.size : Int)) (by omega)]
    have z := fun t k => ret t _ k kp
    rw [e] at z
    exact z _ _
  · have e : encB b = [(128 + (b.toArray.size : Int)).toNat.toUInt8] ++ b := by
      unfold encB
      rw [single_no (.inl (by omega)), if_neg Bool.false_ne_true, hdr_small (by omega) (128 + (b.toArray.size : Int)) (by omega)]
    have z := fun t k => ret t _ k kp
    rw [e] at z
    exact z _ _
  · have e : encB b = ([(128 + 55 + ((digs b.toArray.size).toArray.size : Int)).toNat.toUInt8] ++ digs b.toArray.size) ++ b := by
      unfold encB
      rw [single_no (.inl (by omega)), if_neg Bool.false_ne_true, hdr_big (by omega) (128 + 55 + ((digs b.length).length : Int)) (by omega), List.size_toArray, List.size_toArray]
    have z := fun t k => ret t _ k kp
    rw [e] at z
    exact z _ _
local macro_rules | `(tactic| tb_start) => `(tactic| repeat' ((fail_if_success (with_reducible show wpAny _ _ (call (Value.ref 226) _) _ _ _)); (fail_if_success (with_reducible show wpAny _ _ (exec (Stmt.While _ _ _ _) _) _ _ _)); (fail_if_success (with_reducible show wpAny _ _ (exec (Stmt.For _ _ _ _ _) _) _ _ _)); (fail_if_success (with_reducible show wpAny _ _ (pyIter _) _ _ _)); first | (k_unfold; (try dsimp only)) | (k_end; wrow_close) | walk1 | (dsimp only; walk1) | (leave1; walk_say "STEP leave1"; try dsimp only) | fail "no step"))
theorem code_spec : ∀ (n : Nat) {t : Tr} {w : World} {mean : ExcName → Option Value} {mg mb : Str → Option Value} {base : Heap} {l : List Env} {s : Shared} {Q E : Value → Shared → Prop} {d u : Nat} {v : Value} {ro : List (Addr × Obj)}, t.ht ≤ n → d + n ≤ 650 → u + 6 * n ≤ 2900 →
  Amb w mean mg mb base → Below (topA d u l) base l s.heap → Cells s.heap base l ro → Rep ro t v → t.enc.length < 65536 →
  (∀ t1 h' tk', Kp [] s.heap h' → Q (.bytes t.enc.toArray t1) {s with heap := h', toks := tk'}) →
  wpAny (model PRG w) (topA d u l) (call (.ref 226) [v]) Q E s := by
  intro n
  induction n with
  | zero =>
    intro t w mean mg mb base l s Q E d u v ro hn hd hu AM B C R hsz ret
    cases R with
    | @leaf b tk => exact code_leaf (by omega) (by omega) (by show d < 1000; omega) AM B C (by
        have : b.length ≤ (encB b).length := by
          unfold encB; split
          · exact Nat.le_refl _
          · rw [List.length_append]; omega
        exact Nat.lt_of_le_of_lt this hsz) ret
    | node => rw [Tr.ht] at hn; omega
  | succ n ih =>
    intro t w mean mg mb base l s Q E d u v ro hn hd hu AM B C R hsz ret
    cases R with
    | @leaf b tk => exact code_leaf (by omega) (by omega) (by show d < 1000; omega) AM B C (by
        have : b.length ≤ (encB b).length := by
          unfold encB; split
          · exact Nat.le_refl _
          · rw [List.length_append]; omega
        exact Nat.lt_of_le_of_lt this hsz) ret
    | @node ts a vs c hm hlen hR =>
      have hdep : d < recursionLimit := by show d < 1000; omega
      have hd1 : d ≤ 650 := by omega
      have hu1 : u ≤ 2900 := by omega
      have N0 := hm
      k_dflt (refine' enterF (rb := [(Str.ofString "tree", .ref a)]) AM B C ?k6 ?k7 ?k8 ?k9 ?kL ?cr ?c2 ?c3 ?c4 ?c5 ?_; (case k6 => k_is); (case k7 => k_is); (case k8 => first | exact Nat.lt_of_sub_eq_succ rfl | exact hdep); (case k9 => first | exact BindsTo.of_eq rfl | exact kp_binds (AM.X.keeps B.stays) (fun _ => rfl)); (case kL => exact locs rfl); (case cr => exact rfl); (case c2 => exact rfl); (case c3 => exact rfl); (case c4 => exact rfl); (case c5 => decide); k_whole)
      intro g L' h' hg F N B' X' T' lt
      dsimp only [bmap] at F ⊢
      try k_fold
      have hma := hm
      tb_start
      rename Fr _ _ _ _ => F₁
      rename News _ _ _ _ => N₁
      have henc : (Tr.node ts).enc = hdr 192 (encs ts).length ++ encs ts := rfl
      have hes : (encs ts).length < 65536 := by rw [henc, List.length_append] at hsz; omega
      have hcut : ∀ i t, ts[i]? = some t → (encs (ts.take i)).length + t.enc.length ≤ (encs ts).length ∧ encs (ts.take (i + 1)) = encs (ts.take i) ++ t.enc := fun i t h => by
        have e : encs (ts.take (i + 1)) = encs (ts.take i) ++ t.enc := by
          rw [List.take_add_one, h]
          show encs (ts.take i ++ [t]) = _
          rw [encs_append, encs_cons, encs_nil, List.append_nil]
        have e2 : (encs (ts.take (i + 1) ++ ts.drop (i + 1))).length = (encs ts).length := by rw [List.take_append_drop]
        rw [encs_append, List.length_append, e, List.length_append] at e2
        exact ⟨by omega, e⟩
      refine wpAny_For ?_
      tb_start
      have Nr : News g L' _ ro := fun p hp => N₁ p (.tail _ hp)
      refine for_list (l := a) (xs := vs) (c := c) (fun i m news => news = ro ∧ ∃ tkb tk2 iv, ∀ y, m y = if y = Str.ofString "part" then iv else if y = Str.ofString "body" then some (.bytes (encs (ts.take i)).toArray tkb) else if y = Str.ofString "base" then some (.int 192 tk2) else if y = Str.ofString "tree" then some (.ref a) else none) F₁ Nr ?_ ?_ ?_ rfl rfl rfl rfl ?_ ?_
      · refine' ⟨rfl, ?t1, ?t2, none, fun y => ?h⟩
        case h =>
          by_cases hy : y = Str.ofString "part"
          · subst hy; rfl
          · rw [if_neg hy]; rfl
      · rintro i m news ⟨rfl, _⟩; exact hm
      · passes_own
      · clear F₁ N₁ Nr
        rintro i m news h tk₃ it ito v ⟨rfl, tkb, tk2, iv, q5⟩ hv F N hio dis
        have hi : i < ts.length := by
          rcases Nat.lt_or_ge i vs.length with z | z
          · omega
          · rw [List.getElem?_eq_none z] at hv; cases hv
        have ht := List.getElem?_eq_getElem hi
        have Ri := hR i _ v ht hv
        obtain ⟨hle, htk⟩ := hcut i _ ht
        have F₄ := Mine.Fr.congr F (m' := fun y => if y = Str.ofString "part" then some v else if y = Str.ofString "body" then some (.bytes (encs (ts.take i)).toArray tkb) else if y = Str.ofString "base" then some (.int 192 tk2) else if y = Str.ofString "tree" then some (.ref a) else none) (fun y => by
          by_cases hy : y = Str.ofString "part"
          · rw [if_pos hy, if_pos hy]
          · rw [if_neg hy, if_neg hy, q5 y, if_neg hy])
        clear F
        tb_start
        refine wk (d := d + 1) (u := u + 6) (by show d + 1 ≤ d + 1; omega) (by show u + 3 ≤ u + 6; omega) ?_
        refine ih (by
          have := ht_mem (List.getElem_mem hi)
          rw [Tr.ht] at hn; omega) (by omega) (by omega) AM (pcall B' F₄ rfl rfl) (cells_c B' F₄ N (fun p hp => .tail _ hp) rfl rfl) Ri (by omega) fun t1 h' tk' kp => ?_
        obtain ⟨F5, N5⟩ := pback F₄ N kp
        clear F₄ N
        have hb1 : (encs (ts.take i)).length < 65536 := by omega
        have hb2 : (ts[i].enc).length < 65536 := by omega
        tb_start
        rename Fr _ _ _ _ => F6
        rename News _ _ _ _ => N6
        refine' ⟨_, _, _, _, ito, rfl, F6, N6, hio, dis, rfl, ?tb, tk2, some v, fun y => ?h⟩
        case h =>
          rw [htk]
          dsimp only
          by_cases h1 : y = Str.ofString "body"
          · subst h1; rfl
          · rw [if_neg h1]
            by_cases h2 : y = Str.ofString "part"
            · rw [if_pos h2, if_pos h2]
            · rw [if_neg h2, if_neg h2, if_neg h1, if_neg h1]
      · clear F₁ N₁ Nr
        rintro m news h tk₃ ⟨rfl, tkb, tk2, iv, q5⟩ F N
        rw [hlen, List.take_length] at q5
        have F₄ := Mine.Fr.congr F q5
        clear F
        have hbs : (encs ts).toArray.size = (encs ts).length := List.size_toArray
        have hbs' : ((encs ts).toArray.size : Int) = ((encs ts).length : Int) := by rw [hbs]
        have hd0 : (digs (encs ts).toArray.size).length ≤ 2 := digs_len (by omega)
        have hd1' : (digs (encs ts).length).length ≤ 2 := digs_len (by omega)
        have hd2 : ((digs (encs ts).toArray.size).toArray.size : Int) = ((digs (encs ts).toArray.size).length : Int) := by rw [List.size_toArray]
        tb_start
        all_goals (rename Fr _ _ _ _ => F₁)
        all_goals (rename News _ _ _ _ => N₁)
        all_goals have kp : Kp [] s.heap _ := kp_ro (cells := []) (ro := news) hg F₁ (fun z hz => (C z hz).1) fun z hz => (N₁ z (by first | exact hz | exact .tail _ hz | exact .tail _ (.tail _ hz))).1
        all_goals have z := fun t k => ret t _ k kp
        · rw [henc, hdr_small (by omega) (192 + ((encs ts).toArray.size : Int)) (by omega)] at z
          exact z _ _
        · have e : (Tr.node ts).enc = ([(192 + 55 + ((digs (encs ts).toArray.size).toArray.size : Int)).toNat.toUInt8] ++ digs (encs ts).toArray.size) ++ encs ts := by
            rw [henc, hdr_big (by omega) (192 + 55 + ((digs (encs ts).length).length : Int)) (by omega), List.size_toArray, List.size_toArray]
          rw [e] at z
          exact z _ _
end Mine
end

section
theorem Mine.quietLnext : True := by
  w_top off
  trivial
open PySem PySem.W PySem.Spec PySem.Calls PyProof.Rows
set_option Elab.async false
set_option maxRecDepth 100000
set_option maxHeartbeats 8000000
namespace Mine
section
variable {prog : Program} {w : World} {A : Around} {E : Value → Shared → Prop} {s : Shared} {g : Heap} {L : Addr} {m : Str → Option Value} {news news' : List (Addr × Obj)}
theorem pop0_K {D : Addr} {v : Value} {xs : List Value} {n : Nat} {u : Tok} {Q : Value → Shared → Prop} (F : Fr g L s.heap m) (N : News g L s.heap news) (U : Upd D (W.listOf (v :: xs).toArray n) (W.listOf xs.toArray (n + 1)) news news') (hsz : (v :: xs).length ≤ sizeLine)
    (h : ∀ h', Fr g L h' m → News g L h' news' → Q v { s with heap := h' }) : wpAny (model prog w) A (call (.builtin "list.pop") [.ref D, .int 0 u]) Q E s := by
  obtain ⟨pre, post, rfl, rfl, a, b⟩ := U.split
  have z := N (D, W.listOf (v :: xs).toArray n) (List.mem_append.mpr (.inr (.head _)))
  refine PySem.call_meets PySem.F.slot_list_pop ⟨_, z.1, rfl⟩ PySem.F.entry_list_pop (PySem.F.args_list_pop_2 _ _) (PySem.MeetsSeq.list_pop_at D (v :: xs).toArray n 0 u 0 v (by decide) ?_ rfl hsz) ⟨z.1, ?_⟩
  · unfold seqIndex?
    simp
  · have e : (Obj.mapSeq (fun xs => xs.eraseIdxIfInBounds 0)) (W.listOf (v :: xs).toArray n) = W.listOf xs.toArray (n + 1) := by
      simp [Obj.mapSeq, W.listOf]
    have U' := news_upd F N a b e rfl
    exact h _ U'.1 U'.2
end
theorem filled16 (w : World) (h : Heap) (X : (Mine.hd.heap_39 w.params).In h) : Challenge.rw_sx0040_01 = Challenge.rw_sx0040_01 := by
  revert X; k_fill; intro _; rfl
local macro_rules | `(tactic| tb_start) => `(tactic| repeat' ((fail_if_success (with_reducible show wpAny _ _ (exec (Stmt.While _ _ _ _) _) _ _ _)); (fail_if_success (with_reducible show wpAny _ _ (exec (Stmt.For _ _ _ _ _) _) _ _ _)); (fail_if_success (with_reducible show wpAny _ _ (pyIter _) _ _ _)); first | (k_unfold; (try dsimp only)) | (k_end; wrow_close) | walk1 | (dsimp only; walk1) | (leave1; walk_say "STEP leave1"; try dsimp only) | fail "no step"))
local macro_rules | `(tactic| walk_at "idle line") => `(tactic| skip)
local macro_rules | `(tactic| walk_at "idle line") => `(tactic| skip)
local macro_rules | `(tactic| walk_at "idle line") => `(tactic| skip)
local macro_rules | `(tactic| walk_at "idle line") => `(tactic| skip)
local macro_rules | `(tactic| walk_at "idle line") => `(tactic| skip)
local macro_rules | `(tactic| walk_at "idle line") => `(tactic| skip)
local macro_rules | `(tactic| walk_at "idle line") => `(tactic| skip)
local macro_rules | `(tactic| walk_at "idle line") => `(tactic| skip)
local macro_rules | `(tactic| walk_at "idle line") => `(tactic| skip)
local macro_rules | `(tactic| walk_at "idle line") => `(tactic| skip)
local macro_rules | `(tactic| walk_at "idle line") => `(tactic| skip)
local macro_rules | `(tactic| walk_at "idle line") => `(tactic| skip)
local macro_rules | `(tactic| walk_at "idle line") => `(tactic| skip)
local macro_rules | `(tactic| walk_at "idle line") => `(tactic| skip)
local macro_rules | `(tactic| walk_at "idle line") => `(tactic| skip)
local macro_rules | `(tactic| walk_at "idle line") => `(tactic| skip)
local macro_rules | `(tactic| walk_at "call builtin:list.pop") => `(tactic| (k_here; (with_reducible show wpAny _ _ (call (Value.builtin _) [Value.ref _, _]) _ _ _); k_dflt (refine' pop0_K ?k1 ?k2 ?k3 ?z ?_; (case k1 => k_asm); (case k2 => k_asm); (case k3 => k_upd); (case z => (simp only [List.length_cons, sizeLine_eq]; omega)); k_whole); intro h' F' N'; (try k_sweep)))
theorem lnext0 {w : World} {mean : ExcName → Option Value} {mg mb : Str → Option Value} {base : Heap} {l : List Env} {s : Shared} {Q E : Value → Shared → Prop} {lf : Addr} {c : Nat}
  (AM : Amb w mean mg mb base) (B : Below (topA 700 3000 l) base l s.heap) (C : Cells s.heap base l [(lf, W.listOf ([] : List Value).toArray c)])
  (ret : ∀ t h' tk', Kp [] s.heap h' → Q (.int 0 t) {s with heap := h', toks := tk'}) :
  wpAny (model PRG w) (topA 700 3000 l) (call (.ref 207) [.ref lf]) Q E s := by
  k_dflt (refine' enterF (rb := [(Str.ofString "left", .ref lf)]) AM B C ?k6 ?k7 ?k8 ?k9 ?kL ?cr ?c2 ?c3 ?c4 ?c5 ?_; (case k6 => k_is); (case k7 => k_is); (case k8 => first | exact Nat.lt_of_sub_eq_succ rfl | exact hdep); (case k9 => first | exact BindsTo.of_eq rfl | exact kp_binds (AM.X.keeps B.stays) (fun _ => rfl)); (case kL => exact locs rfl); (case cr => exact rfl); (case c2 => exact rfl); (case c3 => exact rfl); (case c4 => exact rfl); (case c5 => decide); k_whole)
  intro g L' h' hg F N B' X' T' lt
  dsimp only [bmap] at F ⊢
  try k_fold
  tb_start
  rename Fr _ _ _ _ => F₁
  rename News _ _ _ _ => N₁
  exact ret _ _ _ (kp_ro (cells := []) (ro := [(lf, W.listOf ([] : List Value).toArray c)]) hg F₁ (fun z hz => (C z hz).1) fun z hz => (N₁ z hz).1)
theorem lnext1 {w : World} {mean : ExcName → Option Value} {mg mb : Str → Option Value} {base : Heap} {l : List Env} {s : Shared} {Q E : Value → Shared → Prop} {lf : Addr} {v : Value} {xs : List Value} {c : Nat}
  (AM : Amb w mean mg mb base) (B : Below (topA 700 3000 l) base l s.heap) (C : Cells s.heap base l [(lf, W.listOf (v :: xs).toArray c)]) (hsz : xs.length < 65536)
  (ret : ∀ c' h' tk', Kp [lf] s.heap h' → h'.get? lf = some (W.listOf xs.toArray c') → Q v {s with heap := h', toks := tk'}) :
  wpAny (model PRG w) (topA 700 3000 l) (call (.ref 207) [.ref lf]) Q E s := by
  k_dflt (refine' enterF (rb := [(Str.ofString "left", .ref lf)]) AM B C ?k6 ?k7 ?k8 ?k9 ?kL ?cr ?c2 ?c3 ?c4 ?c5 ?_; (case k6 => k_is); (case k7 => k_is); (case k8 => first | exact Nat.lt_of_sub_eq_succ rfl | exact hdep); (case k9 => first | exact BindsTo.of_eq rfl | exact kp_binds (AM.X.keeps B.stays) (fun _ => rfl)); (case kL => exact locs rfl); (case cr => exact rfl); (case c2 => exact rfl); (case c3 => exact rfl); (case c4 => exact rfl); (case c5 => decide); k_whole)
  intro g L' h' hg F N B' X' T' lt
  dsimp only [bmap] at F ⊢
  try k_fold
  tb_start
  rename Fr _ _ _ _ => F₁
  rename News _ _ _ _ => N₁
  exact ret _ _ _ (kp_of (cells := [(lf, W.listOf (v :: xs).toArray c)]) hg F₁) (N₁ _ (.head _)).1
def AllInt (xs : List Value) : Prop := ∀ v ∈ xs, ∃ (n : Int) (t : Tok), v = .int n t
theorem lnext_any {w : World} {mean : ExcName → Option Value} {mg mb : Str → Option Value} {base : Heap} {l : List Env} {s : Shared} {Q E : Value → Shared → Prop} {lf : Addr} {xs : List Value} {c : Nat}
  (AM : Amb w mean mg mb base) (B : Below (topA 700 3000 l) base l s.heap) (C : Cells s.heap base l [(lf, W.listOf xs.toArray c)]) (hx : AllInt xs) (hsz : xs.length < 65536)
  (ret : ∀ (n : Int) (t : Tok) xs' c' h' tk', AllInt xs' → xs'.length ≤ xs.length → Kp [lf] s.heap h' → h'.get? lf = some (W.listOf xs'.toArray c') → Q (.int n t) {s with heap := h', toks := tk'}) :
  wpAny (model PRG w) (topA 700 3000 l) (call (.ref 207) [.ref lf]) Q E s := by
  cases xs with
  | nil => exact lnext0 AM B C fun t h' tk' k => ret 0 t [] c h' tk' hx (Nat.le_refl _) (k.mono fun _ h => nomatch h) (by
      have := (C _ (.head _))
      exact k _ _ (by simp) this.1)
  | cons v r =>
    obtain ⟨n, t, rfl⟩ := hx v (.head _)
    exact lnext1 AM B C (by simp at hsz; omega) fun c' h' tk' k1 k2 => ret n t r c' h' tk' (fun z hz => hx z (.tail _ hz)) (by simp) k1 k2
end Mine
end

section
theorem Mine.quietCellf : True := by
  w_top off
  trivial
open PySem PySem.W PySem.Spec PySem.Calls PyProof.Rows
set_option Elab.async false
set_option maxRecDepth 100000
set_option maxHeartbeats 8000000
namespace Mine
section
variable {w : World} {mean : ExcName → Option Value} {mg mb : Str → Option Value} {base : Heap} {A : Around} {l : List Env} {s : Shared}
/-- a def of which inner blocks hold names -/
theorem enterCell {R : Result → Shared → Prop} {name qual : Str} {params : Arguments} {body : List Stmt} {scope : Scope} {dV kV doc pm cdv ct oc : Value} {an od : Option Addr} {osl : Array (Option Value)} {f : Addr} {args : Args}
    {binds : List (Str × Value)} {cells : List (Addr × Obj)}
    (AM : Amb w mean mg mb base) (B : Below A base l s.heap) (C : Cells s.heap base l cells)
    (ho : (Mine.hd.heap_39 w.params).lookup f = some ⟨oc, od, .func (fnOf name qual params body scope dV kV doc pm an cdv ct), osl⟩) (hcd : codeIn (Mine.hd.heap_39 w.params) cdv qual = true) (hroom : A.depth < recursionLimit)
    (hbind : BindsTo s (fnOf name qual params body scope dV kV doc pm an cdv ct) args binds)
    (hkind : (binds.all fun y => scope.names.lookup y.1 == some .local || scope.names.lookup y.1 == some .cell) = true)
    (hnd : ((cellsFrom 0 scope.names []).map (·.1)).Nodup)
    (hco : scope.isCoroutine = false) (hgen : scope.isGenerator = false) (hk : scope.kind = .function)
    (h : ∀ g L' h₁ tk own, g = hideAll s.heap (cells.map (·.1)) → Fr g L' h₁ (bindL (envOfC qual scope L' f cdv).kindOf binds fun _ => none) → News g L' h₁ (own ++ cells) →
      CellsAre (bindC (envOfC qual scope L' f cdv).kindOf binds fun _ => none) (cellsFrom (L' + 1) scope.names []) own → Below A base l g → (Mine.hd.heap_39 w.params).In g → Top Mine.hd.view_39 LO mean mg mb g → (∀ p ∈ cells, p.1 < L') →
      wpAny (model PRG w) (A.deeper (envOfC qual scope L' f cdv)) (execs body (envOfC qual scope L' f cdv))
        (fun fl s' => R (.ok (.ret (match fl with | .ret v => v | _ => .none))) s')
        (fun e s' => wpAny (model PRG w) (A.deeper (envOfC qual scope L' f cdv)) (leaving (envOfC qual scope L' f cdv) e) (fun _ s'' => R (.error e) s'') (fun e' s'' => R (.error e') s'') s')
        { s with heap := h₁, toks := tk }) : codeAny (model PRG w) A (.call (.ref f) args) R s := by
  have X := AM.X.keeps B.stays
  have T := AM.T.keeps B.stays
  refine codeAny_call_function (fd := fnOf name qual params body scope dV kV doc pm an cdv ct) (body := body) hroom (X _ _ ho) rfl hco hgen rfl (codeRec_of X hcd) (hbind _ _ _ _ ?_)
  refine wpAny_newFunctionEnv_cells hk (kindsX hkind _) fun env' he s' x => ?_
  subst he
  refine ⟨T.nolimit.keeps x.toInCall.keep, codeAny_func ?_⟩
  obtain ⟨h₁, tk, rfl, _⟩ := x.done
  have hk₁ := x.toInCall.keep
  obtain ⟨own, NC, Y⟩ := Cl.news (h₀ := s.heap) (Nat.le_refl _) fun n c hm => ⟨x.cell n c (lookup_of_mem_nodup (cellsFrom_names scope.names 0 (s.heap.objs.size + 1) [] [] rfl ▸ hnd) hm), x.above n c hm⟩
  have Bg := below_hide B C
  refine h _ s.heap.objs.size h₁ tk own rfl ⟨x.toInCall.ns, fun b o e => hk₁ b o (of_hideAll _ e), Nat.le_of_eq (hideAll_size _ _)⟩ (fun p hp => ?_) Y Bg (AM.X.keeps Bg.stays) (AM.T.keeps Bg.stays) fun p hp => Heap.lt_size (C p hp).1
  rcases List.mem_append.mp hp with hp | hp
  · refine ⟨(NC p hp).1, (NC p hp).2.1, ?_⟩
    cases q : (hideAll s.heap (cells.map (·.1))).get? p.1 with
    | none => rfl
    | some o => have := of_hideAll _ q; rw [(NC p hp).2.2] at this; cases this
  · exact ⟨hk₁ _ _ (C p hp).1, Nat.ne_of_lt (Heap.lt_size (C p hp).1), hideAll_none _ (List.mem_map_of_mem hp)⟩
end
end Mine
end

section
theorem Mine.quietTree : True := by
  w_top off
  trivial
open PySem PySem.W PySem.Spec PySem.Calls PyProof.Rows
set_option Elab.async false
set_option maxRecDepth 100000
set_option maxHeartbeats 8000000
namespace Mine
def TB : Nat → Nat
  | 0 => 60
  | d + 1 => 4 * TB d + 10
theorem TB_ge : ∀ d, 60 ≤ TB d
  | 0 => Nat.le_refl _
  | d + 1 => by have := TB_ge d; rw [TB]; omega
theorem TB_le {d : Nat} (h : d < 4) : TB d ≤ 4050 := by
  match d, h with
  | 0, _ => decide
  | 1, _ => decide
  | 2, _ => decide
  | 3, _ => decide
theorem hdr_le {base n : Nat} (h : n < 65536) : (hdr base n).length ≤ 3 := by
  unfold hdr
  split
  · simp
  · have := digs_len h
    simp
    omega
theorem encs_le {ts : List Tr} {b : Nat} (h : ∀ t ∈ ts, t.enc.length ≤ b) : (encs ts).length ≤ ts.length * b := by
  induction ts with
  | nil => rw [encs]; simp
  | cons a r ih =>
    rw [encs_cons, List.length_append, List.length_cons, Nat.succ_mul]
    have h1 := h a (.head _)
    have h2 := ih fun t ht => h t (.tail _ ht)
    omega
theorem node_le {ts : List Tr} {k : Nat} (hk : k < 4) (hl : ts.length ≤ 3) (h : ∀ t ∈ ts, t.enc.length ≤ TB k) : (Tr.node ts).enc.length ≤ TB (k + 1) := by
  have h1 := encs_le h
  have h2 := TB_le hk
  have h3 : ts.length * TB k ≤ 3 * TB k := Nat.mul_le_mul_right _ hl
  have h4 := @hdr_le 192 (encs ts).length (by omega)
  rw [Tr.enc, List.length_append, TB]
  omega
theorem leaf_le {b : List UInt8} {d : Nat} (h : b.length ≤ 57) : (Tr.leaf b).enc.length ≤ TB d := by
  have h1 := TB_ge d
  have h2 := @hdr_le 128 b.length (by omega)
  rw [Tr.enc]
  unfold encB
  split
  · omega
  · rw [List.length_append]; omega
def TreeC (d : Nat) : Prop := ∀ {w : World} {mean : ExcName → Option Value} {mg mb : Str → Option Value} {base : Heap} {l : List Env} {s : Shared} {Q E : Value → Shared → Prop} {dd uu : Nat} {lf : Addr} {xs : List Value} {c : Nat} {tkd : Tok}, dd + d ≤ 600 → uu + 10 * d ≤ 2500 →
  Amb w mean mg mb base → Below (topA dd uu l) base l s.heap → Cells s.heap base l [(lf, W.listOf xs.toArray c)] → AllInt xs → xs.length < 65536 →
  (∀ t v ro xs' c' h' tk', t.ht ≤ d → t.enc.length ≤ TB d → Kp [lf] s.heap h' → h'.get? lf = some (W.listOf xs'.toArray c') → AllInt xs' → xs'.length ≤ xs.length → (∀ z ∈ ro, h'.get? z.1 = some z.2) → (∀ z ∈ ro, s.heap.get? z.1 = none) → (ro.map (·.1)).Nodup → Rep ro t v → t.plain → Q v {s with heap := h', toks := tk'}) →
  wpAny (model PRG w) (topA dd uu l) (call (.ref 212) [.ref lf, .int (d : Int) tkd]) Q E s
theorem comp_ind {prog : Program} {w : World} {A : Around} {h₀ : Heap} {L : Addr} {m : Str → Option Value} {env : Env} {elt : PySem.Expr} {x : Str} {scope : Scope} {cl : List (Str × Addr)} {s : Shared} {S : List (Addr × Obj) → Prop} {P : Nat → Value → Prop} {Fin : List Value → List (Addr × Obj) → Prop} {news : List (Addr × Obj)} {n : Nat}
    (J : Nat → List Value → List (Addr × Obj) → Prop)
    (turn : ∀ i ys news v I oI C oC D m₂ h tk (E' : Value → Shared → Prop), i < n → J i ys news → P i v → LCg.NsObj oC m₂ → m₂ x = some v → Fr h₀ L h m → News h₀ L h ((I, oI) :: (C, oC) :: (D, LCg.lst ys) :: news) → LCg.Off3 I C D news → ((@Ne Nat I C) ∧ (@Ne Nat I D) ∧ (@Ne Nat C D)) →
      wpAny (model prog w) A (eval elt (compEnvC scope cl C env)) (LCg.CompEnd h₀ L m { s with heap := h, toks := tk } I oI C oC D (LCg.lst ys) S (fun y news' => J (i + 1) (ys ++ [y]) news')) E' { s with heap := h, toks := tk })
    (fin : ∀ ys news, J n ys news → Fin ys news) (j0 : J 0 [] news) : LCg.CompRest prog w A h₀ L m env elt x scope cl s S P Fin n 0 [] news := by
  have key : ∀ (k i : Nat) (ys : List Value) (news : List (Addr × Obj)), i + k = n → J i ys news → LCg.CompRest prog w A h₀ L m env elt x scope cl s S P Fin k i ys news := by
    intro k
    induction k with
    | zero => exact fun i ys news hi j => LCg.CompRest.zero (fin ys news (by rw [← hi]; exact j))
    | succ k ih =>
      refine fun i ys news hi j => LCg.CompRest.succ fun v I oI C oC D m₂ h tk E' hv hC hx F N off ne => wpAny_mono (turn i ys news v I oI C oC D m₂ h tk E' (by omega) j hv hC hx F N off ne) (fun y s₂ hq => ?_) fun _ _ e => e
      obtain ⟨h', tk', nw, e, F', N', off', hS, hj⟩ := hq
      exact ⟨h', tk', nw, e, F', N', off', hS, ih (i + 1) _ _ (by omega) hj⟩
  exact key n 0 [] news (by omega) j0
theorem small_le {j : Int} (h0 : 0 ≤ j) (h1 : j ≤ 8) : Builtin.Range.small 0 j 1 = true := by
  have h : ∀ k : Fin 9, Builtin.Range.small 0 ((k.val : Nat) : Int) 1 = true := by decide
  have := h ⟨j.toNat, by omega⟩
  rwa [show ((j.toNat : Nat) : Int) = j from by omega] at this
theorem pick2 {g : Heap} {L : Addr} {h : Heap} {a b : Addr} {o o2 : Obj} {news : List (Addr × Obj)} (_ : News g L h ((a, o) :: (b, o2) :: news)) : ∃ x y, x = o ∧ y = o2 := ⟨o, o2, rfl, rfl⟩
theorem hts_snoc {ts : List Tr} {t : Tr} {k : Nat} (h1 : hts ts ≤ k) (h2 : t.ht ≤ k) : hts (ts ++ [t]) ≤ k := by
  induction ts with
  | nil => simp [hts, h2]
  | cons a r ih =>
    rw [hts] at h1
    rw [List.cons_append, hts]
    exact Nat.max_le.mpr ⟨Nat.le_trans (Nat.le_max_left _ _) h1, ih (Nat.le_trans (Nat.le_max_right _ _) h1)⟩
theorem Rep.mono {ro ro' : List (Addr × Obj)} (h : ∀ z ∈ ro, z ∈ ro') {t : Tr} {v : Value} (R : Rep ro t v) : Rep ro' t v := by
  induction R with
  | leaf => exact .leaf
  | node hm hl _ ih => exact .node (h _ hm) hl ih
theorem after_list {g h h2 : Heap} {L a : Addr} {o o' : Obj} {m : Str → Option Value} {pre post : List (Addr × Obj)} (F : Fr g L h m) (N : News g L h (pre ++ (a, o) :: post)) (k : Kp [a] h h2) (k2 : h2.get? a = some o') (d : ∀ p ∈ pre ++ post, p.1 ≠ a) :
    Fr g L h2 m ∧ News g L h2 (pre ++ (a, o') :: post) := by
  have hr : ∀ p ∈ pre ++ post, p ∈ pre ++ (a, o) :: post ∧ p.1 ∉ [(a, o)].map (·.1) := by
    intro p hp
    constructor
    · rcases List.mem_append.mp hp with q | q
      · exact List.mem_append_left _ q
      · exact List.mem_append_right _ (.tail _ q)
    · intro q
      exact d p hp (List.mem_singleton.mp q)
  have ac := after_call (cells := [(a, o)]) (out := [(a, o')]) (rest := pre ++ post) F N (fun p hp => by
    obtain rfl := List.mem_singleton.mp hp
    exact List.mem_append_right _ (.head _)) k (fun p hp => by
    obtain rfl := List.mem_singleton.mp hp
    exact ⟨k2, .inl (.head _)⟩) hr
  refine ⟨ac.1, fun p hp => ac.2 p ?_⟩
  rcases List.mem_append.mp hp with q | q
  · exact List.mem_append_right _ (List.mem_append_left _ q)
  · rcases List.mem_cons.mp q with rfl | q
    · exact List.mem_append_left _ (.head _)
    · exact List.mem_append_right _ (List.mem_append_right _ q)
theorem filled17 (w : World) (h : Heap) (X : (Mine.hd.heap_39 w.params).In h) : Challenge.rw_sx0040_01 = Challenge.rw_sx0040_01 := by
  revert X; k_fill; intro _; rfl
local macro_rules | `(tactic| tb_start) => `(tactic| repeat' ((fail_if_success (with_reducible show wpAny _ _ (call (Value.ref 207) _) _ _ _)); (fail_if_success (with_reducible show wpAny _ _ (call (Value.ref 212) _) _ _ _)); (fail_if_success (with_reducible show wpAny _ _ (eval (Expr.ListComp _ _ _ _) _) _ _ _)); (fail_if_success (with_reducible show PyProof.Rows.LCg.CompSrc _ _ _ _ _ _ _ _ _ _ _ _ _ _)); (fail_if_success (with_reducible show wpAny _ _ (exec (Stmt.While _ _ _ _) _) _ _ _)); (fail_if_success (with_reducible show wpAny _ _ (exec (Stmt.For _ _ _ _ _) _) _ _ _)); (fail_if_success (with_reducible show wpAny _ _ (pyIter _) _ _ _)); first | (k_unfold; (try dsimp only)) | (k_end; wrow_close) | walk1 | (dsimp only; walk1) | (leave1; walk_say "STEP leave1"; try dsimp only) | fail "no step"))
theorem tree_step (d : Nat) (hd5 : d < 4) (ih : ∀ k, k < d → TreeC k) : TreeC d := by
  intro w mean mg mb base l s Q E dd uu lf xs c tkd hdd huu AM B C hx hsz ret
  have hdep : dd < recursionLimit := by show dd < 1000; omega
  refine wpAny_call ?_
  k_dflt (refine' enterCell AM B C ?k6 ?k7 ?k8 ?k9 ?kB ?kD ?c2 ?c3 ?c4 ?_; (case k6 => k_is); (case k7 => k_is); (case k8 => exact hdep); (case k9 => exact BindsTo.of_eq rfl); (case kB => exact rfl); (case kD => decide +kernel); (case c2 => exact rfl); (case c3 => exact rfl); (case c4 => exact rfl); k_whole)
  intro g L' h' tk' own hg F' N' Y' B' X' T' lt
  k_cells Y'
  (try simp only [List.cons_append, List.nil_append] at N')
  (try dsimp only)
  (try k_fold)
  tb_start
  rename Fr _ _ _ _ => F₁
  rename News _ _ _ _ => N₁
  have hlt : @LT.lt Nat _ lf L' := lt _ (.head _)
  refine wk (d := 700) (u := 3000) (by show dd + 1 ≤ 700; omega) (by show uu + 3 ≤ 3000; omega) ?_
  refine lnext_any AM (pcall B' F₁ rfl rfl) (cells_c B' F₁ N₁ (fun p hp => .tail _ (.tail _ hp)) rfl rfl) hx hsz fun n t xs' c' h2 tk2 hx' hle k1 k2 => ?_
  obtain ⟨F₂, N₂⟩ := after_list (pre := [_, _]) (post := []) F₁ N₁ k1 k2 (fun p hp => by
    simp only [List.mem_append, List.mem_cons, List.not_mem_nil, or_false] at hp
    rcases hp with rfl | rfl <;> (refine neN ?_; dsimp only; omega))
  clear F₁ N₁
  simp only [List.cons_append, List.nil_append] at N₂
  tb_start
  any_goals (
    rename Fr _ _ _ _ => F₁
    rename News _ _ _ _ => N₁
    exact ret (.leaf _) _ [] xs' c' _ _ (Nat.zero_le _) (leaf_le (Nat.le_of_ble_eq_true rfl)) (kp_of (cells := [(lf, W.listOf xs.toArray c)]) hg F₁) (N₁ (lf, W.listOf xs'.toArray c') (by k_mem)).1 hx' hle (fun _ hz => nomatch hz) (fun _ hz => nomatch hz) List.nodup_nil .leaf trivial)
  obtain ⟨k, rfl⟩ : ∃ k, d = k + 1 := ⟨d - 1, by omega⟩
  rename Fr _ _ _ _ => F₃
  rename News _ _ _ _ => N₃
  obtain ⟨oa, ob, ha, hb⟩ := pick2 N₃
  subst ha hb
  have hm0 : 0 ≤ (n.fdiv 3).fmod 4 := by rw [Int.fmod_eq_emod_of_nonneg _ (by decide)]; omega
  have hm1 : (n.fdiv 3).fmod 4 < 4 := by rw [Int.fmod_eq_emod_of_nonneg _ (by decide)]; omega
  refine LCg.ListComp_U (F₀ := F₃) (by rfl) (by decide) (by rfl) (by decide) (by rfl) ?_
  tb_start
  k_dflt (refine LCg.CompSrc.range (n := ((n.fdiv 3).fmod 4).toNat) (by rfl) (by k_asm) (by k_asm) (by assumption) (small_le hm0 (by omega)) (by rw [rangeSize_nat, Int.sub_zero]) (by rw [sizeLine_eq]; omega) ?_)
  intro g3
  refine comp_ind (fun i ys news => ∃ ts ro xs2 c2, ts.length = i ∧ ys.length = i ∧ (∀ (j : Nat) t v, ts[j]? = some t → ys[j]? = some v → Rep ro t v) ∧ hts ts ≤ k ∧ (∀ t ∈ ts, t.enc.length ≤ TB k) ∧ (∀ t ∈ ts, t.plain) ∧ news = (L' + 1 + 1, oa) :: (L' + 1, ob) :: (lf, W.listOf xs2.toArray c2) :: ro ∧ AllInt xs2 ∧ xs2.length ≤ xs.length ∧ (∀ z ∈ ro, s.heap.get? z.1 = none) ∧ (ro.map (·.1)).Nodup) ?_ ?_ ?_
  · rintro i ys news v I oI C1 oC D m₂ h tk5 E' hi ⟨ts, ro, xs2, c2, l1, l2, hR, hht, hB, hpl, rfl, hx2, hle2, hfr, hnd⟩ hv hC hm2 F N off ne3
    have offm := LCg.Off3.mem off
    clear off
    tb_start
    rename Fr _ _ _ _ => F₅
    rename News _ _ _ _ => N₅
    rw [show ((k + 1 : Nat) : Int) - 1 = (k : Int) from by omega]
    refine wk (d := dd + 1) (u := uu + 10) (by show dd + 1 ≤ dd + 1; omega) (by show uu + 3 ≤ uu + 10; omega) ?_
    refine ih k (by omega) (by omega) (by omega) AM (pcall B' F₅ rfl rfl) (cells_c (cells := [(lf, W.listOf xs2.toArray c2)]) B' F₅ N₅ (fun p hp => by
      obtain rfl := List.mem_singleton.mp hp
      k_mem) rfl rfl) hx2 (by omega) fun t v ro' xs3 c3 h' tk' e1 eB k1 k2 e4 e5 e6 e7 e8 e9 e10 => ?_
    obtain ⟨F₆, N₆⟩ := after_list (pre := [_, _, _, _, _]) (post := ro) F₅ N₅ k1 k2 (fun p hp => by
      have hlfs : s.heap.get? lf ≠ none := by rw [(C _ (.head _)).1]; exact fun q => nomatch q
      have o3 := offm (lf, W.listOf xs2.toArray c2) (.tail _ (.tail _ (.head _)))
      rcases List.mem_append.mp hp with hp | hp
      · simp only [List.mem_cons, List.not_mem_nil, or_false] at hp
        rcases hp with rfl | rfl | rfl | rfl | rfl
        · exact fun q => o3.1 q.symm
        · exact fun q => o3.2.1 q.symm
        · exact fun q => o3.2.2 q.symm
        · refine neN ?_; dsimp only; omega
        · refine neN ?_; dsimp only; omega
      · intro q
        have := hfr p hp
        rw [q] at this
        exact hlfs this)
    obtain ⟨oL, _, _, hL, _⟩ := F₅.ns
    have old : ∀ z ∈ ro', ∀ (q : Addr × Obj) o, h.get? q.1 = some o → q.1 ≠ z.1 := fun z hz q o ho e => by
      rw [e, e7 z hz] at ho; cases ho
    have hold := fun (q : Addr × Obj) hq => (N₅ q hq).1
    refine ⟨h', tk', (L' + 1 + 1, oa) :: (L' + 1, ob) :: (lf, W.listOf xs3.toArray c3) :: (ro' ++ ro), rfl, F₆, ?_, ?_, trivial, ts ++ [t], ro' ++ ro, xs3, c3, by simp [l1], by simp [l2], ?_, hts_snoc hht e1, ?_, ?_, rfl, e4, Nat.le_trans e5 hle2, ?_, ?_⟩
    · intro p hp
      by_cases hr : p ∈ ro'
      · refine ⟨e6 p hr, fun q => ?_, kts_none F₅.keep (e7 p hr)⟩
        have h7 := e7 p hr
        have q' : p.1 = L' := q
        rw [q'] at h7
        dsimp only at h7
        rw [hL] at h7; cases h7
      · apply N₆
        simp only [List.mem_cons, List.mem_append, List.cons_append, List.nil_append] at hp ⊢
        rcases hp with hp | hp | hp | hp | hp | hp | hp | hp
        · exact .inl hp
        · exact .inr (.inl hp)
        · exact .inr (.inr (.inl hp))
        · exact .inr (.inr (.inr (.inl hp)))
        · exact .inr (.inr (.inr (.inr (.inl hp))))
        · exact .inr (.inr (.inr (.inr (.inr (.inl hp)))))
        · exact absurd hp hr
        · exact .inr (.inr (.inr (.inr (.inr (.inr hp)))))
    · refine LCg.Off3.of fun p hp => ?_
      simp only [List.mem_cons, List.mem_append] at hp
      rcases hp with rfl | rfl | rfl | hp | hp
      · exact offm _ (.head _)
      · exact offm _ (.tail _ (.head _))
      · exact offm (lf, W.listOf xs2.toArray c2) (.tail _ (.tail _ (.head _)))
      · exact ⟨fun q => old p hp (I, oI) _ (hold _ (.head _)) q.symm, fun q => old p hp (C1, oC) _ (hold _ (.tail _ (.head _))) q.symm, fun q => old p hp (D, LCg.lst ys) _ (hold _ (.tail _ (.tail _ (.head _)))) q.symm⟩
      · exact offm _ (.tail _ (.tail _ (.tail _ hp)))
    · intro j t2 v2 h1 h2
      rcases Nat.lt_trichotomy j i with q | q | q
      · rw [List.getElem?_append_left (by omega)] at h1 h2
        exact (hR j t2 v2 h1 h2).mono fun z hz => List.mem_append_right _ hz
      · rw [List.getElem?_append_right (by omega), show j - ts.length = 0 from by omega] at h1
        rw [List.getElem?_append_right (by omega), show j - ys.length = 0 from by omega] at h2
        obtain rfl : t = t2 := by simpa using h1
        obtain rfl : v = v2 := by simpa using h2
        exact e9.mono fun z hz => List.mem_append_left _ hz
      · rw [List.getElem?_eq_none (by simp; omega)] at h1; cases h1
    · intro t2 h2
      rcases List.mem_append.mp h2 with h2 | h2
      · exact hB _ h2
      · obtain rfl := List.mem_singleton.mp h2; exact eB
    · intro t2 h2
      rcases List.mem_append.mp h2 with h2 | h2
      · exact hpl _ h2
      · obtain rfl := List.mem_singleton.mp h2; exact e10
    · intro z hz
      rcases List.mem_append.mp hz with hz | hz
      · cases q : s.heap.get? z.1 with
        | none => rfl
        | some o =>
          exfalso
          by_cases hl : z.1 = lf
          · exact old z hz (lf, W.listOf xs2.toArray c2) _ (hold _ (by k_mem)) hl.symm
          · have h1 : g.get? z.1 = some o := by rw [hg]; exact hideAll_get _ q (by simpa using hl)
            have h2 := F₅.keep _ _ h1
            rw [show h.get? z.1 = none from e7 z hz] at h2; cases h2
      · exact hfr z hz
    · rw [List.map_append]
      refine List.nodup_append.mpr ⟨e8, hnd, fun a ha b hb e => ?_⟩
      obtain ⟨x, hx, rfl⟩ := List.mem_map.mp ha
      obtain ⟨y, hy, rfl⟩ := List.mem_map.mp hb
      exact old x hx y _ (hold y (by simp [hy])) e.symm
  · rintro ys news ⟨ts, ro, xs2, c2, l1, l2, hR, hht, hB, hpl, rfl, hx2, hle2, hfr, hnd⟩
    unfold LCg.FinE
    intro D h tk6 F N off1
    have hDl : D ≠ lf := fun q => off1.2.2.1 q.symm
    refine ret (.node ts) (.ref D) ((D, LCg.lst ys) :: ro) xs2 c2 h tk6 (by rw [Tr.ht]; omega) (node_le (by omega) (by omega) hB) (kp_of (cells := [(lf, W.listOf xs.toArray c)]) hg F) (N (lf, W.listOf xs2.toArray c2) (by k_mem)).1 hx2 hle2 ?_ ?_ ?_ (.node (.head _) (by rw [l2, l1]) fun j t v h1 h2 => (hR j t v h1 h2).mono fun z hz => .tail _ hz) (plains_iff.mpr hpl)
    · intro z hz
      rcases List.mem_cons.mp hz with rfl | hz
      · exact (N _ (.head _)).1
      · exact (N z (by simp [hz])).1
    · intro z hz
      rcases List.mem_cons.mp hz with rfl | hz
      · exact fresh_from hg N (.head _) (by simpa using hDl)
      · exact hfr z hz
    · rw [List.map_cons, List.nodup_cons]
      refine ⟨fun q => ?_, hnd⟩
      obtain ⟨z, hz, e⟩ := List.mem_map.mp q
      have : ∀ (l : List (Addr × Obj)), LCg.Off1 D l → ∀ p ∈ l, p.1 ≠ D := by
        intro l
        induction l with
        | nil => intro _ p hp; cases hp
        | cons a r ih =>
          intro x p hp
          rcases List.mem_cons.mp hp with rfl | hp
          · exact x.1
          · exact ih x.2 p hp
      exact this _ off1.2.2.2 z hz e
  · exact ⟨[], [], xs', c', rfl, rfl, (fun j t v h => by simp at h), Nat.zero_le _, (fun _ h => nomatch h), (fun _ h => nomatch h), rfl, hx', hle, (fun _ h => nomatch h), List.nodup_nil⟩
theorem tree_all (d : Nat) (h : d < 4) : TreeC d := by
  induction d using Nat.strongRecOn with
  | ind d ih => exact tree_step d h fun k hk => ih k hk (by omega)
end Mine
end

section
theorem Mine.quietFresh : True := by
  w_top off
  trivial
open PySem PySem.W PySem.Spec PySem.Calls PyProof.Rows
set_option Elab.async false
set_option maxRecDepth 100000
set_option maxHeartbeats 8000000
namespace Mine
/-- an entry of the law's list -/
structure Ent where
  e : Addr
  n : Nat
  x : Addr
  kids : Value
  cnt : Nat
  ct : Tok
  seen : Addr
def Ent.obj (a : Ent) : Obj := W.listOf ([.ref a.x, a.kids, .int (a.cnt : Int) a.ct, .ref a.seen] : List Value).toArray a.n
def Ent.cell (a : Ent) : Addr × Obj := (a.e, a.obj)
theorem cells_n {A : Around} {base g h : Heap} {l : List Env} {L : Addr} {m : Str → Option Value} {news cells : List (Addr × Obj)} {env : Env} (B : Below A base l g) (F : Fr g L h m) (N : News g L h news) (sub : ∀ p ∈ cells, p ∈ news)
    (hf : env.frame = some L) (hk : env.scope.kind = .function) : Cells h base (env :: l) cells := (amb_call B F N sub hf hk).2
theorem filled18 (w : World) (h : Heap) (X : (Mine.hd.heap_39 w.params).In h) : Challenge.rw_sx0040_01 = Challenge.rw_sx0040_01 := by
  revert X; k_fill; intro _; rfl
local macro_rules | `(tactic| tb_start) => `(tactic| repeat' ((fail_if_success (with_reducible show wpAny _ _ (exec (Stmt.While _ _ _ _) _) _ _ _)); (fail_if_success (with_reducible show wpAny _ _ (exec (Stmt.For _ _ _ _ _) _) _ _ _)); (fail_if_success (with_reducible show wpAny _ _ (pyIter _) _ _ _)); first | (k_unfold; (try dsimp only)) | (k_end; wrow_close) | walk1 | (dsimp only; walk1) | (leave1; walk_say "STEP leave1"; try dsimp only) | fail "no step"))
local macro_rules | `(tactic| walk_at "idle line") => `(tactic| skip)
local macro_rules | `(tactic| walk_at "idle line") => `(tactic| skip)
local macro_rules | `(tactic| walk_at "idle line") => `(tactic| skip)
local macro_rules | `(tactic| walk_at "idle line") => `(tactic| skip)
local macro_rules | `(tactic| walk_at "idle line") => `(tactic| skip)
local macro_rules | `(tactic| walk_at "idle line") => `(tactic| skip)
local macro_rules | `(tactic| walk_at "idle line") => `(tactic| skip)
local macro_rules | `(tactic| walk_at "idle line") => `(tactic| skip)
local macro_rules | `(tactic| walk_at "idle line") => `(tactic| skip)
local macro_rules | `(tactic| walk_at "idle line") => `(tactic| skip)
local macro_rules | `(tactic| walk_at "idle line") => `(tactic| skip)
local macro_rules | `(tactic| walk_at "idle line") => `(tactic| skip)
local macro_rules | `(tactic| walk_at "idle line") => `(tactic| skip)
local macro_rules | `(tactic| walk_at "idle line") => `(tactic| skip)
local macro_rules | `(tactic| walk_at "idle line") => `(tactic| skip)
local macro_rules | `(tactic| walk_at "idle line") => `(tactic| skip)
local macro_rules | `(tactic| walk_at "idle line") => `(tactic| skip)
local macro_rules | `(tactic| walk_at "call builtin:list.append") => `(tactic| (k_here; (with_reducible show wpAny _ _ (call (Value.builtin _) [Value.ref _, _]) _ _ _); k_dflt (refine' append_K ?k1 ?k2 ?k3 ?_ ?z; (case k1 => k_asm); (case k2 => k_asm); (case k3 => k_upd); (case z => (simp only [List.size_toArray, List.push_toArray, List.length_append, List.length_cons, List.length_nil, sizeLine_eq]; omega)); k_whole); intro h' F' N'; (try k_sweep)))
local macro_rules | `(tactic| k_all) => `(tactic| first | exact List.forall_mem_nil _ | assumption | (refine' List.forall_mem_cons.mpr ⟨?a, ?b⟩; (case a => k_ne); (case b => k_all)))
theorem fresh_spec {w : World} {mean : ExcName → Option Value} {mg mb : Str → Option Value} {base : Heap} {l : List Env} {s : Shared} {Q E : Value → Shared → Prop} {hl : Addr} {q : Row} {es : List Ent} {rs : List (Addr × Obj)} {c : Nat} {kids : Value}
  (AM : Amb w mean mg mb base) (B : Below (topA 450 1800 l) base l s.heap) (C : Cells s.heap base l ((hl, W.listOf (es.map fun a => Value.ref a.e).toArray c) :: (q.cells w.params ++ (es.map Ent.cell ++ rs)))) (hsz : es.length < 10000)
  (hnx : ∀ a ∈ es, @Ne Nat a.x q.x) (hne : ∀ a ∈ es, @Ne Nat a.e hl) (hrow : ∀ a ∈ es, ∃ d, (a.x, instObj 152 d) ∈ rs) (hrs : ∀ z ∈ rs, z.1 ≠ hl) (hxl : @Ne Nat q.x hl ∧ @Ne Nat q.d hl ∧ @Ne Nat q.el hl)
  (ret : ∀ (a : Ent) od c' h' tk', Kp [hl] s.heap h' → h'.get? hl = some (W.listOf ((es ++ [a]).map fun a => Value.ref a.e).toArray c') → h'.get? a.e = some a.obj → h'.get? a.seen = some od → Obj.IsDictOf (intKind PRG w) od [] → (a.seen == sysModules) = false →
    (∀ z ∈ [a.e, a.seen], s.heap.get? z = none) → @Ne Nat a.e a.seen → a.x = q.x → a.kids = kids → a.cnt = 0 → Q (.bool true) {s with heap := h', toks := tk'}) :
  wpAny (model PRG w) (topA 450 1800 l) (call (.ref 233) [.ref hl, .ref q.x, kids]) Q E s := by
  k_dflt (refine' enterF (rb := [(Str.ofString "kids", kids), (Str.ofString "got", .ref q.x), (Str.ofString "held", .ref hl)]) AM B C ?k6 ?k7 ?k8 ?k9 ?kL ?cr ?c2 ?c3 ?c4 ?c5 ?_; (case k6 => k_is); (case k7 => k_is); (case k8 => first | exact Nat.lt_of_sub_eq_succ rfl | exact hdep); (case k9 => first | exact BindsTo.of_eq rfl | exact kp_binds (AM.X.keeps B.stays) (fun _ => rfl)); (case kL => exact locs rfl); (case cr => exact rfl); (case c2 => exact rfl); (case c3 => exact rfl); (case c4 => exact rfl); (case c5 => decide); k_whole)
  intro g L' h' hg F N B' X' T' lt
  dsimp only [bmap] at F ⊢
  try k_fold
  have N₀ := N
  simp only [Row.cells, Row.dict, rowD, List.cons_append, List.nil_append] at N
  tb_start
  refine wpAny_For ?_
  tb_start
  refine for_list (l := hl) (xs := es.map fun a => Value.ref a.e) (c := c) (fun i m news => news = (hl, W.listOf (es.map fun a => Value.ref a.e).toArray c) :: (q.cells w.params ++ (es.map Ent.cell ++ rs)) ∧ ∃ iv, ∀ y, m y = if y = Str.ofString "other" then iv else if y = Str.ofString "kids" then some kids else if y = Str.ofString "got" then some (.ref q.x) else if y = Str.ofString "held" then some (.ref hl) else none) F N₀ ?_ ?_ ?_ rfl rfl rfl rfl ?_ ?_
  · refine ⟨rfl, none, fun y => ?_⟩
    by_cases hy : y = Str.ofString "other"
    · subst hy; rfl
    · rw [if_neg hy]
  · rintro i m news ⟨rfl, _⟩; exact .head _
  · passes_own
  · rintro i m news h2 tk2 it ito v ⟨rfl, iv, q5⟩ hv F2 N2 hio dis
    clear F N N₀
    obtain ⟨a, ha, rfl⟩ : ∃ a ∈ es, v = .ref a.e := by
      rw [List.getElem?_map] at hv
      cases hg : es[i]? with
      | none => rw [hg] at hv; cases hv
      | some a => rw [hg] at hv; exact ⟨a, List.mem_of_getElem? hg, (Option.some.inj hv).symm⟩
    have F₄ := Mine.Fr.congr F2 (m' := fun y => if y = Str.ofString "other" then some (.ref a.e) else if y = Str.ofString "kids" then some kids else if y = Str.ofString "got" then some (.ref q.x) else if y = Str.ofString "held" then some (.ref hl) else none) (fun y => by
      by_cases hy : y = Str.ofString "other"
      · rw [if_pos hy, if_pos hy]
      · rw [if_neg hy, if_neg hy, q5 y, if_neg hy])
    clear F2
    have hn := hnx a ha
    have hma : (a.e, W.listOf ([.ref a.x, a.kids, .int (a.cnt : Int) a.ct, .ref a.seen] : List Value).toArray a.n) ∈ (it, ito) :: (hl, W.listOf (es.map fun a => Value.ref a.e).toArray c) :: (q.cells w.params ++ (es.map Ent.cell ++ rs)) := .tail _ (.tail _ (List.mem_append_right _ (List.mem_append_left _ (List.mem_map_of_mem ha))))
    have N3 := N2
    simp only [Row.cells, Row.dict, rowD, List.cons_append, List.nil_append] at N2
    tb_start
    refine item_listR (News.isList N3 hma) (by omega) (by omega) (x := .ref a.x) rfl ?_
    tb_start
    obtain ⟨dx, hdx⟩ := hrow a ha
    refine kto_is (N3 (a.x, instObj 152 dx) (.tail _ (.tail _ (List.mem_append_right _ (List.mem_append_right _ hdx))))).1 (N3 (q.x, instObj 152 q.d) (.tail _ (.tail _ (List.mem_append_left _ (.head _))))).1 hn (by intro z; cases z) ?_
    tb_start
    refine ⟨_, _, _, _, ito, rfl, by assumption, N3, hio, dis, rfl, some (.ref a.e), fun y => rfl⟩
  · rintro m news h2 tk2 ⟨rfl, iv, q5⟩ F2 N2
    clear F N N₀
    have F₄ := Mine.Fr.congr F2 q5
    have htail : ∀ p ∈ q.cells w.params ++ (es.map Ent.cell ++ rs), p.1 ≠ hl := fun p hp => by
      rcases List.mem_append.mp hp with hp | hp
      · simp only [Row.cells, List.mem_cons, List.not_mem_nil, or_false] at hp
        rcases hp with rfl | rfl | rfl
        · exact hxl.1
        · exact hxl.2.1
        · exact hxl.2.2
      · rcases List.mem_append.mp hp with hp | hp
        · obtain ⟨a, ha, rfl⟩ := List.mem_map.mp hp
          exact hne a ha
        · exact hrs p hp
    have N3 := N2
    simp only [Row.cells, Row.dict, rowD, List.cons_append, List.nil_append] at N2
    clear F2
    tb_start
    rename Fr _ _ _ _ => F₅
    rename News _ _ _ _ => N₅
    rename Obj.IsDictOf (intKind _ _) _ _ => hdi
    rename (_ == sysModules) = false => hdm
    have z0 := (N₅ _ (.head _)).1
    have z1 := (N₅ _ (.tail _ (.head _))).1
    have z2 := (N₅ _ (.tail _ (.tail _ (.head _)))).1
    have keep : ∀ z ∈ q.cells w.params ++ (es.map Ent.cell ++ rs), _ := fun z hz => (N₅ z (.tail _ (.tail _ (.tail _ hz)))).1
    rename _ < _ ∧ _ < _ ∧ AllLt _ _ => e2
    rename _ < _ ∧ AllLt _ _ => e1
    obtain ⟨e1a, e1b⟩ := e1
    obtain ⟨e2a, e2b, e2c⟩ := e2
    have f1 := tb_ltOf e1b
    have f2 := tb_ltOf e2c
    refine ret ⟨_, _, q.x, kids, 0, _, _⟩ _ (c + 1) _ _ (kp_ro (cells := [(hl, W.listOf (es.map fun a => Value.ref a.e).toArray c)]) (ro := q.cells w.params ++ (es.map Ent.cell ++ rs)) hg F₅ (fun z hz => (C z (.tail _ hz)).1) keep) ?_ z0 z1 hdi hdm ?_ ?_ rfl rfl rfl
    · rw [z2]
      simp [W.listOf]
    · intro z hz
      simp only [List.mem_cons, List.not_mem_nil, or_false] at hz
      rcases hz with rfl | rfl
      · refine fresh_from hg N₅ (.head _) fun q => ?_
        obtain ⟨y, hy, e⟩ := List.mem_map.mp q
        rcases List.mem_cons.mp hy with rfl | hy
        · exact absurd e (Nat.ne_of_lt e2b)
        · exact absurd e (Nat.ne_of_lt (f2 y hy))
      · refine fresh_from hg N₅ (.tail _ (.head _)) fun q => ?_
        obtain ⟨y, hy, e⟩ := List.mem_map.mp q
        rcases List.mem_cons.mp hy with rfl | hy
        · exact absurd e (Nat.ne_of_lt e1a)
        · exact absurd e (Nat.ne_of_lt (f1 y hy))
    · exact Nat.ne_of_gt e2a
end Mine
end

section
theorem Mine.quietTold : True := by
  w_top off
  trivial
open PySem PySem.W PySem.Spec PySem.Calls PyProof.Rows
set_option Elab.async false
set_option maxRecDepth 100000
set_option maxHeartbeats 8000000
namespace Mine
theorem item_nat {prog : Program} {w : World} {A : Around} {E : Value → Shared → Prop} {s : Shared} {g : Heap} {L : Addr} {news : List (Addr × Obj)} {value slice : PySem.Expr} {a : Addr} {xs : List Value} {c k : Nat} {i : Int} {u : Tok} {x : Value} {Q : Value → Shared → Prop}
    (N : News g L s.heap news) (hm : (a, W.listOf xs.toArray c) ∈ news) (hi : i = (k : Int)) (hx : xs[k]? = some x) (hk : k < 2 ^ 62) (h : Q x s)
    (hs : subscripted slice false (.ref a) (.int i u) = operate [.ref a, .int i u] (getItem (.ref a) (.int i u)) := by with_unfolding_all rfl) :
    wpAny (model prog w) A (subscriptTail value slice (.ref a) (.int i u)) Q E s :=
  item_listR (News.isList N hm) (by omega) (by omega) (x := x) (by rw [hi]; simpa using hx) h hs
theorem pickO {g : Heap} {L : Addr} {h : Heap} {a b : Addr} {o o2 : Obj} {news : List (Addr × Obj)} (_ : News g L h ((a, o) :: (b, o2) :: news)) : ∃ y, y = o2 := ⟨o2, rfl⟩
theorem filled19 (w : World) (h : Heap) (X : (Mine.hd.heap_39 w.params).In h) : Challenge.rw_sx0040_01 = Challenge.rw_sx0040_01 := by
  revert X; k_fill; intro _; rfl
local macro_rules | `(tactic| tb_start) => `(tactic| repeat' ((fail_if_success (with_reducible show wpAny _ _ (call (Value.ref 233) _) _ _ _)); (fail_if_success (with_reducible show wpAny _ _ (exec (Stmt.While _ _ _ _) _) _ _ _)); (fail_if_success (with_reducible show wpAny _ _ (exec (Stmt.For _ _ _ _ _) _) _ _ _)); (fail_if_success (with_reducible show wpAny _ _ (pyIter _) _ _ _)); first | (k_unfold; (try dsimp only)) | (k_end; wrow_close) | walk1 | (dsimp only; walk1) | (leave1; walk_say "STEP leave1"; try dsimp only) | fail "no step"))
local macro_rules | `(tactic| walk_at "idle line") => `(tactic| skip)
local macro_rules | `(tactic| walk_at "idle line") => `(tactic| skip)
local macro_rules | `(tactic| walk_at "idle line") => `(tactic| skip)
local macro_rules | `(tactic| walk_at "idle line") => `(tactic| skip)
local macro_rules | `(tactic| walk_at "idle line") => `(tactic| skip)
local macro_rules | `(tactic| walk_at "idle line") => `(tactic| skip)
local macro_rules | `(tactic| walk_at "idle line") => `(tactic| skip)
local macro_rules | `(tactic| walk_at "idle line") => `(tactic| skip)
local macro_rules | `(tactic| walk_at "idle line") => `(tactic| skip)
local macro_rules | `(tactic| walk_at "idle line") => `(tactic| skip)
local macro_rules | `(tactic| walk_at "idle line") => `(tactic| skip)
local macro_rules | `(tactic| walk_at "idle line") => `(tactic| skip)
local macro_rules | `(tactic| walk_at "idle line") => `(tactic| skip)
local macro_rules | `(tactic| walk_at "idle line") => `(tactic| skip)
local macro_rules | `(tactic| walk_at "idle line") => `(tactic| skip)
local macro_rules | `(tactic| walk_at "idle line") => `(tactic| skip)
local macro_rules | `(tactic| walk_at "idle line") => `(tactic| skip)
local macro_rules | `(tactic| walk_at "idle line") => `(tactic| skip)
local macro_rules | `(tactic| walk_at "subscriptTail") => `(tactic| (k_here; (with_reducible show wpAny _ _ (subscriptTail _ _ (Value.ref _) (Value.int _ _)) _ _ _); k_dflt (first
  | (refine' item_nat ?k1 ?k2 ?k3 ?k4 ?k5 ?_; (case k1 => k_asm); (case k2 => assumption); (case k3 => rfl); (case k4 => assumption); (case k5 => omega); k_whole)
  | (refine' item_nat (k := 0) ?k1 ?k2 ?k3 ?k4 ?k5 ?_; (case k1 => k_asm); (case k2 => assumption); (case k3 => rfl); (case k4 => rfl); (case k5 => omega); k_whole)
  | (refine' item_nat (k := 1) ?k1 ?k2 ?k3 ?k4 ?k5 ?_; (case k1 => k_asm); (case k2 => assumption); (case k3 => rfl); (case k4 => rfl); (case k5 => omega); k_whole)
  | (refine' item_nat (k := 3) ?k1 ?k2 ?k3 ?k4 ?k5 ?_; (case k1 => k_asm); (case k2 => assumption); (case k3 => rfl); (case k4 => rfl); (case k5 => omega); k_whole))))
theorem told_leaf {w : World} {mean : ExcName → Option Value} {mg mb : Str → Option Value} {base : Heap} {l : List Env} {s : Shared} {Q E : Value → Shared → Prop} {hl ka : Addr} {a : Ent} {es : List Ent} {all : List (Addr × Obj)} {c h p n : Nat} {kv : List Value} {b : List UInt8} {th tp t1 t2 : Tok}
  (AM : Amb w mean mg mb base) (B : Below (topA 400 1600 l) base l s.heap) (C : Cells s.heap base l all)
  (hh : (hl, W.listOf (es.map fun a => Value.ref a.e).toArray c) ∈ all) (ha : (es.map fun a => Value.ref a.e)[h]? = some (.ref a.e)) (hma : (a.e, W.listOf ([.ref a.x, .ref ka, .int (a.cnt : Int) a.ct, .ref a.seen] : List Value).toArray a.n) ∈ all)
  (hka : (ka, W.listOf kv.toArray n) ∈ all) (hk : kv[p]? = some (.bytes b.toArray t1)) (hb : h < 65536 ∧ p < 65536)
  (ret : ∀ h' tk', Kp [] s.heap h' → Q (.bool true) {s with heap := h', toks := tk'}) :
  wpAny (model PRG w) (topA 400 1600 l) (call (.ref 240) [.ref hl, .int (h : Int) th, .int (p : Int) tp, .bytes b.toArray t2]) Q E s := by
  obtain ⟨hb1, hb2⟩ := hb
  k_dflt (refine' enterF (rb := [(Str.ofString "got", .bytes b.toArray t2), (Str.ofString "place", .int (p : Int) tp), (Str.ofString "h", .int (h : Int) th), (Str.ofString "held", .ref hl)]) AM B C ?k6 ?k7 ?k8 ?k9 ?kL ?cr ?c2 ?c3 ?c4 ?c5 ?_; (case k6 => k_is); (case k7 => k_is); (case k8 => first | exact Nat.lt_of_sub_eq_succ rfl | exact hdep); (case k9 => first | exact BindsTo.of_eq rfl | exact kp_binds (AM.X.keeps B.stays) (fun _ => rfl)); (case kL => exact locs rfl); (case cr => exact rfl); (case c2 => exact rfl); (case c3 => exact rfl); (case c4 => exact rfl); (case c5 => decide); k_whole)
  intro g L' h' hg F N B' X' T' lt
  dsimp only [bmap] at F ⊢
  try k_fold
  tb_start
  rename Fr _ _ _ _ => F₁
  rename News _ _ _ _ => N₁
  have z := fun k => ret _ k (kp_ro (cells := []) (ro := all) hg F₁ (fun z hz => (C z hz).1) fun z hz => (N₁ z hz).1)
  rw [show (true : Bool) = (b == b) from by simp] at z
  exact z _
theorem told_num {w : World} {mean : ExcName → Option Value} {mg mb : Str → Option Value} {base : Heap} {l : List Env} {s : Shared} {Q E : Value → Shared → Prop} {hl ka : Addr} {a : Ent} {es : List Ent} {all : List (Addr × Obj)} {c h p n v : Nat} {kv : List Value} {th tp t1 t2 : Tok}
  (AM : Amb w mean mg mb base) (B : Below (topA 400 1600 l) base l s.heap) (C : Cells s.heap base l all)
  (hh : (hl, W.listOf (es.map fun a => Value.ref a.e).toArray c) ∈ all) (ha : (es.map fun a => Value.ref a.e)[h]? = some (.ref a.e)) (hma : (a.e, W.listOf ([.ref a.x, .ref ka, .int (a.cnt : Int) a.ct, .ref a.seen] : List Value).toArray a.n) ∈ all)
  (hka : (ka, W.listOf kv.toArray n) ∈ all) (hk : kv[p]? = some (.int (v : Int) t1)) (hb : h < 65536 ∧ p < 65536)
  (ret : ∀ h' tk', Kp [] s.heap h' → Q (.bool true) {s with heap := h', toks := tk'}) :
  wpAny (model PRG w) (topA 400 1600 l) (call (.ref 240) [.ref hl, .int (h : Int) th, .int (p : Int) tp, .int (v : Int) t2]) Q E s := by
  obtain ⟨hb1, hb2⟩ := hb
  k_dflt (refine' enterF (rb := [(Str.ofString "got", .int (v : Int) t2), (Str.ofString "place", .int (p : Int) tp), (Str.ofString "h", .int (h : Int) th), (Str.ofString "held", .ref hl)]) AM B C ?k6 ?k7 ?k8 ?k9 ?kL ?cr ?c2 ?c3 ?c4 ?c5 ?_; (case k6 => k_is); (case k7 => k_is); (case k8 => first | exact Nat.lt_of_sub_eq_succ rfl | exact hdep); (case k9 => first | exact BindsTo.of_eq rfl | exact kp_binds (AM.X.keeps B.stays) (fun _ => rfl)); (case kL => exact locs rfl); (case cr => exact rfl); (case c2 => exact rfl); (case c3 => exact rfl); (case c4 => exact rfl); (case c5 => decide); k_whole)
  intro g L' h' hg F N B' X' T' lt
  dsimp only [bmap] at F ⊢
  try k_fold
  tb_start
  rename Fr _ _ _ _ => F₁
  rename News _ _ _ _ => N₁
  have z := fun k => ret _ k (kp_ro (cells := []) (ro := all) hg F₁ (fun z hz => (C z hz).1) fun z hz => (N₁ z hz).1)
  rw [show (true : Bool) = ((v : Int) == (v : Int)) from by simp] at z
  exact z _
theorem told_old {w : World} {mean : ExcName → Option Value} {mg mb : Str → Option Value} {base : Heap} {l : List Env} {s : Shared} {Q E : Value → Shared → Prop} {hl ka kd : Addr} {a a2 : Ent} {od : Obj} {es : List Ent} {all : List (Addr × Obj)} {c h p n h2 : Nat} {kv : List Value} {kvs : List (Int × Value)} {DD : List (PyData × PyData)} {th tp : Tok}
  (AM : Amb w mean mg mb base) (B : Below (topA 400 1600 l) base l s.heap) (C : Cells s.heap base l all)
  (hh : (hl, W.listOf (es.map fun a => Value.ref a.e).toArray c) ∈ all) (ha : (es.map fun a => Value.ref a.e)[h]? = some (.ref a.e)) (hma : (a.e, W.listOf ([.ref a.x, .ref ka, .int (a.cnt : Int) a.ct, .ref a.seen] : List Value).toArray a.n) ∈ all)
  (hka : (ka, W.listOf kv.toArray n) ∈ all) (hk : kv[p]? = some (.ref kd)) {kdo : Obj} (hkd : (kd, kdo) ∈ all) (hkdc : ∃ xs n, kdo = W.listOf xs n) (hb : h < 65536 ∧ p < 65536 ∧ h2 < 65536)
  (hs1 : (a.seen, od) ∈ all) (hs2 : od.IsDictOf (intKind PRG w) kvs) (hs3 : PyProof.V.FlatPairs PyData.int kvs DD) (hs4 : (a.seen == sysModules) = false) (hs5 : PySem.Spec.lookup (PyData.int p) DD = some (PyData.int h2))
  (ha2 : (es.map fun a => Value.ref a.e)[h2]? = some (.ref a2.e)) (hma2 : (a2.e, W.listOf ([.ref a2.x, a2.kids, .int (a2.cnt : Int) a2.ct, .ref a2.seen] : List Value).toArray a2.n) ∈ all)
  (ret : ∀ h' tk', Kp [] s.heap h' → Q (.bool true) {s with heap := h', toks := tk'}) :
  wpAny (model PRG w) (topA 400 1600 l) (call (.ref 240) [.ref hl, .int (h : Int) th, .int (p : Int) tp, .ref a2.x]) Q E s := by
  obtain ⟨hb1, hb2, hb3⟩ := hb
  obtain ⟨kxs, kn, rfl⟩ := hkdc
  k_dflt (refine' enterF (rb := [(Str.ofString "got", .ref a2.x), (Str.ofString "place", .int (p : Int) tp), (Str.ofString "h", .int (h : Int) th), (Str.ofString "held", .ref hl)]) AM B C ?k6 ?k7 ?k8 ?k9 ?kL ?cr ?c2 ?c3 ?c4 ?c5 ?_; (case k6 => k_is); (case k7 => k_is); (case k8 => first | exact Nat.lt_of_sub_eq_succ rfl | exact hdep); (case k9 => first | exact BindsTo.of_eq rfl | exact kp_binds (AM.X.keeps B.stays) (fun _ => rfl)); (case kL => exact locs rfl); (case cr => exact rfl); (case c2 => exact rfl); (case c3 => exact rfl); (case c4 => exact rfl); (case c5 => decide); k_whole)
  intro g L' h' hg F N B' X' T' lt
  dsimp only [bmap] at F ⊢
  try k_fold
  tb_start
  · rename Fr _ _ _ _ => F₁
    rename News _ _ _ _ => N₁
    exact ret _ _ (kp_ro (cells := []) (ro := all) hg F₁ (fun z hz => (C z hz).1) fun z hz => (N₁ z hz).1)
  · rename (Spec.lookup _ _).isSome = false => hno
    rw [hs5] at hno; cases hno
local macro_rules | `(tactic| walk_at "call builtin:len") => `(tactic| (k_here; (with_reducible show wpAny _ _ (call (Value.builtin _) [Value.ref _]) _ _ _); k_dflt (refine' len_L ?k1 ?k2 ?k3 ?_; (case k1 => k_asm); (case k2 => k_mem); (case k3 => omega); k_whole)))
local macro_rules | `(tactic| k_all) => `(tactic| first | exact List.forall_mem_nil _ | assumption | (refine' List.forall_mem_cons.mpr ⟨?a, ?b⟩; (case a => k_ne); (case b => k_all)))
local macro_rules | `(tactic| walk_at "setItem ref int") => `(tactic| (k_here; k_dflt (refine' setItem_K PyProof.V.same_int (intKind_is _ _ _ _) ?v ?F ?N ?U ?d ?f ?_ ?z; (case F => k_asm); (case N => k_asm); (case U => k_updF); (case d => k_asm); (case f => k_asm); (case z => (rw [sizeLine_eq]; omega)); (case v => k_flat)); intro h' o' F' N' hd' hf'; (try dsimp only at N'); (try k_sweep)))
theorem told_new {w : World} {mean : ExcName → Option Value} {mg mb : Str → Option Value} {base : Heap} {l : List Env} {s : Shared} {Q E : Value → Shared → Prop} {hl ka kd : Addr} {a : Ent} {q : Row} {od kdo : Obj} {es : List Ent} {rs : List (Addr × Obj)} {c h p n : Nat} {kv : List Value} {kvs : List (Int × Value)} {DD : List (PyData × PyData)} {th tp : Tok}
  (AM : Amb w mean mg mb base) (B : Below (topA 400 1600 l) base l s.heap) (C : Cells s.heap base l ((hl, W.listOf (es.map fun a => Value.ref a.e).toArray c) :: (a.seen, od) :: (q.cells w.params ++ (es.map Ent.cell ++ rs)))) (hsz : es.length < 10000)
  (ha : (es.map fun a => Value.ref a.e)[h]? = some (.ref a.e)) (hae : a ∈ es) (hkids : a.kids = .ref ka)
  (hka : (ka, W.listOf kv.toArray n) ∈ rs) (hk : kv[p]? = some (.ref kd)) (hkd : (kd, kdo) ∈ rs) (hkdc : ∃ xs n, kdo = W.listOf xs n) (hb : h < 65536 ∧ p < 65536)
  (hs2 : od.IsDictOf (intKind PRG w) kvs) (hs3 : PyProof.V.FlatPairs PyData.int kvs DD) (hs4 : (a.seen == sysModules) = false) (hs5 : PySem.Spec.lookup (PyData.int p) DD = none)
  (hd1 : ∀ z ∈ q.cells w.params ++ (es.map Ent.cell ++ rs), z.1 ≠ a.seen) (hd2 : ∀ z ∈ q.cells w.params ++ (es.map Ent.cell ++ rs), z.1 ≠ hl) (hd3 : @Ne Nat a.seen hl)
  (hnx : ∀ a ∈ es, @Ne Nat a.x q.x) (hrow : ∀ a ∈ es, ∃ d, (a.x, instObj 152 d) ∈ rs) (hDD : DD.length < 10000)
  (ret : ∀ (b : Ent) od1 od2 tv c' h' tk', Kp [hl, a.seen] s.heap h' → h'.get? hl = some (W.listOf ((es ++ [b]).map fun a => Value.ref a.e).toArray c') → h'.get? b.e = some b.obj → h'.get? a.seen = some od1 → od1.IsDictOf (intKind PRG w) (PySem.stored kvs (p : Int) (.int (es.length : Int) tv)) →
    PyProof.V.FlatPairs PyData.int (PySem.stored kvs (p : Int) (.int (es.length : Int) tv)) (PyProof.V.putD (PyData.int p) (PyData.int (es.length : Int)) DD) → h'.get? b.seen = some od2 → Obj.IsDictOf (intKind PRG w) od2 [] → (b.seen == sysModules) = false →
    (∀ z ∈ [b.e, b.seen], s.heap.get? z = none) → @Ne Nat b.e b.seen → b.x = q.x → b.kids = .ref kd → b.cnt = 0 → Q (.bool true) {s with heap := h', toks := tk'}) :
  wpAny (model PRG w) (topA 400 1600 l) (call (.ref 240) [.ref hl, .int (h : Int) th, .int (p : Int) tp, .ref q.x]) Q E s := by
  obtain ⟨hb1, hb2⟩ := hb
  obtain ⟨kxs, kn, rfl⟩ := hkdc
  have hh : (hl, W.listOf (es.map fun a => Value.ref a.e).toArray c) ∈ (hl, W.listOf (es.map fun a => Value.ref a.e).toArray c) :: (a.seen, od) :: (q.cells w.params ++ (es.map Ent.cell ++ rs)) := .head _
  have hma : (a.e, W.listOf ([.ref a.x, .ref ka, .int (a.cnt : Int) a.ct, .ref a.seen] : List Value).toArray a.n) ∈ (hl, W.listOf (es.map fun a => Value.ref a.e).toArray c) :: (a.seen, od) :: (q.cells w.params ++ (es.map Ent.cell ++ rs)) := by
    rw [← hkids]
    exact .tail _ (.tail _ (List.mem_append_right _ (List.mem_append_left _ (List.mem_map_of_mem (f := Ent.cell) hae))))
  have hka' : (ka, W.listOf kv.toArray n) ∈ (hl, W.listOf (es.map fun a => Value.ref a.e).toArray c) :: (a.seen, od) :: (q.cells w.params ++ (es.map Ent.cell ++ rs)) := .tail _ (.tail _ (List.mem_append_right _ (List.mem_append_right _ hka)))
  have hkd' : (kd, W.listOf kxs kn) ∈ (hl, W.listOf (es.map fun a => Value.ref a.e).toArray c) :: (a.seen, od) :: (q.cells w.params ++ (es.map Ent.cell ++ rs)) := .tail _ (.tail _ (List.mem_append_right _ (List.mem_append_right _ hkd)))
  have hlm : (es.map fun a => Value.ref a.e).length < 2 ^ 62 := by rw [List.length_map]; omega
  k_dflt (refine' enterF (rb := [(Str.ofString "got", .ref q.x), (Str.ofString "place", .int (p : Int) tp), (Str.ofString "h", .int (h : Int) th), (Str.ofString "held", .ref hl)]) AM B C ?k6 ?k7 ?k8 ?k9 ?kL ?cr ?c2 ?c3 ?c4 ?c5 ?_; (case k6 => k_is); (case k7 => k_is); (case k8 => first | exact Nat.lt_of_sub_eq_succ rfl | exact hdep); (case k9 => first | exact BindsTo.of_eq rfl | exact kp_binds (AM.X.keeps B.stays) (fun _ => rfl)); (case kL => exact locs rfl); (case cr => exact rfl); (case c2 => exact rfl); (case c3 => exact rfl); (case c4 => exact rfl); (case c5 => decide); k_whole)
  intro g L' h' hg F N B' X' T' lt
  dsimp only [bmap] at F ⊢
  try k_fold
  tb_start
  all_goals (try (rename (Spec.lookup _ _).isSome = true => hno; rw [hs5] at hno; cases hno))
  rename Fr _ _ _ _ => F₁
  rename News _ _ _ _ => N₁
  obtain ⟨o1, ho1⟩ := pickO N₁
  subst ho1
  rename Obj.IsDictOf _ _ _ => hdn
  rename PyProof.V.FlatPairs _ _ _ => hfn
  rw [List.length_map] at hdn hfn
  refine wk (d := 450) (u := 1800) (Nat.le_of_ble_eq_true rfl) (Nat.le_of_ble_eq_true rfl) ?_
  have hse := N₁ _ (.tail _ (.head _))
  refine fresh_spec (es := es) (rs := (a.seen, o1) :: rs) (c := c) AM (pcall B' F₁ rfl rfl) (cells_n B' F₁ N₁ (fun z hz => ?_) rfl rfl) hsz hnx (fun b hb' => hd2 b.cell (List.mem_append_right _ (List.mem_append_left _ (List.mem_map_of_mem hb')))) (fun b hb' => (hrow b hb').imp fun _ hz => .tail _ hz) (fun z hz => ?_) ⟨hd2 (q.x, instObj 152 q.d) (List.mem_append_left _ (.head _)), hd2 (q.d, q.dict w.params) (List.mem_append_left _ (.tail _ (.head _))), hd2 (q.el, _) (List.mem_append_left _ (.tail _ (.tail _ (.head _))))⟩ fun b od2 c' h3 tk3 k1 k2 k3 k4 k5 k6 k7 k8 k9 k10 k11 => ?_
  · rcases List.mem_cons.mp hz with rfl | hz
    · exact .head _
    · rcases List.mem_append.mp hz with hz | hz
      · exact .tail _ (.tail _ (List.mem_append_left _ hz))
      · rcases List.mem_append.mp hz with hz | hz
        · exact .tail _ (.tail _ (List.mem_append_right _ (List.mem_append_left _ hz)))
        · rcases List.mem_cons.mp hz with rfl | hz
          · exact .tail _ (.head _)
          · exact .tail _ (.tail _ (List.mem_append_right _ (List.mem_append_right _ hz)))
  · rcases List.mem_cons.mp hz with rfl | hz
    · exact hd3
    · exact hd2 z (List.mem_append_right _ (List.mem_append_right _ hz))
  · have kp : Kp [hl, a.seen] s.heap _ := kp_ro (cells := [(hl, W.listOf (es.map fun a => Value.ref a.e).toArray c), (a.seen, od)]) (ro := q.cells w.params ++ (es.map Ent.cell ++ rs)) hg F₁ (fun z hz => (C z (.tail _ (.tail _ hz))).1) fun z hz => (N₁ z (.tail _ (.tail _ hz))).1
    refine ret b _ od2 _ c' h3 _ (kp.trans (k1.mono fun z hz => by obtain rfl := List.mem_singleton.mp hz; exact .head _)) k2 k3 (k1 _ _ (fun z => hd3 (List.mem_singleton.mp z)) hse.1) hdn hfn k4 k5 k6 (fun z hz => ?_) k8 k9 k10 k11
    cases e : s.heap.get? z with
    | none => rfl
    | some o =>
      exfalso
      have h7 := k7 z hz
      by_cases m : z ∈ [hl, a.seen]
      · simp only [List.mem_cons, List.not_mem_nil, or_false] at m
        rcases m with rfl | rfl
        · have := (N₁ _ (.head _)).1
          dsimp only at this h7
          rw [h7] at this; cases this
        · have := hse.1
          dsimp only at this h7
          rw [h7] at this; cases this
      · have := kp z o m e
        dsimp only at this h7
        rw [h7] at this; cases this
end Mine
end

section
theorem Mine.quietState : True := by
  w_top off
  trivial
open PySem PySem.W PySem.Spec PySem.Calls PyProof.Rows
set_option Elab.async false
set_option maxRecDepth 100000
set_option maxHeartbeats 8000000
namespace Mine
/-- a row that the law holds -/
structure Item where
  a : Ent
  r : Row
  od : Obj
  kvs : List (Int × Value)
  DD : List (PyData × PyData)
def Item.cells (P : Params) (i : Item) : List (Addr × Obj) := i.r.cells P ++ [i.a.cell, (i.a.seen, i.od)]
/-- a row that was read within another, and not told yet -/
structure Un where
  i : Nat
  p : Nat
  q : Row
structure Sta where
  hl : Addr
  c : Nat
  its : List Item
  us : List Un
def Sta.held (S : Sta) : Addr × Obj := (S.hl, W.listOf (S.its.map fun i => Value.ref i.a.e).toArray S.c)
def Sta.led (P : Params) (S : Sta) : List (Addr × Obj) := S.held :: (S.its.flatMap (Item.cells P) ++ S.us.flatMap fun u => u.q.cells P)
/-- the law's own kids of a row -/
inductive RepK (fx : List (Addr × Obj)) : Tr → Value → Prop
  | leaf {b : List UInt8} {t : Tok} : RepK fx (.leaf b) (.bytes b.toArray t)
  | num {n : Nat} {t : Tok} : RepK fx (.num n) (.int (n : Int) t)
  | node {ts : List Tr} {v : Value} : Rep fx (.node ts) v → RepK fx (.node ts) v
def KV (fx : List (Addr × Obj)) (kids : List Tr) (v : Value) : Prop :=
  ∃ (ka : Addr) (kv : List Value) (n : Nat), v = .ref ka ∧ (ka, W.listOf kv.toArray n) ∈ fx ∧ kv.length = kids.length ∧ ∀ (p : Nat) t v, kids[p]? = some t → kv[p]? = some v → RepK fx t v
/-- what stands at a read place -/
def Place (S : Sta) (k p : Nat) (DD : List (PyData × PyData)) : Tr → Value → Prop
  | .leaf b, v => ∃ t, v = .bytes b.toArray t
  | .num n, v => ∃ t, v = .int (n : Int) t
  | .node ts, v => (∃ (j : Nat) (ij : Item), PySem.Spec.lookup (PyData.int p) DD = some (PyData.int j) ∧ S.its[j]? = some ij ∧ v = .ref ij.r.x) ∨
      (PySem.Spec.lookup (PyData.int p) DD = none ∧ ∃ u ∈ S.us, u.i = k ∧ u.p = p ∧ v = .ref u.q.x ∧ u.q.Ok ∧ u.q.kids = ts ∧ u.q.els = [] ∧ u.q.len = false ∧ u.q.sed = none)
structure ItemOk (w : World) (fx : List (Addr × Obj)) (S : Sta) (k : Nat) (i : Item) : Prop where
  x : i.a.x = i.r.x
  ok : i.r.Ok
  ty : ∃ ro, Typed w.params i.r ro ∧ (∀ z ∈ ro, z ∈ fx) ∧ (ro.map (·.1)).Nodup
  kids : KV fx i.r.kids i.a.kids
  small : i.r.kids.length < 65535
  pl : i.r.sed = none → ∀ t ∈ i.r.kids, t.plain
  dds : i.DD.length ≤ S.its.length
  dict : i.od.IsDictOf (intKind PRG w) i.kvs
  flat : PyProof.V.FlatPairs PyData.int i.kvs i.DD
  mods : (i.a.seen == sysModules) = false
  els : ∀ (p : Nat) v, i.r.els[p]? = some v → ∃ t, i.r.kids[p]? = some t ∧ Place S k p i.DD t v
  lk : ∀ p : Nat, i.r.els.length ≤ p → PySem.Spec.lookup (PyData.int p) i.DD = none
  tn : ∀ (p : Nat) x, PySem.Spec.lookup (PyData.int p) i.DD = some x → ∃ ts, i.r.kids[p]? = some (.node ts)
  keys : ∀ kv ∈ i.kvs, ∃ p : Nat, kv.1 = (p : Int) ∧ p < i.r.els.length
structure Inv (w : World) (fx : List (Addr × Obj)) (S : Sta) : Prop where
  nd : ((fx ++ S.led w.params).map (·.1)).Nodup
  it : ∀ (k : Nat) i, S.its[k]? = some i → ItemOk w fx S k i
theorem flatMap_set {α β : Type} (f : α → List β) : ∀ {l : List α} {k : Nat} {a : α}, l[k]? = some a → ∃ B, (l.flatMap f).Perm (f a ++ B) ∧ ∀ a', ((l.set k a').flatMap f).Perm (f a' ++ B)
  | [], k, a, h => by simp at h
  | x :: r, 0, a, h => by
    obtain rfl : x = a := by simpa using h
    exact ⟨r.flatMap f, by simp, fun a' => by simp⟩
  | x :: r, k + 1, a, h => by
    obtain ⟨B, h1, h2⟩ := flatMap_set f (l := r) (k := k) (a := a) (by simpa using h)
    have sw : ∀ (u v : List β), (f x ++ (u ++ v)).Perm (u ++ (f x ++ v)) := fun u v => by
      rw [← List.append_assoc, ← List.append_assoc]
      exact List.perm_append_comm.append_right v
    refine ⟨f x ++ B, ?_, fun a' => ?_⟩
    · rw [List.flatMap_cons]
      exact (h1.append_left (f x)).trans (sw _ _)
    · rw [List.set_cons_succ, List.flatMap_cons]
      exact ((h2 a').append_left (f x)).trans (sw _ _)
/-- the new rows of a reading -/
theorem newU {P : Params} {ts : List Tr} {vs : List Value} {nws : List (Addr × Obj)} (h : Kids P ts vs nws) (k off : Nat) : ∃ us : List Un, nws = us.flatMap (fun u => u.q.cells P) ∧ (∀ u ∈ us, u.i = k) ∧
    ∀ (j : Nat) t v, ts[j]? = some t → vs[j]? = some v → match t with
      | .leaf b => ∃ t, v = .bytes b.toArray t
      | .num n => ∃ t, v = .int (n : Int) t
      | .node ks => ∃ u ∈ us, u.i = k ∧ u.p = off + j ∧ v = .ref u.q.x ∧ u.q.Ok ∧ u.q.kids = ks ∧ u.q.els = [] ∧ u.q.len = false ∧ u.q.sed = none := by
  induction h with
  | nil => exact ⟨[], rfl, (fun _ h => nomatch h), fun j t v h => by simp at h⟩
  | @snoc ts vs nws t v nw hk hK ih =>
    obtain ⟨us, e1, e2, e3⟩ := ih
    have old : ∀ (us' : List Un), (∀ u ∈ us, u ∈ us') → ∀ (j : Nat) t' v', ts[j]? = some t' → vs[j]? = some v' → match t' with
      | .leaf b => ∃ t, v' = .bytes b.toArray t
      | .num n => ∃ t, v' = .int (n : Int) t
      | .node ks => ∃ u ∈ us', u.i = k ∧ u.p = off + j ∧ v' = .ref u.q.x ∧ u.q.Ok ∧ u.q.kids = ks ∧ u.q.els = [] ∧ u.q.len = false ∧ u.q.sed = none := by
      intro us' hs j t' v' h1 h2
      have := e3 j t' v' h1 h2
      cases t' with
      | leaf b => exact this
      | num n => exact this
      | node ks =>
        obtain ⟨u, hu, r⟩ := this
        exact ⟨u, hs u hu, r⟩
    have split : ∀ (j : Nat) t' v', (ts ++ [t])[j]? = some t' → (vs ++ [v])[j]? = some v' → (ts[j]? = some t' ∧ vs[j]? = some v') ∨ (j = ts.length ∧ t' = t ∧ v' = v) := by
      intro j t' v' h1 h2
      have hl := hk.len
      rcases Nat.lt_trichotomy j ts.length with q | q | q
      · rw [List.getElem?_append_left q] at h1
        rw [List.getElem?_append_left (by omega)] at h2
        exact .inl ⟨h1, h2⟩
      · rw [List.getElem?_append_right (by omega), q, Nat.sub_self] at h1
        rw [List.getElem?_append_right (by omega), q, hl, Nat.sub_self] at h2
        exact .inr ⟨q, by simpa using h1.symm, by simpa using h2.symm⟩
      · rw [List.getElem?_eq_none (by simp; omega)] at h1; cases h1
    cases t with
    | leaf b =>
      obtain ⟨hv, rfl⟩ := hK
      refine ⟨us, by rw [e1]; rfl, e2, fun j t' v' h1 h2 => ?_⟩
      rcases split j t' v' h1 h2 with ⟨a, b⟩ | ⟨a, rfl, rfl⟩
      · exact old us (fun _ h => h) j t' v' a b
      · exact hv
    | num n =>
      obtain ⟨hv, rfl⟩ := hK
      refine ⟨us, by rw [e1]; rfl, e2, fun j t' v' h1 h2 => ?_⟩
      rcases split j t' v' h1 h2 with ⟨a, b⟩ | ⟨a, rfl, rfl⟩
      · exact old us (fun _ h => h) j t' v' a b
      · exact hv
    | node ks =>
      obtain ⟨q, rfl, rfl, q1, q2, q3, q4, q5, q6⟩ := hK
      refine ⟨⟨k, off + ts.length, q⟩ :: us, by rw [List.flatMap_cons, e1], ?_, fun j t' v' h1 h2 => ?_⟩
      · intro u hu
        rcases List.mem_cons.mp hu with rfl | hu
        · rfl
        · exact e2 u hu
      · rcases split j t' v' h1 h2 with ⟨a, b⟩ | ⟨rfl, rfl, rfl⟩
        · exact old _ (fun _ h => .tail _ h) j t' v' a b
        · exact ⟨_, .head _, rfl, rfl, rfl, q2, q3, q4, q5, q6⟩
end Mine
end

section
theorem Mine.quietState2 : True := by
  w_top off
  trivial
open PySem PySem.W PySem.Spec PySem.Calls PyProof.Rows
set_option Elab.async false
set_option maxRecDepth 100000
set_option maxHeartbeats 8000000
namespace Mine
theorem pm1 {α : Type} (h : α) (A X R B C D : List α) : (h :: ((A ++ ((X ++ R) ++ B)) ++ (C ++ D))).Perm (X ++ (D ++ (h :: (A ++ (B ++ (R ++ C)))))) := by
  classical
  refine List.perm_iff_count.mpr fun x => ?_
  simp only [List.count_cons, List.count_append]
  omega
/-- all of the state but the cells of one row -/
def Sta.oth (P : Params) (S : Sta) (k : Nat) (i : Item) : List (Addr × Obj) := S.held :: ((S.its.take k).flatMap (Item.cells P) ++ ((S.its.drop (k + 1)).flatMap (Item.cells P) ++ ([i.a.cell, (i.a.seen, i.od)] ++ S.us.flatMap fun u => u.q.cells P)))
theorem its_split {S : Sta} {k : Nat} {i : Item} (h : S.its[k]? = some i) : S.its = S.its.take k ++ i :: S.its.drop (k + 1) := by
  have hlt : k < S.its.length := by
    rcases Nat.lt_or_ge k S.its.length with q | q
    · exact q
    · rw [List.getElem?_eq_none q] at h; cases h
  have := List.take_append_drop k S.its
  rw [List.drop_eq_getElem_cons hlt] at this
  rw [List.getElem?_eq_getElem hlt] at h
  rw [Option.some.inj h] at this
  exact this.symm
theorem led_perm {P : Params} {S : Sta} {k : Nat} {i : Item} (h : S.its[k]? = some i) : (S.led P).Perm (i.r.cells P ++ S.oth P k i) := by
  have e : S.its.flatMap (Item.cells P) = (S.its.take k).flatMap (Item.cells P) ++ ((i.r.cells P ++ [i.a.cell, (i.a.seen, i.od)]) ++ (S.its.drop (k + 1)).flatMap (Item.cells P)) := by
    conv => lhs; rw [its_split h]
    rw [List.flatMap_append, List.flatMap_cons]; rfl
  unfold Sta.led Sta.oth
  rw [e]
  have := pm1 S.held ((S.its.take k).flatMap (Item.cells P)) (i.r.cells P) [i.a.cell, (i.a.seen, i.od)] ((S.its.drop (k + 1)).flatMap (Item.cells P)) (S.us.flatMap fun u => u.q.cells P) []
  simpa using this
/-- a row read on -/
def Sta.read (S : Sta) (k : Nat) (i : Item) (r' : Row) (nu : List Un) : Sta := { S with its := S.its.set k { i with r := r' }, us := S.us ++ nu }
theorem led_read {P : Params} {S : Sta} {k : Nat} {i : Item} {r' : Row} {nu : List Un} (h : S.its[k]? = some i) : ((S.read k i r' nu).led P).Perm (r'.cells P ++ ((nu.flatMap fun u => u.q.cells P) ++ S.oth P k i)) := by
  have hlt : k < S.its.length := by
    rcases Nat.lt_or_ge k S.its.length with q | q
    · exact q
    · rw [List.getElem?_eq_none q] at h; cases h
  have e : (S.its.set k { i with r := r' }).flatMap (Item.cells P) = (S.its.take k).flatMap (Item.cells P) ++ ((r'.cells P ++ [i.a.cell, (i.a.seen, i.od)]) ++ (S.its.drop (k + 1)).flatMap (Item.cells P)) := by
    rw [List.set_eq_take_append_cons_drop, if_pos hlt, List.flatMap_append, List.flatMap_cons]; rfl
  have eh : (S.read k i r' nu).held = S.held := by
    unfold Sta.held Sta.read
    dsimp only
    have : ((S.its.set k { i with r := r' }).map fun i => Value.ref i.a.e) = S.its.map fun i => Value.ref i.a.e := by
      rw [List.map_set]
      refine List.ext_getElem? fun n => ?_
      by_cases q : n = k
      · subst q
        rw [List.getElem?_set_self (by simpa using hlt), List.getElem?_map, h]; rfl
      · rw [List.getElem?_set_ne (Ne.symm q)]
    rw [this]
  unfold Sta.led Sta.oth
  rw [eh]
  show (S.held :: ((S.its.set k { i with r := r' }).flatMap (Item.cells P) ++ (S.us ++ nu).flatMap fun u => u.q.cells P)).Perm _
  rw [e, List.flatMap_append]
  exact pm1 S.held ((S.its.take k).flatMap (Item.cells P)) (r'.cells P) [i.a.cell, (i.a.seen, i.od)] ((S.its.drop (k + 1)).flatMap (Item.cells P)) (S.us.flatMap fun u => u.q.cells P) (nu.flatMap fun u => u.q.cells P)
end Mine
end

section
theorem Mine.quietState3 : True := by
  w_top off
  trivial
open PySem PySem.W PySem.Spec PySem.Calls PyProof.Rows
set_option Elab.async false
set_option maxRecDepth 100000
set_option maxHeartbeats 8000000
namespace Mine
structure LawSt (w : World) (fx tmp : List (Addr × Obj)) (base : Heap) (L : Addr) (m : Str → Option Value) (S : Sta) (h : Heap) : Prop where
  F : Fr base L h m
  N : News base L h (tmp ++ (fx ++ S.led w.params))
  I : Inv w fx S
  dis : ∀ z ∈ tmp, ∀ y ∈ fx ++ S.led w.params, z.1 ≠ y.1
theorem nodup_ins {α : Type} {A X O W : List α} (h : (A ++ (X ++ O)).Nodup) (hw : W.Nodup) (d : ∀ w ∈ W, w ∉ A ++ (X ++ O)) : (A ++ (X ++ (W ++ O))).Nodup := by
  have pm : (A ++ (X ++ (W ++ O))).Perm (W ++ (A ++ (X ++ O))) := by
    classical
    refine List.perm_iff_count.mpr fun x => ?_
    simp only [List.count_append]
    omega
  refine pm.nodup_iff.mpr (List.nodup_append.mpr ⟨hw, h, fun a ha b hb e => d a ha (e ▸ hb)⟩)
theorem its_read {S : Sta} {k : Nat} {i : Item} {r' : Row} {nu : List Un} (h : S.its[k]? = some i) (j : Nat) : (S.read k i r' nu).its[j]? = if j = k then some { i with r := r' } else S.its[j]? := by
  have hlt : k < S.its.length := by
    rcases Nat.lt_or_ge k S.its.length with q | q
    · exact q
    · rw [List.getElem?_eq_none q] at h; cases h
  show (S.its.set k { i with r := r' })[j]? = _
  by_cases q : j = k
  · subst q; rw [if_pos rfl, List.getElem?_set_self hlt]
  · rw [if_neg q, List.getElem?_set_ne (Ne.symm q)]
theorem Place.read {S : Sta} {k : Nat} {i : Item} {r' : Row} {nu : List Un} (h : S.its[k]? = some i) (hx : r'.x = i.r.x) {k2 p : Nat} {DD : List (PyData × PyData)} {t : Tr} {v : Value} (P : Place S k2 p DD t v) : Place (S.read k i r' nu) k2 p DD t v := by
  cases t with
  | leaf b => exact P
  | num n => exact P
  | node ts =>
    rcases P with ⟨j, ij, h1, h2, h3⟩ | ⟨h1, u, hu, r⟩
    · refine .inl ⟨j, if j = k then { i with r := r' } else ij, h1, ?_, ?_⟩
      · rw [its_read h]
        by_cases q : j = k
        · rw [if_pos q, if_pos q]
        · rw [if_neg q, if_neg q]; exact h2
      · by_cases q : j = k
        · rw [if_pos q]
          subst q
          rw [h] at h2
          cases h2
          rw [h3]; show Value.ref i.r.x = Value.ref r'.x
          rw [hx]
        · rw [if_neg q]; exact h3
    · exact .inr ⟨h1, u, List.mem_append_left _ hu, r⟩
theorem LawSt.read {w : World} {fx tmp : List (Addr × Obj)} {base : Heap} {L : Addr} {m : Str → Option Value} {S : Sta} {h h' : Heap} {k : Nat} {i : Item} {r' : Row} {nws : List (Addr × Obj)}
    (St : LawSt w fx tmp base L m S h) (hi : S.its[k]? = some i) (R : Rd w.params i.r r' h nws) (F' : Fr base L h' m) (H : ∀ z ∈ r'.cells w.params ++ nws, h'.get? z.1 = some z.2)
    (O : ∀ z ∈ tmp ++ (fx ++ S.oth w.params k i), h'.get? z.1 = some z.2) : ∃ nu, LawSt w fx tmp base L m (S.read k i r' nu) h' := by
  obtain ⟨⟨s1, s2, s3, s4, s5, s6, s7, s8⟩, rok, ⟨vs, els, kk⟩, fr, ndn⟩ := R
  obtain ⟨nu, e1, e2, e3⟩ := newU kk k i.r.els.length
  have hperm := led_perm (P := w.params) hi
  have hperm' : ((S.read k i r' nu).led w.params).Perm (r'.cells w.params ++ (nws ++ S.oth w.params k i)) := by rw [e1]; exact led_read hi
  have hmap : (r'.cells w.params).map (·.1) = (i.r.cells w.params).map (·.1) := by rw [cells_map, cells_map, s1, s2, s3]
  obtain ⟨oL, _, _, hL, _⟩ := St.F.ns
  have inh : ∀ y ∈ tmp ++ (fx ++ S.led w.params), ∃ o, h.get? y.1 = some o := fun y hy => ⟨_, (St.N y hy).1⟩
  have rcell : ∀ z ∈ r'.cells w.params, ∃ y ∈ i.r.cells w.params, y.1 = z.1 := fun z hz => by
    have : z.1 ∈ (i.r.cells w.params).map (·.1) := hmap ▸ List.mem_map_of_mem hz
    obtain ⟨y, hy, e⟩ := List.mem_map.mp this
    exact ⟨y, hy, e⟩
  have inled : ∀ y ∈ i.r.cells w.params, y ∈ S.led w.params := fun y hy => hperm.mem_iff.mpr (List.mem_append_left _ hy)
  have inoth : ∀ y ∈ S.oth w.params k i, y ∈ S.led w.params := fun y hy => hperm.mem_iff.mpr (List.mem_append_right _ hy)
  refine ⟨nu, F', fun z hz => ?_, ⟨?_, fun k2 i2 h2 => ?_⟩, fun z hz y hy e => ?_⟩
  · rcases List.mem_append.mp hz with hz | hz
    · exact ⟨O z (List.mem_append_left _ hz), (St.N z (List.mem_append_left _ hz)).2⟩
    · rcases List.mem_append.mp hz with hz | hz
      · exact ⟨O z (List.mem_append_right _ (List.mem_append_left _ hz)), (St.N z (List.mem_append_right _ (List.mem_append_left _ hz))).2⟩
      · rcases List.mem_append.mp (hperm'.mem_iff.mp hz) with hz | hz
        · obtain ⟨y, hy, e⟩ := rcell z hz
          have := St.N y (List.mem_append_right _ (List.mem_append_right _ (inled y hy)))
          exact ⟨H z (List.mem_append_left _ hz), e ▸ this.2⟩
        · rcases List.mem_append.mp hz with hz | hz
          · have hn := fr z hz
            refine ⟨H z (List.mem_append_right _ hz), fun q => ?_, kts_none St.F.keep hn⟩
            have q' : z.1 = L := q
            rw [q', hL] at hn; cases hn
          · exact ⟨O z (List.mem_append_right _ (List.mem_append_right _ hz)), (St.N z (List.mem_append_right _ (List.mem_append_right _ (inoth z hz)))).2⟩
  · have old : ((fx ++ (i.r.cells w.params ++ S.oth w.params k i)).map (·.1)).Nodup := ((hperm.append_left fx).map _).nodup_iff.mp St.I.nd
    refine ((hperm'.append_left fx).map _).nodup_iff.mpr ?_
    simp only [List.map_append] at old ⊢
    rw [hmap]
    refine nodup_ins old ndn fun a ha q => ?_
    obtain ⟨z, hz, rfl⟩ := List.mem_map.mp ha
    have hn := fr z hz
    have : ∃ y ∈ tmp ++ (fx ++ S.led w.params), y.1 = z.1 := by
      rcases List.mem_append.mp q with q | q
      · obtain ⟨y, hy, e⟩ := List.mem_map.mp q
        exact ⟨y, List.mem_append_right _ (List.mem_append_left _ hy), e⟩
      · rcases List.mem_append.mp q with q | q
        · obtain ⟨y, hy, e⟩ := List.mem_map.mp q
          exact ⟨y, List.mem_append_right _ (List.mem_append_right _ (inled y hy)), e⟩
        · obtain ⟨y, hy, e⟩ := List.mem_map.mp q
          exact ⟨y, List.mem_append_right _ (List.mem_append_right _ (inoth y hy)), e⟩
    obtain ⟨y, hy, e⟩ := this
    obtain ⟨o, ho⟩ := inh y hy
    rw [e, hn] at ho; cases ho
  · rw [its_read hi] at h2
    by_cases q : k2 = k
    · rw [if_pos q] at h2
      subst q
      cases h2
      have io := St.I.it k2 i hi
      obtain ⟨ro, ty1, ty2⟩ := io.ty
      refine ⟨io.x.trans s1.symm, rok, ⟨ro, ?_, ty2⟩, by show KV fx r'.kids _; rw [s6]; exact io.kids, by show r'.kids.length < _; rw [s6]; exact io.small, by show r'.sed = none → ∀ t ∈ r'.kids, t.plain; rw [s6, s8]; exact io.pl, by show _ ≤ (S.its.set _ _).length; rw [List.length_set]; exact io.dds, io.dict, io.flat, io.mods, fun p v hv => ?_, fun p hp => io.lk p ?_, (fun p x hx => by show ∃ ts, r'.kids[p]? = _; rw [s6]; exact io.tn p x hx), fun kv hkv => ?_⟩
      · unfold Typed at ty1 ⊢
        dsimp only
        rw [s4, s6, s8]; exact ty1
      · have hv' : (i.r.els ++ vs)[p]? = some v := by rw [← els]; exact hv
        by_cases hp : p < i.r.els.length
        · rw [List.getElem?_append_left hp] at hv'
          obtain ⟨t, h1, h2⟩ := io.els p v hv'
          exact ⟨t, by show r'.kids[p]? = _; rw [s6]; exact h1, h2.read hi s1⟩
        · rw [List.getElem?_append_right (by omega)] at hv'
          have hlen := kk.len
          have hj : p - i.r.els.length < vs.length := by
            rcases Nat.lt_or_ge (p - i.r.els.length) vs.length with q | q
            · exact q
            · rw [List.getElem?_eq_none q] at hv'; cases hv'
          obtain ⟨t, ht⟩ : ∃ t, ((i.r.kids.drop i.r.els.length).take vs.length)[p - i.r.els.length]? = some t := ⟨_, List.getElem?_eq_getElem (by omega)⟩
          have hk : i.r.kids[p]? = some t := by
            rw [List.getElem?_take, if_pos hj, List.getElem?_drop, show i.r.els.length + (p - i.r.els.length) = p from by omega] at ht
            exact ht
          refine ⟨t, by show r'.kids[p]? = _; rw [s6]; exact hk, ?_⟩
          have z := e3 _ t v ht hv'
          cases t with
          | leaf b => exact z
          | num n => exact z
          | node ks =>
            obtain ⟨u, hu, u1, u2, u3⟩ := z
            exact .inr ⟨io.lk p (by omega), u, List.mem_append_right _ hu, u1, by omega, u3⟩
      · have hp' : r'.els.length ≤ p := hp
        rw [els, List.length_append] at hp'
        omega
      · obtain ⟨p, h1, h2⟩ := io.keys kv hkv
        refine ⟨p, h1, ?_⟩
        show p < r'.els.length
        rw [els, List.length_append]; omega
    · rw [if_neg q] at h2
      have io := St.I.it k2 i2 h2
      exact ⟨io.x, io.ok, io.ty, io.kids, io.small, io.pl, by show _ ≤ (S.its.set _ _).length; rw [List.length_set]; exact io.dds, io.dict, io.flat, io.mods, fun p v hv => (io.els p v hv).imp fun t ⟨h1, h2⟩ => ⟨h1, h2.read hi s1⟩, io.lk, io.tn, io.keys⟩
  · rcases List.mem_append.mp hy with hy | hy
    · exact St.dis z hz y (List.mem_append_left _ hy) e
    · rcases List.mem_append.mp (hperm'.mem_iff.mp hy) with hy | hy
      · obtain ⟨y2, hy2, e2⟩ := rcell y hy
        exact St.dis z hz y2 (List.mem_append_right _ (inled y2 hy2)) (e.trans e2.symm)
      · rcases List.mem_append.mp hy with hy | hy
        · have hn := fr y hy
          obtain ⟨o, ho⟩ := inh z (List.mem_append_left _ hz)
          rw [e, hn] at ho; cases ho
        · exact St.dis z hz y (List.mem_append_right _ (inoth y hy)) e
end Mine
end

section
theorem Mine.quietState4 : True := by
  w_top off
  trivial
open PySem PySem.W PySem.Spec PySem.Calls PyProof.Rows
set_option Elab.async false
set_option maxRecDepth 100000
set_option maxHeartbeats 8000000
namespace Mine
section
variable {w : World} {mean : ExcName → Option Value} {mg mb : Str → Option Value} {fx tmp : List (Addr × Obj)} {base : Heap} {L : Addr} {m : Str → Option Value} {S : Sta} {k : Nat} {i : Item}
theorem LawSt.apart {h : Heap} (St : LawSt w fx tmp base L m S h) (hi : S.its[k]? = some i) : ∀ z ∈ tmp ++ (fx ++ S.oth w.params k i), z ∈ tmp ++ (fx ++ S.led w.params) ∧ z.1 ∉ (i.r.cells w.params).map (·.1) := by
  have hperm := led_perm (P := w.params) hi
  have nd : ((fx ++ (i.r.cells w.params ++ S.oth w.params k i)).map (·.1)).Nodup := ((hperm.append_left fx).map _).nodup_iff.mp St.I.nd
  simp only [List.map_append] at nd
  intro z hz
  rcases List.mem_append.mp hz with hz | hz
  · refine ⟨List.mem_append_left _ hz, fun q => ?_⟩
    obtain ⟨y, hy, e⟩ := List.mem_map.mp q
    exact St.dis z hz y (List.mem_append_right _ (hperm.mem_iff.mpr (List.mem_append_left _ hy))) e.symm
  · rcases List.mem_append.mp hz with hz | hz
    · exact ⟨List.mem_append_right _ (List.mem_append_left _ hz), fun q => (List.nodup_append.mp nd).2.2 _ (List.mem_map_of_mem hz) _ (List.mem_append_left _ q) rfl⟩
    · exact ⟨List.mem_append_right _ (List.mem_append_right _ (hperm.mem_iff.mpr (List.mem_append_right _ hz))), fun q => (List.nodup_append.mp (List.nodup_append.mp nd).2.1).2.2 _ q _ (List.mem_map_of_mem hz) rfl⟩
theorem LawSt.kp {h h' : Heap} (St : LawSt w fx tmp base L m S h) (hi : S.its[k]? = some i) (K : Kp [i.r.x, i.r.d, i.r.el] h h') : Fr base L h' m ∧ ∀ z ∈ tmp ++ (fx ++ S.oth w.params k i), h'.get? z.1 = some z.2 := by
  have hperm := led_perm (P := w.params) hi
  have ac := after_call (cells := i.r.cells w.params) (out := []) (rest := tmp ++ (fx ++ S.oth w.params k i)) St.F St.N (fun p hp => List.mem_append_right _ (List.mem_append_right _ (hperm.mem_iff.mpr (List.mem_append_left _ hp)))) K (fun _ hp => nomatch hp) (St.apart hi)
  exact ⟨ac.1, fun z hz => (ac.2 z hz).1⟩
theorem LawSt.cells {h : Heap} {A : Around} {env : Env} {ro : List (Addr × Obj)} (St : LawSt w fx tmp base L m S h) (hi : S.its[k]? = some i) (B : Below A base [] base) (hf : env.frame = some L) (hk : env.scope.kind = .function) (hro : ∀ z ∈ ro, z ∈ fx) (hnr : (ro.map (·.1)).Nodup) :
    Cells h base [env] (i.r.cells w.params ++ ro) ∧ ((i.r.cells w.params ++ ro).map (·.1)).Nodup := by
  have hperm := led_perm (P := w.params) hi
  have nd : ((fx ++ (i.r.cells w.params ++ S.oth w.params k i)).map (·.1)).Nodup := ((hperm.append_left fx).map _).nodup_iff.mp St.I.nd
  simp only [List.map_append] at nd
  refine ⟨cells_n B St.F St.N (fun p hp => ?_) hf hk, ?_⟩
  · rcases List.mem_append.mp hp with hp | hp
    · exact List.mem_append_right _ (List.mem_append_right _ (hperm.mem_iff.mpr (List.mem_append_left _ hp)))
    · exact List.mem_append_right _ (List.mem_append_left _ (hro p hp))
  · rw [List.map_append]
    refine List.nodup_append.mpr ⟨(List.nodup_append.mp (List.nodup_append.mp nd).2.1).1, hnr, fun a ha b hb e => ?_⟩
    obtain ⟨z, hz, rfl⟩ := List.mem_map.mp hb
    exact (List.nodup_append.mp nd).2.2 _ (List.mem_map_of_mem (hro z hz)) _ (List.mem_append_left _ ha) e.symm
variable {s : Shared} {Q E : Value → Shared → Prop} {d u : Nat} {env : Env}
theorem st_item {p : Nat} {tk : Tok} (AM : Amb w mean mg mb base) (B : Below (topA d u []) base [] base) (St : LawSt w fx tmp base L m S s.heap) (hi : S.its[k]? = some i) (hf : env.frame = some L) (hk : env.scope.kind = .function) (hp : p < i.r.kids.length)
    (ret : ∀ v r' nu h' tk', LawSt w fx tmp base L m (S.read k i r' nu) h' → r'.els.length = max i.r.els.length (p + 1) → r'.kids = i.r.kids → r'.els[p]? = some v → Q v {s with heap := h', toks := tk'}) :
    wpAny (model PRG w) (topA 450 1800 [env]) (call (.ref 142) [.ref i.r.x, .int (p : Int) tk]) Q E s := by
  have io := St.I.it k i hi
  obtain ⟨ro, t1, t2, t3⟩ := io.ty
  obtain ⟨cc, nd⟩ := St.cells hi B hf hk t2 t3
  refine getitem_ok AM (pcall B St.F hf hk) cc nd io.ok t1 hp fun r' nws v h' tk' R K H e1 e2 e3 => ?_
  obtain ⟨F', O⟩ := St.kp hi K
  obtain ⟨nu, St'⟩ := St.read hi R F' H O
  exact ret v r' nu h' tk' St' e1 R.same.2.2.2.2.2.1 e3
theorem st_next {t : Tr} (AM : Amb w mean mg mb base) (B : Below (topA d u []) base [] base) (St : LawSt w fx tmp base L m S s.heap) (hi : S.its[k]? = some i) (hf : env.frame = some L) (hk : env.scope.kind = .function) (ht : i.r.kids[i.r.els.length]? = some t)
    (ret : ∀ v r' nu h' tk', LawSt w fx tmp base L m (S.read k i r' nu) h' → r'.els.length = i.r.els.length + 1 → r'.kids = i.r.kids → r'.els[i.r.els.length]? = some v → Q v {s with heap := h', toks := tk'}) :
    wpAny (model PRG w) (topA 500 2000 [env]) (call (.ref 135) [.ref i.r.x]) Q E s := by
  have io := St.I.it k i hi
  obtain ⟨ro, t1, t2, t3⟩ := io.ty
  obtain ⟨cc, nd⟩ := St.cells hi B hf hk t2 t3
  refine next_spec AM (pcall B St.F hf hk) cc nd io.ok t1 ht fun v nw τ' n' h' tk' k1 k2 k3 k4 k5 k6 => ?_
  obtain ⟨F', O⟩ := St.kp hi k1
  have R := (Rd.refl (P := w.params) (h0 := s.heap) io.ok).next ht k6 τ' n' (h := s.heap) k4 (fun _ h => nomatch h) (fun b o e => ⟨o, e⟩) k5
  rw [List.append_nil] at R
  obtain ⟨nu, St'⟩ := St.read hi R F' (fun z hz => by
    rcases List.mem_append.mp hz with hz | hz
    · exact k2 z hz
    · exact k3 z hz) O
  exact ret v _ nu h' tk' St' (by simp) rfl (by simp)
end
end Mine
end

section
theorem Mine.quietState5 : True := by
  w_top off
  trivial
open PySem PySem.W PySem.Spec PySem.Calls PyProof.Rows
set_option Elab.async false
set_option maxRecDepth 100000
set_option maxHeartbeats 8000000
namespace Mine
section
variable {w : World} {mean : ExcName → Option Value} {mg mb : Str → Option Value} {fx tmp : List (Addr × Obj)} {base : Heap} {L : Addr} {m : Str → Option Value} {S : Sta} {k : Nat} {i : Item}
theorem frs_one {env : Env} (hf : env.frame = some L) : frs [env] = [L] := by simp [frs, hf]
theorem LawSt.kpF {h h' : Heap} (St : LawSt w fx tmp base L m S h) (hi : S.its[k]? = some i) (K : KpF [i.r.x, i.r.d, i.r.el] [L] h h') : Fr base L h' m ∧ ∀ z ∈ tmp ++ (fx ++ S.oth w.params k i), h'.get? z.1 = some z.2 := by
  have hperm := led_perm (P := w.params) hi
  have cellN : ∀ b ∈ [i.r.x, i.r.d, i.r.el], b ≠ L ∧ base.get? b = none := fun b hb => by
    have hb' : b ∈ (i.r.cells w.params).map (·.1) := hb
    obtain ⟨y, hy, rfl⟩ := List.mem_map.mp hb'
    exact (St.N y (List.mem_append_right _ (List.mem_append_right _ (hperm.mem_iff.mpr (List.mem_append_left _ hy))))).2
  refine ⟨?_, fun z hz => ?_⟩
  · obtain ⟨oL, es, ep, hL, hd, r⟩ := St.F.ns
    obtain ⟨sl, hs⟩ := K.frame L oL (.head _) hL
    refine ⟨⟨_, es, ep, hs, hd, r⟩, fun b o e => K.other b o (fun q => ?_) (fun q => ?_) (St.F.keep b o e), St.F.above⟩
    · rw [(cellN b q).2] at e; cases e
    · rw [List.mem_singleton.mp q, kts_self St.F] at e; cases e
  · obtain ⟨h1, h2⟩ := St.apart hi z hz
    have hn := St.N z h1
    exact K.other _ _ h2 (fun q => hn.2.1 (List.mem_singleton.mp q)) hn.1
variable {s : Shared} {Q E : Value → Shared → Prop} {d u : Nat} {env : Env}
theorem st_len (AM : Amb w mean mg mb base) (B : Below (topA d u []) base [] base) (St : LawSt w fx tmp base L m S s.heap) (hi : S.its[k]? = some i) (hf : env.frame = some L) (hk : env.scope.kind = .function)
    (ret : ∀ r' nu t h' tk', LawSt w fx tmp base L m (S.read k i r' nu) h' → r'.els.length = i.r.kids.length → r'.kids = i.r.kids → Q (.int (i.r.kids.length : Int) t) {s with heap := h', toks := tk'}) :
    wpAny (model PRG w) (topA 450 1800 [env]) (call (.ref 149) [.ref i.r.x]) Q E s := by
  have io := St.I.it k i hi
  obtain ⟨ro, t1, t2, t3⟩ := io.ty
  obtain ⟨cc, nd⟩ := St.cells hi B hf hk t2 t3
  by_cases hc : i.r.len = true ∧ i.r.kids.length ≠ 0
  · refine len_set AM (pcall B St.F hf hk) cc nd io.ok t1 hc.1 hc.2 fun t h' tk' K H => ?_
    obtain ⟨F', O⟩ := St.kp hi K
    obtain ⟨nu, St'⟩ := St.read hi (Rd.refl (P := w.params) (h0 := s.heap) io.ok) F' (fun z hz => H z (by rwa [List.append_nil] at hz)) O
    exact ret i.r nu t h' tk' St' (io.ok.whole hc.1) rfl
  · have hl : i.r.len = false ∨ i.r.kids.length = 0 := by
      cases e : i.r.len with
      | false => exact .inl rfl
      | true =>
        by_cases q : i.r.kids.length = 0
        · exact .inr q
        · exact absurd ⟨e, q⟩ hc
    refine len_go AM (pcall B St.F hf hk) cc nd io.ok t1 hl fun r' nws t h' tk' R K H e1 e2 => ?_
    rw [frs_one hf] at K
    obtain ⟨F', O⟩ := St.kpF hi K
    obtain ⟨nu, St'⟩ := St.read hi R F' H O
    exact ret r' nu t h' tk' St' e1 R.same.2.2.2.2.2.1
end
/-- back over the law's ground -/
theorem turn_base {base g' h : Heap} {L : Addr} {m : Str → Option Value} {news : List (Addr × Obj)} (T : KtsTurn [] base g') (F : Fr g' L h m) (N : News g' L h news) : Fr base L h m ∧ News base L h news := by
  refine ⟨⟨F.ns, fun b o e => F.keep b o (T.other b o e (fun q => nomatch q)), by rw [← T.size]; exact F.above⟩, fun p hp => ⟨(N p hp).1, (N p hp).2.1, ?_⟩⟩
  cases e : base.get? p.1 with
  | none => rfl
  | some o =>
    have := T.other _ o e (fun q => nomatch q)
    rw [(N p hp).2.2] at this; cases this
end Mine
end

section
theorem Mine.quietState6 : True := by
  w_top off
  trivial
open PySem PySem.W PySem.Spec PySem.Calls PyProof.Rows
set_option Elab.async false
set_option maxRecDepth 100000
set_option maxHeartbeats 8000000
namespace Mine
section
variable {w : World} {mean : ExcName → Option Value} {mg mb : Str → Option Value} {fx tmp : List (Addr × Obj)} {base : Heap} {L : Addr} {m : Str → Option Value} {S : Sta} {k : Nat} {i : Item} {s : Shared} {Q E : Value → Shared → Prop} {d u : Nat}
  {name : Str} {scope : Scope} {a : Addr} {cd : Value} {cl : List (Str × Addr)}
theorem st_caught {h h3 g' : Heap} {r' : Row} {nws : List (Addr × Obj)} (St : LawSt w fx tmp base L m S h) (hi : S.its[k]? = some i) (R : Rd w.params i.r r' h nws) (T : KtsTurn [] base g') (F3 : Fr g' L h3 m) (N3 : News g' L h3 ((r'.cells w.params ++ nws) ++ (tmp ++ (fx ++ S.oth w.params k i)))) :
    ∃ nu, LawSt w fx tmp base L m (S.read k i r' nu) h3 := by
  obtain ⟨F', N'⟩ := turn_base T F3 N3
  exact St.read hi R F' (fun z hz => (N' z (List.mem_append_left _ hz)).1) fun z hz => (N' z (List.mem_append_right _ hz)).1
theorem st_raised {h h' : Heap} {r' : Row} {nws : List (Addr × Obj)} {e : Addr} {cls : Value} (B : Below (topA d u []) base [] base) (St : LawSt w fx tmp base L m S h) (hi : S.its[k]? = some i) (R : Rd w.params i.r r' h nws) (Rz : Raised [i.r.x, i.r.d, i.r.el] (r'.cells w.params ++ nws) base [envX name scope L a cd cl] e cls h h') :
    ∃ G, Fr base L G m ∧ RaisedSN base G [envX name scope L a cd cl] e cls ((r'.cells w.params ++ nws) ++ (tmp ++ (fx ++ S.oth w.params k i))) h' ∧ G.UpToSlots h' := by
  have hperm := led_perm (P := w.params) hi
  have inm : ∀ b ∈ [i.r.x, i.r.d, i.r.el], b ∈ (tmp ++ (fx ++ S.led w.params)).map (·.1) := fun b hb => by
    obtain ⟨y, hy, e⟩ := List.mem_map.mp (show b ∈ (i.r.cells w.params).map (·.1) from hb)
    exact List.mem_map.mpr ⟨y, List.mem_append_right _ (List.mem_append_right _ (hperm.mem_iff.mpr (List.mem_append_left _ hy))), e⟩
  obtain ⟨⟨s1, s2, s3, _⟩, _, _, fr, _⟩ := R
  exact to_SN B St.F St.N Rz inm (fun z hz => by
    rcases List.mem_append.mp hz with hz | hz
    · have : z.1 ∈ [i.r.x, i.r.d, i.r.el] := by
        have := List.mem_map_of_mem (f := (·.1)) hz
        rw [cells_map, s1, s2, s3] at this; exact this
      exact .inl (inm _ this)
    · exact .inr (fr z hz)) fun z hz => St.apart hi z hz
theorem st_item_out {p : Nat} {tk : Tok} (AM : Amb w mean mg mb base) (B : Below (topA d u []) base [] base) (St : LawSt w fx tmp base L m S s.heap) (hi : S.its[k]? = some i) (hk : scope.kind = .function) (hp : i.r.kids.length ≤ p) (hp2 : p < 65536)
    (err : ∀ e r' nws h' tk' G, Rd w.params i.r r' s.heap nws → Fr base L G m → RaisedSN base G [envX name scope L a cd cl] e (.type "IndexError") ((r'.cells w.params ++ nws) ++ (tmp ++ (fx ++ S.oth w.params k i))) h' → G.UpToSlots h' → r'.els.length = i.r.kids.length → E (.ref e) {s with heap := h', toks := tk'}) :
    wpAny (model PRG w) (topA 450 1800 [envX name scope L a cd cl]) (call (.ref 142) [.ref i.r.x, .int (p : Int) tk]) Q E s := by
  have io := St.I.it k i hi
  obtain ⟨ro, t1, t2, t3⟩ := io.ty
  obtain ⟨cc, nd⟩ := St.cells (env := envX name scope L a cd cl) hi B rfl hk t2 t3
  refine getitem_out AM (pcall B St.F rfl hk) cc nd io.ok t1 hp hp2 fun e r' nws h' tk' R Rz e1 => ?_
  obtain ⟨G, g1, g2, g3⟩ := st_raised B St hi R Rz
  exact err e r' nws h' tk' G R g1 g2 g3 e1
theorem st_nextE (AM : Amb w mean mg mb base) (B : Below (topA d u []) base [] base) (St : LawSt w fx tmp base L m S s.heap) (hi : S.its[k]? = some i) (hk : scope.kind = .function) (hp : i.r.els.length = i.r.kids.length)
    (err : ∀ e r' nws h' tk' G, Rd w.params i.r r' s.heap nws → Fr base L G m → RaisedSN base G [envX name scope L a cd cl] e (.type "StopIteration") ((r'.cells w.params ++ nws) ++ (tmp ++ (fx ++ S.oth w.params k i))) h' → G.UpToSlots h' → r'.els = i.r.els → E (.ref e) {s with heap := h', toks := tk'}) :
    wpAny (model PRG w) (topA 500 2000 [envX name scope L a cd cl]) (call (.ref 135) [.ref i.r.x]) Q E s := by
  have io := St.I.it k i hi
  obtain ⟨ro, t1, t2, t3⟩ := io.ty
  obtain ⟨cc, nd⟩ := St.cells (env := envX name scope L a cd cl) hi B rfl hk t2 t3
  have c1 : Cells s.heap base [envX name scope L a cd cl] (i.r.cells w.params) := fun z hz => cc z (List.mem_append_left _ hz)
  obtain ⟨n1, n2, n3⟩ := row_ne (P := w.params) (r := i.r) (r' := i.r) (ro := ro) rfl rfl rfl nd
  refine nextE_spec AM (pcall B St.F rfl hk) c1 n1 n2 n3 io.ok hp fun e τ' h' tk' Rz hc => ?_
  have R : Rd w.params i.r { i.r with len := true, τ := τ' } s.heap [] := ⟨⟨rfl, rfl, rfl, rfl, rfl, rfl, rfl, rfl⟩, ⟨io.ok.lay, io.ok.small, io.ok.le, fun _ => hp⟩, ⟨[], (List.append_nil _).symm, .nil⟩, (fun _ h => nomatch h), List.nodup_nil⟩
  obtain ⟨G, g1, g2, g3⟩ := st_raised B St hi R (by rw [List.append_nil]; exact Rz)
  exact err e _ [] h' tk' G R g1 g2 g3 rfl
end
end Mine
end

section
theorem Mine.quietState7 : True := by
  w_top off
  trivial
open PySem PySem.W PySem.Spec PySem.Calls PyProof.Rows
set_option Elab.async false
set_option maxRecDepth 100000
set_option maxHeartbeats 8000000
namespace Mine
section
variable {w : World} {mean : ExcName → Option Value} {mg mb : Str → Option Value} {fx tmp : List (Addr × Obj)} {base : Heap} {L : Addr} {m : Str → Option Value} {S : Sta} {k : Nat} {i : Item} {s : Shared} {Q E : Value → Shared → Prop} {d u : Nat} {env : Env}
theorem held_eq (S : Sta) : S.held = (S.hl, W.listOf ((S.its.map (·.a)).map fun a => Value.ref a.e).toArray S.c) := by
  unfold Sta.held
  rw [List.map_map]; rfl
theorem in_led {P : Params} (hi : S.its[k]? = some i) : ∀ z ∈ i.cells P, z ∈ S.led P := fun z hz =>
  .tail _ (List.mem_append_left _ (List.mem_flatMap.mpr ⟨i, List.mem_of_getElem? hi, hz⟩))
theorem ent_at (hi : S.its[k]? = some i) : ((S.its.map (·.a)).map fun a => Value.ref a.e)[k]? = some (.ref i.a.e) := by
  rw [List.getElem?_map, List.getElem?_map, hi]; rfl
theorem cell_in {P : Params} (hi : S.its[k]? = some i) {ka : Addr} (hka : i.a.kids = .ref ka) : (i.a.e, W.listOf ([.ref i.a.x, .ref ka, .int (i.a.cnt : Int) i.a.ct, .ref i.a.seen] : List Value).toArray i.a.n) ∈ S.led P := by
  refine in_led hi _ ?_
  rw [← hka]
  exact List.mem_append_right _ (.head _)
/-- telling a place that changes nothing -/
theorem st_told {p : Nat} {v : Value} {t : Tr} {th tp : Tok} (AM : Amb w mean mg mb base) (B : Below (topA d u []) base [] base) (St : LawSt w fx tmp base L m S s.heap) (hi : S.its[k]? = some i) (hf : env.frame = some L) (hk : env.scope.kind = .function)
    (ht : i.r.kids[p]? = some t) (hP : match t with
      | .leaf b => ∃ t, v = .bytes b.toArray t
      | .num n => ∃ t, v = .int (n : Int) t
      | .node _ => ∃ (j : Nat) (ij : Item), PySem.Spec.lookup (PyData.int p) i.DD = some (PyData.int j) ∧ S.its[j]? = some ij ∧ v = .ref ij.r.x) (hks : S.its.length < 10000)
    (ret : ∀ h' tk', LawSt w fx tmp base L m S h' → Q (.bool true) {s with heap := h', toks := tk'}) :
    wpAny (model PRG w) (topA 400 1600 [env]) (call (.ref 240) [.ref S.hl, .int (k : Int) th, .int (p : Int) tp, v]) Q E s := by
  have io := St.I.it k i hi
  obtain ⟨ka, kv, n, hka, hkf, hkl, hkr⟩ := io.kids
  have hpl : p < i.r.kids.length := by
    rcases Nat.lt_or_ge p i.r.kids.length with q | q
    · exact q
    · rw [List.getElem?_eq_none q] at ht; cases ht
  have hkl' : k < S.its.length := by
    rcases Nat.lt_or_ge k S.its.length with q | q
    · exact q
    · rw [List.getElem?_eq_none q] at hi; cases hi
  have hsm := io.small
  obtain ⟨kx, hkx⟩ : ∃ x, kv[p]? = some x := ⟨_, List.getElem?_eq_getElem (by omega)⟩
  have hrep := hkr p t kx ht hkx
  have CC : Cells s.heap base [env] (tmp ++ (fx ++ S.led w.params)) := cells_n B St.F St.N (fun p hp => hp) hf hk
  have hh : (S.hl, W.listOf ((S.its.map (·.a)).map fun a => Value.ref a.e).toArray S.c) ∈ tmp ++ (fx ++ S.led w.params) := by
    rw [← held_eq]
    exact List.mem_append_right _ (List.mem_append_right _ (.head _))
  have up : ∀ {z}, z ∈ S.led w.params → z ∈ tmp ++ (fx ++ S.led w.params) := fun hz => List.mem_append_right _ (List.mem_append_right _ hz)
  have back : ∀ h' tk', Kp [] s.heap h' → Q (.bool true) {s with heap := h', toks := tk'} := fun h' tk' K => by
    obtain ⟨F', N'⟩ := pback St.F St.N K
    exact ret h' tk' ⟨F', N', St.I, St.dis⟩
  cases t with
  | leaf b =>
    obtain ⟨t2, rfl⟩ := hP
    cases hrep
    exact told_leaf (n := n) AM (pcall B St.F hf hk) CC hh (ent_at hi) (up (cell_in hi hka)) (List.mem_append_right _ (List.mem_append_left _ hkf)) hkx ⟨by omega, by omega⟩ back
  | num b =>
    obtain ⟨t2, rfl⟩ := hP
    cases hrep
    exact told_num (n := n) AM (pcall B St.F hf hk) CC hh (ent_at hi) (up (cell_in hi hka)) (List.mem_append_right _ (List.mem_append_left _ hkf)) hkx ⟨by omega, by omega⟩ back
  | node ts =>
    obtain ⟨j, ij, h1, h2, rfl⟩ := hP
    have hjl : j < S.its.length := by
      rcases Nat.lt_or_ge j S.its.length with q | q
      · exact q
      · rw [List.getElem?_eq_none q] at h2; cases h2
    have ioj := St.I.it j ij h2
    obtain ⟨ka2, _, _, hka2, _⟩ := ioj.kids
    cases hrep with
    | node hr =>
      cases hr with
      | @node _ kd vs c2 hm _ _ =>
        have hc2 := cell_in (P := w.params) h2 hka2
        rw [← hka2] at hc2
        rw [← ioj.x]
        exact told_old (n := n) (a2 := ij.a) AM (pcall B St.F hf hk) CC hh (ent_at hi) (up (cell_in hi hka)) (List.mem_append_right _ (List.mem_append_left _ hkf)) hkx (List.mem_append_right _ (List.mem_append_left _ hm)) ⟨_, _, rfl⟩ ⟨by omega, by omega, by omega⟩
          (up (in_led hi _ (List.mem_append_right _ (.tail _ (.head _))))) io.dict io.flat io.mods h1 (ent_at h2) (up hc2) back
end
end Mine
end

section
theorem Mine.quietState8 : True := by
  w_top off
  trivial
open PySem PySem.W PySem.Spec PySem.Calls PyProof.Rows
set_option Elab.async false
set_option maxRecDepth 100000
set_option maxHeartbeats 8000000
namespace Mine
section
variable {w : World} {mean : ExcName → Option Value} {mg mb : Str → Option Value} {fx tmp : List (Addr × Obj)} {base : Heap} {L : Addr} {m : Str → Option Value} {S : Sta} {s : Shared} {Q E : Value → Shared → Prop} {d u : Nat} {env : Env}
/-- one more row held -/
def Sta.add (S : Sta) (n : Item) (c : Nat) : Sta := { S with its := S.its ++ [n], c := c }
theorem Place.add {n : Item} {c k p : Nat} {DD : List (PyData × PyData)} {t : Tr} {v : Value} (P : Place S k p DD t v) : Place (S.add n c) k p DD t v := by
  cases t with
  | leaf b => exact P
  | num n => exact P
  | node ts =>
    rcases P with ⟨j, ij, h1, h2, h3⟩ | h
    · have hlt : j < S.its.length := by
        rcases Nat.lt_or_ge j S.its.length with q | q
        · exact q
        · rw [List.getElem?_eq_none q] at h2; cases h2
      exact .inl ⟨j, ij, h1, by show (S.its ++ [n])[j]? = _; rw [List.getElem?_append_left hlt]; exact h2, h3⟩
    · exact .inr h
theorem pm2 {α : Type} (a b : α) (A N B F : List α) : (F ++ (b :: ((A ++ N) ++ B))).Perm (N ++ (F ++ (b :: (A ++ B)))) := by
  classical
  refine List.perm_iff_count.mpr fun x => ?_
  simp only [List.count_cons, List.count_append]
  omega
theorem st_fresh {q : Row} {kids : Value} (AM : Amb w mean mg mb base) (B : Below (topA d u []) base [] base) (St : LawSt w fx (q.cells w.params ++ tmp) base L m S s.heap) (hf : env.frame = some L) (hk : env.scope.kind = .function)
    (hnd : [q.x, q.d, q.el].Nodup) (ok : q.Ok) (hels : q.els = []) (ty : ∃ ro, Typed w.params q ro ∧ (∀ z ∈ ro, z ∈ fx) ∧ (ro.map (·.1)).Nodup) (hkv : KV fx q.kids kids) (hsm : q.kids.length < 65535) (hpl : q.sed = none → ∀ t ∈ q.kids, t.plain) (dis2 : ∀ z ∈ tmp, ∀ y ∈ q.cells w.params, z.1 ≠ y.1) (hits : S.its.length < 9999)
    (ret : ∀ n c' h' tk', LawSt w fx tmp base L m (S.add n c') h' → n.r = q → n.a.cnt = 0 → n.a.kids = kids → Q (.bool true) {s with heap := h', toks := tk'}) :
    wpAny (model PRG w) (topA 450 1800 [env]) (call (.ref 233) [.ref S.hl, .ref q.x, kids]) Q E s := by
  have hnd0 := St.I.nd
  have ndl : (S.held.1 :: ((S.its.flatMap (Item.cells w.params) ++ S.us.flatMap fun u => u.q.cells w.params).map (·.1))).Nodup := by
    have := hnd0
    rw [List.map_append] at this
    exact (List.nodup_append.mp this).2.1
  have nhl : ∀ z ∈ S.its.flatMap (Item.cells w.params) ++ S.us.flatMap (fun u => u.q.cells w.params), z.1 ≠ S.hl := fun z hz e => (List.nodup_cons.mp ndl).1 (by
    show S.hl ∈ _
    rw [← e]; exact List.mem_map_of_mem hz)
  have itm : ∀ a ∈ S.its.map (·.a), ∃ i, ∃ k : Nat, S.its[k]? = some i ∧ i.a = a := fun a ha => by
    obtain ⟨i, hi, rfl⟩ := List.mem_map.mp ha
    obtain ⟨k, hk⟩ := List.getElem?_of_mem hi
    exact ⟨i, k, hk, rfl⟩
  have initm : ∀ {i : Item} {k : Nat}, S.its[k]? = some i → ∀ z ∈ i.cells w.params, z ∈ S.its.flatMap (Item.cells w.params) ++ S.us.flatMap (fun u => u.q.cells w.params) := fun {i k} hi z hz => List.mem_append_left _ (List.mem_flatMap.mpr ⟨i, List.mem_of_getElem? hi, hz⟩)
  have qd : ∀ z ∈ q.cells w.params, ∀ y ∈ fx ++ S.led w.params, z.1 ≠ y.1 := fun z hz y hy => St.dis z (List.mem_append_left _ hz) y hy
  have hhl : S.held ∈ fx ++ S.led w.params := List.mem_append_right _ (.head _)
  have CC : Cells s.heap base [env] ((S.hl, W.listOf ((S.its.map (·.a)).map fun a => Value.ref a.e).toArray S.c) :: (q.cells w.params ++ ((S.its.map (·.a)).map Ent.cell ++ S.its.flatMap fun i => i.r.cells w.params))) := cells_n B St.F St.N (fun z hz => by
    rcases List.mem_cons.mp hz with rfl | hz
    · rw [← held_eq]
      exact List.mem_append_right _ hhl
    · rcases List.mem_append.mp hz with hz | hz
      · exact List.mem_append_left _ (List.mem_append_left _ hz)
      · refine List.mem_append_right _ (List.mem_append_right _ (.tail _ ?_))
        rcases List.mem_append.mp hz with hz | hz
        · obtain ⟨a, ha, rfl⟩ := List.mem_map.mp hz
          obtain ⟨i, k, hi, rfl⟩ := itm a ha
          exact initm hi _ (List.mem_append_right _ (.head _))
        · obtain ⟨i, hi, hz⟩ := List.mem_flatMap.mp hz
          exact List.mem_append_left _ (List.mem_flatMap.mpr ⟨i, hi, List.mem_append_left _ hz⟩)) hf hk
  refine fresh_spec (es := S.its.map (·.a)) (rs := S.its.flatMap fun i => i.r.cells w.params) (c := S.c) AM (pcall B St.F hf hk) CC (by rw [List.length_map]; omega) (fun a ha => ?_) (fun a ha => ?_) (fun a ha => ?_) (fun z hz => ?_) ⟨qd _ (.head _) _ hhl, qd _ (.tail _ (.head _)) _ hhl, qd _ (.tail _ (.tail _ (.head _))) _ hhl⟩ fun b od2 c' h' tk' k1 k2 k3 k4 k5 k6 k7 k8 k9 k10 k11 => ?_
  · obtain ⟨i, k, hi, rfl⟩ := itm a ha
    rw [(St.I.it k i hi).x]
    exact fun e => qd (q.x, instObj 152 q.d) (.head _) (i.r.x, instObj 152 i.r.d) (List.mem_append_right _ (.tail _ (initm hi _ (List.mem_append_left _ (.head _))))) e.symm
  · obtain ⟨i, k, hi, rfl⟩ := itm a ha
    exact nhl _ (initm hi i.a.cell (List.mem_append_right _ (.head _)))
  · obtain ⟨i, k, hi, rfl⟩ := itm a ha
    refine ⟨i.r.d, ?_⟩
    rw [(St.I.it k i hi).x]
    exact List.mem_flatMap.mpr ⟨i, List.mem_of_getElem? hi, .head _⟩
  · obtain ⟨i, hi, hz⟩ := List.mem_flatMap.mp hz
    exact nhl z (List.mem_append_left _ (List.mem_flatMap.mpr ⟨i, hi, List.mem_append_left _ hz⟩))
  · have ehl : (S.add ⟨b, q, od2, [], []⟩ c').held = (S.hl, W.listOf ((S.its.map (·.a) ++ [b]).map fun a => Value.ref a.e).toArray c') := by
      rw [held_eq]
      unfold Sta.add
      dsimp only
      rw [List.map_append (f := Item.a)]; rfl
    have perm : ((fx ++ (S.add ⟨b, q, od2, [], []⟩ c').led w.params)).Perm ((q.cells w.params ++ [b.cell, (b.seen, od2)]) ++ (fx ++ ((S.add ⟨b, q, od2, [], []⟩ c').held :: (S.its.flatMap (Item.cells w.params) ++ S.us.flatMap fun u => u.q.cells w.params)))) := by
      unfold Sta.led
      have e : (S.add ⟨b, q, od2, [], []⟩ c').its.flatMap (Item.cells w.params) = S.its.flatMap (Item.cells w.params) ++ (q.cells w.params ++ [b.cell, (b.seen, od2)]) := by
        show (S.its ++ [_]).flatMap (Item.cells w.params) = _
        rw [List.flatMap_append, List.flatMap_cons, List.flatMap_nil, List.append_nil]; rfl
      rw [e]
      exact pm2 (S.add ⟨b, q, od2, [], []⟩ c').held _ _ _ _ fx
    have alive : ∀ z ∈ (q.cells w.params ++ tmp) ++ (fx ++ S.led w.params), z.1 ≠ b.e ∧ z.1 ≠ b.seen := fun z hz => by
      have := (St.N z hz).1
      refine ⟨fun e => ?_, fun e => ?_⟩
      · have h7 := k7 b.e (.head _)
        rw [← e, this] at h7; cases h7
      · have h7 := k7 b.seen (.tail _ (.head _))
        rw [← e, this] at h7; cases h7
    have keep : ∀ z ∈ (q.cells w.params ++ tmp) ++ (fx ++ (S.its.flatMap (Item.cells w.params) ++ S.us.flatMap fun u => u.q.cells w.params)), News base L h' [z] := fun z hz p hp => by
      obtain rfl := List.mem_singleton.mp hp
      have hz' : p ∈ (q.cells w.params ++ tmp) ++ (fx ++ S.led w.params) := by
        rcases List.mem_append.mp hz with hz | hz
        · exact List.mem_append_left _ hz
        · rcases List.mem_append.mp hz with hz | hz
          · exact List.mem_append_right _ (List.mem_append_left _ hz)
          · exact List.mem_append_right _ (List.mem_append_right _ (.tail _ hz))
      refine ⟨k1 _ _ (fun (q' : p.1 ∈ [S.hl]) => ?_) (St.N p hz').1, (St.N p hz').2⟩
      have e : p.1 = S.hl := List.mem_singleton.mp q'
      rcases List.mem_append.mp hz with hz | hz
      · exact St.dis p hz S.held hhl e
      · rcases List.mem_append.mp hz with hz | hz
        · rw [List.map_append] at hnd0
          exact (List.nodup_append.mp hnd0).2.2 _ (List.mem_map_of_mem hz) S.hl (.head _) e
        · exact nhl p hz e
    have F' : Fr base L h' m := by
      have ac := after_call (cells := [S.held]) (out := []) (rest := []) St.F St.N (fun p hp => by
        obtain rfl := List.mem_singleton.mp hp
        exact List.mem_append_right _ hhl) k1 (fun _ hp => nomatch hp) (fun _ hp => nomatch hp)
      exact ac.1
    obtain ⟨oL, _, _, hL, _⟩ := St.F.ns
    have newN : ∀ z ∈ [b.e, b.seen], z ≠ L ∧ base.get? z = none := fun z hz => by
      refine ⟨fun e => ?_, kts_none St.F.keep (k7 z hz)⟩
      have h7 := k7 z hz
      rw [e, hL] at h7; cases h7
    have allN : News base L h' (tmp ++ ((q.cells w.params ++ [b.cell, (b.seen, od2)]) ++ (fx ++ ((S.add ⟨b, q, od2, [], []⟩ c').held :: (S.its.flatMap (Item.cells w.params) ++ S.us.flatMap fun u => u.q.cells w.params))))) := fun z hz => by
      rcases List.mem_append.mp hz with hz | hz
      · exact keep z (List.mem_append_left _ (List.mem_append_right _ hz)) z (.head _)
      · rcases List.mem_append.mp hz with hz | hz
        · rcases List.mem_append.mp hz with hz | hz
          · exact keep z (List.mem_append_left _ (List.mem_append_left _ hz)) z (.head _)
          · simp only [List.mem_cons, List.not_mem_nil, or_false] at hz
            rcases hz with rfl | rfl
            · exact ⟨k3, newN _ (.head _)⟩
            · exact ⟨k4, newN _ (.tail _ (.head _))⟩
        · rcases List.mem_append.mp hz with hz | hz
          · exact keep z (List.mem_append_right _ (List.mem_append_left _ hz)) z (.head _)
          · rcases List.mem_cons.mp hz with rfl | hz
            · rw [ehl]
              exact ⟨k2, (St.N _ (List.mem_append_right _ hhl)).2⟩
            · exact keep z (List.mem_append_right _ (List.mem_append_right _ hz)) z (.head _)
    refine ret ⟨b, q, od2, [], []⟩ c' h' tk' ⟨F', fun z hz => allN z ?_, ⟨?_, fun k2 i2 h2 => ?_⟩, ?_⟩ rfl k11 k10
    · rcases List.mem_append.mp hz with hz | hz
      · exact List.mem_append_left _ hz
      · exact List.mem_append_right _ (perm.mem_iff.mp hz)
    · have old : ((fx ++ ((S.add ⟨b, q, od2, [], []⟩ c').held :: (S.its.flatMap (Item.cells w.params) ++ S.us.flatMap fun u => u.q.cells w.params))).map (·.1)) = (fx ++ S.led w.params).map (·.1) := by
        rw [List.map_append, List.map_append]; rfl
      refine (perm.map _).nodup_iff.mpr ?_
      rw [List.map_append, old]
      have back : ∀ y ∈ (fx ++ S.led w.params).map (·.1), ∃ z ∈ fx ++ S.led w.params, z.1 = y := fun y hy => List.mem_map.mp hy
      refine List.nodup_append.mpr ⟨?_, hnd0, fun x hx y hy e => ?_⟩
      · rw [List.map_append, cells_map]
        refine List.nodup_append.mpr ⟨hnd, by simpa [Ent.cell] using k8, fun x hx y hy e => ?_⟩
        obtain ⟨z, hz, rfl⟩ := List.mem_map.mp (show x ∈ (q.cells w.params).map (·.1) from hx)
        have al := alive z (List.mem_append_left _ (List.mem_append_left _ hz))
        simp only [List.map_cons, List.map_nil, List.mem_cons, List.not_mem_nil, or_false] at hy
        rcases hy with rfl | rfl
        · exact al.1 e
        · exact al.2 e
      · obtain ⟨z, hz, rfl⟩ := back y hy
        obtain ⟨z2, hz2, rfl⟩ := List.mem_map.mp hx
        have al := alive z (List.mem_append_right _ hz)
        rcases List.mem_append.mp hz2 with hz2 | hz2
        · exact qd z2 hz2 z hz e
        · simp only [List.mem_cons, List.not_mem_nil, or_false] at hz2
          rcases hz2 with rfl | rfl
          · exact al.1 e.symm
          · exact al.2 e.symm
    · have h2' : (S.its ++ [⟨b, q, od2, [], []⟩])[k2]? = some i2 := h2
      by_cases hlt : k2 < S.its.length
      · rw [List.getElem?_append_left hlt] at h2'
        have io := St.I.it k2 i2 h2'
        exact ⟨io.x, io.ok, io.ty, io.kids, io.small, io.pl, by show _ ≤ (S.its ++ [_]).length; rw [List.length_append]; have := io.dds; omega, io.dict, io.flat, io.mods, fun p v hv => (io.els p v hv).imp fun t ⟨h1, h2⟩ => ⟨h1, h2.add⟩, io.lk, io.tn, io.keys⟩
      · rw [List.getElem?_append_right (by omega)] at h2'
        have e : i2 = ⟨b, q, od2, [], []⟩ := by
          cases hh : k2 - S.its.length with
          | zero => rw [hh] at h2'; simpa using h2'.symm
          | succ n => rw [hh] at h2'; simp at h2'
        subst e
        exact ⟨k9, ok, ty, by show KV fx q.kids b.kids; rw [k10]; exact hkv, hsm, hpl, Nat.zero_le _, k5, by constructor, k6, fun p v hv => (by
          have hv' : q.els[p]? = some v := hv
          rw [hels] at hv'; simp at hv'), fun p _ => rfl, (fun p x h => by cases h), fun kv h => nomatch h⟩
    · intro z hz y hy e
      rcases List.mem_append.mp (perm.mem_iff.mp hy) with hy | hy
      · rcases List.mem_append.mp hy with hy | hy
        · exact dis2 z hz y hy e
        · have al := alive z (List.mem_append_left _ (List.mem_append_right _ hz))
          simp only [List.mem_cons, List.not_mem_nil, or_false] at hy
          rcases hy with rfl | rfl
          · exact al.1 e
          · exact al.2 e
      · rcases List.mem_append.mp hy with hy | hy
        · exact St.dis z (List.mem_append_right _ hz) y (List.mem_append_left _ hy) e
        · rcases List.mem_cons.mp hy with rfl | hy
          · exact St.dis z (List.mem_append_right _ hz) S.held hhl e
          · exact St.dis z (List.mem_append_right _ hz) y (List.mem_append_right _ (.tail _ hy)) e
end
end Mine
end

section
theorem Mine.quietState9 : True := by
  w_top off
  trivial
open PySem PySem.W PySem.Spec PySem.Calls PyProof.Rows
set_option Elab.async false
set_option maxRecDepth 100000
set_option maxHeartbeats 8000000
namespace Mine
/-- a row read within another is told: it moves to the held ones -/
def Sta.tell (S : Sta) (k : Nat) (i' n : Item) (us' : List Un) (c : Nat) : Sta := { S with its := S.its.set k i' ++ [n], us := us', c := c }
theorem pm3 {α : Type} (F : List α) (h : α) (X Y B Q U W : List α) : (F ++ (h :: (((X ++ Y ++ B) ++ (Q ++ W)) ++ U))).Perm (W ++ (Y ++ (F ++ (h :: (Q ++ (X ++ (B ++ U))))))) := by
  classical
  refine List.perm_iff_count.mpr fun x => ?_
  simp only [List.count_cons, List.count_append]
  omega
theorem tell_split {P : Params} {S : Sta} {k : Nat} {i : Item} {u : Un} (hi : S.its[k]? = some i) (hu : u ∈ S.us) : ∃ (us' : List Un) (B : List (Addr × Obj)), (∀ v ∈ us', v ∈ S.us) ∧ (∀ v ∈ S.us, v ≠ u → v ∈ us') ∧
    (S.led P).Perm (S.held :: (u.q.cells P ++ (i.r.cells P ++ [i.a.cell] ++ ([(i.a.seen, i.od)] ++ (B ++ us'.flatMap fun u => u.q.cells P))))) ∧
    ∀ (i' n : Item) c, ((S.tell k i' n us' c).led P).Perm ((S.tell k i' n us' c).held :: ((i'.cells P ++ B) ++ (n.cells P ++ us'.flatMap fun u => u.q.cells P))) := by
  obtain ⟨u1, u2, e⟩ := List.append_of_mem hu
  obtain ⟨B, b1, b2⟩ := flatMap_set (Item.cells P) hi
  refine ⟨u1 ++ u2, B, fun v hv => ?_, fun v hv hn => ?_, ?_, fun i' n c => ?_⟩
  · rw [e]
    rcases List.mem_append.mp hv with h | h
    · exact List.mem_append_left _ h
    · exact List.mem_append_right _ (.tail _ h)
  · rw [e] at hv
    rcases List.mem_append.mp hv with h | h
    · exact List.mem_append_left _ h
    · rcases List.mem_cons.mp h with rfl | h
      · exact absurd rfl hn
      · exact List.mem_append_right _ h
  · unfold Sta.led
    refine List.Perm.cons _ ((b1.append_right _).trans ?_)
    rw [e, List.flatMap_append, List.flatMap_cons, List.flatMap_append]
    unfold Item.cells
    classical
    refine List.perm_iff_count.mpr fun x => ?_
    simp only [List.count_append, List.count_cons, List.count_nil]
    omega
  · unfold Sta.led
    refine List.Perm.cons _ ?_
    show ((S.its.set k i' ++ [n]).flatMap (Item.cells P) ++ (u1 ++ u2).flatMap _).Perm _
    rw [List.flatMap_append, List.flatMap_cons, List.flatMap_nil, List.append_nil, List.append_assoc]
    exact (b2 i').append_right _
end Mine
end

section
theorem Mine.quietState10 : True := by
  w_top off
  trivial
open PySem PySem.W PySem.Spec PySem.Calls PyProof.Rows
set_option Elab.async false
set_option maxRecDepth 100000
set_option maxHeartbeats 8000000
namespace Mine
theorem nodup_fst {l : List (Addr × Obj)} (h : (l.map (·.1)).Nodup) {y z : Addr × Obj} (hy : y ∈ l) (hz : z ∈ l) (e : y.1 = z.1) : y = z := by
  induction l with
  | nil => cases hy
  | cons a r ih =>
    rw [List.map_cons, List.nodup_cons] at h
    rcases List.mem_cons.mp hy with hy | hy
    · rcases List.mem_cons.mp hz with hz | hz
      · rw [hy, hz]
      · exact absurd (by rw [← hy, e]; exact List.mem_map_of_mem hz) h.1
    · rcases List.mem_cons.mp hz with hz | hz
      · exact absurd (by rw [← hz, ← e]; exact List.mem_map_of_mem hy) h.1
      · exact ih h.2 hy hz
theorem pm4 {α : Type} (F : List α) (h a sn be bs : α) (X B Q U : List α) : (F ++ (h :: (((X ++ [a, sn]) ++ B) ++ ((Q ++ [be, bs]) ++ U)))).Perm ([be, bs] ++ (F ++ (h :: (Q ++ (X ++ [a] ++ ([sn] ++ (B ++ U))))))) := by
  classical
  refine List.perm_iff_count.mpr fun x => ?_
  simp only [List.count_cons, List.count_append, List.count_nil]
  omega
theorem dict_kind {prog : Program} {w : World} {od : Obj} {kvs : List (Int × Value)} (h : od.IsDictOf (intKind prog w) kvs) : ∃ es ep, od.data = .dict es ep := by
  obtain ⟨es, ep, _, hd, _⟩ := h
  exact ⟨es, ep, hd⟩
theorem noNum_plain {t : Tr} (h : t.plain) : NoNum t := by
  cases t with
  | num n => exact h.elim
  | leaf b => exact trivial
  | node ts => exact trivial
theorem repK_of {fx : List (Addr × Obj)} {t : Tr} {v : Value} (h : Rep fx t v) (hp : t.plain) : RepK fx t v := by
  cases h with
  | leaf => exact .leaf
  | node h1 h2 h3 => exact .node (.node h1 h2 h3)
theorem enc_mem_len {t : Tr} : ∀ {ts : List Tr}, t ∈ ts → t.enc.length ≤ (encs ts).length
  | a :: r, h => by
    rw [encs_cons, List.length_append]
    rcases List.mem_cons.mp h with rfl | h
    · omega
    · have := enc_mem_len h
      omega
theorem kid_small {r : Row} {ts : List Tr} (ok : r.Ok) (h : Tr.node ts ∈ r.kids) : ts.length < 65535 := by
  obtain ⟨pre, post, e, _⟩ := ok.lay
  have h1 := congrArg List.length e
  simp only [List.length_append] at h1
  have h2 := enc_mem_len h
  have h3 := encs_len ts
  have h4 := hdr_len 192 (encs ts).length
  rw [Tr.enc, List.length_append] at h2
  have := ok.small
  omega
theorem its_tell {S : Sta} {k : Nat} {i' n : Item} {us' : List Un} {c j : Nat} (hk : k < S.its.length) : (S.tell k i' n us' c).its[j]? = if j = k then some i' else if j < S.its.length then S.its[j]? else if j = S.its.length then some n else none := by
  show (S.its.set k i' ++ [n])[j]? = _
  by_cases q : j = k
  · subst q
    rw [if_pos rfl, List.getElem?_append_left (by rw [List.length_set]; exact hk), List.getElem?_set_self hk]
  · rw [if_neg q]
    by_cases q2 : j < S.its.length
    · rw [if_pos q2, List.getElem?_append_left (by rw [List.length_set]; exact q2), List.getElem?_set_ne (Ne.symm q)]
    · rw [if_neg q2, List.getElem?_append_right (by rw [List.length_set]; omega), List.length_set]
      by_cases q3 : j = S.its.length
      · rw [if_pos q3, q3, Nat.sub_self]; rfl
      · rw [if_neg q3, List.getElem?_eq_none (by simp; omega)]
theorem Place.tell {S : Sta} {k p : Nat} {i i' n : Item} {us' : List Un} {c : Nat} {u : Un} (hi : S.its[k]? = some i) (hx : i'.r.x = i.r.x) (hui : u.i = k) (hup : u.p = p) (hus : ∀ v ∈ S.us, v ≠ u → v ∈ us') {k2 p2 : Nat} {DD DD' : List (PyData × PyData)} {t : Tr} {v : Value}
    (hn : ¬ (k2 = k ∧ p2 = p)) (hD : PySem.Spec.lookup (PyData.int p2) DD' = PySem.Spec.lookup (PyData.int p2) DD) (P : Place S k2 p2 DD t v) : Place (S.tell k i' n us' c) k2 p2 DD' t v := by
  have hkl : k < S.its.length := by
    rcases Nat.lt_or_ge k S.its.length with q | q
    · exact q
    · rw [List.getElem?_eq_none q] at hi; cases hi
  cases t with
  | leaf b => exact P
  | num n => exact P
  | node ts =>
    rcases P with ⟨j, ij, h1, h2, h3⟩ | ⟨h1, v2, hv2, e1, e2, r⟩
    · have hlt : j < S.its.length := by
        rcases Nat.lt_or_ge j S.its.length with q | q
        · exact q
        · rw [List.getElem?_eq_none q] at h2; cases h2
      refine .inl ⟨j, if j = k then i' else ij, hD.trans h1, ?_, ?_⟩
      · rw [its_tell hkl]
        by_cases q : j = k
        · rw [if_pos q, if_pos q]
        · rw [if_neg q, if_neg q, if_pos hlt]; exact h2
      · by_cases q : j = k
        · rw [if_pos q]
          subst q
          rw [hi] at h2
          cases h2
          rw [h3, hx]
        · rw [if_neg q]; exact h3
    · refine .inr ⟨hD.trans h1, v2, hus v2 hv2 (fun e => hn ?_), e1, e2, r⟩
      subst e
      exact ⟨e1.symm.trans hui, e2.symm.trans hup⟩
theorem nodup_mid {α : Type} {a s : α} {Q X Y : List α} (h : (a :: (Q ++ (X ++ (s :: Y)))).Nodup) : (∀ z ∈ Q ++ (X ++ Y), z ≠ a ∧ z ≠ s) := by
  have pm : (a :: (Q ++ (X ++ (s :: Y)))).Perm (a :: s :: (Q ++ (X ++ Y))) := by
    classical
    refine List.perm_iff_count.mpr fun x => ?_
    simp only [List.count_cons, List.count_append]
    omega
  have h2 := pm.nodup_iff.mp h
  rw [List.nodup_cons, List.nodup_cons] at h2
  intro z hz
  exact ⟨fun e => h2.1 (e ▸ .tail _ hz), fun e => h2.2.1 (e ▸ hz)⟩
section
variable {w : World} {mean : ExcName → Option Value} {mg mb : Str → Option Value} {fx tmp : List (Addr × Obj)} {base : Heap} {L : Addr} {m : Str → Option Value} {S : Sta} {k : Nat} {i : Item} {s : Shared} {Q E : Value → Shared → Prop} {d u0 : Nat} {env : Env}
theorem st_tellnew {p : Nat} {ts : List Tr} {u : Un} {th tp : Tok} (AM : Amb w mean mg mb base) (B : Below (topA d u0 []) base [] base) (St : LawSt w fx tmp base L m S s.heap) (hi : S.its[k]? = some i) (hf : env.frame = some L) (hk : env.scope.kind = .function)
    (ht : i.r.kids[p]? = some (.node ts)) (hv : i.r.els[p]? = some (.ref u.q.x)) (hu : u ∈ S.us) (hui : u.i = k) (hup : u.p = p) (hlk : PySem.Spec.lookup (PyData.int p) i.DD = none) (uok : u.q.Ok) (ukids : u.q.kids = ts) (uels : u.q.els = []) (ulen : u.q.len = false) (used : u.q.sed = none) (hs0 : i.r.sed = none) (hits : S.its.length < 9999)
    (ret : ∀ i' n us' c' h' tk', LawSt w fx tmp base L m (S.tell k i' n us' c') h' → i'.a = i.a → i'.r = i.r → n.r = u.q → n.a.cnt = 0 → Q (.bool true) {s with heap := h', toks := tk'}) :
    wpAny (model PRG w) (topA 400 1600 [env]) (call (.ref 240) [.ref S.hl, .int (k : Int) th, .int (p : Int) tp, .ref u.q.x]) Q E s := by
  have io := St.I.it k i hi
  obtain ⟨ka, kv, n0, hka, hkf, hkl, hkr⟩ := io.kids
  have hpl : p < i.r.kids.length := by
    rcases Nat.lt_or_ge p i.r.kids.length with q | q
    · exact q
    · rw [List.getElem?_eq_none q] at ht; cases ht
  have hkl' : k < S.its.length := by
    rcases Nat.lt_or_ge k S.its.length with q | q
    · exact q
    · rw [List.getElem?_eq_none q] at hi; cases hi
  have hsm := io.small
  obtain ⟨kx, hkx⟩ : ∃ x, kv[p]? = some x := ⟨_, List.getElem?_eq_getElem (by omega)⟩
  have hrep := hkr p _ kx ht hkx
  obtain ⟨us', Bx, us1, us2, pm, pm'⟩ := tell_split (P := w.params) hi hu
  have nd := St.I.nd
  have ndR := ((pm.append_left fx).map (·.1)).nodup_iff.mp nd
  obtain ⟨des, dep, hod⟩ := dict_kind io.dict
  have hseen : (i.a.seen, i.od) ∈ fx ++ S.led w.params := List.mem_append_right _ (in_led hi _ (List.mem_append_right _ (.tail _ (.head _))))
  have hheld : S.held ∈ fx ++ S.led w.params := List.mem_append_right _ (.head _)
  have ne_seen : ∀ z ∈ fx ++ S.led w.params, z ≠ (i.a.seen, i.od) → z.1 ≠ i.a.seen := fun z hz hn e => hn (nodup_fst nd hz hseen e)
  have ne_hl : ∀ z ∈ fx ++ S.led w.params, z ≠ S.held → z.1 ≠ S.hl := fun z hz hn e => hn (nodup_fst nd hz hheld e)
  have hq : ∀ z ∈ u.q.cells w.params, z ∈ S.us.flatMap fun u => u.q.cells w.params := fun z hz => List.mem_flatMap.mpr ⟨u, hu, hz⟩
  have hqL : ∀ z ∈ u.q.cells w.params, z ∈ fx ++ S.led w.params := fun z hz => List.mem_append_right _ (.tail _ (List.mem_append_right _ (hq z hz)))
  have ndR2 : ((S.held :: (u.q.cells w.params ++ (i.r.cells w.params ++ [i.a.cell] ++ ([(i.a.seen, i.od)] ++ (Bx ++ us'.flatMap fun u => u.q.cells w.params))))).map (·.1)).Nodup := by
    have := ndR
    rw [List.map_append] at this
    exact (List.nodup_append.mp this).2.1
  have q_seen : ∀ z ∈ u.q.cells w.params, z.1 ≠ i.a.seen := fun z hz e => by
    have := (List.nodup_cons.mp ndR2).2
    rw [List.map_append] at this
    exact (List.nodup_append.mp this).2.2 _ (List.mem_map_of_mem hz) i.a.seen (by simp) e
  have q_hl : ∀ z ∈ u.q.cells w.params, z.1 ≠ S.hl := fun z hz e => (List.nodup_cons.mp ndR2).1 (by
    show S.hl ∈ _
    rw [← e]
    exact List.mem_map_of_mem (List.mem_append_left _ hz))
  have itm : ∀ a ∈ S.its.map (·.a), ∃ j, ∃ k : Nat, S.its[k]? = some j ∧ j.a = a := fun a ha => by
    obtain ⟨j, hj, rfl⟩ := List.mem_map.mp ha
    obtain ⟨k, hk⟩ := List.getElem?_of_mem hj
    exact ⟨j, k, hk, rfl⟩
  have nhl : ∀ z ∈ S.its.flatMap (Item.cells w.params), z.1 ≠ S.hl := fun z hz e => by
    have := nd
    rw [List.map_append] at this
    have h2 := (List.nodup_append.mp this).2.1
    unfold Sta.led at h2
    rw [List.map_cons, List.nodup_cons] at h2
    refine h2.1 ?_
    show S.hl ∈ _
    rw [← e]
    exact List.mem_map_of_mem (List.mem_append_left _ hz)
  have itc : ∀ {j : Item} {k : Nat}, S.its[k]? = some j → ∀ z ∈ j.cells w.params, z ∈ S.its.flatMap (Item.cells w.params) := fun {j k} hj z hz => List.mem_flatMap.mpr ⟨j, List.mem_of_getElem? hj, hz⟩
  have inL : ∀ z ∈ S.its.flatMap (Item.cells w.params), z ∈ fx ++ S.led w.params := fun z hz => List.mem_append_right _ (.tail _ (List.mem_append_left _ hz))
  have fx_hl : ∀ z ∈ fx, z.1 ≠ S.hl ∧ z.1 ≠ i.a.seen := fun z hz => by
    have := nd
    rw [List.map_append] at this
    have h2 := (List.nodup_append.mp this).2.2 _ (List.mem_map_of_mem hz)
    exact ⟨fun e => h2 S.hl (.head _) e, fun e => h2 i.a.seen (List.mem_map.mpr ⟨_, in_led hi _ (List.mem_append_right _ (.tail _ (.head _))), rfl⟩) e⟩
  have it_us : ∀ z ∈ S.its.flatMap (Item.cells w.params), ∀ y ∈ S.us.flatMap (fun u => u.q.cells w.params), z.1 ≠ y.1 := fun z hz y hy e => by
    have := nd
    rw [List.map_append] at this
    have h2 := (List.nodup_append.mp this).2.1
    unfold Sta.led at h2
    rw [List.map_cons, List.nodup_cons, List.map_append] at h2
    exact (List.nodup_append.mp h2.2).2.2 _ (List.mem_map_of_mem hz) _ (List.mem_map_of_mem hy) e
  cases hrep with
  | node hr =>
  cases hr with
  | @node _ kd vs2 c2 hm hl2 hR2 =>
  have CC : Cells s.heap base [env] ((S.hl, W.listOf ((S.its.map (·.a)).map fun a => Value.ref a.e).toArray S.c) :: (i.a.seen, i.od) :: (u.q.cells w.params ++ ((S.its.map (·.a)).map Ent.cell ++ (fx ++ S.its.map fun j => (j.r.x, instObj 152 j.r.d))))) := cells_n B St.F St.N (fun z hz => List.mem_append_right _ (by
    rcases List.mem_cons.mp hz with rfl | hz
    · rw [← held_eq]; exact hheld
    · rcases List.mem_cons.mp hz with rfl | hz
      · exact hseen
      · rcases List.mem_append.mp hz with hz | hz
        · exact hqL z hz
        · rcases List.mem_append.mp hz with hz | hz
          · obtain ⟨a, ha, rfl⟩ := List.mem_map.mp hz
            obtain ⟨j, k, hj, rfl⟩ := itm a ha
            exact inL _ (itc hj _ (List.mem_append_right _ (.head _)))
          · rcases List.mem_append.mp hz with hz | hz
            · exact List.mem_append_left _ hz
            · obtain ⟨j, hj, rfl⟩ := List.mem_map.mp hz
              exact inL _ (List.mem_flatMap.mpr ⟨j, hj, List.mem_append_left _ (.head _)⟩))) hf hk
  have part : ∀ z ∈ u.q.cells w.params ++ ((S.its.map (·.a)).map Ent.cell ++ (fx ++ S.its.map fun j => (j.r.x, instObj 152 j.r.d))), z.1 ≠ i.a.seen ∧ z.1 ≠ S.hl := fun z hz => by
    rcases List.mem_append.mp hz with hz | hz
    · exact ⟨q_seen z hz, q_hl z hz⟩
    · rcases List.mem_append.mp hz with hz | hz
      · obtain ⟨a, ha, rfl⟩ := List.mem_map.mp hz
        obtain ⟨j, k, hj, rfl⟩ := itm a ha
        have h1 := itc hj j.a.cell (List.mem_append_right _ (.head _))
        refine ⟨ne_seen _ (inL _ h1) fun e => ?_, nhl _ h1⟩
        have := congrArg (fun z => z.2.data) e
        dsimp only at this
        rw [hod] at this; cases this
      · rcases List.mem_append.mp hz with hz | hz
        · exact ⟨(fx_hl z hz).2, (fx_hl z hz).1⟩
        · obtain ⟨j, hj, rfl⟩ := List.mem_map.mp hz
          have h1 : (j.r.x, instObj 152 j.r.d) ∈ S.its.flatMap (Item.cells w.params) := List.mem_flatMap.mpr ⟨j, hj, List.mem_append_left _ (.head _)⟩
          refine ⟨ne_seen _ (inL _ h1) fun e => ?_, nhl _ h1⟩
          have := congrArg (fun z => z.2.data) e
          dsimp only at this
          rw [hod] at this; cases this
  have hdds := io.dds
  refine told_new (a := i.a) (q := u.q) (od := i.od) (kdo := W.listOf vs2.toArray c2) (es := S.its.map (·.a)) (rs := fx ++ S.its.map fun j => (j.r.x, instObj 152 j.r.d)) (c := S.c) (n := n0) (kv := kv) (ka := ka) (kd := kd) AM (pcall B St.F hf hk) CC (by rw [List.length_map]; omega) (ent_at hi) (List.mem_map_of_mem (List.mem_of_getElem? hi)) hka
    (List.mem_append_left _ hkf) hkx (List.mem_append_left _ hm) ⟨_, _, rfl⟩ ⟨by omega, by omega⟩ io.dict io.flat io.mods hlk (fun z hz => (part z hz).1) (fun z hz => (part z hz).2) (ne_hl (i.a.seen, i.od) hseen fun e => ?_) (fun a ha => ?_) (fun a ha => ?_) (by omega) fun b od1 od2 tv c' h' tk' k1 k2 k3 k4 k5 k6 k7 k8 k9 k10 k11 k12 k13 k14 => ?_
  · have := congrArg (fun z => z.2.data) e
    dsimp only at this
    rw [hod] at this; cases this
  · obtain ⟨j, k, hj, rfl⟩ := itm a ha
    rw [(St.I.it k j hj).x]
    exact it_us (j.r.x, instObj 152 j.r.d) (itc hj _ (List.mem_append_left _ (.head _))) (u.q.x, instObj 152 u.q.d) (hq _ (.head _))
  · obtain ⟨j, k, hj, rfl⟩ := itm a ha
    rw [(St.I.it k j hj).x]
    exact ⟨j.r.d, List.mem_append_right _ (List.mem_map.mpr ⟨j, List.mem_of_getElem? hj, rfl⟩)⟩
  · generalize hi' : ({ i with od := od1, kvs := PySem.stored i.kvs (p : Int) (.int ((S.its.map (·.a)).length : Int) tv), DD := PyProof.V.putD (PyData.int p) (PyData.int ((S.its.map (·.a)).length : Int)) i.DD } : Item) = i'
    have ia : i'.a = i.a := by rw [← hi']
    have ehl : (S.tell k i' ⟨b, u.q, od2, [], []⟩ us' c').held = (S.hl, W.listOf ((S.its.map (·.a) ++ [b]).map fun a => Value.ref a.e).toArray c') := by
      rw [held_eq]
      unfold Sta.tell
      dsimp only
      rw [List.map_append (f := Item.a), List.map_set, ia]
      have : (S.its.map (·.a)).set k i.a = S.its.map (·.a) := List.ext_getElem? fun n => by
        by_cases q : n = k
        · subst q
          rw [List.getElem?_set_self (by rw [List.length_map]; exact hkl'), List.getElem?_map, hi]; rfl
        · rw [List.getElem?_set_ne (Ne.symm q)]
      rw [this]; rfl
    have ir : i'.r = i.r := by rw [← hi']
    have ic : i'.cells w.params = i.r.cells w.params ++ [i.a.cell, (i.a.seen, od1)] := by rw [← hi']; rfl
    have pn := pm' i' ⟨b, u.q, od2, [], []⟩ c'
    have padr : ((fx ++ (S.tell k i' ⟨b, u.q, od2, [], []⟩ us' c').led w.params).map (·.1)).Perm ([b.e, b.seen] ++ (fx ++ S.led w.params).map (·.1)) := by
      refine ((pn.append_left fx).map _).trans (List.Perm.trans ?_ (((pm.append_left fx).map (·.1)).symm.append_left [b.e, b.seen]))
      rw [ic, ehl]
      have e : Item.cells w.params ⟨b, u.q, od2, [], []⟩ = u.q.cells w.params ++ [b.cell, (b.seen, od2)] := rfl
      rw [e]
      have z := pm4 (fx.map (·.1)) S.hl i.a.e i.a.seen b.e b.seen ((i.r.cells w.params).map (·.1)) (Bx.map (·.1)) ((u.q.cells w.params).map (·.1)) ((us'.flatMap fun u => u.q.cells w.params).map (·.1))
      simpa [Ent.cell, Sta.held] using z
    have alive : ∀ z ∈ tmp ++ (fx ++ S.led w.params), z.1 ≠ b.e ∧ z.1 ≠ b.seen := fun z hz => by
      have := (St.N z hz).1
      refine ⟨fun e => ?_, fun e => ?_⟩
      · have h7 := k10 b.e (.head _)
        rw [← e, this] at h7; cases h7
      · have h7 := k10 b.seen (.tail _ (.head _))
        rw [← e, this] at h7; cases h7
    have mid := nodup_mid (a := S.hl) (s := i.a.seen) (Q := (u.q.cells w.params).map (·.1)) (X := (i.r.cells w.params ++ [i.a.cell]).map (·.1)) (Y := (Bx ++ us'.flatMap fun u => u.q.cells w.params).map (·.1)) (by
      have := ndR2
      simp only [List.map_append, List.map_cons, List.map_nil] at this ⊢
      exact this)
    have rest : ∀ z ∈ u.q.cells w.params ++ ((i.r.cells w.params ++ [i.a.cell]) ++ (Bx ++ us'.flatMap fun u => u.q.cells w.params)), z ∈ S.led w.params ∧ z.1 ≠ S.hl ∧ z.1 ≠ i.a.seen := fun z hz => by
      refine ⟨pm.mem_iff.mpr (.tail _ ?_), mid z.1 ?_⟩
      · rcases List.mem_append.mp hz with hz | hz
        · exact List.mem_append_left _ hz
        · rcases List.mem_append.mp hz with hz | hz
          · exact List.mem_append_right _ (List.mem_append_left _ hz)
          · exact List.mem_append_right _ (List.mem_append_right _ (List.mem_append_right _ hz))
      · have := List.mem_map_of_mem (f := (·.1)) hz
        rw [List.map_append, List.map_append] at this
        exact this
    have kcell : ∀ b ∈ [S.hl, i.a.seen], ∃ y ∈ [S.held, (i.a.seen, i.od)], y.1 = b := fun b hb => by
      rcases List.mem_cons.mp hb with rfl | hb
      · exact ⟨_, .head _, rfl⟩
      · obtain rfl := List.mem_singleton.mp hb
        exact ⟨_, .tail _ (.head _), rfl⟩
    have keep : ∀ z ∈ tmp ++ (fx ++ S.led w.params), z.1 ≠ S.hl → z.1 ≠ i.a.seen → h'.get? z.1 = some z.2 ∧ z.1 ≠ L ∧ base.get? z.1 = none := fun z hz n1 n2 => by
      refine ⟨k1 _ _ (fun q' => ?_) (St.N z hz).1, (St.N z hz).2⟩
      rcases List.mem_cons.mp q' with e | e
      · exact n1 e
      · exact n2 (List.mem_singleton.mp e)
    have F' : Fr base L h' m := by
      have ac := after_call (cells := [S.held, (i.a.seen, i.od)]) (out := []) (rest := []) St.F St.N (fun p hp => by
        rcases List.mem_cons.mp hp with rfl | hp
        · exact List.mem_append_right _ hheld
        · obtain rfl := List.mem_singleton.mp hp
          exact List.mem_append_right _ hseen) k1 (fun _ hp => nomatch hp) (fun _ hp => nomatch hp)
      exact ac.1
    obtain ⟨oL, _, _, hL, _⟩ := St.F.ns
    have newN : ∀ z ∈ [b.e, b.seen], z ≠ L ∧ base.get? z = none := fun z hz => by
      refine ⟨fun e => ?_, kts_none St.F.keep (k10 z hz)⟩
      have h7 := k10 z hz
      rw [e, hL] at h7; cases h7
    have tmp_hl : ∀ z ∈ tmp, z.1 ≠ S.hl ∧ z.1 ≠ i.a.seen := fun z hz => ⟨fun e => St.dis z hz _ hheld e, fun e => St.dis z hz _ hseen e⟩
    have ledN : ∀ z ∈ (S.tell k i' ⟨b, u.q, od2, [], []⟩ us' c').led w.params, h'.get? z.1 = some z.2 ∧ z.1 ≠ L ∧ base.get? z.1 = none := fun z hz => by
      have old : z ∈ u.q.cells w.params ++ ((i.r.cells w.params ++ [i.a.cell]) ++ (Bx ++ us'.flatMap fun u => u.q.cells w.params)) → h'.get? z.1 = some z.2 ∧ z.1 ≠ L ∧ base.get? z.1 = none := fun hz => by
        obtain ⟨r1, r2, r3⟩ := rest z hz
        exact keep z (List.mem_append_right _ (List.mem_append_right _ r1)) r2 r3
      rcases List.mem_cons.mp (pn.mem_iff.mp hz) with rfl | hz
      · rw [ehl]
        exact ⟨k2, (St.N _ (List.mem_append_right _ hheld)).2⟩
      · rcases List.mem_append.mp hz with hz | hz
        · rcases List.mem_append.mp hz with hz | hz
          · rw [ic] at hz
            rcases List.mem_append.mp hz with hz | hz
            · exact old (List.mem_append_right _ (List.mem_append_left _ (List.mem_append_left _ hz)))
            · rcases List.mem_cons.mp hz with rfl | hz
              · exact old (List.mem_append_right _ (List.mem_append_left _ (List.mem_append_right _ (.head _))))
              · obtain rfl := List.mem_singleton.mp hz
                exact ⟨k4, (St.N _ (List.mem_append_right _ hseen)).2⟩
          · exact old (List.mem_append_right _ (List.mem_append_right _ (List.mem_append_left _ hz)))
        · rcases List.mem_append.mp hz with hz | hz
          · rcases List.mem_append.mp (show z ∈ u.q.cells w.params ++ [b.cell, (b.seen, od2)] from hz) with hz | hz
            · exact old (List.mem_append_left _ hz)
            · rcases List.mem_cons.mp hz with rfl | hz
              · exact ⟨k3, newN _ (.head _)⟩
              · obtain rfl := List.mem_singleton.mp hz
                exact ⟨k7, newN _ (.tail _ (.head _))⟩
          · exact old (List.mem_append_right _ (List.mem_append_right _ (List.mem_append_right _ hz)))
    have hxi : i'.r.x = i.r.x := by rw [ir]
    have len' : (S.tell k i' ⟨b, u.q, od2, [], []⟩ us' c').its.length = S.its.length + 1 := by
      show (S.its.set k i' ++ [_]).length = _
      rw [List.length_append, List.length_set]; rfl
    refine ret i' ⟨b, u.q, od2, [], []⟩ us' c' h' tk' ⟨F', fun z hz => ?_, ⟨?_, fun k2 i2 h2 => ?_⟩, ?_⟩ ia ir rfl k14
    · rcases List.mem_append.mp hz with hz | hz
      · exact keep z (List.mem_append_left _ hz) (tmp_hl z hz).1 (tmp_hl z hz).2
      · rcases List.mem_append.mp hz with hz | hz
        · exact keep z (List.mem_append_right _ (List.mem_append_left _ hz)) (fx_hl z hz).1 (fx_hl z hz).2
        · exact ledN z hz
    · refine padr.nodup_iff.mpr (List.nodup_append.mpr ⟨by simpa using k11, nd, fun x hx y hy e => ?_⟩)
      obtain ⟨z, hz, rfl⟩ := List.mem_map.mp hy
      have al := alive z (List.mem_append_right _ hz)
      simp only [List.mem_cons, List.not_mem_nil, or_false] at hx
      rcases hx with rfl | rfl
      · exact al.1 e.symm
      · exact al.2 e.symm
    · rw [its_tell hkl'] at h2
      by_cases q : k2 = k
      · rw [if_pos q] at h2
        subst q
        cases h2
        have hlkD : ∀ p2 : Nat, p2 ≠ p → PySem.Spec.lookup (PyData.int p2) i'.DD = PySem.Spec.lookup (PyData.int p2) i.DD := fun p2 hne => by
          rw [← hi']
          dsimp only
          rw [lookup_putD_int, if_neg (by omega)]
        have hpe : p < i.r.els.length := (List.getElem?_eq_some_iff.mp hv).1
        refine ⟨by rw [ia, hxi]; exact io.x, by rw [ir]; exact io.ok, by rw [ir]; exact io.ty, by rw [ir, ia]; exact io.kids, by rw [ir]; exact io.small, by rw [ir]; exact io.pl, ?_, by rw [← hi']; exact k5, by rw [← hi']; exact k6, by rw [ia]; exact io.mods, fun p2 v2 hv2 => ?_, fun p2 hp2 => ?_, fun p2 x hx => ?_, fun kv hkv => ?_⟩
        · rw [len', ← hi']
          dsimp only
          rw [length_putD, hlk]
          have := io.dds
          simp only [Option.isSome_none, Bool.false_eq_true, if_false]
          omega
        · rw [ir] at hv2 ⊢
          obtain ⟨t, h1, h2⟩ := io.els p2 v2 hv2
          refine ⟨t, h1, ?_⟩
          by_cases qp : p2 = p
          · subst qp
            rw [ht] at h1
            cases h1
            rw [hv] at hv2
            cases hv2
            refine .inl ⟨S.its.length, ⟨b, u.q, od2, [], []⟩, ?_, ?_, rfl⟩
            · rw [← hi']
              dsimp only
              rw [lookup_putD_int, if_pos rfl, List.length_map]
            · rw [its_tell hkl', if_neg (by omega), if_neg (by omega), if_pos rfl]
          · exact h2.tell hi hxi hui hup us2 (fun z => qp z.2) (hlkD p2 qp)
        · rw [ir] at hp2
          rw [hlkD p2 (by omega)]
          exact io.lk p2 hp2
        · rw [ir]
          by_cases qp : p2 = p
          · subst qp
            exact ⟨ts, ht⟩
          · rw [hlkD p2 qp] at hx
            exact io.tn p2 x hx
        · have hkv' : kv ∈ PySem.stored i.kvs (p : Int) (.int ((S.its.map (·.a)).length : Int) tv) := by rw [← hi'] at hkv; exact hkv
          rw [stored_absent (io.flat.none_of_lookup PyProof.V.same_int hlk)] at hkv'
          rw [ir]
          rcases List.mem_append.mp hkv' with h | h
          · exact io.keys kv h
          · obtain rfl := List.mem_singleton.mp h
            exact ⟨p, rfl, hpe⟩
      · rw [if_neg q] at h2
        by_cases q2 : k2 < S.its.length
        · rw [if_pos q2] at h2
          have io2 := St.I.it k2 i2 h2
          exact ⟨io2.x, io2.ok, io2.ty, io2.kids, io2.small, io2.pl, by rw [len']; have := io2.dds; omega, io2.dict, io2.flat, io2.mods, fun p2 v hv => (io2.els p2 v hv).imp fun t ⟨h1, h2⟩ => ⟨h1, h2.tell hi hxi hui hup us2 (fun z => q z.1) rfl⟩, io2.lk, io2.tn, io2.keys⟩
        · rw [if_neg q2] at h2
          by_cases q3 : k2 = S.its.length
          · rw [if_pos q3] at h2
            cases h2
            have htm : Tr.node ts ∈ i.r.kids := List.mem_of_getElem? ht
            have hplt : ∀ t ∈ ts, t.plain := plains_iff.mp (io.pl hs0 _ htm)
            exact ⟨k12, uok, ⟨[], .inl ⟨used, rfl, fun t ht => by rw [ukids] at ht; exact noNum_plain (hplt t ht)⟩, (fun _ h => nomatch h), List.nodup_nil⟩, by
              show KV fx u.q.kids b.kids
              rw [k13, ukids]
              exact ⟨kd, vs2, c2, rfl, hm, hl2, fun p t v h1 h2 => repK_of (hR2 p t v h1 h2) (hplt t (List.mem_of_getElem? h1))⟩, by show u.q.kids.length < _; rw [ukids]; exact kid_small io.ok htm, fun _ => by show ∀ t ∈ u.q.kids, t.plain; rw [ukids]; exact hplt, Nat.zero_le _, k8, by constructor, k9, fun p v hv => (by
              have hv' : u.q.els[p]? = some v := hv
              rw [uels] at hv'; simp at hv'), fun p _ => rfl, (fun p x h => by cases h), fun kv h => nomatch h⟩
          · rw [if_neg q3] at h2; cases h2
    · intro z hz y hy e
      have hy2 := padr.mem_iff.mp (List.mem_map_of_mem (f := (·.1)) hy)
      rcases List.mem_append.mp hy2 with h | h
      · have al := alive z (List.mem_append_left _ hz)
        simp only [List.mem_cons, List.not_mem_nil, or_false] at h
        rcases h with h | h
        · exact al.1 (e.trans h)
        · exact al.2 (e.trans h)
      · obtain ⟨y2, hy2, e2⟩ := List.mem_map.mp h
        exact St.dis z hz y2 hy2 (e.trans e2.symm)
end
end Mine
end

section
theorem Mine.quietState11 : True := by
  w_top off
  trivial
open PySem PySem.W PySem.Spec PySem.Calls PyProof.Rows
set_option Elab.async false
set_option maxRecDepth 100000
set_option maxHeartbeats 8000000
namespace Mine
def Sta.count (S : Sta) (k : Nat) (i : Item) (c : Nat) (t : Tok) : Sta := { S with its := S.its.set k { i with a := { i.a with cnt := c, ct := t } } }
theorem Place.upd {S S' : Sta} (h : ∀ (j : Nat) ij, S.its[j]? = some ij → ∃ ij', S'.its[j]? = some ij' ∧ ij'.r.x = ij.r.x) (hu : ∀ u ∈ S.us, u ∈ S'.us) {k p : Nat} {DD : List (PyData × PyData)} {t : Tr} {v : Value} (P : Place S k p DD t v) : Place S' k p DD t v := by
  cases t with
  | leaf b => exact P
  | num n => exact P
  | node ts =>
    rcases P with ⟨j, ij, h1, h2, h3⟩ | ⟨h1, u, hm, r⟩
    · obtain ⟨ij', e1, e2⟩ := h j ij h2
      exact .inl ⟨j, ij', h1, e1, by rw [e2]; exact h3⟩
    · exact .inr ⟨h1, u, hu u hm, r⟩
theorem its_count {S : Sta} {k : Nat} {i : Item} {c : Nat} {t : Tok} (hi : S.its[k]? = some i) (j : Nat) : (S.count k i c t).its[j]? = if j = k then some { i with a := { i.a with cnt := c, ct := t } } else S.its[j]? := by
  have hlt : k < S.its.length := by
    rcases Nat.lt_or_ge k S.its.length with q | q
    · exact q
    · rw [List.getElem?_eq_none q] at hi; cases hi
  show (S.its.set k _)[j]? = _
  by_cases q : j = k
  · subst q; rw [if_pos rfl, List.getElem?_set_self hlt]
  · rw [if_neg q, List.getElem?_set_ne (Ne.symm q)]
theorem held_count {S : Sta} {k : Nat} {i : Item} {c : Nat} {t : Tok} (hi : S.its[k]? = some i) : (S.count k i c t).held = S.held := by
  unfold Sta.held
  have : ((S.count k i c t).its.map fun i => Value.ref i.a.e) = S.its.map fun i => Value.ref i.a.e := by
    refine List.ext_getElem? fun n => ?_
    rw [List.getElem?_map, its_count hi, List.getElem?_map]
    by_cases q : n = k
    · subst q; rw [if_pos rfl, hi]; rfl
    · rw [if_neg q]
  rw [this]; rfl
section
variable {prog : Program} {w : World} {fx tmp : List (Addr × Obj)} {base : Heap} {L : Addr} {m : Str → Option Value} {S : Sta} {k : Nat} {i : Item} {s : Shared} {A : Around} {E : Value → Shared → Prop}
theorem LawSt.count {h h' : Heap} {c : Nat} {t : Tok} (St : LawSt w fx tmp base L m S h) (hi : S.its[k]? = some i) (F' : Fr base L h' m) (H : h'.get? i.a.e = some ({ i.a with cnt := c, ct := t } : Ent).obj) (O : ∀ b, b ≠ i.a.e → h'.get? b = h.get? b) :
    LawSt w fx tmp base L m (S.count k i c t) h' := by
  obtain ⟨B, b1, b2⟩ := flatMap_set (Item.cells w.params) hi
  generalize hi' : ({ i with a := { i.a with cnt := c, ct := t } } : Item) = i' at b2
  have ea : i'.a.e = i.a.e := by rw [← hi']
  have pm : (S.led w.params).Perm (i.a.cell :: (S.held :: (i.r.cells w.params ++ ((i.a.seen, i.od) :: (B ++ S.us.flatMap fun u => u.q.cells w.params))))) := by
    unfold Sta.led
    refine (List.Perm.cons _ (b1.append_right _)).trans ?_
    unfold Item.cells
    classical
    refine List.perm_iff_count.mpr fun x => ?_
    simp only [List.count_append, List.count_cons, List.count_nil]
    omega
  have pm' : ((S.count k i c t).led w.params).Perm (i'.a.cell :: (S.held :: (i.r.cells w.params ++ ((i.a.seen, i.od) :: (B ++ S.us.flatMap fun u => u.q.cells w.params))))) := by
    unfold Sta.led
    rw [held_count hi]
    have e : (S.count k i c t).its = S.its.set k i' := by rw [← hi']; rfl
    rw [e]
    refine (List.Perm.cons _ ((b2 i').append_right _)).trans ?_
    have ec : i'.cells w.params = i.r.cells w.params ++ [i'.a.cell, (i.a.seen, i.od)] := by rw [← hi']; rfl
    rw [ec]
    show (S.held :: (_ ++ S.us.flatMap fun u => u.q.cells w.params)).Perm _
    classical
    refine List.perm_iff_count.mpr fun x => ?_
    simp only [List.count_append, List.count_cons, List.count_nil]
    omega
  have padr : ((fx ++ (S.count k i c t).led w.params).map (·.1)).Perm ((fx ++ S.led w.params).map (·.1)) := by
    refine ((pm'.append_left fx).map _).trans (List.Perm.trans ?_ (((pm.append_left fx).map (·.1)).symm))
    simp only [List.map_append, List.map_cons]
    rw [show i'.a.cell.1 = i.a.cell.1 from ea]
  have nd := St.I.nd
  have hc : i.a.cell ∈ fx ++ S.led w.params := List.mem_append_right _ (in_led hi _ (List.mem_append_right _ (.head _)))
  have rest : ∀ z ∈ tmp ++ (fx ++ (S.count k i c t).led w.params), z = i'.a.cell ∨ (z ∈ tmp ++ (fx ++ S.led w.params) ∧ z.1 ≠ i.a.e) := fun z hz => by
    rcases List.mem_append.mp hz with hz | hz
    · exact .inr ⟨List.mem_append_left _ hz, fun e => St.dis z hz _ hc e⟩
    · have nd2 : (i.a.e :: (fx.map (·.1) ++ ((S.held :: (i.r.cells w.params ++ ((i.a.seen, i.od) :: (B ++ S.us.flatMap fun u => u.q.cells w.params)))).map (·.1)))).Nodup := by
        have := ((pm.append_left fx).map (·.1)).nodup_iff.mp nd
        rw [List.map_append, List.map_cons] at this
        exact (List.perm_middle).nodup_iff.mp this
      rw [List.nodup_cons] at nd2
      rcases List.mem_append.mp hz with hz | hz
      · exact .inr ⟨List.mem_append_right _ (List.mem_append_left _ hz), fun e => nd2.1 (e ▸ List.mem_append_left _ (List.mem_map_of_mem hz))⟩
      · rcases List.mem_cons.mp (pm'.mem_iff.mp hz) with hz | hz
        · exact .inl hz
        · exact .inr ⟨List.mem_append_right _ (List.mem_append_right _ (pm.mem_iff.mpr (.tail _ hz))), fun e => nd2.1 (e ▸ List.mem_append_right _ (List.mem_map_of_mem hz))⟩
  refine ⟨F', fun z hz => ?_, ⟨padr.nodup_iff.mpr nd, fun k2 i2 h2 => ?_⟩, fun z hz y hy e => ?_⟩
  · rcases rest z hz with rfl | ⟨h1, h2⟩
    · have n := (St.N _ (List.mem_append_right _ hc)).2
      refine ⟨?_, by rw [show i'.a.cell.1 = i.a.cell.1 from ea]; exact n.1, by rw [show i'.a.cell.1 = i.a.cell.1 from ea]; exact n.2⟩
      show h'.get? i'.a.e = _
      rw [ea, H, ← hi']; rfl
    · exact ⟨(O _ h2).trans (St.N z h1).1, (St.N z h1).2⟩
  · have mono : ∀ {k2 p : Nat} {DD : List (PyData × PyData)} {tr : Tr} {v : Value}, Place S k2 p DD tr v → Place (S.count k i c t) k2 p DD tr v := fun P => Place.upd (S := S) (S' := S.count k i c t) (fun j ij hj => by
      rw [its_count hi]
      by_cases q : j = k
      · subst q
        rw [hi] at hj; cases hj
        exact ⟨_, if_pos rfl, rfl⟩
      · exact ⟨ij, by rw [if_neg q]; exact hj, rfl⟩) (fun u hu => hu) P
    have ln : (S.count k i c t).its.length = S.its.length := List.length_set ..
    rw [its_count hi] at h2
    by_cases q : k2 = k
    · rw [if_pos q] at h2
      subst q
      cases h2
      have io := St.I.it k2 i hi
      exact ⟨io.x, io.ok, io.ty, io.kids, io.small, io.pl, by rw [ln]; exact io.dds, io.dict, io.flat, io.mods, fun p v hv => (io.els p v hv).imp fun t ⟨h1, h2⟩ => ⟨h1, mono h2⟩, io.lk, io.tn, io.keys⟩
    · rw [if_neg q] at h2
      have io := St.I.it k2 i2 h2
      exact ⟨io.x, io.ok, io.ty, io.kids, io.small, io.pl, by rw [ln]; exact io.dds, io.dict, io.flat, io.mods, fun p v hv => (io.els p v hv).imp fun t ⟨h1, h2⟩ => ⟨h1, mono h2⟩, io.lk, io.tn, io.keys⟩
  · have := padr.mem_iff.mp (List.mem_map_of_mem (f := (·.1)) hy)
    obtain ⟨y2, hy2, e2⟩ := List.mem_map.mp this
    exact St.dis z hz y2 hy2 (e.trans e2.symm)
theorem st_count {Q : Unit → Shared → Prop} {c : Nat} {x : Int} {e : Addr} {t t' : Tok} (St : LawSt w fx tmp base L m S s.heap) (hi : S.its[k]? = some i) (hx : x = (c : Int)) (he : e = i.a.e)
    (h : ∀ h', LawSt w fx tmp base L m (S.count k i c t') h' → Q () { s with heap := h' }) : wpAny (model prog w) A (setItem (.ref e) (.int 2 t) (.int x t')) Q E s := by
  subst hx he
  have z := St.N i.a.cell (List.mem_append_right _ (List.mem_append_right _ (in_led hi _ (List.mem_append_right _ (.head _)))))
  have z1 : s.heap.get? i.a.e = some (W.listOf ([.ref i.a.x, i.a.kids, .int (i.a.cnt : Int) i.a.ct, .ref i.a.seen] : List Value).toArray i.a.n) := z.1
  refine W.ki_setAt (k := 2) z1 (by decide) (by decide) (by show (2 : Int) < ((4 : Nat) : Int); decide) (h _ (St.count hi (St.F.change (Heap.SameBut.update ..) z.2.1 z.2.2) ?_ fun b n => Heap.get?_update_other _ _ (Ne.symm n)))
  exact Heap.get?_update_self _ z1 rfl
end
end Mine
end

section
theorem Mine.quietState12 : True := by
  w_top off
  trivial
open PySem PySem.W PySem.Spec PySem.Calls PyProof.Rows
set_option Elab.async false
set_option maxRecDepth 100000
set_option maxHeartbeats 8000000
namespace Mine
/-- each row's count is how far it was read -/
def Cnt (S : Sta) : Prop := ∀ (k : Nat) i, S.its[k]? = some i → i.a.cnt = i.r.els.length
/-- what no deed changes -/
structure Evo (S S' : Sta) : Prop where
  hl : S'.hl = S.hl
  keep : ∀ (j : Nat) ij, S.its[j]? = some ij → ∃ ij', S'.its[j]? = some ij' ∧ ij'.r.kids = ij.r.kids
theorem Evo.refl {S : Sta} : Evo S S := ⟨rfl, fun _ ij h => ⟨ij, h, rfl⟩⟩
theorem Evo.trans {S S' S'' : Sta} (a : Evo S S') (b : Evo S' S'') : Evo S S'' := ⟨b.hl.trans a.hl, fun j ij h => by
  obtain ⟨i1, h1, e1⟩ := a.keep j ij h
  obtain ⟨i2, h2, e2⟩ := b.keep j i1 h1
  exact ⟨i2, h2, e2.trans e1⟩⟩
theorem Evo.read {S : Sta} {k : Nat} {i : Item} {r' : Row} {nu : List Un} (hi : S.its[k]? = some i) (h : r'.kids = i.r.kids) : Evo S (S.read k i r' nu) := ⟨rfl, fun j ij hj => by
  rw [its_read hi]
  by_cases q : j = k
  · subst q
    rw [hi] at hj; cases hj
    exact ⟨_, if_pos rfl, h⟩
  · exact ⟨ij, by rw [if_neg q]; exact hj, rfl⟩⟩
theorem Evo.count {S : Sta} {k c : Nat} {i : Item} {t : Tok} (hi : S.its[k]? = some i) : Evo S (S.count k i c t) := ⟨rfl, fun j ij hj => by
  rw [its_count hi]
  by_cases q : j = k
  · subst q
    rw [hi] at hj; cases hj
    exact ⟨_, if_pos rfl, rfl⟩
  · exact ⟨ij, by rw [if_neg q]; exact hj, rfl⟩⟩
theorem Evo.add {S : Sta} {n : Item} {c : Nat} : Evo S (S.add n c) := ⟨rfl, fun j ij hj => ⟨ij, by
  have hlt : j < S.its.length := by
    rcases Nat.lt_or_ge j S.its.length with q | q
    · exact q
    · rw [List.getElem?_eq_none q] at hj; cases hj
  show (S.its ++ [n])[j]? = _
  rw [List.getElem?_append_left hlt]; exact hj, rfl⟩⟩
/-- a telling: item k stays as it was but for what it was told, and one row more may be held -/
structure Grow (k : Nat) (i : Item) (S S' : Sta) : Prop where
  evo : Evo S S'
  here : ∃ i', S'.its[k]? = some i' ∧ i'.a = i.a ∧ i'.r = i.r
  old : ∀ (j : Nat) ij, S'.its[j]? = some ij → j ≠ k → S.its[j]? = some ij ∨ ij.a.cnt = ij.r.els.length
  le : S.its.length ≤ S'.its.length
  le1 : S'.its.length ≤ S.its.length + 1
theorem Grow.refl {k : Nat} {i : Item} {S : Sta} (h : S.its[k]? = some i) : Grow k i S S := ⟨Evo.refl, ⟨i, h, rfl, rfl⟩, fun _ _ h _ => .inl h, Nat.le_refl _, Nat.le_succ _⟩
theorem cnt_step {S S2 : Sta} {k c : Nat} {i i1 i2 : Item} {r' : Row} {nu : List Un} {t : Tok} (hct : Cnt S) (hi : S.its[k]? = some i) (G : Grow k i1 (S.read k i r' nu) S2) (hi2 : S2.its[k]? = some i2) (hc : i2.r.els.length = c) : Cnt (S2.count k i2 c t) := by
  intro j ij hj
  rw [its_count hi2] at hj
  by_cases q : j = k
  · rw [if_pos q] at hj
    cases hj
    exact hc.symm
  · rw [if_neg q] at hj
    rcases G.old j ij hj q with h | h
    · rw [its_read hi, if_neg q] at h
      exact hct j ij h
    · exact h
theorem len_count {S : Sta} {k c : Nat} {i : Item} {t : Tok} : (S.count k i c t).its.length = S.its.length := List.length_set ..
theorem len_read {S : Sta} {k : Nat} {i : Item} {r' : Row} {nu : List Un} : (S.read k i r' nu).its.length = S.its.length := List.length_set ..
section
variable {w : World} {mean : ExcName → Option Value} {mg mb : Str → Option Value} {fx tmp : List (Addr × Obj)} {base : Heap} {L : Addr} {m : Str → Option Value} {S : Sta} {k : Nat} {i : Item} {s : Shared} {Q E : Value → Shared → Prop} {d u0 : Nat} {env : Env}
theorem st_tell {p : Nat} {v : Value} {th tp : Tok} (AM : Amb w mean mg mb base) (B : Below (topA d u0 []) base [] base) (St : LawSt w fx tmp base L m S s.heap) (hi : S.its[k]? = some i) (hf : env.frame = some L) (hk : env.scope.kind = .function)
    (hv : i.r.els[p]? = some v) (hits : S.its.length < 9999)
    (ret : ∀ S' h' tk', LawSt w fx tmp base L m S' h' → Grow k i S S' → Q (.bool true) {s with heap := h', toks := tk'}) :
    wpAny (model PRG w) (topA 400 1600 [env]) (call (.ref 240) [.ref S.hl, .int (k : Int) th, .int (p : Int) tp, v]) Q E s := by
  have io := St.I.it k i hi
  obtain ⟨t, ht, P⟩ := io.els p v hv
  have hkl' : k < S.its.length := by
    rcases Nat.lt_or_ge k S.its.length with q | q
    · exact q
    · rw [List.getElem?_eq_none q] at hi; cases hi
  have same : ∀ h' tk', LawSt w fx tmp base L m S h' → Q (.bool true) {s with heap := h', toks := tk'} := fun h' tk' St' => ret S h' tk' St' (Grow.refl hi)
  cases t with
  | leaf b => exact st_told AM B St hi hf hk ht P (by omega) same
  | num n => exact st_told AM B St hi hf hk ht P (by omega) same
  | node ts =>
    rcases P with P | ⟨hlk, u, hu, hui, hup, rfl, uok, ukids, uels, ulen, used⟩
    · exact st_told AM B St hi hf hk ht P (by omega) same
    · have hs0 : i.r.sed = none := by
        obtain ⟨ro, ty, _⟩ := io.ty
        rcases ty with ⟨h, _⟩ | ⟨_, _, _, _, _, _, _, _, hn⟩
        · exact h
        · exact (hn _ (List.mem_of_getElem? ht)).elim
      refine st_tellnew AM B St hi hf hk ht hv hu hui hup hlk uok ukids uels ulen used hs0 hits fun i' n us' c' h' tk' St' ia ir nr nc => ret _ h' tk' St' ⟨⟨rfl, fun j ij hj => ?_⟩, ⟨i', ?_, ia, ir⟩, fun j ij hj hne => ?_, ?_, ?_⟩
      · rw [its_tell hkl']
        by_cases q : j = k
        · subst q
          rw [hi] at hj; cases hj
          exact ⟨i', if_pos rfl, by rw [ir]⟩
        · have hlt : j < S.its.length := by
            rcases Nat.lt_or_ge j S.its.length with q | q
            · exact q
            · rw [List.getElem?_eq_none q] at hj; cases hj
          exact ⟨ij, by rw [if_neg q, if_pos hlt]; exact hj, rfl⟩
      · rw [its_tell hkl', if_pos rfl]
      · rw [its_tell hkl', if_neg hne] at hj
        by_cases q : j < S.its.length
        · rw [if_pos q] at hj; exact .inl hj
        · rw [if_neg q] at hj
          by_cases q2 : j = S.its.length
          · rw [if_pos q2] at hj
            cases hj
            rw [nr, nc, uels]
            exact .inr rfl
          · rw [if_neg q2] at hj; cases hj
      · show _ ≤ (S.its.set k i' ++ [n]).length
        rw [List.length_append, List.length_set]; omega
      · show (S.its.set k i' ++ [n]).length ≤ _
        rw [List.length_append, List.length_set]; simp
end
end Mine
end

section
theorem Mine.quietLawB : True := by
  w_top off
  trivial
open PySem PySem.W PySem.Spec PySem.Calls PyProof.Rows
set_option Elab.async false
set_option maxRecDepth 100000
set_option maxHeartbeats 8000000
namespace Mine
def bodyOf : Stmt → List Stmt
  | .FunctionDef _ _ b _ _ _ _ _ _ _ => b
  | .For _ _ b _ _ => b
  | .If _ b _ _ => b
  | _ => []
def elseOf : Stmt → List Stmt
  | .If _ _ b _ => b
  | _ => []
def scopeOf : Stmt → Scope
  | .FunctionDef _ _ _ _ _ _ sc _ _ _ => sc
  | _ => ⟨.function, [], false, false, []⟩
def nth (l : List Stmt) (n : Nat) : Stmt := l.getD n (.Pass ⟨0, 0, 0, 0⟩)
def lawDef : Stmt := nth Challenge.pw_sx0040_01.main.body.reverse 0
def lawBody : List Stmt := bodyOf lawDef
def lawScope : Scope := scopeOf lawDef
def lawLoop : List Stmt := bodyOf (nth lawBody 10)
def lawIf0 : Stmt := nth lawLoop 6
def lawIf1 : Stmt := nth (elseOf lawIf0) 0
def lawIf2 : Stmt := nth (elseOf lawIf1) 0
def lawD0 : List Stmt := bodyOf lawIf0
def lawD1 : List Stmt := bodyOf lawIf1
def lawD2 : List Stmt := bodyOf lawIf2
def lawD3 : List Stmt := elseOf lawIf2
abbrev lenv (L fa c : Addr) (cd : Value) : Env := envX (Str.ofString "law") lawScope L fa cd [(Str.ofString "left", c)]
/-- the names of a turn -/
abbrev dmap (p : Nat) (tp : Tok) (cnt : Nat) (tc : Tok) (kv : Value) (x : Addr) (rest : Int) (tr : Tok) (k : Nat) (th : Tok) (hl : Addr) (ρ : Str → Option Value) : Str → Option Value := fun y =>
  if y = Str.ofString "place" then some (.int (p : Int) tp) else if y = Str.ofString "count" then some (.int (cnt : Int) tc) else if y = Str.ofString "kids" then some kv else if y = Str.ofString "row" then some (.ref x)
    else if y = Str.ofString "rest" then some (.int rest tr) else if y = Str.ofString "h" then some (.int (k : Int) th) else if y = Str.ofString "held" then some (.ref hl) else ρ y
theorem LawSt.view {w : World} {fx tmp : List (Addr × Obj)} {base : Heap} {L : Addr} {m : Str → Option Value} {S : Sta} {h : Heap} {k : Nat} {i : Item} {ka : Addr} {kv : List Value} {n0 : Nat} (St : LawSt w fx tmp base L m S h) (hi : S.its[k]? = some i) (hka : i.a.kids = .ref ka) (hkf : (ka, W.listOf kv.toArray n0) ∈ fx) :
    ∃ all, all = tmp ++ (fx ++ S.led w.params) ∧ News base L h all ∧ News base L h (i.r.cells w.params ++ all) ∧ (S.hl, W.listOf ((S.its.map (·.a)).map fun a => Value.ref a.e).toArray S.c) ∈ all ∧ (i.a.e, W.listOf ([.ref i.a.x, .ref ka, .int (i.a.cnt : Int) i.a.ct, .ref i.a.seen] : List Value).toArray i.a.n) ∈ all ∧
      (ka, W.listOf kv.toArray n0) ∈ all ∧ ((S.its.map (·.a)).map fun a => Value.ref a.e)[k]? = some (.ref i.a.e) := by
  refine ⟨_, rfl, St.N, fun z hz => St.N z ((List.mem_append.mp hz).elim (fun hz => List.mem_append_right _ (List.mem_append_right _ (in_led hi z (List.mem_append_left _ hz)))) id), ?_, List.mem_append_right _ (List.mem_append_right _ (cell_in hi hka)), List.mem_append_right _ (List.mem_append_left _ hkf), ent_at hi⟩
  rw [← held_eq]
  exact List.mem_append_right _ (List.mem_append_right _ (.head _))
end Mine
end

section
theorem Mine.quietDeed0 : True := by
  w_top off
  trivial
open PySem PySem.W PySem.Spec PySem.Calls PyProof.Rows
set_option Elab.async false
set_option maxRecDepth 100000
set_option maxHeartbeats 8000000
namespace Mine
theorem filled20 (w : World) (h : Heap) (X : (Mine.hd.heap_39 w.params).In h) : Challenge.rw_sx0040_01 = Challenge.rw_sx0040_01 := by
  revert X; k_fill; intro _; rfl
local macro_rules | `(tactic| tb_start) => `(tactic| repeat' ((fail_if_success (with_reducible show wpAny _ _ (call (Value.ref 142) _) _ _ _)); (fail_if_success (with_reducible show wpAny _ _ (call (Value.ref 240) _) _ _ _)); (fail_if_success (with_reducible show wpAny _ _ (exec (Stmt.While _ _ _ _) _) _ _ _)); (fail_if_success (with_reducible show wpAny _ _ (exec (Stmt.For _ _ _ _ _) _) _ _ _)); (fail_if_success (with_reducible show wpAny _ _ (pyIter _) _ _ _)); first | (k_unfold; (try dsimp only)) | (k_end; wrow_close) | walk1 | (dsimp only; walk1) | (leave1; walk_say "STEP leave1"; try dsimp only) | fail "no step"))
local macro_rules | `(tactic| walk_at "idle line") => `(tactic| skip)
local macro_rules | `(tactic| walk_at "idle line") => `(tactic| skip)
local macro_rules | `(tactic| walk_at "idle line") => `(tactic| skip)
local macro_rules | `(tactic| walk_at "idle line") => `(tactic| skip)
local macro_rules | `(tactic| walk_at "idle line") => `(tactic| skip)
local macro_rules | `(tactic| walk_at "idle line") => `(tactic| skip)
local macro_rules | `(tactic| walk_at "idle line") => `(tactic| skip)
local macro_rules | `(tactic| walk_at "idle line") => `(tactic| skip)
local macro_rules | `(tactic| walk_at "idle line") => `(tactic| skip)
local macro_rules | `(tactic| walk_at "idle line") => `(tactic| skip)
local macro_rules | `(tactic| walk_at "idle line") => `(tactic| skip)
local macro_rules | `(tactic| walk_at "idle line") => `(tactic| skip)
local macro_rules | `(tactic| walk_at "idle line") => `(tactic| skip)
local macro_rules | `(tactic| walk_at "idle line") => `(tactic| skip)
local macro_rules | `(tactic| walk_at "idle line") => `(tactic| skip)
local macro_rules | `(tactic| walk_at "idle line") => `(tactic| skip)
local macro_rules | `(tactic| walk_at "idle line") => `(tactic| skip)
local macro_rules | `(tactic| walk_at "subscriptTail") => `(tactic| (k_here; (with_reducible show wpAny _ _ (subscriptTail _ _ (Value.ref _) (Value.int _ _)) _ _ _); k_dflt (first
  | (refine' item_nat ?k1 ?k2 ?k3 ?k4 ?k5 ?_; (case k1 => k_asm); (case k2 => assumption); (case k3 => rfl); (case k4 => assumption); (case k5 => omega); k_whole))))
local macro_rules | `(tactic| walk_at "call builtin:len") => `(tactic| (k_here; (with_reducible show wpAny _ _ (call (Value.builtin _) [Value.ref _]) _ _ _); k_dflt (refine' len_L ?k1 ?k2 ?k3 ?_; (case k1 => k_asm); (case k2 => assumption); (case k3 => assumption); k_whole)))
local macro_rules | `(tactic| walk_at "exec Try") => `(tactic| ((with_reducible show wpAny _ _ (exec (Stmt.Try _ (_ :: _) _ [] _) _) _ _ _); refine wpAny_Try_except ?_))
theorem deed0_in {w : World} {mean : ExcName → Option Value} {mg mb : Str → Option Value} {fx tmp : List (Addr × Obj)} {base : Heap} {L fa c : Addr} {cd : Value} {S : Sta} {k p : Nat} {i : Item} {rest : Int} {tp tc tr th : Tok} {ρ : Str → Option Value} {s : Shared} {Q : Flow → Shared → Prop}
    (AM : Amb w mean mg mb base) (B' : Below (topA 350 1400 []) base [] base) (St : LawSt w fx tmp base L (dmap p tp i.a.cnt tc i.a.kids i.r.x rest tr k th S.hl ρ) S s.heap) (hi : S.its[k]? = some i) (hits : S.its.length < 9999) (hct : Cnt S) (hp : p < i.r.kids.length)
    (ret : ∀ S' m' h' tk', LawSt w fx tmp base L m' S' h' → (∀ y, y ≠ Str.ofString "got" → y ≠ Str.ofString "came" → m' y = dmap p tp i.a.cnt tc i.a.kids i.r.x rest tr k th S.hl ρ y) → Cnt S' → Evo S S' → S'.its.length ≤ S.its.length + 1 → Q .next {s with heap := h', toks := tk'}) :
    wpAny (model PRG w) ((topA 350 1400 []).deeper (lenv L fa c cd)) (execs lawD0 (lenv L fa c cd)) Q (fun _ _ => False) s := by
  have X' := AM.X
  have T' := AM.T
  have io := St.I.it k i hi
  obtain ⟨ka, kv, n0, hka, hkf, hkl, hkr⟩ := io.kids
  have F := St.F
  obtain ⟨all, hall, N0, N, mh, me, mk, eat⟩ := St.view hi hka hkf
  simp only [Row.cells, Row.dict, rowD, List.cons_append, List.nil_append] at N
  rw [hka] at F
  delta dmap at F
  (try dsimp only at F)
  show wpAny _ _ (execs (_ :: _) _) _ _ _
  have esc : lawScope = lawScope := rfl
  conv at esc => rhs; whnf
  delta lenv
  rw [esc]
  tb_start
  refine wk (d := 450) (u := 1800) (Nat.le_of_ble_eq_true rfl) (Nat.le_of_ble_eq_true rfl) ?_
  refine st_item AM B' St hi rfl rfl hp fun v r' nu h1 tk1 St1 e1 e2 e3 => ?_
  have hi1 : (S.read k i r' nu).its[k]? = some { i with r := r' } := by rw [its_read hi, if_pos rfl]
  clear F N N0 mh me mk eat
  obtain ⟨all1, hall1, N0, N, mh, me, mk, eat⟩ := St1.view hi1 hka hkf
  have F := St1.F
  rw [hka] at F
  delta dmap at F
  (try dsimp only at F)
  have me : (i.a.e, W.listOf ([.ref i.a.x, .ref ka, .int (i.a.cnt : Int) i.a.ct, .ref i.a.seen] : List Value).toArray i.a.n) ∈ all1 := me
  have eat : _ = some (Value.ref i.a.e) := eat
  have hsm := io.small
  have hkl2 : kv.length < 2 ^ 62 := by omega
  have hk2 : k < 10000 := by
    rcases Nat.lt_or_ge k S.its.length with q | q
    · omega
    · rw [List.getElem?_eq_none q] at hi; cases hi
  clear N
  tb_start
  all_goals (try (rename ((true != decide _) = true) => ha; exfalso; revert ha; simp; omega))
  rename Fr _ _ _ _ => F₁
  rename News _ _ _ _ => N₁
  refine wk (d := 400) (u := 1600) (Nat.le_of_ble_eq_true rfl) (Nat.le_of_ble_eq_true rfl) ?_
  refine st_tell (S := S.read k i r' nu) AM B' ⟨F₁, hall1 ▸ N₁, St1.I, St1.dis⟩ hi1 rfl rfl e3 (by show (S.its.set _ _).length < _; rw [List.length_set]; exact hits) fun S2 h2 tk2 St2 G2 => ?_
  obtain ⟨g1, ⟨i2, hi2, g2, g3⟩, g4, g5, g6⟩ := G2
  have g0 := g1
  have g1 : S2.hl = S.hl := g1.hl
  have g2 : i2.a = i.a := g2
  have g3 : i2.r = r' := g3
  clear F₁ N₁ mh me mk eat
  obtain ⟨all2, hall2, N0, N, mh, me, mk, eat⟩ := St2.view hi2 (g2 ▸ hka) hkf
  rw [g1] at mh
  rw [g2] at me eat
  clear N
  have F := St2.F
  (try dsimp only at F)
  tb_start
  rename Fr _ _ _ _ => F₁
  rename News _ _ _ _ => N₁
  have hcnt := hct k i hi
  refine st_count (S := S2) (c := max i.a.cnt (p + 1)) ⟨F₁, hall2 ▸ N₁, St2.I, St2.dis⟩ hi2 ?_ (by rw [g2]) fun h3 St3 => ?_
  · split <;> omega
  · tb_start
    refine ret _ _ _ _ St3 (fun y h1 h2 => ?_) (cnt_step (i1 := { i with r := r' }) hct hi ⟨g0, ⟨i2, hi2, g2, g3⟩, g4, g5, g6⟩ hi2 ?_) (((Evo.read hi e2).trans g0).trans (Evo.count hi2)) ?_
    · dsimp only [dmap]
      rw [if_neg h2, if_neg h1, hka]
    · rw [g3, e1, hcnt]
    · rw [len_count]; rw [len_read] at g6; exact g6
theorem deed0_out {w : World} {mean : ExcName → Option Value} {mg mb : Str → Option Value} {fx tmp : List (Addr × Obj)} {base : Heap} {L fa c : Addr} {cd : Value} {S : Sta} {k p : Nat} {i : Item} {rest : Int} {tp tc tr th : Tok} {ρ : Str → Option Value} {s : Shared} {Q : Flow → Shared → Prop}
    (AM : Amb w mean mg mb base) (B' : Below (topA 350 1400 []) base [] base) (St : LawSt w fx tmp base L (dmap p tp i.a.cnt tc i.a.kids i.r.x rest tr k th S.hl ρ) S s.heap) (hi : S.its[k]? = some i) (hits : S.its.length < 9999) (hct : Cnt S) (hp : i.r.kids.length ≤ p) (hp2 : p < 65536)
    (ret : ∀ S' m' h' tk', LawSt w fx tmp base L m' S' h' → (∀ y, y ≠ Str.ofString "got" → y ≠ Str.ofString "came" → m' y = dmap p tp i.a.cnt tc i.a.kids i.r.x rest tr k th S.hl ρ y) → Cnt S' → Evo S S' → S'.its.length ≤ S.its.length + 1 → Q .next {s with heap := h', toks := tk'}) :
    wpAny (model PRG w) ((topA 350 1400 []).deeper (lenv L fa c cd)) (execs lawD0 (lenv L fa c cd)) Q (fun _ _ => False) s := by
  have X' := AM.X
  have T' := AM.T
  have io := St.I.it k i hi
  obtain ⟨ka, kv, n0, hka, hkf, hkl, hkr⟩ := io.kids
  have F := St.F
  obtain ⟨all, hall, N0, N, mh, me, mk, eat⟩ := St.view hi hka hkf
  simp only [Row.cells, Row.dict, rowD, List.cons_append, List.nil_append] at N
  rw [hka] at F
  delta dmap at F
  (try dsimp only at F)
  show wpAny _ _ (execs (_ :: _) _) _ _ _
  have esc : lawScope = lawScope := rfl
  conv at esc => rhs; whnf
  delta lenv
  rw [esc]
  tb_start
  refine wk (d := 450) (u := 1800) (Nat.le_of_ble_eq_true rfl) (Nat.le_of_ble_eq_true rfl) ?_
  refine st_item_out AM B' St hi rfl hp hp2 fun e r' nws h1 tk1 G R1 FG RS U e1 => ?_
  refine caught_X (T' := "IndexError") RS FG B' U AM.X AM.T KtsTurn.refl ?_ ?_ ?_ ?_ ?_ ?_ ?_ ?_
  · k_is
  · boot_by_name
  · decide
  · rw [isSubtype_type]; kernel_rfl
  · rw [show ((Manifest.find? "IndexError").elim "type" fun x => x.metatype) = "type" from by kernel_rfl, isSubtype_type]; kernel_rfl
  · rw [isSubtype_type]; kernel_rfl
  · passes_own
  clear F N N0 mh me mk eat
  intro h3 g3 T3 F3 N3 B3 X3 P3
  obtain ⟨nu, St1⟩ := st_caught St hi R1 T3 F3 N3
  have ekid : r'.kids = i.r.kids := R1.same.2.2.2.2.2.1
  clear F3 N3 T3 RS FG U
  have hi1 : (S.read k i r' nu).its[k]? = some { i with r := r' } := by rw [its_read hi, if_pos rfl]
  obtain ⟨all1, hall1, N0, N, mh, me, mk, eat⟩ := St1.view hi1 hka hkf
  have F := St1.F
  rw [hka] at F
  delta dmap at F
  (try dsimp only at F)
  have me : (i.a.e, W.listOf ([.ref i.a.x, .ref ka, .int (i.a.cnt : Int) i.a.ct, .ref i.a.seen] : List Value).toArray i.a.n) ∈ all1 := me
  have eat : _ = some (Value.ref i.a.e) := eat
  have hsm := io.small
  have hkl2 : kv.length < 2 ^ 62 := by omega
  have hk2 : k < 10000 := by
    rcases Nat.lt_or_ge k S.its.length with q | q
    · omega
    · rw [List.getElem?_eq_none q] at hi; cases hi
  clear N
  tb_start
  all_goals (try (rename ((false != decide _) = true) => ha; exfalso; revert ha; simp; omega))
  rename Fr _ _ _ _ => F₁
  rename News _ _ _ _ => N₁
  have hcnt := hct k i hi
  refine st_count (S := S.read k i r' nu) (c := i.r.kids.length) ⟨F₁, hall1 ▸ N₁, St1.I, St1.dis⟩ hi1 (by rw [hkl]) rfl fun h3 St3 => ?_
  tb_start
  refine ret _ _ _ _ St3 (fun y h1 h2 => ?_) (cnt_step (i1 := { i with r := r' }) hct hi (Grow.refl hi1) hi1 ?_) ((Evo.read hi ekid).trans (Evo.count hi1)) ?_
  · dsimp only [dmap]
    rw [if_neg h2, hka]
  · exact e1
  · rw [len_count, len_read]; omega
end Mine
end

section
theorem Mine.quietDeed1 : True := by
  w_top off
  trivial
open PySem PySem.W PySem.Spec PySem.Calls PyProof.Rows
set_option Elab.async false
set_option maxRecDepth 100000
set_option maxHeartbeats 8000000
namespace Mine
theorem filled21 (w : World) (h : Heap) (X : (Mine.hd.heap_39 w.params).In h) : Challenge.rw_sx0040_01 = Challenge.rw_sx0040_01 := by
  revert X; k_fill; intro _; rfl
local macro_rules | `(tactic| tb_start) => `(tactic| repeat' ((fail_if_success (with_reducible show wpAny _ _ (call (Value.ref 135) _) _ _ _)); (fail_if_success (with_reducible show wpAny _ _ (call (Value.ref 240) _) _ _ _)); (fail_if_success (with_reducible show wpAny _ _ (exec (Stmt.While _ _ _ _) _) _ _ _)); (fail_if_success (with_reducible show wpAny _ _ (exec (Stmt.For _ _ _ _ _) _) _ _ _)); (fail_if_success (with_reducible show wpAny _ _ (pyIter _) _ _ _)); first | (k_unfold; (try dsimp only)) | (k_end; wrow_close) | walk1 | (dsimp only; walk1) | (leave1; walk_say "STEP leave1"; try dsimp only) | fail "no step"))
local macro_rules | `(tactic| walk_at "idle line") => `(tactic| skip)
local macro_rules | `(tactic| walk_at "idle line") => `(tactic| skip)
local macro_rules | `(tactic| walk_at "idle line") => `(tactic| skip)
local macro_rules | `(tactic| walk_at "idle line") => `(tactic| skip)
local macro_rules | `(tactic| walk_at "idle line") => `(tactic| skip)
local macro_rules | `(tactic| walk_at "idle line") => `(tactic| skip)
local macro_rules | `(tactic| walk_at "idle line") => `(tactic| skip)
local macro_rules | `(tactic| walk_at "idle line") => `(tactic| skip)
local macro_rules | `(tactic| walk_at "idle line") => `(tactic| skip)
local macro_rules | `(tactic| walk_at "idle line") => `(tactic| skip)
local macro_rules | `(tactic| walk_at "idle line") => `(tactic| skip)
local macro_rules | `(tactic| walk_at "idle line") => `(tactic| skip)
local macro_rules | `(tactic| walk_at "idle line") => `(tactic| skip)
local macro_rules | `(tactic| walk_at "idle line") => `(tactic| skip)
local macro_rules | `(tactic| walk_at "idle line") => `(tactic| skip)
local macro_rules | `(tactic| walk_at "idle line") => `(tactic| skip)
local macro_rules | `(tactic| walk_at "idle line") => `(tactic| skip)
local macro_rules | `(tactic| walk_at "idle line") => `(tactic| skip)
local macro_rules | `(tactic| walk_at "idle line") => `(tactic| skip)
local macro_rules | `(tactic| walk_at "subscriptTail") => `(tactic| (k_here; (with_reducible show wpAny _ _ (subscriptTail _ _ (Value.ref _) (Value.int _ _)) _ _ _); k_dflt (first
  | (refine' item_nat ?k1 ?k2 ?k3 ?k4 ?k5 ?_; (case k1 => k_asm); (case k2 => assumption); (case k3 => rfl); (case k4 => assumption); (case k5 => omega); k_whole))))
local macro_rules | `(tactic| walk_at "call builtin:len") => `(tactic| (k_here; (with_reducible show wpAny _ _ (call (Value.builtin _) [Value.ref _]) _ _ _); k_dflt (refine' len_L ?k1 ?k2 ?k3 ?_; (case k1 => k_asm); (case k2 => assumption); (case k3 => assumption); k_whole)))
local macro_rules | `(tactic| walk_at "exec Try") => `(tactic| ((with_reducible show wpAny _ _ (exec (Stmt.Try _ (_ :: _) _ [] _) _) _ _ _); refine wpAny_Try_except ?_))
theorem deed1_in {w : World} {mean : ExcName → Option Value} {mg mb : Str → Option Value} {fx tmp : List (Addr × Obj)} {base : Heap} {L fa c : Addr} {cd : Value} {S : Sta} {k p : Nat} {i : Item} {rest : Int} {tp tc tr th : Tok} {ρ : Str → Option Value} {s : Shared} {Q : Flow → Shared → Prop}
    (AM : Amb w mean mg mb base) (B' : Below (topA 350 1400 []) base [] base) (St : LawSt w fx tmp base L (dmap p tp i.a.cnt tc i.a.kids i.r.x rest tr k th S.hl ρ) S s.heap) (hi : S.its[k]? = some i) (hits : S.its.length < 9999) (hct : Cnt S) (hp : i.a.cnt < i.r.kids.length)
    (ret : ∀ S' m' h' tk', LawSt w fx tmp base L m' S' h' → (∀ y, y ≠ Str.ofString "got" → y ≠ Str.ofString "came" → m' y = dmap p tp i.a.cnt tc i.a.kids i.r.x rest tr k th S.hl ρ y) → Cnt S' → Evo S S' → S'.its.length ≤ S.its.length + 1 → Q .next {s with heap := h', toks := tk'}) :
    wpAny (model PRG w) ((topA 350 1400 []).deeper (lenv L fa c cd)) (execs lawD1 (lenv L fa c cd)) Q (fun _ _ => False) s := by
  have X' := AM.X
  have T' := AM.T
  have io := St.I.it k i hi
  obtain ⟨ka, kv, n0, hka, hkf, hkl, hkr⟩ := io.kids
  have F := St.F
  obtain ⟨all, hall, N0, N, mh, me, mk, eat⟩ := St.view hi hka hkf
  simp only [Row.cells, Row.dict, rowD, List.cons_append, List.nil_append] at N
  rw [hka] at F
  delta dmap at F
  (try dsimp only at F)
  show wpAny _ _ (execs (_ :: _) _) _ _ _
  have esc : lawScope = lawScope := rfl
  conv at esc => rhs; whnf
  delta lenv
  rw [esc]
  tb_start
  refine wk (d := 500) (u := 2000) (Nat.le_of_ble_eq_true rfl) (Nat.le_of_ble_eq_true rfl) ?_
  have hcnt := hct k i hi
  refine st_next AM B' St hi rfl rfl (List.getElem?_eq_getElem (by omega)) fun v r' nu h1 tk1 St1 e1 e2 e3 => ?_
  rw [← hcnt] at e1 e3
  have hi1 : (S.read k i r' nu).its[k]? = some { i with r := r' } := by rw [its_read hi, if_pos rfl]
  clear F N N0 mh me mk eat
  obtain ⟨all1, hall1, N0, N, mh, me, mk, eat⟩ := St1.view hi1 hka hkf
  have F := St1.F
  rw [hka] at F
  delta dmap at F
  (try dsimp only at F)
  have me : (i.a.e, W.listOf ([.ref i.a.x, .ref ka, .int (i.a.cnt : Int) i.a.ct, .ref i.a.seen] : List Value).toArray i.a.n) ∈ all1 := me
  have eat : _ = some (Value.ref i.a.e) := eat
  have hsm := io.small
  have hkl2 : kv.length < 2 ^ 62 := by omega
  have hk2 : k < 10000 := by
    rcases Nat.lt_or_ge k S.its.length with q | q
    · omega
    · rw [List.getElem?_eq_none q] at hi; cases hi
  clear N
  tb_start
  all_goals (try (rename ((true != decide _) = true) => ha; exfalso; revert ha; simp; omega))
  rename Fr _ _ _ _ => F₁
  rename News _ _ _ _ => N₁
  refine wk (d := 400) (u := 1600) (Nat.le_of_ble_eq_true rfl) (Nat.le_of_ble_eq_true rfl) ?_
  refine st_tell (S := S.read k i r' nu) AM B' ⟨F₁, hall1 ▸ N₁, St1.I, St1.dis⟩ hi1 rfl rfl e3 (by show (S.its.set _ _).length < _; rw [List.length_set]; exact hits) fun S2 h2 tk2 St2 G2 => ?_
  obtain ⟨g1, ⟨i2, hi2, g2, g3⟩, g4, g5, g6⟩ := G2
  have g0 := g1
  have g1 : S2.hl = S.hl := g1.hl
  have g2 : i2.a = i.a := g2
  have g3 : i2.r = r' := g3
  clear F₁ N₁ mh me mk eat
  obtain ⟨all2, hall2, N0, N, mh, me, mk, eat⟩ := St2.view hi2 (g2 ▸ hka) hkf
  rw [g1] at mh
  rw [g2] at me eat
  clear N
  have F := St2.F
  (try dsimp only at F)
  tb_start
  rename Fr _ _ _ _ => F₁
  rename News _ _ _ _ => N₁
  refine st_count (S := S2) (c := i.a.cnt + 1) ⟨F₁, hall2 ▸ N₁, St2.I, St2.dis⟩ hi2 ?_ (by rw [g2]) fun h3 St3 => ?_
  · omega
  · tb_start
    refine ret _ _ _ _ St3 (fun y h1 h2 => ?_) (cnt_step (i1 := { i with r := r' }) hct hi ⟨g0, ⟨i2, hi2, g2, g3⟩, g4, g5, g6⟩ hi2 ?_) (((Evo.read hi e2).trans g0).trans (Evo.count hi2)) ?_
    · dsimp only [dmap]
      rw [if_neg h2, if_neg h1, hka]
    · rw [g3, e1]
    · rw [len_count]; rw [len_read] at g6; exact g6
theorem deed1_out {w : World} {mean : ExcName → Option Value} {mg mb : Str → Option Value} {fx tmp : List (Addr × Obj)} {base : Heap} {L fa c : Addr} {cd : Value} {S : Sta} {k p : Nat} {i : Item} {rest : Int} {tp tc tr th : Tok} {ρ : Str → Option Value} {s : Shared} {Q : Flow → Shared → Prop}
    (AM : Amb w mean mg mb base) (B' : Below (topA 350 1400 []) base [] base) (St : LawSt w fx tmp base L (dmap p tp i.a.cnt tc i.a.kids i.r.x rest tr k th S.hl ρ) S s.heap) (hi : S.its[k]? = some i) (hits : S.its.length < 9999) (hct : Cnt S) (hp : i.a.cnt = i.r.kids.length)
    (ret : ∀ S' m' h' tk', LawSt w fx tmp base L m' S' h' → (∀ y, y ≠ Str.ofString "got" → y ≠ Str.ofString "came" → m' y = dmap p tp i.a.cnt tc i.a.kids i.r.x rest tr k th S.hl ρ y) → Cnt S' → Evo S S' → S'.its.length ≤ S.its.length + 1 → Q .next {s with heap := h', toks := tk'}) :
    wpAny (model PRG w) ((topA 350 1400 []).deeper (lenv L fa c cd)) (execs lawD1 (lenv L fa c cd)) Q (fun _ _ => False) s := by
  have X' := AM.X
  have T' := AM.T
  have io := St.I.it k i hi
  obtain ⟨ka, kv, n0, hka, hkf, hkl, hkr⟩ := io.kids
  have F := St.F
  obtain ⟨all, hall, N0, N, mh, me, mk, eat⟩ := St.view hi hka hkf
  simp only [Row.cells, Row.dict, rowD, List.cons_append, List.nil_append] at N
  rw [hka] at F
  delta dmap at F
  (try dsimp only at F)
  show wpAny _ _ (execs (_ :: _) _) _ _ _
  have esc : lawScope = lawScope := rfl
  conv at esc => rhs; whnf
  delta lenv
  rw [esc]
  tb_start
  refine wk (d := 500) (u := 2000) (Nat.le_of_ble_eq_true rfl) (Nat.le_of_ble_eq_true rfl) ?_
  have hcnt := hct k i hi
  refine st_nextE AM B' St hi rfl (by omega) fun e r' nws h1 tk1 G R1 FG RS U e1 => ?_
  refine caught_X (T' := "StopIteration") RS FG B' U AM.X AM.T KtsTurn.refl ?_ ?_ ?_ ?_ ?_ ?_ ?_ ?_
  · k_is
  · boot_by_name
  · decide
  · rw [isSubtype_type]; kernel_rfl
  · rw [show ((Manifest.find? "StopIteration").elim "type" fun x => x.metatype) = "type" from by kernel_rfl, isSubtype_type]; kernel_rfl
  · rw [isSubtype_type]; kernel_rfl
  · passes_own
  clear F N N0 mh me mk eat
  intro h3 g3 T3 F3 N3 B3 X3 P3
  obtain ⟨nu, St1⟩ := st_caught St hi R1 T3 F3 N3
  have ekid : r'.kids = i.r.kids := R1.same.2.2.2.2.2.1
  clear F3 N3 T3 RS FG U
  have hi1 : (S.read k i r' nu).its[k]? = some { i with r := r' } := by rw [its_read hi, if_pos rfl]
  obtain ⟨all1, hall1, N0, N, mh, me, mk, eat⟩ := St1.view hi1 hka hkf
  have F := St1.F
  rw [hka] at F
  delta dmap at F
  (try dsimp only at F)
  have me : (i.a.e, W.listOf ([.ref i.a.x, .ref ka, .int (i.a.cnt : Int) i.a.ct, .ref i.a.seen] : List Value).toArray i.a.n) ∈ all1 := me
  have eat : _ = some (Value.ref i.a.e) := eat
  have hsm := io.small
  have hkl2 : kv.length < 2 ^ 62 := by omega
  have hk2 : k < 10000 := by
    rcases Nat.lt_or_ge k S.its.length with q | q
    · omega
    · rw [List.getElem?_eq_none q] at hi; cases hi
  clear N
  tb_start
  all_goals (try (rename ((false != decide _) = true) => ha; exfalso; revert ha; simp; omega))
  rename Fr _ _ _ _ => F₁
  rename News _ _ _ _ => N₁
  refine st_count (S := S.read k i r' nu) (c := i.a.cnt) ⟨F₁, hall1 ▸ N₁, St1.I, St1.dis⟩ hi1 rfl rfl fun h3 St3 => ?_
  tb_start
  refine ret _ _ _ _ St3 (fun y h1 h2 => ?_) (cnt_step (i1 := { i with r := r' }) hct hi (Grow.refl hi1) hi1 ?_) ((Evo.read hi ekid).trans (Evo.count hi1)) ?_
  · dsimp only [dmap]
    rw [if_neg h2, hka]
  · show r'.els.length = _
    rw [e1, hcnt]
  · rw [len_count, len_read]; omega
end Mine
end

section
theorem Mine.quietDeed2 : True := by
  w_top off
  trivial
open PySem PySem.W PySem.Spec PySem.Calls PyProof.Rows
set_option Elab.async false
set_option maxRecDepth 100000
set_option maxHeartbeats 8000000
namespace Mine
theorem filled22 (w : World) (h : Heap) (X : (Mine.hd.heap_39 w.params).In h) : Challenge.rw_sx0040_01 = Challenge.rw_sx0040_01 := by
  revert X; k_fill; intro _; rfl
local macro_rules | `(tactic| tb_start) => `(tactic| repeat' ((fail_if_success (with_reducible show wpAny _ _ (call (Value.ref 149) _) _ _ _)); (fail_if_success (with_reducible show wpAny _ _ (exec (Stmt.While _ _ _ _) _) _ _ _)); (fail_if_success (with_reducible show wpAny _ _ (exec (Stmt.For _ _ _ _ _) _) _ _ _)); (fail_if_success (with_reducible show wpAny _ _ (pyIter _) _ _ _)); first | (k_unfold; (try dsimp only)) | (k_end; wrow_close) | walk1 | (dsimp only; walk1) | (leave1; walk_say "STEP leave1"; try dsimp only) | fail "no step"))
local macro_rules | `(tactic| walk_at "idle line") => `(tactic| skip)
local macro_rules | `(tactic| walk_at "idle line") => `(tactic| skip)
local macro_rules | `(tactic| walk_at "idle line") => `(tactic| skip)
local macro_rules | `(tactic| walk_at "idle line") => `(tactic| skip)
local macro_rules | `(tactic| walk_at "idle line") => `(tactic| skip)
local macro_rules | `(tactic| walk_at "idle line") => `(tactic| skip)
local macro_rules | `(tactic| walk_at "idle line") => `(tactic| skip)
local macro_rules | `(tactic| walk_at "idle line") => `(tactic| skip)
local macro_rules | `(tactic| walk_at "idle line") => `(tactic| skip)
local macro_rules | `(tactic| walk_at "idle line") => `(tactic| skip)
local macro_rules | `(tactic| walk_at "idle line") => `(tactic| skip)
local macro_rules | `(tactic| walk_at "idle line") => `(tactic| skip)
local macro_rules | `(tactic| walk_at "idle line") => `(tactic| skip)
local macro_rules | `(tactic| walk_at "idle line") => `(tactic| skip)
local macro_rules | `(tactic| walk_at "idle line") => `(tactic| skip)
local macro_rules | `(tactic| walk_at "idle line") => `(tactic| skip)
local macro_rules | `(tactic| walk_at "idle line") => `(tactic| skip)
local macro_rules | `(tactic| walk_at "idle line") => `(tactic| skip)
local macro_rules | `(tactic| walk_at "idle line") => `(tactic| skip)
local macro_rules | `(tactic| walk_at "idle line") => `(tactic| skip)
local macro_rules | `(tactic| walk_at "subscriptTail") => `(tactic| (k_here; (with_reducible show wpAny _ _ (subscriptTail _ _ (Value.ref _) (Value.int _ _)) _ _ _); k_dflt (first
  | (refine' item_nat ?k1 ?k2 ?k3 ?k4 ?k5 ?_; (case k1 => k_asm); (case k2 => assumption); (case k3 => rfl); (case k4 => assumption); (case k5 => omega); k_whole))))
local macro_rules | `(tactic| walk_at "call builtin:len") => `(tactic| (k_here; (with_reducible show wpAny _ _ (call (Value.builtin _) [Value.ref _]) _ _ _); k_dflt (refine' len_L ?k1 ?k2 ?k3 ?_; (case k1 => k_asm); (case k2 => assumption); (case k3 => assumption); k_whole)))
local macro_rules | `(tactic| walk_at "exec Try") => `(tactic| ((with_reducible show wpAny _ _ (exec (Stmt.Try _ (_ :: _) _ [] _) _) _ _ _); refine wpAny_Try_except ?_))
theorem deed2_spec {w : World} {mean : ExcName → Option Value} {mg mb : Str → Option Value} {fx tmp : List (Addr × Obj)} {base : Heap} {L fa c : Addr} {cd : Value} {S : Sta} {k p : Nat} {i : Item} {rest : Int} {tp tc tr th : Tok} {ρ : Str → Option Value} {s : Shared} {Q : Flow → Shared → Prop}
    (AM : Amb w mean mg mb base) (B' : Below (topA 350 1400 []) base [] base) (St : LawSt w fx tmp base L (dmap p tp i.a.cnt tc i.a.kids i.r.x rest tr k th S.hl ρ) S s.heap) (hi : S.its[k]? = some i) (hits : S.its.length < 9999) (hct : Cnt S)
    (ret : ∀ S' m' h' tk', LawSt w fx tmp base L m' S' h' → (∀ y, y ≠ Str.ofString "got" → y ≠ Str.ofString "came" → m' y = dmap p tp i.a.cnt tc i.a.kids i.r.x rest tr k th S.hl ρ y) → Cnt S' → Evo S S' → S'.its.length ≤ S.its.length + 1 → Q .next {s with heap := h', toks := tk'}) :
    wpAny (model PRG w) ((topA 350 1400 []).deeper (lenv L fa c cd)) (execs lawD2 (lenv L fa c cd)) Q (fun _ _ => False) s := by
  have X' := AM.X
  have T' := AM.T
  have io := St.I.it k i hi
  obtain ⟨ka, kv, n0, hka, hkf, hkl, hkr⟩ := io.kids
  have F := St.F
  obtain ⟨all, hall, N0, N, mh, me, mk, eat⟩ := St.view hi hka hkf
  simp only [Row.cells, Row.dict, rowD, List.cons_append, List.nil_append] at N
  rw [hka] at F
  delta dmap at F
  (try dsimp only at F)
  show wpAny _ _ (execs (_ :: _) _) _ _ _
  have esc : lawScope = lawScope := rfl
  conv at esc => rhs; whnf
  delta lenv
  rw [esc]
  tb_start
  refine wk (d := 450) (u := 1800) (Nat.le_of_ble_eq_true rfl) (Nat.le_of_ble_eq_true rfl) ?_
  refine st_len AM B' St hi rfl rfl fun r' nu tl h1 tk1 St1 e1 e2 => ?_
  have hsm0 := io.small
  have ekid := e2
  show W.LenBack _ _ _
  dsimp only [W.LenBack]
  refine ⟨⟨by omega, by omega⟩, ?_⟩
  have hi1 : (S.read k i r' nu).its[k]? = some { i with r := r' } := by rw [its_read hi, if_pos rfl]
  clear F N N0 mh me mk eat
  obtain ⟨all1, hall1, N0, N, mh, me, mk, eat⟩ := St1.view hi1 hka hkf
  have F := St1.F
  rw [hka] at F
  delta dmap at F
  (try dsimp only at F)
  have me : (i.a.e, W.listOf ([.ref i.a.x, .ref ka, .int (i.a.cnt : Int) i.a.ct, .ref i.a.seen] : List Value).toArray i.a.n) ∈ all1 := me
  have eat : _ = some (Value.ref i.a.e) := eat
  have hsm := io.small
  have hkl2 : kv.length < 2 ^ 62 := by omega
  have hk2 : k < 10000 := by
    rcases Nat.lt_or_ge k S.its.length with q | q
    · omega
    · rw [List.getElem?_eq_none q] at hi; cases hi
  clear N
  tb_start
  all_goals (try (exfalso; omega))
  rename Fr _ _ _ _ => F₁
  rename News _ _ _ _ => N₁
  refine st_count (S := S.read k i r' nu) (c := i.r.kids.length) ⟨F₁, hall1 ▸ N₁, St1.I, St1.dis⟩ hi1 (by rw [hkl]) rfl fun h3 St3 => ?_
  tb_start
  refine ret _ _ _ _ St3 (fun y h1 h2 => ?_) (cnt_step (i1 := { i with r := r' }) hct hi (Grow.refl hi1) hi1 ?_) ((Evo.read hi ekid).trans (Evo.count hi1)) ?_
  · dsimp only [dmap]
    rw [hka]
  · exact e1
  · rw [len_count, len_read]; omega
end Mine
end

section
theorem Mine.quietLawC : True := by
  w_top off
  trivial
open PySem PySem.W PySem.Spec PySem.Calls PyProof.Rows
set_option Elab.async false
set_option maxRecDepth 100000
set_option maxHeartbeats 8000000
namespace Mine
/-- what the law laid out ahead of its run -/
structure LawFix (fx : List (Addr × Obj)) (ts : List Tr) (ns : List Nat) (nl tl : Addr) (kv : List Value) (kc : Nat) (tv : List Value) (vc : Nat) (cb dg dp : List UInt8) : Prop where
  rep : Rep fx (.node ts) (.ref tl)
  tm : (tl, W.listOf tv.toArray vc) ∈ fx
  tlen : tv.length = ts.length
  plain : (Tr.node ts).plain
  code : cb = (Tr.node ts).enc
  csz : cb.length < 65536
  nm : (nl, W.listOf kv.toArray kc) ∈ fx
  nlen : kv.length = ns.length
  nval : ∀ (j x : Nat), ns[j]? = some x → ∃ t, kv[j]? = some (.int (x : Int) t)
  nsm : ∀ x ∈ ns, x < 1000
  n4 : ns.length ≤ 4
  dig : dg = (Tr.node (ns.map fun n => Tr.leaf (digs n))).enc
  dsz : dg.length < 65536
  deep : dp = (Tr.node [.node (ns.map fun n => Tr.leaf (digs n))]).enc
  psz : dp.length < 65536
abbrev emap (nl tl : Addr) (cb dg dp : List UInt8) (tc td te : Tok) (ρ : Str → Option Value) : Str → Option Value := fun y =>
  if y = Str.ofString "numbers" then some (.ref nl) else if y = Str.ofString "digits" then some (.bytes dg.toArray td) else if y = Str.ofString "deeper" then some (.bytes dp.toArray te) else if y = Str.ofString "tree" then some (.ref tl) else if y = Str.ofString "code" then some (.bytes cb.toArray tc) else ρ y
theorem digs_inj {a b : Nat} (h : digs a = digs b) : a = b := by
  have h1 := ben_digs a
  rw [h, ben_digs b] at h1
  omega
theorem leaves_plain (ns : List Nat) : (Tr.node (ns.map fun n => Tr.leaf (digs n))).plain := plains_iff.mpr fun t ht => by
  obtain ⟨n, _, rfl⟩ := List.mem_map.mp ht
  exact trivial
theorem at_digits {ns : List Nat} {p : Nat} : (Tr.node (ns.map fun n => Tr.leaf (digs n))).at [p] = (ns[p]?).map fun n => Tr.leaf (digs n) := by
  show (((ns.map fun n => Tr.leaf (digs n))[p]?).bind fun t => t.at []) = _
  rw [List.getElem?_map]
  cases ns[p]? <;> rfl
theorem at_deeper {ns : List Nat} {p : Nat} : (Tr.node [.node (ns.map fun n => Tr.leaf (digs n))]).at [0, p] = (ns[p]?).map fun n => Tr.leaf (digs n) := by
  show (([Tr.node (ns.map fun n => Tr.leaf (digs n))][0]?).bind fun t => t.at [p]) = _
  show (Tr.node (ns.map fun n => Tr.leaf (digs n))).at [p] = _
  exact at_digits
theorem hleaf_of {ns : List Nat} {sp : Nat} (hs : ∀ x ∈ ns, x < 1000) : ∀ t', (ns[sp]?).map (fun n => Tr.leaf (digs n)) = some t' → ∃ n, n < 65536 ∧ t' = Tr.leaf (digs n) := fun t' h => by
  cases hq : ns[sp]? with
  | none => rw [hq] at h; cases h
  | some x =>
    rw [hq] at h
    have := hs x (List.mem_of_getElem? hq)
    exact ⟨x, by omega, (Option.some.inj h).symm⟩
theorem hval_of {ns : List Nat} {sp : Nat} : ∀ n, (ns[sp]?).map (fun n => Tr.leaf (digs n)) = some (Tr.leaf (digs n)) → ns[sp]? = some n := fun n h => by
  cases hq : ns[sp]? with
  | none => rw [hq] at h; cases h
  | some x =>
    rw [hq] at h
    have := Tr.leaf.inj (Option.some.inj h)
    rw [digs_inj this]
theorem hnone_of {ns : List Nat} {sp : Nat} (e : (ns[sp]?).map (fun n => Tr.leaf (digs n)) = none) : ns.length ≤ sp := by
  rcases Nat.lt_or_ge sp ns.length with h | h
  · rw [List.getElem?_eq_getElem h] at e; cases e
  · exact h
section
variable {w : World} {mean : ExcName → Option Value} {mg mb : Str → Option Value} {fx all : List (Addr × Obj)} {base : Heap} {L : Addr} {m : Str → Option Value} {s : Shared} {Q E : Value → Shared → Prop} {d u : Nat} {env : Env}
  {ts : List Tr} {ns : List Nat} {nl tl : Addr} {kv : List Value} {kc : Nat} {tv : List Value} {vc : Nat} {cb dg dp : List UInt8} {be bd ix : Addr} {t0 t1 t2 tkc : Tok} {sp ic : Nat}
theorem peek_two (AM : Amb w mean mg mb base) (B : Below (topA d u []) base [] base) (F : Fr base L s.heap m) (N : News base L s.heap ((be, instObj 196 bd) :: (bd, beD w.params t0) :: (ix, W.listOf ([.int 0 t1, .int (sp : Int) t2] : List Value).toArray ic) :: all))
    (LF : LawFix fx ts ns nl tl kv kc tv vc cb dg dp) (hf : env.frame = some L) (hk : env.scope.kind = .function) (hsp : sp < 65536)
    (ret : ∀ (n : Nat) t h' tk', ns[sp]? = some n → Kp [] s.heap h' → Q (.int (n : Int) t) {s with heap := h', toks := tk'})
    (err : ∀ e h' tk', ns.length ≤ sp → Raised [] [] base [env] e (.type "IndexError") s.heap h' → E (.ref e) {s with heap := h', toks := tk'}) :
    wpAny (model PRG w) (topA 400 1600 [env]) (call (.ref 164) [.bytes dp.toArray tkc, .ref ix, .ref be]) Q E s := by
  refine peek_waySed (ks := [0, sp]) (vs := [.int 0 t1, .int (sp : Int) t2]) (ic := ic) (bd := bd) (t0 := t0) (ts := [.node (ns.map fun n => Tr.leaf (digs n))]) AM (pcall B F hf hk) (cells_n B F N (fun z hz => ?_) hf hk) ⟨rfl, fun i k hik => ?_⟩ (fun k hk => ?_) LF.deep LF.psz (plains_iff.mpr fun t ht => (List.mem_singleton.mp ht) ▸ leaves_plain ns) (fun t' h => hleaf_of LF.nsm t' (at_deeper ▸ h)) (fun n t h1 tk1 hat k1 => ret n t h1 tk1 (hval_of n (at_deeper ▸ hat)) k1) fun e h1 tk1 hat Rz => err e h1 tk1 (hnone_of (at_deeper ▸ hat)) Rz
  · simp only [List.mem_cons, List.not_mem_nil, or_false] at hz
    rcases hz with rfl | rfl | rfl
    · exact .tail _ (.tail _ (.head _))
    · exact .head _
    · exact .tail _ (.head _)
  · match i, hik with
    | 0, hik => cases hik; exact ⟨_, rfl⟩
    | 1, hik => cases hik; exact ⟨_, rfl⟩
  · simp only [List.mem_cons, List.not_mem_nil, or_false] at hk
    rcases hk with rfl | rfl <;> omega
theorem peek_one {ti : Tok} (AM : Amb w mean mg mb base) (B : Below (topA d u []) base [] base) (F : Fr base L s.heap m) (N : News base L s.heap ((be, instObj 196 bd) :: (bd, beD w.params t0) :: all))
    (LF : LawFix fx ts ns nl tl kv kc tv vc cb dg dp) (hf : env.frame = some L) (hk : env.scope.kind = .function) (hsp : sp < 65536)
    (ret : ∀ (n : Nat) t h' tk', ns[sp]? = some n → Kp [] s.heap h' → Q (.int (n : Int) t) {s with heap := h', toks := tk'})
    (err : ∀ e h' tk', ns.length ≤ sp → Raised [] [] base [env] e (.type "IndexError") s.heap h' → E (.ref e) {s with heap := h', toks := tk'}) :
    wpAny (model PRG w) (topA 400 1600 [env]) (call (.ref 164) [.bytes dg.toArray tkc, .int (sp : Int) ti, .ref be]) Q E s := by
  refine peek_intSed (ks := [sp]) (k := sp) (bd := bd) (t0 := t0) (ts := ns.map fun n => Tr.leaf (digs n)) AM (pcall B F hf hk) (cells_n B F N (fun z hz => ?_) hf hk) rfl (fun k hk => ?_) LF.dig LF.dsz (leaves_plain ns) (fun t' h => hleaf_of LF.nsm t' (at_digits ▸ h)) (fun n t h1 tk1 hat k1 => ret n t h1 tk1 (hval_of n (at_digits ▸ hat)) k1) fun e h1 tk1 hat Rz => err e h1 tk1 (hnone_of (at_digits ▸ hat)) Rz
  · simp only [List.mem_cons, List.not_mem_nil, or_false] at hz
    rcases hz with rfl | rfl
    · exact .head _
    · exact .tail _ (.head _)
  · simp only [List.mem_cons, List.not_mem_nil, or_false] at hk
    rcases hk with rfl; omega
end
end Mine
end

section
theorem Mine.quietDeed3a : True := by
  w_top off
  trivial
open PySem PySem.W PySem.Spec PySem.Calls PyProof.Rows
set_option Elab.async false
set_option maxRecDepth 100000
set_option maxHeartbeats 8000000
namespace Mine
theorem filled23 (w : World) (h : Heap) (X : (Mine.hd.heap_39 w.params).In h) : Challenge.rw_sx0040_01 = Challenge.rw_sx0040_01 := by
  revert X; k_fill; intro _; rfl
local macro_rules | `(tactic| tb_start) => `(tactic| repeat' ((fail_if_success (with_reducible show wpAny _ _ (call (Value.ref 164) _) _ _ _)); (fail_if_success (with_reducible show wpAny _ _ (call (Value.ref 240) _) _ _ _)); (fail_if_success (with_reducible show wpAny _ _ (execs (Stmt.Assign _ (PySem.Expr.List _ _) _ :: _) _) _ _ _)); (fail_if_success (with_reducible show wpAny _ _ (exec (Stmt.While _ _ _ _) _) _ _ _)); (fail_if_success (with_reducible show wpAny _ _ (exec (Stmt.For _ _ _ _ _) _) _ _ _)); (fail_if_success (with_reducible show wpAny _ _ (pyIter _) _ _ _)); first | (k_unfold; (try dsimp only)) | (k_end; wrow_close) | walk1 | (dsimp only; walk1) | (leave1; walk_say "STEP leave1"; try dsimp only) | fail "no step"))
local macro_rules | `(tactic| walk_at "idle line") => `(tactic| skip)
local macro_rules | `(tactic| walk_at "idle line") => `(tactic| skip)
local macro_rules | `(tactic| walk_at "idle line") => `(tactic| skip)
local macro_rules | `(tactic| walk_at "idle line") => `(tactic| skip)
local macro_rules | `(tactic| walk_at "idle line") => `(tactic| skip)
local macro_rules | `(tactic| walk_at "idle line") => `(tactic| skip)
local macro_rules | `(tactic| walk_at "idle line") => `(tactic| skip)
local macro_rules | `(tactic| walk_at "idle line") => `(tactic| skip)
local macro_rules | `(tactic| walk_at "idle line") => `(tactic| skip)
local macro_rules | `(tactic| walk_at "idle line") => `(tactic| skip)
local macro_rules | `(tactic| walk_at "idle line") => `(tactic| skip)
local macro_rules | `(tactic| walk_at "idle line") => `(tactic| skip)
local macro_rules | `(tactic| walk_at "idle line") => `(tactic| skip)
local macro_rules | `(tactic| walk_at "idle line") => `(tactic| skip)
local macro_rules | `(tactic| walk_at "idle line") => `(tactic| skip)
local macro_rules | `(tactic| walk_at "idle line") => `(tactic| skip)
local macro_rules | `(tactic| walk_at "idle line") => `(tactic| skip)
local macro_rules | `(tactic| walk_at "idle line") => `(tactic| skip)
local macro_rules | `(tactic| walk_at "idle line") => `(tactic| skip)
local macro_rules | `(tactic| walk_at "idle line") => `(tactic| skip)
local macro_rules | `(tactic| walk_at "idle line") => `(tactic| skip)
local macro_rules | `(tactic| walk_at "idle line") => `(tactic| skip)
local macro_rules | `(tactic| walk_at "call builtin:len") => `(tactic| (k_here; (with_reducible show wpAny _ _ (call (Value.builtin _) [Value.ref _]) _ _ _); k_dflt (refine' len_L ?k1 ?k2 ?k3 ?_; (case k1 => k_asm); (case k2 => first | assumption | k_mem); (case k3 => assumption); k_whole)))
local macro_rules | `(tactic| walk_at "exec Try") => `(tactic| ((with_reducible show wpAny _ _ (exec (Stmt.Try _ (_ :: _) _ [] _) _) _ _ _); refine wpAny_Try_except ?_))
theorem deed3a {w : World} {mean : ExcName → Option Value} {mg mb : Str → Option Value} {fx tmp : List (Addr × Obj)} {base : Heap} {L fa c x : Addr} {cd kids : Value} {S : Sta} {k p cnt : Nat} {rest : Int} {tp tc tr th tc1 td te : Tok} {ρ : Str → Option Value} {s : Shared} {Q : Flow → Shared → Prop}
    {ts : List Tr} {ns : List Nat} {nl tl : Addr} {kv : List Value} {kc : Nat} {tv : List Value} {vc : Nat} {cb dg dp : List UInt8} {i2 : Item}
    (AM : Amb w mean mg mb base) (B' : Below (topA 350 1400 []) base [] base) (St : LawSt w fx tmp base L (dmap p tp cnt tc kids x rest tr k th S.hl (emap nl tl cb dg dp tc1 td te ρ)) S s.heap) (LF : LawFix fx ts ns nl tl kv kc tv vc cb dg dp) (hi2 : S.its[2]? = some i2) (hk2 : i2.r.kids = ns.map Tr.num) (hits : S.its.length < 9999)
    (ret : ∀ m' h' tk', LawSt w fx tmp base L m' S h' → (∀ y, y ≠ Str.ofString "got" → y ≠ Str.ofString "came" → y ≠ Str.ofString "spare" → m' y = dmap p tp cnt tc kids x rest tr k th S.hl (emap nl tl cb dg dp tc1 td te ρ) y) → wpAny (model PRG w) ((topA 350 1400 []).deeper (lenv L fa c cd)) (execs (lawD3.drop 4) (lenv L fa c cd)) Q (fun _ _ => False) {s with heap := h', toks := tk'}) :
    wpAny (model PRG w) ((topA 350 1400 []).deeper (lenv L fa c cd)) (execs lawD3 (lenv L fa c cd)) Q (fun _ _ => False) s := by
  have X' := AM.X
  have T' := AM.T
  obtain ⟨all, hall⟩ : ∃ all, all = tmp ++ (fx ++ S.led w.params) := ⟨_, rfl⟩
  have N : News base L s.heap all := hall ▸ St.N
  have F := St.F
  have mn : (nl, W.listOf kv.toArray kc) ∈ all := hall ▸ List.mem_append_right _ (List.mem_append_left _ LF.nm)
  have hl1 := LF.nlen
  have hl2 := LF.n4
  have hkl2 : kv.length < 2 ^ 62 := by omega
  unfold dmap emap at F
  (try dsimp only at F)
  show wpAny _ _ (execs (_ :: _) _) _ _ _
  have esc : lawScope = lawScope := rfl
  conv at esc => rhs; whnf
  delta lenv
  rw [esc]
  have B0 := B'
  obtain ⟨sp, hsp, hsp2⟩ : ∃ sp : Nat, (rest.fdiv 32).fmod ((kv.length : Int) + 1) = (sp : Int) ∧ sp ≤ kv.length := by
    rw [Int.fmod_eq_emod_of_nonneg _ (by omega)]
    have h1 := Int.emod_nonneg (rest.fdiv 32) (b := (kv.length : Int) + 1) (by omega)
    have h2 := Int.emod_lt_of_pos (rest.fdiv 32) (b := (kv.length : Int) + 1) (by omega)
    exact ⟨_, (Int.toNat_of_nonneg h1).symm, by omega⟩
  tb_start
  · rename Fr _ _ _ _ => F₁
    rename News _ _ _ _ => N₁
    simp only [hsp] at F₁ N₁ ⊢
    refine wk (d := 400) (u := 1600) (Nat.le_of_ble_eq_true rfl) (Nat.le_of_ble_eq_true rfl) ?_
    refine peek_two AM B0 F₁ N₁ LF rfl rfl (by omega) (fun n t h1 tk1 hn k1 => ?_) fun e h1 tk1 hlt Rz => ?_
    · 
      have hlt : sp < ns.length := by
        rcases Nat.lt_or_ge sp ns.length with q | q
        · exact q
        · rw [List.getElem?_eq_none q] at hn; cases hn
      obtain ⟨F₂, N₂⟩ := pback F₁ N₁ k1
      have N : News base L _ all := fun z hz => N₂ z (.tail _ (.tail _ (.tail _ hz)))
      clear F₁ N₁ N₂
      tb_start
      all_goals (try (rename ((true != decide _) = true) => ha; exfalso; revert ha; simp; omega))
      rename Fr _ _ _ _ => F₃
      rename News _ _ _ _ => N₃
      refine wk (d := 400) (u := 1600) (Nat.le_of_ble_eq_true rfl) (Nat.le_of_ble_eq_true rfl) ?_
      have St3 : LawSt w fx tmp base L _ S _ := ⟨F₃, hall ▸ N₃, St.I, St.dis⟩
      refine st_told (k := 2) (i := i2) (p := sp) (t := .num n) AM B0 St3 hi2 rfl rfl (by rw [hk2, List.getElem?_map, hn]; rfl) ⟨_, rfl⟩ (by omega) fun h3 tk3 St3 => ?_
      clear F₃ N₃
      have F := St3.F
      have N : News base L h3 all := hall ▸ St3.N
      tb_start
      rename Fr _ _ _ _ => F₄
      rename News _ _ _ _ => N₄
      refine ret _ _ _ ⟨F₄, fun z hz => N₄ z (hall ▸ hz), St.I, St.dis⟩ fun y h1 h2 h3 => ?_
      dsimp only [dmap, emap]
      rw [if_neg h2, if_neg h1, if_neg h3]
    · 
      obtain ⟨G, FG, RS, U⟩ := to_SN (cl := [(Str.ofString "left", c)]) (rest := all) B0 F₁ N₁ Rz (fun _ h => nomatch h) (fun _ h => nomatch h) (fun z hz => ⟨.tail _ (.tail _ (.tail _ hz)), fun h => nomatch h⟩)
      refine caught_X (T' := "IndexError") RS FG B0 U AM.X AM.T KtsTurn.refl ?_ ?_ ?_ ?_ ?_ ?_ ?_ ?_
      · k_is
      · boot_by_name
      · decide
      · rw [isSubtype_type]; kernel_rfl
      · rw [show ((Manifest.find? "IndexError").elim "type" fun x => x.metatype) = "type" from by kernel_rfl, isSubtype_type]; kernel_rfl
      · rw [isSubtype_type]; kernel_rfl
      · passes_own
      clear F₁ N₁
      intro h3 g3 T3 F3 N3 B3 X3 P3
      obtain ⟨F, N⟩ := turn_base T3 F3 N3
      rw [List.nil_append] at N
      clear F3 N3 T3 RS FG U
      tb_start
      all_goals (try (rename ((false != decide _) = true) => ha; exfalso; revert ha; simp; omega))
      rename Fr _ _ _ _ => F₄
      rename News _ _ _ _ => N₄
      refine ret _ _ _ ⟨F₄, fun z hz => N₄ z (hall ▸ hz), St.I, St.dis⟩ fun y h1 h2 h3 => ?_
      dsimp only [dmap, emap]
      rw [if_neg h2, if_neg h3]
  · rename Fr _ _ _ _ => F₁
    rename News _ _ _ _ => N₁
    simp only [hsp] at F₁ N₁ ⊢
    refine wk (d := 400) (u := 1600) (Nat.le_of_ble_eq_true rfl) (Nat.le_of_ble_eq_true rfl) ?_
    refine peek_one AM B0 F₁ N₁ LF rfl rfl (by omega) (fun n t h1 tk1 hn k1 => ?_) fun e h1 tk1 hlt Rz => ?_
    · 
      have hlt : sp < ns.length := by
        rcases Nat.lt_or_ge sp ns.length with q | q
        · exact q
        · rw [List.getElem?_eq_none q] at hn; cases hn
      obtain ⟨F₂, N₂⟩ := pback F₁ N₁ k1
      have N : News base L _ all := fun z hz => N₂ z (.tail _ (.tail _ hz))
      clear F₁ N₁ N₂
      tb_start
      all_goals (try (rename ((true != decide _) = true) => ha; exfalso; revert ha; simp; omega))
      rename Fr _ _ _ _ => F₃
      rename News _ _ _ _ => N₃
      refine wk (d := 400) (u := 1600) (Nat.le_of_ble_eq_true rfl) (Nat.le_of_ble_eq_true rfl) ?_
      have St3 : LawSt w fx tmp base L _ S _ := ⟨F₃, hall ▸ N₃, St.I, St.dis⟩
      refine st_told (k := 2) (i := i2) (p := sp) (t := .num n) AM B0 St3 hi2 rfl rfl (by rw [hk2, List.getElem?_map, hn]; rfl) ⟨_, rfl⟩ (by omega) fun h3 tk3 St3 => ?_
      clear F₃ N₃
      have F := St3.F
      have N : News base L h3 all := hall ▸ St3.N
      tb_start
      rename Fr _ _ _ _ => F₄
      rename News _ _ _ _ => N₄
      refine ret _ _ _ ⟨F₄, fun z hz => N₄ z (hall ▸ hz), St.I, St.dis⟩ fun y h1 h2 h3 => ?_
      dsimp only [dmap, emap]
      rw [if_neg h2, if_neg h1, if_neg h3]
    · 
      obtain ⟨G, FG, RS, U⟩ := to_SN (cl := [(Str.ofString "left", c)]) (rest := all) B0 F₁ N₁ Rz (fun _ h => nomatch h) (fun _ h => nomatch h) (fun z hz => ⟨.tail _ (.tail _ hz), fun h => nomatch h⟩)
      refine caught_X (T' := "IndexError") RS FG B0 U AM.X AM.T KtsTurn.refl ?_ ?_ ?_ ?_ ?_ ?_ ?_ ?_
      · k_is
      · boot_by_name
      · decide
      · rw [isSubtype_type]; kernel_rfl
      · rw [show ((Manifest.find? "IndexError").elim "type" fun x => x.metatype) = "type" from by kernel_rfl, isSubtype_type]; kernel_rfl
      · rw [isSubtype_type]; kernel_rfl
      · passes_own
      clear F₁ N₁
      intro h3 g3 T3 F3 N3 B3 X3 P3
      obtain ⟨F, N⟩ := turn_base T3 F3 N3
      rw [List.nil_append] at N
      clear F3 N3 T3 RS FG U
      tb_start
      all_goals (try (rename ((false != decide _) = true) => ha; exfalso; revert ha; simp; omega))
      rename Fr _ _ _ _ => F₄
      rename News _ _ _ _ => N₄
      refine ret _ _ _ ⟨F₄, fun z hz => N₄ z (hall ▸ hz), St.I, St.dis⟩ fun y h1 h2 h3 => ?_
      dsimp only [dmap, emap]
      rw [if_neg h2, if_neg h3]
end Mine
end

section
theorem Mine.quietDeed3b : True := by
  w_top off
  trivial
open PySem PySem.W PySem.Spec PySem.Calls PyProof.Rows
set_option Elab.async false
set_option maxRecDepth 100000
set_option maxHeartbeats 8000000
namespace Mine
theorem filled24 (w : World) (h : Heap) (X : (Mine.hd.heap_39 w.params).In h) : Challenge.rw_sx0040_01 = Challenge.rw_sx0040_01 := by
  revert X; k_fill; intro _; rfl
local macro_rules | `(tactic| tb_start) => `(tactic| repeat' ((fail_if_success (with_reducible show wpAny _ _ (execs (Stmt.Try _ _ _ _ _ :: _) _) _ _ _)); (fail_if_success (with_reducible show wpAny _ _ (exec (Stmt.While _ _ _ _) _) _ _ _)); (fail_if_success (with_reducible show wpAny _ _ (exec (Stmt.For _ _ _ _ _) _) _ _ _)); (fail_if_success (with_reducible show wpAny _ _ (pyIter _) _ _ _)); first | (k_unfold; (try dsimp only)) | (k_end; wrow_close) | walk1 | (dsimp only; walk1) | (leave1; walk_say "STEP leave1"; try dsimp only) | fail "no step"))
local macro_rules | `(tactic| walk_at "idle line") => `(tactic| skip)
local macro_rules | `(tactic| walk_at "idle line") => `(tactic| skip)
local macro_rules | `(tactic| walk_at "idle line") => `(tactic| skip)
local macro_rules | `(tactic| walk_at "idle line") => `(tactic| skip)
local macro_rules | `(tactic| walk_at "idle line") => `(tactic| skip)
local macro_rules | `(tactic| walk_at "idle line") => `(tactic| skip)
local macro_rules | `(tactic| walk_at "idle line") => `(tactic| skip)
local macro_rules | `(tactic| walk_at "idle line") => `(tactic| skip)
local macro_rules | `(tactic| walk_at "idle line") => `(tactic| skip)
local macro_rules | `(tactic| walk_at "idle line") => `(tactic| skip)
local macro_rules | `(tactic| walk_at "idle line") => `(tactic| skip)
local macro_rules | `(tactic| walk_at "idle line") => `(tactic| skip)
local macro_rules | `(tactic| walk_at "idle line") => `(tactic| skip)
local macro_rules | `(tactic| walk_at "idle line") => `(tactic| skip)
local macro_rules | `(tactic| walk_at "idle line") => `(tactic| skip)
local macro_rules | `(tactic| walk_at "idle line") => `(tactic| skip)
local macro_rules | `(tactic| walk_at "idle line") => `(tactic| skip)
local macro_rules | `(tactic| walk_at "idle line") => `(tactic| skip)
local macro_rules | `(tactic| walk_at "idle line") => `(tactic| skip)
local macro_rules | `(tactic| walk_at "idle line") => `(tactic| skip)
local macro_rules | `(tactic| walk_at "idle line") => `(tactic| skip)
local macro_rules | `(tactic| walk_at "idle line") => `(tactic| skip)
local macro_rules | `(tactic| walk_at "idle line") => `(tactic| skip)
local macro_rules | `(tactic| walk_at "call builtin:len") => `(tactic| (k_here; (with_reducible show wpAny _ _ (call (Value.builtin _) [Value.ref _]) _ _ _); k_dflt (refine' len_L ?k1 ?k2 ?k3 ?_; (case k1 => k_asm); (case k2 => first | assumption | k_mem); (case k3 => assumption); k_whole)))
local macro_rules | `(tactic| walk_at "subscriptTail") => `(tactic| (k_here; (with_reducible show wpAny _ _ (subscriptTail _ _ (Value.ref _) (Value.int _ _)) _ _ _); k_dflt (first
  | (refine' item_nat ?k1 ?k2 ?k3 ?k4 ?k5 ?_; (case k1 => k_asm); (case k2 => assumption); (case k3 => rfl); (case k4 => assumption); (case k5 => omega); k_whole))))
theorem ints_nats {vs : List Value} {ns : List Int} (h : IntsAre vs ns) (hn : ∀ x ∈ ns, 0 ≤ x ∧ x < 65536) : ∃ ks : List Nat, vs.length = ks.length ∧ (∀ (i k : Nat), ks[i]? = some k → ∃ t, vs[i]? = some (Value.int (k : Int) t)) ∧ ∀ k ∈ ks, k < 65536 := by
  induction h with
  | nil => exact ⟨[], rfl, (fun i k h => by simp at h), fun _ h => nomatch h⟩
  | cons x t h ih =>
    obtain ⟨ks, h1, h2, h3⟩ := ih fun y hy => hn y (.tail _ hy)
    obtain ⟨b1, b2⟩ := hn x (.head _)
    refine ⟨x.toNat :: ks, by simp [h1], fun i k hik => ?_, fun k hk => ?_⟩
    · cases i with
      | zero =>
        obtain rfl : x.toNat = k := by simpa using hik
        exact ⟨t, by rw [Int.toNat_of_nonneg b1]; rfl⟩
      | succ i => exact h2 i k (by simpa using hik)
    · rcases List.mem_cons.mp hk with rfl | hk
      · omega
      · exact h3 k hk
theorem at_len : ∀ {ks : List Nat} {t t' : Tr}, t.at ks = some t' → t'.enc.length ≤ t.enc.length
  | [], t, t', h => by
    have e : t.at [] = some t := by cases t <;> rfl
    rw [e] at h
    cases h
    exact Nat.le_refl _
  | k :: r, .node ts, t', h => by
    have h : ((ts[k]?).bind fun t => t.at r) = some t' := h
    cases hq : ts[k]? with
    | none => rw [hq] at h; cases h
    | some x =>
      rw [hq] at h
      have h1 := at_len (t := x) (t' := t') h
      have h2 := enc_mem_len (List.mem_of_getElem? hq)
      rw [Tr.enc, List.length_append]
      omega
  | k :: r, .leaf b, t', h => by cases h
  | k :: r, .num b, t', h => by cases h
theorem lt_of_all {d : Addr} {l : List (Addr × Obj)} (h : AllLt d l) : ∀ p ∈ l, @LT.lt Nat _ p.1 d := by
  induction l with
  | nil => intro p hp; cases hp
  | cons a r ih =>
    intro p hp
    rcases List.mem_cons.mp hp with rfl | hp
    · exact h.1
    · exact ih h.2 p hp
theorem News.tail2 {g : Heap} {L : Addr} {h : Heap} {a b : Addr × Obj} {r : List (Addr × Obj)} (N : News g L h (a :: b :: r)) : News g L h (a :: r) := fun z hz => N z (by
  rcases List.mem_cons.mp hz with rfl | hz
  · exact .head _
  · exact .tail _ (.tail _ hz))
theorem wl_of {g : Heap} {L : Addr} {h : Heap} {a : Addr} {vs : List Value} {n : Nat} {r : List (Addr × Obj)} (_ : News g L h ((a, W.listOf vs.toArray n) :: r)) : ∃ a' vs', a' = a ∧ vs' = vs := ⟨a, vs, rfl, rfl⟩
theorem fmod_b {a : Int} {n : Nat} (h : 0 < n) : 0 ≤ a.fmod (n : Int) ∧ a.fmod (n : Int) < (n : Int) := by
  rw [Int.fmod_eq_emod_of_nonneg _ (by omega)]
  exact ⟨Int.emod_nonneg _ (by omega), Int.emod_lt_of_pos _ (by omega)⟩
abbrev wmap (kx : Option Value) (bt : Bool) (sv : Value) (wl : Addr) (rest : Int) (tr : Tok) (tl : Addr) (ρ : Str → Option Value) : Str → Option Value := fun y => if y = Str.ofString "k" then kx else if y = Str.ofString "there" then some (.bool bt) else if y = Str.ofString "spot" then some sv else if y = Str.ofString "way" then some (.ref wl) else if y = Str.ofString "rest" then some (.int rest tr) else if y = Str.ofString "tree" then some (.ref tl) else ρ y
theorem deed3b {w : World} {mean : ExcName → Option Value} {mg mb : Str → Option Value} {fx tmp : List (Addr × Obj)} {base : Heap} {L fa c : Addr} {cd : Value} {S : Sta} {rest : Int} {tr : Tok} {ρ : Str → Option Value} {s : Shared} {Q : Flow → Shared → Prop}
    {ts : List Tr} {ns : List Nat} {nl tl : Addr} {kv : List Value} {kc : Nat} {tv : List Value} {vc : Nat} {cb dg dp : List UInt8}
    (AM : Amb w mean mg mb base) (B' : Below (topA 350 1400 []) base [] base) (St : LawSt w fx tmp base L (fun y => if y = Str.ofString "rest" then some (.int rest tr) else if y = Str.ofString "tree" then some (.ref tl) else ρ y) S s.heap) (LF : LawFix fx ts ns nl tl kv kc tv vc cb dg dp)
    (ret : ∀ (m' : Str → Option Value) h' tk' (ks : List Nat) (wl : Addr) (vs : List Value) (wc : Nat) (sv : Value) (bt : Bool), LawSt w fx ((wl, W.listOf vs.toArray wc) :: tmp) base L m' S h' → (vs.length = ks.length ∧ ∀ (i k : Nat), ks[i]? = some k → ∃ t, vs[i]? = some (Value.int (k : Int) t)) → (∀ k ∈ ks, k < 65536) → (bt = true → ∃ t', (Tr.node ts).at ks = some t' ∧ Rep fx t' sv) → (bt = false → (Tr.node ts).at ks = none) →
      m' (Str.ofString "way") = some (.ref wl) → m' (Str.ofString "spot") = some sv → m' (Str.ofString "there") = some (.bool bt) → (∀ y, y ≠ Str.ofString "way" → y ≠ Str.ofString "spot" → y ≠ Str.ofString "there" → y ≠ Str.ofString "k" → m' y = if y = Str.ofString "rest" then some (.int rest tr) else if y = Str.ofString "tree" then some (.ref tl) else ρ y) →
      wpAny (model PRG w) ((topA 350 1400 []).deeper (lenv L fa c cd)) (execs (lawD3.drop 9) (lenv L fa c cd)) Q (fun _ _ => False) {s with heap := h', toks := tk'}) :
    wpAny (model PRG w) ((topA 350 1400 []).deeper (lenv L fa c cd)) (execs (lawD3.drop 4) (lenv L fa c cd)) Q (fun _ _ => False) s := by
  have X' := AM.X
  have T' := AM.T
  obtain ⟨all, hall⟩ : ∃ all, all = tmp ++ (fx ++ S.led w.params) := ⟨_, rfl⟩
  have N : News base L s.heap all := hall ▸ St.N
  have F := St.F
  have mt : (tl, W.listOf tv.toArray vc) ∈ all := hall ▸ List.mem_append_right _ (List.mem_append_left _ LF.tm)
  have hl1 := LF.tlen
  have hl3 := LF.csz
  have hl4 : ts.length + 1 ≤ cb.length := by
    rw [LF.code, Tr.enc, List.length_append]
    have h1 := hdr_len 192 (encs ts).length
    have h2 := encs_len ts
    omega
  have hkl2 : tv.length < 2 ^ 62 := by omega
  show wpAny _ _ (execs (_ :: _) _) _ _ _
  have esc : lawScope = lawScope := rfl
  conv at esc => rhs; whnf
  delta lenv
  rw [esc]
  have B0 := B'
  tb_start
  rename Fr _ _ _ _ => F₁
  rename News _ _ _ _ => N₁
  rename IntsAre _ _ => hI
  obtain ⟨ks, hk1, hk2, hk3⟩ := ints_nats hI fun x hx => by
    have hx := List.mem_of_mem_take hx
    simp only [List.mem_cons, List.not_mem_nil, or_false] at hx
    have q1 := @fmod_b (rest.fdiv 4) (tv.length + 1) (by omega)
    have q2 : 0 ≤ (rest.fdiv 32).fmod 4 ∧ (rest.fdiv 32).fmod 4 < 4 := @fmod_b _ 4 (by omega)
    have q3 : 0 ≤ (rest.fdiv 128).fmod 4 ∧ (rest.fdiv 128).fmod 4 < 4 := @fmod_b _ 4 (by omega)
    rcases hx with rfl | rfl | rfl
    · have e : ((tv.length + 1 : Nat) : Int) = (tv.length : Int) + 1 := by omega
      rw [e] at q1
      omega
    · have := q2.1; have := q2.2; omega
    · have := q3.1; have := q3.2; omega
  rename _ ∧ AllLt _ all => hwl0
  have Nq := News.tail2 N₁
  obtain ⟨wl, ws, rfl, rfl⟩ := wl_of Nq
  have hwl : ∀ y ∈ all, @Ne Nat wl y.1 := fun y hy e => by
    have := lt_of_all hwl0.2 y hy
    omega
  clear N₁ hwl0
  have inN : ∀ {z}, z ∈ ((wl, W.listOf ws.toArray 0) :: tmp) ++ (fx ++ S.led w.params) → z ∈ (wl, W.listOf ws.toArray 0) :: all := fun {z} hz => by
    rcases List.mem_cons.mp hz with rfl | hz
    · exact .head _
    · exact .tail _ (hall ▸ hz)
  have dis' : ∀ z ∈ (wl, W.listOf ws.toArray 0) :: tmp, ∀ y ∈ fx ++ S.led w.params, z.1 ≠ y.1 := fun z hz y hy => by
    rcases List.mem_cons.mp hz with rfl | hz
    · exact hwl y (hall ▸ List.mem_append_right _ hy)
    · exact St.dis z hz y hy
  refine wpAny_For ?_
  tb_start
  rename Fr _ _ _ _ => F₃
  rename News _ _ _ _ => N₃
  refine for_list (l := wl) (xs := ws) (c := 0) (fun i m news => news = (wl, W.listOf ws.toArray 0) :: all ∧ ∃ ti sv kx, (Tr.node ts).at (ks.take i) = some ti ∧ Rep fx ti sv ∧ ∀ y, m y = wmap kx true sv wl rest tr tl ρ y) F₃ N₃ ?_ ?_ ?_ rfl rfl rfl rfl ?_ ?_
  · refine ⟨rfl, .node ts, .ref tl, ρ (Str.ofString "k"), rfl, LF.rep, fun y => ?_⟩
    dsimp only [wmap]
    by_cases hy : y = Str.ofString "k"
    · subst hy; rfl
    · by_cases hw : y = Str.ofString "way"
      · subst hw; rfl
      · simp only [if_neg hy, if_neg hw]
  · rintro i m news ⟨rfl, _⟩; exact .head _
  · passes_own
  · rintro i m news h2 tk2 it ito v ⟨rfl, ti, sv, kx, q1, q2, q3⟩ hv F2 N2 hio dis
    clear F₃ N₃
    have hi : i < ks.length := by
      rcases Nat.lt_or_ge i ws.length with z | z
      · omega
      · rw [List.getElem?_eq_none z] at hv; cases hv
    obtain ⟨tki, htk⟩ := hk2 i _ (List.getElem?_eq_getElem hi)
    rw [htk] at hv
    obtain rfl := (Option.some.inj hv).symm
    have hki : ks[i] < 65536 := hk3 _ (List.getElem_mem _)
    have htake : ks.take (i + 1) = ks.take i ++ [ks[i]] := by rw [List.take_add_one, List.getElem?_eq_getElem hi]; rfl
    have F₄ := Mine.Fr.congr F2 (m' := wmap (some (.int (ks[i] : Int) tki)) true sv wl rest tr tl ρ) (fun y => by
      dsimp only [wmap]
      by_cases hy : y = Str.ofString "k"
      · rw [if_pos hy, if_pos hy]
      · rw [if_neg hy, if_neg hy, q3 y, wmap, if_neg hy])
    clear F2
    unfold wmap at F₄
    (try dsimp only at F₄)
    have hnone : ∀ x, (Tr.node ts).at (ks.take (i + 1)) = x → x = none → (Tr.node ts).at ks = none := fun x e h => by
      rw [← List.take_append_drop (i + 1) ks, Tr.at_append, e, h]; rfl
    rw [htake, Tr.at_append, q1] at hnone
    cases q2 with
    | leaf =>
      tb_start
      rename Fr _ _ _ _ => F₅
      rename News _ _ _ _ => N₅
      dsimp only
      refine ret _ _ _ ks wl ws 0 _ false ⟨F₅, fun z hz => N₅ z (.tail _ (inN hz)), St.I, dis'⟩ ⟨hk1, hk2⟩ hk3 (fun h => by cases h) (fun _ => hnone _ rfl rfl) rfl rfl rfl fun y h1 h2 h3 h4 => ?_
      · rw [if_neg h3, if_neg h4, if_neg h3, if_neg h2, if_neg h1]
    | @node ts' a vs2 c2 hm hl2 hR =>
      have ma : (a, W.listOf vs2.toArray c2) ∈ (it, ito) :: (wl, W.listOf ws.toArray 0) :: all := .tail _ (.tail _ (hall ▸ List.mem_append_right _ (List.mem_append_left _ hm)))
      have hsz := at_len q1
      rw [← LF.code, Tr.enc, List.length_append] at hsz
      have hs2 := encs_len ts'
      have hv2 : vs2.length < 2 ^ 62 := by omega
      by_cases hlt : ks[i] < ts'.length
      · obtain ⟨x, hx⟩ : ∃ x, vs2[ks[i]]? = some x := ⟨_, List.getElem?_eq_getElem (by rw [hl2]; exact hlt)⟩
        tb_start
        all_goals (try (exfalso; omega))
        rename Fr _ _ _ _ => F₅
        rename News _ _ _ _ => N₅
        refine ⟨_, _, _, _, ito, rfl, F₅, N₅, hio, dis, rfl, ts'[ks[i]], x, some (.int (ks[i] : Int) tki), ?_, hR ks[i] _ _ (List.getElem?_eq_getElem hlt) hx, fun y => ?_⟩
        · rw [htake, Tr.at_append, q1]
          show ((ts'[ks[i]]?).bind fun t => t.at []) = _
          rw [List.getElem?_eq_getElem hlt]
          show (ts'[ks[i]]).at [] = _
          cases ts'[ks[i]] <;> rfl
        · dsimp only [wmap]
          by_cases h1 : y = Str.ofString "spot"
          · subst h1; rfl
          · rw [if_neg h1]
            by_cases h2 : y = Str.ofString "k"
            · subst h2; rfl
            · rw [if_neg h2, if_neg h2, if_neg h1, if_neg h1]
      · tb_start
        all_goals (try (exfalso; omega))
        rename Fr _ _ _ _ => F₅
        rename News _ _ _ _ => N₅
        dsimp only
        refine ret _ _ _ ks wl ws 0 _ false ⟨F₅, fun z hz => N₅ z (.tail _ (inN hz)), St.I, dis'⟩ ⟨hk1, hk2⟩ hk3 (fun h => by cases h) (fun _ => hnone _ (by
          show ((ts'[ks[i]]?).bind fun t => t.at []) = none
          rw [List.getElem?_eq_none (by omega)]; rfl) rfl) rfl rfl rfl fun y h1 h2 h3 h4 => ?_
        rw [if_neg h3, if_neg h4, if_neg h3, if_neg h2, if_neg h1]
  · rintro m news h2 tk2 ⟨rfl, ti, sv, kx, q1, q2, q3⟩ F2 N2
    show wpAny _ _ (execs [] _) _ _ _
    clear F₃ N₃
    have F := Mine.Fr.congr F2 q3
    clear F2
    unfold wmap at F
    (try dsimp only at F)
    tb_start
    rename Fr _ _ _ _ => F₅
    rename News _ _ _ _ => N₅
    rw [hk1, List.take_length] at q1
    refine ret _ _ _ ks wl ws 0 sv true ⟨F₅, fun z hz => N₅ z (inN hz), St.I, dis'⟩ ⟨hk1, hk2⟩ hk3 (fun _ => ⟨ti, q1, q2⟩) (fun h => by cases h) rfl rfl rfl fun y h1 h2 h3 h4 => ?_
    · rw [if_neg h4, if_neg h3, if_neg h2, if_neg h1]
end Mine
end

section
theorem Mine.quietDeed3c : True := by
  w_top off
  trivial
open PySem PySem.W PySem.Spec PySem.Calls PyProof.Rows
set_option Elab.async false
set_option maxRecDepth 100000
set_option maxHeartbeats 8000000
namespace Mine
theorem filled25 (w : World) (h : Heap) (X : (Mine.hd.heap_39 w.params).In h) : Challenge.rw_sx0040_01 = Challenge.rw_sx0040_01 := by
  revert X; k_fill; intro _; rfl
local macro_rules | `(tactic| tb_start) => `(tactic| repeat' ((fail_if_success (with_reducible show wpAny _ _ (call (Value.ref 164) _) _ _ _)); (fail_if_success (with_reducible show wpAny _ _ (call (Value.ref 233) _) _ _ _)); (fail_if_success (with_reducible show wpAny _ _ (exec (Stmt.While _ _ _ _) _) _ _ _)); (fail_if_success (with_reducible show wpAny _ _ (exec (Stmt.For _ _ _ _ _) _) _ _ _)); (fail_if_success (with_reducible show wpAny _ _ (pyIter _) _ _ _)); first | (k_unfold; (try dsimp only)) | (k_end; wrow_close) | walk1 | (dsimp only; walk1) | (leave1; walk_say "STEP leave1"; try dsimp only) | fail "no step"))
local macro_rules | `(tactic| walk_at "idle line") => `(tactic| skip)
local macro_rules | `(tactic| walk_at "idle line") => `(tactic| skip)
local macro_rules | `(tactic| walk_at "idle line") => `(tactic| skip)
local macro_rules | `(tactic| walk_at "idle line") => `(tactic| skip)
local macro_rules | `(tactic| walk_at "idle line") => `(tactic| skip)
local macro_rules | `(tactic| walk_at "idle line") => `(tactic| skip)
local macro_rules | `(tactic| walk_at "idle line") => `(tactic| skip)
local macro_rules | `(tactic| walk_at "idle line") => `(tactic| skip)
local macro_rules | `(tactic| walk_at "idle line") => `(tactic| skip)
local macro_rules | `(tactic| walk_at "idle line") => `(tactic| skip)
local macro_rules | `(tactic| walk_at "idle line") => `(tactic| skip)
local macro_rules | `(tactic| walk_at "idle line") => `(tactic| skip)
local macro_rules | `(tactic| walk_at "idle line") => `(tactic| skip)
local macro_rules | `(tactic| walk_at "idle line") => `(tactic| skip)
local macro_rules | `(tactic| walk_at "idle line") => `(tactic| skip)
local macro_rules | `(tactic| walk_at "idle line") => `(tactic| skip)
local macro_rules | `(tactic| walk_at "idle line") => `(tactic| skip)
local macro_rules | `(tactic| walk_at "idle line") => `(tactic| skip)
local macro_rules | `(tactic| walk_at "idle line") => `(tactic| skip)
local macro_rules | `(tactic| walk_at "idle line") => `(tactic| skip)
local macro_rules | `(tactic| walk_at "idle line") => `(tactic| skip)
local macro_rules | `(tactic| walk_at "idle line") => `(tactic| skip)
local macro_rules | `(tactic| walk_at "idle line") => `(tactic| skip)
local macro_rules | `(tactic| walk_at "idle line") => `(tactic| skip)
local macro_rules | `(tactic| walk_at "idle line") => `(tactic| skip)
local macro_rules | `(tactic| walk_at "exec Try") => `(tactic| ((with_reducible show wpAny _ _ (exec (Stmt.Try _ (_ :: _) _ [] _) _) _ _ _); refine wpAny_Try_except ?_))
abbrev vmap (bt : Bool) (sv : Value) (wl : Addr) (cb : List UInt8) (tc1 : Tok) (hl : Addr) (ρ : Str → Option Value) : Str → Option Value := fun y => if y = Str.ofString "there" then some (.bool bt) else if y = Str.ofString "spot" then some sv else if y = Str.ofString "way" then some (.ref wl) else if y = Str.ofString "code" then some (.bytes cb.toArray tc1) else if y = Str.ofString "held" then some (.ref hl) else ρ y
theorem at_plain : ∀ {ks : List Nat} {t t' : Tr}, t.plain → t.at ks = some t' → t'.plain
  | [], t, t', h, e => by
    have e2 : t.at [] = some t := by cases t <;> rfl
    rw [e2] at e
    cases e
    exact h
  | k :: r, .node ts, t', h, e => by
    have e : ((ts[k]?).bind fun t => t.at r) = some t' := e
    cases hq : ts[k]? with
    | none => rw [hq] at e; cases e
    | some x =>
      rw [hq] at e
      exact at_plain (t := x) (t' := t') (plains_iff.mp h x (List.mem_of_getElem? hq)) e
  | k :: r, .leaf b, t', h, e => by cases e
  | k :: r, .num b, t', h, e => by cases e
theorem deed3c {w : World} {mean : ExcName → Option Value} {mg mb : Str → Option Value} {fx tmp : List (Addr × Obj)} {base : Heap} {L fa c : Addr} {cd : Value} {S : Sta} {ρ : Str → Option Value} {s : Shared} {Q : Flow → Shared → Prop}
    {ts : List Tr} {ns : List Nat} {nl tl : Addr} {kv : List Value} {kc : Nat} {tv : List Value} {vc : Nat} {cb dg dp : List UInt8} {tc1 : Tok} {ks : List Nat} {wl : Addr} {vs : List Value} {wc : Nat} {sv : Value} {bt : Bool}
    (AM : Amb w mean mg mb base) (B' : Below (topA 350 1400 []) base [] base) (St : LawSt w fx ((wl, W.listOf vs.toArray wc) :: tmp) base L (vmap bt sv wl cb tc1 S.hl ρ) S s.heap) (LF : LawFix fx ts ns nl tl kv kc tv vc cb dg dp) (hits : S.its.length < 9999)
    (hvs : vs.length = ks.length ∧ ∀ (i k : Nat), ks[i]? = some k → ∃ t, vs[i]? = some (Value.int (k : Int) t)) (hks : ∀ k ∈ ks, k < 65536) (h1 : bt = true → ∃ t', (Tr.node ts).at ks = some t' ∧ Rep fx t' sv) (h0 : bt = false → (Tr.node ts).at ks = none)
    (ret : ∀ S' m' h' tk', LawSt w fx tmp base L m' S' h' → (∀ y, y ≠ Str.ofString "got" → y ≠ Str.ofString "came" → m' y = vmap bt sv wl cb tc1 S.hl ρ y) → (S' = S ∨ ∃ n c', S' = S.add n c' ∧ n.a.cnt = n.r.els.length) → Q .next {s with heap := h', toks := tk'}) :
    wpAny (model PRG w) ((topA 350 1400 []).deeper (lenv L fa c cd)) (execs (lawD3.drop 9) (lenv L fa c cd)) Q (fun _ _ => False) s := by
  have X' := AM.X
  have T' := AM.T
  obtain ⟨all, hall⟩ : ∃ all, all = tmp ++ (fx ++ S.led w.params) := ⟨_, rfl⟩
  have N : News base L s.heap ((wl, W.listOf vs.toArray wc) :: all) := hall ▸ St.N
  have F := St.F
  unfold vmap at F
  (try dsimp only at F)
  have drop : ∀ {m' h'}, Fr base L h' m' → News base L h' all → LawSt w fx tmp base L m' S h' := fun F N => ⟨F, hall ▸ N, St.I, fun z hz => St.dis z (.tail _ hz)⟩
  show wpAny _ _ (execs (_ :: _) _) _ _ _
  have esc : lawScope = lawScope := rfl
  conv at esc => rhs; whnf
  delta lenv
  rw [esc]
  have B0 := B'
  tb_start
  rename Fr _ _ _ _ => F₁
  rename News _ _ _ _ => N₁
  refine wk (d := 400) (u := 1600) (Nat.le_of_ble_eq_true rfl) (Nat.le_of_ble_eq_true rfl) ?_
  refine peek_way (ks := ks) (vs := vs) (ic := wc) (ts := ts) AM (pcall B0 F₁ rfl rfl) (cells_n B0 F₁ N₁ (fun z hz => ?_) rfl rfl) hvs hks LF.code LF.csz LF.plain (fun t' v nw h2 tk2 hat k1 k2 k3 k4 hK => ?_) fun e h2 tk2 hat Rz => ?_
  · obtain rfl := List.mem_singleton.mp hz
    exact .head _
  · cases bt with
    | false => rw [h0 rfl] at hat; cases hat
    | true =>
      obtain ⟨t0, hat0, hrep⟩ := h1 rfl
      rw [hat] at hat0
      obtain rfl := Option.some.inj hat0
      obtain ⟨F₂, N₂, l2⟩ := pbackN (out := nw) F₁ N₁ k1 fun p hp => ⟨k2 p hp, k3 p hp⟩
      clear F₁ N₁
      cases hrep with
      | leaf =>
        obtain ⟨⟨tb, rfl⟩, rfl⟩ := hK
        rw [List.nil_append] at N₂
        have N₃ : News base L _ all := fun z hz => N₂ z (.tail _ hz)
        clear N₂
        tb_start
        all_goals (try (rename ((_ != _) = true) => ha; exfalso; simp at ha; done))
        rename Fr _ _ _ _ => F₄
        rename News _ _ _ _ => N₄
        refine ret S _ _ _ (drop F₄ N₄) (fun y h1 h2 => ?_) (.inl rfl)
        rw [if_neg h2, if_neg h1]
      | @node ts' a vs2 c2 hm hl2 hR =>
        obtain ⟨q, rfl, rfl, q1, q2, q3, q4, q5, q6⟩ := hK
        have hsz := at_len hat
        rw [← LF.code, Tr.enc, List.length_append] at hsz
        have hs2 := encs_len ts'
        have hs3 := LF.csz
        have hs4 := hdr_len 192 (encs ts').length
        have hpt : ∀ t ∈ ts', t.plain := plains_iff.mp (at_plain LF.plain hat)
        obtain ⟨all2, hall2⟩ : ∃ all2, all2 = q.cells w.params ++ ((wl, W.listOf vs.toArray wc) :: all) := ⟨_, rfl⟩
        rw [← hall2] at N₂
        have ma : (a, W.listOf vs2.toArray c2) ∈ all2 := hall2 ▸ List.mem_append_right _ (.tail _ (hall ▸ List.mem_append_right _ (List.mem_append_left _ hm)))
        tb_start
        all_goals (try (rename ((_ != _) = true) => ha; exfalso; simp at ha; done))
        rename Fr _ _ _ _ => F₄
        rename News _ _ _ _ => N₄
        have St2 : LawSt w fx (q.cells w.params ++ ((wl, W.listOf vs.toArray wc) :: tmp)) base L _ S _ := ⟨F₄, fun z hz => N₄ z (by
          rw [hall2, hall]
          simpa using hz), St.I, fun z hz y hy => by
            rcases List.mem_append.mp hz with hz | hz
            · exact fun e => l2 z hz y (.tail _ (hall ▸ List.mem_append_right _ hy)) e.symm
            · exact St.dis z hz y hy⟩
        refine wk (d := 450) (u := 1800) (Nat.le_of_ble_eq_true rfl) (Nat.le_of_ble_eq_true rfl) ?_
        refine st_fresh AM B0 St2 rfl rfl q1 q2 q4 ⟨[], .inl ⟨q6, rfl, fun t ht => noNum_plain (hpt t (q3 ▸ ht))⟩, (fun _ h => nomatch h), List.nodup_nil⟩ ⟨a, vs2, c2, rfl, hm, by rw [q3]; exact hl2, fun p t v h1 h2 => by
          rw [q3] at h1
          exact repK_of (hR p t v h1 h2) (hpt t (List.mem_of_getElem? h1))⟩ (by rw [q3]; omega) (fun _ t ht => hpt t (q3 ▸ ht)) (fun z hz y hy e => l2 y hy z (by
            rcases List.mem_cons.mp hz with rfl | hz
            · exact .head _
            · exact .tail _ (hall ▸ List.mem_append_left _ hz)) e) hits fun n c' h3 tk3 St3 n1 n2 n3 => ?_
        clear F₄ N₄
        have F := St3.F
        have N := St3.N
        tb_start
        rename Fr _ _ _ _ => F₄
        rename News _ _ _ _ => N₄
        refine ret (S.add n c') _ _ _ ⟨F₄, fun z hz => N₄ z ?_, St3.I, fun z hz => St3.dis z (.tail _ hz)⟩ (fun y h1 h2 => ?_) (.inr ⟨n, c', rfl, by rw [n1, n2, q4]; rfl⟩)
        · exact .tail _ hz
        · rw [if_neg h2, if_neg h1]
  · cases bt with
    | true =>
      obtain ⟨t0, hat0, _⟩ := h1 rfl
      rw [hat] at hat0; cases hat0
    | false =>
      obtain ⟨G, FG, RS, U⟩ := to_SN (cl := [(Str.ofString "left", c)]) (rest := all) B0 F₁ N₁ Rz (fun _ h => nomatch h) (fun _ h => nomatch h) (fun z hz => ⟨.tail _ hz, fun h => nomatch h⟩)
      refine caught_X (T' := "IndexError") RS FG B0 U AM.X AM.T KtsTurn.refl ?_ ?_ ?_ ?_ ?_ ?_ ?_ ?_
      · k_is
      · boot_by_name
      · decide
      · rw [isSubtype_type]; kernel_rfl
      · rw [show ((Manifest.find? "IndexError").elim "type" fun x => x.metatype) = "type" from by kernel_rfl, isSubtype_type]; kernel_rfl
      · rw [isSubtype_type]; kernel_rfl
      · passes_own
      clear F₁ N₁
      intro h3 g3 T3 F3 N3 B3 X3 P3
      obtain ⟨F, N⟩ := turn_base T3 F3 N3
      rw [List.nil_append] at N
      clear F3 N3 T3 RS FG U
      tb_start
      all_goals (try (rename ((_ != _) = true) => ha; exfalso; simp at ha; done))
      rename Fr _ _ _ _ => F₄
      rename News _ _ _ _ => N₄
      refine ret S _ _ _ (drop F₄ N₄) (fun y h1 h2 => ?_) (.inl rfl)
      rw [if_neg h2]
end Mine
end

section
theorem Mine.quietTurnA : True := by
  w_top off
  trivial
open PySem PySem.W PySem.Spec PySem.Calls PyProof.Rows
set_option Elab.async false
set_option maxRecDepth 100000
set_option maxHeartbeats 8000000
namespace Mine
theorem filled26 (w : World) (h : Heap) (X : (Mine.hd.heap_39 w.params).In h) : Challenge.rw_sx0040_01 = Challenge.rw_sx0040_01 := by
  revert X; k_fill; intro _; rfl
local macro_rules | `(tactic| tb_start) => `(tactic| repeat' ((fail_if_success (with_reducible show wpAny _ _ (execs (Stmt.If _ _ _ _ :: _) _) _ _ _)); (fail_if_success (with_reducible show wpAny _ _ (exec (Stmt.While _ _ _ _) _) _ _ _)); (fail_if_success (with_reducible show wpAny _ _ (exec (Stmt.For _ _ _ _ _) _) _ _ _)); (fail_if_success (with_reducible show wpAny _ _ (pyIter _) _ _ _)); first | (k_unfold; (try dsimp only)) | (k_end; wrow_close) | walk1 | (dsimp only; walk1) | (leave1; walk_say "STEP leave1"; try dsimp only) | fail "no step"))
local macro_rules | `(tactic| walk_at "idle line") => `(tactic| skip)
local macro_rules | `(tactic| walk_at "idle line") => `(tactic| skip)
local macro_rules | `(tactic| walk_at "idle line") => `(tactic| skip)
local macro_rules | `(tactic| walk_at "idle line") => `(tactic| skip)
local macro_rules | `(tactic| walk_at "idle line") => `(tactic| skip)
local macro_rules | `(tactic| walk_at "idle line") => `(tactic| skip)
local macro_rules | `(tactic| walk_at "idle line") => `(tactic| skip)
local macro_rules | `(tactic| walk_at "idle line") => `(tactic| skip)
local macro_rules | `(tactic| walk_at "idle line") => `(tactic| skip)
local macro_rules | `(tactic| walk_at "idle line") => `(tactic| skip)
local macro_rules | `(tactic| walk_at "idle line") => `(tactic| skip)
local macro_rules | `(tactic| walk_at "idle line") => `(tactic| skip)
local macro_rules | `(tactic| walk_at "idle line") => `(tactic| skip)
local macro_rules | `(tactic| walk_at "idle line") => `(tactic| skip)
local macro_rules | `(tactic| walk_at "idle line") => `(tactic| skip)
local macro_rules | `(tactic| walk_at "idle line") => `(tactic| skip)
local macro_rules | `(tactic| walk_at "idle line") => `(tactic| skip)
local macro_rules | `(tactic| walk_at "idle line") => `(tactic| skip)
local macro_rules | `(tactic| walk_at "idle line") => `(tactic| skip)
local macro_rules | `(tactic| walk_at "idle line") => `(tactic| skip)
local macro_rules | `(tactic| walk_at "idle line") => `(tactic| skip)
local macro_rules | `(tactic| walk_at "idle line") => `(tactic| skip)
local macro_rules | `(tactic| walk_at "idle line") => `(tactic| skip)
local macro_rules | `(tactic| walk_at "idle line") => `(tactic| skip)
local macro_rules | `(tactic| walk_at "idle line") => `(tactic| skip)
local macro_rules | `(tactic| walk_at "subscriptTail") => `(tactic| (k_here; (with_reducible show wpAny _ _ (subscriptTail _ _ (Value.ref _) (Value.int _ _)) _ _ _); k_dflt (first
  | (refine' item_nat ?k1 ?k2 ?k3 ?k4 ?k5 ?_; (case k1 => k_asm); (case k2 => assumption); (case k3 => assumption); (case k4 => assumption); (case k5 => omega); k_whole)
  | (refine' item_nat (k := 0) ?k1 ?k2 ?k3 ?k4 ?k5 ?_; (case k1 => k_asm); (case k2 => assumption); (case k3 => rfl); (case k4 => rfl); (case k5 => omega); k_whole)
  | (refine' item_nat (k := 1) ?k1 ?k2 ?k3 ?k4 ?k5 ?_; (case k1 => k_asm); (case k2 => assumption); (case k3 => rfl); (case k4 => rfl); (case k5 => omega); k_whole)
  | (refine' item_nat (k := 2) ?k1 ?k2 ?k3 ?k4 ?k5 ?_; (case k1 => k_asm); (case k2 => assumption); (case k3 => rfl); (case k4 => rfl); (case k5 => omega); k_whole))))
local macro_rules | `(tactic| walk_at "call builtin:len") => `(tactic| (k_here; (with_reducible show wpAny _ _ (call (Value.builtin _) [Value.ref _]) _ _ _); k_dflt (refine' len_L ?k1 ?k2 ?k3 ?_; (case k1 => k_asm); (case k2 => assumption); (case k3 => assumption); k_whole)))
theorem to_dmap {base h : Heap} {L x hl nl tl : Addr} {p cnt k : Nat} {tp tc tr th tn tc1 td te : Tok} {kv : Value} {rest n : Int} {cb dg dp : List UInt8} {ρ : Str → Option Value}
    (F : Fr base L h (fun y => if y = Str.ofString "place" then some (.int (p : Int) tp) else if y = Str.ofString "count" then some (.int (cnt : Int) tc) else if y = Str.ofString "kids" then some kv else if y = Str.ofString "row" then some (.ref x)
    else if y = Str.ofString "rest" then some (.int rest tr) else if y = Str.ofString "h" then some (.int (k : Int) th) else if y = Str.ofString "n" then some (.int n tn) else if y = Str.ofString "held" then some (.ref hl) else emap nl tl cb dg dp tc1 td te ρ y)) :
    Fr base L h (dmap p tp cnt tc kv x rest tr k th hl (emap nl tl cb dg dp tc1 td te (fun y => if y = Str.ofString "n" then some (.int n tn) else ρ y))) :=
  Mine.Fr.congr F fun y => by
    dsimp only [dmap, emap]
    by_cases hn : y = Str.ofString "n"
    · subst hn; rfl
    · simp only [if_neg hn]
theorem turn_pre {w : World} {mean : ExcName → Option Value} {mg mb : Str → Option Value} {fx tmp : List (Addr × Obj)} {base : Heap} {L fa c : Addr} {cd : Value} {S : Sta} {n : Int} {tn tc1 td te : Tok} {ρ : Str → Option Value} {s : Shared} {Q : Flow → Shared → Prop}
    {nl tl : Addr} {cb dg dp : List UInt8}
    (AM : Amb w mean mg mb base) (B' : Below (topA 350 1400 []) base [] base) (St : LawSt w fx tmp base L (fun y => if y = Str.ofString "n" then some (.int n tn) else if y = Str.ofString "held" then some (.ref S.hl) else emap nl tl cb dg dp tc1 td te ρ y) S s.heap) (hits : S.its.length < 9999) (hpos : 0 < S.its.length)
    (ret : ∀ (k p : Nat) (i : Item) rest h' tk' tp tc tr th ρ', LawSt w fx tmp base L (dmap p tp i.a.cnt tc i.a.kids i.r.x rest tr k th S.hl (emap nl tl cb dg dp tc1 td te ρ')) S h' → S.its[k]? = some i → p < 65536 → wpAny (model PRG w) ((topA 350 1400 []).deeper (lenv L fa c cd)) (execs (lawLoop.drop 6) (lenv L fa c cd)) Q (fun _ _ => False) {s with heap := h', toks := tk'}) :
    wpAny (model PRG w) ((topA 350 1400 []).deeper (lenv L fa c cd)) (execs lawLoop (lenv L fa c cd)) Q (fun _ _ => False) s := by
  have X' := AM.X
  have T' := AM.T
  obtain ⟨xs, hxs⟩ : ∃ xs, xs = (S.its.map (·.a)).map fun a => Value.ref a.e := ⟨_, rfl⟩
  have hxl : xs.length = S.its.length := by rw [hxs, List.length_map, List.length_map]
  have hlm : xs.length < 2 ^ 62 := by omega
  obtain ⟨k, hfm, hk⟩ : ∃ k : Nat, n.fmod (xs.length : Int) = (k : Int) ∧ k < S.its.length := by
    rw [Int.fmod_eq_emod_of_nonneg _ (by omega)]
    have h1 := Int.emod_nonneg n (b := (xs.length : Int)) (by omega)
    have h2 := Int.emod_lt_of_pos n (b := (xs.length : Int)) (by omega)
    exact ⟨_, (Int.toNat_of_nonneg h1).symm, by omega⟩
  obtain ⟨i, hi⟩ : ∃ i, S.its[k]? = some i := ⟨_, List.getElem?_eq_getElem hk⟩
  have io := St.I.it k i hi
  obtain ⟨ka, kv, n0, hka, hkf, hkl, hkr⟩ := io.kids
  obtain ⟨all, hall, N, N9, mh, me, mk, eat⟩ := St.view hi hka hkf
  clear N9
  rw [← hxs] at mh eat
  have hsm := io.small
  have hkl2 : kv.length < 2 ^ 62 := by omega
  have F := St.F
  unfold emap at F
  (try dsimp only at F)
  show wpAny _ _ (execs (_ :: _) _) _ _ _
  have esc : lawScope = lawScope := rfl
  conv at esc => rhs; whnf
  delta lenv
  rw [esc]
  have B0 := B'
  obtain ⟨p, hpf, hp⟩ : ∃ p : Nat, ((n.fdiv (xs.length : Int)).fdiv 4).fmod ((kv.length : Int) + 2) = (p : Int) ∧ p < 65536 + 1 := by
    rw [Int.fmod_eq_emod_of_nonneg _ (by omega)]
    have h1 := Int.emod_nonneg ((n.fdiv (xs.length : Int)).fdiv 4) (b := (kv.length : Int) + 2) (by omega)
    have h2 := Int.emod_lt_of_pos ((n.fdiv (xs.length : Int)).fdiv 4) (b := (kv.length : Int) + 2) (by omega)
    exact ⟨_, (Int.toNat_of_nonneg h1).symm, by omega⟩
  have hp3 : p < 65536 := by
    have h2 := Int.emod_lt_of_pos ((n.fdiv (xs.length : Int)).fdiv 4) (b := (kv.length : Int) + 2) (by omega)
    rw [← Int.fmod_eq_emod_of_nonneg _ (by omega), hpf] at h2
    omega
  tb_start
  rename Fr _ _ _ _ => F₁
  rename News _ _ _ _ => N₁
  simp only [hpf, hfm] at F₁
  rw [← hka, io.x] at F₁
  have F₂ := to_dmap F₁
  exact ret k p i _ _ _ _ _ _ _ _ ⟨F₂, hall ▸ N₁, St.I, St.dis⟩ hi hp3
end Mine
end

section
theorem Mine.quietTurnB : True := by
  w_top off
  trivial
open PySem PySem.W PySem.Spec PySem.Calls PyProof.Rows
set_option Elab.async false
set_option maxRecDepth 100000
set_option maxHeartbeats 8000000
namespace Mine
theorem filled27 (w : World) (h : Heap) (X : (Mine.hd.heap_39 w.params).In h) : Challenge.rw_sx0040_01 = Challenge.rw_sx0040_01 := by
  revert X; k_fill; intro _; rfl
local macro_rules | `(tactic| tb_start) => `(tactic| repeat' ((fail_if_success (with_reducible show wpAny _ _ (execs (Stmt.Try _ _ _ _ _ :: _) _) _ _ _)); (fail_if_success (with_reducible show wpAny _ _ (execs (Stmt.If _ _ _ _ :: _ :: _) _) _ _ _)); (fail_if_success (with_reducible show wpAny _ _ (execs (Stmt.Assign _ _ _ :: _) _) _ _ _)); (fail_if_success (with_reducible show wpAny _ _ (exec (Stmt.While _ _ _ _) _) _ _ _)); (fail_if_success (with_reducible show wpAny _ _ (exec (Stmt.For _ _ _ _ _) _) _ _ _)); (fail_if_success (with_reducible show wpAny _ _ (pyIter _) _ _ _)); first | (k_unfold; (try dsimp only)) | (k_end; wrow_close) | walk1 | (dsimp only; walk1) | (leave1; walk_say "STEP leave1"; try dsimp only) | fail "no step"))
def Six (hl nl tl : Addr) (cb dg dp : List UInt8) (tc1 td te : Tok) (m : Str → Option Value) : Prop := m (Str.ofString "held") = some (.ref hl) ∧ m (Str.ofString "numbers") = some (.ref nl) ∧ m (Str.ofString "digits") = some (.bytes dg.toArray td) ∧ m (Str.ofString "deeper") = some (.bytes dp.toArray te) ∧ m (Str.ofString "tree") = some (.ref tl) ∧ m (Str.ofString "code") = some (.bytes cb.toArray tc1)
theorem Evo.len {S S' : Sta} (h : Evo S S') (hp : 0 < S.its.length) : 0 < S'.its.length := by
  obtain ⟨i, hi, _⟩ := h.keep 0 _ (List.getElem?_eq_getElem hp)
  rcases Nat.lt_or_ge 0 S'.its.length with q | q
  · exact q
  · rw [List.getElem?_eq_none q] at hi; cases hi
theorem ovr {m : Str → Option Value} {x : Str} {v : Option Value} (h : m x = v) (y : Str) : m y = if y = x then v else m y := by
  by_cases q : y = x
  · rw [if_pos q, q, h]
  · rw [if_neg q]
theorem cnt_add {S : Sta} {n : Item} {c : Nat} (h : Cnt S) (hn : n.a.cnt = n.r.els.length) : Cnt (S.add n c) := by
  intro j ij hj
  have hj : (S.its ++ [n])[j]? = some ij := hj
  by_cases q : j < S.its.length
  · rw [List.getElem?_append_left q] at hj
    exact h j ij hj
  · rw [List.getElem?_append_right (by omega)] at hj
    have e : ij = n := by
      cases hh : j - S.its.length with
      | zero => rw [hh] at hj; simpa using hj.symm
      | succ k => rw [hh] at hj; simp at hj
    subst e
    exact hn
theorem turn_go {w : World} {mean : ExcName → Option Value} {mg mb : Str → Option Value} {fx tmp : List (Addr × Obj)} {base : Heap} {L fa c : Addr} {cd : Value} {S : Sta} {k p : Nat} {i i2 : Item} {rest : Int} {tp tc tr th tc1 td te : Tok} {ρ : Str → Option Value} {s : Shared} {Q : Flow → Shared → Prop}
    {ts : List Tr} {ns : List Nat} {nl tl : Addr} {kv : List Value} {kc : Nat} {tv : List Value} {vc : Nat} {cb dg dp : List UInt8}
    (AM : Amb w mean mg mb base) (B' : Below (topA 350 1400 []) base [] base) (St : LawSt w fx tmp base L (dmap p tp i.a.cnt tc i.a.kids i.r.x rest tr k th S.hl (emap nl tl cb dg dp tc1 td te ρ)) S s.heap) (LF : LawFix fx ts ns nl tl kv kc tv vc cb dg dp) (hi : S.its[k]? = some i) (hp : p < 65536) (hi2 : S.its[2]? = some i2) (hk2 : i2.r.kids = ns.map Tr.num) (hits : S.its.length < 9999) (hct : Cnt S)
    (ret : ∀ S' m' h' tk', LawSt w fx tmp base L m' S' h' → Six S.hl nl tl cb dg dp tc1 td te m' → Cnt S' → Evo S S' → S'.its.length ≤ S.its.length + 1 → Q .next {s with heap := h', toks := tk'}) :
    wpAny (model PRG w) ((topA 350 1400 []).deeper (lenv L fa c cd)) (execs (lawLoop.drop 6) (lenv L fa c cd)) Q (fun _ _ => False) s := by
  have X' := AM.X
  have T' := AM.T
  have io := St.I.it k i hi
  have six : ∀ m' : Str → Option Value, (∀ y, y ≠ Str.ofString "got" → y ≠ Str.ofString "came" → m' y = dmap p tp i.a.cnt tc i.a.kids i.r.x rest tr k th S.hl (emap nl tl cb dg dp tc1 td te ρ) y) → Six S.hl nl tl cb dg dp tc1 td te m' := fun m' h =>
    ⟨h _ (by decide) (by decide), h _ (by decide) (by decide), h _ (by decide) (by decide), h _ (by decide) (by decide), h _ (by decide) (by decide), h _ (by decide) (by decide)⟩
  have F := St.F
  have N := St.N
  obtain ⟨all, hall⟩ : ∃ all, all = tmp ++ (fx ++ S.led w.params) := ⟨_, rfl⟩
  rw [← hall] at N
  unfold dmap emap at F
  (try dsimp only at F)
  show wpAny _ _ (execs (_ :: _) _) _ _ _
  have esc : lawScope = lawScope := rfl
  conv at esc => rhs; whnf
  delta lenv
  rw [esc]
  have B0 := B'
  tb_start
  · by_cases hlt : p < i.r.kids.length
    · refine' deed0_in AM B0 ?St hi hits hct hlt ?rt
      case St => exact St
      case rt =>
        intro S' m' h' tk' St' hm hc ev hl
        clear F N
        have F := St'.F
        have N := St'.N
        tb_start
        exact ret S' m' _ _ St' (six m' hm) hc ev hl
    · refine' deed0_out AM B0 ?St hi hits hct (by omega) hp ?rt
      case St => exact St
      case rt =>
        intro S' m' h' tk' St' hm hc ev hl
        clear F N
        have F := St'.F
        have N := St'.N
        tb_start
        exact ret S' m' _ _ St' (six m' hm) hc ev hl
  · have hle := io.ok.le
    have hcn := hct k i hi
    by_cases hlt : i.a.cnt < i.r.kids.length
    · refine' deed1_in AM B0 ?St hi hits hct hlt ?rt
      case St => exact St
      case rt =>
        intro S' m' h' tk' St' hm hc ev hl
        clear F N
        have F := St'.F
        have N := St'.N
        tb_start
        exact ret S' m' _ _ St' (six m' hm) hc ev hl
    · refine' deed1_out AM B0 ?St hi hits hct (by omega) ?rt
      case St => exact St
      case rt =>
        intro S' m' h' tk' St' hm hc ev hl
        clear F N
        have F := St'.F
        have N := St'.N
        tb_start
        exact ret S' m' _ _ St' (six m' hm) hc ev hl
  · refine' deed2_spec AM B0 ?St hi hits hct ?rt
    case St => exact St
    case rt =>
      intro S' m' h' tk' St' hm hc ev hl
      clear F N
      have F := St'.F
      have N := St'.N
      tb_start
      exact ret S' m' _ _ St' (six m' hm) hc ev hl
  · refine' deed3a AM B0 ?St LF hi2 hk2 hits ?rt
    case St => exact St
    case rt =>
      intro m1 h1 tk1 St1 hm1
      have r1 : m1 (Str.ofString "rest") = some (.int rest tr) := hm1 _ (by decide) (by decide) (by decide)
      have r2 : m1 (Str.ofString "tree") = some (.ref tl) := hm1 _ (by decide) (by decide) (by decide)
      refine' deed3b (ρ := m1) (rest := rest) (tr := tr) AM B0 ?St LF ?rt
      case St => exact ⟨Mine.Fr.congr St1.F fun y => by rw [← ovr r2 y, ← ovr r1 y], St1.N, St1.I, St1.dis⟩
      case rt =>
        intro m2 h2 tk2 ks wl vs wc sv bt St2 v1 v2 v3 v4 w1 w2 w3 w4
        have s1 : m2 (Str.ofString "code") = some (.bytes cb.toArray tc1) := (w4 _ (by decide) (by decide) (by decide) (by decide)).trans (hm1 _ (by decide) (by decide) (by decide))
        have s2 : m2 (Str.ofString "held") = some (.ref S.hl) := (w4 _ (by decide) (by decide) (by decide) (by decide)).trans (hm1 _ (by decide) (by decide) (by decide))
        have s3 : m2 (Str.ofString "numbers") = some (.ref nl) := (w4 _ (by decide) (by decide) (by decide) (by decide)).trans (hm1 _ (by decide) (by decide) (by decide))
        have s4 : m2 (Str.ofString "digits") = some (.bytes dg.toArray td) := (w4 _ (by decide) (by decide) (by decide) (by decide)).trans (hm1 _ (by decide) (by decide) (by decide))
        have s5 : m2 (Str.ofString "deeper") = some (.bytes dp.toArray te) := (w4 _ (by decide) (by decide) (by decide) (by decide)).trans (hm1 _ (by decide) (by decide) (by decide))
        have s6 : m2 (Str.ofString "tree") = some (.ref tl) := w4 _ (by decide) (by decide) (by decide) (by decide)
        refine' deed3c (ρ := m2) (tc1 := tc1) AM B0 ?St LF hits v1 v2 v3 v4 ?rt
        case St => exact ⟨Mine.Fr.congr St2.F fun y => by dsimp only [vmap]; rw [← ovr s2 y, ← ovr s1 y, ← ovr w1 y, ← ovr w2 y, ← ovr w3 y], St2.N, St2.I, St2.dis⟩
        case rt =>
          intro S' m3 h3 tk3 St3 hm3 alt
          clear F N
          have F := St3.F
          have N := St3.N
          have sx : Six S.hl nl tl cb dg dp tc1 td te m3 := ⟨hm3 _ (by decide) (by decide), (hm3 _ (by decide) (by decide)).trans s3, (hm3 _ (by decide) (by decide)).trans s4, (hm3 _ (by decide) (by decide)).trans s5, (hm3 _ (by decide) (by decide)).trans s6, hm3 _ (by decide) (by decide)⟩
          tb_start
          rcases alt with rfl | ⟨n, c', rfl, hn⟩
          · exact ret _ m3 _ _ St3 sx hct Evo.refl (by omega)
          · exact ret _ m3 _ _ St3 sx (cnt_add hct hn) Evo.add (by show (S.its ++ [n]).length ≤ _; rw [List.length_append]; simp)
end Mine
end

section
theorem Mine.quietLawP : True := by
  w_top off
  trivial
open PySem PySem.W PySem.Spec PySem.Calls PyProof.Rows
set_option Elab.async false
set_option maxRecDepth 100000
set_option maxHeartbeats 8000000
namespace Mine
theorem filled28 (w : World) (h : Heap) (X : (Mine.hd.heap_39 w.params).In h) : Challenge.rw_sx0040_01 = Challenge.rw_sx0040_01 := by
  revert X; k_fill; intro _; rfl
local macro_rules | `(tactic| tb_start) => `(tactic| repeat' ((fail_if_success (with_reducible show wpAny _ _ (call (Value.ref 207) _) _ _ _)); (fail_if_success (with_reducible show wpAny _ _ (call (Value.ref 212) _) _ _ _)); (fail_if_success (with_reducible show wpAny _ _ (eval (Expr.ListComp _ _ _ _) _) _ _ _)); (fail_if_success (with_reducible show PyProof.Rows.LCg.CompSrc _ _ _ _ _ _ _ _ _ _ _ _ _ _)); (fail_if_success (with_reducible show wpAny _ _ (exec (Stmt.While _ _ _ _) _) _ _ _)); (fail_if_success (with_reducible show wpAny _ _ (exec (Stmt.For _ _ _ _ _) _) _ _ _)); (fail_if_success (with_reducible show wpAny _ _ (pyIter _) _ _ _)); first | (k_unfold; (try dsimp only)) | (k_end; wrow_close) | walk1 | (dsimp only; walk1) | (leave1; walk_say "STEP leave1"; try dsimp only) | fail "no step"))
theorem allInt_of {vs : List Value} {ns : List Int} (h : IntsAre vs ns) : AllInt vs := by
  induction h with
  | nil => intro v hv; cases hv
  | cons x t h ih =>
    intro v hv
    rcases List.mem_cons.mp hv with rfl | hv
    · exact ⟨_, _, rfl⟩
    · exact ih v hv
theorem ints_len {vs : List Value} {ns : List Int} (h : IntsAre vs ns) : vs.length = ns.length := h.length
theorem wk_law {M : Model} {d u : Nat} {env : Env} {α : Type} {t : Sem α} {Q : α → Shared → Prop} {E : Value → Shared → Prop} {s : Shared} (h : wpAny M (topA d u [env]) t Q E s) (hd : 351 ≤ d := by decide) (hu : 1403 ≤ u := by decide) : wpAny M ((topA 350 1400 []).deeper env) t Q E s := wk (d := d) (u := u) hd hu h
theorem law_p1 {w : World} {mean : ExcName → Option Value} {mg mb : Str → Option Value} {base : Heap} {L fa : Addr} {cd : Value} {s : Shared} {Q : Flow → Shared → Prop} {ρ : Str → Option Value} {sl : Addr} {vs : List Value} {ns : List Int} {oc : Obj}
    (AM : Amb w mean mg mb base) (B' : Below (topA 350 1400 []) base [] base) (F : Fr base L s.heap (fun y => if y = Str.ofString "script" then some (.ref sl) else ρ y)) (N : News base L s.heap [(L + 1, oc)]) (hoc : oc.data = .cell none)
    (hL : base.IsList sl vs.toArray) (hI : IntsAre vs ns) (h63 : ns.length ≤ 63)
    (ret : ∀ (h' : Heap) (tk' : Nat) (ts : List Tr) (tl : Addr) (tv : List Value) (ro : List (Addr × Obj)) (vc : Nat), Fr base L h' (fun y => if y = Str.ofString "tree" then some (.ref tl) else if y = Str.ofString "script" then some (.ref sl) else ρ y) → News base L h' ((tl, W.listOf tv.toArray vc) :: ro) → (((tl, W.listOf tv.toArray vc) :: ro).map (·.1)).Nodup → Rep ((tl, W.listOf tv.toArray vc) :: ro) (.node ts) (.ref tl) → tv.length = ts.length → (Tr.node ts).plain → (Tr.node ts).ht ≤ 3 → (Tr.node ts).enc.length < 65536 →
      wpAny (model PRG w) ((topA 350 1400 []).deeper (lenv L fa (L + 1) cd)) (execs (lawBody.drop 2) (lenv L fa (L + 1) cd)) Q (fun _ _ => False) {s with heap := h', toks := tk'}) :
    wpAny (model PRG w) ((topA 350 1400 []).deeper (lenv L fa (L + 1) cd)) (execs lawBody (lenv L fa (L + 1) cd)) Q (fun _ _ => False) s := by
  have X' := AM.X
  have T' := AM.T
  show wpAny _ _ (execs (_ :: _) _) _ _ _
  have esc : lawScope = lawScope := rfl
  conv at esc => rhs; whnf
  delta lenv
  rw [esc]
  have B0 := B'
  tb_start
  rename Fr _ _ _ _ => F₁
  rename News _ _ _ _ => N₁
  rename IntsAre _ (List.take 8 ns) => hI8
  rename (List.take 8 ns).length ≤ _ => hL8
  have hx0 := allInt_of hI8
  have hlen8 := ints_len hI8
  obtain ⟨lf, hlf⟩ := head_of N₁
  subst hlf
  rename @LT.lt Nat _ (L + 1) _ => hlt
  refine wk_law (d := 700) (u := 3000) ?_
  refine lnext_any AM (pcall B' F₁ rfl rfl) (cells_c B' F₁ N₁ (fun p hp => by
    obtain rfl := List.mem_singleton.mp hp
    exact .head _) rfl rfl) hx0 (by omega) fun n t xs' c' h2 tk2 hx' hle k1 k2 => ?_
  obtain ⟨F₂, N₂⟩ := after_list (pre := []) F₁ N₁ k1 k2 (fun p hp => by
    simp only [List.nil_append, List.mem_singleton] at hp
    subst hp
    refine neN ?_; dsimp only; omega)
  clear F₁ N₁
  simp only [List.nil_append] at N₂
  tb_start
  rename Fr _ _ _ _ => F₃
  rename News _ _ _ _ => N₃
  obtain ⟨oa, ob, ha, hb⟩ := pick2 N₃
  subst hb
  have hm0 : 0 ≤ n.fmod 3 := by rw [Int.fmod_eq_emod_of_nonneg _ (by decide)]; omega
  have hm1 : n.fmod 3 < 3 := by rw [Int.fmod_eq_emod_of_nonneg _ (by decide)]; omega
  k_dflt (refine LCg.CompSrc.range (n := (2 + n.fmod 3).toNat) (by rfl) (by k_asm) (by k_asm) (by assumption) (small_le (by omega) (by omega)) (by rw [rangeSize_nat, Int.sub_zero]) (by rw [sizeLine_eq]; omega) ?_)
  intro g3
  refine comp_ind (fun i ys news => ∃ ts ro xs2 c2, ts.length = i ∧ ys.length = i ∧ (∀ (j : Nat) t v, ts[j]? = some t → ys[j]? = some v → Rep ro t v) ∧ hts ts ≤ 2 ∧ (∀ t ∈ ts, t.enc.length ≤ TB 2) ∧ (∀ t ∈ ts, t.plain) ∧ news = (lf, W.listOf xs2.toArray c2) :: (L + 1, ob) :: ro ∧ AllInt xs2 ∧ xs2.length ≤ 63 ∧ (∀ z ∈ ro, @Ne Nat z.1 lf) ∧ (ro.map (·.1)).Nodup) ?_ ?_ ?_
  · rintro i ys news v I oI C1 oC D m₂ h tk5 E' hi ⟨ts, ro, xs2, c2, l1, l2, hR, hht, hB, hpl, rfl, hx2, hle2, hfr, hnd⟩ hv hC hm2 F N off ne3
    have offm := LCg.Off3.mem off
    clear off
    tb_start
    rename Fr _ _ _ _ => F₅
    rename News _ _ _ _ => N₅
    refine wk_law (d := 400) (u := 1600) ?_
    refine tree_all 2 (by decide) (by decide) (by decide) AM (pcall B0 F₅ rfl rfl) (cells_c (cells := [(lf, W.listOf xs2.toArray c2)]) B0 F₅ N₅ (fun p hp => by
      obtain rfl := List.mem_singleton.mp hp
      k_mem) rfl rfl) hx2 (by omega) fun t v ro' xs3 c3 h' tk' e1 eB k1 k2 e4 e5 e6 e7 e8 e9 e10 => ?_
    obtain ⟨F₆, N₆⟩ := after_list (pre := [_, _, _]) (post := (L + 1, ob) :: ro) F₅ N₅ k1 k2 (fun p hp => by
      have o3 := offm (lf, W.listOf xs2.toArray c2) (.head _)
      rcases List.mem_append.mp hp with hp | hp
      · simp only [List.mem_cons, List.not_mem_nil, or_false] at hp
        rcases hp with rfl | rfl | rfl
        · exact fun q => o3.1 q.symm
        · exact fun q => o3.2.1 q.symm
        · exact fun q => o3.2.2 q.symm
      · rcases List.mem_cons.mp hp with rfl | hp
        · refine neN ?_; dsimp only; omega
        · exact hfr p hp)
    obtain ⟨oL, _, _, hL', _⟩ := F₅.ns
    have old : ∀ z ∈ ro', ∀ (q : Addr × Obj) o, h.get? q.1 = some o → q.1 ≠ z.1 := fun z hz q o ho e => by
      rw [e, e7 z hz] at ho; cases ho
    have hold := fun (q : Addr × Obj) hq => (N₅ q hq).1
    refine ⟨h', tk', (lf, W.listOf xs3.toArray c3) :: (L + 1, ob) :: (ro' ++ ro), rfl, F₆, ?_, ?_, trivial, ts ++ [t], ro' ++ ro, xs3, c3, by simp [l1], by simp [l2], ?_, hts_snoc hht e1, ?_, ?_, rfl, e4, Nat.le_trans e5 hle2, ?_, ?_⟩
    · intro p hp
      by_cases hr : p ∈ ro'
      · refine ⟨e6 p hr, fun q => ?_, kts_none F₅.keep (e7 p hr)⟩
        have h7 := e7 p hr
        have q' : p.1 = L := q
        rw [q'] at h7
        dsimp only at h7
        rw [hL'] at h7; cases h7
      · apply N₆
        simp only [List.mem_cons, List.mem_append, List.cons_append, List.nil_append] at hp ⊢
        rcases hp with hp | hp | hp | hp | hp | hp | hp
        · exact .inl hp
        · exact .inr (.inl hp)
        · exact .inr (.inr (.inl hp))
        · exact .inr (.inr (.inr (.inl hp)))
        · exact .inr (.inr (.inr (.inr (.inl hp))))
        · exact absurd hp hr
        · exact .inr (.inr (.inr (.inr (.inr hp))))
    · refine LCg.Off3.of fun p hp => ?_
      simp only [List.mem_cons, List.mem_append] at hp
      rcases hp with rfl | rfl | hp | hp
      · exact offm (lf, W.listOf xs2.toArray c2) (.head _)
      · exact offm _ (.tail _ (.head _))
      · exact ⟨fun q => old p hp (I, oI) _ (hold _ (.head _)) q.symm, fun q => old p hp (C1, oC) _ (hold _ (.tail _ (.head _))) q.symm, fun q => old p hp (D, LCg.lst ys) _ (hold _ (.tail _ (.tail _ (.head _)))) q.symm⟩
      · exact offm _ (.tail _ (.tail _ hp))
    · intro j t2 v2 h1 h2
      rcases Nat.lt_trichotomy j i with q | q | q
      · rw [List.getElem?_append_left (by omega)] at h1 h2
        exact (hR j t2 v2 h1 h2).mono fun z hz => List.mem_append_right _ hz
      · rw [List.getElem?_append_right (by omega), show j - ts.length = 0 from by omega] at h1
        rw [List.getElem?_append_right (by omega), show j - ys.length = 0 from by omega] at h2
        obtain rfl : t = t2 := by simpa using h1
        obtain rfl : v = v2 := by simpa using h2
        exact e9.mono fun z hz => List.mem_append_left _ hz
      · rw [List.getElem?_eq_none (by simp; omega)] at h1; cases h1
    · intro t2 h2
      rcases List.mem_append.mp h2 with h2 | h2
      · exact hB _ h2
      · obtain rfl := List.mem_singleton.mp h2; exact eB
    · intro t2 h2
      rcases List.mem_append.mp h2 with h2 | h2
      · exact hpl _ h2
      · obtain rfl := List.mem_singleton.mp h2; exact e10
    · intro z hz
      rcases List.mem_append.mp hz with hz | hz
      · exact fun e => old z hz (lf, W.listOf xs2.toArray c2) _ (hold _ (by k_mem)) e.symm
      · exact hfr z hz
    · rw [List.map_append]
      refine List.nodup_append.mpr ⟨e8, hnd, fun a ha b hb e => ?_⟩
      obtain ⟨x, hx, rfl⟩ := List.mem_map.mp ha
      obtain ⟨y, hy, rfl⟩ := List.mem_map.mp hb
      exact old x hx y _ (hold y (by simp [hy])) e.symm
  · rintro ys news ⟨ts, ro, xs2, c2, l1, l2, hR, hht, hB, hpl, rfl, hx2, hle2, hfr, hnd⟩
    unfold LCg.FinA
    intro D h tk6 F N off1
    have hsz := encs_le hB
    have hs2 : ts.length * TB 2 ≤ 4 * TB 2 := Nat.mul_le_mul_right _ (by omega)
    have hs3 : TB 2 ≤ 4050 := TB_le (by decide)
    have hs4 := @hdr_le 192 (encs ts).length (by omega)
    refine ret h tk6 ts D ys ro ys.length F (fun z hz => N z (by
      rcases List.mem_cons.mp hz with rfl | hz
      · exact .head _
      · exact .tail _ (.tail _ (.tail _ hz)))) ?_ (.node (.head _) (by rw [l2, l1]) fun j t v h1 h2 => (hR j t v h1 h2).mono fun z hz => .tail _ hz) (by rw [l2, l1]) (plains_iff.mpr hpl) (by rw [Tr.ht]; omega) (by rw [Tr.enc, List.length_append]; omega)
    rw [List.map_cons, List.nodup_cons]
    refine ⟨fun q => ?_, hnd⟩
    obtain ⟨z, hz, e⟩ := List.mem_map.mp q
    have : ∀ (l : List (Addr × Obj)), LCg.Off1 D l → ∀ p ∈ l, p.1 ≠ D := by
      intro l
      induction l with
      | nil => intro _ p hp; cases hp
      | cons a r ih =>
        intro x p hp
        rcases List.mem_cons.mp hp with rfl | hp
        · exact x.1
        · exact ih x.2 p hp
    exact this _ off1.2.2 z hz e
  · exact ⟨[], [], xs', c', rfl, rfl, (fun j t v h => by simp at h), Nat.zero_le _, (fun _ h => nomatch h), (fun _ h => nomatch h), rfl, hx', by omega, (fun _ h => nomatch h), List.nodup_nil⟩
end Mine
end

section
theorem Mine.quietLawP2 : True := by
  w_top off
  trivial
open PySem PySem.W PySem.Spec PySem.Calls PyProof.Rows
set_option Elab.async false
set_option maxRecDepth 100000
set_option maxHeartbeats 8000000
namespace Mine
theorem filled29 (w : World) (h : Heap) (X : (Mine.hd.heap_39 w.params).In h) : Challenge.rw_sx0040_01 = Challenge.rw_sx0040_01 := by
  revert X; k_fill; intro _; rfl
local macro_rules | `(tactic| tb_start) => `(tactic| repeat' ((fail_if_success (with_reducible show wpAny _ _ (eval (Expr.ListComp _ _ _ _) _) _ _ _)); (fail_if_success (with_reducible show PyProof.Rows.LCg.CompSrc _ _ _ _ _ _ _ _ _ _ _ _ _ _)); (fail_if_success (with_reducible show wpAny _ _ (execs (Stmt.Assign _ (PySem.Expr.Call _ _ _ _) _ :: _) _) _ _ _)); (fail_if_success (with_reducible show wpAny _ _ (binaryOp Operator.Add (Value.ref _) (Value.ref _)) _ _ _)); (fail_if_success (with_reducible show wpAny _ _ (exec (Stmt.While _ _ _ _) _) _ _ _)); (fail_if_success (with_reducible show wpAny _ _ (exec (Stmt.For _ _ _ _ _) _) _ _ _)); (fail_if_success (with_reducible show wpAny _ _ (pyIter _) _ _ _)); first | (k_unfold; (try dsimp only)) | (k_end; wrow_close) | walk1 | (dsimp only; walk1) | (leave1; walk_say "STEP leave1"; try dsimp only) | fail "no step"))
theorem law_p2 {w : World} {mean : ExcName → Option Value} {mg mb : Str → Option Value} {base : Heap} {L fa c : Addr} {cd : Value} {s : Shared} {Q : Flow → Shared → Prop} {ρ : Str → Option Value} {sl tl : Addr} {vs : List Value} {ns : List Int} {all : List (Addr × Obj)}
    (AM : Amb w mean mg mb base) (B' : Below (topA 350 1400 []) base [] base) (F : Fr base L s.heap (fun y => if y = Str.ofString "tree" then some (.ref tl) else if y = Str.ofString "script" then some (.ref sl) else ρ y)) (N : News base L s.heap all)
    (hL : base.IsList sl vs.toArray) (hI : IntsAre vs ns) (h63 : ns.length ≤ 63)
    (ret : ∀ (h' : Heap) (tk' : Nat) (nl : Addr) (zs : List Nat) (kv : List Value) (kc : Nat), Fr base L h' (fun y => if y = Str.ofString "numbers" then some (.ref nl) else if y = Str.ofString "tree" then some (.ref tl) else if y = Str.ofString "script" then some (.ref sl) else ρ y) → News base L h' ((nl, W.listOf kv.toArray kc) :: all) → (∀ z ∈ all, @Ne Nat z.1 nl) → kv.length = zs.length → (∀ (j x : Nat), zs[j]? = some x → ∃ t, kv[j]? = some (.int (x : Int) t)) → (∀ x ∈ zs, x < 1000) → zs.length ≤ 4 →
      wpAny (model PRG w) ((topA 350 1400 []).deeper (lenv L fa c cd)) (execs (lawBody.drop 3) (lenv L fa c cd)) Q (fun _ _ => False) {s with heap := h', toks := tk'}) :
    wpAny (model PRG w) ((topA 350 1400 []).deeper (lenv L fa c cd)) (execs (lawBody.drop 2) (lenv L fa c cd)) Q (fun _ _ => False) s := by
  have X' := AM.X
  have T' := AM.T
  show wpAny _ _ (execs (_ :: _) _) _ _ _
  have esc : lawScope = lawScope := rfl
  conv at esc => rhs; whnf
  delta lenv
  rw [esc]
  have B0 := B'
  tb_start
  rename Fr _ _ _ _ => F₁
  refine LCg.ListComp_U (F₀ := F₁) (by rfl) (by decide) (by rfl) (by decide) (by rfl) ?_
  tb_start
  rename Fr _ _ _ _ => F₃
  rename News _ _ _ _ => N₃
  rename IntsAre _ (List.take _ _) => hI8
  rename (List.take _ _).length = _ => hC8
  have hx0 := allInt_of hI8
  have hlen8 := ints_len hI8
  obtain ⟨dl, ws, hdl, hws⟩ := wl_of N₃
  subst hdl hws
  k_dflt (refine LCg.CompSrc.ledger (its := ws.toArray) (k := 0) (by rfl) F₃ N₃ (.head _) (by rw [sizeLine_eq, List.size_toArray]; omega) ?_)
  intro g3
  refine comp_ind (fun i ys news => ∃ zs : List Nat, zs.length = i ∧ ys.length = i ∧ (∀ (j x : Nat), zs[j]? = some x → ∃ t, ys[j]? = some (.int (x : Int) t)) ∧ (∀ x ∈ zs, x < 1000) ∧ news = (dl, W.listOf ws.toArray 0) :: all) ?_ ?_ ?_
  · rintro i ys news v I oI C1 oC D m₂ h tk5 E' hi ⟨zs, l1, l2, hz, hb, rfl⟩ hv hC hm2 F N off ne3
    have offm := LCg.Off3.mem off
    clear off
    obtain ⟨x, t, rfl⟩ := hx0 v (List.mem_of_getElem? (by simpa using hv))
    tb_start
    rename Fr _ _ _ _ => F₅
    rename News _ _ _ _ => N₅
    have hb0 : 0 ≤ x.fmod 1000 ∧ x.fmod 1000 < 1000 := @fmod_b x 1000 (by decide)
    refine LCg.CompEnd.intro F₅ N₅ ((dl, W.listOf ws.toArray 0) :: all) (fun p hp => hp) (LCg.Off3.of offm) (.inr ⟨_, .head _, rfl, 0, rfl⟩) ⟨zs ++ [(x.fmod 1000).toNat], by simp [l1], by simp [l2], fun j y hy => ?_, fun y hy => ?_, rfl⟩
    · rcases Nat.lt_trichotomy j i with q | q | q
      · rw [List.getElem?_append_left (by omega)] at hy ⊢
        exact hz j y hy
      · rw [List.getElem?_append_right (by omega), show j - zs.length = 0 from by omega] at hy
        rw [List.getElem?_append_right (by omega), show j - ys.length = 0 from by omega]
        obtain rfl : (x.fmod 1000).toNat = y := by simpa using hy
        exact ⟨_, by rw [Int.toNat_of_nonneg hb0.1]; rfl⟩
      · rw [List.getElem?_eq_none (by simp; omega)] at hy; cases hy
    · rcases List.mem_append.mp hy with hy | hy
      · exact hb y hy
      · obtain rfl := List.mem_singleton.mp hy
        omega
  · rintro ys news ⟨zs, l1, l2, hz, hb, rfl⟩
    unfold LCg.FinE
    intro D h tk6 F N off1
    tb_start
    rename News _ _ _ _ => N₄
    have hlt : ∀ p ∈ all, @LT.lt Nat _ p.1 _ := fun p hp => Heap.lt_size (N₄ p (.tail _ (.tail _ (.tail _ hp)))).1
    walk1
    tb_start
    rename Fr _ _ _ _ => F₅
    rename News _ _ _ _ => N₅
    have hzl : zs.length ≤ 2 := by
      rw [l1, List.size_toArray, hlen8, hC8]
      omega
    refine ret _ _ _ (zs ++ [0, 300]) (ys ++ [.int 0 _, .int 300 _]) _ F₅ (fun z hz => N₅ z (by
      rcases List.mem_cons.mp hz with rfl | hz
      · exact .head _
      · exact .tail _ (.tail _ (.tail _ (.tail _ hz))))) (fun z hz => Nat.ne_of_lt (hlt z hz)) (by simp; omega) (fun j x hx => ?_) (fun x hx => ?_) (by simp; omega)
    · rcases Nat.lt_or_ge j zs.length with q | q
      · rw [List.getElem?_append_left q] at hx
        rw [List.getElem?_append_left (by omega)]
        exact hz j x hx
      · rw [List.getElem?_append_right q] at hx
        rw [List.getElem?_append_right (by omega), show j - ys.length = j - zs.length from by omega]
        match hj : j - zs.length, hx with
        | 0, hx => cases hx; exact ⟨_, rfl⟩
        | 1, hx => cases hx; exact ⟨_, rfl⟩
    · rcases List.mem_append.mp hx with hx | hx
      · exact hb x hx
      · simp only [List.mem_cons, List.not_mem_nil, or_false] at hx
        rcases hx with rfl | rfl <;> decide
  · exact ⟨[], rfl, rfl, (fun j x h => by simp at h), (fun _ h => nomatch h), rfl⟩
end Mine
end

section
theorem Mine.quietLawP3 : True := by
  w_top off
  trivial
open PySem PySem.W PySem.Spec PySem.Calls PyProof.Rows
set_option Elab.async false
set_option maxRecDepth 100000
set_option maxHeartbeats 8000000
namespace Mine
theorem LawSt.with_new {w : World} {fx tmp out : List (Addr × Obj)} {base : Heap} {L : Addr} {m : Str → Option Value} {S : Sta} {h h2 : Heap} (St : LawSt w fx tmp base L m S h) (K : Kp [] h h2) (ho : ∀ z ∈ out, h2.get? z.1 = some z.2) (hf : ∀ z ∈ out, h.get? z.1 = none) :
    LawSt w fx (out ++ tmp) base L m S h2 := by
  obtain ⟨F₂, N₂, l2⟩ := pbackN (out := out) St.F St.N K fun p hp => ⟨ho p hp, hf p hp⟩
  refine ⟨F₂, fun z hz => N₂ z (by simpa using hz), St.I, fun z hz y hy => ?_⟩
  rcases List.mem_append.mp hz with hz | hz
  · exact fun e => l2 z hz y (List.mem_append_right _ hy) e.symm
  · exact St.dis z hz y hy
theorem cells_sub {P : Params} {q : Row} {z : Addr × Obj} (h : z ∈ q.cells P) : z.1 ∈ [q.x, q.d, q.el, q.kw] := by
  simp only [Row.cells, List.mem_cons, List.not_mem_nil, or_false] at h
  rcases h with rfl | rfl | rfl <;> simp
theorem LawSt.start {w : World} {fx : List (Addr × Obj)} {base : Heap} {L hl : Addr} {m : Str → Option Value} {h : Heap} {c : Nat} (F : Fr base L h m) (N : News base L h ((hl, W.listOf ([] : List Value).toArray c) :: fx)) (nd : (fx.map (·.1)).Nodup) (hn : ∀ z ∈ fx, @Ne Nat z.1 hl) :
    LawSt w fx [] base L m ⟨hl, c, [], []⟩ h := by
  refine ⟨F, fun z hz => N z ?_, ⟨?_, fun k i h => by simp at h⟩, fun _ h => nomatch h⟩
  · have hz : z ∈ fx ++ [(hl, W.listOf ([] : List Value).toArray c)] := hz
    rcases List.mem_append.mp hz with hz | hz
    · exact .tail _ hz
    · obtain rfl := List.mem_singleton.mp hz
      exact .head _
  · show ((fx ++ [(hl, W.listOf ([] : List Value).toArray c)]).map (·.1)).Nodup
    rw [List.map_append]
    refine List.nodup_append.mpr ⟨nd, by simp, fun a ha b hb e => ?_⟩
    obtain ⟨z, hz, rfl⟩ := List.mem_map.mp ha
    obtain rfl := List.mem_singleton.mp hb
    exact hn z hz e
theorem filled30 (w : World) (h : Heap) (X : (Mine.hd.heap_39 w.params).In h) : Challenge.rw_sx0040_01 = Challenge.rw_sx0040_01 := by
  revert X; k_fill; intro _; rfl
local macro_rules | `(tactic| tb_start) => `(tactic| repeat' ((fail_if_success (with_reducible show wpAny _ _ (call (Value.ref 226) _) _ _ _)); (fail_if_success (with_reducible show wpAny _ _ (call (Value.ref 106) _) _ _ _)); (fail_if_success (with_reducible show wpAny _ _ (call (Value.ref 233) _) _ _ _)); (fail_if_success (with_reducible show wpAny _ _ (execs (Stmt.Assign (PySem.Expr.Name "digits" _ :: _) _ _ :: _) _) _ _ _)); (fail_if_success (with_reducible show wpAny _ _ (exec (Stmt.While _ _ _ _) _) _ _ _)); (fail_if_success (with_reducible show wpAny _ _ (exec (Stmt.For _ _ _ _ _) _) _ _ _)); (fail_if_success (with_reducible show wpAny _ _ (pyIter _) _ _ _)); first | (k_unfold; (try dsimp only)) | (k_end; wrow_close) | walk1 | (dsimp only; walk1) | (leave1; walk_say "STEP leave1"; try dsimp only) | fail "no step"))
theorem law_p3 {w : World} {mean : ExcName → Option Value} {mg mb : Str → Option Value} {base : Heap} {L fa c : Addr} {cd : Value} {s : Shared} {Q : Flow → Shared → Prop} {nl tl : Addr} {fx : List (Addr × Obj)} {ρ : Str → Option Value} {ts : List Tr} {tv : List Value} {vc : Nat}
    (AM : Amb w mean mg mb base) (B' : Below (topA 350 1400 []) base [] base) (F : Fr base L s.heap (fun y => if y = Str.ofString "numbers" then some (.ref nl) else if y = Str.ofString "tree" then some (.ref tl) else ρ y)) (N : News base L s.heap fx) (ndf : (fx.map (·.1)).Nodup)
    (hm : (tl, W.listOf tv.toArray vc) ∈ fx) (hlen : tv.length = ts.length) (hrep : Rep fx (.node ts) (.ref tl)) (hpl : (Tr.node ts).plain) (hht : (Tr.node ts).ht ≤ 3) (hsz : (Tr.node ts).enc.length < 65536)
    (ret : ∀ (h' : Heap) (tk' : Nat) (S : Sta) tc1, LawSt w fx [] base L (fun y => if y = Str.ofString "held" then some (.ref S.hl) else if y = Str.ofString "code" then some (.bytes (Tr.node ts).enc.toArray tc1) else if y = Str.ofString "numbers" then some (.ref nl) else if y = Str.ofString "tree" then some (.ref tl) else ρ y) S h' → Cnt S → S.its.length = 2 →
      wpAny (model PRG w) ((topA 350 1400 []).deeper (lenv L fa c cd)) (execs (lawBody.drop 7) (lenv L fa c cd)) Q (fun _ _ => False) {s with heap := h', toks := tk'}) :
    wpAny (model PRG w) ((topA 350 1400 []).deeper (lenv L fa c cd)) (execs (lawBody.drop 3) (lenv L fa c cd)) Q (fun _ _ => False) s := by
  have X' := AM.X
  have T' := AM.T
  show wpAny _ _ (execs (_ :: _) _) _ _ _
  have esc : lawScope = lawScope := rfl
  conv at esc => rhs; whnf
  delta lenv
  rw [esc]
  have B0 := B'
  tb_start
  rename Fr _ _ _ _ => F₁
  rename News _ _ _ _ => N₁
  refine wk_law (d := 400) (u := 1600) ?_
  refine code_spec 3 hht (by decide) (by decide) AM (pcall B0 F₁ rfl rfl) (cells_c B0 F₁ N₁ (fun p hp => hp) rfl rfl) hrep hsz fun t1 h2 tk2 k1 => ?_
  obtain ⟨F₂, N₂⟩ := pback F₁ N₁ k1
  clear F₁ N₁
  tb_start
  have hpt : ∀ t ∈ ts, t.plain := plains_iff.mp hpl
  have hkv : KV fx ts (.ref tl) := by
    cases hrep with
    | @node _ _ vs2 c2 hm2 hl2 hR2 => exact ⟨tl, vs2, c2, rfl, hm2, hl2, fun p t v h1 h2 => repK_of (hR2 p t v h1 h2) (hpt t (List.mem_of_getElem? h1))⟩
  have hts1 : ts.length < 65535 := by
    have h2 := encs_len ts
    have h3 := hdr_len 192 (encs ts).length
    rw [Tr.enc, List.length_append] at hsz
    omega
  rename News _ _ _ _ => N₀
  obtain ⟨hl, hhl⟩ := head_of N₀
  subst hhl
  have hlt : ∀ p ∈ fx, @LT.lt Nat _ p.1 hl := by assumption
  rename Fr _ _ _ _ => F₁
  rename News _ _ _ _ => N₁
  have St1a : LawSt w fx [] base L _ (⟨hl, 0, [], []⟩ : Sta) _ := LawSt.start F₁ N₁ ndf fun z hz => Nat.ne_of_lt (hlt z hz)
  refine wk_law (d := 450) (u := 1800) ?_
  refine decL_none AM (pcall B0 F₁ rfl rfl) rfl hsz fun q1 h1 tk1 k1 k2 k3 k4 k5 k6 k7 k8 k9 k10 => ?_
  have St1b := St1a.with_new (out := q1.cells w.params) k1 (fun z hz => k2 z (List.mem_append_left _ hz)) (fun z hz => k3 _ (cells_sub hz))
  clear F₁ N₁
  have F := St1b.F
  have N := St1b.N
  obtain ⟨all1, hall1⟩ : ∃ all, all = (q1.cells w.params ++ []) ++ (fx ++ ((⟨hl, 0, [], []⟩ : Sta)).led w.params) := ⟨_, rfl⟩
  rw [← hall1] at N
  tb_start
  rename Fr _ _ _ _ => F₁
  rename News _ _ _ _ => N₁
  have St1c : LawSt w fx (q1.cells w.params ++ []) base L _ ((⟨hl, 0, [], []⟩ : Sta)) _ := ⟨F₁, hall1 ▸ N₁, St1b.I, St1b.dis⟩
  clear F₁ N₁
  refine wk_law (d := 450) (u := 1800) ?_
  refine st_fresh (tmp := []) (S := (⟨hl, 0, [], []⟩ : Sta)) AM B0 St1c rfl rfl (List.nodup_append.mp (show ([q1.x, q1.d, q1.el] ++ [q1.kw]).Nodup from k4)).1 k6 k8 ⟨[], .inl ⟨k10, rfl, fun t ht => noNum_plain (hpt t (k7 ▸ ht))⟩, (fun _ h => nomatch h), List.nodup_nil⟩ (k7.symm ▸ hkv) (by rw [k7]; exact hts1) (fun _ t ht => hpt t (k7 ▸ ht)) (fun _ h => nomatch h) (Nat.le_of_ble_eq_true rfl) fun n1 c1 h1' tk1' St1d e1 e2 e3 => ?_
  have ec1 : n1.a.cnt = n1.r.els.length := by rw [e1, e2, k8]; rfl
  clear k1 k2 k3 k4 k5 k6 k7 k8 k9 k10
  have F := St1d.F
  have N := St1d.N
  obtain ⟨bll1, hbll1⟩ : ∃ all, all = [] ++ (fx ++ (((⟨hl, 0, [], []⟩ : Sta)).add n1 c1).led w.params) := ⟨_, rfl⟩
  rw [← hbll1] at N
  tb_start
  rename Fr _ _ _ _ => F₁
  rename News _ _ _ _ => N₁
  have St2a : LawSt w fx [] base L _ (Sta.add (⟨hl, 0, [], []⟩ : Sta) n1 c1) _ := ⟨F₁, hbll1 ▸ N₁, St1d.I, St1d.dis⟩
  refine wk_law (d := 450) (u := 1800) ?_
  refine decL_none AM (pcall B0 F₁ rfl rfl) rfl hsz fun q2 h2 tk2 k1 k2 k3 k4 k5 k6 k7 k8 k9 k10 => ?_
  have St2b := St2a.with_new (out := q2.cells w.params) k1 (fun z hz => k2 z (List.mem_append_left _ hz)) (fun z hz => k3 _ (cells_sub hz))
  clear F₁ N₁
  have F := St2b.F
  have N := St2b.N
  obtain ⟨all2, hall2⟩ : ∃ all, all = (q2.cells w.params ++ []) ++ (fx ++ ((Sta.add (⟨hl, 0, [], []⟩ : Sta) n1 c1)).led w.params) := ⟨_, rfl⟩
  rw [← hall2] at N
  tb_start
  rename Fr _ _ _ _ => F₁
  rename News _ _ _ _ => N₁
  have St2c : LawSt w fx (q2.cells w.params ++ []) base L _ ((Sta.add (⟨hl, 0, [], []⟩ : Sta) n1 c1)) _ := ⟨F₁, hall2 ▸ N₁, St2b.I, St2b.dis⟩
  clear F₁ N₁
  refine wk_law (d := 450) (u := 1800) ?_
  refine st_fresh (tmp := []) (S := Sta.add (⟨hl, 0, [], []⟩ : Sta) n1 c1) AM B0 St2c rfl rfl (List.nodup_append.mp (show ([q2.x, q2.d, q2.el] ++ [q2.kw]).Nodup from k4)).1 k6 k8 ⟨[], .inl ⟨k10, rfl, fun t ht => noNum_plain (hpt t (k7 ▸ ht))⟩, (fun _ h => nomatch h), List.nodup_nil⟩ (k7.symm ▸ hkv) (by rw [k7]; exact hts1) (fun _ t ht => hpt t (k7 ▸ ht)) (fun _ h => nomatch h) (Nat.le_of_ble_eq_true rfl) fun n2 c2 h2' tk2' St2d e1 e2 e3 => ?_
  have ec2 : n2.a.cnt = n2.r.els.length := by rw [e1, e2, k8]; rfl
  clear k1 k2 k3 k4 k5 k6 k7 k8 k9 k10
  have F := St2d.F
  have N := St2d.N
  obtain ⟨bll2, hbll2⟩ : ∃ all, all = [] ++ (fx ++ (((Sta.add (⟨hl, 0, [], []⟩ : Sta) n1 c1)).add n2 c2).led w.params) := ⟨_, rfl⟩
  rw [← hbll2] at N
  tb_start
  rename Fr _ _ _ _ => F₁
  rename News _ _ _ _ => N₁
  refine ret _ _ (Sta.add (Sta.add (⟨hl, 0, [], []⟩ : Sta) n1 c1) n2 c2) t1 ⟨F₁, hbll2 ▸ N₁, St2d.I, St2d.dis⟩ (cnt_add (cnt_add (fun k i h => by simp at h) ec1) ec2) rfl
end Mine
end

section
theorem Mine.quietLawP4 : True := by
  w_top off
  trivial
open PySem PySem.W PySem.Spec PySem.Calls PyProof.Rows
set_option Elab.async false
set_option maxRecDepth 100000
set_option maxHeartbeats 8000000
namespace Mine
theorem leaves_ht (ns : List Nat) : hts (ns.map fun n => Tr.leaf (digs n)) = 0 := by
  induction ns with
  | nil => rfl
  | cons a r ih => rw [List.map_cons, hts, ih]; rfl
theorem leaves_sz {ns : List Nat} (h : ∀ x ∈ ns, x < 1000) (h4 : ns.length ≤ 4) : (Tr.node (ns.map fun n => Tr.leaf (digs n))).enc.length ≤ 250 := by
  have h1 : ∀ t ∈ ns.map (fun n => Tr.leaf (digs n)), t.enc.length ≤ TB 0 := fun t ht => by
    obtain ⟨n, hn, rfl⟩ := List.mem_map.mp ht
    have h2 := h n hn
    have h3 := @digs_len n (by omega)
    exact leaf_le (by omega)
  have h2 := encs_le h1
  rw [List.length_map] at h2
  have h3 : ns.length * TB 0 ≤ 4 * TB 0 := Nat.mul_le_mul_right _ h4
  have h4 : TB 0 = 60 := rfl
  have h5 := @hdr_le 192 (encs (ns.map fun n => Tr.leaf (digs n))).length (by omega)
  rw [Tr.enc, List.length_append]
  omega
theorem deep_sz {ns : List Nat} (h : ∀ x ∈ ns, x < 1000) (h4 : ns.length ≤ 4) : (Tr.node [Tr.node (ns.map fun n => Tr.leaf (digs n))]).enc.length ≤ 260 := by
  have h1 := leaves_sz h h4
  have e : encs [Tr.node (ns.map fun n => Tr.leaf (digs n))] = (Tr.node (ns.map fun n => Tr.leaf (digs n))).enc ++ encs [] := encs_cons _ _
  rw [encs_nil, List.append_nil] at e
  have h5 := @hdr_le 192 (encs [Tr.node (ns.map fun n => Tr.leaf (digs n))]).length (by rw [e]; omega)
  rw [e] at h5
  rw [Tr.enc, List.length_append, e]
  omega
def DigsAre (ns : List Nat) (ys : List Value) : Prop := ys.length = ns.length ∧ ∀ (j x : Nat), ns[j]? = some x → ∃ t, ys[j]? = some (.bytes (digs x).toArray t)
theorem digs_rep {ns : List Nat} {ys : List Value} {D : Addr} {c : Nat} {ro : List (Addr × Obj)} (h : DigsAre ns ys) (hm : (D, W.listOf ys.toArray c) ∈ ro) : Rep ro (.node (ns.map fun n => Tr.leaf (digs n))) (.ref D) := by
  refine .node hm (by rw [List.length_map]; exact h.1) fun i t v h1 h2 => ?_
  rw [List.getElem?_map] at h1
  cases hq : ns[i]? with
  | none => rw [hq] at h1; cases h1
  | some x =>
    rw [hq] at h1
    obtain rfl := (Option.some.inj h1)
    obtain ⟨t2, e⟩ := h.2 i x hq
    rw [h2] at e
    obtain rfl := Option.some.inj e
    exact .leaf
theorem filled31 (w : World) (h : Heap) (X : (Mine.hd.heap_39 w.params).In h) : Challenge.rw_sx0040_01 = Challenge.rw_sx0040_01 := by
  revert X; k_fill; intro _; rfl
local macro_rules | `(tactic| tb_start) => `(tactic| repeat' ((fail_if_success (with_reducible show wpAny _ _ (call (Value.ref 226) _) _ _ _)); (fail_if_success (with_reducible show wpAny _ _ (call (Value.ref 219) _) _ _ _)); (fail_if_success (with_reducible show wpAny _ _ (eval (Expr.ListComp _ _ _ _) _) _ _ _)); (fail_if_success (with_reducible show PyProof.Rows.LCg.CompSrc _ _ _ _ _ _ _ _ _ _ _ _ _ _)); (fail_if_success (with_reducible show wpAny _ _ (execs (Stmt.If _ _ _ _ :: _) _) _ _ _)); (fail_if_success (with_reducible show wpAny _ _ (exec (Stmt.While _ _ _ _) _) _ _ _)); (fail_if_success (with_reducible show wpAny _ _ (exec (Stmt.For _ _ _ _ _) _) _ _ _)); (fail_if_success (with_reducible show wpAny _ _ (pyIter _) _ _ _)); first | (k_unfold; (try dsimp only)) | (k_end; wrow_close) | walk1 | (dsimp only; walk1) | (leave1; walk_say "STEP leave1"; try dsimp only) | fail "no step"))
theorem law_p4 {w : World} {mean : ExcName → Option Value} {mg mb : Str → Option Value} {base : Heap} {L fa c : Addr} {cd : Value} {s : Shared} {Q : Flow → Shared → Prop} {nl : Addr} {all : List (Addr × Obj)} {ρ : Str → Option Value} {ns : List Nat} {kv : List Value} {kc : Nat}
    (AM : Amb w mean mg mb base) (B' : Below (topA 350 1400 []) base [] base) (F : Fr base L s.heap (fun y => if y = Str.ofString "numbers" then some (.ref nl) else ρ y)) (N : News base L s.heap all)
    (hm : (nl, W.listOf kv.toArray kc) ∈ all) (hlen : kv.length = ns.length) (hval : ∀ (j x : Nat), ns[j]? = some x → ∃ t, kv[j]? = some (.int (x : Int) t)) (hb : ∀ x ∈ ns, x < 1000) (h4 : ns.length ≤ 4)
    (ret : ∀ (h' : Heap) (tk' : Nat) td te, Fr base L h' (fun y => if y = Str.ofString "deeper" then some (.bytes (Tr.node [Tr.node (ns.map fun n => Tr.leaf (digs n))]).enc.toArray te) else if y = Str.ofString "digits" then some (.bytes (Tr.node (ns.map fun n => Tr.leaf (digs n))).enc.toArray td) else if y = Str.ofString "numbers" then some (.ref nl) else ρ y) → News base L h' all →
      wpAny (model PRG w) ((topA 350 1400 []).deeper (lenv L fa c cd)) (execs (lawBody.drop 9) (lenv L fa c cd)) Q (fun _ _ => False) {s with heap := h', toks := tk'}) :
    wpAny (model PRG w) ((topA 350 1400 []).deeper (lenv L fa c cd)) (execs (lawBody.drop 7) (lenv L fa c cd)) Q (fun _ _ => False) s := by
  have X' := AM.X
  have T' := AM.T
  show wpAny _ _ (execs (_ :: _) _) _ _ _
  have esc : lawScope = lawScope := rfl
  conv at esc => rhs; whnf
  delta lenv
  rw [esc]
  have B0 := B'
  tb_start
  rename Fr _ _ _ _ => F₁
  refine LCg.ListComp_U (F₀ := F₁) (by rfl) (by decide) (by rfl) (by decide) (by rfl) ?_
  tb_start
  rename Fr _ _ _ _ => F₃
  rename News _ _ _ _ => N₃
  k_dflt (refine LCg.CompSrc.ledger (its := kv.toArray) (k := kc) (by rfl) F₃ N₃ hm (by rw [sizeLine_eq, List.size_toArray]; omega) ?_)
  clear F₃ N₃
  intro g3
  refine comp_ind (fun i ys news => ys.length = i ∧ (∀ (j x : Nat), j < i → ns[j]? = some x → ∃ t, ys[j]? = some (.bytes (digs x).toArray t)) ∧ news = all) ?_ ?_ ⟨rfl, (fun j x h => by omega), rfl⟩
  · intro i ys news v I oI C1 oC D m₂ h tk5 E' hi ⟨l2, hz, hnews⟩ hv hC hm2 F N off ne3
    rw [hnews] at N off
    clear hnews
    have offm := LCg.Off3.mem off
    clear off
    obtain ⟨x, hx⟩ : ∃ x, ns[i]? = some x := ⟨_, List.getElem?_eq_getElem (by rw [List.size_toArray] at hi; omega)⟩
    obtain ⟨t, ht⟩ := hval i x hx
    obtain rfl : v = .int (x : Int) t := by
      have hv : kv[i]? = some v := by simpa using hv
      rw [ht] at hv
      exact (Option.some.inj hv).symm
    have hxb := hb x (List.mem_of_getElem? hx)
    tb_start
    rename Fr _ _ _ _ => F₅
    rename News _ _ _ _ => N₅
    refine wk_law (d := 700) (u := 3000) ?_
    refine digits_spec AM (pcall B0 F₅ rfl rfl) (by omega) fun t2 h2 tk2 k2 => ?_
    obtain ⟨F₆, N₆⟩ := pback F₅ N₅ k2
    exact LCg.CompEnd.intro F₆ N₆ _ (fun p hp => hp) (LCg.Off3.of offm) (.inr ⟨_, hm, rfl, kc, rfl⟩) ⟨by simp [l2], fun j y hj hy => by
      rcases Nat.lt_or_ge j i with q | q
      · rw [List.getElem?_append_left (by omega)]
        exact hz j y q hy
      · obtain rfl : j = i := by omega
        rw [hx] at hy
        cases hy
        rw [List.getElem?_append_right (by omega), show j - ys.length = 0 from by omega]
        exact ⟨_, rfl⟩, rfl⟩
  intro ys news ⟨l2, hz, hnews⟩
  rw [hnews]
  clear hnews
  unfold LCg.FinE
  intro D h tk6 F N off1
  have hda : DigsAre ns ys := ⟨by rw [l2, List.size_toArray, hlen], fun j x hx => hz j x (by
    rw [List.size_toArray, hlen]
    rcases Nat.lt_or_ge j ns.length with q | q
    · exact q
    · rw [List.getElem?_eq_none q] at hx; cases hx) hx⟩
  tb_start
  rename Fr _ _ _ _ => F₁
  rename News _ _ _ _ => N₁
  refine wk_law (d := 400) (u := 1600) ?_
  refine code_spec 1 (by rw [Tr.ht, leaves_ht]; decide) (by decide) (by decide) AM (pcall B0 F₁ rfl rfl) (cells_c B0 F₁ N₁ (fun p hp => hp) rfl rfl) (digs_rep hda (.head _)) (by have := leaves_sz hb h4; omega) fun t1 h2 tk2 k1 => ?_
  obtain ⟨F, N'⟩ := pback F₁ N₁ k1
  have N := fun z hz => N' z (.tail _ hz)
  clear N'
  clear F₁ N₁ off1 hz hda
  tb_start
  rename Fr _ _ _ _ => F₁
  refine LCg.ListComp_U (F₀ := F₁) (by rfl) (by decide) (by rfl) (by decide) (by rfl) ?_
  tb_start
  rename Fr _ _ _ _ => F₃
  rename News _ _ _ _ => N₃
  k_dflt (refine LCg.CompSrc.ledger (its := kv.toArray) (k := kc) (by rfl) F₃ N₃ hm (by rw [sizeLine_eq, List.size_toArray]; omega) ?_)
  clear F₃ N₃
  intro g3
  refine comp_ind (fun i ys news => ys.length = i ∧ (∀ (j x : Nat), j < i → ns[j]? = some x → ∃ t, ys[j]? = some (.bytes (digs x).toArray t)) ∧ news = all) ?_ ?_ ⟨rfl, (fun j x h => by omega), rfl⟩
  · intro i ys news v I oI C1 oC D m₂ h tk5 E' hi ⟨l2, hz, hnews⟩ hv hC hm2 F N off ne3
    rw [hnews] at N off
    clear hnews
    have offm := LCg.Off3.mem off
    clear off
    obtain ⟨x, hx⟩ : ∃ x, ns[i]? = some x := ⟨_, List.getElem?_eq_getElem (by rw [List.size_toArray] at hi; omega)⟩
    obtain ⟨t, ht⟩ := hval i x hx
    obtain rfl : v = .int (x : Int) t := by
      have hv : kv[i]? = some v := by simpa using hv
      rw [ht] at hv
      exact (Option.some.inj hv).symm
    have hxb := hb x (List.mem_of_getElem? hx)
    tb_start
    rename Fr _ _ _ _ => F₅
    rename News _ _ _ _ => N₅
    refine wk_law (d := 700) (u := 3000) ?_
    refine digits_spec AM (pcall B0 F₅ rfl rfl) (by omega) fun t2 h2 tk2 k2 => ?_
    obtain ⟨F₆, N₆⟩ := pback F₅ N₅ k2
    exact LCg.CompEnd.intro F₆ N₆ _ (fun p hp => hp) (LCg.Off3.of offm) (.inr ⟨_, hm, rfl, kc, rfl⟩) ⟨by simp [l2], fun j y hj hy => by
      rcases Nat.lt_or_ge j i with q | q
      · rw [List.getElem?_append_left (by omega)]
        exact hz j y q hy
      · obtain rfl : j = i := by omega
        rw [hx] at hy
        cases hy
        rw [List.getElem?_append_right (by omega), show j - ys.length = 0 from by omega]
        exact ⟨_, rfl⟩, rfl⟩
  intro ys news ⟨l2, hz, hnews⟩
  rw [hnews]
  clear hnews
  unfold LCg.FinE
  intro D h tk6 F N off1
  have hda : DigsAre ns ys := ⟨by rw [l2, List.size_toArray, hlen], fun j x hx => hz j x (by
    rw [List.size_toArray, hlen]
    rcases Nat.lt_or_ge j ns.length with q | q
    · exact q
    · rw [List.getElem?_eq_none q] at hx; cases hx) hx⟩
  tb_start
  rename Fr _ _ _ _ => F₁
  rename News _ _ _ _ => N₁
  refine wk_law (d := 400) (u := 1600) ?_
  refine code_spec 2 (t := .node [.node (ns.map fun n => Tr.leaf (digs n))]) (ro := (_, W.listOf [Value.ref D].toArray 0) :: (D, LCg.lst ys) :: all) (by rw [Tr.ht, hts, hts, Tr.ht, leaves_ht]; decide) (by decide) (by decide) AM (pcall B0 F₁ rfl rfl) (cells_c B0 F₁ N₁ (fun p hp => hp) rfl rfl) (.node (vs := [Value.ref D]) (.head _) rfl fun i t v e1 e2 => by
    cases i with
    | zero => cases e1; cases e2; exact digs_rep hda (.tail _ (.head _))
    | succ i => simp at e1) (by have := deep_sz hb h4; omega) fun t2 h2 tk2 k1 => ?_
  obtain ⟨F, N'⟩ := pback F₁ N₁ k1
  have N := fun z hz => N' z (.tail _ (.tail _ hz))
  clear N'
  clear F₁ N₁ off1 hz hda
  tb_start
  rename Fr _ _ _ _ => F₁
  rename News _ _ _ _ => N₁
  exact ret _ _ t1 t2 F₁ N₁
end Mine
end

section
theorem Mine.quietLawP5 : True := by
  w_top off
  trivial
open PySem PySem.W PySem.Spec PySem.Calls PyProof.Rows
set_option Elab.async false
set_option maxRecDepth 100000
set_option maxHeartbeats 8000000
namespace Mine
theorem num_enc (ns : List Nat) : (Tr.node (ns.map fun n => Tr.leaf (digs n))).enc = (Tr.node (ns.map Tr.num)).enc := by
  have h : encs (ns.map fun n => Tr.leaf (digs n)) = encs (ns.map Tr.num) := by
    induction ns with
    | nil => rfl
    | cons a r ih => rw [List.map_cons, List.map_cons, encs_cons, encs_cons, ih]; rfl
  rw [Tr.enc, Tr.enc, h]
theorem Rep.monoF {ro ro' : List (Addr × Obj)} (h : ∀ z ∈ ro, z ∈ ro') {t : Tr} {v : Value} (R : Rep ro t v) : Rep ro' t v := R.mono h
theorem KV.mono {fx fx' : List (Addr × Obj)} (h : ∀ z ∈ fx, z ∈ fx') {ts : List Tr} {v : Value} (K : KV fx ts v) : KV fx' ts v := by
  obtain ⟨ka, kv, n, e, hm, hl, hr⟩ := K
  refine ⟨ka, kv, n, e, h _ hm, hl, fun p t v h1 h2 => ?_⟩
  cases hr p t v h1 h2 with
  | leaf => exact .leaf
  | num => exact .num
  | node r => exact .node (r.mono h)
theorem cells_sub3 {P : Params} {q : Row} {z : Addr × Obj} (h : z ∈ q.cells P) : z.1 ∈ [q.x, q.d, q.el] := by
  simp only [Row.cells, List.mem_cons, List.not_mem_nil, or_false] at h
  rcases h with rfl | rfl | rfl <;> simp
theorem LawSt.fix {w : World} {fx tmp : List (Addr × Obj)} {base : Heap} {L : Addr} {m : Str → Option Value} {S : Sta} {h : Heap} (St : LawSt w fx tmp base L m S h) (f2 tmp2 : List (Addr × Obj)) (sub : ∀ z ∈ f2 ++ tmp2, z ∈ tmp) (nd2 : (f2.map (·.1)).Nodup) (d2 : ∀ z ∈ tmp2, ∀ y ∈ f2, z.1 ≠ y.1) :
    LawSt w (f2 ++ fx) tmp2 base L m S h := by
  have up : ∀ z ∈ fx, z ∈ f2 ++ fx := fun z hz => List.mem_append_right _ hz
  refine ⟨St.F, fun z hz => St.N z ?_, ⟨?_, fun k i hi => ?_⟩, fun z hz y hy => ?_⟩
  · rcases List.mem_append.mp hz with hz | hz
    · exact List.mem_append_left _ (sub z (List.mem_append_right _ hz))
    · rcases List.mem_append.mp hz with hz | hz
      · rcases List.mem_append.mp hz with hz | hz
        · exact List.mem_append_left _ (sub z (List.mem_append_left _ hz))
        · exact List.mem_append_right _ (List.mem_append_left _ hz)
      · exact List.mem_append_right _ (List.mem_append_right _ hz)
  · rw [List.append_assoc, List.map_append]
    refine List.nodup_append.mpr ⟨nd2, St.I.nd, fun a ha b hb e => ?_⟩
    obtain ⟨x, hx, rfl⟩ := List.mem_map.mp ha
    obtain ⟨y, hy, rfl⟩ := List.mem_map.mp hb
    exact St.dis x (sub x (List.mem_append_left _ hx)) y hy e
  · have io := St.I.it k i hi
    obtain ⟨ro, t1, t2, t3⟩ := io.ty
    exact ⟨io.x, io.ok, ⟨ro, t1, fun z hz => up z (t2 z hz), t3⟩, io.kids.mono up, io.small, io.pl, io.dds, io.dict, io.flat, io.mods, io.els, io.lk, io.tn, io.keys⟩
  · rcases List.mem_append.mp hy with hy | hy
    · rcases List.mem_append.mp hy with hy | hy
      · exact d2 z hz y hy
      · exact St.dis z (sub z (List.mem_append_right _ hz)) y (List.mem_append_left _ hy)
    · exact St.dis z (sub z (List.mem_append_right _ hz)) y (List.mem_append_right _ hy)
theorem snd_of {g : Heap} {L : Addr} {h : Heap} {a : Addr × Obj} {b : Addr} {P : Params} {t0 : Tok} {news : List (Addr × Obj)} (_ : News g L h (a :: (b, beD P t0) :: news)) : ∃ x t, x = b ∧ t = t0 := ⟨b, t0, rfl, rfl⟩
theorem filled32 (w : World) (h : Heap) (X : (Mine.hd.heap_39 w.params).In h) : Challenge.rw_sx0040_01 = Challenge.rw_sx0040_01 := by
  revert X; k_fill; intro _; rfl
local macro_rules | `(tactic| tb_start) => `(tactic| repeat' ((fail_if_success (with_reducible show wpAny _ _ (call (Value.ref 106) _) _ _ _)); (fail_if_success (with_reducible show wpAny _ _ (call (Value.ref 233) _) _ _ _)); (fail_if_success (with_reducible show wpAny _ _ (execs (Stmt.For _ _ _ _ _ :: _) _) _ _ _)); (fail_if_success (with_reducible show wpAny _ _ (exec (Stmt.While _ _ _ _) _) _ _ _)); (fail_if_success (with_reducible show wpAny _ _ (exec (Stmt.For _ _ _ _ _) _) _ _ _)); (fail_if_success (with_reducible show wpAny _ _ (pyIter _) _ _ _)); first | (k_unfold; (try dsimp only)) | (k_end; wrow_close) | walk1 | (dsimp only; walk1) | (leave1; walk_say "STEP leave1"; try dsimp only) | fail "no step"))
theorem law_p5 {w : World} {mean : ExcName → Option Value} {mg mb : Str → Option Value} {base : Heap} {L fa c : Addr} {cd : Value} {s : Shared} {Q : Flow → Shared → Prop} {nl : Addr} {fx : List (Addr × Obj)} {ρ : Str → Option Value} {ns : List Nat} {kv : List Value} {kc : Nat} {td : Tok} {S : Sta}
    (AM : Amb w mean mg mb base) (B' : Below (topA 350 1400 []) base [] base) (St : LawSt w fx [] base L (fun y => if y = Str.ofString "digits" then some (.bytes (Tr.node (ns.map fun n => Tr.leaf (digs n))).enc.toArray td) else if y = Str.ofString "numbers" then some (.ref nl) else if y = Str.ofString "held" then some (.ref S.hl) else ρ y) S s.heap)
    (hm : (nl, W.listOf kv.toArray kc) ∈ fx) (hlen : kv.length = ns.length) (hval : ∀ (j x : Nat), ns[j]? = some x → ∃ t, kv[j]? = some (.int (x : Int) t)) (hb : ∀ x ∈ ns, x < 1000) (h4 : ns.length ≤ 4) (hct : Cnt S) (hi2 : S.its.length = 2)
    (ret : ∀ (h' : Heap) (tk' : Nat) S' f2 i2, LawSt w (f2 ++ fx) [] base L (fun y => if y = Str.ofString "digits" then some (.bytes (Tr.node (ns.map fun n => Tr.leaf (digs n))).enc.toArray td) else if y = Str.ofString "numbers" then some (.ref nl) else if y = Str.ofString "held" then some (.ref S'.hl) else ρ y) S' h' → S'.its.length = 3 → Cnt S' → S'.its[2]? = some i2 → i2.r.kids = ns.map Tr.num →
      wpAny (model PRG w) ((topA 350 1400 []).deeper (lenv L fa c cd)) (execs (lawBody.drop 10) (lenv L fa c cd)) Q (fun _ _ => False) {s with heap := h', toks := tk'}) :
    wpAny (model PRG w) ((topA 350 1400 []).deeper (lenv L fa c cd)) (execs (lawBody.drop 9) (lenv L fa c cd)) Q (fun _ _ => False) s := by
  have X' := AM.X
  have T' := AM.T
  have F := St.F
  obtain ⟨all, hall⟩ : ∃ all, all = [] ++ (fx ++ S.led w.params) := ⟨_, rfl⟩
  have N : News base L s.heap all := hall ▸ St.N
  show wpAny _ _ (execs (_ :: _) _) _ _ _
  have esc : lawScope = lawScope := rfl
  conv at esc => rhs; whnf
  delta lenv
  rw [esc]
  have B0 := B'
  tb_start
  rename Fr base L _ _ => F₁
  rename News base L _ _ => N₁
  obtain ⟨be, hbe⟩ := head_of N₁
  subst hbe
  obtain ⟨bd, t0, hbd, ht0⟩ := snd_of (P := w.params) N₁
  subst hbd
  have l2 : @LT.lt Nat _ bd be := by assumption
  have l1 : ∀ p ∈ all, @LT.lt Nat _ p.1 bd := by assumption
  have N₁ : News base L _ ((be, instObj 196 bd) :: (bd, beD w.params t0) :: all) := ht0 ▸ N₁
  have St1 : LawSt w fx [(be, instObj 196 bd), (bd, beD w.params t0)] base L _ S _ := ⟨F₁, fun z hz => N₁ z (by
    rw [hall]
    simpa using hz), St.I, fun z hz y hy => by
      have hy := l1 y (hall ▸ hy)
      simp only [List.mem_cons, List.not_mem_nil, or_false] at hz
      rcases hz with rfl | rfl
      · exact fun e => by
          have e : @Eq Nat be y.1 := e
          omega
      · exact fun e => by
          have e : @Eq Nat bd y.1 := e
          omega⟩
  have hsz : (Tr.node (ns.map fun n => Tr.leaf (digs n))).enc.length < 65536 := by
    have := leaves_sz hb h4
    omega
  refine wk_law (d := 450) (u := 1800) ?_
  refine decL_sed AM (pcall B0 F₁ rfl rfl) (num_enc ns) hsz fun q h2 tk2 k1 k2 k3 k4 k5 k6 k7 k8 k9 k10 => ?_
  clear N₁ F₁
  have St2 := St1.with_new (out := q.cells w.params ++ [(q.kw, dictOf [] 0)]) k1 k2 (fun z hz => k3 _ (by
    rcases List.mem_append.mp hz with hz | hz
    · exact cells_sub hz
    · obtain rfl := List.mem_singleton.mp hz
      simp))
  have knd : q.x ≠ q.kw ∧ q.d ≠ q.kw ∧ q.el ≠ q.kw := by
    simp only [List.nodup_cons, List.mem_cons, List.not_mem_nil, or_false, not_or] at k4
    exact ⟨k4.1.2.2, k4.2.1.2, k4.2.2.1⟩
  have hbe := (St1.N (be, instObj 196 bd) (.head _)).1
  have hbd := (St1.N (bd, beD w.params t0) (.tail _ (.head _))).1
  have fr : ∀ a ∈ [q.x, q.d, q.el, q.kw], a ≠ be ∧ a ≠ bd := fun a ha => by
    have h0 := k3 a ha
    refine ⟨fun e => ?_, fun e => ?_⟩
    · rw [e] at h0
      dsimp only at hbe h0
      rw [h0] at hbe; cases hbe
    · rw [e] at h0
      dsimp only at hbd h0
      rw [h0] at hbd; cases hbd
  have St3 := St2.fix [(q.kw, dictOf [] 0), (be, instObj 196 bd), (bd, beD w.params t0)] (q.cells w.params) (fun z hz => by
    rcases List.mem_append.mp hz with hz | hz
    · simp only [List.mem_cons, List.not_mem_nil, or_false] at hz
      rcases hz with rfl | rfl | rfl
      · exact List.mem_append_left _ (List.mem_append_right _ (.head _))
      · exact List.mem_append_right _ (.head _)
      · exact List.mem_append_right _ (.tail _ (.head _))
    · exact List.mem_append_left _ (List.mem_append_left _ hz)) (by
      have f := fr q.kw (by simp)
      have e : be ≠ bd := fun e => by
        have e : @Eq Nat be bd := e
        omega
      simp [f.1, f.2, e]) (fun z hz y hy => by
      have hz := cells_sub3 hz
      have f := fr z.1 (by simp only [List.mem_cons, List.not_mem_nil, or_false] at hz ⊢; rcases hz with h | h | h <;> simp [h])
      simp only [List.mem_cons, List.not_mem_nil, or_false] at hy hz
      rcases hy with rfl | rfl | rfl
      · rcases hz with h | h | h
        · rw [h]; exact knd.1
        · rw [h]; exact knd.2.1
        · rw [h]; exact knd.2.2
      · exact f.1
      · exact f.2)
  have F := St3.F
  have N := St3.N
  obtain ⟨all2, hall2⟩ : ∃ all, all = q.cells w.params ++ (([(q.kw, dictOf [] 0), (be, instObj 196 bd), (bd, beD w.params t0)] ++ fx) ++ S.led w.params) := ⟨_, rfl⟩
  rw [← hall2] at N
  tb_start
  rename Fr base L _ _ => F₁
  rename News base L _ _ => N₁
  have St4 : LawSt w ([(q.kw, dictOf [] 0), (be, instObj 196 bd), (bd, beD w.params t0)] ++ fx) (q.cells w.params ++ []) base L _ S _ := ⟨F₁, by rw [List.append_nil]; exact hall2 ▸ N₁, St3.I, by rw [List.append_nil]; exact St3.dis⟩
  clear F₁ N₁
  refine wk_law (d := 450) (u := 1800) ?_
  have hnn : ∀ t ∈ ns.map Tr.num, IsNum t := fun t ht => by
    obtain ⟨n, hn, rfl⟩ := List.mem_map.mp ht
    have := hb n hn
    show n < 65536
    omega
  refine st_fresh (tmp := []) (S := S) AM B0 St4 rfl rfl (List.nodup_append.mp (show ([q.x, q.d, q.el] ++ [q.kw]).Nodup from k4)).1 k6 k8 ⟨[(q.kw, dictOf [] 0), (be, instObj 196 bd), (bd, beD w.params t0)], .inr ⟨be, bd, t0, _, k10, rfl, emptyD0, k5, fun t ht => hnn t (k7 ▸ ht)⟩, (fun z hz => List.mem_append_left _ hz), ?_⟩
    ⟨nl, kv, kc, rfl, List.mem_append_right _ hm, by rw [k7, List.length_map]; exact hlen, fun p t v e1 e2 => ?_⟩ (by rw [k7, List.length_map]; omega) (fun hn => by rw [k10] at hn; cases hn) (fun _ h => nomatch h) (by omega) fun n c' h3 tk3 St5 e1 e2 e3 => ?_
  · have f := fr q.kw (by simp)
    have e : be ≠ bd := fun e => by
      have e : @Eq Nat be bd := e
      omega
    simp [f.1, f.2, e]
  · rw [k7, List.getElem?_map] at e1
    cases hq : ns[p]? with
    | none => rw [hq] at e1; cases e1
    | some x =>
      rw [hq] at e1
      obtain rfl := Option.some.inj e1
      obtain ⟨t, ht⟩ := hval p x hq
      rw [e2] at ht
      obtain rfl := Option.some.inj ht
      exact .num
  have F := St5.F
  have N := St5.N
  obtain ⟨all3, hall3⟩ : ∃ all, all = [] ++ (([(q.kw, dictOf [] 0), (be, instObj 196 bd), (bd, beD w.params t0)] ++ fx) ++ (S.add n c').led w.params) := ⟨_, rfl⟩
  rw [← hall3] at N
  tb_start
  rename Fr base L _ _ => F₁
  rename News base L _ _ => N₁
  refine ret _ _ (S.add n c') [(q.kw, dictOf [] 0), (be, instObj 196 bd), (bd, beD w.params t0)] n ⟨F₁, hall3 ▸ N₁, St5.I, St5.dis⟩ ?_ (cnt_add hct (by rw [e1, e2, k8]; rfl)) ?_ (by rw [e1, k7])
  · show (S.its ++ [n]).length = 3
    rw [List.length_append, hi2]; rfl
  · show (S.its ++ [n])[2]? = some n
    rw [List.getElem?_append_right (by omega), hi2]; rfl
end Mine
end

section
theorem Mine.quietLawP6 : True := by
  w_top off
  trivial
open PySem PySem.W PySem.Spec PySem.Calls PyProof.Rows
set_option Elab.async false
set_option maxRecDepth 100000
set_option maxHeartbeats 8000000
namespace Mine
theorem filled33 (w : World) (h : Heap) (X : (Mine.hd.heap_39 w.params).In h) : Challenge.rw_sx0040_01 = Challenge.rw_sx0040_01 := by
  revert X; k_fill; intro _; rfl
local macro_rules | `(tactic| tb_start) => `(tactic| repeat' ((fail_if_success (with_reducible show wpAny _ _ (binaryOp Operator.Add (Value.ref _) (Value.ref _)) _ _ _)); (fail_if_success (with_reducible show wpAny _ _ (execs (Stmt.For _ _ _ _ _ :: _) _) _ _ _)); (fail_if_success (with_reducible show wpAny _ _ (exec (Stmt.While _ _ _ _) _) _ _ _)); (fail_if_success (with_reducible show wpAny _ _ (exec (Stmt.For _ _ _ _ _) _) _ _ _)); (fail_if_success (with_reducible show wpAny _ _ (pyIter _) _ _ _)); first | (k_unfold; (try dsimp only)) | (k_end; wrow_close) | walk1 | (dsimp only; walk1) | (leave1; walk_say "STEP leave1"; try dsimp only) | fail "no step"))
theorem law_p6 {w : World} {mean : ExcName → Option Value} {mg mb : Str → Option Value} {base : Heap} {L fa c : Addr} {cd : Value} {s : Shared} {Q : Flow → Shared → Prop} {fx : List (Addr × Obj)} {m : Str → Option Value} {S : Sta} {i2 : Item}
    {ts : List Tr} {ns : List Nat} {nl tl sl : Addr} {kv : List Value} {kc : Nat} {tv : List Value} {vc : Nat} {cb dg dp : List UInt8} {tc1 td te : Tok} {vs : List Value} {zs : List Int}
    (AM : Amb w mean mg mb base) (B' : Below (topA 350 1400 []) base [] base) (St : LawSt w fx [] base L m S s.heap) (LF : LawFix fx ts ns nl tl kv kc tv vc cb dg dp) (six : Six S.hl nl tl cb dg dp tc1 td te m) (hsc : m (Str.ofString "script") = some (.ref sl))
    (hL : base.IsList sl vs.toArray) (hI : IntsAre vs zs) (h63 : zs.length ≤ 63) (hct : Cnt S) (h3 : S.its.length = 3) (hi2 : S.its[2]? = some i2) (hk2 : i2.r.kids = ns.map Tr.num)
    (ret : ∀ (h' : Heap) (tk' : Nat) S' m', LawSt w fx [] base L m' S' h' → Six S'.hl nl tl cb dg dp tc1 td te m' → Cnt S' → S'.its.length < 9999 →
      wpAny (model PRG w) ((topA 350 1400 []).deeper (lenv L fa c cd)) (execs (lawBody.drop 11) (lenv L fa c cd)) Q (fun _ _ => False) {s with heap := h', toks := tk'}) :
    wpAny (model PRG w) ((topA 350 1400 []).deeper (lenv L fa c cd)) (execs (lawBody.drop 10) (lenv L fa c cd)) Q (fun _ _ => False) s := by
  have X' := AM.X
  have T' := AM.T
  obtain ⟨all, hall⟩ : ∃ all, all = [] ++ (fx ++ S.led w.params) := ⟨_, rfl⟩
  have N : News base L s.heap all := hall ▸ St.N
  have F : Fr base L s.heap (fun y => if y = Str.ofString "script" then some (.ref sl) else m y) := Mine.Fr.congr St.F fun y => ovr hsc y
  show wpAny _ _ (execs (_ :: _) _) _ _ _
  have esc : lawScope = lawScope := rfl
  conv at esc => rhs; whnf
  delta lenv
  rw [esc]
  have B0 := B'
  walk1
  refine wpAny_For ?_
  tb_start
  walk1
  rename Fr base L _ _ => F₁
  rename News base L _ _ => N₁
  rename IntsAre _ (_ ++ _) => hI2
  have hx0 := allInt_of hI2
  have hl0 := ints_len hI2
  have hxl := hl0.trans List.length_append
  simp only [List.length_take, List.length_drop, List.length_cons, List.length_nil] at hxl
  rename _ ∧ _ ∧ AllLt _ all => hlt0
  obtain ⟨l, xs, hl, hxs⟩ := wl_of N₁
  subst hl hxs
  have hlt := lt_of_all hlt0.2.2
  have Nq : News base L _ ((l, W.listOf xs.toArray 0) :: all) := fun z hz => N₁ z (by
    rcases List.mem_cons.mp hz with rfl | hz
    · exact .head _
    · exact .tail _ (.tail _ (.tail _ hz)))
  clear N₁ hlt0 hI2 hl0
  refine for_list (l := l) (xs := xs) (c := 0) (fun i m news => ∃ S, news = (l, W.listOf xs.toArray 0) :: (fx ++ S.led w.params) ∧ Inv w fx S ∧ Cnt S ∧ Six S.hl nl tl cb dg dp tc1 td te m ∧ S.its.length ≤ 3 + i ∧ 0 < S.its.length ∧ (∃ i2, S.its[2]? = some i2 ∧ i2.r.kids = ns.map Tr.num) ∧ (∀ y ∈ fx ++ S.led w.params, @Ne Nat l y.1)) F₁ Nq ?_ ?_ PassesOwn.never rfl rfl rfl rfl ?_ ?_
  · refine ⟨S, by rw [hall]; rfl, St.I, hct, ?_, by omega, by omega, ⟨i2, hi2, hk2⟩, fun y hy e => ?_⟩
    · obtain ⟨x1, x2, x3, x4, x5, x6⟩ := six
      refine ⟨?_, ?_, ?_, ?_, ?_, ?_⟩ <;> (show (if _ then _ else _) = _; rw [if_neg (by decide)]; assumption)
    · have := hlt y (hall ▸ hy)
      omega
  · rintro i m news ⟨S, rfl, _⟩; exact .head _
  · rintro i m1 news h2 tk2 it ito v ⟨S1, rfl, I1, hct1, six1, hle1, hpos1, ⟨j2, hj2, hkj2⟩, hln1⟩ hv F2 N2 hio dis
    clear F₁ Nq
    obtain ⟨n, tn, rfl⟩ := hx0 v (List.mem_of_getElem? hv)
    have hi : i < xs.length := by
      rcases Nat.lt_or_ge i xs.length with z | z
      · exact z
      · rw [List.getElem?_eq_none z] at hv; cases hv
    obtain ⟨x1, x2, x3, x4, x5, x6⟩ := six1
    have F3 : Fr base L h2 (fun y => if y = Str.ofString "n" then some (.int n tn) else if y = Str.ofString "held" then some (.ref S1.hl) else emap nl tl cb dg dp tc1 td te m1 y) := Mine.Fr.congr F2 fun y => by
      dsimp only [emap]
      rw [← ovr x6 y, ← ovr x5 y, ← ovr x4 y, ← ovr x3 y, ← ovr x2 y, ← ovr x1 y]
    have St1 : LawSt w fx [(it, ito), (l, W.listOf xs.toArray 0)] base L _ S1 h2 := ⟨F3, fun z hz => N2 z (by simpa using hz), I1, fun z hz y hy => by
      simp only [List.mem_cons, List.not_mem_nil, or_false] at hz
      rcases hz with rfl | rfl
      · exact fun e => dis y (.tail _ hy) e.symm
      · exact hln1 y hy⟩
    refine turn_pre AM B0 St1 (by omega) hpos1 fun k p i1 rest h4 tk4 tp tc tr th ρ' St2 hi1 hp => ?_
    refine' turn_go (i2 := j2) AM B0 ?St LF hi1 hp hj2 hkj2 (by omega) hct1 ?rt
    case St => exact St2
    case rt =>
      intro S3 m3 h5 tk5 St3 sx3 hc3 ev3 hl3
      obtain ⟨j3, hj3, hkj3⟩ := ev3.keep 2 j2 hj2
      refine ⟨m3, (l, W.listOf xs.toArray 0) :: (fx ++ S3.led w.params), h5, tk5, ito, rfl, St3.F, fun z hz => St3.N z (by simpa using hz), hio, fun z hz e => ?_, S3, rfl, St3.I, hc3, by rw [ev3.hl]; exact sx3, by omega, ev3.len hpos1, ⟨j3, hj3, hkj3.trans hkj2⟩, fun y hy => St3.dis (l, W.listOf xs.toArray 0) (.tail _ (.head _)) y hy⟩
      rcases List.mem_cons.mp hz with rfl | hz
      · exact dis (l, W.listOf xs.toArray 0) (.head _) e
      · exact St3.dis (it, ito) (.head _) z hz e.symm
  · rintro m1 news h2 tk2 ⟨S1, rfl, I1, hct1, six1, hle1, hpos1, _, hln1⟩ F2 N2
    clear F₁ Nq
    show wpAny _ _ (execs [] _) _ _ _
    have F := F2
    have N := N2
    tb_start
    rename Fr base L _ _ => F₅
    rename News base L _ _ => N₅
    refine ret _ _ S1 m1 ⟨F₅, fun z hz => N₅ z (.tail _ hz), I1, fun _ h => nomatch h⟩ six1 hct1 (by omega)
end Mine
end

section
theorem Mine.quietLoopW : True := by
  w_top off
  trivial
open PySem PySem.W PySem.Spec PySem.Calls PyProof.Rows
set_option Elab.async false
set_option maxRecDepth 100000
set_option maxHeartbeats 8000000
namespace Mine
section
variable {prog : Program} {w : World} {A : Around} {E : Value → Shared → Prop} {s : Shared} {env : Env} {Q : Flow → Shared → Prop} {g : Heap} {L I : Addr} {m : Str → Option Value} {news : List (Addr × Obj)} {x : Str} {px : Pos} {body orelse : List Stmt} {fp : List Addr} {n : Nat} {P : Nat → Value → Prop} {St : Nat → Heap → Prop}
/-- where a for by any iterator stands -/
def WalkAt (g : Heap) (L I : Addr) (St : Nat → Heap → Prop) (J : Nat → (Str → Option Value) → List (Addr × Obj) → Prop) (s : Shared) (i : Nat) (s' : Shared) : Prop :=
  ∃ m news h tk oI, s' = { s with heap := h, toks := tk } ∧ Fr g L h m ∧ News g L h ((I, oI) :: news) ∧ St i h ∧ (∀ p ∈ news, @Ne Nat p.1 I) ∧ J i m news
theorem for_walk (W : Walks prog w A I fp [I] n P St) (hI : ∀ i h, St i h → ∃ o, h.get? I = some o) (J : Nat → (Str → Option Value) → List (Addr × Obj) → Prop) (s0 : WalkAt g L I St J s 0 s)
    (hfp : ∀ b ∈ fp, @Ne Nat b L) (hE : PassesOwn (model prog w) A env E) (hf : env.locals = L) (hk : env.scope.kind = .function) (hx : env.kindOf x = some .local)
    (turn : ∀ i m news h tk oI v, i < n → J i m news → P i v → Fr g L h (fun y => if y = x then some v else m y) → News g L h ((I, oI) :: news) → St (i + 1) h → (∀ p ∈ news, @Ne Nat p.1 I) →
      wpAny (model prog w) A (execs body env) (fun f s₃ => match f with
        | .next => Stay (WalkAt g L I St J s (i + 1) s₃)
        | .cont => Stay (WalkAt g L I St J s (i + 1) s₃)
        | .brk => Q .next s₃
        | .ret v => Q (.ret v) s₃) E { s with heap := h, toks := tk })
    (done : ∀ m news h tk, J n m news → Fr g L h m → News g L h news → wpAny (model prog w) A (execs orelse env) Q E { s with heap := h, toks := tk }) :
    codeAny (model prog w) A (.forLoop (.Name x px) (.ref I) body orelse env) (fun r s' => match r with | .ok f => Q f s' | .error e => cameBackBy (model prog w) A env E e s') s := by
  refine for_inv (fun k s' => ∃ i, i + k = n ∧ WalkAt g L I St J s i s') hE (fun k s₁ hI1 => ?_) (n := n) ⟨0, Nat.zero_add _, s0⟩
  obtain ⟨i, hik, m', news', h, tk, oI, rfl, F', N', st, dis, j⟩ := hI1
  have Nn : News g L h news' := fun p hp => N' p (.tail _ hp)
  have after : ∀ h', (∀ b o, b ∉ [I] → h.get? b = some o → h'.get? b = some o) → Fr g L h' m' ∧ News g L h' news' := fun h' kp => by
    obtain ⟨oL, es, ep, hoL, hr⟩ := F'.ns
    refine ⟨⟨⟨oL, es, ep, kp _ _ (fun z => (N' _ (.head _)).2.1 (List.mem_singleton.mp z).symm) hoL, hr⟩, fun b o e => kp b o (fun z => ?_) (F'.keep b o e), F'.above⟩, fun p hp => ⟨kp _ _ (fun z => dis p hp (List.mem_singleton.mp z)) (Nn p hp).1, (Nn p hp).2⟩⟩
    have := (N' _ (.head _)).2.2
    rw [List.mem_singleton.mp z] at e
    rw [e] at this; cases this
  rcases Nat.lt_or_ge i n with hlt | hge
  · refine W.item i _ _ _ hlt st fun v h' tk' hP st' hb => ?_
    obtain ⟨F'', N''⟩ := after h' hb
    obtain ⟨o', ho'⟩ := hI (i + 1) h' st'
    have N3 : News g L h' ((I, o') :: news') := fun p hp => by
      rcases List.mem_cons.mp hp with rfl | hp
      · exact ⟨ho', (N' _ (.head _)).2⟩
      · exact N'' p hp
    refine wpAny_assign_Name ?_
    subst hf
    refine wpAny_storeName_local hx F''.ns (fun h2 hn hs => ?_) (by show (env.scope.kind == .class || (env.scope.kind == .module && env.locals != env.globals)) = false; rw [hk]; rfl)
    have st2 : St (i + 1) h2 := W.frame (i + 1) h' h2 st' fun b hb o e => (hs.2 b (hfp b hb)).trans e
    refine wpAny_mono (turn i m' news' h2 _ o' v hlt j hP (F''.set hn hs) (N3.set hs) st2 dis) (fun f s₃ h₃ => ?_) fun _ _ x => x
    cases f with
    | next => exact ⟨k - 1, by omega, i + 1, by omega, h₃⟩
    | cont => exact ⟨k - 1, by omega, i + 1, by omega, h₃⟩
    | brk => exact h₃
    | ret v => exact h₃
  · obtain rfl : i = n := by omega
    refine W.done _ _ _ st fun h' tk' hb => ?_
    obtain ⟨F'', N''⟩ := after h' hb
    exact done m' news' h' tk' j F'' N''
/-- a for over a range from nought -/
theorem for_range {r : Addr} {t u v : Tok} {n : Nat} {j : Int} (hj : j = (n : Int)) (hr : IsRange s.heap r 0 j 1 t u v) (hsm : Builtin.Range.small 0 j 1 = true) (J : Nat → (Str → Option Value) → List (Addr × Obj) → Prop) (F : Fr g L s.heap m) (N : News g L s.heap news) (j0 : J 0 m news)
    (hE : PassesOwn (model prog w) A env E) (hA : A.handled = none) (hf : env.locals = L) (hk : env.scope.kind = .function) (hx : env.kindOf x = some .local)
    (turn : ∀ i m news h tk I oI ti, i < n → J i m news → Fr g L h (fun y => if y = x then some (.int (i : Int) ti) else m y) → News g L h ((I, oI) :: news) → (∀ p ∈ news, @Ne Nat p.1 I) →
      wpAny (model prog w) A (execs body env) (fun f s₃ => match f with
        | .next => Stay (∃ m' news' h' tk', s₃ = { s with heap := h', toks := tk' } ∧ Fr g L h' m' ∧ News g L h' ((I, oI) :: news') ∧ (∀ p ∈ news', @Ne Nat p.1 I) ∧ J (i + 1) m' news')
        | .cont => Stay (∃ m' news' h' tk', s₃ = { s with heap := h', toks := tk' } ∧ Fr g L h' m' ∧ News g L h' ((I, oI) :: news') ∧ (∀ p ∈ news', @Ne Nat p.1 I) ∧ J (i + 1) m' news')
        | .brk => Q .next s₃
        | .ret v => Q (.ret v) s₃) E { s with heap := h, toks := tk })
    (done : ∀ m news h tk, J n m news → Fr g L h m → News g L h news → wpAny (model prog w) A (execs orelse env) Q E { s with heap := h, toks := tk }) :
    wpAny (model prog w) A (pyIter (.ref r)) (fun it s₂ => codeAny (model prog w) A (.forLoop (.Name x px) it body orelse env) (fun r s' => match r with | .ok f => Q f s' | .error e => cameBackBy (model prog w) A env E e s') s₂) E s := by
  subst hj
  refine wpAny_pyIter_range hr hsm ?_
  have F0 := F.push ({ cls := .type "range_iterator", data := .fields #[rawInt 0, rawInt (Builtin.Range.rangeSize 0 (n : Int) 1), rawInt 1] } : Obj)
  have N0 := N.push F ({ cls := .type "range_iterator", data := .fields #[rawInt 0, rawInt (Builtin.Range.rangeSize 0 (n : Int) 1), rawInt 1] } : Obj) rfl
  have ltn : ∀ p ∈ news, @Ne Nat p.1 s.heap.objs.size := fun p hp => Nat.ne_of_lt (Heap.lt_size (N p hp).1)
  have hst : ∀ (i : Nat) (h h' : Heap) (o : Obj), IsRangeIter h s.heap.objs.size (0 + (i : Nat) * 1) ((n : Int) - (i : Nat)) 1 → h.get? s.heap.objs.size = some o → h'.get? s.heap.objs.size = some o → IsRangeIter h' s.heap.objs.size (0 + (i : Nat) * 1) ((n : Int) - (i : Nat)) 1 := fun i h h' o a b c => by
    have a' : h.get? s.heap.objs.size = some _ := a
    show h'.get? s.heap.objs.size = some _
    rw [c, ← b]; exact a'
  refine for_walk (LCg.range_walks hA 0 n) (fun i h st => ⟨_, st⟩) J ⟨m, news, _, s.toks, _, rfl, F0, N0, ?_, ltn, j0⟩ (fun b hb => ?_) hE hf hk hx (fun i m1 news1 h tk oI v hlt j1 hP F1 N1 st dis => ?_) done
  · show IsRangeIter _ _ _ _ _
    have e : Builtin.Range.rangeSize 0 (n : Int) 1 = (n : Int) := by rw [rangeSize_nat]; rw [Int.sub_zero]; simp
    have := Heap.get?_push_size s.heap (o := { cls := .type "range_iterator", data := .fields #[rawInt 0, rawInt (Builtin.Range.rangeSize 0 (n : Int) 1), rawInt 1] }) rfl
    rw [e] at this
    simpa [IsRangeIter, e] using this
  · obtain rfl := List.mem_singleton.mp hb
    exact (N0 _ (.head _)).2.1
  · obtain ⟨ti, rfl⟩ := hP
    have e : (0 : Int) + (i : Int) = (i : Int) := Int.zero_add _
    rw [e] at F1
    have hone := (N1 _ (.head _)).1
    have conv : ∀ s₃, (∃ m' news' h' tk', s₃ = { s with heap := h', toks := tk' } ∧ Fr g L h' m' ∧ News g L h' ((s.heap.objs.size, oI) :: news') ∧ (∀ p ∈ news', @Ne Nat p.1 s.heap.objs.size) ∧ J (i + 1) m' news') → WalkAt g L s.heap.objs.size (fun i h => IsRangeIter h s.heap.objs.size (0 + (i : Nat) * 1) ((n : Int) - (i : Nat)) 1) J _ (i + 1) s₃ :=
      fun s₃ ⟨m', news', h', tk', e1, e2, e3, e4, e5⟩ => ⟨m', news', h', tk', oI, e1, e2, e3, hst (i + 1) h h' oI st hone (e3 _ (.head _)).1, e4, e5⟩
    refine wpAny_mono (turn i m1 news1 h tk s.heap.objs.size oI ti hlt j1 F1 N1 dis) (fun f s₃ h₃ => ?_) fun _ _ x => x
    cases f with
    | next => exact conv s₃ h₃
    | cont => exact conv s₃ h₃
    | brk => exact h₃
    | ret v => exact h₃
theorem dictAt_of {h : Heap} {d : Addr} {od : Obj} {kvs : List (Int × Value)} {ep : Nat} (ho : h.get? d = some od) (hd : ∃ es, od.ExactDict ∧ od.data = .dict es ep ∧ KeysOf (intKind prog w) es ∧ Pairs (intKind prog w) es.toList kvs ∧ (kvs.map (·.1)).Nodup) : h.DictAt (intKind prog w) d kvs ep := by
  obtain ⟨es, r⟩ := hd
  exact ⟨od, es, ho, r⟩
/-- a for over a dictionary's keys -/
theorem for_dict {d : Addr} {od : Obj} {kvs : List (Int × Value)} (hd : (d == sysModules) = false) (hdo : od.IsDictOf (intKind prog w) kvs) (J : Nat → (Str → Option Value) → List (Addr × Obj) → Prop) (F : Fr g L s.heap m) (N : News g L s.heap news) (j0 : J 0 m news)
    (hmem : ∀ i m news, J i m news → (d, od) ∈ news)
    (hE : PassesOwn (model prog w) A env E) (hA : A.handled = none) (hf : env.locals = L) (hk : env.scope.kind = .function) (hx : env.kindOf x = some .local)
    (turn : ∀ (i : Nat) m news h tk I oI (k : Int) v ti, kvs[i]? = some (k, v) → J i m news → Fr g L h (fun y => if y = x then some (.int k ti) else m y) → News g L h ((I, oI) :: news) → (∀ p ∈ news, @Ne Nat p.1 I) →
      wpAny (model prog w) A (execs body env) (fun f s₃ => match f with
        | .next => Stay (∃ m' news' h' tk', s₃ = { s with heap := h', toks := tk' } ∧ Fr g L h' m' ∧ News g L h' ((I, oI) :: news') ∧ (∀ p ∈ news', @Ne Nat p.1 I) ∧ J (i + 1) m' news')
        | .cont => Stay (∃ m' news' h' tk', s₃ = { s with heap := h', toks := tk' } ∧ Fr g L h' m' ∧ News g L h' ((I, oI) :: news') ∧ (∀ p ∈ news', @Ne Nat p.1 I) ∧ J (i + 1) m' news')
        | .brk => Q .next s₃
        | .ret v => Q (.ret v) s₃) E { s with heap := h, toks := tk })
    (done : ∀ m news h tk, J kvs.length m news → Fr g L h m → News g L h news → wpAny (model prog w) A (execs orelse env) Q E { s with heap := h, toks := tk }) :
    wpAny (model prog w) A (pyIter (.ref d)) (fun it s₂ => codeAny (model prog w) A (.forLoop (.Name x px) it body orelse env) (fun r s' => match r with | .ok f => Q f s' | .error e => cameBackBy (model prog w) A env E e s') s₂) E s := by
  obtain ⟨es, ep, hd1, hd2, hd3, hd4, hd5⟩ := hdo
  have hda : ∀ h : Heap, h.get? d = some od → h.DictAt (intKind prog w) d kvs ep := fun h ho => ⟨od, es, ho, hd1, hd2, hd3, hd4, hd5⟩
  have hm0 := N _ (hmem 0 m news j0)
  refine wpAny_pyIter_dict hd (hda _ hm0.1) ?_
  have F0 := F.push ({ cls := .type "dict_keyiterator", data := .fields #[.ref d, .int 0 0, .int (kvs.length : Int) 0, .int (ep : Int) 0] } : Obj)
  have N0 := N.push F ({ cls := .type "dict_keyiterator", data := .fields #[.ref d, .int 0 0, .int (kvs.length : Int) 0, .int (ep : Int) 0] } : Obj) rfl
  have ltn : ∀ p ∈ news, @Ne Nat p.1 s.heap.objs.size := fun p hp => Nat.ne_of_lt (Heap.lt_size (N p hp).1)
  have hne : d ≠ s.heap.objs.size := fun e => ltn _ (hmem 0 m news j0) e
  refine for_walk (Walks.dictKeys hA s.heap.objs.size d hne kvs ep) (fun i h st => let ⟨⟨o, ho, _⟩, _⟩ := st; ⟨o, ho⟩) J ⟨m, news, _, s.toks, _, rfl, F0, N0, ⟨⟨_, Heap.get?_push_size _ rfl, rfl, rfl⟩, hda _ (Heap.get?_push_of_some _ hm0.1)⟩, ltn, j0⟩ (fun b hb => ?_) hE hf hk hx (fun i m1 news1 h tk oI v hlt j1 hP F1 N1 st dis => ?_) done
  · rcases List.mem_cons.mp hb with rfl | hb
    · exact (N0 _ (.head _)).2.1
    · obtain rfl := List.mem_singleton.mp hb
      exact hm0.2.1
  · obtain ⟨k, x, hkx, hkv⟩ := hP
    obtain ⟨ti, rfl⟩ := Value.isInt_shape hkv
    have hone := (N1 _ (.head _)).1
    have conv : ∀ s₃, (∃ m' news' h' tk', s₃ = { s with heap := h', toks := tk' } ∧ Fr g L h' m' ∧ News g L h' ((s.heap.objs.size, oI) :: news') ∧ (∀ p ∈ news', @Ne Nat p.1 s.heap.objs.size) ∧ J (i + 1) m' news') → WalkAt g L s.heap.objs.size (fun i h => h.IsKeyIter s.heap.objs.size d i kvs.length ep ∧ h.DictAt (intKind prog w) d kvs ep) J _ (i + 1) s₃ :=
      fun s₃ ⟨m', news', h', tk', e1, e2, e3, e4, e5⟩ => ⟨m', news', h', tk', oI, e1, e2, e3, ⟨st.1.at fun o e => by
        rw [hone] at e; cases e
        exact (e3 _ (.head _)).1, hda _ (e3 _ (.tail _ (hmem _ _ _ e5))).1⟩, e4, e5⟩
    refine wpAny_mono (turn i m1 news1 h tk s.heap.objs.size oI k x ti hkx j1 F1 N1 dis) (fun f s₃ h₃ => ?_) fun _ _ x => x
    cases f with
    | next => exact conv s₃ h₃
    | cont => exact conv s₃ h₃
    | brk => exact h₃
    | ret v => exact h₃
end
end Mine
end

section
theorem Mine.quietEndA : True := by
  w_top off
  trivial
open PySem PySem.W PySem.Spec PySem.Calls PyProof.Rows
set_option Elab.async false
set_option maxRecDepth 100000
set_option maxHeartbeats 8000000
namespace Mine
def lawEnd : List Stmt := bodyOf (nth lawBody 11)
def lawTwice : List Stmt := bodyOf (nth lawEnd 2)
def lawSeen : List Stmt := bodyOf (nth lawEnd 3)
theorem filled34 (w : World) (h : Heap) (X : (Mine.hd.heap_39 w.params).In h) : Challenge.rw_sx0040_01 = Challenge.rw_sx0040_01 := by
  revert X; k_fill; intro _; rfl
local macro_rules | `(tactic| tb_start) => `(tactic| repeat' ((fail_if_success (with_reducible show wpAny _ _ (call (Value.ref 135) _) _ _ _)); (fail_if_success (with_reducible show wpAny _ _ (call (Value.ref 142) _) _ _ _)); (fail_if_success (with_reducible show wpAny _ _ (exec (Stmt.While _ _ _ _) _) _ _ _)); (fail_if_success (with_reducible show wpAny _ _ (exec (Stmt.For _ _ _ _ _) _) _ _ _)); (fail_if_success (with_reducible show wpAny _ _ (pyIter _) _ _ _)); first | (k_unfold; (try dsimp only)) | (k_end; wrow_close) | walk1 | (dsimp only; walk1) | (leave1; walk_say "STEP leave1"; try dsimp only) | fail "no step"))
local macro_rules | `(tactic| walk_at "idle line") => `(tactic| skip)
local macro_rules | `(tactic| walk_at "idle line") => `(tactic| skip)
local macro_rules | `(tactic| walk_at "idle line") => `(tactic| skip)
local macro_rules | `(tactic| walk_at "idle line") => `(tactic| skip)
local macro_rules | `(tactic| walk_at "idle line") => `(tactic| skip)
local macro_rules | `(tactic| walk_at "idle line") => `(tactic| skip)
local macro_rules | `(tactic| walk_at "idle line") => `(tactic| skip)
local macro_rules | `(tactic| walk_at "idle line") => `(tactic| skip)
local macro_rules | `(tactic| walk_at "idle line") => `(tactic| skip)
local macro_rules | `(tactic| walk_at "idle line") => `(tactic| skip)
local macro_rules | `(tactic| walk_at "idle line") => `(tactic| skip)
local macro_rules | `(tactic| walk_at "idle line") => `(tactic| skip)
local macro_rules | `(tactic| walk_at "idle line") => `(tactic| skip)
local macro_rules | `(tactic| walk_at "idle line") => `(tactic| skip)
local macro_rules | `(tactic| walk_at "idle line") => `(tactic| skip)
local macro_rules | `(tactic| walk_at "idle line") => `(tactic| skip)
local macro_rules | `(tactic| walk_at "idle line") => `(tactic| skip)
local macro_rules | `(tactic| walk_at "idle line") => `(tactic| skip)
local macro_rules | `(tactic| walk_at "idle line") => `(tactic| skip)
local macro_rules | `(tactic| walk_at "idle line") => `(tactic| skip)
local macro_rules | `(tactic| walk_at "idle line") => `(tactic| skip)
local macro_rules | `(tactic| walk_at "idle line") => `(tactic| skip)
local macro_rules | `(tactic| walk_at "idle line") => `(tactic| skip)
local macro_rules | `(tactic| walk_at "idle line") => `(tactic| skip)
local macro_rules | `(tactic| walk_at "idle line") => `(tactic| skip)
local macro_rules | `(tactic| walk_at "idle line") => `(tactic| skip)
local macro_rules | `(tactic| walk_at "idle line") => `(tactic| skip)
local macro_rules | `(tactic| walk_at "exec Try") => `(tactic| ((with_reducible show wpAny _ _ (exec (Stmt.Try _ (_ :: _) _ [] _) _) _ _ _); refine wpAny_Try_except ?_))
abbrev rmap (x : Addr) (hl : Addr) (k : Nat) (th : Tok) (ρ : Str → Option Value) : Str → Option Value := fun y => if y = Str.ofString "row" then some (.ref x) else if y = Str.ofString "held" then some (.ref hl) else if y = Str.ofString "h" then some (.int (k : Int) th) else ρ y
theorem end_twice {w : World} {mean : ExcName → Option Value} {mg mb : Str → Option Value} {fx tmp : List (Addr × Obj)} {base : Heap} {L fa c : Addr} {cd : Value} {S : Sta} {k : Nat} {i : Item} {th : Tok} {ρ : Str → Option Value} {s : Shared} {Q : Flow → Shared → Prop}
    (AM : Amb w mean mg mb base) (B' : Below (topA 350 1400 []) base [] base) (St : LawSt w fx tmp base L (rmap i.r.x S.hl k th ρ) S s.heap) (hi : S.its[k]? = some i) (hall' : i.r.els.length = i.r.kids.length)
    (ret : ∀ r' nu m' h' tk', LawSt w fx tmp base L m' (S.read k i r' nu) h' → r'.els = i.r.els → r'.kids = i.r.kids → r'.x = i.r.x → (∀ y, y ≠ Str.ofString "came" → m' y = rmap i.r.x S.hl k th ρ y) → Q .next {s with heap := h', toks := tk'}) :
    wpAny (model PRG w) ((topA 350 1400 []).deeper (lenv L fa c cd)) (execs lawTwice (lenv L fa c cd)) Q (fun _ _ => False) s := by
  have X' := AM.X
  have T' := AM.T
  obtain ⟨all, hall⟩ : ∃ all, all = tmp ++ (fx ++ S.led w.params) := ⟨_, rfl⟩
  have F := St.F
  have N : News base L s.heap (i.r.cells w.params ++ all) := fun z hz => St.N z (by
    rcases List.mem_append.mp hz with hz | hz
    · exact List.mem_append_right _ (List.mem_append_right _ (in_led hi z (List.mem_append_left _ hz)))
    · exact hall ▸ hz)
  simp only [Row.cells, Row.dict, rowD, List.cons_append, List.nil_append] at N
  unfold rmap at F
  (try dsimp only at F)
  show wpAny _ _ (execs (_ :: _) _) _ _ _
  have esc : lawScope = lawScope := rfl
  conv at esc => rhs; whnf
  delta lenv
  rw [esc]
  have B0 := B'
  tb_start
  refine wk (d := 500) (u := 2000) (Nat.le_of_ble_eq_true rfl) (Nat.le_of_ble_eq_true rfl) ?_
  refine st_nextE AM B0 St hi rfl hall' fun e r' nws h1 tk1 G R1 FG RS U e1 => ?_
  refine caught_X (T' := "StopIteration") RS FG B0 U AM.X AM.T KtsTurn.refl ?_ ?_ ?_ ?_ ?_ ?_ ?_ ?_
  · k_is
  · boot_by_name
  · decide
  · rw [isSubtype_type]; kernel_rfl
  · rw [show ((Manifest.find? "StopIteration").elim "type" fun x => x.metatype) = "type" from by kernel_rfl, isSubtype_type]; kernel_rfl
  · rw [isSubtype_type]; kernel_rfl
  · passes_own
  clear F N
  intro h3 g3 T3 F3 N3 B3 X3 P3
  obtain ⟨nu, St1⟩ := st_caught St hi R1 T3 F3 N3
  have ekid : r'.kids = i.r.kids := R1.same.2.2.2.2.2.1
  have ex : r'.x = i.r.x := R1.same.1
  clear F3 N3 T3 RS FG U
  obtain ⟨all1, hall1⟩ : ∃ all, all = tmp ++ (fx ++ (S.read k i r' nu).led w.params) := ⟨_, rfl⟩
  have F := St1.F
  have N : News base L h3 all1 := hall1 ▸ St1.N
  unfold rmap at F
  (try dsimp only at F)
  tb_start
  rename Fr base L _ _ => F₁
  rename News base L _ _ => N₁
  refine ret r' nu _ _ _ ⟨F₁, hall1 ▸ N₁, St1.I, St1.dis⟩ e1 ekid ex fun y h1 => ?_
  dsimp only [rmap]
  rw [if_neg h1]
end Mine
end

section
theorem Mine.quietEndB : True := by
  w_top off
  trivial
open PySem PySem.W PySem.Spec PySem.Calls PyProof.Rows
set_option Elab.async false
set_option maxRecDepth 100000
set_option maxHeartbeats 8000000
namespace Mine
theorem up3 {g : Heap} {L : Addr} {h : Heap} {a b c z : Addr × Obj} {all : List (Addr × Obj)} (m : z ∈ all) (_ : News g L h (a :: b :: c :: all)) : z ∈ a :: b :: c :: all := .tail _ (.tail _ (.tail _ m))
theorem filled35 (w : World) (h : Heap) (X : (Mine.hd.heap_39 w.params).In h) : Challenge.rw_sx0040_01 = Challenge.rw_sx0040_01 := by
  revert X; k_fill; intro _; rfl
local macro_rules | `(tactic| tb_start) => `(tactic| repeat' ((fail_if_success (with_reducible show wpAny _ _ (call (Value.ref 142) _) _ _ _)); (fail_if_success (with_reducible show wpAny _ _ (exec (Stmt.While _ _ _ _) _) _ _ _)); (fail_if_success (with_reducible show wpAny _ _ (exec (Stmt.For _ _ _ _ _) _) _ _ _)); (fail_if_success (with_reducible show wpAny _ _ (pyIter _) _ _ _)); first | (k_unfold; (try dsimp only)) | (k_end; wrow_close) | walk1 | (dsimp only; walk1) | (leave1; walk_say "STEP leave1"; try dsimp only) | fail "no step"))
local macro_rules | `(tactic| walk_at "idle line") => `(tactic| skip)
local macro_rules | `(tactic| walk_at "idle line") => `(tactic| skip)
local macro_rules | `(tactic| walk_at "idle line") => `(tactic| skip)
local macro_rules | `(tactic| walk_at "idle line") => `(tactic| skip)
local macro_rules | `(tactic| walk_at "idle line") => `(tactic| skip)
local macro_rules | `(tactic| walk_at "idle line") => `(tactic| skip)
local macro_rules | `(tactic| walk_at "idle line") => `(tactic| skip)
local macro_rules | `(tactic| walk_at "idle line") => `(tactic| skip)
local macro_rules | `(tactic| walk_at "idle line") => `(tactic| skip)
local macro_rules | `(tactic| walk_at "idle line") => `(tactic| skip)
local macro_rules | `(tactic| walk_at "idle line") => `(tactic| skip)
local macro_rules | `(tactic| walk_at "idle line") => `(tactic| skip)
local macro_rules | `(tactic| walk_at "idle line") => `(tactic| skip)
local macro_rules | `(tactic| walk_at "idle line") => `(tactic| skip)
local macro_rules | `(tactic| walk_at "idle line") => `(tactic| skip)
local macro_rules | `(tactic| walk_at "idle line") => `(tactic| skip)
local macro_rules | `(tactic| walk_at "idle line") => `(tactic| skip)
local macro_rules | `(tactic| walk_at "idle line") => `(tactic| skip)
local macro_rules | `(tactic| walk_at "idle line") => `(tactic| skip)
local macro_rules | `(tactic| walk_at "idle line") => `(tactic| skip)
local macro_rules | `(tactic| walk_at "idle line") => `(tactic| skip)
local macro_rules | `(tactic| walk_at "idle line") => `(tactic| skip)
local macro_rules | `(tactic| walk_at "idle line") => `(tactic| skip)
local macro_rules | `(tactic| walk_at "idle line") => `(tactic| skip)
local macro_rules | `(tactic| walk_at "idle line") => `(tactic| skip)
local macro_rules | `(tactic| walk_at "idle line") => `(tactic| skip)
local macro_rules | `(tactic| walk_at "idle line") => `(tactic| skip)
local macro_rules | `(tactic| walk_at "idle line") => `(tactic| skip)
local macro_rules | `(tactic| walk_at "subscriptTail") => `(tactic| (k_here; (with_reducible show wpAny _ _ (subscriptTail _ _ (Value.ref _) (Value.int _ _)) _ _ _); k_dflt (first
  | (refine' item_nat ?k1 ?k2 ?k3 ?k4 ?k5 ?_; (case k1 => k_asm); (case k2 => assumption); (case k3 => rfl); (case k4 => assumption); (case k5 => omega); k_whole)
  | (refine' item_nat (k := 0) ?k1 ?k2 ?k3 ?k4 ?k5 ?_; (case k1 => k_asm); (case k2 => assumption); (case k3 => rfl); (case k4 => rfl); (case k5 => omega); k_whole)
  | (refine' item_nat (k := 3) ?k1 ?k2 ?k3 ?k4 ?k5 ?_; (case k1 => k_asm); (case k2 => assumption); (case k3 => rfl); (case k4 => rfl); (case k5 => omega); k_whole))))
theorem end_seen {w : World} {mean : ExcName → Option Value} {mg mb : Str → Option Value} {fx tmp : List (Addr × Obj)} {base : Heap} {L fa c : Addr} {cd : Value} {S : Sta} {k p : Nat} {i : Item} {th tp : Tok} {ρ : Str → Option Value} {s : Shared} {Q : Flow → Shared → Prop} {dv : PyData}
    (AM : Amb w mean mg mb base) (B' : Below (topA 350 1400 []) base [] base) (St : LawSt w fx tmp base L (fun y => if y = Str.ofString "place" then some (.int (p : Int) tp) else rmap i.r.x S.hl k th ρ y) S s.heap) (hi : S.its[k]? = some i) (hits : S.its.length < 9999) (hlk : PySem.Spec.lookup (PyData.int p) i.DD = some dv) (hpe : p < i.r.els.length)
    (ret : ∀ r' nu m' h' tk', LawSt w fx tmp base L m' (S.read k i r' nu) h' → r'.els.length = i.r.els.length → r'.kids = i.r.kids → r'.x = i.r.x → (∀ y, m' y = if y = Str.ofString "place" then some (.int (p : Int) tp) else rmap i.r.x S.hl k th ρ y) → Q .next {s with heap := h', toks := tk'}) :
    wpAny (model PRG w) ((topA 350 1400 []).deeper (lenv L fa c cd)) (execs lawSeen (lenv L fa c cd)) Q (fun _ _ => False) s := by
  have X' := AM.X
  have T' := AM.T
  have io := St.I.it k i hi
  obtain ⟨ts, hts⟩ := io.tn p dv hlk
  have hpk : p < i.r.kids.length := by
    rcases Nat.lt_or_ge p i.r.kids.length with q | q
    · exact q
    · rw [List.getElem?_eq_none q] at hts; cases hts
  obtain ⟨j, ij, hj1, hj2⟩ : ∃ (j : Nat) (ij : Item), PySem.Spec.lookup (PyData.int p) i.DD = some (PyData.int j) ∧ S.its[j]? = some ij := by
    obtain ⟨t, ht, P⟩ := io.els p _ (List.getElem?_eq_getElem hpe)
    rw [hts] at ht
    obtain rfl := Option.some.inj ht
    rcases P with ⟨j, ij, h1, h2, _⟩ | ⟨h1, _⟩
    · exact ⟨j, ij, h1, h2⟩
    · rw [hlk] at h1; cases h1
  obtain ⟨ka, kv, n0, hka, hkf, hkl, hkr⟩ := io.kids
  have ioj := St.I.it j ij hj2
  obtain ⟨ka2, kv2, n02, hka2, hkf2, _⟩ := ioj.kids
  obtain ⟨all, hall, _, N, mh, me, _, eat⟩ := St.view hi hka hkf
  have mej : (ij.a.e, W.listOf ([.ref ij.a.x, .ref ka2, .int (ij.a.cnt : Int) ij.a.ct, .ref ij.a.seen] : List Value).toArray ij.a.n) ∈ all := hall ▸ List.mem_append_right _ (List.mem_append_right _ (cell_in hj2 hka2))
  have eatj := ent_at hj2
  have hs1 : (i.a.seen, i.od) ∈ all := hall ▸ List.mem_append_right _ (List.mem_append_right _ (in_led hi _ (List.mem_append_right _ (.tail _ (.head _)))))
  have hs2 := io.dict
  have hs3 := io.flat
  have hs4 := io.mods
  simp only [Row.cells, Row.dict, rowD, List.cons_append, List.nil_append] at N
  have mh := up3 mh N
  have me := up3 me N
  have mej := up3 mej N
  have hs1 := up3 hs1 N
  have hkk : k < 10000 := by
    rcases Nat.lt_or_ge k S.its.length with q | q
    · omega
    · rw [List.getElem?_eq_none q] at hi; cases hi
  have hjj : j < 10000 := by
    rcases Nat.lt_or_ge j S.its.length with q | q
    · omega
    · rw [List.getElem?_eq_none q] at hj2; cases hj2
  have F := St.F
  unfold rmap at F
  (try dsimp only at F)
  show wpAny _ _ (execs (_ :: _) _) _ _ _
  have esc : lawScope = lawScope := rfl
  conv at esc => rhs; whnf
  delta lenv
  rw [esc]
  have B0 := B'
  tb_start
  all_goals (try (rename (Spec.lookup _ _).isSome = false => hno; rw [hj1] at hno; cases hno))
  rename Fr base L _ _ => F₁
  rename News base L _ _ => N₁
  have St1 : LawSt w fx tmp base L _ S _ := ⟨F₁, fun z hz => N₁ z (.tail _ (.tail _ (.tail _ (hall ▸ hz)))), St.I, St.dis⟩
  clear F₁ N₁
  refine wk (d := 450) (u := 1800) (Nat.le_of_ble_eq_true rfl) (Nat.le_of_ble_eq_true rfl) ?_
  refine st_item AM B0 St1 hi rfl rfl hpk fun v r' nu h2 tk2 St2 e1 e2 e3 => ?_
  have hi1 : (S.read k i r' nu).its[k]? = some { i with r := r' } := by rw [its_read hi, if_pos rfl]
  have hkds : r'.kids[p]? = some (.node ts) := by rw [e2]; exact hts
  have io1 := St2.I.it k _ hi1
  have ex : r'.x = i.r.x := by
    have h1 : i.a.x = r'.x := io1.x
    rw [← h1, io.x]
  obtain rfl : v = .ref ij.a.x := by
    obtain ⟨t, ht, P⟩ := io1.els p v e3
    have ht : r'.kids[p]? = some t := ht
    rw [hkds] at ht
    obtain rfl := Option.some.inj ht
    rcases P with ⟨j', ij', h1, h2, h3⟩ | ⟨h1, _⟩
    · have h1 : PySem.Spec.lookup (PyData.int p) i.DD = some (PyData.int j') := h1
      rw [hj1] at h1
      obtain rfl : j = j' := Int.ofNat.inj (PyData.int.inj (Option.some.inj h1))
      rw [h3]
      have x1 := (St2.I.it j ij' h2).x
      rw [its_read hi] at h2
      by_cases q : j = k
      · rw [if_pos q] at h2
        cases h2
        subst q
        rw [hi] at hj2
        cases hj2
        rw [← x1]
      · rw [if_neg q, hj2] at h2
        cases h2
        rw [← x1]
    · have h1 : PySem.Spec.lookup (PyData.int p) i.DD = none := h1
      rw [hj1] at h1; cases h1
  obtain ⟨all2, hall2⟩ : ∃ all, all = tmp ++ (fx ++ (S.read k i r' nu).led w.params) := ⟨_, rfl⟩
  have F := St2.F
  have N : News base L h2 all2 := hall2 ▸ St2.N
  tb_start
  refine ret r' nu _ _ _ St2 ?_ e2 ex fun y => ?_
  · omega
  · rfl
end Mine
end

section
theorem Mine.quietEndC : True := by
  w_top off
  trivial
open PySem PySem.W PySem.Spec PySem.Calls PyProof.Rows
set_option Elab.async false
set_option maxRecDepth 100000
set_option maxHeartbeats 8000000
namespace Mine
/-- a row read to its end, and read on -/
structure Re (k : Nat) (i : Item) (S : Sta) (i' : Item) (S' : Sta) : Prop where
  it : S'.its[k]? = some i'
  a : i'.a = i.a
  od : i'.od = i.od
  kvs : i'.kvs = i.kvs
  DD : i'.DD = i.DD
  x : i'.r.x = i.r.x
  els : i'.r.els.length = i.r.kids.length
  kids : i'.r.kids = i.r.kids
  hl : S'.hl = S.hl
  len : S'.its.length = S.its.length
theorem Re.read {k : Nat} {i i' : Item} {S S' : Sta} {r' : Row} {nu : List Un} (R : Re k i S i' S') (e1 : r'.els.length = i'.r.els.length) (e2 : r'.kids = i'.r.kids) (e3 : r'.x = i'.r.x) : Re k i S { i' with r := r' } (S'.read k i' r' nu) :=
  ⟨by rw [its_read R.it, if_pos rfl], R.a, R.od, R.kvs, R.DD, e3.trans R.x, e1.trans R.els, e2.trans R.kids, R.hl, (List.length_set ..).trans R.len⟩
def Off5 (y : Str) : Prop := y ≠ Str.ofString "h" ∧ y ≠ Str.ofString "row" ∧ y ≠ Str.ofString "_" ∧ y ≠ Str.ofString "came" ∧ y ≠ Str.ofString "place"
theorem filled36 (w : World) (h : Heap) (X : (Mine.hd.heap_39 w.params).In h) : Challenge.rw_sx0040_01 = Challenge.rw_sx0040_01 := by
  revert X; k_fill; intro _; rfl
local macro_rules | `(tactic| tb_start) => `(tactic| repeat' ((fail_if_success (with_reducible show wpAny _ _ (call (Value.ref 149) _) _ _ _)); (fail_if_success (with_reducible show wpAny _ _ (pyIter _) _ _ _)); (fail_if_success (with_reducible show wpAny _ _ (exec (Stmt.While _ _ _ _) _) _ _ _)); (fail_if_success (with_reducible show wpAny _ _ (exec (Stmt.For _ _ _ _ _) _) _ _ _)); (fail_if_success (with_reducible show wpAny _ _ (pyIter _) _ _ _)); first | (k_unfold; (try dsimp only)) | (k_end; wrow_close) | walk1 | (dsimp only; walk1) | (leave1; walk_say "STEP leave1"; try dsimp only) | fail "no step"))
local macro_rules | `(tactic| walk_at "idle line") => `(tactic| skip)
local macro_rules | `(tactic| walk_at "idle line") => `(tactic| skip)
local macro_rules | `(tactic| walk_at "idle line") => `(tactic| skip)
local macro_rules | `(tactic| walk_at "idle line") => `(tactic| skip)
local macro_rules | `(tactic| walk_at "idle line") => `(tactic| skip)
local macro_rules | `(tactic| walk_at "idle line") => `(tactic| skip)
local macro_rules | `(tactic| walk_at "idle line") => `(tactic| skip)
local macro_rules | `(tactic| walk_at "idle line") => `(tactic| skip)
local macro_rules | `(tactic| walk_at "idle line") => `(tactic| skip)
local macro_rules | `(tactic| walk_at "idle line") => `(tactic| skip)
local macro_rules | `(tactic| walk_at "idle line") => `(tactic| skip)
local macro_rules | `(tactic| walk_at "idle line") => `(tactic| skip)
local macro_rules | `(tactic| walk_at "idle line") => `(tactic| skip)
local macro_rules | `(tactic| walk_at "idle line") => `(tactic| skip)
local macro_rules | `(tactic| walk_at "idle line") => `(tactic| skip)
local macro_rules | `(tactic| walk_at "idle line") => `(tactic| skip)
local macro_rules | `(tactic| walk_at "idle line") => `(tactic| skip)
local macro_rules | `(tactic| walk_at "idle line") => `(tactic| skip)
local macro_rules | `(tactic| walk_at "idle line") => `(tactic| skip)
local macro_rules | `(tactic| walk_at "idle line") => `(tactic| skip)
local macro_rules | `(tactic| walk_at "idle line") => `(tactic| skip)
local macro_rules | `(tactic| walk_at "idle line") => `(tactic| skip)
local macro_rules | `(tactic| walk_at "idle line") => `(tactic| skip)
local macro_rules | `(tactic| walk_at "idle line") => `(tactic| skip)
local macro_rules | `(tactic| walk_at "idle line") => `(tactic| skip)
local macro_rules | `(tactic| walk_at "idle line") => `(tactic| skip)
local macro_rules | `(tactic| walk_at "idle line") => `(tactic| skip)
local macro_rules | `(tactic| walk_at "idle line") => `(tactic| skip)
local macro_rules | `(tactic| walk_at "subscriptTail") => `(tactic| (k_here; (with_reducible show wpAny _ _ (subscriptTail _ _ (Value.ref _) (Value.int _ _)) _ _ _); k_dflt (first
  | (refine' item_nat ?k1 ?k2 ?k3 ?k4 ?k5 ?_; (case k1 => k_asm); (case k2 => assumption); (case k3 => rfl); (case k4 => assumption); (case k5 => omega); k_whole)
  | (refine' item_nat (k := 0) ?k1 ?k2 ?k3 ?k4 ?k5 ?_; (case k1 => k_asm); (case k2 => assumption); (case k3 => rfl); (case k4 => rfl); (case k5 => omega); k_whole)
  | (refine' item_nat (k := 1) ?k1 ?k2 ?k3 ?k4 ?k5 ?_; (case k1 => k_asm); (case k2 => assumption); (case k3 => rfl); (case k4 => rfl); (case k5 => omega); k_whole)
  | (refine' item_nat (k := 3) ?k1 ?k2 ?k3 ?k4 ?k5 ?_; (case k1 => k_asm); (case k2 => assumption); (case k3 => rfl); (case k4 => rfl); (case k5 => omega); k_whole))))
local macro_rules | `(tactic| walk_at "call builtin:len") => `(tactic| (k_here; (with_reducible show wpAny _ _ (call (Value.builtin _) [Value.ref _]) _ _ _); k_dflt (refine' len_L ?k1 ?k2 ?k3 ?_; (case k1 => k_asm); (case k2 => assumption); (case k3 => assumption); k_whole)))
theorem end_turn {w : World} {mean : ExcName → Option Value} {mg mb : Str → Option Value} {fx tmp : List (Addr × Obj)} {base : Heap} {L fa c : Addr} {cd : Value} {S : Sta} {k : Nat} {th : Tok} {ρ : Str → Option Value} {s : Shared} {Q : Flow → Shared → Prop}
    (AM : Amb w mean mg mb base) (B' : Below (topA 350 1400 []) base [] base) (St : LawSt w fx tmp base L (fun y => if y = Str.ofString "h" then some (.int (k : Int) th) else if y = Str.ofString "held" then some (.ref S.hl) else ρ y) S s.heap) (hk : k < S.its.length) (hits : S.its.length < 9999)
    (ret : ∀ S' m' h' tk', LawSt w fx tmp base L m' S' h' → S'.its.length = S.its.length → S'.hl = S.hl → (∀ y, Off5 y → m' y = if y = Str.ofString "held" then some (.ref S.hl) else ρ y) → Q .next {s with heap := h', toks := tk'}) :
    wpAny (model PRG w) ((topA 350 1400 []).deeper (lenv L fa c cd)) (execs lawEnd (lenv L fa c cd)) Q (fun _ _ => False) s := by
  have X' := AM.X
  have T' := AM.T
  obtain ⟨i, hi⟩ : ∃ i, S.its[k]? = some i := ⟨_, List.getElem?_eq_getElem hk⟩
  have io := St.I.it k i hi
  obtain ⟨ka, kv, n0, hka, hkf, hkl, hkr⟩ := io.kids
  obtain ⟨all, hall, _, N, mh, me, mk, eat⟩ := St.view hi hka hkf
  rw [io.x] at me
  have hsm := io.small
  have hkl2 : kv.length < 2 ^ 62 := by omega
  simp only [Row.cells, Row.dict, rowD, List.cons_append, List.nil_append] at N
  have mh := up3 mh N
  have me := up3 me N
  have mk := up3 mk N
  have F := St.F
  show wpAny _ _ (execs (_ :: _) _) _ _ _
  have esc : lawScope = lawScope := rfl
  conv at esc => rhs; whnf
  delta lenv
  rw [esc]
  have B0 := B'
  tb_start
  rename Fr base L _ _ => F₁
  rename News base L _ _ => N₁
  have St1 : LawSt w fx tmp base L _ S _ := ⟨F₁, fun z hz => N₁ z (.tail _ (.tail _ (.tail _ (hall ▸ hz)))), St.I, St.dis⟩
  clear F₁ N₁
  refine wk (d := 450) (u := 1800) (Nat.le_of_ble_eq_true rfl) (Nat.le_of_ble_eq_true rfl) ?_
  refine st_len AM B0 St1 hi rfl rfl fun r' nu tl h1 tk1 St2 e1 e2 => ?_
  show W.LenBack _ _ _
  dsimp only [W.LenBack]
  refine ⟨⟨by omega, by omega⟩, ?_⟩
  have hi1 : (S.read k i r' nu).its[k]? = some { i with r := r' } := by rw [its_read hi, if_pos rfl]
  have ex : r'.x = i.r.x := by
    have h1 : i.a.x = r'.x := (St2.I.it k _ hi1).x
    rw [← h1, io.x]
  have R2 : Re k i S { i with r := r' } (S.read k i r' nu) := ⟨hi1, rfl, rfl, rfl, rfl, ex, e1, e2, rfl, List.length_set ..⟩
  clear mh me mk eat
  obtain ⟨all2, hall2, N, N9, mh, me, mk, eat⟩ := St2.view hi1 hka hkf
  clear N9
  have me : (i.a.e, W.listOf ([.ref i.a.x, .ref ka, .int (i.a.cnt : Int) i.a.ct, .ref i.a.seen] : List Value).toArray i.a.n) ∈ all2 := me
  have eat : _ = some (Value.ref i.a.e) := eat
  have F := St2.F
  tb_start
  all_goals (try (exfalso; omega))
  refine wpAny_For ?_
  tb_start
  rename Fr base L _ _ => F₃
  rename News base L _ _ => N₃
  refine for_range (n := 2) (j := 2) rfl (by assumption) (by decide) (fun _ m news => ∃ i' S', news = tmp ++ (fx ++ S'.led w.params) ∧ Inv w fx S' ∧ (∀ z ∈ tmp, ∀ y ∈ fx ++ S'.led w.params, z.1 ≠ y.1) ∧ Re k i S i' S' ∧ (m (Str.ofString "row") = some (.ref i.r.x) ∧ m (Str.ofString "held") = some (.ref S.hl) ∧ m (Str.ofString "h") = some (.int (k : Int) th)) ∧ ∀ y, Off5 y → m y = if y = Str.ofString "held" then some (.ref S.hl) else ρ y) F₃ (hall2 ▸ N₃) ?_ PassesOwn.never rfl rfl rfl rfl ?_ ?_
  · refine ⟨_, _, rfl, St2.I, St2.dis, R2, ⟨rfl, rfl, rfl⟩, fun y hy => ?_⟩
    rw [if_neg hy.2.1, if_neg hy.1]
  · rintro c1 m1 news h2 tk2 I oI ti hc ⟨i', S', rfl, I1, d1, R1, ⟨f1, f2, f3⟩, f4⟩ F2 N2 dis
    clear F₃ N₃
    obtain ⟨mm, hmm⟩ : ∃ mm : Str → Option Value, mm = fun y => if y = Str.ofString "_" then some (.int (c1 : Int) ti) else m1 y := ⟨_, rfl⟩
    rw [← hmm] at F2
    have g1 : mm (Str.ofString "row") = some (.ref i'.r.x) := by
      rw [hmm]
      show (if _ then _ else _) = _
      rw [if_neg (by decide), R1.x]; exact f1
    have g2 : mm (Str.ofString "held") = some (.ref S'.hl) := by
      rw [hmm]
      show (if _ then _ else _) = _
      rw [if_neg (by decide), R1.hl]; exact f2
    have g3 : mm (Str.ofString "h") = some (.int (k : Int) th) := by
      rw [hmm]
      show (if _ then _ else _) = _
      rw [if_neg (by decide)]; exact f3
    have St3 : LawSt w fx ((I, oI) :: tmp) base L (rmap i'.r.x S'.hl k th mm) S' h2 := ⟨Mine.Fr.congr F2 fun y => by
      dsimp only [rmap]
      rw [← ovr g3 y, ← ovr g2 y, ← ovr g1 y], fun z hz => N2 z (by simpa using hz), I1, fun z hz y hy => by
        rcases List.mem_cons.mp hz with rfl | hz
        · exact fun e => dis y (List.mem_append_right _ hy) e.symm
        · exact d1 z hz y hy⟩
    refine' end_twice AM B0 St3 R1.it (by rw [R1.els, R1.kids]) ?rt
    case rt =>
      intro r'' nu' m' h' tk' St4 u1 u2 u3 g4
      refine ⟨m', tmp ++ (fx ++ (S'.read k i' r'' nu').led w.params), h', tk', rfl, St4.F, fun z hz => St4.N z (by simpa using hz), fun z hz e => ?_, _, _, rfl, St4.I, fun z hz => St4.dis z (.tail _ hz), R1.read (by rw [u1]) u2 u3, ⟨?_, ?_, ?_⟩, fun y hy => ?_⟩
      · rcases List.mem_append.mp hz with hz | hz
        · exact dis z (List.mem_append_left _ hz) e
        · exact St4.dis (I, oI) (.head _) z hz e.symm
      · rw [g4 _ (by decide), ← R1.x]; rfl
      · rw [g4 _ (by decide), ← R1.hl]; rfl
      · rw [g4 _ (by decide)]; rfl
      · rw [g4 y hy.2.2.2.1]
        dsimp only [rmap]
        rw [if_neg hy.2.1]
        by_cases q : y = Str.ofString "held"
        · rw [if_pos q, if_pos q, R1.hl]
        · rw [if_neg q, if_neg hy.1, hmm]
          dsimp only
          rw [if_neg hy.2.2.1, f4 y hy, if_neg q]
  · rintro m1 news h2 tk2 ⟨i', S', rfl, I1, d1, R1, ⟨f1, f2, f3⟩, f4⟩ F2 N2
    clear F₃ N₃
    have hka' : i'.a.kids = .ref ka := by rw [R1.a]; exact hka
    have St5 : LawSt w fx tmp base L (rmap i.r.x S.hl k th m1) S' h2 := ⟨Mine.Fr.congr F2 fun y => by
      dsimp only [rmap]
      rw [← ovr f3 y, ← ovr f2 y, ← ovr f1 y], N2, I1, d1⟩
    clear mh me mk eat
    obtain ⟨all3, hall3, N, N9, mh, me, mk, eat⟩ := St5.view R1.it hka' hkf
    clear N9
    rw [R1.a] at me eat
    rw [R1.hl] at mh
    have F := St5.F
    unfold rmap at F
    (try dsimp only at F)
    show wpAny _ _ (execs [] _) _ _ _
    tb_start
    refine wpAny_For ?_
    tb_start
    rename Fr base L _ _ => F₃
    rename News base L _ _ => N₃
    refine for_dict (d := i.a.seen) (od := i.od) (kvs := i.kvs) io.mods io.dict (fun _ m news => ∃ i' S', news = tmp ++ (fx ++ S'.led w.params) ∧ Inv w fx S' ∧ (∀ z ∈ tmp, ∀ y ∈ fx ++ S'.led w.params, z.1 ≠ y.1) ∧ Re k i S i' S' ∧ (m (Str.ofString "row") = some (.ref i.r.x) ∧ m (Str.ofString "held") = some (.ref S.hl) ∧ m (Str.ofString "h") = some (.int (k : Int) th)) ∧ ∀ y, Off5 y → m y = if y = Str.ofString "held" then some (.ref S.hl) else ρ y) F₃ (hall3 ▸ N₃) ?_ ?_ PassesOwn.never rfl rfl rfl rfl ?_ ?_
    · refine ⟨i', S', rfl, I1, d1, R1, ⟨rfl, rfl, rfl⟩, fun y hy => ?_⟩
      rw [if_neg hy.2.1]
      by_cases q : y = Str.ofString "held"
      · rw [if_pos q, if_pos q]
      · rw [if_neg q, if_neg hy.1, f4 y hy]
    · rintro _ m2 news ⟨i2, S2, rfl, _, _, R2, _⟩
      have := in_led (P := w.params) R2.it (i2.a.seen, i2.od) (List.mem_append_right _ (.tail _ (.head _)))
      rw [R2.a, R2.od] at this
      exact List.mem_append_right _ (List.mem_append_right _ this)
    · rintro idx m2 news h3 tk3 I oI kk v ti hkv ⟨i2, S2, rfl, I2, d2, R2, ⟨q1, q2, q3⟩, q4⟩ F4 N4 dis
      clear F₃ N₃
      obtain ⟨p, hp1, hp2⟩ := io.keys (kk, v) (List.mem_of_getElem? hkv)
      have hp1 : kk = (p : Int) := hp1
      subst hp1
      have hple := io.ok.le
      obtain ⟨dv, hdv⟩ : ∃ dv, PySem.Spec.lookup (PyData.int p) i.DD = some dv := by
        cases e : PySem.Spec.lookup (PyData.int p) i.DD with
        | some dv => exact ⟨dv, rfl⟩
        | none =>
          have h1 := io.flat.none_of_lookup PyProof.V.same_int e
          have h2 := valueAt_isSome_eq_any i.kvs (p : Int)
          rw [h1] at h2
          have h3 : (i.kvs.any fun kv => kv.1 = (p : Int)) = true := List.any_eq_true.mpr ⟨_, List.mem_of_getElem? hkv, by simp⟩
          rw [h3] at h2; cases h2
      have St6 : LawSt w fx ((I, oI) :: tmp) base L (fun y => if y = Str.ofString "place" then some (.int (p : Int) ti) else rmap i2.r.x S2.hl k th m2 y) S2 h3 := ⟨Mine.Fr.congr F4 fun y => by
        have g1 : m2 (Str.ofString "row") = some (.ref i2.r.x) := by rw [R2.x]; exact q1
        have g2 : m2 (Str.ofString "held") = some (.ref S2.hl) := by rw [R2.hl]; exact q2
        dsimp only [rmap]
        rw [← ovr q3 y, ← ovr g2 y, ← ovr g1 y], fun z hz => N4 z (by simpa using hz), I2, fun z hz y hy => by
          rcases List.mem_cons.mp hz with rfl | hz
          · exact fun e => dis y (List.mem_append_right _ hy) e.symm
          · exact d2 z hz y hy⟩
      refine' end_seen (dv := dv) AM B0 St6 R2.it (by rw [R2.len]; exact hits) (by rw [R2.DD]; exact hdv) (by rw [R2.els]; omega) ?rt
      case rt =>
        intro r'' nu' m' h' tk' St7 g1 g2 g3 g4
        refine ⟨m', tmp ++ (fx ++ (S2.read k i2 r'' nu').led w.params), h', tk', rfl, St7.F, fun z hz => St7.N z (by simpa using hz), fun z hz e => ?_, _, _, rfl, St7.I, fun z hz => St7.dis z (.tail _ hz), R2.read g1 g2 g3, ⟨?_, ?_, ?_⟩, fun y hy => ?_⟩
        · rcases List.mem_append.mp hz with hz | hz
          · exact dis z (List.mem_append_left _ hz) e
          · exact St7.dis (I, oI) (.head _) z hz e.symm
        · rw [g4, ← R2.x]; rfl
        · rw [g4, ← R2.hl]; rfl
        · rw [g4]; rfl
        · rw [g4, if_neg hy.2.2.2.2]
          dsimp only [rmap]
          rw [if_neg hy.2.1]
          by_cases q : y = Str.ofString "held"
          · rw [if_pos q, if_pos q, R2.hl]
          · rw [if_neg q, if_neg hy.1, q4 y hy]
    · rintro m2 news h3 tk3 ⟨i2, S2, rfl, I2, d2, R2, ⟨q1, q2, q3⟩, q4⟩ F4 N4
      clear F₃ N₃
      show wpAny _ _ (execs [] _) _ _ _
      have F := F4
      have N := N4
      tb_start
      rename Fr base L _ _ => F₅
      rename News base L _ _ => N₅
      exact ret S2 m2 _ _ ⟨F₅, N₅, I2, d2⟩ R2.len R2.hl q4
end Mine
end

section
theorem Mine.quietEndD : True := by
  w_top off
  trivial
open PySem PySem.W PySem.Spec PySem.Calls PyProof.Rows
set_option Elab.async false
set_option maxRecDepth 100000
set_option maxHeartbeats 8000000
namespace Mine
theorem filled37 (w : World) (h : Heap) (X : (Mine.hd.heap_39 w.params).In h) : Challenge.rw_sx0040_01 = Challenge.rw_sx0040_01 := by
  revert X; k_fill; intro _; rfl
local macro_rules | `(tactic| tb_start) => `(tactic| repeat' ((fail_if_success (with_reducible show wpAny _ _ (pyIter _) _ _ _)); (fail_if_success (with_reducible show wpAny _ _ (exec (Stmt.While _ _ _ _) _) _ _ _)); (fail_if_success (with_reducible show wpAny _ _ (exec (Stmt.For _ _ _ _ _) _) _ _ _)); (fail_if_success (with_reducible show wpAny _ _ (pyIter _) _ _ _)); first | (k_unfold; (try dsimp only)) | (k_end; wrow_close) | walk1 | (dsimp only; walk1) | (leave1; walk_say "STEP leave1"; try dsimp only) | fail "no step"))
local macro_rules | `(tactic| walk_at "idle line") => `(tactic| skip)
local macro_rules | `(tactic| walk_at "idle line") => `(tactic| skip)
local macro_rules | `(tactic| walk_at "idle line") => `(tactic| skip)
local macro_rules | `(tactic| walk_at "idle line") => `(tactic| skip)
local macro_rules | `(tactic| walk_at "idle line") => `(tactic| skip)
local macro_rules | `(tactic| walk_at "idle line") => `(tactic| skip)
local macro_rules | `(tactic| walk_at "idle line") => `(tactic| skip)
local macro_rules | `(tactic| walk_at "idle line") => `(tactic| skip)
local macro_rules | `(tactic| walk_at "idle line") => `(tactic| skip)
local macro_rules | `(tactic| walk_at "idle line") => `(tactic| skip)
local macro_rules | `(tactic| walk_at "idle line") => `(tactic| skip)
local macro_rules | `(tactic| walk_at "idle line") => `(tactic| skip)
local macro_rules | `(tactic| walk_at "idle line") => `(tactic| skip)
local macro_rules | `(tactic| walk_at "idle line") => `(tactic| skip)
local macro_rules | `(tactic| walk_at "idle line") => `(tactic| skip)
local macro_rules | `(tactic| walk_at "idle line") => `(tactic| skip)
local macro_rules | `(tactic| walk_at "idle line") => `(tactic| skip)
local macro_rules | `(tactic| walk_at "idle line") => `(tactic| skip)
local macro_rules | `(tactic| walk_at "idle line") => `(tactic| skip)
local macro_rules | `(tactic| walk_at "idle line") => `(tactic| skip)
local macro_rules | `(tactic| walk_at "idle line") => `(tactic| skip)
local macro_rules | `(tactic| walk_at "idle line") => `(tactic| skip)
local macro_rules | `(tactic| walk_at "idle line") => `(tactic| skip)
local macro_rules | `(tactic| walk_at "idle line") => `(tactic| skip)
local macro_rules | `(tactic| walk_at "idle line") => `(tactic| skip)
local macro_rules | `(tactic| walk_at "idle line") => `(tactic| skip)
local macro_rules | `(tactic| walk_at "idle line") => `(tactic| skip)
local macro_rules | `(tactic| walk_at "idle line") => `(tactic| skip)
local macro_rules | `(tactic| walk_at "idle line") => `(tactic| skip)
local macro_rules | `(tactic| walk_at "idle line") => `(tactic| skip)
local macro_rules | `(tactic| walk_at "call builtin:len") => `(tactic| (k_here; (with_reducible show wpAny _ _ (call (Value.builtin _) [Value.ref _]) _ _ _); k_dflt (refine' len_L ?k1 ?k2 ?k3 ?_; (case k1 => k_asm); (case k2 => assumption); (case k3 => assumption); k_whole)))
theorem law_p7 {w : World} {mean : ExcName → Option Value} {mg mb : Str → Option Value} {fx : List (Addr × Obj)} {base : Heap} {L fa c : Addr} {cd : Value} {S : Sta} {ρ : Str → Option Value} {s : Shared} {Q : Flow → Shared → Prop}
    (AM : Amb w mean mg mb base) (B' : Below (topA 350 1400 []) base [] base) (St : LawSt w fx [] base L (fun y => if y = Str.ofString "held" then some (.ref S.hl) else ρ y) S s.heap) (hits : S.its.length < 9999)
    (ret : ∀ S' m' h' tk', LawSt w fx [] base L m' S' h' → (∀ y, Off5 y → m' y = if y = Str.ofString "held" then some (.ref S.hl) else ρ y) →
      wpAny (model PRG w) ((topA 350 1400 []).deeper (lenv L fa c cd)) (execs (lawBody.drop 12) (lenv L fa c cd)) Q (fun _ _ => False) {s with heap := h', toks := tk'}) :
    wpAny (model PRG w) ((topA 350 1400 []).deeper (lenv L fa c cd)) (execs (lawBody.drop 11) (lenv L fa c cd)) Q (fun _ _ => False) s := by
  have X' := AM.X
  have T' := AM.T
  obtain ⟨all, hall⟩ : ∃ all, all = [] ++ (fx ++ S.led w.params) := ⟨_, rfl⟩
  obtain ⟨xs, hxs⟩ : ∃ xs, xs = (S.its.map (·.a)).map fun a => Value.ref a.e := ⟨_, rfl⟩
  have hxl : xs.length = S.its.length := by rw [hxs, List.length_map, List.length_map]
  have hlm : xs.length < 2 ^ 62 := by omega
  have mh : (S.hl, W.listOf xs.toArray S.c) ∈ all := by
    rw [hxs, ← held_eq, hall]
    exact List.mem_append_right _ (List.mem_append_right _ (.head _))
  have F := St.F
  have N : News base L s.heap all := hall ▸ St.N
  show wpAny _ _ (execs (_ :: _) _) _ _ _
  have esc : lawScope = lawScope := rfl
  conv at esc => rhs; whnf
  delta lenv
  rw [esc]
  have B0 := B'
  walk1
  refine wpAny_For ?_
  tb_start
  rename Fr base L _ _ => F₃
  rename News base L _ _ => N₃
  refine for_range (n := S.its.length) (j := (xs.length : Int)) (by rw [hxl]) (by assumption) (small_one (by decide) (by decide) (by omega) (by omega)) (fun _ m news => ∃ S', news = [] ++ (fx ++ S'.led w.params) ∧ Inv w fx S' ∧ S'.its.length = S.its.length ∧ S'.hl = S.hl ∧ m (Str.ofString "held") = some (.ref S.hl) ∧ ∀ y, Off5 y → m y = if y = Str.ofString "held" then some (.ref S.hl) else ρ y) F₃ (hall ▸ N₃) ?_ PassesOwn.never rfl rfl rfl rfl ?_ ?_
  · exact ⟨S, rfl, St.I, rfl, rfl, rfl, fun y _ => rfl⟩
  · rintro c1 m1 news h2 tk2 I oI ti hc ⟨S1, rfl, I1, hn1, hl1, f1, f2⟩ F2 N2 dis
    clear F₃ N₃
    have St1 : LawSt w fx [(I, oI)] base L (fun y => if y = Str.ofString "h" then some (.int (c1 : Int) ti) else if y = Str.ofString "held" then some (.ref S1.hl) else m1 y) S1 h2 := ⟨Mine.Fr.congr F2 fun y => by
      have f1 : m1 (Str.ofString "held") = some (.ref S1.hl) := by rw [hl1]; exact f1
      rw [← ovr f1 y], fun z hz => N2 z hz, I1, fun z hz y hy => by
        obtain rfl := List.mem_singleton.mp hz
        exact fun e => dis y hy e.symm⟩
    refine' end_turn AM B0 St1 (by omega) (by omega) ?rt
    case rt =>
      intro S2 m2 h' tk' St2 g1 g2 g3
      refine ⟨m2, [] ++ (fx ++ S2.led w.params), h', tk', rfl, St2.F, fun z hz => St2.N z (by simpa using hz), fun z hz e => St2.dis (I, oI) (.head _) z hz e.symm, S2, rfl, St2.I, g1.trans hn1, g2.trans hl1, ?_, fun y hy => ?_⟩
      · rw [g3 _ ⟨by decide, by decide, by decide, by decide, by decide⟩, if_pos rfl, hl1]
      · rw [g3 y hy]
        by_cases q : y = Str.ofString "held"
        · rw [if_pos q, if_pos q, hl1]
        · rw [if_neg q, f2 y hy]
  · rintro m1 news h2 tk2 ⟨S1, rfl, I1, hn1, hl1, f1, f2⟩ F2 N2
    clear F₃ N₃
    show wpAny _ _ (execs [] _) _ _ _
    have F := F2
    have N := N2
    walk1
    dsimp only
    exact ret S1 m1 _ _ ⟨F2, N2, I1, fun _ h => nomatch h⟩ f2
end Mine
end

section
theorem Mine.quietEndE : True := by
  w_top off
  trivial
open PySem PySem.W PySem.Spec PySem.Calls PyProof.Rows
set_option Elab.async false
set_option maxRecDepth 100000
set_option maxHeartbeats 8000000
namespace Mine
theorem filled38 (w : World) (h : Heap) (X : (Mine.hd.heap_39 w.params).In h) : Challenge.rw_sx0040_01 = Challenge.rw_sx0040_01 := by
  revert X; k_fill; intro _; rfl
local macro_rules | `(tactic| tb_start) => `(tactic| repeat' ((fail_if_success (with_reducible show wpAny _ _ (call (Value.ref 219) _) _ _ _)); (fail_if_success (with_reducible show wpAny _ _ (call (Value.ref 226) _) _ _ _)); (fail_if_success (with_reducible show wpAny _ _ (call (Value.ref 106) _) _ _ _)); (fail_if_success (with_reducible show wpAny _ _ (pyIter _) _ _ _)); (fail_if_success (with_reducible show wpAny _ _ (exec (Stmt.While _ _ _ _) _) _ _ _)); (fail_if_success (with_reducible show wpAny _ _ (exec (Stmt.For _ _ _ _ _) _) _ _ _)); (fail_if_success (with_reducible show wpAny _ _ (pyIter _) _ _ _)); first | (k_unfold; (try dsimp only)) | (k_end; wrow_close) | walk1 | (dsimp only; walk1) | (leave1; walk_say "STEP leave1"; try dsimp only) | fail "no step"))
theorem law_p8 {w : World} {mean : ExcName → Option Value} {mg mb : Str → Option Value} {all : List (Addr × Obj)} {base : Heap} {L fa c nl : Addr} {cd : Value} {ρ : Str → Option Value} {s : Shared} {Q : Flow → Shared → Prop} {ns : List Nat} {kv : List Value} {kc : Nat}
    (AM : Amb w mean mg mb base) (B' : Below (topA 350 1400 []) base [] base) (F : Fr base L s.heap (fun y => if y = Str.ofString "numbers" then some (.ref nl) else ρ y)) (N : News base L s.heap all)
    (hm : (nl, W.listOf kv.toArray kc) ∈ all) (hlen : kv.length = ns.length) (hval : ∀ (j x : Nat), ns[j]? = some x → ∃ t, kv[j]? = some (.int (x : Int) t)) (hb : ∀ x ∈ ns, x < 1000)
    (ret : ∀ m' h' tk', Fr base L h' m' → Q (.ret (.bool true)) {s with heap := h', toks := tk'}) :
    wpAny (model PRG w) ((topA 350 1400 []).deeper (lenv L fa c cd)) (execs (lawBody.drop 12) (lenv L fa c cd)) Q (fun _ _ => False) s := by
  have X' := AM.X
  have T' := AM.T
  show wpAny _ _ (execs (_ :: _) _) _ _ _
  have esc : lawScope = lawScope := rfl
  conv at esc => rhs; whnf
  delta lenv
  rw [esc]
  have B0 := B'
  walk1
  refine wpAny_For ?_
  tb_start
  rename Fr base L _ _ => F₃
  rename News base L _ _ => N₃
  refine for_list (l := nl) (xs := kv) (c := kc) (fun _ m news => news = [(nl, W.listOf kv.toArray kc)]) F₃ (fun z hz => N₃ z (by
    obtain rfl := List.mem_singleton.mp hz
    exact hm)) rfl (fun i m news h => h ▸ .head _) PassesOwn.never rfl rfl rfl rfl ?_ ?_
  · rintro i m1 news h2 tk2 it ito v rfl hv F N hio dis
    clear F₃ N₃
    have hi : i < ns.length := by
      rcases Nat.lt_or_ge i kv.length with z | z
      · omega
      · rw [List.getElem?_eq_none z] at hv; cases hv
    obtain ⟨x, hx⟩ : ∃ x, ns[i]? = some x := ⟨_, List.getElem?_eq_getElem hi⟩
    obtain ⟨tx, htx⟩ := hval i x hx
    rw [htx] at hv
    obtain rfl := (Option.some.inj hv).symm
    have hxb := hb x (List.mem_of_getElem? hx)
    have hdl := @digs_len x (by omega)
    have hsz : (Tr.leaf (digs x)).enc.length < 65536 := by
      have := @leaf_le (digs x) 0 (by omega)
      have e : TB 0 = 60 := rfl
      omega
    tb_start
    rename Fr base L _ _ => F₅
    rename News base L _ _ => N₅
    refine wk_law (d := 700) (u := 3000) ?_
    refine digits_spec AM (pcall B0 F₅ rfl rfl) (by omega) fun t1 h3 tk3 k1 => ?_
    obtain ⟨F, N⟩ := pback F₅ N₅ k1
    clear F₅ N₅
    tb_start
    rename Fr base L _ _ => F₅
    rename News base L _ _ => N₅
    refine wk_law (d := 400) (u := 1600) ?_
    refine code_spec 0 (t := .leaf (digs x)) (Nat.le_refl _) (by decide) (by decide) AM (pcall B0 F₅ rfl rfl) (cells_c B0 F₅ N₅ (fun p hp => hp) rfl rfl) .leaf hsz fun t2 h4 tk4 k2 => ?_
    obtain ⟨F, N⟩ := pback F₅ N₅ k2
    clear F₅ N₅
    tb_start
    rename Fr base L _ _ => F₅
    rename News base L _ _ => N₅
    obtain ⟨be, hbe⟩ := head_of N₅
    subst hbe
    obtain ⟨bd, t0, hbd, ht0⟩ := snd_of (P := w.params) N₅
    subst hbd
    have N₅ : News base L _ ((be, instObj 196 bd) :: (bd, beD w.params t0) :: [(it, ito), (nl, W.listOf kv.toArray kc)]) := ht0 ▸ N₅
    refine wk_law (d := 450) (u := 1800) ?_
    refine decB_sed (n := x) (bd := bd) (t0 := t0) AM (pcall B0 F₅ rfl rfl) (cells_n B0 F₅ N₅ (fun z hz => by
      simp only [List.mem_cons, List.not_mem_nil, or_false] at hz
      rcases hz with rfl | rfl
      · exact .head _
      · exact .tail _ (.head _)) rfl rfl) rfl hsz (by omega) fun t3 h5 tk5 k3 => ?_
    obtain ⟨F, N'⟩ := pback F₅ N₅ k3
    have N : News base L h5 [(it, ito), (nl, W.listOf kv.toArray kc)] := fun z hz => N' z (.tail _ (.tail _ hz))
    clear F₅ N₅ N'
    tb_start
    all_goals (try (rename ((x : Int) ≠ (x : Int)) => ha; exact (ha rfl).elim))
    rename Fr base L _ _ => F₅
    rename News base L _ _ => N₅
    refine wk_law (d := 450) (u := 1800) ?_
    refine decB_none (t := .leaf (digs x)) AM (pcall B0 F₅ rfl rfl) rfl hsz rfl fun t4 h6 tk6 k4 => ?_
    obtain ⟨F, N⟩ := pback F₅ N₅ k4
    clear F₅ N₅
    tb_start
    all_goals (try (rename ((_ != _) = true) => ha; exfalso; simp at ha; done))
    rename Fr base L _ _ => F₅
    rename News base L _ _ => N₅
    refine wk_law (d := 700) (u := 3000) ?_
    refine digits_spec AM (pcall B0 F₅ rfl rfl) (by omega) fun t5 h7 tk7 k5 => ?_
    obtain ⟨F, N⟩ := pback F₅ N₅ k5
    clear F₅ N₅
    tb_start
    all_goals (try (rename ((_ != _) = true) => ha; exfalso; simp [Tr.body] at ha; done))
    rename Fr base L _ _ => F₅
    rename News base L _ _ => N₅
    exact ⟨_, _, _, _, ito, rfl, F₅, N₅, hio, dis, rfl⟩
  · rintro m1 news h2 tk2 rfl F2 N2
    clear F₃ N₃
    show wpAny _ _ (execs [] _) _ _ _
    have F := F2
    have N := N2
    tb_start
    rename Fr base L _ _ => F₅
    exact ret _ _ _ F₅
end Mine
end

section
theorem Mine.quietLawZ : True := by
  w_top off
  trivial
open PySem PySem.W PySem.Spec PySem.Calls PyProof.Rows
set_option Elab.async false
set_option maxRecDepth 100000
set_option maxHeartbeats 8000000
namespace Mine
theorem law_all {w : World} {mean : ExcName → Option Value} {mg mb : Str → Option Value} {base : Heap} {L fa : Addr} {cd : Value} {s : Shared} {Q : Flow → Shared → Prop} {ρ : Str → Option Value} {sl : Addr} {vs : List Value} {zs : List Int} {oc : Obj}
    (AM : Amb w mean mg mb base) (B' : Below (topA 350 1400 []) base [] base) (F : Fr base L s.heap (fun y => if y = Str.ofString "script" then some (.ref sl) else ρ y)) (N : News base L s.heap [(L + 1, oc)]) (hoc : oc.data = .cell none)
    (hL : base.IsList sl vs.toArray) (hI : IntsAre vs zs) (h63 : zs.length ≤ 63)
    (ret : ∀ m' h' tk', Fr base L h' m' → Q (.ret (.bool true)) {s with heap := h', toks := tk'}) :
    wpAny (model PRG w) ((topA 350 1400 []).deeper (lenv L fa (L + 1) cd)) (execs lawBody (lenv L fa (L + 1) cd)) Q (fun _ _ => False) s := by
  refine law_p1 AM B' F N hoc hL hI h63 fun h1 tk1 ts tl tv ro vc F1 N1 nd1 hrep hlen hpl hht hsz => ?_
  refine law_p2 AM B' F1 N1 hL hI h63 fun h2 tk2 nl ns kv kc F2 N2 hne hkl hval hb h4 => ?_
  have ndf : ((((nl, W.listOf kv.toArray kc) :: (tl, W.listOf tv.toArray vc) :: ro).map (·.1))).Nodup := by
    rw [List.map_cons, List.nodup_cons]
    refine ⟨fun q => ?_, nd1⟩
    obtain ⟨z, hz, e⟩ := List.mem_map.mp q
    exact hne z hz e
  refine law_p3 (ρ := fun y => if y = Str.ofString "script" then some (.ref sl) else ρ y) AM B' F2 N2 ndf (.tail _ (.head _)) hlen (hrep.mono fun z hz => .tail _ hz) hpl hht hsz fun h3 tk3 S3 tc1 St3 hct3 h3l => ?_
  obtain ⟨m3, hm3⟩ : ∃ m3 : Str → Option Value, m3 = (fun y => if y = Str.ofString "held" then some (.ref S3.hl) else if y = Str.ofString "code" then some (.bytes (Tr.node ts).enc.toArray tc1) else if y = Str.ofString "numbers" then some (.ref nl) else if y = Str.ofString "tree" then some (.ref tl) else if y = Str.ofString "script" then some (.ref sl) else ρ y) := ⟨_, rfl⟩
  have St3 : LawSt w _ [] base L m3 S3 h3 := hm3 ▸ St3
  have a1 : m3 (Str.ofString "held") = some (.ref S3.hl) := by rw [hm3]; rfl
  have a2 : m3 (Str.ofString "code") = some (.bytes (Tr.node ts).enc.toArray tc1) := by rw [hm3]; rfl
  have a3 : m3 (Str.ofString "numbers") = some (.ref nl) := by rw [hm3]; rfl
  have a4 : m3 (Str.ofString "tree") = some (.ref tl) := by rw [hm3]; rfl
  have a5 : m3 (Str.ofString "script") = some (.ref sl) := by rw [hm3]; rfl
  clear hm3
  refine law_p4 (ns := ns) (ρ := m3) AM B' (Mine.Fr.congr St3.F fun y => ovr a3 y) St3.N (List.mem_append_right _ (List.mem_append_left _ (.head _))) hkl hval hb h4 fun h4' tk4 td te F4 N4 => ?_
  have F4' : Fr base L h4' (fun y => if y = Str.ofString "digits" then some (.bytes (Tr.node (ns.map fun n => Tr.leaf (digs n))).enc.toArray td) else if y = Str.ofString "numbers" then some (.ref nl) else if y = Str.ofString "held" then some (.ref S3.hl) else if y = Str.ofString "deeper" then some (.bytes (Tr.node [Tr.node (ns.map fun n => Tr.leaf (digs n))]).enc.toArray te) else m3 y) := Mine.Fr.congr F4 fun y => by
    by_cases q1 : y = Str.ofString "deeper"
    · subst q1; rfl
    · rw [if_neg q1]
      by_cases q2 : y = Str.ofString "digits"
      · rw [if_pos q2, if_pos q2]
      · rw [if_neg q2, if_neg q2]
        by_cases q3 : y = Str.ofString "numbers"
        · rw [if_pos q3, if_pos q3]
        · rw [if_neg q3, if_neg q3]
          by_cases q4 : y = Str.ofString "held"
          · rw [if_pos q4, q4, a1]
          · rw [if_neg q4]
            by_cases q5 : y = Str.ofString "deeper"
            · exact absurd q5 q1
            · rw [if_neg q5]
  refine law_p5 (ns := ns) AM B' ⟨F4', N4, St3.I, St3.dis⟩ (.head _) hkl hval hb h4 hct3 h3l fun h5 tk5 S5 f2 i2 St5 h5l hct5 hi2 hk2 => ?_
  have up : ∀ z ∈ ((nl, W.listOf kv.toArray kc) :: (tl, W.listOf tv.toArray vc) :: ro), z ∈ f2 ++ ((nl, W.listOf kv.toArray kc) :: (tl, W.listOf tv.toArray vc) :: ro) := fun z hz => List.mem_append_right _ hz
  have LF : LawFix (f2 ++ ((nl, W.listOf kv.toArray kc) :: (tl, W.listOf tv.toArray vc) :: ro)) ts ns nl tl kv kc tv vc (Tr.node ts).enc (Tr.node (ns.map fun n => Tr.leaf (digs n))).enc (Tr.node [.node (ns.map fun n => Tr.leaf (digs n))]).enc :=
    ⟨hrep.mono fun z hz => up z (.tail _ hz), up _ (.tail _ (.head _)), hlen, hpl, rfl, hsz, up _ (.head _), hkl, hval, hb, h4, rfl, by have := leaves_sz hb h4; omega, rfl, by have := deep_sz hb h4; omega⟩
  refine law_p6 (tc1 := tc1) (td := td) (te := te) (sl := sl) AM B' St5 LF ⟨rfl, rfl, rfl, rfl, ?_, ?_⟩ ?_ hL hI h63 hct5 h5l hi2 hk2 fun h6 tk6 S6 m6 St6 six6 hct6 h6l => ?_
  · exact a4
  · exact a2
  · exact a5
  obtain ⟨x1, x2, x3, x4, x5, x6⟩ := six6
  refine law_p7 (ρ := m6) AM B' ⟨Mine.Fr.congr St6.F fun y => ovr x1 y, St6.N, St6.I, St6.dis⟩ h6l fun S7 m7 h7 tk7 St7 g7 => ?_
  have b1 : m7 (Str.ofString "numbers") = some (.ref nl) := by
    rw [g7 _ ⟨by decide, by decide, by decide, by decide, by decide⟩, if_neg (by decide)]; exact x2
  exact law_p8 (ns := ns) (ρ := m7) AM B' (Mine.Fr.congr St7.F fun y => ovr b1 y) St7.N (List.mem_append_right _ (List.mem_append_left _ (up _ (.head _)))) hkl hval hb fun m' h' tk' F' => ret m' h' tk' F'
theorem wk_caller {M : Model} {env : Env} {α : Type} {t : Sem α} {Q : α → Shared → Prop} {E : Value → Shared → Prop} {s : Shared} (h : wpAny M ((topA 350 1400 []).deeper env) t Q E s) : wpAny M (callerA.deeper env) t Q E s := wk (d := 351) (u := 1403) (d' := 302) (u' := 7) (by decide) (by decide) h
end Mine
end

theorem Mine.quiet : True := by
  w_top off
  trivial
open PySem PySem.W PySem.Spec PySem.Calls PyProof.Rows
set_option Elab.async false
set_option maxRecDepth 100000
set_option maxHeartbeats 8000000
theorem PySem.Challenge.cw_sx0040_01_holds : PySem.Challenge.rw_sx0040_01.Holds := by
  refine Mine.hd ?_
  k_go0
  all_goals try k_fold
  refine wpAny_noRaise ?_
  show wpAny _ (callerA.deeper (Mine.lenv _ _ (_ + 1) _)) (execs Mine.lawBody (Mine.lenv _ _ (_ + 1) _)) _ _ _
  refine Mine.wk_caller ?_
  rename IntsAre _ _ => hI
  rename News _ _ _ _ => N₁
  rename Fr _ _ _ _ => F₁
  rename Below callerA _ _ _ => K₁
  rename Heap.IsList _ _ _ => hL
  refine Mine.law_all ⟨by assumption, by assumption⟩ (Mine.below_wk K₁) (Mine.Fr.congr F₁ fun y => Mine.ovr (x := Str.ofString "script") rfl y) N₁ (by assumption) hL hI (by omega) fun m' h' tk' F' => ?_
  k_end; wrow_close
