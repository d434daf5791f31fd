import PyProof.Rows.All
import Wide.All
import OpenK.AllK
import KE.LcSums
import KE.KDictIter
import KE.KOwnIter
import Wide.FinOn
import PySem.Challenge.RW_vk0009_01
open PySem PySem.W PyProof.Rows
set_option Elab.async false
set_option maxRecDepth 100000
set_option maxHeartbeats 8000000
set_option pp.deepTerms false
set_option pp.deepTerms.threshold 12
set_option linter.unusedVariables false
-- part H1
namespace Mine
open_top hd for PySem.Challenge.rw_vk0009_01
end Mine
namespace Mine
theorem fresh_H1 : True := by
  w_top off
  trivial
end Mine
open PySem.Calls PySem.Spec
-- part B0
namespace Mine

/-- the frame at hand: its top, its outer frames -/
structure Here (w : World) (A : Around) (h₀ : Heap) (L : Addr) : Prop where
  ex : ∃ (A₀ : Around) (base : Heap) (outer : List Env) (env : Env) (p : Program) (loose : List Str) (mean : ExcName → Option Value) (mg mb : Str → Option Value),
    Below A₀ base outer h₀ ∧ Top p loose mean mg mb h₀ ∧ A.frames = some (env :: outer) ∧ env.frame = some L ∧ env.scope.kind = .function
  inK : (hd.heap_39 w.params).In h₀
  handled : A.handled = none

theorem Here.in1 {w : World} {A : Around} {h₀ : Heap} {L : Addr} (H : Here w A h₀ L) : Here w A.in1 h₀ L := ⟨H.ex, H.inK, H.handled⟩
theorem Here.of_frames {w : World} {A A' : Around} {h₀ : Heap} {L : Addr} (H : Here w A h₀ L) (e : A'.frames = A.frames) (e2 : A'.handled = A.handled) : Here w A' h₀ L :=
  ⟨let ⟨a, b, c, d, p, l, me, mg, mb, x, y, z, r⟩ := H.ex; ⟨a, b, c, d, p, l, me, mg, mb, x, y, e.trans z, r⟩, H.inK, e2.trans H.handled⟩
theorem Here.deeper {w : World} {A : Around} {g base : Heap} {L' : Addr} {env₁ env : Env} {outer : List Env} {p : Program} {loose : List Str} {mean : ExcName → Option Value} {mg mb : Str → Option Value}
    (hA : A.frames = some (env :: outer)) (B : Below A base (env :: outer) g) (T : Top p loose mean mg mb g) (X : (hd.heap_39 w.params).In g) (hh : A.handled = none) (hf : env₁.frame = some L') (hk : env₁.scope.kind = .function) :
    Here w (A.deeper env₁) g L' :=
  ⟨⟨A, base, env :: outer, env₁, p, loose, mean, mg, mb, B, T, Around.frames_deeper hA, hf, hk⟩, X, hh⟩
theorem Here.noLimit {w : World} {A : Around} {h₀ : Heap} {L : Addr} (H : Here w A h₀ L) : h₀.NoLimit := let ⟨_, _, _, _, _, _, _, _, _, _, T, _⟩ := H.ex; T.nolimit

/-- all but the addresses in S stays -/
def Kept (S : List Addr) (h h' : Heap) : Prop := ∀ b o, b ∉ S → h.get? b = some o → h'.get? b = some o
theorem Kept.refl (S : List Addr) (h : Heap) : Kept S h h := fun _ _ _ e => e
theorem Kept.trans {S : List Addr} {h h' h'' : Heap} (x : Kept S h h') (y : Kept S h' h'') : Kept S h h'' := fun b o n e => y b o n (x b o n e)
theorem Kept.mono {S S' : List Addr} {h h' : Heap} (x : Kept S h h') (hs : ∀ b ∈ S, b ∈ S') : Kept S' h h' := fun b o n e => x b o (fun q => n (hs b q)) e
theorem Kept.sameBut {a : Addr} {h h' : Heap} (hs : Heap.SameBut a h h') : Kept [a] h h' := fun b _ n e => (hs.2 b fun q => n (q ▸ .head _)).trans e
theorem Kept.push (S : List Addr) (h : Heap) (o : Obj) : Kept S h (h.push o) := fun _ _ _ e => Heap.get?_push_of_some _ e
theorem Kept.of_extBut {a : Addr} {h h' : Heap} (hs : Heap.ExtBut a h h') : Kept [a] h h' := fun b o n e => hs b o (fun q => n (q ▸ .head _)) e

theorem Fr.kept {h₀ h h' : Heap} {L : Addr} {m : Str → Option Value} {S : List Addr} (F : Fr h₀ L h m) (k : Kept S h h') (hL : L ∉ S) (hS : ∀ b ∈ S, h₀.get? b = none) : Fr h₀ L h' m := by
  obtain ⟨oL, a1, a2, hg, r⟩ := F.ns
  exact ⟨⟨oL, a1, a2, k _ _ hL hg, r⟩, fun b o e => k b o (fun q => by rw [hS b q] at e; cases e) (F.keep b o e), F.above⟩
theorem News.kept {h₀ h h' : Heap} {L : Addr} {news : List (Addr × Obj)} {S : List Addr} (N : News h₀ L h news) (k : Kept S h h') (hn : ∀ p ∈ news, p.1 ∉ S) : News h₀ L h' news :=
  fun p hp => ⟨k _ _ (hn p hp) (N p hp).1, (N p hp).2⟩
theorem News.sub {h₀ h : Heap} {L : Addr} {news news' : List (Addr × Obj)} (N : News h₀ L h news) (hs : ∀ p ∈ news', p ∈ news) : News h₀ L h news' := fun p hp => N p (hs p hp)
theorem News.cons {h₀ h : Heap} {L a : Addr} {o : Obj} {news : List (Addr × Obj)} (N : News h₀ L h news) (ho : h.get? a = some o) (hL : a ≠ L) (hn : h₀.get? a = none) : News h₀ L h ((a, o) :: news) :=
  fun p hp => by 
    rcases List.mem_cons.mp hp with rfl | hp
    · exact ⟨ho, hL, hn⟩
    · exact N p hp

/-- everything that is neither the frame's names nor the base's -/
noncomputable def all (h₀ : Heap) (L : Addr) (h : Heap) : List (Addr × Obj) :=
  (List.range h.objs.size).filterMap fun a => match h.get? a with
    | some o => if a = L then none else match h₀.get? a with
      | none => some (a, o)
      | some _ => none
    | none => none
theorem mem_all {h₀ h : Heap} {L a : Addr} {o : Obj} : (a, o) ∈ all h₀ L h ↔ h.get? a = some o ∧ a ≠ L ∧ h₀.get? a = none := by
  unfold all
  rw [List.mem_filterMap]
  constructor
  · rintro ⟨b, hb, e⟩
    cases hq : h.get? b with
    | none => rw [hq] at e; cases e
    | some ob =>
      simp only [hq] at e
      by_cases hL : b = L
      · rw [if_pos hL] at e; cases e
      · rw [if_neg hL] at e
        cases h0 : h₀.get? b with
        | some _ => rw [h0] at e; cases e
        | none => rw [h0] at e; cases e; exact ⟨hq, hL, h0⟩
  · rintro ⟨ho, hL, h0⟩
    exact ⟨a, List.mem_range.mpr (Heap.lt_size ho), by simp only [ho, if_neg hL, h0]⟩
theorem news_all (h₀ : Heap) (L : Addr) (h : Heap) : News h₀ L h (all h₀ L h) := fun _ hp => mem_all.mp hp
/-- what the walk kept since the heap h was looked at -/
theorem kept_all {h₀ h h' : Heap} {L : Addr} {news : List (Addr × Obj)} {m' : Str → Option Value} (hk : ∀ b o, h₀.get? b = some o → h.get? b = some o) (F' : Fr h₀ L h' m') (N' : News h₀ L h' news) (hn : ∀ p ∈ all h₀ L h, p ∈ news) : Kept [L] h h' := by
  intro b o hb e
  cases q : h₀.get? b with
  | some o' =>
    have := hk b o' q
    rw [e] at this; cases this
    exact F'.keep b o q
  | none => exact (N' (b, o) (hn _ (mem_all.mpr ⟨e, fun z => hb (z ▸ .head _), q⟩))).1
theorem kept_all' {h₀ h h' : Heap} {L : Addr} {m' : Str → Option Value} (hk : ∀ b o, h₀.get? b = some o → h.get? b = some o) (F' : Fr h₀ L h' m') (N' : News h₀ L h' (all h₀ L h)) : Kept [L] h h' := kept_all hk F' N' fun _ h => h

/-- what a def's body must come to -/
def Back (S : List Addr) (h₀ g : Heap) (L' : Addr) (R : Value → Shared → Prop) (v : Value) (s' : Shared) : Prop := ∃ m', Fr g L' s'.heap m' ∧ (Kept S h₀ s'.heap → R v s')
theorem Back.intro {S : List Addr} {h₀ g : Heap} {L' : Addr} {R : Value → Shared → Prop} {v : Value} {s' : Shared} {m' : Str → Option Value} (F : Fr g L' s'.heap m') (h : Kept S h₀ s'.heap → R v s') : Back S h₀ g L' R v s' := ⟨m', F, h⟩
def onRes (R : Value → Shared → Prop) (E : Value → Shared → Prop) (r : Result) (s' : Shared) : Prop := match r with | .ok (.ret v) => R v s' | .ok _ => False | .error e => E e s'

section
variable {w : World} {A : Around} {h₀ : Heap} {L : Addr} {m : Str → Option Value} {s : Shared} {news : List (Addr × Obj)} {R : Value → Shared → Prop} {E : Value → Shared → Prop}
    {name qual : Str} {params : Arguments} {body : List Stmt} {scope : Scope} {dV kV doc pm cdv ct oc : Value} {an od : Option Addr} {osl : Array (Option Value)} {f : Addr} {args : Args} {binds : List (Str × Value)}
theorem back_ret {r : Value} {s' : Shared} {g : Heap} {L' : Addr} (hg : ∀ b o, b ∉ news.map (·.1) → s.heap.get? b = some o → g.get? b = some o) (x : Back (news.map (·.1)) s.heap g L' R r s') : R r s' := by
  obtain ⟨m', F', k⟩ := x
  exact k fun b o n e => F'.keep b o (hg b o n e)
/-- a def is entered, with the objects of `news` open to change -/
theorem enter (H : Here w A h₀ L) (F : Fr h₀ L s.heap m) (N : News h₀ L s.heap news)
    (ho : (hd.heap_39 w.params).lookup f = some ⟨oc, od, .func (fnOf name qual params body scope dV kV doc pm an cdv ct), osl⟩) (hcd : codeIn (hd.heap_39 w.params) cdv qual = true) (hroom : A.depth < recursionLimit)
    (hbind : BindsTo s (fnOf name qual params body scope dV kV doc pm an cdv ct) args binds) (hloc : ∀ y ∈ binds, scope.names.lookup y.1 = some .local)
    (h : ∀ g L' h₁, Here w (A.deeper (envX qual scope L' f cdv [])) g L' → Fr g L' h₁ (fun y => binds.reverse.lookup y) → News g L' h₁ news →
      (∀ b o, b ∉ news.map (·.1) → s.heap.get? b = some o → g.get? b = some o) → (∀ b o, g.get? b = some o → s.heap.get? b = some o) → s.heap.objs.size ≤ L' →
      wpAny (model PySem.Challenge.rw_vk0009_01.row.prog w) (A.deeper (envX qual scope L' f cdv [])) (execs body (envX qual scope L' f cdv []))
        (fun fl s' => Back (news.map (·.1)) s.heap g L' R (match fl with | .ret v => v | _ => .none) s')
        (fun e s' => wpAny (model PySem.Challenge.rw_vk0009_01.row.prog w) (A.deeper (envX qual scope L' f cdv [])) (leaving (envX qual scope L' f cdv []) e) (fun _ s'' => E e s'') (fun e' s'' => E e' s'') s')
        { s with heap := h₁, toks := s.toks + binds.length })
    (hcell : ∀ x ∈ scope.names, x.2 ≠ .cell)
    (hco : scope.isCoroutine = false) (hgen : scope.isGenerator = false) (hk : scope.kind = .function) : codeAny (model PySem.Challenge.rw_vk0009_01.row.prog w) A (.call (.ref f) args) (onRes R E) s := by
  obtain ⟨⟨A₀, base, outer, env, p, loose, mean, mg, mb, B, T, hA, hf, hke⟩, X₀, hh⟩ := H
  obtain ⟨FG, BG, st, lv⟩ := groundX (R := fun _ _ => True) B F N hA hf hke
  have TG : Top p loose mean mg mb (hideAll s.heap (news.map fun x => x.1)) := T.keeps st
  have XG : (hd.heap_39 w.params).In (hideAll s.heap (news.map fun x => x.1)) := X₀.keeps st
  have hg : ∀ b o, b ∉ news.map (·.1) → s.heap.get? b = some o → (hideAll s.heap (news.map (·.1))).get? b = some o := fun b o n e => hideAll_get _ e n
  refine codeAny_call_def (fd := fnX name qual params body scope [] dV kV doc pm an cdv ct) (body := body) (binds := binds) hroom ((X₀.keeps F.keep) _ _ ho) rfl (T.nolimit.keeps F.keep) (codeRec_of (X₀.keeps F.keep) hcd) rfl hbind hcell hloc (fun h₁ hns hk₁ => ?_) hco hgen hk
  refine wpAny_mono (h (hideAll s.heap (news.map (·.1))) s.heap.objs.size h₁ (Here.deeper hA BG TG XG hh rfl hk) ⟨hns, fun b o e => hk₁ b o (of_hideAll _ e), Nat.le_of_eq (hideAll_size _ _)⟩
    (fun p hp => ⟨hk₁ _ _ (N p hp).1, Nat.ne_of_lt (Heap.lt_size (N p hp).1), hideAll_none _ (List.mem_map_of_mem hp)⟩) hg (fun b o e => of_hideAll _ e) (Nat.le_refl _)) (fun fl s' hl => back_ret hg hl) fun _ _ y => y
/-- .. with names that a block inside keeps -/
theorem enterC (H : Here w A h₀ L) (F : Fr h₀ L s.heap m) (N : News h₀ L s.heap news)
    (ho : (hd.heap_39 w.params).lookup f = some ⟨oc, od, .func (fnOf name qual params body scope dV kV doc pm an cdv ct), osl⟩) (hcd : codeIn (hd.heap_39 w.params) cdv qual = true) (hroom : A.depth < recursionLimit)
    (hbind : BindsTo s (fnOf name qual params body scope dV kV doc pm an cdv ct) args binds) (hkind : (binds.all fun y => scope.names.lookup y.1 == some .local || scope.names.lookup y.1 == some .cell) = true)
    (hnd : ((cellsFrom 0 scope.names []).map (·.1)).Nodup)
    (h : ∀ g L' h₁ tk cells, Here w (A.deeper (envOfC qual scope L' f cdv)) g L' → Fr g L' h₁ (bindL (envOfC qual scope L' f cdv).kindOf binds fun _ => none) → News g L' h₁ (cells ++ news) →
      CellsAre (bindC (envOfC qual scope L' f cdv).kindOf binds fun _ => none) (cellsFrom (L' + 1) scope.names []) cells →
      (∀ b o, b ∉ news.map (·.1) → s.heap.get? b = some o → g.get? b = some o) → (∀ b o, g.get? b = some o → s.heap.get? b = some o) → s.heap.objs.size ≤ L' → (∀ p ∈ news, p.1 < L') →
      wpAny (model PySem.Challenge.rw_vk0009_01.row.prog w) (A.deeper (envOfC qual scope L' f cdv)) (execs body (envOfC qual scope L' f cdv))
        (fun fl s' => Back (news.map (·.1)) s.heap g L' R (match fl with | .ret v => v | _ => .none) s')
        (fun e s' => wpAny (model PySem.Challenge.rw_vk0009_01.row.prog w) (A.deeper (envOfC qual scope L' f cdv)) (leaving (envOfC qual scope L' f cdv) e) (fun _ s'' => E e s'') (fun e' s'' => E e' s'') s')
        { s with heap := h₁, toks := tk })
    (hco : scope.isCoroutine = false) (hgen : scope.isGenerator = false) (hk : scope.kind = .function) : codeAny (model PySem.Challenge.rw_vk0009_01.row.prog w) A (.call (.ref f) args) (onRes R E) s := by
  obtain ⟨⟨A₀, base, outer, env, p, loose, mean, mg, mb, B, T, hA, hf, hke⟩, X₀, hh⟩ := H
  obtain ⟨FG, BG, st, lv⟩ := groundX (R := fun _ _ => True) B F N hA hf hke
  have TG : Top p loose mean mg mb (hideAll s.heap (news.map fun x => x.1)) := T.keeps st
  have XG : (hd.heap_39 w.params).In (hideAll s.heap (news.map fun x => x.1)) := X₀.keeps st
  have hg : ∀ b o, b ∉ news.map (·.1) → s.heap.get? b = some o → (hideAll s.heap (news.map (·.1))).get? b = some o := fun b o n e => hideAll_get _ e n
  refine codeAny_call_function hroom ((X₀.keeps F.keep) _ _ ho) rfl hco hgen rfl (codeRec_of (X₀.keeps F.keep) hcd) (hbind _ _ _ _ ?_)
  refine wpAny_newFunctionEnv_cells hk (kindsX hkind _) fun env' he s' x => ?_
  subst he
  refine ⟨(T.nolimit.keeps F.keep).keeps x.toInCall.keep, codeAny_func ?_⟩
  obtain ⟨h₁, tk, rfl, _⟩ := x.done
  have hk₁ := x.toInCall.keep
  obtain ⟨cells, NC, Y⟩ := Cl.news (h₀ := s.heap) (Nat.le_refl _) fun n c hm => ⟨x.cell n c (lookup_of_mem_nodup (cellsFrom_names scope.names 0 (s.heap.objs.size + 1) [] [] rfl ▸ hnd) hm), x.above n c hm⟩
  refine wpAny_mono (h (hideAll s.heap (news.map (·.1))) s.heap.objs.size h₁ tk cells (Here.deeper hA BG TG XG hh rfl hk) ⟨x.toInCall.ns, fun b o e => hk₁ b o (of_hideAll _ e), Nat.le_of_eq (hideAll_size _ _)⟩ (fun p hp => ?_) Y hg (fun b o e => of_hideAll _ e) (Nat.le_refl _) fun p hp => Heap.lt_size (N p hp).1) (fun fl s' hl => back_ret hg hl) fun _ _ y => y
  rcases List.mem_append.mp hp with hp | hp
  · refine ⟨(NC p hp).1, (NC p hp).2.1, ?_⟩
    cases q : (hideAll s.heap (news.map (·.1))).get? p.1 with
    | none => rfl
    | some o => have := of_hideAll _ q; rw [(NC p hp).2.2] at this; cases this
  · exact ⟨hk₁ _ _ (N p hp).1, Nat.ne_of_lt (Heap.lt_size (N p hp).1), hideAll_none _ (List.mem_map_of_mem hp)⟩
end
end Mine
namespace Mine
theorem fresh_B0 : True := by
  w_top off
  trivial
end Mine
-- part N1
namespace Mine
section
variable {w : World} {A : Around} {h₀ : Heap} {L : Addr} {m : Str → Option Value} {s : Shared} {Q : Value → Shared → Prop} {E : Value → Shared → Prop}

theorem next_spec {st xs : Addr} {i lim : Int} {ti tl : Tok} {n : Nat} {vs : List Value} {ns : List Int} (H : Here w A h₀ L) (hdp : A.depth < 900) (hun : A.units < 9000) (F : Fr h₀ L s.heap m)
    (N : News h₀ L s.heap [(st, listOf #[.ref xs, .int i ti] n)]) (hx : s.heap.IsList xs vs.toArray) (hne : xs ≠ st) (hI : IntsAre vs ns) (hlen : ns.length ≤ 60) (hi0 : 0 ≤ i) (hi1 : i < 1000) (hl0 : 0 < lim) (hl1 : lim < 10)
    (ret : ∀ r tr tk h' tk', Kept [st] s.heap h' → h'.get? st = some (listOf #[.ref xs, .int (i+1) tk] n) → 0 ≤ r → r < lim → Q (.int r tr) { s with heap := h', toks := tk' }) :
    wpAny (model PySem.Challenge.rw_vk0009_01.row.prog w) A (call (.ref 208) [.ref st, .int lim tl]) Q E s := by
  have X := H.inK
  revert X; k_fill; intro X
  refine wpAny_call ?_
  refine' codeAny_mono (enter (R := Q) (E := E) H F N ?k6 ?k7 ?k8 ?k9 ?kB ?kW ?c5 ?c2 ?c3 ?c4) ?kM
  case k6 => k_is
  case k7 => k_is
  case k8 => show A.depth < 1000; omega
  case k9 => exact BindsTo.of_eq rfl
  case kB => exact locs rfl
  case c5 => decide
  case c2 => exact rfl
  case c3 => exact rfl
  case c4 => exact rfl
  case kM => exact fun _ _ h => h
  case kW =>
    intro g' L' h' H' F' N' up down hL'
    have hx' : g'.IsList xs vs.toArray := let ⟨o, ho, r⟩ := hx; ⟨o, up xs o (by simpa using hne) ho, r⟩
    obtain ⟨⟨A₀, base, outer, env, p, loose, mean, mg, mb, B', T', hfr, _⟩, X', hh'⟩ := id H'
    (with_reducible show wpAny _ _ _ _ _ _)
    k_fold
    k_steps
    all_goals (try dsimp only)
    all_goals (try k_unfold)
    all_goals (try dsimp only)
    all_goals refine Back.intro (by assumption) fun hk => ?_
    · exact ret _ _ _ _ _ hk (News.get (by assumption) (.head _)) (by omega) (by omega)
    · refine ret _ _ _ _ _ hk (News.get (by assumption) (.head _)) ?_ ?_
      · rw [Int.fmod_eq_emod_of_nonneg _ (by omega)]; exact Int.emod_nonneg _ (by omega)
      · rw [Int.fmod_eq_emod_of_nonneg _ (by omega)]; exact Int.emod_lt_of_pos _ (by omega)
end
end Mine
namespace Mine
theorem fresh_N1 : True := by
  w_top off
  trivial
end Mine
-- part K0
namespace Mine
/-- a key: a text or an int -/
inductive Ky where
  | s (x : Str)
  | i (n : Int)
  deriving DecidableEq
def Ky.is : Ky → Value → Bool
  | .s x, v => Value.isStrOf x v
  | .i n, v => Value.isInt n v
theorem Ky.shape {k : Ky} {v : Value} (h : k.is v = true) : (∃ x t, k = .s x ∧ v = .str x t) ∨ (∃ n t, k = .i n ∧ v = .int n t) := by
  cases k with
  | s x => obtain ⟨t, e⟩ := Value.isStrOf_shape h; exact .inl ⟨x, t, rfl, e⟩
  | i n => obtain ⟨t, e⟩ := Value.isInt_shape h; exact .inr ⟨n, t, rfl, e⟩
theorem Ky.strOf : ∀ k x t v, Ky.is k (.str x t) = true → Ky.is k v = v.isStr x := by
  intro k x t v h
  rcases Ky.shape h with ⟨y, u, rfl, e⟩ | ⟨n, u, rfl, e⟩
  · cases e
    cases v <;> rfl
  · cases e
def kyKind (prog : Program) (w : World) : PySem.KeyKind prog w Ky where
  is := Ky.is
  «strs» := Ky.strOf
  hash := fun k => match k with | .s x => hashStr w x | .i n => hashInt n
  inj := fun v a b ha hb => by
    rcases Ky.shape ha with ⟨x, t, rfl, rfl⟩ | ⟨n, t, rfl, rfl⟩ <;> rcases Ky.shape hb with ⟨y, u, rfl, e⟩ | ⟨y, u, rfl, e⟩ <;> cases e <;> rfl
  byValue := fun k v h => by
    rcases Ky.shape h with ⟨x, t, rfl, rfl⟩ | ⟨n, t, rfl, rfl⟩ <;> rfl
  pyHash := fun {A E s k v Q} hv h => by
    rcases Ky.shape hv with ⟨x, t, rfl, rfl⟩ | ⟨n, t, rfl, rfl⟩
    · exact wpAny_pyHash_str h
    · exact wpAny_pyHash_int h
  eqBool := fun {A E s a b u v Q} hu hv h => by
    rcases Ky.shape hu with ⟨x, t, rfl, rfl⟩ | ⟨n, t, rfl, rfl⟩ <;> rcases Ky.shape hv with ⟨y, u, rfl, rfl⟩ | ⟨y, u, rfl, rfl⟩
    · exact wpAny_eqBool_str (by simpa using h)
    · unfold PySem.eqBool
      refine wpAny_holding ?_
      rw [show (Value.str x t == Value.int y u) = false from rfl]
      refine wpAny_bind (m := richCompare .Eq (.str x t) (.int y u)) ?_
      refine EqMixed.eq_str_int ?_
      refine wpAny_truthy_bool ?_
      simpa using h
    · unfold PySem.eqBool
      refine wpAny_holding ?_
      rw [show (Value.int n t == Value.str y u) = false from rfl]
      refine wpAny_bind (m := richCompare .Eq (.int n t) (.str y u)) ?_
      refine EqMixed.eq_int_str ?_
      refine wpAny_truthy_bool ?_
      simpa using h
    · exact wpAny_eqBool_int (by have e : (n == y) = decide ((Ky.i n) = Ky.i y) := by by_cases q : n = y <;> simp [q]
                                 rw [e]; exact h)
end Mine
namespace Mine
theorem fresh_K0 : True := by
  w_top off
  trivial
end Mine
-- part D0
namespace Mine
abbrev prg : Program := PySem.Challenge.rw_vk0009_01.row.prog
/-- the law's node: its dict, its errors, its kids, its piece -/
structure MA where
  nd : Addr
  ne : Addr
  nk : Addr
  np : Addr
def MA.fp (a : MA) : List Addr := [a.nd, a.ne, a.nk, a.np]
/-- the tree's node: the object, its names, its errors, its contents -/
structure TA where
  t : Addr
  td : Addr
  te : Addr
  tc : Addr
def TA.fp (a : TA) : List Addr := [a.t, a.td, a.te, a.tc]
/-- what both say -/
structure Nd where
  errs : List (Str × Str)
  piece : Option Value
  kids : List (Ky × Nat)
  dep : Nat
def Nd.nil (d : Nat) : Nd := ⟨[], none, [], d⟩

def nodeKvs (a : MA) : List (Str × Value) := [(Str.ofString "errors", .ref a.ne), (Str.ofString "kids", .ref a.nk), (Str.ofString "piece", .ref a.np)]
/-- texts under words -/
inductive Msgs : List (Str × Value) → List (Str × Str) → Prop where
  | nil : Msgs [] []
  | cons {x y : Str} {t : Tok} {r : List (Str × Value)} {e : List (Str × Str)} : Msgs r e → Msgs ((x, .str y t) :: r) ((x, y) :: e)
structure ModAt (w : World) (h : Heap) (na : Nat → MA) (a : MA) (n : Nd) : Prop where
  d : h.DictOf (strKind prg w) a.nd (nodeKvs a)
  e : ∃ kvs, h.DictOf (strKind prg w) a.ne kvs ∧ Msgs kvs n.errs
  k : h.DictOf (kyKind prg w) a.nk (n.kids.map fun kj => (kj.1, .ref (na kj.2).nd))
  p : h.IsList a.np n.piece.toList.toArray
  lo : (a.nd == sysModules) = false ∧ (a.ne == sysModules) = false ∧ (a.nk == sysModules) = false
def Mod (w : World) (h : Heap) (n : Nat) (na : Nat → MA) (ar : Nat → Nd) : Prop := ∀ i < n, ModAt w h na (na i) (ar i)

theorem dictOf_kept {prog : Program} {w : World} {K : Type} [DecidableEq K] {knd : PySem.KeyKind prog w K} {h h' : Heap} {a : Addr} {kvs : List (K × Value)} {S : List Addr} (x : h.DictOf knd a kvs) (k : Kept S h h') (hn : a ∉ S) : h'.DictOf knd a kvs :=
  let ⟨o, es, ep, ho, r⟩ := x; ⟨o, es, ep, k a o hn ho, r⟩
theorem isList_kept {h h' : Heap} {a : Addr} {vs : Array Value} {S : List Addr} (x : h.IsList a vs) (k : Kept S h h') (hn : a ∉ S) : h'.IsList a vs :=
  let ⟨o, ho, r⟩ := x; ⟨o, k a o hn ho, r⟩
theorem isDictOf_nil {prog : Program} {w : World} {K K' : Type} [DecidableEq K] [DecidableEq K'] {knd : PySem.KeyKind prog w K} {knd' : PySem.KeyKind prog w K'} {o : Obj} (x : o.IsDictOf knd []) : o.IsDictOf knd' [] := by
  obtain ⟨es, ep, hx, hd, hk, hp, hn⟩ := x
  cases he : es.toList with
  | nil =>
    have : es = #[] := Array.ext' he
    subst this
    exact ⟨#[], ep, hx, hd, fun e he => by simp at he, .nil, .nil⟩
  | cons a r => rw [he] at hp; cases hp
theorem ModAt.kept {w : World} {h h' : Heap} {na : Nat → MA} {a : MA} {n : Nd} {S : List Addr} (x : ModAt w h na a n) (k : Kept S h h') (hn : ∀ b ∈ a.fp, b ∉ S) : ModAt w h' na a n :=
  ⟨dictOf_kept x.d k (hn _ (by simp [MA.fp])), let ⟨kvs, hd, hm⟩ := x.e; ⟨kvs, dictOf_kept hd k (hn _ (by simp [MA.fp])), hm⟩, dictOf_kept x.k k (hn _ (by simp [MA.fp])), isList_kept x.p k (hn _ (by simp [MA.fp])), x.lo⟩
theorem Mod.kept {w : World} {h h' : Heap} {n : Nat} {na : Nat → MA} {ar : Nat → Nd} {S : List Addr} (x : Mod w h n na ar) (k : Kept S h h') (hn : ∀ i < n, ∀ b ∈ (na i).fp, b ∉ S) : Mod w h' n na ar := fun i hi => (x i hi).kept k (hn i hi)
end Mine
namespace Mine
theorem fresh_D0 : True := by
  w_top off
  trivial
end Mine
-- part N2
namespace Mine
section
variable {w : World} {A : Around} {h₀ : Heap} {L : Addr} {m : Str → Option Value} {s : Shared} {Q : Value → Shared → Prop} {E : Value → Shared → Prop}

theorem new_spec (H : Here w A h₀ L) (hdp : A.depth < 900) (F : Fr h₀ L s.heap m)
    (ret : ∀ (a : MA) h' tk', Kept [] s.heap h' → ModAt w h' (fun _ => a) a (Nd.nil 0) → a.fp.Nodup → (∀ b ∈ a.fp, s.heap.get? b = none) → Q (.ref a.nd) { s with heap := h', toks := tk' }) :
    wpAny (model PySem.Challenge.rw_vk0009_01.row.prog w) A (call (.ref 225) []) Q E s := by
  have X := H.inK
  revert X; k_fill; intro X
  refine wpAny_call ?_
  refine' codeAny_mono (enter (R := Q) (E := E) H F (News.nil) ?k6 ?k7 ?k8 ?k9 ?kB ?kW ?c5 ?c2 ?c3 ?c4) ?kM
  case k6 => k_is
  case k7 => k_is
  case k8 => show A.depth < 1000; omega
  case k9 => exact BindsTo.of_eq rfl
  case kB => exact locs rfl
  case c5 => decide
  case c2 => exact rfl
  case c3 => exact rfl
  case c4 => exact rfl
  case kM => exact fun _ _ h => h
  case kW =>
    intro g' L' h' H' F' N' up down hL'
    obtain ⟨⟨A₀, base, outer, env, p, loose, mean, mg, mb, B', T', hfr, _⟩, X', hh'⟩ := id H'
    (with_reducible show wpAny _ _ _ _ _ _)
    k_fold
    k_steps
    all_goals (try dsimp only)
    all_goals (try k_unfold)
    all_goals (try dsimp only)
    all_goals refine Back.intro (by assumption) fun hk => ?_
    rename_i d2 _ o3 lo2 _ lt0 d1 _ o2 lo1 hs2 _ _ _ lt1 d0 _ o1 lo0 hs1 _ _ _ lt2 l _ F2 N2 lt3 h9 o F9 N9 hd9
    have fr : ∀ b ob, (b, ob) ∈ [(l, W.listOf #[] 0), (d0, o1), (d1, o2), (d2, o)] → s.heap.get? b = none := by
      intro b ob hb
      cases q : s.heap.get? b with
      | none => rfl
      | some o' => have := up b o' (by simp) q; rw [(N9 _ hb).2.2] at this; cases this
    refine ret ⟨d2, d1, d0, l⟩ h9 _ hk ⟨?_, ⟨[], ?_, .nil⟩, ?_, ?_, ⟨lo2, lo1, lo0⟩⟩ ?_ ?_
    · exact Heap.dictOf_iff.mpr ⟨o, (N9 (d2, o) (by simp)).1, hd9⟩
    · exact Heap.dictOf_iff.mpr ⟨o2, (N9 (d1, o2) (by simp)).1, hs2⟩
    · exact Heap.dictOf_iff.mpr ⟨o1, (N9 (d0, o1) (by simp)).1, isDictOf_nil hs1⟩
    · exact ⟨_, (N9 (l, W.listOf #[] 0) (by simp)).1, rfl, 0, rfl⟩
    · simp only [MA.fp, List.nodup_cons, List.mem_cons, List.not_mem_nil, or_false, not_or, not_false_eq_true, List.nodup_nil, and_true]
      exact ⟨⟨Nat.ne_of_lt lt1, Nat.ne_of_lt lt2.2, Nat.ne_of_lt lt3.2.2⟩, ⟨Nat.ne_of_lt lt2.1, Nat.ne_of_lt lt3.2.1⟩, Nat.ne_of_lt lt3.1⟩
    · intro b hb
      simp only [MA.fp, List.mem_cons, List.not_mem_nil, or_false] at hb
      rcases hb with rfl | rfl | rfl | rfl
      · exact fr _ o (by simp)
      · exact fr _ o2 (by simp)
      · exact fr _ o1 (by simp)
      · exact fr _ (W.listOf #[] 0) (by simp)
end
end Mine
namespace Mine
theorem fresh_N2 : True := by
  w_top off
  trivial
end Mine
-- part N3
namespace Mine
section
variable {w : World} {A : Around} {h₀ : Heap} {L : Addr} {m : Str → Option Value} {s : Shared} {Q : Value → Shared → Prop} {E : Value → Shared → Prop}

theorem lacks_dict {a : Addr} {kvs : List (Ky × Value)} {k : Ky} {kv : Value} (H : Here w A h₀ L) (hdp : A.depth < 900) (hun : A.units < 9000) (F : Fr h₀ L s.heap m)
    (hd : s.heap.DictOf (kyKind prg w) a kvs) (hlo : (a == sysModules) = false) (hk : k.is kv = true)
    (ret : ∀ t h' tk', Kept [] s.heap h' → Q (.str (if (valueAt kvs k).isSome then Str.ofString "" else Str.ofString "key") t) { s with heap := h', toks := tk' }) :
    wpAny (model PySem.Challenge.rw_vk0009_01.row.prog w) A (call (.ref 232) [.ref a, kv]) Q E s := by
  have X := H.inK
  revert X; k_fill; intro X
  refine wpAny_call ?_
  refine' codeAny_mono (enter (R := Q) (E := E) H F News.nil ?k6 ?k7 ?k8 ?k9 ?kB ?kW ?c5 ?c2 ?c3 ?c4) ?kM
  case k6 => k_is
  case k7 => k_is
  case k8 => show A.depth < 1000; omega
  case k9 => exact BindsTo.of_eq rfl
  case kB => exact locs rfl
  case c5 => decide
  case c2 => exact rfl
  case c3 => exact rfl
  case c4 => exact rfl
  case kM => exact fun _ _ h => h
  case kW =>
    intro g' L' h' H' F' N' up down hL'
    have hd' : g'.DictOf (kyKind prg w) a kvs := let ⟨o, es, ep, ho, r⟩ := hd; ⟨o, es, ep, up a o (by simp) ho, r⟩
    obtain ⟨o, es, ep, ho, hxd, hr⟩ := id hd'
    obtain ⟨⟨A₀, base, outer, env, p, loose, mean, mg, mb, B', T', hfr, _⟩, X', hh'⟩ := id H'
    (with_reducible show wpAny _ _ _ _ _ _)
    k_fold
    k_steps
    refine IsiPair.dict_dict (Fr.keep (by assumption) _ _ ho) hxd.1 ?_
    k_steps
    refine wpAny_in_of hk hlo (Heap.DictOf.mapOf (dictOf_kept hd' (S := []) (fun b o _ e => Fr.keep (by assumption) _ _ e) (by simp))) ?_
    cases hv : (valueAt kvs k).isSome
    all_goals simp only [hv, Bool.false_eq_true, if_false, if_true] at ret
    all_goals k_steps
    all_goals (try dsimp only)
    all_goals (try k_unfold)
    all_goals (try dsimp only)
    all_goals refine Back.intro (by assumption) fun hk => ?_
    all_goals exact ret _ _ _ hk
theorem lacks_int {n : Int} {t : Tok} {k : Ky} {kv : Value} (H : Here w A h₀ L) (hdp : A.depth < 900) (hun : A.units < 9000) (F : Fr h₀ L s.heap m)
    (ret : ∀ t h' tk', Kept [] s.heap h' → Q (.str (Str.ofString "kind") t) { s with heap := h', toks := tk' }) :
    wpAny (model PySem.Challenge.rw_vk0009_01.row.prog w) A (call (.ref 232) [.int n t, kv]) Q E s := by
  have X := H.inK
  revert X; k_fill; intro X
  refine wpAny_call ?_
  refine' codeAny_mono (enter (R := Q) (E := E) H F News.nil ?k6 ?k7 ?k8 ?k9 ?kB ?kW ?c5 ?c2 ?c3 ?c4) ?kM
  case k6 => k_is
  case k7 => k_is
  case k8 => show A.depth < 1000; omega
  case k9 => exact BindsTo.of_eq rfl
  case kB => exact locs rfl
  case c5 => decide
  case c2 => exact rfl
  case c3 => exact rfl
  case c4 => exact rfl
  case kM => exact fun _ _ h => h
  case kW =>
    intro g' L' h' H' F' N' up down hL'
    obtain ⟨⟨A₀, base, outer, env, p, loose, mean, mg, mb, B', T', hfr, _⟩, X', hh'⟩ := id H'
    (with_reducible show wpAny _ _ _ _ _ _)
    k_fold
    k_steps
    all_goals (try dsimp only)
    all_goals (try k_unfold)
    all_goals (try dsimp only)
    all_goals refine Back.intro (by assumption) fun hk => ?_
    all_goals exact ret _ _ _ hk
/-- is an index a place of a list of so many -/
def inPlace (n : Nat) : Ky → Str
  | .s _ => Str.ofString "kind"
  | .i j => if j < n ∧ -(n : Int) ≤ j then Str.ofString "" else Str.ofString "place"
theorem lacks_list {a : Addr} {vs : List Value} {k : Ky} {kv : Value} (H : Here w A h₀ L) (hdp : A.depth < 900) (hun : A.units < 9000) (F : Fr h₀ L s.heap m)
    (hd : s.heap.IsList a vs.toArray) (hlen : vs.length ≤ 10) (hk : k.is kv = true)
    (ret : ∀ t h' tk', Kept [] s.heap h' → Q (.str (inPlace vs.length k) t) { s with heap := h', toks := tk' }) :
    wpAny (model PySem.Challenge.rw_vk0009_01.row.prog w) A (call (.ref 232) [.ref a, kv]) Q E s := by
  have X := H.inK
  revert X; k_fill; intro X
  refine wpAny_call ?_
  refine' codeAny_mono (enter (R := Q) (E := E) H F News.nil ?k6 ?k7 ?k8 ?k9 ?kB ?kW ?c5 ?c2 ?c3 ?c4) ?kM
  case k6 => k_is
  case k7 => k_is
  case k8 => show A.depth < 1000; omega
  case k9 => exact BindsTo.of_eq rfl
  case kB => exact locs rfl
  case c5 => decide
  case c2 => exact rfl
  case c3 => exact rfl
  case c4 => exact rfl
  case kM => exact fun _ _ h => h
  case kW =>
    intro g' L' h' H' F' N' up down hL'
    have hd' : g'.IsList a vs.toArray := let ⟨o, ho, r⟩ := hd; ⟨o, up a o (by simp) ho, r⟩
    obtain ⟨o, ho, hc, hr⟩ := id hd'
    rcases Ky.shape hk with ⟨x, t, rfl, rfl⟩ | ⟨j, t, rfl, rfl⟩
    all_goals obtain ⟨⟨A₀, base, outer, env, p, loose, mean, mg, mb, B', T', hfr, _⟩, X', hh'⟩ := id H'
    all_goals (with_reducible show wpAny _ _ _ _ _ _)
    all_goals k_fold
    · k_steps
      all_goals (try dsimp only)
      all_goals (try k_unfold)
      all_goals (try dsimp only)
      all_goals refine Back.intro (by assumption) fun hk => ?_
      exact ret _ _ _ hk
    · k_steps
      refine len_list (isList_kept hd' (S := []) (fun b o _ e => Fr.keep (by assumption) _ _ e) (by simp)) (by simp; omega) ?_
      k_steps
      · refine len_list (isList_kept hd' (S := []) (fun b o _ e => Fr.keep (by assumption) _ _ e) (by simp)) (by simp; omega) ?_
        k_steps
        all_goals (try dsimp only)
        all_goals (try k_unfold)
        all_goals (try dsimp only)
        all_goals refine Back.intro (by assumption) fun hk' => ?_
        · have e : inPlace vs.length (Ky.i j) = Str.ofString "" := by
            have hsz : vs.toArray.size = vs.length := List.size_toArray
            show (if _ then _ else _) = _
            rw [if_pos (by omega)]
          rw [e] at ret; exact ret _ _ _ hk'
        · have e : inPlace vs.length (Ky.i j) = Str.ofString "place" := by
            have hsz : vs.toArray.size = vs.length := List.size_toArray
            show (if _ then _ else _) = _
            rw [if_neg (by omega)]
          rw [e] at ret; exact ret _ _ _ hk'
      · refine Back.intro (by assumption) fun hk' => ?_
        have e : inPlace vs.length (Ky.i j) = Str.ofString "place" := by
            have hsz : vs.toArray.size = vs.length := List.size_toArray
            show (if _ then _ else _) = _
            rw [if_neg (by omega)]
        rw [e] at ret; exact ret _ _ _ hk'
end
end Mine
namespace Mine
theorem fresh_N3 : True := by
  w_top off
  trivial
end Mine
-- part N4
namespace Mine
section
variable {w : World} {A : Around} {h₀ : Heap} {L : Addr} {m : Str → Option Value} {s : Shared} {Q : Value → Shared → Prop} {E : Value → Shared → Prop}

/-- a value's shape -/
inductive Sh where
  | int
  | list (vs : List Value)
  | dict (kvs : List (Ky × Value))
def ShapeAt (w : World) (h : Heap) (v : Value) : Sh → Prop
  | .int => ∃ n t, v = .int n t
  | .list vs => ∃ a, v = .ref a ∧ h.IsList a vs.toArray ∧ vs.length ≤ 10
  | .dict kvs => ∃ a, v = .ref a ∧ h.DictOf (kyKind prg w) a kvs ∧ (a == sysModules) = false
def Sh.lacks : Sh → Ky → Str
  | .int, _ => Str.ofString "kind"
  | .list vs, k => inPlace vs.length k
  | .dict kvs, k => if (valueAt kvs k).isSome then Str.ofString "" else Str.ofString "key"
theorem ShapeAt.kept {h h' : Heap} {v : Value} {sh : Sh} {S : List Addr} (x : ShapeAt w h v sh) (k : Kept S h h') (hn : ∀ a, v = .ref a → a ∉ S) : ShapeAt w h' v sh := by
  cases sh with
  | int => exact x
  | list vs => obtain ⟨a, e, hl, r⟩ := x; exact ⟨a, e, isList_kept hl k (hn a e), r⟩
  | dict kvs => obtain ⟨a, e, hl, r⟩ := x; exact ⟨a, e, dictOf_kept hl k (hn a e), r⟩
theorem lacks_spec {v : Value} {sh : Sh} {k : Ky} {kv : Value} (H : Here w A h₀ L) (hdp : A.depth < 900) (hun : A.units < 9000) (F : Fr h₀ L s.heap m)
    (hv : ShapeAt w s.heap v sh) (hk : k.is kv = true)
    (ret : ∀ t h' tk', Kept [] s.heap h' → Q (.str (sh.lacks k) t) { s with heap := h', toks := tk' }) :
    wpAny (model PySem.Challenge.rw_vk0009_01.row.prog w) A (call (.ref 232) [v, kv]) Q E s := by
  cases sh with
  | int => obtain ⟨n, t, rfl⟩ := hv; exact lacks_int (k := k) H hdp hun F ret
  | list vs => obtain ⟨a, rfl, hl, hlen⟩ := hv; exact lacks_list H hdp hun F hl hlen hk ret
  | dict kvs => obtain ⟨a, rfl, hl, hlo⟩ := hv; exact lacks_dict H hdp hun F hl hlo hk ret

theorem sub_dict {prog : Program} {K : Type} [DecidableEq K] {knd : PySem.KeyKind prog w K} {value slice : PySem.Expr} {d : Addr} {kvs : List (K × Value)} {k : K} {key v : Value} (hkey : knd.is k key = true) (hd : s.heap.DictOf knd d kvs) (hv : valueAt kvs k = some v)
    (h : Q v { s with toks := s.toks + 1 })
    (hs : subscripted slice false (.ref d) key = operate [.ref d, key] (getItem (.ref d) key) := by with_unfolding_all rfl) :
    wpAny (model prog w) A (subscriptTail value slice (.ref d) key) Q E s :=
  tail_any hd.typeIs slot_dict_getitem.lookup (wpAny_getItem_of hkey hd.mapOf hv h) hs
theorem node_errors (a : MA) : valueAt (nodeKvs a) (Str.ofString "errors") = some (.ref a.ne) := by kernel_rfl
theorem node_kids (a : MA) : valueAt (nodeKvs a) (Str.ofString "kids") = some (.ref a.nk) := by kernel_rfl
theorem node_piece (a : MA) : valueAt (nodeKvs a) (Str.ofString "piece") = some (.ref a.np) := by kernel_rfl
theorem str_is {prog : Program} (x : Str) (t : Tok) : (strKind prog w).is x (.str x t) = true := by
  show (x == x) = true
  exact beq_self_eq_true x
theorem kept_F {g h : Heap} {L' : Addr} {m' : Str → Option Value} (F : Fr g L' h m') : Kept [] g h := fun b o _ e => F.keep b o e

theorem stored_new {K : Type} [DecidableEq K] {kvs : List (K × Value)} {k : K} {v : Value} (h : (valueAt kvs k).isSome = false) : stored kvs k v = kvs ++ [(k, v)] := by
  unfold stored
  rw [if_neg]
  intro ha
  obtain ⟨kv, hm, he⟩ := List.any_eq_true.mp ha
  unfold valueAt at h
  rw [Option.isSome_map] at h
  have : (kvs.find? fun kv => decide (kv.1 = k)).isSome = true := List.find?_isSome.mpr ⟨kv, hm, he⟩
  rw [this] at h; cases h
theorem step_there {a : MA} {na : Nat → MA} {n : Nd} {k : Ky} {kv : Value} (H : Here w A h₀ L) (hdp : A.depth < 890) (hun : A.units < 8900) (F : Fr h₀ L s.heap m)
    (hm : ModAt w s.heap na a n) (hk : k.is kv = true) (hin : (valueAt (n.kids.map fun kj => (kj.1, Value.ref (na kj.2).nd)) k).isSome = true)
    (ret : ∀ t h' tk', Kept [] s.heap h' → Q (.str (Str.ofString "") t) { s with heap := h', toks := tk' }) :
    wpAny (model PySem.Challenge.rw_vk0009_01.row.prog w) A (call (.ref 239) [.ref a.nd, kv]) Q E s := by
  have X := H.inK
  revert X; k_fill; intro X
  refine wpAny_call ?_
  refine' codeAny_mono (enter (R := Q) (E := E) H F News.nil ?k6 ?k7 ?k8 ?k9 ?kB ?kW ?c5 ?c2 ?c3 ?c4) ?kM
  case k6 => k_is
  case k7 => k_is
  case k8 => show A.depth < 1000; omega
  case k9 => exact BindsTo.of_eq rfl
  case kB => exact locs rfl
  case c5 => decide
  case c2 => exact rfl
  case c3 => exact rfl
  case c4 => exact rfl
  case kM => exact fun _ _ h => h
  case kW =>
    intro g' L' h' H' F' N' up down hL'
    have hm' := hm.kept (S := []) (h' := g') (fun b o _ e => up b o (by simp) e) (by simp)
    obtain ⟨⟨A₀, base, outer, env, p, loose, mean, mg, mb, B', T', hfr, _⟩, X', hh'⟩ := id H'
    (with_reducible show wpAny _ _ _ _ _ _)
    k_fold
    repeat' (((fail_if_success (with_reducible show wpAny _ _ (subscriptTail _ _ _ _) _ _ _))); first | (k_unfold; (try dsimp only)) | (k_end; wrow_close) | walk1 | (dsimp only; walk1) | (leave1; walk_say "STEP leave1"; try dsimp only) | fail "no step")
    refine sub_dict (str_is _ _) (dictOf_kept hm'.d (kept_F (by assumption)) (by simp)) (node_kids a) ?_
    repeat' (((fail_if_success (with_reducible show wpAny _ _ (compareOp _ _ _) _ _ _))); first | (k_unfold; (try dsimp only)) | (k_end; wrow_close) | walk1 | (dsimp only; walk1) | (leave1; walk_say "STEP leave1"; try dsimp only) | fail "no step")
    refine wpAny_notIn_of hk hm'.lo.2.2 (Heap.DictOf.mapOf (dictOf_kept hm'.k (kept_F (by assumption)) (by simp))) ?_
    rw [hin]
    k_steps
    all_goals (try dsimp only)
    all_goals (try k_unfold)
    all_goals (try dsimp only)
    all_goals refine Back.intro (by assumption) fun hk => ?_
    all_goals exact ret _ _ _ hk
theorem step_new0 {a : MA} {na : Nat → MA} {n : Nd} {k : Ky} {kv : Value} (H : Here w A h₀ L) (hdp : A.depth < 890) (hun : A.units < 8900) (F : Fr h₀ L s.heap m)
    (hm : ModAt w s.heap na a n) (hnd : a.fp.Nodup) (hoL : a.nk ≠ L) (ho0 : h₀.get? a.nk = none) (hk : k.is kv = true) (hin : (valueAt (n.kids.map fun kj => (kj.1, Value.ref (na kj.2).nd)) k).isSome = false) (hlen : n.kids.length ≤ 1000)
    (hp : n.piece = none)
    (ret : ∀ (b : MA) t h' tk', Kept [a.nk] s.heap h' → h'.DictOf (kyKind prg w) a.nk ((n.kids.map fun kj => (kj.1, Value.ref (na kj.2).nd)) ++ [(k, .ref b.nd)]) → ModAt w h' (fun _ => b) b (Nd.nil 0) → b.fp.Nodup → (∀ x ∈ b.fp, s.heap.get? x = none) →
      Q (.str (Str.ofString "") t) { s with heap := h', toks := tk' }) :
    wpAny (model PySem.Challenge.rw_vk0009_01.row.prog w) A (call (.ref 239) [.ref a.nd, kv]) Q E s := by
  obtain ⟨onk, honk, hdnk⟩ := Heap.dictOf_iff.mp hm.k
  have N : News h₀ L s.heap [(a.nk, onk)] := fun p hp => by
    rw [List.mem_singleton.mp hp]; exact ⟨honk, hoL, ho0⟩
  simp only [MA.fp, List.nodup_cons, List.mem_cons, List.not_mem_nil, or_false, not_or, not_false_eq_true, List.nodup_nil, and_true] at hnd
  have X := H.inK
  revert X; k_fill; intro X
  refine wpAny_call ?_
  refine' codeAny_mono (enter (R := Q) (E := E) H F N ?k6 ?k7 ?k8 ?k9 ?kB ?kW ?c5 ?c2 ?c3 ?c4) ?kM
  case k6 => k_is
  case k7 => k_is
  case k8 => show A.depth < 1000; omega
  case k9 => exact BindsTo.of_eq rfl
  case kB => exact locs rfl
  case c5 => decide
  case c2 => exact rfl
  case c3 => exact rfl
  case c4 => exact rfl
  case kM => exact fun _ _ h => h
  case kW =>
    intro g' L' h' H' F' N' up down hL'
    have up1 : Kept [a.nk] s.heap g' := fun b o n e => up b o (by simpa using n) e
    have hd1 := dictOf_kept hm.d up1 (by simpa using hnd.1.2.1)
    have hp1 := isList_kept hm.p up1 (by simpa using (Ne.symm hnd.2.2))
    rw [hp] at hp1
    obtain ⟨⟨A₀, base, outer, env, p, loose, mean, mg, mb, B', T', hfr, _⟩, X', hh'⟩ := id H'
    (with_reducible show wpAny _ _ _ _ _ _)
    k_fold
    repeat' (((fail_if_success (with_reducible show wpAny _ _ (subscriptTail _ _ _ _) _ _ _))); first | (k_unfold; (try dsimp only)) | (k_end; wrow_close) | walk1 | (dsimp only; walk1) | (leave1; walk_say "STEP leave1"; try dsimp only) | fail "no step")
    refine sub_dict (str_is _ _) (dictOf_kept hd1 (kept_F (by assumption)) (by simp)) (node_kids a) ?_
    repeat' (((fail_if_success (with_reducible show wpAny _ _ (compareOp _ _ _) _ _ _))); first | (k_unfold; (try dsimp only)) | (k_end; wrow_close) | walk1 | (dsimp only; walk1) | (leave1; walk_say "STEP leave1"; try dsimp only) | fail "no step")
    refine wpAny_notIn_of hk hm.lo.2.2 (Heap.DictOf.mapOf (Heap.dictOf_iff.mpr ⟨_, News.get (by assumption) (.head _), hdnk⟩)) ?_
    rw [hin]
    repeat' (((fail_if_success (with_reducible show wpAny _ _ (subscriptTail _ _ _ _) _ _ _))); first | (k_unfold; (try dsimp only)) | (k_end; wrow_close) | walk1 | (dsimp only; walk1) | (leave1; walk_say "STEP leave1"; try dsimp only) | fail "no step")
    refine sub_dict (str_is _ _) (dictOf_kept hd1 (kept_F (by assumption)) (by simp)) (node_piece a) ?_
    repeat' (((fail_if_success (with_reducible show wpAny _ _ (call (.ref 225) _) _ _ _))); first | (k_unfold; (try dsimp only)) | (k_end; wrow_close) | walk1 | (dsimp only; walk1) | (leave1; walk_say "STEP leave1"; try dsimp only) | fail "no step")
    rename Fr g' _ _ _ => Fc
    rename News g' _ _ _ => Nc
    refine new_spec H' (by show A.depth + 1 < 900; omega) Fc (fun b h2 tk2 hk2 hm2 hnd2 hfr2 => ?_)
    have F2 := Fr.kept Fc hk2 (by simp) (by simp)
    have N2 := News.kept Nc hk2 (by simp)
    (try k_fold)
    repeat' (((fail_if_success (with_reducible show wpAny _ _ (subscriptTail _ _ _ _) _ _ _))); first | (k_unfold; (try dsimp only)) | (k_end; wrow_close) | walk1 | (dsimp only; walk1) | (leave1; walk_say "STEP leave1"; try dsimp only) | fail "no step")
    refine sub_dict (str_is _ _) (dictOf_kept hd1 (kept_F (by assumption)) (by simp)) (node_kids a) ?_
    repeat' (((fail_if_success (with_reducible show wpAny _ _ (setItem _ _ _) _ _ _))); first | (k_unfold; (try dsimp only)) | (k_end; wrow_close) | walk1 | (dsimp only; walk1) | (leave1; walk_say "STEP leave1"; try dsimp only) | fail "no step")
    refine wpAny_setItem_pairs (knd := kyKind prg w) hk (Heap.dictOf_iff.mpr ⟨_, News.get N2 (.head _), hdnk⟩) (fun h3 hd3 hs3 => ?_) (by size_fits)
    have F3 := Fr.kept F2 (Kept.sameBut hs3) (by simpa using Ne.symm (N2 _ (.head _)).2.1) (by simpa using (N2 _ (.head _)).2.2)
    have hx : ∀ x ∈ b.fp, x ≠ a.nk := fun x hxb e => by
      have := hfr2 x hxb
      rw [e, News.get Nc (.head _)] at this; cases this
    dsimp only
    k_steps
    all_goals (try dsimp only)
    all_goals (try k_unfold)
    all_goals (try dsimp only)
    all_goals refine Back.intro (by assumption) fun hk => ?_
    all_goals refine ret b _ _ _ (by simpa using hk) (stored_new hin ▸ hd3) (hm2.kept (Kept.sameBut hs3) (by simpa using hx)) hnd2 (fun x hxb => ?_)
    all_goals
      cases q : s.heap.get? x with
      | none => rfl
      | some o =>
        have := Fc.keep _ _ (up1 x o (by simpa using hx x hxb) q)
        rw [hfr2 x hxb] at this; cases this
theorem step_new1 {a : MA} {na : Nat → MA} {n : Nd} {k : Ky} {kv : Value} (H : Here w A h₀ L) (hdp : A.depth < 890) (hun : A.units < 8900) (F : Fr h₀ L s.heap m)
    (hm : ModAt w s.heap na a n) (hnd : a.fp.Nodup) (hoL : a.nk ≠ L) (ho0 : h₀.get? a.nk = none) (hk : k.is kv = true) (hin : (valueAt (n.kids.map fun kj => (kj.1, Value.ref (na kj.2).nd)) k).isSome = false) (hlen : n.kids.length ≤ 1000)
    {v : Value} {sh : Sh} (hp : n.piece = some v) (hv : ShapeAt w s.heap v sh) (hvn : ∀ c, v = .ref c → c ≠ a.nk) (hla : sh.lacks k = Str.ofString "")
    (ret : ∀ (b : MA) t h' tk', Kept [a.nk] s.heap h' → h'.DictOf (kyKind prg w) a.nk ((n.kids.map fun kj => (kj.1, Value.ref (na kj.2).nd)) ++ [(k, .ref b.nd)]) → ModAt w h' (fun _ => b) b (Nd.nil 0) → b.fp.Nodup → (∀ x ∈ b.fp, s.heap.get? x = none) →
      Q (.str (Str.ofString "") t) { s with heap := h', toks := tk' }) :
    wpAny (model PySem.Challenge.rw_vk0009_01.row.prog w) A (call (.ref 239) [.ref a.nd, kv]) Q E s := by
  obtain ⟨onk, honk, hdnk⟩ := Heap.dictOf_iff.mp hm.k
  have N : News h₀ L s.heap [(a.nk, onk)] := fun p hp => by
    rw [List.mem_singleton.mp hp]; exact ⟨honk, hoL, ho0⟩
  simp only [MA.fp, List.nodup_cons, List.mem_cons, List.not_mem_nil, or_false, not_or, not_false_eq_true, List.nodup_nil, and_true] at hnd
  have X := H.inK
  revert X; k_fill; intro X
  refine wpAny_call ?_
  refine' codeAny_mono (enter (R := Q) (E := E) H F N ?k6 ?k7 ?k8 ?k9 ?kB ?kW ?c5 ?c2 ?c3 ?c4) ?kM
  case k6 => k_is
  case k7 => k_is
  case k8 => show A.depth < 1000; omega
  case k9 => exact BindsTo.of_eq rfl
  case kB => exact locs rfl
  case c5 => decide
  case c2 => exact rfl
  case c3 => exact rfl
  case c4 => exact rfl
  case kM => exact fun _ _ h => h
  case kW =>
    intro g' L' h' H' F' N' up down hL'
    have up1 : Kept [a.nk] s.heap g' := fun b o n e => up b o (by simpa using n) e
    have hd1 := dictOf_kept hm.d up1 (by simpa using hnd.1.2.1)
    have hp1 := isList_kept hm.p up1 (by simpa using (Ne.symm hnd.2.2))
    rw [hp] at hp1
    replace hp1 : g'.IsList a.np #[v] := hp1
    have hv1 := hv.kept up1 (by simpa using hvn)
    obtain ⟨⟨A₀, base, outer, env, p, loose, mean, mg, mb, B', T', hfr, _⟩, X', hh'⟩ := id H'
    (with_reducible show wpAny _ _ _ _ _ _)
    k_fold
    repeat' (((fail_if_success (with_reducible show wpAny _ _ (subscriptTail _ _ _ _) _ _ _))); first | (k_unfold; (try dsimp only)) | (k_end; wrow_close) | walk1 | (dsimp only; walk1) | (leave1; walk_say "STEP leave1"; try dsimp only) | fail "no step")
    refine sub_dict (str_is _ _) (dictOf_kept hd1 (kept_F (by assumption)) (by simp)) (node_kids a) ?_
    repeat' (((fail_if_success (with_reducible show wpAny _ _ (compareOp _ _ _) _ _ _))); first | (k_unfold; (try dsimp only)) | (k_end; wrow_close) | walk1 | (dsimp only; walk1) | (leave1; walk_say "STEP leave1"; try dsimp only) | fail "no step")
    refine wpAny_notIn_of hk hm.lo.2.2 (Heap.DictOf.mapOf (Heap.dictOf_iff.mpr ⟨_, News.get (by assumption) (.head _), hdnk⟩)) ?_
    rw [hin]
    repeat' (((fail_if_success (with_reducible show wpAny _ _ (subscriptTail _ _ _ _) _ _ _))); first | (k_unfold; (try dsimp only)) | (k_end; wrow_close) | walk1 | (dsimp only; walk1) | (leave1; walk_say "STEP leave1"; try dsimp only) | fail "no step")
    refine sub_dict (str_is _ _) (dictOf_kept hd1 (kept_F (by assumption)) (by simp)) (node_piece a) ?_
    repeat' (((fail_if_success (with_reducible show wpAny _ _ (subscriptTail _ _ _ _) _ _ _))); first | (k_unfold; (try dsimp only)) | (k_end; wrow_close) | walk1 | (dsimp only; walk1) | (leave1; walk_say "STEP leave1"; try dsimp only) | fail "no step")
    refine sub_dict (str_is _ _) (dictOf_kept hd1 (kept_F (by assumption)) (by simp)) (node_piece a) ?_
    repeat' (((fail_if_success (with_reducible show wpAny _ _ (call (.ref 232) _) _ _ _))); first | (k_unfold; (try dsimp only)) | (k_end; wrow_close) | walk1 | (dsimp only; walk1) | (leave1; walk_say "STEP leave1"; try dsimp only) | fail "no step")
    rotate_left
    · exfalso
      rename (¬ _) => hneg
      simp at hneg
    rename Fr g' _ _ _ => Fc
    rename News g' _ _ _ => Nc
    refine lacks_spec H' (by show A.depth + 1 < 900; omega) (by show A.units + 3 < 9000; omega) Fc (hv1.kept (kept_F Fc) (by simp)) hk (fun t2 h2 tk2 hk2 => ?_)
    rw [hla]
    have F2 := Fr.kept Fc hk2 (by simp) (by simp)
    have N2 := News.kept Nc hk2 (by simp)
    clear Fc Nc
    (try k_fold)
    repeat' (((fail_if_success (with_reducible show wpAny _ _ (call (.ref 225) _) _ _ _))); first | (k_unfold; (try dsimp only)) | (k_end; wrow_close) | walk1 | (dsimp only; walk1) | (leave1; walk_say "STEP leave1"; try dsimp only) | fail "no step")
    rename Fr g' _ _ _ => Fc
    rename News g' _ _ _ => Nc
    refine new_spec H' (by show A.depth + 1 < 900; omega) Fc (fun b h2 tk2 hk2 hm2 hnd2 hfr2 => ?_)
    have F2 := Fr.kept Fc hk2 (by simp) (by simp)
    have N2 := News.kept Nc hk2 (by simp)
    (try k_fold)
    repeat' (((fail_if_success (with_reducible show wpAny _ _ (subscriptTail _ _ _ _) _ _ _))); first | (k_unfold; (try dsimp only)) | (k_end; wrow_close) | walk1 | (dsimp only; walk1) | (leave1; walk_say "STEP leave1"; try dsimp only) | fail "no step")
    refine sub_dict (str_is _ _) (dictOf_kept hd1 (kept_F (by assumption)) (by simp)) (node_kids a) ?_
    repeat' (((fail_if_success (with_reducible show wpAny _ _ (setItem _ _ _) _ _ _))); first | (k_unfold; (try dsimp only)) | (k_end; wrow_close) | walk1 | (dsimp only; walk1) | (leave1; walk_say "STEP leave1"; try dsimp only) | fail "no step")
    refine wpAny_setItem_pairs (knd := kyKind prg w) hk (Heap.dictOf_iff.mpr ⟨_, News.get N2 (.head _), hdnk⟩) (fun h3 hd3 hs3 => ?_) (by size_fits)
    have F3 := Fr.kept F2 (Kept.sameBut hs3) (by simpa using Ne.symm (N2 _ (.head _)).2.1) (by simpa using (N2 _ (.head _)).2.2)
    have hx : ∀ x ∈ b.fp, x ≠ a.nk := fun x hxb e => by
      have := hfr2 x hxb
      rw [e, News.get Nc (.head _)] at this; cases this
    dsimp only
    k_steps
    all_goals (try dsimp only)
    all_goals (try k_unfold)
    all_goals (try dsimp only)
    all_goals refine Back.intro (by assumption) fun hk => ?_
    all_goals refine ret b _ _ _ (by simpa using hk) (stored_new hin ▸ hd3) (hm2.kept (Kept.sameBut hs3) (by simpa using hx)) hnd2 (fun x hxb => ?_)
    all_goals
      cases q : s.heap.get? x with
      | none => rfl
      | some o =>
        have := Fc.keep _ _ (up1 x o (by simpa using hx x hxb) q)
        rw [hfr2 x hxb] at this; cases this
theorem step_hold {a : MA} {na : Nat → MA} {n : Nd} {k : Ky} {kv : Value} (H : Here w A h₀ L) (hdp : A.depth < 890) (hun : A.units < 8900) (F : Fr h₀ L s.heap m)
    (hm : ModAt w s.heap na a n) (hk : k.is kv = true) (hin : (valueAt (n.kids.map fun kj => (kj.1, Value.ref (na kj.2).nd)) k).isSome = false)
    {v : Value} {sh : Sh} (hp : n.piece = some v) (hv : ShapeAt w s.heap v sh) (hla : sh.lacks k ≠ Str.ofString "")
    (ret : ∀ t h' tk', Kept [] s.heap h' → Q (.str (sh.lacks k) t) { s with heap := h', toks := tk' }) :
    wpAny (model PySem.Challenge.rw_vk0009_01.row.prog w) A (call (.ref 239) [.ref a.nd, kv]) Q E s := by
  have X := H.inK
  revert X; k_fill; intro X
  refine wpAny_call ?_
  refine' codeAny_mono (enter (R := Q) (E := E) H F News.nil ?k6 ?k7 ?k8 ?k9 ?kB ?kW ?c5 ?c2 ?c3 ?c4) ?kM
  case k6 => k_is
  case k7 => k_is
  case k8 => show A.depth < 1000; omega
  case k9 => exact BindsTo.of_eq rfl
  case kB => exact locs rfl
  case c5 => decide
  case c2 => exact rfl
  case c3 => exact rfl
  case c4 => exact rfl
  case kM => exact fun _ _ h => h
  case kW =>
    intro g' L' h' H' F' N' up down hL'
    have up1 : Kept [] s.heap g' := fun b o _ e => up b o (by simp) e
    have hm' := hm.kept (S := []) (h' := g') up1 (by simp)
    have hv1 := hv.kept up1 (by simp)
    have hp1 := hm'.p
    rw [hp] at hp1
    replace hp1 : g'.IsList a.np #[v] := hp1
    obtain ⟨⟨A₀, base, outer, env, p, loose, mean, mg, mb, B', T', hfr, _⟩, X', hh'⟩ := id H'
    (with_reducible show wpAny _ _ _ _ _ _)
    k_fold
    repeat' (((fail_if_success (with_reducible show wpAny _ _ (subscriptTail _ _ _ _) _ _ _))); first | (k_unfold; (try dsimp only)) | (k_end; wrow_close) | walk1 | (dsimp only; walk1) | (leave1; walk_say "STEP leave1"; try dsimp only) | fail "no step")
    refine sub_dict (str_is _ _) (dictOf_kept hm'.d (kept_F (by assumption)) (by simp)) (node_kids a) ?_
    repeat' (((fail_if_success (with_reducible show wpAny _ _ (compareOp _ _ _) _ _ _))); first | (k_unfold; (try dsimp only)) | (k_end; wrow_close) | walk1 | (dsimp only; walk1) | (leave1; walk_say "STEP leave1"; try dsimp only) | fail "no step")
    refine wpAny_notIn_of hk hm'.lo.2.2 (Heap.DictOf.mapOf (dictOf_kept hm'.k (kept_F (by assumption)) (by simp))) ?_
    rw [hin]
    repeat' (((fail_if_success (with_reducible show wpAny _ _ (subscriptTail _ _ _ _) _ _ _))); first | (k_unfold; (try dsimp only)) | (k_end; wrow_close) | walk1 | (dsimp only; walk1) | (leave1; walk_say "STEP leave1"; try dsimp only) | fail "no step")
    refine sub_dict (str_is _ _) (dictOf_kept hm'.d (kept_F (by assumption)) (by simp)) (node_piece a) ?_
    repeat' (((fail_if_success (with_reducible show wpAny _ _ (subscriptTail _ _ _ _) _ _ _))); first | (k_unfold; (try dsimp only)) | (k_end; wrow_close) | walk1 | (dsimp only; walk1) | (leave1; walk_say "STEP leave1"; try dsimp only) | fail "no step")
    refine sub_dict (str_is _ _) (dictOf_kept hm'.d (kept_F (by assumption)) (by simp)) (node_piece a) ?_
    repeat' (((fail_if_success (with_reducible show wpAny _ _ (call (.ref 232) _) _ _ _))); first | (k_unfold; (try dsimp only)) | (k_end; wrow_close) | walk1 | (dsimp only; walk1) | (leave1; walk_say "STEP leave1"; try dsimp only) | fail "no step")
    rotate_left
    · exfalso
      rename (¬ _) => hneg
      simp at hneg
    rename Fr g' _ _ _ => Fc
    refine lacks_spec H' (by show A.depth + 1 < 900; omega) (by show A.units + 3 < 9000; omega) Fc (hv1.kept (kept_F Fc) (by simp)) hk (fun t2 h2 tk2 hk2 => ?_)
    have F2 := Fr.kept Fc hk2 (by simp) (by simp)
    have N2 : News g' L' h2 [] := News.nil
    clear Fc
    (try k_fold)
    k_steps
    rotate_left
    · exfalso
      rename ((_ != _) = false) => hneg
      exact hla (by simpa using hneg)
    refine sub_dict (str_is _ _) (dictOf_kept hm'.d (kept_F (by assumption)) (by simp)) (node_piece a) ?_
    repeat' (((fail_if_success (with_reducible show wpAny _ _ (call (.ref 232) _) _ _ _))); first | (k_unfold; (try dsimp only)) | (k_end; wrow_close) | walk1 | (dsimp only; walk1) | (leave1; walk_say "STEP leave1"; try dsimp only) | fail "no step")
    rename Fr g' _ _ _ => Fc
    refine lacks_spec H' (by show A.depth + 1 < 900; omega) (by show A.units + 3 < 9000; omega) Fc (hv1.kept (kept_F Fc) (by simp)) hk (fun t3 h3 tk3 hk3 => ?_)
    have F3 := Fr.kept Fc hk3 (by simp) (by simp)
    have N3 : News g' L' h3 [] := News.nil
    clear Fc
    (try k_fold)
    k_steps
    all_goals (try dsimp only)
    all_goals (try k_unfold)
    all_goals (try dsimp only)
    all_goals refine Back.intro (by assumption) fun hk => ?_
    all_goals exact ret _ _ _ hk
end
end Mine
namespace Mine
theorem fresh_N4 : True := by
  w_top off
  trivial
end Mine
-- part T0
namespace Mine
section
variable {w : World} {A : Around} {h₀ : Heap} {L : Addr} {m : Str → Option Value} {s : Shared} {Q : Value → Shared → Prop} {E : Value → Shared → Prop}

def Names (h : Heap) (a : Addr) (f : Str → Option Value) : Prop := ∃ es n, h.get? a = some (dictOf es n) ∧ (∀ x, getL x es = some (f x)) ∧ es.length ≤ 50 ∧ (f (Str.ofString "_instance") = none → es.length ≤ 49)
theorem Names.kept {h h' : Heap} {a : Addr} {f : Str → Option Value} {S : List Addr} (x : Names h a f) (k : Kept S h h') (hn : a ∉ S) : Names h' a f :=
  let ⟨es, n, ho, r⟩ := x; ⟨es, n, k a _ hn ho, r⟩
def treeNames (a : TA) (p : Option Value) (x : Str) : Option Value :=
  if x = Str.ofString "errors" then some (.ref a.te) else if x = Str.ofString "_contents" then some (.ref a.tc) else if x = Str.ofString "_instance" then p else none
/-- an error: its object, its names -/
structure Er where
  msg : Str
  word : Str
  path : List Value
  inst : Value
structure ErrAt (h : Heap) (a : Addr) (e : Er) : Prop where
  ex : ∃ (o : Obj) (d : Addr) (f : Str → Option Value) (st : Addr) (os : Obj) (t1 t2 : Tok) (n : Nat), h.get? a = some o ∧ o.cls = .ref 140 ∧ notCls o = true ∧ o.dict = some d ∧ Names h d f ∧
    f (Str.ofString "message") = some (.str e.msg t1) ∧ f (Str.ofString "validator") = some (.str e.word t2) ∧ f (Str.ofString "path") = some (.ref st) ∧ f (Str.ofString "instance") = some e.inst ∧
    h.get? st = some os ∧ os.cls = .ref 38 ∧ os.data = .seq e.path.toArray n ∧ notCls os = true
/-- errors under words, by their messages -/
inductive Errs (h : Heap) : List (Str × Value) → List (Str × Str) → Prop where
  | nil : Errs h [] []
  | cons {x : Str} {a : Addr} {e : Er} {r : List (Str × Value)} {l : List (Str × Str)} : ErrAt h a e → Errs h r l → Errs h ((x, .ref a) :: r) ((x, e.msg) :: l)
structure TreeAt (w : World) (h : Heap) (ta : Nat → TA) (a : TA) (n : Nd) : Prop where
  o : h.get? a.t = some (instObj 197 a.td)
  d : Names h a.td (treeNames a n.piece)
  e : ∃ kvs, h.DictOf (strKind prg w) a.te kvs ∧ Errs h kvs n.errs
  k : h.DictOf (kyKind prg w) a.tc (n.kids.map fun kj => (kj.1, .ref (ta kj.2).t))
  lo : (a.te == sysModules) = false ∧ (a.tc == sysModules) = false
theorem ErrAt.kept {h h' : Heap} {a : Addr} {e : Er} (x : ErrAt h a e) (k : Kept [] h h') : ErrAt h' a e := by
  obtain ⟨o, d, f, st, os, t1, t2, n, h1, h2, h3, h4, h5, h6, h7, h8, h9, h10, h11⟩ := x.ex
  exact ⟨o, d, f, st, os, t1, t2, n, k _ _ (by simp) h1, h2, h3, h4, h5.kept k (by simp), h6, h7, h8, h9, k _ _ (by simp) h10, h11⟩
theorem Errs.kept {h h' : Heap} {r : List (Str × Value)} {l : List (Str × Str)} (x : Errs h r l) (k : Kept [] h h') : Errs h' r l := by
  induction x with
  | nil => exact .nil
  | cons e _ ih => exact .cons (e.kept k) ih
theorem TreeAt.kept {h h' : Heap} {ta : Nat → TA} {a : TA} {n : Nd} (x : TreeAt w h ta a n) (k : Kept [] h h') : TreeAt w h' ta a n :=
  ⟨k _ _ (by simp) x.o, x.d.kept k (by simp), let ⟨kvs, hd, hm⟩ := x.e; ⟨kvs, dictOf_kept hd k (by simp), hm.kept k⟩, dictOf_kept x.k k (by simp), x.lo⟩
theorem tree_inst {h : Heap} {t td : Addr} {f : Str → Option Value} (ho : h.get? t = some (instObj 197 td)) (hd : Names h td f) : ∃ es n, InstAt h t (instObj 197 td) 197 (some (dictOf es n)) ∧ ∀ x, getL x es = some (f x) :=
  let ⟨es, n, h1, h2⟩ := hd; ⟨es, n, ⟨ho, rfl, rfl, h1⟩, h2.1⟩

theorem get_names {x C d : Addr} {o : Obj} {f : Str → Option Value} {name : Str} {expr : Bool} {attr : Option Value} {v : Value} (F : Fr h₀ L s.heap m) (X : (hd.heap_39 w.params).In h₀)
    (ho : s.heap.get? x = some o) (hcl : o.cls = .ref C) (hno : notCls o = true) (hdi : o.dict = some d) (hdn : Names s.heap d f)
    (hg : plainGet (hd.heap_39 w.params) C name = true) (hh : hasDictIn (hd.heap_39 w.params) C = true) (ha : findIn (hd.heap_39 w.params) (.ref C) name = some attr) (hn : noGet (hd.heap_39 w.params) attr = true)
    (hv : f name = some v) (hi : handedIn v = true) (h : Q v { s with toks := s.toks + 1 }) : wpAny (model PySem.Challenge.rw_vk0009_01.row.prog w) A (getAttr (.ref x) name expr) Q E s := by
  obtain ⟨es, n, h1, h2⟩ := hdn
  refine get_own (ox := o) (C := C) (es := es) (n := n) F X ⟨ho, hcl, hno, ?_⟩ hg hh ha hn ((h2.1 name).trans (congrArg some hv)) hi h
  rw [hdi]; exact h1
theorem get_contents {a : TA} {p : Option Value} {expr : Bool} (F : Fr h₀ L s.heap m) (X : (hd.heap_39 w.params).In h₀) (ho : s.heap.get? a.t = some (instObj 197 a.td)) (hd : Names s.heap a.td (treeNames a p))
    (h : Q (.ref a.tc) { s with toks := s.toks + 1 }) : wpAny (model PySem.Challenge.rw_vk0009_01.row.prog w) A (getAttr (.ref a.t) (Str.ofString "_contents") expr) Q E s := by
  revert X; k_fill; intro X
  refine' get_names F X ho rfl rfl rfl hd ?k1 ?k2 ?k3 ?k4 rfl rfl h
  case k1 => k_is
  case k2 => k_is
  case k3 => k_is
  case k4 => k_is
theorem get_errors {a : TA} {p : Option Value} {expr : Bool} (F : Fr h₀ L s.heap m) (X : (hd.heap_39 w.params).In h₀) (ho : s.heap.get? a.t = some (instObj 197 a.td)) (hd : Names s.heap a.td (treeNames a p))
    (h : Q (.ref a.te) { s with toks := s.toks + 1 }) : wpAny (model PySem.Challenge.rw_vk0009_01.row.prog w) A (getAttr (.ref a.t) (Str.ofString "errors") expr) Q E s := by
  revert X; k_fill; intro X
  refine' get_names F X ho rfl rfl rfl hd ?k1 ?k2 ?k3 ?k4 rfl rfl h
  case k1 => k_is
  case k2 => k_is
  case k3 => k_is
  case k4 => k_is

theorem contains_spec {a : TA} {p : Option Value} {kvs : List (Ky × Value)} {k : Ky} {kv : Value} (H : Here w A h₀ L) (hdp : A.depth < 900) (hun : A.units < 9000) (F : Fr h₀ L s.heap m)
    (ho : s.heap.get? a.t = some (instObj 197 a.td)) (hd : Names s.heap a.td (treeNames a p)) (hc : s.heap.DictOf (kyKind prg w) a.tc kvs) (hlo : (a.tc == sysModules) = false) (hk : k.is kv = true)
    (ret : ∀ h' tk', Kept [] s.heap h' → Q (.bool (valueAt kvs k).isSome) { s with heap := h', toks := tk' }) :
    wpAny (model PySem.Challenge.rw_vk0009_01.row.prog w) A (call (.ref 165) [.ref a.t, kv]) Q E s := by
  have X := H.inK
  revert X; k_fill; intro X
  refine wpAny_call ?_
  refine' codeAny_mono (enter (R := Q) (E := E) H F News.nil ?k6 ?k7 ?k8 ?k9 ?kB ?kW ?c5 ?c2 ?c3 ?c4) ?kM
  case k6 => k_is
  case k7 => k_is
  case k8 => show A.depth < 1000; omega
  case k9 => exact BindsTo.of_eq rfl
  case kB => exact locs rfl
  case c5 => decide
  case c2 => exact rfl
  case c3 => exact rfl
  case c4 => exact rfl
  case kM => exact fun _ _ h => h
  case kW =>
    intro g' L' h' H' F' N' up down hL'
    have up1 : Kept [] s.heap g' := fun b o _ e => up b o (by simp) e
    have ho1 := up1 _ _ (by simp) ho
    have hd1 := hd.kept up1 (by simp)
    have hc1 := dictOf_kept hc up1 (by simp)
    obtain ⟨⟨A₀, base, outer, env, p, loose, mean, mg, mb, B', T', hfr, _⟩, X', hh'⟩ := id H'
    (with_reducible show wpAny _ _ _ _ _ _)
    k_fold
    k_steps
    rename Fr g' _ _ _ => Fc
    refine get_contents Fc X' (kept_F Fc _ _ (by simp) ho1) (hd1.kept (kept_F Fc) (by simp)) ?_
    k_steps
    refine wpAny_in_of hk hlo (Heap.DictOf.mapOf (dictOf_kept hc1 (kept_F (by assumption)) (by simp))) ?_
    k_steps
    all_goals (try dsimp only)
    all_goals (try k_unfold)
    all_goals (try dsimp only)
    all_goals refine Back.intro (by assumption) fun hk' => ?_
    all_goals exact ret _ _ hk'
end
end Mine
namespace Mine
theorem fresh_T0 : True := by
  w_top off
  trivial
end Mine
-- part L0
namespace Mine
section
variable {prog : Program} {w : World} {A : Around} {E : Value → Shared → Prop} {s : Shared}

/-- a loop's turn has come to its end -/
def TurnEnd (L : Addr) (fp : List Addr) (J : (Str → Option Value) → Shared → Prop) (Q : Flow → Shared → Prop) (s₁ : Shared) (f : Flow) (s' : Shared) : Prop := match f with
  | .ret v => Q (.ret v) s'
  | .brk => Q .next s'
  | _ => ∃ m', s'.heap.Ns L m' ∧ (∀ b ∈ fp, ∀ o, s₁.heap.get? b = some o → s'.heap.get? b = some o) ∧ J m' s'
def LoopJ (prog : Program) (w : World) (A : Around) (env : Env) (x : Str) (body : List Stmt) (Q : Flow → Shared → Prop) (it : Value) (s₂ : Shared) : Prop :=
  ∃ (I : Addr) (fp wr : List Addr) (n : Nat) (P : Nat → Value → Prop) (St : Nat → Heap → Prop) (m : Str → Option Value) (J : Nat → (Str → Option Value) → Shared → Prop),
    it = .ref I ∧ Walks prog w A I fp wr n P St ∧ env.locals ∉ fp ∧ St 0 s₂.heap ∧ s₂.heap.Ns env.locals m ∧ J 0 m s₂ ∧
    (∀ (i : Nat) (m : Str → Option Value) (s : Shared) (h' : Heap) (tk : Nat), J i m s → Kept (env.locals :: wr) s.heap h' → ∀ m' : Str → Option Value, (∀ y, y ≠ x → m' y = m y) → J i m' { s with heap := h', toks := tk }) ∧
    (∀ (i : Nat) (v : Value) (m₁ : Str → Option Value) (s₁ : Shared), i < n → P i v → St (i + 1) s₁.heap → s₁.heap.Ns env.locals (fun y => if y = x then some v else m₁ y) → J i (fun y => if y = x then some v else m₁ y) s₁ →
      wpAny (model prog w) A (execs body env) (TurnEnd env.locals fp (J (i + 1)) Q s₁) (fun _ _ => False) s₁) ∧
    ∀ m' s', s'.heap.Ns env.locals m' → J n m' s' → Q .next s'

theorem for_J {env : Env} {x : Str} {px pos : Pos} {iter : Expr} {body : List Stmt} {Q : Flow → Shared → Prop} (hx : env.kindOf x = some .local)
    (hp : (env.scope.kind == .class || (env.scope.kind == .module && env.locals != env.globals)) = false)
    (h : wpAny (model prog w) A (eval iter env) (fun xv s₁ => wpAny (model prog w) A (pyIter xv) (fun it s₂ => LoopJ prog w A env x body Q it s₂) E s₁) E s)
    (hs : ∀ x, foldedSetIterable iter env x = pure x := by intro _; rfl) :
    wpAny (model prog w) A (exec (.For (.Name x px) iter body [] pos) env) Q E s := by
  refine wpAny_For (wpAny_mono h (fun xv s₁ h₁ => wpAny_mono h₁ (fun it s₂ h₂ => ?_) fun _ _ e => e) fun _ _ e => e) hs
  obtain ⟨I, fp, wr, n, P, St, m, J, rfl, W, hLf, hst, hns, hJ, stable, turn, done⟩ := h₂
  have hLw : env.locals ∉ wr := fun h => hLf (W.sub _ h)
  refine codeAny_forLoop (fun k s' => ∃ m' i, St i s'.heap ∧ s'.heap.Ns env.locals m' ∧ J i m' s' ∧ i ≤ n ∧ k = n + 1 - i) ?_ (n + 1) ⟨m, 0, hst, hns, hJ, Nat.zero_le _, rfl⟩
  rintro k s' ⟨m', i, hst', hns', hJ', hi, rfl⟩
  by_cases hlt : i < n
  · refine W.item i _ _ _ hlt hst' fun v h₁ tk₁ hP hst₁ hk₁ => ?_
    refine wpAny_assign_Name (wpAny_storeName_local hx (hns'.at' fun o e => hk₁ _ o hLw e) (fun h₂ hn₂ hs₂ => ?_) hp)
    have hst₂ : St (i + 1) h₂ := W.frame _ _ _ hst₁ fun b hb o e => (hs₂.2 b fun q => hLf (q ▸ hb)).trans e
    have hJ₂ := stable i m' s' h₂ (tk₁ + 1) hJ' (fun b o hb e => (hs₂.2 b fun q => hb (q ▸ .head _)).trans (hk₁ b o (fun q => hb (.tail _ q)) e)) (fun y => if y = x then some v else m' y) (fun y hy => if_neg hy)
    refine wpAny_mono (turn i v m' _ hlt hP hst₂ hn₂ hJ₂) (fun f s₃ h₃ => ?_) fun _ _ e => e.elim
    cases f with
    | ret v => exact h₃
    | brk => exact h₃
    | cont =>
      obtain ⟨m₃, hn₃, hf₃, hJ₃⟩ := h₃
      exact ⟨n + 1 - (i + 1), by omega, m₃, i + 1, W.frame _ _ _ hst₂ hf₃, hn₃, hJ₃, hlt, rfl⟩
    | next =>
      obtain ⟨m₃, hn₃, hf₃, hJ₃⟩ := h₃
      exact ⟨n + 1 - (i + 1), by omega, m₃, i + 1, W.frame _ _ _ hst₂ hf₃, hn₃, hJ₃, hlt, rfl⟩
  · have hin : i = n := by omega
    subst hin
    refine W.done _ _ _ hst' fun h₁ tk₁ hk₁ => wpAny_execs_nil ?_
    exact done m' _ (hns'.at' fun o e => hk₁ _ o hLw e) (stable i m' s' h₁ tk₁ hJ' (fun b o hb e => hk₁ b o (fun q => hb (.tail _ q)) e) m' fun _ _ => rfl)

/-- what a loop over a made thing wants: the word J, that it stands, the turn, the end -/
def LoopW (prog : Program) (w : World) (A : Around) (env : Env) (x : Str) (body : List Stmt) (Q : Flow → Shared → Prop) (fp : List Addr) (I : Addr) (n : Nat) (P : Nat → Value → Prop) (m : Str → Option Value) (s₂ : Shared) : Prop :=
  ∃ J : Nat → (Str → Option Value) → Shared → Prop, J 0 m s₂ ∧
    (∀ (i : Nat) (m : Str → Option Value) (s : Shared) (h' : Heap) (tk : Nat), J i m s → Kept [env.locals, I] s.heap h' → ∀ m' : Str → Option Value, (∀ y, y ≠ x → m' y = m y) → J i m' { s with heap := h', toks := tk }) ∧
    (∀ (i : Nat) (v : Value) (m₁ : Str → Option Value) (s₁ : Shared), i < n → P i v → (∃ o, s₁.heap.get? I = some o) → s₁.heap.Ns env.locals (fun y => if y = x then some v else m₁ y) → J i (fun y => if y = x then some v else m₁ y) s₁ →
      wpAny (model prog w) A (execs body env) (TurnEnd env.locals fp (J (i + 1)) Q s₁) (fun _ _ => False) s₁) ∧
    ∀ m' s', s'.heap.Ns env.locals m' → J n m' s' → Q .next s'
theorem loop_list {env : Env} {x : Str} {body : List Stmt} {Q : Flow → Shared → Prop} {l : Addr} {items : Array Value} {m : Str → Option Value} (hh : A.handled = none) (hl : s.heap.IsList l items) (hlL : l ≠ env.locals) (hns : s.heap.Ns env.locals m)
    (mk : ∀ h₂ : Heap, h₂ = s.heap.push { cls := .type "list_iterator", data := .fields #[.ref l, .int 0 0] } → Kept [] s.heap h₂ →
      LoopW prog w A env x body Q [s.heap.objs.size, l] s.heap.objs.size items.size (fun i v => items[i]? = some v) m { s with heap := h₂ }) :
    wpAny (model prog w) A (pyIter (.ref l)) (fun it s₂ => LoopJ prog w A env x body Q it s₂) E s := by
  have hlt : l < s.heap.objs.size := let ⟨_, e, _⟩ := hl; Heap.lt_size e
  refine wpAny_pyIter_list hl ?_
  obtain ⟨J, h0, st, turn, done⟩ := mk _ rfl (Kept.push _ _ _)
  refine ⟨_, _, _, _, _, _, m, J, rfl, Walks.list hh s.heap.objs.size l (Nat.ne_of_lt hlt) items, ?_, ⟨⟨_, Heap.get?_push_size _ rfl, rfl, rfl⟩, hl.push _⟩, hns.push _, h0, st, fun i v m₁ s₁ hi hP st => turn i v m₁ s₁ hi hP (let ⟨⟨o, e, _⟩, _⟩ := st; ⟨o, e⟩), done⟩
  intro hm
  rcases List.mem_cons.mp hm with e | hm
  · exact absurd hns.lt (e ▸ Nat.lt_irrefl _)
  · exact hlL (List.mem_singleton.mp hm).symm
theorem loop_tuple {env : Env} {x : Str} {body : List Stmt} {Q : Flow → Shared → Prop} {l : Addr} {items : Array Value} {m : Str → Option Value} (hh : A.handled = none) (hl : s.heap.IsTuple l items) (hlL : l ≠ env.locals) (hns : s.heap.Ns env.locals m)
    (mk : ∀ h₂ : Heap, h₂ = s.heap.push { cls := .type "tuple_iterator", data := .fields #[.ref l, .int 0 0] } → Kept [] s.heap h₂ →
      LoopW prog w A env x body Q [s.heap.objs.size, l] s.heap.objs.size items.size (fun i v => items[i]? = some v) m { s with heap := h₂ }) :
    wpAny (model prog w) A (pyIter (.ref l)) (fun it s₂ => LoopJ prog w A env x body Q it s₂) E s := by
  have hlt : l < s.heap.objs.size := let ⟨_, e, _⟩ := hl; Heap.lt_size e
  refine wpAny_pyIter_tuple hl ?_
  obtain ⟨J, h0, st, turn, done⟩ := mk _ rfl (Kept.push _ _ _)
  refine ⟨_, _, _, _, _, _, m, J, rfl, Walks.tuple hh s.heap.objs.size l (Nat.ne_of_lt hlt) items, ?_, ⟨⟨_, Heap.get?_push_size _ rfl, rfl, rfl⟩, let ⟨o, ho, r⟩ := hl; ⟨o, Heap.get?_push_of_some _ ho, r⟩⟩, hns.push _, h0, st, fun i v m₁ s₁ hi hP st => turn i v m₁ s₁ hi hP (let ⟨⟨o, e, _⟩, _⟩ := st; ⟨o, e⟩), done⟩
  intro hm
  rcases List.mem_cons.mp hm with e | hm
  · exact absurd hns.lt (e ▸ Nat.lt_irrefl _)
  · exact hlL (List.mem_singleton.mp hm).symm
theorem ne_L {g h : Heap} {L' a : Addr} {o : Obj} {m : Str → Option Value} (F : Fr g L' h m) (e : g.get? a = some o) : a ≠ L' := Nat.ne_of_lt (Nat.lt_of_lt_of_le (Heap.lt_size e) F.above)
theorem after_loop {g h h₂ h₃ : Heap} {L' : Addr} {m m' : Str → Option Value} {news : List (Addr × Obj)} (F : Fr g L' h m) (N : News g L' h news) (k2 : Kept [] h h₂) (kk : Kept [L', h.objs.size] h₂ h₃) (hn : h₃.Ns L' m') : Fr g L' h₃ m' ∧ News g L' h₃ news := by
  have key : ∀ b o, b ≠ L' → h.get? b = some o → h₃.get? b = some o := fun b o hb e => kk b o (fun q => by
    rcases List.mem_cons.mp q with q | q
    · exact hb q
    · have := Heap.lt_size e
      rw [List.mem_singleton.mp q] at this; exact Nat.lt_irrefl _ this) (k2 b o (by simp) e)
  exact ⟨⟨hn, fun b o e => key b o (ne_L F e) (F.keep b o e), F.above⟩, fun p hp => ⟨key _ _ (N p hp).2.1 (N p hp).1, (N p hp).2⟩⟩
/-- a loop that has no turn -/
theorem loopW_none {env : Env} {x : Str} {body : List Stmt} {Q : Flow → Shared → Prop} {fp : List Addr} {I : Addr} {P : Nat → Value → Prop} {m : Str → Option Value} {s₂ : Shared}
    (done : ∀ m' h' tk, h'.Ns env.locals m' → Kept [env.locals, I] s₂.heap h' → Q .next { s₂ with heap := h', toks := tk }) : LoopW prog w A env x body Q fp I 0 P m s₂ :=
  ⟨fun _ _ s' => ∃ h tk, s' = { s₂ with heap := h, toks := tk } ∧ Kept [env.locals, I] s₂.heap h, ⟨s₂.heap, s₂.toks, rfl, Kept.refl _ _⟩,
   fun _ _ s h' tk ⟨h, tk', e, k⟩ k' _ _ => by subst e; exact ⟨h', tk, rfl, k.trans k'⟩, fun _ _ _ _ hi => absurd hi (Nat.not_lt_zero _), fun m' s' hn ⟨h, tk, e, k⟩ => by subst e; exact done m' h tk hn k⟩
end
end Mine
namespace Mine
theorem fresh_L0 : True := by
  w_top off
  trivial
end Mine
-- part T1
namespace Mine
section
variable {w : World} {A : Around} {h₀ : Heap} {L : Addr} {m : Str → Option Value} {s : Shared} {Q : Value → Shared → Prop} {E : Value → Shared → Prop}

theorem getL_str {h : Int} {t : Tok} {v : Value} {x y : Str} {es : List DictEntry} : getL y (⟨h, .str x t, v⟩ :: es) = if y = x then some (some v) else getL y es := by
  have e1 : (DictEntry.mk h (.str x t) v).key.isStr y = (x == y) := rfl
  unfold getL
  rw [List.find?_cons, List.any_cons, e1, show DictEntry.refKey ⟨h, .str x t, v⟩ = false from rfl, Bool.false_or]
  by_cases hxy : y = x
  · subst hxy
    rw [if_pos rfl, show (y == y) = true from beq_self_eq_true y]
  · rw [if_neg hxy, show (x == y) = false from by rw [beq_eq_false_iff_ne]; exact Ne.symm hxy]
theorem newtree_spec (H : Here w A h₀ L) (hdp : A.depth < 890) (hun : A.units < 8900) (F : Fr h₀ L s.heap m)
    (ret : ∀ (b : TA) h' tk', Fr h₀ L h' m → Kept [L] s.heap h' → TreeAt w h' (fun _ => b) b (Nd.nil 0) → b.fp.Nodup → (∀ x ∈ b.fp, s.heap.get? x = none) → Q (.ref b.t) { s with heap := h', toks := tk' }) :
    wpAny (model PySem.Challenge.rw_vk0009_01.row.prog w) A (call (.ref 197) []) Q E s := by
  have X := H.inK
  revert X; k_fill; intro X
  refine' call_cls F X (news_all h₀ L s.heap) ?k1 ?k2 ?k3 ?_
  case k1 => k_is
  case k2 => k_is
  case k3 => k_is
  intro x d h1 F1 N1' lt1 l1
  replace l1 := ltN l1
  have kA : Kept [L] s.heap h1 := kept_all F.keep F1 N1' (fun p hp => .tail _ (.tail _ hp))
  have N1 : News h₀ L h1 [(x, instObj 197 d), (d, dictOf [] 0)] := News.sub N1' (by simp)
  have fr1 : ∀ b ob, (b, ob) ∈ [(x, instObj 197 d), (d, dictOf [] 0)] → s.heap.get? b = none := by
    intro b ob hb
    cases q : s.heap.get? b with
    | none => rfl
    | some o =>
      exfalso
      have hm := ltN (lt1 _ (mem_all.mpr ⟨q, (N1 _ hb).2⟩))
      simp only [List.mem_cons, Prod.mk.injEq, List.not_mem_nil, or_false] at hb
      rcases hb with ⟨rfl, _⟩ | ⟨rfl, _⟩
      · exact Nat.lt_irrefl _ (Nat.lt_trans l1 hm)
      · exact Nat.lt_irrefl _ hm
  have H1 : Here w (A.under (.builtin "type.__call__" ⟨[.ref 197], []⟩)) h₀ L := H.of_frames rfl rfl
  refine' codeAny_mono (enter (R := fun v s' => v = .none ∧ Q (.ref x) s') (E := E) H1 F1 N1 ?k6 ?k7 ?k8 ?k9 ?kB ?kW ?c5 ?c2 ?c3 ?c4) ?kM
  case k6 => k_is
  case k7 => k_is
  case k8 => show A.depth + 1 < 1000; omega
  case k9 => exact binds_K (X.keeps F1.keep) rfl (by k_is) rfl rfl rfl
  case kB => exact locs rfl
  case c5 => decide
  case c2 => exact rfl
  case c3 => exact rfl
  case c4 => exact rfl
  case kM =>
    intro r s' hr
    rcases r with e | (v | _ | _ | _)
    · exact hr
    · exact hr.elim
    · exact hr.elim
    · exact hr.elim
    · exact hr
  case kW =>
    intro g' L' h' H' F' N' up down hL'
    obtain ⟨⟨A₀, base, outer, env, p, loose, mean, mg, mb, B', T', hfr, _⟩, X', hh'⟩ := id H'
    (with_reducible show wpAny _ _ _ _ _ _)
    k_fold
    k_steps
    rename Fr g' _ _ _ => Fc
    rename News g' _ _ _ => Nc
    refine for_J rfl rfl ?_
    k_steps
    have h150 : (hd.heap_39 w.params).lookup 150 = some ({ cls := .type "tuple", data := .seq #[] } : Obj) := by k_is
    have g150 := X' _ _ h150
    refine loop_tuple (items := #[]) H'.handled ⟨_, Fr.keep Fc _ _ g150, rfl, 0, rfl⟩ (ne_L Fc g150) Fc.ns (fun h2 _ k2 => loopW_none fun m' h3 tk3 hn3 k3 => ?_)
    obtain ⟨F3, N3⟩ := after_loop Fc Nc k2 k3 hn3
    clear Fc Nc
    dsimp only
    k_steps
    rename_i te _ oe loe hse _ _ _ lte _ tc _ oc loc hsc _ _ _ ltc _ _
    refine ⟨m', F3, fun hk => ⟨rfl, ret ⟨x, d, te, tc⟩ h3 _ (Fr.kept F1 hk ?_ ?_) ?_ ⟨?_, ?_, ⟨[], ?_, .nil⟩, ?_, ⟨loe, loc⟩⟩ ?_ ?_⟩⟩
    · simp only [List.map_cons, List.map_nil, List.mem_cons, List.not_mem_nil, or_false, not_or]
      exact ⟨Ne.symm (N1 _ (.head _)).2.1, Ne.symm (N1 _ (.tail _ (.head _))).2.1⟩
    · intro b hb
      simp only [List.map_cons, List.map_nil, List.mem_cons, List.not_mem_nil, or_false] at hb
      rcases hb with rfl | rfl
      · exact (N1 _ (.head _)).2.2
      · exact (N1 _ (.tail _ (.head _))).2.2
    · intro b o hb e
      refine hk b o ?_ (kA b o hb e)
      simp only [List.map_cons, List.map_nil, List.mem_cons, List.not_mem_nil, or_false, not_or]
      refine ⟨fun q => ?_, fun q => ?_⟩
      · subst q; rw [fr1 _ _ (.head _)] at e; cases e
      · subst q; rw [fr1 _ _ (.tail _ (.head _))] at e; cases e
    · exact (N3 _ (.tail _ (.tail _ (.head _)))).1
    · refine ⟨_, _, (N3 _ (.tail _ (.tail _ (.tail _ (.head _))))).1, fun y => ?_, by show 2 ≤ 50; decide, fun _ => by show 2 ≤ 49; decide⟩
      rw [getL_str, getL_str]
      show _ = some (if y = _ then _ else if y = _ then _ else if y = _ then none else none)
      by_cases h1 : y = Str.ofString "errors"
      · rw [if_pos h1, if_pos h1]
      · rw [if_neg h1, if_neg h1]
        by_cases h2 : y = Str.ofString "_contents"
        · rw [if_pos h2, if_pos h2]
        · rw [if_neg h2, if_neg h2, ite_self]; rfl
    · exact Heap.dictOf_iff.mpr ⟨oe, (N3 _ (.tail _ (.head _))).1, hse⟩
    · exact Heap.dictOf_iff.mpr ⟨oc, (N3 _ (.head _)).1, isDictOf_nil hsc⟩
    · simp only [TA.fp, List.nodup_cons, List.mem_cons, List.not_mem_nil, or_false, not_or, not_false_eq_true, List.nodup_nil, and_true]
      exact ⟨⟨Nat.ne_of_gt l1, Nat.ne_of_lt lte.1, Nat.ne_of_lt ltc.2.1⟩, ⟨Nat.ne_of_lt lte.2, Nat.ne_of_lt ltc.2.2⟩, Nat.ne_of_lt ltc.1⟩
    · have frg : ∀ b, g'.get? b = none → b ≠ x → b ≠ d → s.heap.get? b = none := by
        intro b hb hx hd'
        cases q : s.heap.get? b with
        | none => rfl
        | some o =>
          by_cases hL : b = L
          · subst hL
            obtain ⟨oL, _, _, hg, _⟩ := F1.ns
            rw [up _ oL (by simp [hx, hd']) hg] at hb; cases hb
          · rw [up b o (by simp [hx, hd']) (kA b o (by simpa using hL) q)] at hb; cases hb
      intro y hy
      simp only [TA.fp, List.mem_cons, List.not_mem_nil, or_false] at hy
      rcases hy with rfl | rfl | rfl | rfl
      · exact fr1 _ _ (.head _)
      · exact fr1 _ _ (.tail _ (.head _))
      · exact frg _ (N3 _ (.tail _ (.head _))).2.2 (Nat.ne_of_gt lte.1) (Nat.ne_of_gt lte.2)
      · exact frg _ (N3 _ (.head _)).2.2 (Nat.ne_of_gt ltc.2.1) (Nat.ne_of_gt ltc.2.2)
end
end Mine
namespace Mine
theorem fresh_T1 : True := by
  w_top off
  trivial
end Mine
-- part T2
namespace Mine
section
variable {w : World} {A : Around} {h₀ : Heap} {L : Addr} {m : Str → Option Value} {s : Shared} {Q : Value → Shared → Prop} {E : Value → Shared → Prop}

theorem TreeAt.keptS {h h' : Heap} {ta : Nat → TA} {a : TA} {n : Nd} {S : List Addr} (x : TreeAt w h ta a n) (k : Kept S h h') (hn : ∀ b ∈ a.fp, b ∉ S) (he : n.errs = [] := by rfl) : TreeAt w h' ta a n :=
  ⟨k _ _ (hn _ (by simp [TA.fp])) x.o, x.d.kept k (hn _ (by simp [TA.fp])), let ⟨kvs, hd, hm⟩ := x.e; ⟨kvs, dictOf_kept hd k (hn _ (by simp [TA.fp])), by rw [he] at hm ⊢; cases hm; exact .nil⟩, dictOf_kept x.k k (hn _ (by simp [TA.fp])), x.lo⟩
theorem get_inst_none {a : TA} {expr : Bool} (F : Fr h₀ L s.heap m) (X : (hd.heap_39 w.params).In h₀) (ho : s.heap.get? a.t = some (instObj 197 a.td)) (hdn : Names s.heap a.td (treeNames a none))
    (h : Q (.ref 65) { s with toks := s.toks + 1 }) : wpAny (model PySem.Challenge.rw_vk0009_01.row.prog w) A (getAttr (.ref a.t) (Str.ofString "_instance") expr) Q E s := by
  revert X; k_fill; intro X
  obtain ⟨es, n, h1, h2⟩ := hdn
  refine' get_cls (a := .ref 65) (ox := instObj 197 a.td) (C := 197) (es := es) (n := n) F X ⟨ho, rfl, rfl, h1⟩ ?k1 ?k2 ?k3 ?k4 rfl ?k5 ((h2.1 _).trans rfl) h
  case k1 => k_is
  case k2 => k_is
  case k3 => k_is
  case k4 => k_is
  case k5 => decide +kernel
theorem get_inst_some {a : TA} {v : Value} {expr : Bool} (F : Fr h₀ L s.heap m) (X : (hd.heap_39 w.params).In h₀) (ho : s.heap.get? a.t = some (instObj 197 a.td)) (hdn : Names s.heap a.td (treeNames a (some v))) (hi : handedIn v = true)
    (h : Q v { s with toks := s.toks + 1 }) : wpAny (model PySem.Challenge.rw_vk0009_01.row.prog w) A (getAttr (.ref a.t) (Str.ofString "_instance") expr) Q E s := by
  revert X; k_fill; intro X
  refine' get_names F X ho rfl rfl rfl hdn ?k1 ?k2 ?k3 ?k4 rfl hi h
  case k1 => k_is
  case k2 => k_is
  case k3 => k_is
  case k4 => k_is

theorem setdefault_pairs {prog : Program} {K : Type} [DecidableEq K] {knd : PySem.KeyKind prog w K} {d : Addr} {kvs : List (K × Value)} {k : K} {key dflt : Value} (hkey : knd.is k key = true) (hd : (d == sysModules) = false) (hD : s.heap.DictOf knd d kvs) (hz : kvs.length ≤ sizeLine)
    (h1 : ∀ v, valueAt kvs k = some v → Q v { s with toks := s.toks + 1 })
    (h2 : valueAt kvs k = none → ∀ h', h'.DictOf knd d (stored kvs k dflt) → Heap.SameBut d s.heap h' → Q dflt { s with heap := h', toks := s.toks + 1 }) :
    wpAny (model prog w) A (call (.builtin "dict.setdefault") [.ref d, key, dflt]) Q E s :=
  call_meetsIn PySem.F.slot_dict_setdefault hD.typeIs PySem.F.entry_dict_setdefault (PySem.F.args_dict_setdefault_3 _ _ _) (kt_meets_setdefault knd d hkey hd dflt) ⟨kvs, hD, hz, h1, h2⟩
theorem getitem_new0 {a : TA} {kvs : List (Ky × Value)} {k : Ky} {kv : Value} (H : Here w A h₀ L) (hdp : A.depth < 880) (hun : A.units < 8800) (F : Fr h₀ L s.heap m)
    (ho : s.heap.get? a.t = some (instObj 197 a.td)) (hdn : Names s.heap a.td (treeNames a none)) (hc : s.heap.DictOf (kyKind prg w) a.tc kvs) (hlo : (a.tc == sysModules) = false) (hk : k.is kv = true)
    (hnd : a.fp.Nodup) (hoL : a.tc ≠ L) (ho0 : h₀.get? a.tc = none) (hin : (valueAt kvs k).isSome = false) (hlen : kvs.length ≤ 1000)
    (ret : ∀ (b : TA) h' tk', Kept [a.tc] s.heap h' → h'.DictOf (kyKind prg w) a.tc (kvs ++ [(k, .ref b.t)]) → TreeAt w h' (fun _ => b) b (Nd.nil 0) → b.fp.Nodup → (∀ x ∈ b.fp, s.heap.get? x = none) →
      Q (.ref b.t) { s with heap := h', toks := tk' }) :
    wpAny (model PySem.Challenge.rw_vk0009_01.row.prog w) A (call (.ref 172) [.ref a.t, kv]) Q E s := by
  obtain ⟨otc, hotc, hdtc⟩ := Heap.dictOf_iff.mp hc
  have N : News h₀ L s.heap [(a.tc, otc)] := fun p hp => by
    rw [List.mem_singleton.mp hp]; exact ⟨hotc, hoL, ho0⟩
  simp only [TA.fp, List.nodup_cons, List.mem_cons, List.not_mem_nil, or_false, not_or, not_false_eq_true, List.nodup_nil, and_true] at hnd
  have X := H.inK
  revert X; k_fill; intro X
  refine wpAny_call ?_
  refine' codeAny_mono (enter (R := Q) (E := E) H F N ?k6 ?k7 ?k8 ?k9 ?kB ?kW ?c5 ?c2 ?c3 ?c4) ?kM
  case k6 => k_is
  case k7 => k_is
  case k8 => show A.depth < 1000; omega
  case k9 => exact BindsTo.of_eq rfl
  case kB => exact locs rfl
  case c5 => decide
  case c2 => exact rfl
  case c3 => exact rfl
  case c4 => exact rfl
  case kM => exact fun _ _ h => h
  case kW =>
    intro g' L' h' H' F' N' up down hL'
    have up1 : Kept [a.tc] s.heap g' := fun b o n e => up b o (by simpa using n) e
    have ho1 := up1 _ _ (by simpa using hnd.1.2.2) ho
    have hd1 := hdn.kept up1 (by simpa using hnd.2.1.2)
    obtain ⟨⟨A₀, base, outer, env, p, loose, mean, mg, mb, B', T', hfr, _⟩, X', hh'⟩ := id H'
    (with_reducible show wpAny _ _ _ _ _ _)
    k_fold
    repeat' (((fail_if_success (with_reducible show wpAny _ _ (getAttr _ _ _) _ _ _))); first | (k_unfold; (try dsimp only)) | (k_end; wrow_close) | walk1 | (dsimp only; walk1) | (leave1; walk_say "STEP leave1"; try dsimp only) | fail "no step")
    rename Fr g' _ _ _ => Fc
    refine get_inst_none Fc X' (kept_F Fc _ _ (by simp) ho1) (hd1.kept (kept_F Fc) (by simp)) ?_
    repeat' (((fail_if_success (with_reducible show wpAny _ _ (getAttr _ _ _) _ _ _))); first | (k_unfold; (try dsimp only)) | (k_end; wrow_close) | walk1 | (dsimp only; walk1) | (leave1; walk_say "STEP leave1"; try dsimp only) | fail "no step")
    rename Fr g' _ _ _ => Fc
    refine get_contents Fc X' (kept_F Fc _ _ (by simp) ho1) (hd1.kept (kept_F Fc) (by simp)) ?_
    repeat' (((fail_if_success (with_reducible show wpAny _ _ (getMethod _ _ _) _ _ _))); first | (k_unfold; (try dsimp only)) | (k_end; wrow_close) | walk1 | (dsimp only; walk1) | (leave1; walk_say "STEP leave1"; try dsimp only) | fail "no step")
    have hcur := Heap.dictOf_iff.mpr ⟨_, News.get (by assumption) (.head _), hdtc⟩
    refine getMethod_builtin hcur.typeIs PySem.F.plainAttrs_dict PySem.F.slot_dict_setdefault PySem.F.type_dict_setdefault hcur.mapOf.noDict ?_
    repeat' (((fail_if_success (with_reducible show wpAny _ _ (call (.ref 197) _) _ _ _))); first | (k_unfold; (try dsimp only)) | (k_end; wrow_close) | walk1 | (dsimp only; walk1) | (leave1; walk_say "STEP leave1"; try dsimp only) | fail "no step")
    rename Fr g' _ _ _ => Fc
    rename News g' _ _ _ => Nc
    refine newtree_spec H' (by show A.depth + 1 < 890; omega) (by show A.units + 3 < 8900; omega) Fc (fun b h2 tk2 F2 hk2 hm2 hnd2 hfr2 => ?_)
    have N2 := News.kept Nc hk2 (fun p hp => by simpa using (Nc p hp).2.1)
    (try k_fold)
    repeat' (((fail_if_success (with_reducible show wpAny _ _ (call (.builtin _) _) _ _ _))); first | (k_unfold; (try dsimp only)) | (k_end; wrow_close) | walk1 | (dsimp only; walk1) | (leave1; walk_say "STEP leave1"; try dsimp only) | fail "no step")
    refine setdefault_pairs hk hlo (Heap.dictOf_iff.mpr ⟨_, News.get N2 (.head _), hdtc⟩) (by rw [sizeLine_eq]; omega) (fun v hv => ?_) (fun _ h3 hd3 hs3 => ?_)
    · rw [hv] at hin; cases hin
    have F3 := Fr.kept F2 (Kept.sameBut hs3) (by simpa using Ne.symm (N2 _ (.head _)).2.1) (by simpa using (N2 _ (.head _)).2.2)
    have hx : ∀ x ∈ b.fp, x ≠ a.tc := fun x hxb e => by
      have := hfr2 x hxb
      rw [e, News.get Nc (.head _)] at this; cases this
    dsimp only
    k_steps
    all_goals (try dsimp only)
    all_goals (try k_unfold)
    all_goals (try dsimp only)
    all_goals refine Back.intro (by assumption) fun hk' => ?_
    all_goals refine ret b _ _ (by simpa using hk') (stored_new hin ▸ hd3) (hm2.keptS (Kept.sameBut hs3) (by simpa using hx)) hnd2 (fun x hxb => ?_)
    all_goals
      cases q : s.heap.get? x with
      | none => rfl
      | some o =>
        have := Fc.keep _ _ (up1 x o (by simpa using hx x hxb) q)
        rw [hfr2 x hxb] at this; cases this
end
end Mine
namespace Mine
theorem fresh_T2 : True := by
  w_top off
  trivial
end Mine
-- part T3
namespace Mine
section
variable {w : World} {A : Around} {h₀ : Heap} {L : Addr} {m : Str → Option Value} {s : Shared} {Q : Value → Shared → Prop} {E : Value → Shared → Prop}

def Sh.exc : Sh → Ky → String
  | .int, _ => "TypeError"
  | .list _, .s _ => "TypeError"
  | .list _, .i _ => "IndexError"
  | .dict _, _ => "KeyError"
theorem kind_ne : ¬ (Str.ofString "kind" = Str.ofString "") := by decide +kernel
theorem place_ne : ¬ (Str.ofString "place" = Str.ofString "") := by decide +kernel
theorem key_ne : ¬ (Str.ofString "key" = Str.ofString "") := by decide +kernel
def Ky.small : Ky → Prop
  | .s x => PyData.strOk x = true
  | .i j => -1000 ≤ j ∧ j ≤ 1000
theorem sub_ok {prog : Program} {value slice : PySem.Expr} {v : Value} {sh : Sh} {k : Ky} {kv : Value} (hv : ∀ sh', sh' = sh → prog = prg → ShapeAt w s.heap v sh') (hp : prog = prg) (hk : k.is kv = true) (hsm : k.small) (hl : sh.lacks k = Str.ofString "")
    (h : ∀ x tk, Q x { s with toks := tk })
    (hs : subscripted slice false v kv = operate [v, kv] (getItem v kv) := by with_unfolding_all rfl) :
    wpAny (model prog w) A (subscriptTail value slice v kv) Q E s := by
  subst hp
  have hv := hv sh rfl rfl
  cases sh with
  | int => exact absurd hl kind_ne
  | dict kvs =>
    obtain ⟨a, rfl, hd, hlo⟩ := hv
    have hsome : (valueAt kvs k).isSome = true := by
      cases q : (valueAt kvs k).isSome with
      | true => rfl
      | false =>
        have : Sh.lacks (.dict kvs) k = Str.ofString "key" := by show (if _ then _ else _) = _; rw [q]; rfl
        exact absurd (this.symm.trans hl) key_ne
    obtain ⟨x, hx⟩ := Option.isSome_iff_exists.mp hsome
    exact sub_dict (knd := kyKind prg w) hk hd hx (h x _) hs
  | list vs =>
    obtain ⟨a, rfl, hd, hlen⟩ := hv
    rcases Ky.shape hk with ⟨x, t, rfl, rfl⟩ | ⟨j, t, rfl, rfl⟩
    · exact absurd hl kind_ne
    · have hin : j < vs.length ∧ -(vs.length : Int) ≤ j := by
        by_cases q : j < vs.length ∧ -(vs.length : Int) ≤ j
        · exact q
        · have : Sh.lacks (.list vs) (.i j) = Str.ofString "place" := if_neg q
          exact absurd (this.symm.trans hl) place_ne
      have hsz : vs.toArray.size = vs.length := List.size_toArray
      refine tail_any hd.typeIs slot_list_getitem.lookup ?_ hs
      by_cases h0 : 0 ≤ j
      · have hj : j.toNat < vs.toArray.size := by omega
        exact wpAny_getItem_list hd h0 (by omega) (Array.getElem?_eq_getElem hj) (h _ s.toks)
      · have hj : (j + vs.toArray.size).toNat < vs.toArray.size := by omega
        exact wpAny_getItem_list_neg hd (by omega) (by omega) (by omega) (Array.getElem?_eq_getElem hj) (h _ s.toks)

theorem shown_str : typeName (.type "str") = pure "str" := by unfold typeName; rw [find?_eq_fast]; kernel_rfl
theorem nameOf_str {M : Model} {x : Str} {t : Tok} {Q : String → Shared → Prop} (h : Q "str" s) : wpAny M A (PySem.typeNameOf (.str x t)) Q E s := by
  unfold PySem.typeNameOf shownTypeOf
  refine wpAny_bind (wpAny_bind (wpAny_typeOf (T := "str") rfl ?_))
  simp only [show (Value.type "str" == Value.type "builtin_function_or_method") = false by decide, Bool.false_eq_true, if_false]
  refine wpAny_pure ?_
  rw [shown_str]; exact wpAny_pure h
theorem getItem_list_str {prog : Program} {l : Addr} {items : Array Value} {x : Str} {t : Tok} (hA : A.handled = none) (hl : s.heap.IsList l items)
    (hE : ∀ h' tk e, Heap.NewExc s.heap h' e "TypeError" → E (.ref e) { s with heap := h', toks := tk }) :
    wpAny (model prog w) A (getItem (.ref l) (.str x t)) Q E s := by
  unfold getItem
  refine wpAny_holding ?_
  refine wpAny_bind (wpAny_sequenceKey hl.typeIs (by decide) ?_)
  refine wpAny_bind (wpAny_callSpecial?_slot (name := Str.ofString "__getitem__") hl.typeIs slot_list_getitem
    (wpAny_call_entry slot_list_getitem hl.typeIs entry_list_getitem ?_ (args_list_getitem _ _)))
  unfold Builtin.«list.__getitem__»
  refine wpAny_bind (wpAny_pure ?_)
  dsimp only
  refine wpAny_bind ?_
  unfold Builtin.List.listSubscript?
  refine wpAny_bind (wpAny_specialOf (v := .str x t) rfl (r := none) (by rw [typeLookup_type, builtinLookup_eq_fast]; kernel_rfl) ?_)
  refine wpAny_pure ?_
  refine wpAny_bind (wpAny_typeOf (T := "str") rfl ?_)
  rw [if_pos (by decide)]
  refine wpAny_bind ?_
  unfold Builtin.List.listBadSubscript
  refine wpAny_bind (wpAny_rule ?_)
  refine wpAny_bind (nameOf_str ?_)
  exact_raiseError plainExc_TypeError hA hE

theorem sub_raise {value slice : PySem.Expr} {v : Value} {sh : Sh} {k : Ky} {kv : Value} (hA : A.handled = none) (hv : ShapeAt w s.heap v sh) (hk : k.is kv = true) (hsm : k.small) (hl : sh.lacks k ≠ Str.ofString "")
    (hE : ∀ h' tk e, Heap.NewExc s.heap h' e (sh.exc k) → E (.ref e) { s with heap := h', toks := tk })
    (hs : subscripted slice false v kv = operate [v, kv] (getItem v kv) := by with_unfolding_all rfl) :
    wpAny (model PySem.Challenge.rw_vk0009_01.row.prog w) A (subscriptTail value slice v kv) Q E s := by
  cases sh with
  | dict kvs =>
    obtain ⟨a, rfl, hd, hlo⟩ := hv
    have hnone : valueAt kvs k = none := by
      cases q : valueAt kvs k with
      | none => rfl
      | some x =>
        have : Sh.lacks (.dict kvs) k = Str.ofString "" := by show (if _ then _ else _) = _; rw [q]; rfl
        exact absurd this hl
    exact tail_any hd.typeIs slot_dict_getitem.lookup (wpAny_getItem_missing_of (knd := kyKind prg w) hk hlo hA hd.mapOf hnone fun h' e x => hE h' _ e x) hs
  | list vs =>
    obtain ⟨a, rfl, hd, hlen⟩ := hv
    refine tail_any hd.typeIs slot_list_getitem.lookup ?_ hs
    rcases Ky.shape hk with ⟨x, t, rfl, rfl⟩ | ⟨j, t, rfl, rfl⟩
    · exact getItem_list_str hA hd hE
    · have hsz : vs.toArray.size = vs.length := List.size_toArray
      have hout : ¬ (j < vs.length ∧ -(vs.length : Int) ≤ j) := fun q => hl (if_pos q)
      have hb : -1000 ≤ j ∧ j ≤ 1000 := hsm
      exact wpAny_getItem_list_out hA hd (by omega) (by omega) (by omega) hE
  | int =>
    obtain ⟨n, t, rfl⟩ := hv
    unfold subscriptTail
    refine wpAny_bind ?_
    unfold getitemInPython
    refine wpAny_bind (wpAny_specialOf (v := .int n t) (T := "int") rfl (name := Str.ofString "__getitem__") (r := none) (by rw [typeLookup_type, builtinLookup_eq_fast]; kernel_rfl) ?_)
    refine wpAny_pure ?_
    refine wpAny_bind ?_
    rw [hs]
    refine wpAny_operating ?_
    unfold getItem
    refine wpAny_holding ?_
    refine wpAny_bind (wpAny_sequenceKey (T := "int") rfl (by decide) ?_)
    refine wpAny_bind (wpAny_callSpecial?_none (T := "int") rfl (name := Str.ofString "__getitem__") (by rw [typeLookup_type, builtinLookup_eq_fast]; kernel_rfl) ?_)
    refine wpAny_bind (m := isType (.int n t)) ?_
    unfold isType
    refine wpAny_bind (m := notAStandIn (.int n t)) (wpAny_pure (wpAny_pure ?_))
    show wpAny _ _ (PySem.typeNameOf (.int n t) >>= _) _ _ _
    refine wpAny_bind (wpAny_typeNameOf_int ?_)
    exact_raiseError plainExc_TypeError hA hE
end
end Mine
namespace Mine
theorem fresh_T3 : True := by
  w_top off
  trivial
end Mine
-- part T4
namespace Mine
section
variable {w : World} {A : Around} {h₀ : Heap} {L : Addr} {m : Str → Option Value} {s : Shared} {Q : Value → Shared → Prop} {E : Value → Shared → Prop}

theorem ShapeAt.handed {h : Heap} {v : Value} {sh : Sh} (x : ShapeAt w h v sh) : handedIn v = true := by
  cases sh with
  | int => obtain ⟨n, t, rfl⟩ := x; rfl
  | list vs => obtain ⟨a, rfl, _⟩ := x; rfl
  | dict kvs => obtain ⟨a, rfl, _⟩ := x; rfl
theorem tree_notIn {a : TA} {p : Option Value} {kv : Value} (F : Fr h₀ L s.heap m) (X : (hd.heap_39 w.params).In h₀) (ho : s.heap.get? a.t = some (instObj 197 a.td)) (hdn : Names s.heap a.td (treeNames a p))
    (h : wpAny (model PySem.Challenge.rw_vk0009_01.row.prog w) A (call (.ref 165) [.ref a.t, kv]) (fun r s' => ∃ b, r = .bool b ∧ Q (.bool (!b)) s') E s) : wpAny (model PySem.Challenge.rw_vk0009_01.row.prog w) A (compareOp .NotIn kv (.ref a.t)) Q E s := by
  revert X; k_fill; intro X
  obtain ⟨es, n, I, _⟩ := tree_inst ho hdn
  refine' notIn_K F X I ?k1 ?k2 (wpAny_mono h (fun r s' z => by obtain ⟨b, rfl, q⟩ := z; exact wpAny_truthy_bool q) fun _ _ z => z)
  case k1 => k_is
  case k2 => k_is
theorem isNot_unset {prog : Program} {v : Value} {sh : Sh} (hv : ShapeAt w s.heap v sh) (h65 : s.heap.get? 65 = some (instObj 59 64)) (h : Q (.bool true) s) : wpAny (model prog w) A (compareOp .IsNot v (.ref 65)) Q E s := by
  have key : wpAny (model prog w) A (isSame v (.ref 65)) (fun b s' => b = false ∧ s' = s) E s := by
    cases sh with
    | int => obtain ⟨n, t, rfl⟩ := hv; exact wpAny_pure ⟨rfl, rfl⟩
    | list vs =>
      obtain ⟨a, rfl, ⟨o, ho, hc, r⟩, _⟩ := hv
      have hne : a ≠ 65 := fun e => by rw [e, h65] at ho; cases ho; cases hc
      unfold isSame
      dsimp only
      rw [if_neg (by simpa using hne)]
      refine wpAny_bind (wpAny_load ho (wpAny_bind (wpAny_load h65 ?_)))
      rw [hc]
      exact wpAny_pure ⟨rfl, rfl⟩
    | dict kvs =>
      obtain ⟨a, rfl, ⟨o, es, ep, ho, hx, r⟩, _⟩ := hv
      have hne : a ≠ 65 := fun e => by rw [e, h65] at ho; cases ho; cases hx.1
      unfold isSame
      dsimp only
      rw [if_neg (by simpa using hne)]
      refine wpAny_bind (wpAny_load ho (wpAny_bind (wpAny_load h65 ?_)))
      rw [hx.1]
      exact wpAny_pure ⟨rfl, rfl⟩
  show wpAny _ _ (isSame v (.ref 65) >>= fun b => pure (Value.bool !b)) _ _ _
  exact wpAny_bind (wpAny_mono key (fun b s' e => by obtain ⟨rfl, rfl⟩ := e; exact wpAny_pure h) fun _ _ e => e)
theorem getitem_new1 {a : TA} {kvs : List (Ky × Value)} {k : Ky} {kv v : Value} {sh : Sh} (H : Here w A h₀ L) (hdp : A.depth < 880) (hun : A.units < 8800) (F : Fr h₀ L s.heap m)
    (ho : s.heap.get? a.t = some (instObj 197 a.td)) (hdn : Names s.heap a.td (treeNames a (some v))) (hc : s.heap.DictOf (kyKind prg w) a.tc kvs) (hlo : (a.tc == sysModules) = false) (hk : k.is kv = true)
    (hv : ShapeAt w s.heap v sh) (hvn : ∀ c, v = .ref c → c ≠ a.tc) (hsm : k.small) (hla : sh.lacks k = Str.ofString "")
    (hnd : a.fp.Nodup) (hoL : a.tc ≠ L) (ho0 : h₀.get? a.tc = none) (hin : (valueAt kvs k).isSome = false) (hlen : kvs.length ≤ 1000)
    (ret : ∀ (b : TA) h' tk', Kept [a.tc] s.heap h' → h'.DictOf (kyKind prg w) a.tc (kvs ++ [(k, .ref b.t)]) → TreeAt w h' (fun _ => b) b (Nd.nil 0) → b.fp.Nodup → (∀ x ∈ b.fp, s.heap.get? x = none) →
      Q (.ref b.t) { s with heap := h', toks := tk' }) :
    wpAny (model PySem.Challenge.rw_vk0009_01.row.prog w) A (call (.ref 172) [.ref a.t, kv]) Q E s := by
  obtain ⟨otc, hotc, hdtc⟩ := Heap.dictOf_iff.mp hc
  have N : News h₀ L s.heap [(a.tc, otc)] := fun p hp => by
    rw [List.mem_singleton.mp hp]; exact ⟨hotc, hoL, ho0⟩
  simp only [TA.fp, List.nodup_cons, List.mem_cons, List.not_mem_nil, or_false, not_or, not_false_eq_true, List.nodup_nil, and_true] at hnd
  have X := H.inK
  revert X; k_fill; intro X
  refine wpAny_call ?_
  refine' codeAny_mono (enter (R := Q) (E := E) H F N ?k6 ?k7 ?k8 ?k9 ?kB ?kW ?c5 ?c2 ?c3 ?c4) ?kM
  case k6 => k_is
  case k7 => k_is
  case k8 => show A.depth < 1000; omega
  case k9 => exact BindsTo.of_eq rfl
  case kB => exact locs rfl
  case c5 => decide
  case c2 => exact rfl
  case c3 => exact rfl
  case c4 => exact rfl
  case kM => exact fun _ _ h => h
  case kW =>
    intro g' L' h' H' F' N' up down hL'
    have up1 : Kept [a.tc] s.heap g' := fun b o n e => up b o (by simpa using n) e
    have ho1 := up1 _ _ (by simpa using hnd.1.2.2) ho
    have hd1 := hdn.kept up1 (by simpa using hnd.2.1.2)
    have hc1 : ∀ h, News g' L' h [(a.tc, otc)] → h.DictOf (kyKind prg w) a.tc kvs := fun h N => Heap.dictOf_iff.mpr ⟨_, News.get N (.head _), hdtc⟩
    have hv1 := hv.kept up1 (by simpa using hvn)
    obtain ⟨⟨A₀, base, outer, env, p, loose, mean, mg, mb, B', T', hfr, _⟩, X', hh'⟩ := id H'
    (with_reducible show wpAny _ _ _ _ _ _)
    k_fold
    repeat' (((fail_if_success (with_reducible show wpAny _ _ (getAttr _ _ _) _ _ _))); first | (k_unfold; (try dsimp only)) | (k_end; wrow_close) | walk1 | (dsimp only; walk1) | (leave1; walk_say "STEP leave1"; try dsimp only) | fail "no step")
    rename Fr g' _ _ _ => Fc
    refine get_inst_some Fc X' (kept_F Fc _ _ (by simp) ho1) (hd1.kept (kept_F Fc) (by simp)) hv.handed ?_
    repeat' (((fail_if_success (with_reducible show wpAny _ _ (compareOp _ _ _) _ _ _))); first | (k_unfold; (try dsimp only)) | (k_end; wrow_close) | walk1 | (dsimp only; walk1) | (leave1; walk_say "STEP leave1"; try dsimp only) | fail "no step")
    have h65 : (hd.heap_39 w.params).lookup 65 = some (instObj 59 64) := by k_is
    refine isNot_unset (hv1.kept (kept_F Fc) (by simp)) (Fr.keep Fc _ _ (X' _ _ h65)) ?_
    repeat' (((fail_if_success (with_reducible show wpAny _ _ (compareOp _ _ _) _ _ _))); first | (k_unfold; (try dsimp only)) | (k_end; wrow_close) | walk1 | (dsimp only; walk1) | (leave1; walk_say "STEP leave1"; try dsimp only) | fail "no step")
    rename Fr g' _ _ _ => Fc
    rename News g' _ _ _ => Nc
    refine tree_notIn Fc X' (kept_F Fc _ _ (by simp) ho1) (hd1.kept (kept_F Fc) (by simp)) ?_
    refine contains_spec (H'.of_frames rfl rfl) (by show A.depth + 1 < 900; omega) (by show A.units + 3 < 9000; omega) Fc (kept_F Fc _ _ (by simp) ho1) (hd1.kept (kept_F Fc) (by simp)) (hc1 _ Nc) hlo hk (fun h2 tk2 hk2 => ?_)
    have F2 := Fr.kept Fc hk2 (by simp) (by simp)
    have N2 := News.kept Nc hk2 (by simp)
    clear Fc Nc
    rw [hin]
    refine ⟨_, rfl, ?_⟩
    dsimp only
    (try k_fold)
    repeat' (((fail_if_success (with_reducible show wpAny _ _ (getAttr _ _ _) _ _ _))); first | (k_unfold; (try dsimp only)) | (k_end; wrow_close) | walk1 | (dsimp only; walk1) | (leave1; walk_say "STEP leave1"; try dsimp only) | fail "no step")
    rename Fr g' _ _ _ => Fc
    refine get_inst_some Fc X' (kept_F Fc _ _ (by simp) ho1) (hd1.kept (kept_F Fc) (by simp)) hv.handed ?_
    repeat' (((fail_if_success (with_reducible show wpAny _ _ (subscriptTail _ _ _ _) _ _ _))); first | (k_unfold; (try dsimp only)) | (k_end; wrow_close) | walk1 | (dsimp only; walk1) | (leave1; walk_say "STEP leave1"; try dsimp only) | fail "no step")
    rename Fr g' _ _ _ => Fc
    refine sub_ok (sh := sh) (fun sh' e _ => e ▸ hv1.kept (kept_F Fc) (by simp)) rfl hk hsm hla (fun x tkx => ?_)
    repeat' (((fail_if_success (with_reducible show wpAny _ _ (getAttr _ _ _) _ _ _))); first | (k_unfold; (try dsimp only)) | (k_end; wrow_close) | walk1 | (dsimp only; walk1) | (leave1; walk_say "STEP leave1"; try dsimp only) | fail "no step")
    rename Fr g' _ _ _ => Fc
    refine get_contents Fc X' (kept_F Fc _ _ (by simp) ho1) (hd1.kept (kept_F Fc) (by simp)) ?_
    repeat' (((fail_if_success (with_reducible show wpAny _ _ (getMethod _ _ _) _ _ _))); first | (k_unfold; (try dsimp only)) | (k_end; wrow_close) | walk1 | (dsimp only; walk1) | (leave1; walk_say "STEP leave1"; try dsimp only) | fail "no step")
    have hcur := Heap.dictOf_iff.mpr ⟨_, News.get (by assumption) (.head _), hdtc⟩
    refine getMethod_builtin hcur.typeIs PySem.F.plainAttrs_dict PySem.F.slot_dict_setdefault PySem.F.type_dict_setdefault hcur.mapOf.noDict ?_
    repeat' (((fail_if_success (with_reducible show wpAny _ _ (call (.ref 197) _) _ _ _))); first | (k_unfold; (try dsimp only)) | (k_end; wrow_close) | walk1 | (dsimp only; walk1) | (leave1; walk_say "STEP leave1"; try dsimp only) | fail "no step")
    rename Fr g' _ _ _ => Fc
    rename News g' _ _ _ => Nc
    refine newtree_spec H' (by show A.depth + 1 < 890; omega) (by show A.units + 3 < 8900; omega) Fc (fun b h2 tk2 F2 hk2 hm2 hnd2 hfr2 => ?_)
    have N2 := News.kept Nc hk2 (fun p hp => by simpa using (Nc p hp).2.1)
    (try k_fold)
    repeat' (((fail_if_success (with_reducible show wpAny _ _ (call (.builtin _) _) _ _ _))); first | (k_unfold; (try dsimp only)) | (k_end; wrow_close) | walk1 | (dsimp only; walk1) | (leave1; walk_say "STEP leave1"; try dsimp only) | fail "no step")
    refine setdefault_pairs hk hlo (Heap.dictOf_iff.mpr ⟨_, News.get N2 (.head _), hdtc⟩) (by rw [sizeLine_eq]; omega) (fun v hv => ?_) (fun _ h3 hd3 hs3 => ?_)
    · rw [hv] at hin; cases hin
    have F3 := Fr.kept F2 (Kept.sameBut hs3) (by simpa using Ne.symm (N2 _ (.head _)).2.1) (by simpa using (N2 _ (.head _)).2.2)
    have hx : ∀ x ∈ b.fp, x ≠ a.tc := fun x hxb e => by
      have := hfr2 x hxb
      rw [e, News.get Nc (.head _)] at this; cases this
    dsimp only
    k_steps
    all_goals (try dsimp only)
    all_goals (try k_unfold)
    all_goals (try dsimp only)
    all_goals refine Back.intro (by assumption) fun hk' => ?_
    all_goals refine ret b _ _ (by simpa using hk') (stored_new hin ▸ hd3) (hm2.keptS (Kept.sameBut hs3) (by simpa using hx)) hnd2 (fun x hxb => ?_)
    all_goals
      cases q : s.heap.get? x with
      | none => rfl
      | some o =>
        have := Fc.keep _ _ (up1 x o (by simpa using hx x hxb) q)
        rw [hfr2 x hxb] at this; cases this
end
end Mine
namespace Mine
theorem fresh_T4 : True := by
  w_top off
  trivial
end Mine
-- part T5
namespace Mine
section
variable {w : World} {A : Around} {h₀ : Heap} {L : Addr} {m : Str → Option Value} {s : Shared} {Q : Value → Shared → Prop} {E : Value → Shared → Prop}

theorem getitem_there0 {a : TA} {kvs : List (Ky × Value)} {k : Ky} {kv cv : Value} (H : Here w A h₀ L) (hdp : A.depth < 880) (hun : A.units < 8800) (F : Fr h₀ L s.heap m)
    (ho : s.heap.get? a.t = some (instObj 197 a.td)) (hdn : Names s.heap a.td (treeNames a none)) (hc : s.heap.DictOf (kyKind prg w) a.tc kvs) (hlo : (a.tc == sysModules) = false) (hk : k.is kv = true)
    (hin : valueAt kvs k = some cv) (hlen : kvs.length ≤ 1000)
    (ret : ∀ h' tk', Kept [] s.heap h' → Q cv { s with heap := h', toks := tk' }) :
    wpAny (model PySem.Challenge.rw_vk0009_01.row.prog w) A (call (.ref 172) [.ref a.t, kv]) Q E s := by
  have X := H.inK
  revert X; k_fill; intro X
  refine wpAny_call ?_
  refine' codeAny_mono (enter (R := Q) (E := E) H F News.nil ?k6 ?k7 ?k8 ?k9 ?kB ?kW ?c5 ?c2 ?c3 ?c4) ?kM
  case k6 => k_is
  case k7 => k_is
  case k8 => show A.depth < 1000; omega
  case k9 => exact BindsTo.of_eq rfl
  case kB => exact locs rfl
  case c5 => decide
  case c2 => exact rfl
  case c3 => exact rfl
  case c4 => exact rfl
  case kM => exact fun _ _ h => h
  case kW =>
    intro g' L' h' H' F' N' up down hL'
    have up1 : Kept [] s.heap g' := fun b o n e => up b o (by simp) e
    have ho1 := up1 _ _ (by simp) ho
    have hd1 := hdn.kept up1 (by simp)
    have hc1 := dictOf_kept hc up1 (by simp)
    obtain ⟨⟨A₀, base, outer, env, p, loose, mean, mg, mb, B', T', hfr, _⟩, X', hh'⟩ := id H'
    (with_reducible show wpAny _ _ _ _ _ _)
    k_fold
    repeat' (((fail_if_success (with_reducible show wpAny _ _ (getAttr _ _ _) _ _ _))); first | (k_unfold; (try dsimp only)) | (k_end; wrow_close) | walk1 | (dsimp only; walk1) | (leave1; walk_say "STEP leave1"; try dsimp only) | fail "no step")
    rename Fr g' _ _ _ => Fc
    refine get_inst_none Fc X' (kept_F Fc _ _ (by simp) ho1) (hd1.kept (kept_F Fc) (by simp)) ?_
    repeat' (((fail_if_success (with_reducible show wpAny _ _ (getAttr _ _ _) _ _ _))); first | (k_unfold; (try dsimp only)) | (k_end; wrow_close) | walk1 | (dsimp only; walk1) | (leave1; walk_say "STEP leave1"; try dsimp only) | fail "no step")
    rename Fr g' _ _ _ => Fc
    refine get_contents Fc X' (kept_F Fc _ _ (by simp) ho1) (hd1.kept (kept_F Fc) (by simp)) ?_
    repeat' (((fail_if_success (with_reducible show wpAny _ _ (getMethod _ _ _) _ _ _))); first | (k_unfold; (try dsimp only)) | (k_end; wrow_close) | walk1 | (dsimp only; walk1) | (leave1; walk_say "STEP leave1"; try dsimp only) | fail "no step")
    have hcur := dictOf_kept hc1 (kept_F (by assumption)) (by simp)
    refine getMethod_builtin hcur.typeIs PySem.F.plainAttrs_dict PySem.F.slot_dict_setdefault PySem.F.type_dict_setdefault hcur.mapOf.noDict ?_
    repeat' (((fail_if_success (with_reducible show wpAny _ _ (call (.ref 197) _) _ _ _))); first | (k_unfold; (try dsimp only)) | (k_end; wrow_close) | walk1 | (dsimp only; walk1) | (leave1; walk_say "STEP leave1"; try dsimp only) | fail "no step")
    rename Fr g' _ _ _ => Fc
    refine newtree_spec H' (by show A.depth + 1 < 890; omega) (by show A.units + 3 < 8900; omega) Fc (fun b h2 tk2 F2 hk2 hm2 hnd2 hfr2 => ?_)
    clear Fc
    have N2 : News g' L' h2 [] := News.nil
    (try k_fold)
    repeat' (((fail_if_success (with_reducible show wpAny _ _ (call (.builtin _) _) _ _ _))); first | (k_unfold; (try dsimp only)) | (k_end; wrow_close) | walk1 | (dsimp only; walk1) | (leave1; walk_say "STEP leave1"; try dsimp only) | fail "no step")
    refine setdefault_pairs hk hlo (dictOf_kept hc1 (kept_F (by assumption)) (by simp)) (by rw [sizeLine_eq]; omega) (fun v hv => ?_) (fun hv _ _ _ => ?_)
    rotate_left
    · rw [hv] at hin; cases hin
    rw [hin] at hv; cases hv
    dsimp only
    k_steps
    all_goals (try dsimp only)
    all_goals (try k_unfold)
    all_goals (try dsimp only)
    all_goals refine Back.intro (by assumption) fun hk' => ?_
    all_goals exact ret _ _ (by simpa using hk')

theorem getitem_there1 {a : TA} {kvs : List (Ky × Value)} {k : Ky} {kv cv v : Value} {sh : Sh} (H : Here w A h₀ L) (hdp : A.depth < 880) (hun : A.units < 8800) (F : Fr h₀ L s.heap m)
    (ho : s.heap.get? a.t = some (instObj 197 a.td)) (hdn : Names s.heap a.td (treeNames a (some v))) (hc : s.heap.DictOf (kyKind prg w) a.tc kvs) (hlo : (a.tc == sysModules) = false) (hk : k.is kv = true)
    (hv : ShapeAt w s.heap v sh) (hin0 : valueAt kvs k = some cv) (hlen : kvs.length ≤ 1000)
    (ret : ∀ h' tk', Kept [] s.heap h' → Q cv { s with heap := h', toks := tk' }) :
    wpAny (model PySem.Challenge.rw_vk0009_01.row.prog w) A (call (.ref 172) [.ref a.t, kv]) Q E s := by
  have hin : (valueAt kvs k).isSome = true := by rw [hin0]; rfl
  have X := H.inK
  revert X; k_fill; intro X
  refine wpAny_call ?_
  refine' codeAny_mono (enter (R := Q) (E := E) H F News.nil ?k6 ?k7 ?k8 ?k9 ?kB ?kW ?c5 ?c2 ?c3 ?c4) ?kM
  case k6 => k_is
  case k7 => k_is
  case k8 => show A.depth < 1000; omega
  case k9 => exact BindsTo.of_eq rfl
  case kB => exact locs rfl
  case c5 => decide
  case c2 => exact rfl
  case c3 => exact rfl
  case c4 => exact rfl
  case kM => exact fun _ _ h => h
  case kW =>
    intro g' L' h' H' F' N' up down hL'
    have up1 : Kept [] s.heap g' := fun b o n e => up b o (by simp) e
    have ho1 := up1 _ _ (by simp) ho
    have hd1 := hdn.kept up1 (by simp)
    have hc1 := dictOf_kept hc up1 (by simp)
    have hv1 := hv.kept up1 (by simp)
    obtain ⟨⟨A₀, base, outer, env, p, loose, mean, mg, mb, B', T', hfr, _⟩, X', hh'⟩ := id H'
    (with_reducible show wpAny _ _ _ _ _ _)
    k_fold
    repeat' (((fail_if_success (with_reducible show wpAny _ _ (getAttr _ _ _) _ _ _))); first | (k_unfold; (try dsimp only)) | (k_end; wrow_close) | walk1 | (dsimp only; walk1) | (leave1; walk_say "STEP leave1"; try dsimp only) | fail "no step")
    rename Fr g' _ _ _ => Fc
    refine get_inst_some Fc X' (kept_F Fc _ _ (by simp) ho1) (hd1.kept (kept_F Fc) (by simp)) hv.handed ?_
    repeat' (((fail_if_success (with_reducible show wpAny _ _ (compareOp _ _ _) _ _ _))); first | (k_unfold; (try dsimp only)) | (k_end; wrow_close) | walk1 | (dsimp only; walk1) | (leave1; walk_say "STEP leave1"; try dsimp only) | fail "no step")
    have h65 : (hd.heap_39 w.params).lookup 65 = some (instObj 59 64) := by k_is
    refine isNot_unset (hv1.kept (kept_F Fc) (by simp)) (Fr.keep Fc _ _ (X' _ _ h65)) ?_
    repeat' (((fail_if_success (with_reducible show wpAny _ _ (compareOp _ _ _) _ _ _))); first | (k_unfold; (try dsimp only)) | (k_end; wrow_close) | walk1 | (dsimp only; walk1) | (leave1; walk_say "STEP leave1"; try dsimp only) | fail "no step")
    rename Fr g' _ _ _ => Fc
    refine tree_notIn Fc X' (kept_F Fc _ _ (by simp) ho1) (hd1.kept (kept_F Fc) (by simp)) ?_
    refine contains_spec (H'.of_frames rfl rfl) (by show A.depth + 1 < 900; omega) (by show A.units + 3 < 9000; omega) Fc (kept_F Fc _ _ (by simp) ho1) (hd1.kept (kept_F Fc) (by simp)) (dictOf_kept hc1 (kept_F Fc) (by simp)) hlo hk (fun h2 tk2 hk2 => ?_)
    have F2 := Fr.kept Fc hk2 (by simp) (by simp)
    have N2 : News g' L' h2 [] := News.nil
    clear Fc
    rw [hin]
    refine ⟨_, rfl, ?_⟩
    dsimp only
    (try k_fold)
    repeat' (((fail_if_success (with_reducible show wpAny _ _ (getAttr _ _ _) _ _ _))); first | (k_unfold; (try dsimp only)) | (k_end; wrow_close) | walk1 | (dsimp only; walk1) | (leave1; walk_say "STEP leave1"; try dsimp only) | fail "no step")
    rename Fr g' _ _ _ => Fc
    refine get_contents Fc X' (kept_F Fc _ _ (by simp) ho1) (hd1.kept (kept_F Fc) (by simp)) ?_
    repeat' (((fail_if_success (with_reducible show wpAny _ _ (getMethod _ _ _) _ _ _))); first | (k_unfold; (try dsimp only)) | (k_end; wrow_close) | walk1 | (dsimp only; walk1) | (leave1; walk_say "STEP leave1"; try dsimp only) | fail "no step")
    have hcur := dictOf_kept hc1 (kept_F (by assumption)) (by simp)
    refine getMethod_builtin hcur.typeIs PySem.F.plainAttrs_dict PySem.F.slot_dict_setdefault PySem.F.type_dict_setdefault hcur.mapOf.noDict ?_
    repeat' (((fail_if_success (with_reducible show wpAny _ _ (call (.ref 197) _) _ _ _))); first | (k_unfold; (try dsimp only)) | (k_end; wrow_close) | walk1 | (dsimp only; walk1) | (leave1; walk_say "STEP leave1"; try dsimp only) | fail "no step")
    rename Fr g' _ _ _ => Fc
    refine newtree_spec H' (by show A.depth + 1 < 890; omega) (by show A.units + 3 < 8900; omega) Fc (fun b h2 tk2 F2 hk2 hm2 hnd2 hfr2 => ?_)
    clear Fc
    have N2 : News g' L' h2 [] := News.nil
    (try k_fold)
    repeat' (((fail_if_success (with_reducible show wpAny _ _ (call (.builtin _) _) _ _ _))); first | (k_unfold; (try dsimp only)) | (k_end; wrow_close) | walk1 | (dsimp only; walk1) | (leave1; walk_say "STEP leave1"; try dsimp only) | fail "no step")
    refine setdefault_pairs hk hlo (dictOf_kept hc1 (kept_F (by assumption)) (by simp)) (by rw [sizeLine_eq]; omega) (fun v' hv => ?_) (fun hv _ _ _ => ?_)
    rotate_left
    · rw [hv] at hin; cases hin
    rw [hin0] at hv; cases hv
    dsimp only
    k_steps
    all_goals (try dsimp only)
    all_goals (try k_unfold)
    all_goals (try dsimp only)
    all_goals refine Back.intro (by assumption) fun hk' => ?_
    all_goals exact ret _ _ (by simpa using hk')
end
end Mine
namespace Mine
theorem fresh_T5 : True := by
  w_top off
  trivial
end Mine
-- part T6
namespace Mine
section
variable {w : World} {A : Around} {h₀ : Heap} {L : Addr} {m : Str → Option Value} {s : Shared} {Q : Value → Shared → Prop} {E : Value → Shared → Prop}

/-- an exception in flight over the frames l, all else as in hs -/
def Flies (hs : Heap) (l : List Env) (e : Addr) (cls : Value) (h : Heap) : Prop :=
  (∃ B a0, (∀ b o, hs.get? b = some o → b ∉ l.filterMap (·.frame) → B.get? b = some o) ∧ Heap.FlyingW B l e cls a0 h) ∧ hs.UpToSlots h
theorem getitem_raise {a : TA} {kvs : List (Ky × Value)} {k : Ky} {kv v : Value} {sh : Sh} (H : Here w A h₀ L) (hdp : A.depth < 880) (hun : A.units < 8800) (F : Fr h₀ L s.heap m)
    (ho : s.heap.get? a.t = some (instObj 197 a.td)) (hdn : Names s.heap a.td (treeNames a (some v))) (hc : s.heap.DictOf (kyKind prg w) a.tc kvs) (hlo : (a.tc == sysModules) = false) (hk : k.is kv = true)
    (hv : ShapeAt w s.heap v sh) (hsm : k.small) (hin : (valueAt kvs k).isSome = false) (hla : sh.lacks k ≠ Str.ofString "") {l : List Env} (hfl : A.frames = some l)
    (err : ∀ e h' tk', Flies s.heap l e (.type (sh.exc k)) h' → E (.ref e) { s with heap := h', toks := tk' }) :
    wpAny (model PySem.Challenge.rw_vk0009_01.row.prog w) A (call (.ref 172) [.ref a.t, kv]) Q E s := by
  have X := H.inK
  revert X; k_fill; intro X
  refine wpAny_call ?_
  refine' codeAny_mono (enter (R := Q) (E := E) H F News.nil ?k6 ?k7 ?k8 ?k9 ?kB ?kW ?c5 ?c2 ?c3 ?c4) ?kM
  case k6 => k_is
  case k7 => k_is
  case k8 => show A.depth < 1000; omega
  case k9 => exact BindsTo.of_eq rfl
  case kB => exact locs rfl
  case c5 => decide
  case c2 => exact rfl
  case c3 => exact rfl
  case c4 => exact rfl
  case kM => exact fun _ _ h => h
  case kW =>
    intro g' L' h' H' F' N' up down hL'
    have up1 : Kept [] s.heap g' := fun b o n e => up b o (by simp) e
    have ho1 := up1 _ _ (by simp) ho
    have hd1 := hdn.kept up1 (by simp)
    have hc1 := dictOf_kept hc up1 (by simp)
    have hv1 := hv.kept up1 (by simp)
    obtain ⟨⟨A₀, base, outer, env, p, loose, mean, mg, mb, B', T', hfr, _⟩, X', hh'⟩ := id H'
    (with_reducible show wpAny _ _ _ _ _ _)
    k_fold
    k_steps
    rename Fr g' _ _ _ => Fc
    refine get_inst_some Fc X' (kept_F Fc _ _ (by simp) ho1) (hd1.kept (kept_F Fc) (by simp)) hv.handed ?_
    k_steps
    have h65 : (hd.heap_39 w.params).lookup 65 = some (instObj 59 64) := by k_is
    refine isNot_unset (hv1.kept (kept_F Fc) (by simp)) (Fr.keep Fc _ _ (X' _ _ h65)) ?_
    k_steps
    rename Fr g' _ _ _ => Fc
    refine tree_notIn Fc X' (kept_F Fc _ _ (by simp) ho1) (hd1.kept (kept_F Fc) (by simp)) ?_
    refine contains_spec (H'.of_frames rfl rfl) (by show A.depth + 1 < 900; omega) (by show A.units + 3 < 9000; omega) Fc (kept_F Fc _ _ (by simp) ho1) (hd1.kept (kept_F Fc) (by simp)) (dictOf_kept hc1 (kept_F Fc) (by simp)) hlo hk (fun h2 tk2 hk2 => ?_)
    have F2 := Fr.kept Fc hk2 (by simp) (by simp)
    have N2 : News g' L' h2 [] := News.nil
    clear Fc
    rw [hin]
    refine ⟨_, rfl, ?_⟩
    dsimp only
    (try k_fold)
    k_steps
    rename Fr g' _ _ _ => Fc
    refine get_inst_some Fc X' (kept_F Fc _ _ (by simp) ho1) (hd1.kept (kept_F Fc) (by simp)) hv.handed ?_
    k_steps
    rename Fr g' _ _ _ => Fc
    refine sub_raise (sh := sh) hh' (hv1.kept (kept_F Fc) (by simp)) hk hsm hla (fun h3 tk3 e x => ?_) rfl
    k_steps
    have hp := (Around.frames_deeper hfl).symm.trans hfr
    injection hp with hp
    injection hp with hp1 hp2
    subst hp2
    refine leave_newS (base := base) (g := g') (news := []) ⟨hfl, B'.stays, B'.frames⟩ x Fc News.nil (fun h4 R _ U => ?_)
    obtain ⟨B, a0, _, hb, _, hF⟩ := R
    exact err e h4 _ ⟨⟨B, a0, fun b o q n => hb b o (up1 b o (by simp) q) n, hF⟩, fun b o q nf => U b o (up1 b o (by simp) q) nf⟩
end
end Mine
namespace Mine
theorem fresh_T6 : True := by
  w_top off
  trivial
end Mine
-- part T7
namespace Mine
section
variable {w : World} {A : Around} {h₀ : Heap} {L : Addr} {m : Str → Option Value} {s : Shared} {Q : Value → Shared → Prop} {E : Value → Shared → Prop}

section
variable {news : List (Addr × Obj)} {R : Value → Shared → Prop}
    {name qual : Str} {params : Arguments} {body : List Stmt} {scope : Scope} {dV kV doc pm cdv ct oc : Value} {an od : Option Addr} {osl : Array (Option Value)} {f : Addr} {args : Args} {binds : List (Str × Value)}
/-- a def is entered; what its body comes to is told as it is -/
theorem enterR (H : Here w A h₀ L) (F : Fr h₀ L s.heap m) (N : News h₀ L s.heap news)
    (ho : (hd.heap_39 w.params).lookup f = some ⟨oc, od, .func (fnOf name qual params body scope dV kV doc pm an cdv ct), osl⟩) (hcd : codeIn (hd.heap_39 w.params) cdv qual = true) (hroom : A.depth < recursionLimit)
    (hbind : BindsTo s (fnOf name qual params body scope dV kV doc pm an cdv ct) args binds) (hloc : ∀ y ∈ binds, scope.names.lookup y.1 = some .local)
    (h : ∀ g L' h₁, Here w (A.deeper (envX qual scope L' f cdv [])) g L' → Fr g L' h₁ (fun y => binds.reverse.lookup y) → News g L' h₁ news →
      (∀ b o, b ∉ news.map (·.1) → s.heap.get? b = some o → g.get? b = some o) → (∀ b o, g.get? b = some o → s.heap.get? b = some o) → s.heap.objs.size ≤ L' →
      wpAny (model PySem.Challenge.rw_vk0009_01.row.prog w) (A.deeper (envX qual scope L' f cdv [])) (execs body (envX qual scope L' f cdv []))
        (fun fl s' => R (match fl with | .ret v => v | _ => .none) s')
        (fun e s' => wpAny (model PySem.Challenge.rw_vk0009_01.row.prog w) (A.deeper (envX qual scope L' f cdv [])) (leaving (envX qual scope L' f cdv []) e) (fun _ s'' => E e s'') (fun e' s'' => E e' s'') s')
        { s with heap := h₁, toks := s.toks + binds.length })
    (hcell : ∀ x ∈ scope.names, x.2 ≠ .cell)
    (hco : scope.isCoroutine = false) (hgen : scope.isGenerator = false) (hk : scope.kind = .function) : codeAny (model PySem.Challenge.rw_vk0009_01.row.prog w) A (.call (.ref f) args) (onRes R E) s := by
  obtain ⟨⟨A₀, base, outer, env, p, loose, mean, mg, mb, B, T, hA, hf, hke⟩, X₀, hh⟩ := H
  obtain ⟨FG, BG, st, lv⟩ := groundX (R := fun _ _ => True) B F N hA hf hke
  have TG : Top p loose mean mg mb (hideAll s.heap (news.map fun x => x.1)) := T.keeps st
  have XG : (hd.heap_39 w.params).In (hideAll s.heap (news.map fun x => x.1)) := X₀.keeps st
  have hg : ∀ b o, b ∉ news.map (·.1) → s.heap.get? b = some o → (hideAll s.heap (news.map (·.1))).get? b = some o := fun b o n e => hideAll_get _ e n
  refine codeAny_call_def (fd := fnX name qual params body scope [] dV kV doc pm an cdv ct) (body := body) (binds := binds) hroom ((X₀.keeps F.keep) _ _ ho) rfl (T.nolimit.keeps F.keep) (codeRec_of (X₀.keeps F.keep) hcd) rfl hbind hcell hloc (fun h₁ hns hk₁ => ?_) hco hgen hk
  exact h (hideAll s.heap (news.map (·.1))) s.heap.objs.size h₁ (Here.deeper hA BG TG XG hh rfl hk) ⟨hns, fun b o e => hk₁ b o (of_hideAll _ e), Nat.le_of_eq (hideAll_size _ _)⟩
    (fun p hp => ⟨hk₁ _ _ (N p hp).1, Nat.ne_of_lt (Heap.lt_size (N p hp).1), hideAll_none _ (List.mem_map_of_mem hp)⟩) hg (fun b o e => of_hideAll _ e) (Nat.le_refl _)
end
section
variable {prog : Program} {A₀ : Around} {E : Value → Shared → Prop} {s' : Shared} {base g G : Heap} {outer : List Env} {L a e : Addr} {m : Str → Option Value} {name : Str} {scope : Scope} {cd : Value}
  {b₀ : Stmt} {suite : List Stmt} {pos np : Pos} {hs rest : List ExceptHandler} {Q : Flow → Shared → Prop} {KF : Frag}
  {p : Program} {loose : List Str} {mean : ExcName → Option Value} {mg mb : Str → Option Value} {x : Str} {X T' : String}
/-- what is caught, while the handlers are tried -/
def Caught (A₀ : Around) (base g : Heap) (outer : List Env) (env : Env) (L e : Addr) (cls : Value) (m : Str → Option Value) (h : Heap) : Prop :=
  ∃ B a0 G, Heap.FlyingW B (env :: outer) e cls a0 h ∧ (∀ b o, G.get? b = some o → b ∉ (env :: outer).filterMap (·.frame) → B.get? b = some o) ∧ G.UpToSlots h ∧ Fr g L G m ∧ Below A₀ base outer g
theorem fly_start (R : Flies G (envOf name scope L a cd :: outer) e (.type X) s'.heap) (F : Fr g L G m) (K : Below A₀ base outer g)
    (k : ∀ h', Caught A₀ base g outer (envOf name scope L a cd) L e (.type X) m h' → wpAny (model prog w) (A₀.deeper (envOf name scope L a cd)) (handleBy (.ref e) (envOf name scope L a cd) hs) Q E { s' with heap := h' }) :
    wpAny (model prog w) (A₀.deeper (envOf name scope L a cd)) (noteFrame (.ref e) (envOf name scope L a cd))
      (fun _ s₂ => wpAny (model prog w) (A₀.deeper (envOf name scope L a cd)) (setFlight (.ref e) none) (fun _ s₃ =>
        wpAny (model prog w) (A₀.deeper (envOf name scope L a cd)) (handleBy (.ref e) (envOf name scope L a cd) hs) Q E s₃) E s₂) E s' := by
  obtain ⟨⟨B, a0, hBG, hfl⟩, hsm⟩ := R
  refine wpAny_looks_onW (Around.frames_deeper K.stack) rfl hfl fun h₄ hheld₄ hsm₄ => ?_
  refine wpAny_landsW hheld₄ fun h₅ hheld hsm₅' => ?_
  exact k h₅ ⟨B, a0, G, hheld, hBG, hsm.trans (hsm₄.trans hsm₅'), F, K⟩
theorem fly_skip (C : Caught A₀ base g outer (envOf name scope L a cd) L e (.type X) m s'.heap) (XB : KF.In base) (TB : TopRead p loose mg mb base)
    (ex : nsIn KF mainGlobals x = some none) (hv : bootBuiltins x = some (.type T')) (hn' : x ≠ "__name__")
    (hexc : isSubtype (.type T') (.type "BaseException") = pure true) (hnt : isSubtype (.type ((Manifest.find? T').elim "type" fun y => y.metatype)) (.type "tuple") = pure false) (hsub : isSubtype (.type X) (.type T') = pure false)
    (k : wpAny (model prog w) (A₀.deeper (envOf name scope L a cd)) (handleBy (.ref e) (envOf name scope L a cd) rest) Q E s')
    (hk : scope.kind = .function := by rfl) (hx : (envOf name scope L a cd).kindOf x = some .globalImplicit := by rfl) (hd : (x == ("__debug__" : Str)) = false := by decide) :
    wpAny (model prog w) (A₀.deeper (envOf name scope L a cd)) (handleBy (.ref e) (envOf name scope L a cd) (.ExceptHandler (some (.Name x np)) none (b₀ :: suite) pos :: rest)) Q E s' := by
  obtain ⟨B, a0, G, hfl, hB, hsm, F, K⟩ := C
  obtain ⟨g₅, T₅, F₅, K₅⟩ := kts_ground K F hB hfl.1 hsm
  obtain ⟨ob, hob, hobc⟩ := hfl.there
  exact wpAny_handleBy_builtin (X := X) (T := T') (b := false) hexc hnt hsub (name_B F₅ (XB.keeps K₅.stays) (TB.keeps K₅.stays) ex hv hn' ⟨rfl, ⟨ob, hob, hobc⟩, k⟩ hk hx hd)
theorem fly_catch (C : Caught A₀ base g outer (envOf name scope L a cd) L e (.type X) m s'.heap) (XB : KF.In base) (TB : TopRead p loose mg mb base)
    (ex : nsIn KF mainGlobals x = some none) (hv : bootBuiltins x = some (.type T')) (hn' : x ≠ "__name__")
    (hexc : isSubtype (.type T') (.type "BaseException") = pure true) (hnt : isSubtype (.type ((Manifest.find? T').elim "type" fun y => y.metatype)) (.type "tuple") = pure false) (hsub : isSubtype (.type X) (.type T') = pure true)
    (k : ∀ h' g₆, KtsTurn (outer.filterMap (·.frame)) g g₆ → Fr g₆ L h' m → wpAny (model prog w) ((A₀.deeper (envOf name scope L a cd)).mark (some (.ref e))) (execs (b₀ :: suite) (envOf name scope L a cd)) Q E { s' with heap := h' })
    (hk : scope.kind = .function := by rfl) (hx : (envOf name scope L a cd).kindOf x = some .globalImplicit := by rfl) (hd : (x == ("__debug__" : Str)) = false := by decide)
    (hE : PassesOwnAt (model prog w) ((A₀.deeper (envOf name scope L a cd)).mark (some (.ref e))) (A₀.deeper (envOf name scope L a cd)) (envOf name scope L a cd) E := by passes_own) :
    wpAny (model prog w) (A₀.deeper (envOf name scope L a cd)) (handleBy (.ref e) (envOf name scope L a cd) (.ExceptHandler (some (.Name x np)) none (b₀ :: suite) pos :: rest)) Q E s' := by
  obtain ⟨B, a0, G, hfl, hB, hsm, F, K⟩ := C
  obtain ⟨g₅, T₅, F₅, K₅⟩ := kts_ground K F hB hfl.1 hsm
  obtain ⟨ob, hob, hobc⟩ := hfl.there
  refine wpAny_handleBy_builtin (X := X) (T := T') (b := true) hexc hnt hsub (name_B F₅ (XB.keeps K₅.stays) (TB.keeps K₅.stays) ex hv hn' ⟨rfl, ⟨ob, hob, hobc⟩, ?_⟩ hk hx hd)
  refine lands_againW hfl fun h₆ hfl₆ hsm₆ => ?_
  obtain ⟨g₆, T₆, F₆, K₆⟩ := kts_ground K F hB hfl₆.1 (hsm.trans hsm₆)
  exact wpAny_passesOwnAt hE (k h₆ g₆ T₆ F₆)
end

theorem tree_sub {a : TA} {p : Option Value} {kv : Value} {value slice : PySem.Expr} (F : Fr h₀ L s.heap m) (X : (hd.heap_39 w.params).In h₀) (ho : s.heap.get? a.t = some (instObj 197 a.td)) (hdn : Names s.heap a.td (treeNames a p))
    (h : wpAny (model PySem.Challenge.rw_vk0009_01.row.prog w) A.in1 (call (.ref 172) [.ref a.t, kv]) Q E s)
    (hsl : subscripted slice true (.ref a.t) kv = runValue (.builtin "lifetime.subscript" ⟨[.ref a.t, kv], []⟩) := by with_unfolding_all rfl) : wpAny (model PySem.Challenge.rw_vk0009_01.row.prog w) A (subscriptTail value slice (.ref a.t) kv) Q E s := by
  revert X; k_fill; intro X
  obtain ⟨es, n, I, _⟩ := tree_inst ho hdn
  refine' sub_K F X I ?k1 ?k2 ?k3 h hsl
  case k1 => k_is
  case k2 => k_is
  case k3 => k_is
end
end Mine
namespace Mine
theorem fresh_T7 : True := by
  w_top off
  trivial
end Mine
-- part T8
namespace Mine
section
variable {w : World} {A : Around} {h₀ : Heap} {L : Addr} {m : Str → Option Value} {s : Shared} {Q : Value → Shared → Prop} {E : Value → Shared → Prop}

theorem read_there0 {a : TA} {kvs : List (Ky × Value)} {k : Ky} {kv cv : Value} (H : Here w A h₀ L) (hdp : A.depth < 870) (hun : A.units < 8700) (F : Fr h₀ L s.heap m)
    (hlo : (a.tc == sysModules) = false) (hk : k.is kv = true) (hlen : kvs.length ≤ 1000)
    (ho : s.heap.get? a.t = some (instObj 197 a.td)) (hc : s.heap.DictOf (kyKind prg w) a.tc kvs) (hdn : Names s.heap a.td (treeNames a none)) (hin : valueAt kvs k = some cv)
    (ret : ∀ t h' tk', Kept [] s.heap h' → Q (.str (Str.ofString "") t) { s with heap := h', toks := tk' }) :
    wpAny (model PySem.Challenge.rw_vk0009_01.row.prog w) A (call (.ref 246) [.ref a.t, kv]) Q E s := by
  have X := H.inK
  revert X; k_fill; intro X
  refine wpAny_call ?_
  refine' codeAny_mono (enter (R := Q) (E := E) H F News.nil ?k6 ?k7 ?k8 ?k9 ?kB ?kW ?c5 ?c2 ?c3 ?c4) ?kM
  case k6 => k_is
  case k7 => k_is
  case k8 => show A.depth < 1000; omega
  case k9 => exact BindsTo.of_eq rfl
  case kB => exact locs rfl
  case c5 => decide
  case c2 => exact rfl
  case c3 => exact rfl
  case c4 => exact rfl
  case kM => exact fun _ _ h => h
  case kW =>
    intro g' L' h' H' F' N' up down hL'
    have up1 : Kept [] s.heap g' := fun b o n e => up b o (by simp) e
    have ho1 := up1 _ _ (by simp) ho
    have hd1 := hdn.kept up1 (by simp)
    have hc1 := dictOf_kept hc up1 (by simp)
    obtain ⟨⟨A₀, base, outer, env, p, loose, mean, mg, mb, B', T', hfr, _⟩, X', hh'⟩ := id H'
    (with_reducible show wpAny _ _ _ _ _ _)
    k_fold
    k_steps
    refine wpAny_Try_except ?_
    k_steps
    rename Fr g' _ _ _ => Fc
    refine tree_sub Fc X' (kept_F Fc _ _ (by simp) ho1) (hd1.kept (kept_F Fc) (by simp)) ?_ rfl
    refine getitem_there0 (H'.of_frames rfl rfl) (by show A.depth + 1 < 880; omega) (by first | (show A.units + 4 < 8800; omega) | (show A.units + 3 + 1 < 8800; omega) | (show A.units + 5 < 8800; omega)) Fc (kept_F Fc _ _ (by simp) ho1) (hd1.kept (kept_F Fc) (by simp)) (dictOf_kept hc1 (kept_F Fc) (by simp)) hlo hk hin hlen (fun h2 tk2 hk2 => ?_)
    have F2 := Fr.kept Fc hk2 (by simp) (by simp)
    clear Fc
    have N2 : News g' L' h2 [] := News.nil
    (try k_fold)
    dsimp only
    k_steps
    all_goals (try dsimp only)
    all_goals (try k_unfold)
    all_goals (try dsimp only)
    all_goals refine Back.intro (by assumption) fun hk' => ?_
    all_goals exact ret _ _ _ (by simpa using hk')

theorem read_there1 {a : TA} {kvs : List (Ky × Value)} {k : Ky} {kv cv : Value} {v : Value} {sh : Sh} (H : Here w A h₀ L) (hdp : A.depth < 870) (hun : A.units < 8700) (F : Fr h₀ L s.heap m)
    (hlo : (a.tc == sysModules) = false) (hk : k.is kv = true) (hlen : kvs.length ≤ 1000)
    (ho : s.heap.get? a.t = some (instObj 197 a.td)) (hc : s.heap.DictOf (kyKind prg w) a.tc kvs) (hdn : Names s.heap a.td (treeNames a (some v))) (hv : ShapeAt w s.heap v sh) (hin : valueAt kvs k = some cv)
    (ret : ∀ t h' tk', Kept [] s.heap h' → Q (.str (Str.ofString "") t) { s with heap := h', toks := tk' }) :
    wpAny (model PySem.Challenge.rw_vk0009_01.row.prog w) A (call (.ref 246) [.ref a.t, kv]) Q E s := by
  have X := H.inK
  revert X; k_fill; intro X
  refine wpAny_call ?_
  refine' codeAny_mono (enter (R := Q) (E := E) H F News.nil ?k6 ?k7 ?k8 ?k9 ?kB ?kW ?c5 ?c2 ?c3 ?c4) ?kM
  case k6 => k_is
  case k7 => k_is
  case k8 => show A.depth < 1000; omega
  case k9 => exact BindsTo.of_eq rfl
  case kB => exact locs rfl
  case c5 => decide
  case c2 => exact rfl
  case c3 => exact rfl
  case c4 => exact rfl
  case kM => exact fun _ _ h => h
  case kW =>
    intro g' L' h' H' F' N' up down hL'
    have up1 : Kept [] s.heap g' := fun b o n e => up b o (by simp) e
    have ho1 := up1 _ _ (by simp) ho
    have hd1 := hdn.kept up1 (by simp)
    have hc1 := dictOf_kept hc up1 (by simp)
    have hv1 := hv.kept up1 (by simp)
    obtain ⟨⟨A₀, base, outer, env, p, loose, mean, mg, mb, B', T', hfr, _⟩, X', hh'⟩ := id H'
    (with_reducible show wpAny _ _ _ _ _ _)
    k_fold
    k_steps
    refine wpAny_Try_except ?_
    k_steps
    rename Fr g' _ _ _ => Fc
    refine tree_sub Fc X' (kept_F Fc _ _ (by simp) ho1) (hd1.kept (kept_F Fc) (by simp)) ?_ rfl
    refine getitem_there1 (H'.of_frames rfl rfl) (by show A.depth + 1 < 880; omega) (by first | (show A.units + 4 < 8800; omega) | (show A.units + 3 + 1 < 8800; omega) | (show A.units + 5 < 8800; omega)) Fc (kept_F Fc _ _ (by simp) ho1) (hd1.kept (kept_F Fc) (by simp)) (dictOf_kept hc1 (kept_F Fc) (by simp)) hlo hk (hv1.kept (kept_F Fc) (by simp)) hin hlen (fun h2 tk2 hk2 => ?_)
    have F2 := Fr.kept Fc hk2 (by simp) (by simp)
    clear Fc
    have N2 : News g' L' h2 [] := News.nil
    (try k_fold)
    dsimp only
    k_steps
    all_goals (try dsimp only)
    all_goals (try k_unfold)
    all_goals (try dsimp only)
    all_goals refine Back.intro (by assumption) fun hk' => ?_
    all_goals exact ret _ _ _ (by simpa using hk')

theorem read_new0 {a : TA} {kvs : List (Ky × Value)} {k : Ky} {kv : Value} (H : Here w A h₀ L) (hdp : A.depth < 870) (hun : A.units < 8700) (F : Fr h₀ L s.heap m)
    (hlo : (a.tc == sysModules) = false) (hk : k.is kv = true) (hlen : kvs.length ≤ 1000)
    (ho : s.heap.get? a.t = some (instObj 197 a.td)) (hc : s.heap.DictOf (kyKind prg w) a.tc kvs) (hdn : Names s.heap a.td (treeNames a none))
    (hnd : a.fp.Nodup) (hoL : a.tc ≠ L) (ho0 : h₀.get? a.tc = none) (hin : (valueAt kvs k).isSome = false)
    (ret : ∀ (b : TA) t h' tk', Kept [a.tc] s.heap h' → h'.DictOf (kyKind prg w) a.tc (kvs ++ [(k, .ref b.t)]) → TreeAt w h' (fun _ => b) b (Nd.nil 0) → b.fp.Nodup → (∀ x ∈ b.fp, s.heap.get? x = none) →
      Q (.str (Str.ofString "") t) { s with heap := h', toks := tk' }) :
    wpAny (model PySem.Challenge.rw_vk0009_01.row.prog w) A (call (.ref 246) [.ref a.t, kv]) Q E s := by
  obtain ⟨otc, hotc, hdtc⟩ := Heap.dictOf_iff.mp hc
  have N : News h₀ L s.heap [(a.tc, otc)] := fun p hp => by
    rw [List.mem_singleton.mp hp]; exact ⟨hotc, hoL, ho0⟩
  have hnd0 := hnd
  simp only [TA.fp, List.nodup_cons, List.mem_cons, List.not_mem_nil, or_false, not_or, not_false_eq_true, List.nodup_nil, and_true] at hnd
  have X := H.inK
  revert X; k_fill; intro X
  refine wpAny_call ?_
  refine' codeAny_mono (enter (R := Q) (E := E) H F N ?k6 ?k7 ?k8 ?k9 ?kB ?kW ?c5 ?c2 ?c3 ?c4) ?kM
  case k6 => k_is
  case k7 => k_is
  case k8 => show A.depth < 1000; omega
  case k9 => exact BindsTo.of_eq rfl
  case kB => exact locs rfl
  case c5 => decide
  case c2 => exact rfl
  case c3 => exact rfl
  case c4 => exact rfl
  case kM => exact fun _ _ h => h
  case kW =>
    intro g' L' h' H' F' N' up down hL'
    have up1 : Kept [a.tc] s.heap g' := fun b o n e => up b o (by simpa using n) e
    have ho1 := up1 _ _ (by simpa using hnd.1.2.2) ho
    have hd1 := hdn.kept up1 (by simpa using hnd.2.1.2)
    have hc1 : ∀ h, News g' L' h [(a.tc, otc)] → h.DictOf (kyKind prg w) a.tc kvs := fun h N => Heap.dictOf_iff.mpr ⟨_, News.get N (.head _), hdtc⟩
    obtain ⟨⟨A₀, base, outer, env, p, loose, mean, mg, mb, B', T', hfr, _⟩, X', hh'⟩ := id H'
    (with_reducible show wpAny _ _ _ _ _ _)
    k_fold
    k_steps
    refine wpAny_Try_except ?_
    k_steps
    rename Fr g' _ _ _ => Fc
    rename News g' _ _ _ => Nc
    refine tree_sub Fc X' (kept_F Fc _ _ (by simp) ho1) (hd1.kept (kept_F Fc) (by simp)) ?_ rfl
    refine getitem_new0 (H'.of_frames rfl rfl) (by show A.depth + 1 < 880; omega) (by first | (show A.units + 4 < 8800; omega) | (show A.units + 3 + 1 < 8800; omega) | (show A.units + 5 < 8800; omega)) Fc (kept_F Fc _ _ (by simp) ho1) (hd1.kept (kept_F Fc) (by simp)) (hc1 _ Nc) hlo hk hnd0 (Nc _ (.head _)).2.1 (Nc _ (.head _)).2.2 hin hlen (fun b h2 tk2 hk2 hd2 hm2 hnd2 hfr2 => ?_)
    have F2 := Fr.kept Fc hk2 (by simpa using Ne.symm (Nc _ (.head _)).2.1) (by simpa using (Nc _ (.head _)).2.2)
    have N2 : News g' L' h2 [] := News.nil
    have hx : ∀ x ∈ b.fp, x ≠ a.tc := fun x hxb e => by
      have := hfr2 x hxb
      rw [e, News.get Nc (.head _)] at this; cases this
    have hfr3 : ∀ x ∈ b.fp, s.heap.get? x = none := fun x hxb => by
      cases q : s.heap.get? x with
      | none => rfl
      | some o =>
        have := Fc.keep _ _ (up1 x o (by simpa using hx x hxb) q)
        rw [hfr2 x hxb] at this; cases this
    clear Fc Nc
    (try k_fold)
    dsimp only
    k_steps
    all_goals (try dsimp only)
    all_goals (try k_unfold)
    all_goals (try dsimp only)
    all_goals refine Back.intro (by assumption) fun hk' => ?_
    all_goals exact ret b _ _ _ (by simpa using hk') hd2 hm2 hnd2 hfr3

theorem read_new1 {a : TA} {kvs : List (Ky × Value)} {k : Ky} {kv : Value} {v : Value} {sh : Sh} (H : Here w A h₀ L) (hdp : A.depth < 870) (hun : A.units < 8700) (F : Fr h₀ L s.heap m)
    (hlo : (a.tc == sysModules) = false) (hk : k.is kv = true) (hlen : kvs.length ≤ 1000)
    (ho : s.heap.get? a.t = some (instObj 197 a.td)) (hc : s.heap.DictOf (kyKind prg w) a.tc kvs) (hdn : Names s.heap a.td (treeNames a (some v))) (hv : ShapeAt w s.heap v sh) (hvn : ∀ c, v = .ref c → c ≠ a.tc) (hsm : k.small) (hla : sh.lacks k = Str.ofString "")
    (hnd : a.fp.Nodup) (hoL : a.tc ≠ L) (ho0 : h₀.get? a.tc = none) (hin : (valueAt kvs k).isSome = false)
    (ret : ∀ (b : TA) t h' tk', Kept [a.tc] s.heap h' → h'.DictOf (kyKind prg w) a.tc (kvs ++ [(k, .ref b.t)]) → TreeAt w h' (fun _ => b) b (Nd.nil 0) → b.fp.Nodup → (∀ x ∈ b.fp, s.heap.get? x = none) →
      Q (.str (Str.ofString "") t) { s with heap := h', toks := tk' }) :
    wpAny (model PySem.Challenge.rw_vk0009_01.row.prog w) A (call (.ref 246) [.ref a.t, kv]) Q E s := by
  obtain ⟨otc, hotc, hdtc⟩ := Heap.dictOf_iff.mp hc
  have N : News h₀ L s.heap [(a.tc, otc)] := fun p hp => by
    rw [List.mem_singleton.mp hp]; exact ⟨hotc, hoL, ho0⟩
  have hnd0 := hnd
  simp only [TA.fp, List.nodup_cons, List.mem_cons, List.not_mem_nil, or_false, not_or, not_false_eq_true, List.nodup_nil, and_true] at hnd
  have X := H.inK
  revert X; k_fill; intro X
  refine wpAny_call ?_
  refine' codeAny_mono (enter (R := Q) (E := E) H F N ?k6 ?k7 ?k8 ?k9 ?kB ?kW ?c5 ?c2 ?c3 ?c4) ?kM
  case k6 => k_is
  case k7 => k_is
  case k8 => show A.depth < 1000; omega
  case k9 => exact BindsTo.of_eq rfl
  case kB => exact locs rfl
  case c5 => decide
  case c2 => exact rfl
  case c3 => exact rfl
  case c4 => exact rfl
  case kM => exact fun _ _ h => h
  case kW =>
    intro g' L' h' H' F' N' up down hL'
    have up1 : Kept [a.tc] s.heap g' := fun b o n e => up b o (by simpa using n) e
    have ho1 := up1 _ _ (by simpa using hnd.1.2.2) ho
    have hd1 := hdn.kept up1 (by simpa using hnd.2.1.2)
    have hc1 : ∀ h, News g' L' h [(a.tc, otc)] → h.DictOf (kyKind prg w) a.tc kvs := fun h N => Heap.dictOf_iff.mpr ⟨_, News.get N (.head _), hdtc⟩
    have hv1 := hv.kept up1 (by simpa using hvn)
    obtain ⟨⟨A₀, base, outer, env, p, loose, mean, mg, mb, B', T', hfr, _⟩, X', hh'⟩ := id H'
    (with_reducible show wpAny _ _ _ _ _ _)
    k_fold
    k_steps
    refine wpAny_Try_except ?_
    k_steps
    rename Fr g' _ _ _ => Fc
    rename News g' _ _ _ => Nc
    refine tree_sub Fc X' (kept_F Fc _ _ (by simp) ho1) (hd1.kept (kept_F Fc) (by simp)) ?_ rfl
    refine getitem_new1 (H'.of_frames rfl rfl) (by show A.depth + 1 < 880; omega) (by first | (show A.units + 4 < 8800; omega) | (show A.units + 3 + 1 < 8800; omega) | (show A.units + 5 < 8800; omega)) Fc (kept_F Fc _ _ (by simp) ho1) (hd1.kept (kept_F Fc) (by simp)) (hc1 _ Nc) hlo hk (hv1.kept (kept_F Fc) (by simp)) hvn hsm hla hnd0 (Nc _ (.head _)).2.1 (Nc _ (.head _)).2.2 hin hlen (fun b h2 tk2 hk2 hd2 hm2 hnd2 hfr2 => ?_)
    have F2 := Fr.kept Fc hk2 (by simpa using Ne.symm (Nc _ (.head _)).2.1) (by simpa using (Nc _ (.head _)).2.2)
    have N2 : News g' L' h2 [] := News.nil
    have hx : ∀ x ∈ b.fp, x ≠ a.tc := fun x hxb e => by
      have := hfr2 x hxb
      rw [e, News.get Nc (.head _)] at this; cases this
    have hfr3 : ∀ x ∈ b.fp, s.heap.get? x = none := fun x hxb => by
      cases q : s.heap.get? x with
      | none => rfl
      | some o =>
        have := Fc.keep _ _ (up1 x o (by simpa using hx x hxb) q)
        rw [hfr2 x hxb] at this; cases this
    clear Fc Nc
    (try k_fold)
    dsimp only
    k_steps
    all_goals (try dsimp only)
    all_goals (try k_unfold)
    all_goals (try dsimp only)
    all_goals refine Back.intro (by assumption) fun hk' => ?_
    all_goals exact ret b _ _ _ (by simpa using hk') hd2 hm2 hnd2 hfr3
end
end Mine
namespace Mine
theorem fresh_T8 : True := by
  w_top off
  trivial
end Mine
-- part T9
namespace Mine
section
variable {w : World} {A : Around} {h₀ : Heap} {L : Addr} {m : Str → Option Value} {s : Shared} {Q : Value → Shared → Prop} {E : Value → Shared → Prop}

def Sh.word : String → String
  | "TypeError" => "kind"
  | "IndexError" => "place"
  | _ => "key"
theorem Sh.three {sh : Sh} {k : Ky} (h : sh.lacks k ≠ Str.ofString "") : (sh.exc k = "KeyError" ∧ sh.lacks k = Str.ofString "key") ∨ (sh.exc k = "IndexError" ∧ sh.lacks k = Str.ofString "place") ∨ (sh.exc k = "TypeError" ∧ sh.lacks k = Str.ofString "kind") := by
  cases sh with
  | int => exact .inr (.inr ⟨rfl, rfl⟩)
  | list vs =>
    cases k with
    | s x => exact .inr (.inr ⟨rfl, rfl⟩)
    | i j => exact .inr (.inl ⟨rfl, if_neg fun q => h (if_pos q)⟩)
  | dict kvs => exact .inl ⟨rfl, if_neg fun q => h (if_pos q)⟩
theorem read_raise {a : TA} {kvs : List (Ky × Value)} {k : Ky} {kv v : Value} {sh : Sh} {env₀ : Env} (H : Here w A h₀ L) (hdp : A.depth < 870) (hun : A.units < 8700) (F : Fr h₀ L s.heap m) (hfl : A.frames = some [env₀]) (hf0 : env₀.frame = some L) (hk0 : env₀.scope.kind = .function)
    (hlo : (a.tc == sysModules) = false) (hk : k.is kv = true)
    (ho : s.heap.get? a.t = some (instObj 197 a.td)) (hc : s.heap.DictOf (kyKind prg w) a.tc kvs) (hdn : Names s.heap a.td (treeNames a (some v)))
    (hv : ShapeAt w s.heap v sh) (hsm : k.small) (hin : (valueAt kvs k).isSome = false) (hla : sh.lacks k ≠ Str.ofString "")
    (ret : ∀ t h' tk', Fr h₀ L h' m → Kept [L] s.heap h' → Q (.str (sh.lacks k) t) { s with heap := h', toks := tk' }) :
    wpAny (model PySem.Challenge.rw_vk0009_01.row.prog w) A (call (.ref 246) [.ref a.t, kv]) Q E s := by
  obtain ⟨⟨_, _, _, _, p, loose, mean, mg, mb, _, T, _⟩, X₁, _⟩ := id H
  have X := H.inK
  revert X; k_fill; intro X
  refine wpAny_call ?_
  refine' codeAny_mono (enterR (R := Q) (E := E) H F News.nil ?k6 ?k7 ?k8 ?k9 ?kB ?kW ?c5 ?c2 ?c3 ?c4) ?kM
  case k6 => k_is
  case k7 => k_is
  case k8 => show A.depth < 1000; omega
  case k9 => exact BindsTo.of_eq rfl
  case kB => exact locs rfl
  case c5 => decide
  case c2 => exact rfl
  case c3 => exact rfl
  case c4 => exact rfl
  case kM => exact fun _ _ h => h
  case kW =>
    intro g' L' h' H' F' N' up down hL'
    have up1 : Kept [] s.heap g' := fun b o n e => up b o (by simp) e
    have ho1 := up1 _ _ (by simp) ho
    have hd1 := hdn.kept up1 (by simp)
    have hc1 := dictOf_kept hc up1 (by simp)
    have hv1 := hv.kept up1 (by simp)
    obtain ⟨X', hh'⟩ : (hd.heap_39 w.params).In g' ∧ (A.deeper (envX _ _ L' 246 _ [])).handled = none := ⟨H'.inK, H'.handled⟩
    (with_reducible show wpAny _ _ _ _ _ _)
    k_fold
    have KB : Below A h₀ [env₀] g' := by
      refine ⟨hfl, fun b o e => up1 b o (by simp) (F.keep b o e), ⟨by rw [hk0]; decide, ?_, trivial⟩⟩
      obtain ⟨o, es, n, hg, hr⟩ := F.ns
      exact ⟨L, o, hf0, kts_self F, up1 _ _ (by simp) hg, fun vs e => by rw [hr.1] at e; cases e⟩
    k_steps
    refine wpAny_Try_except ?_
    k_steps
    rename Fr g' _ _ _ => Fc
    refine tree_sub Fc X' (kept_F Fc _ _ (by simp) ho1) (hd1.kept (kept_F Fc) (by simp)) ?_ rfl
    refine getitem_raise (l := envX _ _ L' 246 _ [] :: [env₀]) (H'.of_frames rfl rfl) (by show A.depth + 1 < 880; omega) (by first | (show A.units + 4 < 8800; omega) | (show A.units + 3 + 1 < 8800; omega) | (show A.units + 5 < 8800; omega)) Fc (kept_F Fc _ _ (by simp) ho1) (hd1.kept (kept_F Fc) (by simp)) (dictOf_kept hc1 (kept_F Fc) (by simp)) hlo hk (hv1.kept (kept_F Fc) (by simp)) hsm hin hla (Around.frames_deeper hfl) (fun e h2 tk2 R => ?_)
    dsimp only
    refine fly_start R Fc KB (fun h3 C => ?_)
    have hfs : List.filterMap (fun x : Env => x.frame) [env₀] = [L] := by simp [hf0]
    have fin : ∀ (h4 g6 : Heap) (t tk : Nat) (m6 : Str → Option Value), KtsTurn (List.filterMap (fun x : Env => x.frame) [env₀]) g' g6 → Fr g6 L' h4 m6 → Q (.str (sh.lacks k) t) { s with heap := h4, toks := tk } := fun h4 g6 t tk m6 T6 F6 => by
      rw [hfs] at T6
      have hk : Kept [L] s.heap h4 := fun b o n e => F6.keep _ _ (T6.other _ _ (up1 b o (by simp) e) n)
      refine ret _ _ _ ⟨?_, fun b o e => hk b o (fun q => ?_) (F.keep b o e), F.above⟩ hk
      · have hu : s.heap.UpToSlots h4 := fun b o e _ => by
          obtain ⟨sl, q⟩ := T6.up (up1 b o (by simp) e)
          exact ⟨sl, F6.keep _ _ q⟩
        exact hu.ns F.ns
      · have := kts_self F
        rw [List.mem_singleton.mp q] at e
        rw [e] at this; cases this
    have TB := topRead_of T
    have ns_Key : nsIn (hd.heap_39 w.params) mainGlobals (Str.ofString "KeyError") = some none := by k_is
    have ns_Index : nsIn (hd.heap_39 w.params) mainGlobals (Str.ofString "IndexError") = some none := by k_is
    have ns_Type : nsIn (hd.heap_39 w.params) mainGlobals (Str.ofString "TypeError") = some none := by k_is
    rcases Sh.three hla with ⟨e1, e2⟩ | ⟨e1, e2⟩ | ⟨e1, e2⟩
    · rw [e1] at C
      refine fly_catch C X₁ TB ns_Key PyProof.Rows.Boot.«KeyError» (by decide) kr_isExc_KeyError kr_notTuple_KeyError (by rw [isSubtype_type]; kernel_rfl) (fun h4 g6 T6 F6 => ?_)
      clear Fc KB
      k_steps
      rw [e2] at fin
      exact fin h4 g6 _ _ _ T6 F6
    · rw [e1] at C
      refine fly_skip C X₁ TB ns_Key PyProof.Rows.Boot.«KeyError» (by decide) kr_isExc_KeyError kr_notTuple_KeyError (by rw [isSubtype_type]; kernel_rfl) ?_
      refine fly_catch C X₁ TB ns_Index PyProof.Rows.Boot.«IndexError» (by decide) PySem.F.isExc_IndexError PySem.F.notTuple_IndexError (by rw [isSubtype_type]; kernel_rfl) (fun h4 g6 T6 F6 => ?_)
      clear Fc KB
      k_steps
      rw [e2] at fin
      exact fin h4 g6 _ _ _ T6 F6
    · rw [e1] at C
      refine fly_skip C X₁ TB ns_Key PyProof.Rows.Boot.«KeyError» (by decide) kr_isExc_KeyError kr_notTuple_KeyError (by rw [isSubtype_type]; kernel_rfl) ?_
      refine fly_skip C X₁ TB ns_Index PyProof.Rows.Boot.«IndexError» (by decide) PySem.F.isExc_IndexError PySem.F.notTuple_IndexError (by rw [isSubtype_type]; kernel_rfl) ?_
      refine fly_catch C X₁ TB ns_Type PyProof.Rows.Boot.«TypeError» (by decide) PySem.F.isExc_TypeError PySem.F.notTuple_TypeError (by rw [isSubtype_type]; kernel_rfl) (fun h4 g6 T6 F6 => ?_)
      clear Fc KB
      k_steps
      rw [e2] at fin
      exact fin h4 g6 _ _ _ T6 F6
end
end Mine
namespace Mine
theorem fresh_T9 : True := by
  w_top off
  trivial
end Mine
-- part C0
namespace Mine
section
variable {prog : Program} {w : World} {A : Around} {E : Value → Shared → Prop} {s : Shared} {env : Env}
/-- what a list's comprehension wants: what walks, the word J, the turn, the end -/
def CompJ (prog : Program) (w : World) (A : Around) (env : Env) (elt : Expr) (x : Str) (scope : Scope) (cl : List (Str × Addr)) (Q : Addr → Value → Shared → Prop) (it : Value) (s₂ : Shared) : Prop :=
  ∃ (I : Addr) (fp wr : List Addr) (n : Nat) (P : Nat → Value → Prop) (St : Nat → Heap → Prop), it = .ref I ∧ Walks prog w A I fp wr n P St ∧ n ≤ sizeLine ∧ St 0 s₂.heap ∧ (∀ b ∈ fp, b < s₂.heap.objs.size) ∧
   ∀ C D : Addr, s₂.heap.objs.size ≤ C → s₂.heap.objs.size ≤ D → C ≠ D → ∃ J : Nat → List Value → Shared → Prop,
     (∀ h tk, Kept [] s₂.heap h → J 0 [] { s₂ with heap := h, toks := tk }) ∧
     (∀ i ys (s : Shared) h' tk, J i ys s → Kept (C :: D :: wr) s.heap h' → J i ys { s with heap := h', toks := tk }) ∧
     (∀ i v ys (m₁ : Str → Option Value) (s₁ : Shared) (E' : Value → Shared → Prop), i < n → P i v → St (i + 1) s₁.heap → ys.length = i → J i ys s₁ → s₁.heap.Ns C m₁ → m₁ x = some v → s₁.heap.PlainList D ys.toArray →
        wpAny (model prog w) A (eval elt (compEnvC scope cl C env)) (fun y s₄ => J (i + 1) (ys ++ [y]) s₄ ∧ (∀ b ∈ C :: D :: fp, ∀ o, s₁.heap.get? b = some o → s₄.heap.get? b = some o)) E' s₁) ∧
     (∀ ys (s₄ : Shared), ys.length = n → J n ys s₄ → s₄.heap.IsList D ys.toArray → s₄.heap.PlainList D ys.toArray → Q C (.ref D) s₄)

theorem comp_J {elt iter : Expr} {x : Str} {px : Pos} {scope : Scope} {cl : List (Str × Addr)} {pos : Pos} {Q : Value → Shared → Prop}
    (hclos : closureFor scope env = pure cl) (hcell : ∀ y ∈ scope.names, y.2 ≠ .cell) (hkind : scope.kind = .function)
    (hnames : ∀ y ∈ scope.names, y.2 = .local → scope.names.lookup y.1 = some .local) (hx : scope.names.lookup x = some .local)
    (h : wpAny (model prog w) A (eval iter env) (fun xv s₁ => wpAny (model prog w) A (pyIter xv) (fun it s₂ => CompJ prog w A env elt x scope cl (fun _ => Q) it s₂) E s₁) E s)
    (hs : ∀ x, foldedSetIterable iter env x = pure x := by intro _; rfl) :
    wpAny (model prog w) A (eval (.ListComp elt [⟨.Name x px, iter, [], 0⟩] scope pos) env) Q E s := by
  rw [eval_ListComp]
  refine wpAny_comprehension_free (use := none) rfl hs hclos hkind hnames (wpAny_mono h (fun xv s₁ h₁ => wpAny_mono h₁ (fun it s₂ h₂ => ?_) fun _ _ e => e) fun _ _ e => e)
  obtain ⟨I, fp, wr, n, P, St, rfl, W, hsz, hst, hfp, hJ⟩ := h₂
  refine wpAny_newObj_type (wpAny_newFunctionEnv hcell (by intro y hy; simp at hy) (fun h₁ hns₁ hsb₁ => ?_) hkind)
  dsimp only at hns₁ hsb₁ ⊢
  generalize hH2 : s₂.heap.push { cls := .type "list", dict := none, data := .seq ([] : List Value).toArray } = H2 at hns₁ hsb₁ ⊢
  have hC : H2.objs.size = s₂.heap.objs.size + 1 := by rw [← hH2, Heap.size_push]
  have hDC : s₂.heap.objs.size ≠ H2.objs.size := by rw [hC]; exact Nat.ne_of_lt (Nat.lt_succ_self _)
  have hCle : s₂.heap.objs.size ≤ H2.objs.size := by rw [hC]; exact Nat.le_succ _
  have below : ∀ b, b < s₂.heap.objs.size → b ≠ H2.objs.size ∧ b ≠ s₂.heap.objs.size := fun b hb => ⟨by rw [hC]; exact Nat.ne_of_lt (Nat.lt_succ_of_lt hb), Nat.ne_of_lt hb⟩
  have hDf : s₂.heap.objs.size ∉ fp := fun hm => Nat.lt_irrefl _ (hfp _ hm)
  have hCf : H2.objs.size ∉ fp := fun hm => by have := hfp _ hm; rw [hC] at this; exact Nat.lt_irrefl _ (Nat.lt_of_succ_lt this)
  have hCw : H2.objs.size ∉ wr := fun h => hCf (W.sub _ h)
  have hDw : s₂.heap.objs.size ∉ wr := fun h => hDf (W.sub _ h)
  have old : ∀ b o, s₂.heap.get? b = some o → h₁.get? b = some o := fun b o e => hsb₁.extBut b o (below b (Heap.lt_size e)).1 (Heap.get?_push_of_some _ (hH2 ▸ Heap.get?_push_of_some _ e))
  have hacc : h₁.PlainList s₂.heap.objs.size #[] := ⟨_, hsb₁.extBut _ _ hDC (Heap.get?_push_of_some _ (hH2 ▸ Heap.get?_push_size _ rfl))⟩
  have hst₁ : St 0 h₁ := W.frame _ _ _ hst fun b _ o e => old b o e
  generalize H2.objs.size = C at hns₁ hsb₁ hDC hCle below hCf hCw ⊢
  generalize hDe : s₂.heap.objs.size = D at hDC hDf hDw hacc ⊢
  rw [hDe] at hJ
  obtain ⟨J, J0, stable, turn, done⟩ := hJ C D (hDe ▸ hCle) (Nat.le_refl _) (Ne.symm hDC)
  have hJ1 := J0 h₁ (s₂.toks + ([] : List (Str × Value)).length) fun b o _ e => old b o e
  have hkx : (compEnvC scope cl C env).kindOf x = some .local := lookup_relabel_local hx
  have hpx : ((compEnvC scope cl C env).scope.kind == .class || ((compEnvC scope cl C env).scope.kind == .module && (compEnvC scope cl C env).locals != (compEnvC scope cl C env).globals)) = false := by simp [compEnvC, relabel, hkind]
  have loop : codeAny (model prog w) A (.compLoop (.ListComp elt [⟨.Name x px, iter, [], 0⟩] scope pos) 0 (.ref I) (.ref D) (compEnvC scope cl C env)) (compPost (model prog w) A E none Q (.ref D) C)
      { s₂ with heap := h₁, toks := s₂.toks + ([] : List (Str × Value)).length } := by
    refine codeAny_compLoop_tests (fun k s' => ∃ i ys m', St i s'.heap ∧ s'.heap.PlainList D ys.toArray ∧ s'.heap.Ns C m' ∧ J i ys s' ∧ i ≤ n ∧ k = n + 1 - i ∧ ys.length = i) ?_ (n + 1)
      ⟨0, [], _, hst₁, hacc, hns₁, hJ1, Nat.zero_le _, rfl, rfl⟩
    rintro k s' ⟨i, ys, m', hst', hacc', hn', hJ', hi, rfl, hlen⟩
    by_cases hlt : i < n
    · refine W.item i _ _ _ hlt hst' fun v h₁ tk₁ hPv hst₁ hk₁ => ?_
      refine wpAny_assign_Name (wpAny_storeName_local hkx (hn'.at' fun o e => hk₁ _ o hCw e) (fun h₂ hn₂ hs₂ => ?_) hpx)
      have up₂ : Kept (C :: D :: wr) s'.heap h₂ := fun b o hb e => (hs₂.2 b fun q => hb (q ▸ .head _)).trans (hk₁ b o (fun q => hb (.tail _ (.tail _ q))) e)
      have hacc₂ : h₂.PlainList D ys.toArray := hacc'.at fun o e => (hs₂.2 D hDC).trans (hk₁ D o hDw e)
      have hst₂ : St (i + 1) h₂ := W.frame _ _ _ hst₁ fun b hb o e => (hs₂.2 b fun (h : b = C) => hCf (h ▸ hb)).trans e
      refine wpAny_tests_nil ?_
      rw [if_pos rfl]
      have hJ₂ := stable i ys s' h₂ (tk₁ + 1) hJ' up₂
      refine wpAny_mono (turn i v ys _ _ _ hlt hPv hst₂ hlen hJ₂ hn₂ (by simp) hacc₂) (fun y s₄ h₄ => ?_) fun _ _ e => e
      obtain ⟨hJ₄, hk₄⟩ := h₄
      have hacc₄ : s₄.heap.PlainList D ys.toArray := hacc₂.at fun o e => hk₄ D (by simp) o e
      have hys : ys.toArray.size ≤ sizeLine := by simp; omega
      refine wpAny_list_append_plain (hsz := hys) hacc₄ fun h₅ hl₅ hs₅ => ?_
      refine ⟨n + 1 - (i + 1), by omega, i + 1, ys ++ [y], _, ?_, by simpa using hl₅, (hn₂.at' fun o e => hk₄ C (by simp) o e).sameBut hs₅ (Ne.symm hDC), stable _ _ _ h₅ _ hJ₄ fun b o hb e => (hs₅.2 b fun q => hb (q ▸ .tail _ (.head _))).trans e, hlt, rfl, by simp [hlen]⟩
      exact W.frame _ _ _ hst₂ fun b hb o e => (hs₅.2 b fun (h : b = D) => hDf (h ▸ hb)).trans (hk₄ b (by simp [hb]) o e)
    · have hin : i = n := by omega
      subst hin
      refine W.done _ _ _ hst' fun h₁ tk₁ hk₁ => ?_
      refine ⟨m', hn'.at' fun o e => hk₁ _ o hCw e, fun h' hs' => ?_⟩
      have up : Kept (C :: D :: wr) s'.heap h' := fun b o hb e => (hs'.2 b fun q => hb (q ▸ .head _)).trans (hk₁ b o (fun q => hb (.tail _ (.tail _ q))) e)
      have hacc₃ : h'.PlainList D ys.toArray := hacc'.at fun o e => (hs'.2 D hDC).trans (hk₁ D o hDw e)
      exact done ys { s' with heap := h', toks := tk₁ } hlen (stable _ _ _ _ _ hJ' up) hacc₃.isList hacc₃
  exact codeAny_compStart_list loop (W.self 0 _ _ _ hst₁ loop)

/-- .. and the list is bound to a name -/
theorem comp_JA {elt iter : Expr} {x y : Str} {px py : Pos} {scope : Scope} {cl : List (Str × Addr)} {pos spos : Pos} {Q : Flow → Shared → Prop}
    (hsw : swapsWith (.ListComp elt [⟨.Name x px, iter, [], 0⟩] scope pos) (some (.Name y py)) spos.line env = pure true) (hy : env.kindOf y = some .local) (hp : (env.scope.kind == .class || (env.scope.kind == .module && env.locals != env.globals)) = false)
    (hclos : closureFor scope env = pure cl) (hcell : ∀ y ∈ scope.names, y.2 ≠ .cell) (hkind : scope.kind = .function)
    (hnames : ∀ y ∈ scope.names, y.2 = .local → scope.names.lookup y.1 = some .local) (hx : scope.names.lookup x = some .local)
    (h : wpAny (model prog w) A (eval iter env) (fun xv s₁ => wpAny (model prog w) A (pyIter xv) (fun it s₂ => CompJ prog w A env elt x scope cl (fun C v s₄ => ∃ mL, s₄.heap.Ns env.locals mL ∧ env.locals ≠ C ∧ ∀ h' tk, h'.Ns env.locals (fun z => if z = y then some v else mL z) → Kept [env.locals, C] s₄.heap h' → Q .next { s₄ with heap := h', toks := tk }) it s₂) E s₁) E s)
    (hs : ∀ x, foldedSetIterable iter env x = pure x := by intro _; rfl) :
    wpAny (model prog w) A (exec (.Assign [.Name y py] (.ListComp elt [⟨.Name x px, iter, [], 0⟩] scope pos) spos) env) Q E s := by
  rw [exec_Assign_Name_used _ _ _ _ hsw]
  refine wpAny_bind (wpAny_standAt (wpAny_bind ?_))
  show wpAny _ A (do let _ ← comprehension (.ListComp elt [⟨.Name x px, iter, [], 0⟩] scope pos) scope env _ (newList []) false (eval iter env) (some (assign (.Name y py) env))) _ _ s
  refine wpAny_bind (wpAny_mono (wpAny_comprehension_free (use := some (assign (.Name y py) env)) (Q := fun _ s' => Q .next s') rfl hs hclos hkind hnames
    (wpAny_mono h (fun xv s₁ h₁ => wpAny_mono h₁ (fun it s₂ h₂ => ?_) fun _ _ e => e) fun _ _ e => e)) (fun _ s' hq => wpAny_pure (wpAny_pure hq)) fun _ _ e => e)
  obtain ⟨I, fp, wr, n, P, St, rfl, W, hsz, hst, hfp, hJ⟩ := h₂
  refine wpAny_newObj_type (wpAny_newFunctionEnv hcell (by intro y hy; simp at hy) (fun h₁ hns₁ hsb₁ => ?_) hkind)
  dsimp only at hns₁ hsb₁ ⊢
  generalize hH2 : s₂.heap.push { cls := .type "list", dict := none, data := .seq ([] : List Value).toArray } = H2 at hns₁ hsb₁ ⊢
  have hC : H2.objs.size = s₂.heap.objs.size + 1 := by rw [← hH2, Heap.size_push]
  have hDC : s₂.heap.objs.size ≠ H2.objs.size := by rw [hC]; exact Nat.ne_of_lt (Nat.lt_succ_self _)
  have hCle : s₂.heap.objs.size ≤ H2.objs.size := by rw [hC]; exact Nat.le_succ _
  have below : ∀ b, b < s₂.heap.objs.size → b ≠ H2.objs.size ∧ b ≠ s₂.heap.objs.size := fun b hb => ⟨by rw [hC]; exact Nat.ne_of_lt (Nat.lt_succ_of_lt hb), Nat.ne_of_lt hb⟩
  have hDf : s₂.heap.objs.size ∉ fp := fun hm => Nat.lt_irrefl _ (hfp _ hm)
  have hCf : H2.objs.size ∉ fp := fun hm => by have := hfp _ hm; rw [hC] at this; exact Nat.lt_irrefl _ (Nat.lt_of_succ_lt this)
  have hCw : H2.objs.size ∉ wr := fun h => hCf (W.sub _ h)
  have hDw : s₂.heap.objs.size ∉ wr := fun h => hDf (W.sub _ h)
  have old : ∀ b o, s₂.heap.get? b = some o → h₁.get? b = some o := fun b o e => hsb₁.extBut b o (below b (Heap.lt_size e)).1 (Heap.get?_push_of_some _ (hH2 ▸ Heap.get?_push_of_some _ e))
  have hacc : h₁.PlainList s₂.heap.objs.size #[] := ⟨_, hsb₁.extBut _ _ hDC (Heap.get?_push_of_some _ (hH2 ▸ Heap.get?_push_size _ rfl))⟩
  have hst₁ : St 0 h₁ := W.frame _ _ _ hst fun b _ o e => old b o e
  generalize H2.objs.size = C at hns₁ hsb₁ hDC hCle below hCf hCw ⊢
  generalize hDe : s₂.heap.objs.size = D at hDC hDf hDw hacc ⊢
  rw [hDe] at hJ
  obtain ⟨J, J0, stable, turn, done⟩ := hJ C D (hDe ▸ hCle) (Nat.le_refl _) (Ne.symm hDC)
  have hJ1 := J0 h₁ (s₂.toks + ([] : List (Str × Value)).length) fun b o _ e => old b o e
  have hkx : (compEnvC scope cl C env).kindOf x = some .local := lookup_relabel_local hx
  have hpx : ((compEnvC scope cl C env).scope.kind == .class || ((compEnvC scope cl C env).scope.kind == .module && (compEnvC scope cl C env).locals != (compEnvC scope cl C env).globals)) = false := by simp [compEnvC, relabel, hkind]
  have loop : codeAny (model prog w) A (.compLoop (.ListComp elt [⟨.Name x px, iter, [], 0⟩] scope pos) 0 (.ref I) (.ref D) (compEnvC scope cl C env)) (compPost (model prog w) A E (some (assign (.Name y py) env)) (fun _ s' => Q .next s') (.ref D) C)
      { s₂ with heap := h₁, toks := s₂.toks + ([] : List (Str × Value)).length } := by
    refine codeAny_compLoop_tests (fun k s' => ∃ i ys m', St i s'.heap ∧ s'.heap.PlainList D ys.toArray ∧ s'.heap.Ns C m' ∧ J i ys s' ∧ i ≤ n ∧ k = n + 1 - i ∧ ys.length = i) ?_ (n + 1)
      ⟨0, [], _, hst₁, hacc, hns₁, hJ1, Nat.zero_le _, rfl, rfl⟩
    rintro k s' ⟨i, ys, m', hst', hacc', hn', hJ', hi, rfl, hlen⟩
    by_cases hlt : i < n
    · refine W.item i _ _ _ hlt hst' fun v h₁ tk₁ hPv hst₁ hk₁ => ?_
      refine wpAny_assign_Name (wpAny_storeName_local hkx (hn'.at' fun o e => hk₁ _ o hCw e) (fun h₂ hn₂ hs₂ => ?_) hpx)
      have up₂ : Kept (C :: D :: wr) s'.heap h₂ := fun b o hb e => (hs₂.2 b fun q => hb (q ▸ .head _)).trans (hk₁ b o (fun q => hb (.tail _ (.tail _ q))) e)
      have hacc₂ : h₂.PlainList D ys.toArray := hacc'.at fun o e => (hs₂.2 D hDC).trans (hk₁ D o hDw e)
      have hst₂ : St (i + 1) h₂ := W.frame _ _ _ hst₁ fun b hb o e => (hs₂.2 b fun (h : b = C) => hCf (h ▸ hb)).trans e
      refine wpAny_tests_nil ?_
      rw [if_pos rfl]
      have hJ₂ := stable i ys s' h₂ (tk₁ + 1) hJ' up₂
      refine wpAny_mono (turn i v ys _ _ _ hlt hPv hst₂ hlen hJ₂ hn₂ (by simp) hacc₂) (fun y s₄ h₄ => ?_) fun _ _ e => e
      obtain ⟨hJ₄, hk₄⟩ := h₄
      have hacc₄ : s₄.heap.PlainList D ys.toArray := hacc₂.at fun o e => hk₄ D (by simp) o e
      have hys : ys.toArray.size ≤ sizeLine := by simp; omega
      refine wpAny_list_append_plain (hsz := hys) hacc₄ fun h₅ hl₅ hs₅ => ?_
      refine ⟨n + 1 - (i + 1), by omega, i + 1, ys ++ [y], _, ?_, by simpa using hl₅, (hn₂.at' fun o e => hk₄ C (by simp) o e).sameBut hs₅ (Ne.symm hDC), stable _ _ _ h₅ _ hJ₄ fun b o hb e => (hs₅.2 b fun q => hb (q ▸ .tail _ (.head _))).trans e, hlt, rfl, by simp [hlen]⟩
      exact W.frame _ _ _ hst₂ fun b hb o e => (hs₅.2 b fun (h : b = D) => hDf (h ▸ hb)).trans (hk₄ b (by simp [hb]) o e)
    · have hin : i = n := by omega
      subst hin
      refine W.done _ _ _ hst' fun h₁ tk₁ hk₁ => ?_
      have hnC := hn'.at' fun o e => hk₁ _ o hCw e
      have hacc₃ : h₁.PlainList D ys.toArray := hacc'.at fun o e => hk₁ D o hDw e
      obtain ⟨mL, hnL, hLC, hQ⟩ := done ys { s' with heap := h₁, toks := tk₁ } hlen (stable _ _ _ _ _ hJ' fun b o hb e => hk₁ b o (fun q => hb (.tail _ (.tail _ q))) e) hacc₃.isList hacc₃
      show wpAny _ A (assign (.Name y py) env (.ref D)) _ _ _
      refine wpAny_assign_Name (wpAny_storeName_local hy hnL (fun h₂ hn₂ hs₂ => ?_) hp)
      refine ⟨m', hnC.sameBut hs₂ (Ne.symm hLC), fun h₃ hs₃ => ?_⟩
      exact hQ h₃ _ (hn₂.sameBut hs₃ hLC) fun b o hb e => (hs₃.2 b fun q => hb (q ▸ .tail _ (.head _))).trans ((hs₂.2 b fun q => hb (q ▸ .head _)).trans e)
  exact codeAny_compStart_list loop (W.self 0 _ _ _ hst₁ loop)

/-- numbers walk -/
theorem comp_range {elt : Expr} {x : Str} {scope : Scope} {cl : List (Str × Addr)} {Q : Addr → Value → Shared → Prop} {r : Addr} {n : Nat} {t u v : Tok}
    (hh : A.handled = none) (hr : IsRange s.heap r 0 n 1 t u v) (hn : n ≤ 1000)
    (mk : ∀ h₂ : Heap, s.heap.objs.size < h₂.objs.size → Kept [] s.heap h₂ → ∀ C D : Addr, h₂.objs.size ≤ C → h₂.objs.size ≤ D → C ≠ D → ∃ J : Nat → List Value → Shared → Prop,
     (∀ h tk, Kept [] h₂ h → J 0 [] { s with heap := h, toks := tk }) ∧
     (∀ i ys (s₁ : Shared) h' tk, J i ys s₁ → Kept [C, D, s.heap.objs.size] s₁.heap h' → J i ys { s₁ with heap := h', toks := tk }) ∧
     (∀ i v ys (m₁ : Str → Option Value) (s₁ : Shared) (E' : Value → Shared → Prop), i < n → (∃ t, v = .int (i : Int) t) → ys.length = i → J i ys s₁ → s₁.heap.Ns C m₁ → m₁ x = some v → s₁.heap.PlainList D ys.toArray →
        wpAny (model prog w) A (eval elt (compEnvC scope cl C env)) (fun y s₄ => J (i + 1) (ys ++ [y]) s₄ ∧ (∀ b ∈ [C, D, s.heap.objs.size], ∀ o, s₁.heap.get? b = some o → s₄.heap.get? b = some o)) E' s₁) ∧
     (∀ ys (s₄ : Shared), ys.length = n → J n ys s₄ → s₄.heap.IsList D ys.toArray → s₄.heap.PlainList D ys.toArray → Q C (.ref D) s₄)) :
    wpAny (model prog w) A (pyIter (.ref r)) (fun it s₂ => CompJ prog w A env elt x scope cl Q it s₂) E s := by
  have hz0 : Builtin.Range.rangeSize 0 n 1 = (n : Int) := by
    unfold Builtin.Range.rangeSize
    rw [if_pos (by decide)]
    split
    · omega
    · omega
  have hsmall : Builtin.Range.small 0 n 1 = true := by
    have fits : ∀ j : Int, 0 ≤ j → j ≤ 1000 → Builtin.Range.rangeFitsLong j = true := fun j h0 h1 => by
      unfold Builtin.Range.rangeFitsLong
      rw [Bool.and_eq_true]
      exact ⟨decide_eq_true (by omega), decide_eq_true (by omega)⟩
    unfold Builtin.Range.small
    rw [hz0, if_pos (by decide), fits 0 (by decide) (by decide), fits n (by omega) (by omega), fits 1 (by decide) (by decide), fits (n + (1 - 1)) (by omega) (by omega)]
    simp
  refine wpAny_pyIter_range hr hsmall ?_
  have hk : Kept [] s.heap (s.heap.push { cls := .type "range_iterator", data := .fields #[rawInt 0, rawInt (Builtin.Range.rangeSize 0 n 1), rawInt 1] }) := Kept.push _ _ _
  have hz : (s.heap.push { cls := .type "range_iterator", data := .fields #[rawInt 0, rawInt (Builtin.Range.rangeSize 0 n 1), rawInt 1] }).objs.size = s.heap.objs.size + 1 := Heap.size_push ..
  refine ⟨s.heap.objs.size, [s.heap.objs.size], [s.heap.objs.size], n, _, _, rfl, Walks.range hh s.heap.objs.size 0 1 n, by rw [sizeLine_eq]; omega, by show IsRangeIter _ _ _ _ _; rw [hz0]; simpa using Heap.get?_push_size _ rfl, ?_, fun C D hC hD hCD => ?_⟩
  · intro b hb
    show b < (s.heap.push _).objs.size
    rw [hz, List.mem_singleton.mp hb]
    exact Nat.lt_succ_self _
  · obtain ⟨J, j0, j1, j2, j3⟩ := mk _ (by rw [hz]; exact Nat.lt_succ_self _) hk C D hC hD hCD
    exact ⟨J, j0, j1, fun i v ys m₁ s₁ E' hi hP _ => j2 i v ys m₁ s₁ E' hi (by obtain ⟨t, e⟩ := hP; exact ⟨t, by rw [e]; simp⟩), j3⟩
/-- a for loop over range(n) -/
theorem loop_range {x : Str} {body : List Stmt} {Q : Flow → Shared → Prop} {r : Addr} {n : Nat} {t u v : Tok} {m : Str → Option Value} (hh : A.handled = none) (hr : IsRange s.heap r 0 n 1 t u v) (hn : n ≤ 1000) (hns : s.heap.Ns env.locals m)
    (mk : ∀ h₂ : Heap, s.heap.objs.size < h₂.objs.size → Kept [] s.heap h₂ →
      LoopW prog w A env x body Q [s.heap.objs.size] s.heap.objs.size n (fun i v => ∃ t, v = .int (i : Int) t) m { s with heap := h₂ }) :
    wpAny (model prog w) A (pyIter (.ref r)) (fun it s₂ => LoopJ prog w A env x body Q it s₂) E s := by
  have hz0 : Builtin.Range.rangeSize 0 n 1 = (n : Int) := by
    unfold Builtin.Range.rangeSize
    rw [if_pos (by decide)]
    split
    · omega
    · omega
  have hsmall : Builtin.Range.small 0 n 1 = true := by
    have fits : ∀ j : Int, 0 ≤ j → j ≤ 1000 → Builtin.Range.rangeFitsLong j = true := fun j h0 h1 => by
      unfold Builtin.Range.rangeFitsLong
      rw [Bool.and_eq_true]
      exact ⟨decide_eq_true (by omega), decide_eq_true (by omega)⟩
    unfold Builtin.Range.small
    rw [hz0, if_pos (by decide), fits 0 (by decide) (by decide), fits n (by omega) (by omega), fits 1 (by decide) (by decide), fits (n + (1 - 1)) (by omega) (by omega)]
    simp
  refine wpAny_pyIter_range hr hsmall ?_
  have hz : (s.heap.push { cls := .type "range_iterator", data := .fields #[rawInt 0, rawInt (Builtin.Range.rangeSize 0 n 1), rawInt 1] }).objs.size = s.heap.objs.size + 1 := Heap.size_push ..
  obtain ⟨J, h0, st, turn, done⟩ := mk _ (by rw [hz]; exact Nat.lt_succ_self _) (Kept.push _ _ { cls := .type "range_iterator", data := .fields #[rawInt 0, rawInt (Builtin.Range.rangeSize 0 n 1), rawInt 1] })
  refine ⟨_, _, _, _, _, _, m, J, rfl, Walks.range hh s.heap.objs.size 0 1 n, ?_, by show IsRangeIter _ _ _ _ _; rw [hz0]; simpa using Heap.get?_push_size _ rfl, hns.push _, h0, st, fun i v m₁ s₁ hi hP st => turn i v m₁ s₁ hi (by obtain ⟨t, e⟩ := hP; exact ⟨t, by rw [e]; simp⟩) ⟨_, st⟩, done⟩
  intro hm
  exact absurd hns.lt ((List.mem_singleton.mp hm) ▸ Nat.lt_irrefl _)
end
end Mine
namespace Mine
theorem fresh_C0 : True := by
  w_top off
  trivial
end Mine
-- part C1
namespace Mine
section
variable {w : World} {A : Around} {h₀ : Heap} {L : Addr} {m : Str → Option Value} {s : Shared} {Q : Value → Shared → Prop} {E : Value → Shared → Prop}

theorem Fr.fresh {g h : Heap} {L' C : Addr} {m : Str → Option Value} (F : Fr g L' h m) (hC : h.objs.size ≤ C) : C ≠ L' ∧ g.get? C = none := by
  refine ⟨fun e => absurd F.ns.lt (by rw [← e]; exact Nat.not_lt.mpr hC), ?_⟩
  cases q : g.get? C with
  | none => rfl
  | some o => exact absurd (Heap.lt_size (F.keep _ _ q)) (Nat.not_lt.mpr hC)
theorem stay_kept {g h h₁ h' : Heap} {L' : Addr} {m m₁ : Str → Option Value} {news : List (Addr × Obj)} {S : List Addr} (F : Fr g L' h m) (N : News g L' h news) (hS : ∀ b ∈ S, h.objs.size ≤ b) (F₁ : Fr g L' h₁ m₁) (N₁ : News g L' h₁ news) (k : Kept S h₁ h') : Fr g L' h' m₁ ∧ News g L' h' news :=
  ⟨Fr.kept F₁ k (fun q => (Fr.fresh F (hS _ q)).1 rfl) fun b hb => (Fr.fresh F (hS b hb)).2, News.kept N₁ k fun p hp hm => absurd (Heap.lt_size (N p hp).1) (Nat.not_lt.mpr (hS _ hm))⟩
/-- a comprehension over a dict's keys whose turns change nothing that was -/
theorem compJ_q {QQ : Addr → Value → Shared → Prop} {prog : Program} {K : Type} [DecidableEq K] {knd : PySem.KeyKind prog w K} {env : Env} {elt : Expr} {x : Str} {scope : Scope} {cl : List (Str × Addr)} {d I : Addr} {kvs : List (K × Value)} {ep : Nat} {g : Heap} {L' : Addr} {mm : Str → Option Value} {nn : List (Addr × Obj)}
    (hh : A.handled = none) (hit : s.heap.IsKeyIter I d 0 kvs.length ep) (hda : s.heap.DictAt knd d kvs ep) (hdI : d ≠ I) (hsz : kvs.length ≤ sizeLine)
    (F : Fr g L' s.heap mm) (N : News g L' s.heap nn) (hI : g.get? I = none) (hIL : I ≠ L') (hIN : ∀ p ∈ nn, p.1 ≠ I) (Y : Shared → Prop) (hY : Y s) (hYs : ∀ s h tk, Y s → Y { s with heap := h, toks := tk })
    (mk : ∀ C D : Addr, s.heap.objs.size ≤ C → s.heap.objs.size ≤ D → C ≠ D → ∃ Fy : Nat → Value → Heap → Prop,
      (∀ i y h h', Fy i y h → Kept [C, D, I] h h' → Fy i y h') ∧
      (∀ i v k xv (m₁ : Str → Option Value) (s₁ : Shared) (E' : Value → Shared → Prop), kvs[i]? = some (k, xv) → knd.is k v = true → Y s₁ → Fr g L' s₁.heap mm → News g L' s₁.heap nn → s₁.heap.Ns C m₁ → m₁ x = some v → (∀ b ∈ [C, D, I], ∃ o, s₁.heap.get? b = some o) →
        wpAny (model prog w) A (eval elt (compEnvC scope cl C env)) (fun y s₄ => Fy i y s₄.heap ∧ Y s₄ ∧ Kept [] s₁.heap s₄.heap) E' s₁) ∧
      (∀ (ys : List Value) (s₄ : Shared), ys.length = kvs.length → (∀ i y, ys[i]? = some y → Fy i y s₄.heap) → Y s₄ → Fr g L' s₄.heap mm → News g L' s₄.heap nn → s₄.heap.IsList D ys.toArray → s₄.heap.PlainList D ys.toArray → QQ C (.ref D) s₄)) :
    CompJ prog w A env elt x scope cl QQ (.ref I) s := by
  have hdl := hda.lt_size
  have hIl : I < s.heap.objs.size := let ⟨_, e, _⟩ := hit; Heap.lt_size e
  have hlow : ∀ b ∈ [I, d], b < s.heap.objs.size := by
    intro b hb
    rcases List.mem_cons.mp hb with rfl | hb
    · exact hIl
    · rw [List.mem_singleton.mp hb]; exact hdl
  refine ⟨I, [I, d], [I], kvs.length, _, _, rfl, Walks.dictKeys hh I d hdI kvs ep, hsz, ⟨hit, hda⟩, hlow, fun C D hC hD hCD => ?_⟩
  obtain ⟨Fy, fst, turn, done⟩ := mk C D hC hD hCD
  have step : ∀ (h₁ h' : Heap), Fr g L' h₁ mm → News g L' h₁ nn → Kept (C :: D :: [I]) h₁ h' → Fr g L' h' mm ∧ News g L' h' nn := fun h₁ h' F₁ N₁ k => by
    have mem : ∀ b ∈ C :: D :: [I], b = C ∨ b = D ∨ b = I := fun b hb => by simpa using hb
    refine ⟨Fr.kept F₁ k (fun q => ?_) (fun b hb => ?_), News.kept N₁ k fun p hp hm => ?_⟩
    · rcases mem _ q with e | e | e
      · exact (Fr.fresh F hC).1 e.symm
      · exact (Fr.fresh F hD).1 e.symm
      · exact hIL e.symm
    · rcases mem _ hb with e | e | e
      · rw [e]; exact (Fr.fresh F hC).2
      · rw [e]; exact (Fr.fresh F hD).2
      · rw [e]; exact hI
    · have hl := Heap.lt_size (N p hp).1
      rcases mem _ hm with e | e | e
      · rw [e] at hl; exact absurd hl (Nat.not_lt.mpr hC)
      · rw [e] at hl; exact absurd hl (Nat.not_lt.mpr hD)
      · exact hIN p hp e
  refine ⟨fun i ys s' => Y s' ∧ Fr g L' s'.heap mm ∧ News g L' s'.heap nn ∧ ∀ j y, ys[j]? = some y → Fy j y s'.heap, ?_, ?_, ?_, ?_⟩
  · intro h tk k
    exact ⟨hYs _ _ _ hY, Fr.kept F k (by simp) (by simp), News.kept N k (by simp), fun j y hj => by simp at hj⟩
  · rintro i ys s₁ h' tk ⟨hy, F₁, N₁, hf⟩ k
    obtain ⟨F₂, N₂⟩ := step _ _ F₁ N₁ k
    exact ⟨hYs _ _ _ hy, F₂, N₂, fun j y hj => fst j y _ _ (hf j y hj) k⟩
  · rintro i v ys m₁ s₁ E' hi ⟨k, xv, hkx, hkv⟩ hst hlen ⟨hy, F₁, N₁, hf⟩ hn hmx hpl
    have hb : ∀ b ∈ [C, D, I], ∃ o, s₁.heap.get? b = some o := by
      intro b hb
      rcases (by simpa using hb : b = C ∨ b = D ∨ b = I) with e | e | e
      · rw [e]; obtain ⟨oL, a1, a2, hg, r⟩ := hn; exact ⟨_, hg⟩
      · rw [e]; obtain ⟨c, e⟩ := hpl; exact ⟨_, e⟩
      · rw [e]; obtain ⟨⟨o, e, _⟩, _⟩ := hst; exact ⟨o, e⟩
    refine wpAny_mono (turn i v k xv m₁ s₁ E' hkx hkv hy F₁ N₁ hn hmx hb) (fun y s₄ h₄ => ?_) fun _ _ e => e
    obtain ⟨hfy, hy₄, k₄⟩ := h₄
    refine ⟨⟨hy₄, Fr.kept F₁ k₄ (by simp) (by simp), News.kept N₁ k₄ (by simp), fun j z hj => ?_⟩, fun b _ o e => k₄ b o (by simp) e⟩
    rcases Nat.lt_trichotomy j i with h | h | h
    · exact fst j z _ _ (hf j z (by rwa [List.getElem?_append_left (by omega)] at hj)) (k₄.mono (by simp))
    · subst h
      rw [← hlen] at hj
      simp at hj
      subst hj; exact hfy
    · have hnone : (ys ++ [y])[j]? = none := List.getElem?_eq_none (by rw [List.length_append, List.length_singleton]; omega)
      rw [hnone] at hj; cases hj
  · rintro ys s₄ hlen ⟨hy, F₁, N₁, hf⟩ hl hp
    exact done ys s₄ hlen hf hy F₁ N₁ hl hp
theorem comp_keys_q {QQ : Addr → Value → Shared → Prop} {prog : Program} {K : Type} [DecidableEq K] {knd : PySem.KeyKind prog w K} {env : Env} {elt : Expr} {x : Str} {scope : Scope} {cl : List (Str × Addr)} {d : Addr} {kvs : List (K × Value)} {g : Heap} {L' : Addr} {mm : Str → Option Value} {nn : List (Addr × Obj)}
    (hh : A.handled = none) (hlo : (d == sysModules) = false) (hd : s.heap.DictOf knd d kvs) (hsz : kvs.length ≤ sizeLine)
    (F : Fr g L' s.heap mm) (N : News g L' s.heap nn) (Y : Shared → Prop) (hY : Y s) (hYs : ∀ s h tk, Y s → Y { s with heap := h, toks := tk })
    (mk : ∀ C D I : Addr, s.heap.objs.size ≤ C → s.heap.objs.size ≤ D → C ≠ D → ∃ Fy : Nat → Value → Heap → Prop,
      (∀ i y h h', Fy i y h → Kept [C, D, I] h h' → Fy i y h') ∧
      (∀ i v k xv (m₁ : Str → Option Value) (s₁ : Shared) (E' : Value → Shared → Prop), kvs[i]? = some (k, xv) → knd.is k v = true → Y s₁ → Fr g L' s₁.heap mm → News g L' s₁.heap nn → s₁.heap.Ns C m₁ → m₁ x = some v → (∀ b ∈ [C, D, I], ∃ o, s₁.heap.get? b = some o) →
        wpAny (model prog w) A (eval elt (compEnvC scope cl C env)) (fun y s₄ => Fy i y s₄.heap ∧ Y s₄ ∧ Kept [] s₁.heap s₄.heap) E' s₁) ∧
      (∀ (ys : List Value) (s₄ : Shared), ys.length = kvs.length → (∀ i y, ys[i]? = some y → Fy i y s₄.heap) → Y s₄ → Fr g L' s₄.heap mm → News g L' s₄.heap nn → s₄.heap.IsList D ys.toArray → s₄.heap.PlainList D ys.toArray → QQ C (.ref D) s₄)) :
    wpAny (model prog w) A (pyIter (.ref d)) (fun it s₂ => CompJ prog w A env elt x scope cl QQ it s₂) E s := by
  obtain ⟨ep, hda⟩ := hd.dictAt
  refine wpAny_pyIter_dict hlo hda ?_
  have hk : Kept [] s.heap (s.heap.push { cls := .type "dict_keyiterator", data := .fields #[.ref d, .int 0 0, .int kvs.length 0, .int ep 0] }) := Kept.push _ _ _
  have hz : (s.heap.push { cls := .type "dict_keyiterator", data := .fields #[.ref d, .int 0 0, .int kvs.length 0, .int ep 0] }).objs.size = s.heap.objs.size + 1 := Heap.size_push ..
  refine compJ_q (knd := knd) hh ⟨_, Heap.get?_push_size _ rfl, rfl, rfl⟩ (hda.push _) (Nat.ne_of_lt hda.lt_size) hsz (Fr.kept F hk (by simp) (by simp)) (News.kept N hk (by simp)) (Fr.fresh F (Nat.le_refl _)).2 (Fr.fresh F (Nat.le_refl _)).1 (fun p hp => Nat.ne_of_lt (Heap.lt_size (N p hp).1)) Y (hYs _ _ _ hY) hYs (fun C D hC hD hCD => ?_)
  have hle := Nat.le_of_lt (Nat.lt_of_lt_of_eq (Nat.lt_succ_self _) hz.symm)
  exact mk C D _ (Nat.le_trans hle hC) (Nat.le_trans hle hD) hCD
end
end Mine
namespace Mine
theorem fresh_C1 : True := by
  w_top off
  trivial
end Mine
-- part U0
namespace Mine
section
variable {w : World} {A : Around} {h₀ : Heap} {L : Addr} {m : Str → Option Value} {s : Shared} {Q : Value → Shared → Prop} {E : Value → Shared → Prop}

/-- how many errors stand at and under a node -/
def tot (ar : Nat → Nd) : Nat → Nat → Nat
  | 0, _ => 0
  | f + 1, i => (ar i).errs.length + ((ar i).kids.map fun kj => tot ar f kj.2).sum
/-- the nodes are a tree, at most three deep -/
structure Arena (ar : Nat → Nd) (n : Nat) : Prop where
  kid : ∀ i < n, ∀ kj ∈ (ar i).kids, kj.2 < n ∧ (ar kj.2).dep = (ar i).dep + 1
  dep : ∀ i < n, (ar i).dep ≤ 3
  kids : ∀ i < n, (ar i).kids.length ≤ 1000
  errs : ∀ i < n, (ar i).errs.length ≤ 1000
def totB : Nat → Nat
  | 0 => 0
  | f + 1 => 1000 + 1000 * totB f
theorem sum_le_mul {l : List Nat} {b : Nat} (h : ∀ x ∈ l, x ≤ b) : l.sum ≤ l.length * b := by
  induction l with
  | nil => simp
  | cons a r ih =>
    have h1 := h a (.head _)
    have h2 := ih fun x hx => h x (.tail _ hx)
    rw [List.sum_cons, List.length_cons, Nat.succ_mul]
    omega
theorem tot_le {ar : Nat → Nd} {n : Nat} (AR : Arena ar n) : ∀ (f i : Nat), i < n → tot ar f i ≤ totB f
  | 0, _, _ => Nat.le_refl _
  | f + 1, i, hi => by
    show (ar i).errs.length + ((ar i).kids.map fun kj => tot ar f kj.2).sum ≤ 1000 + 1000 * totB f
    have h1 := AR.errs i hi
    have h2 : ((ar i).kids.map fun kj => tot ar f kj.2).sum ≤ ((ar i).kids.map fun kj => tot ar f kj.2).length * totB f := sum_le_mul fun x hx => by
      obtain ⟨kj, hk, rfl⟩ := List.mem_map.mp hx
      exact tot_le AR f kj.2 (AR.kid i hi kj hk).1
    rw [List.length_map] at h2
    have h3 := Nat.mul_le_mul_right (totB f) (AR.kids i hi)
    omega
theorem Msgs.len {kvs : List (Str × Value)} {e : List (Str × Str)} (h : Msgs kvs e) : kvs.length = e.length := by
  induction h with
  | nil => rfl
  | cons _ ih => simp [ih]
theorem cast_sum {α : Type} (g : α → Nat) : ∀ l : List α, (((l.map g).sum : Nat) : Int) = (l.map fun x => (g x : Int)).sum
  | [] => rfl
  | a :: r => by
    rw [List.map_cons, List.map_cons, List.sum_cons, List.sum_cons, ← cast_sum g r]
    push_cast; rfl
theorem sum_listJ {prog : Program} {l : Addr} {ys : List Value} {tl : List Int} (hh : A.handled = none) (hl : s.heap.IsList l ys.toArray) (hlen : ys.length = tl.length) (hv : ∀ (i : Nat) (y : Value), ys[i]? = some y → ∃ t, y = Value.int (tl.getD i 0) t)
    (h : ∀ t h' tk, Kept [] s.heap h' → Q (.int tl.sum t) { s with heap := h', toks := tk }) : wpAny (model prog w) A (call (.builtin "sum") [.ref l]) Q E s := by
  refine call_sum_walkAnyS (wpAny_pyIter_list hl ?_)
  have hlt : l < s.heap.objs.size := let ⟨_, e, _⟩ := hl; Heap.lt_size e
  refine ⟨_, _, _, _, _, _, _, fun i => tl.getD i 0, rfl, (Walks.list (A := A.in1) hh s.heap.objs.size l (Nat.ne_of_lt hlt) ys.toArray).toS, ⟨⟨_, Heap.get?_push_size _ rfl, rfl, rfl⟩, hl.push _⟩, ?_, ?_, ?_⟩
  · intro b hb
    show b < (s.heap.push _).objs.size
    rw [Heap.size_push]
    rcases List.mem_cons.mp hb with rfl | hb
    · exact Nat.lt_succ_self _
    · rw [List.mem_singleton.mp hb]; exact Nat.lt_succ_of_lt hlt
  · intro i v hi
    exact hv i v (by simpa using hi)
  · rintro ⟨h', gens', dr', tk', os'⟩ t' hm
    have e1 : gens' = s.gens := hm.gens
    have e2 : dr' = s.drawn := hm.drawn
    have e3 : os' = s.os := hm.os
    subst e1 e2 e3
    have e : preSum (fun i => tl.getD i 0) ys.toArray.size = tl.sum := by
      rw [preSum_getD, List.size_toArray, hlen, List.take_length]
    rw [e]
    refine h t' h' tk' fun b o _ e => hm.heap b o (fun q => ?_) (Heap.get?_push_of_some _ e)
    have := Heap.lt_size e
    rw [List.mem_singleton.mp q] at this; exact Nat.lt_irrefl _ this
theorem total_spec {na : Nat → MA} {ar : Nat → Nd} {n : Nat} (AR : Arena ar n) : ∀ (f i : Nat), i < n → 4 - (ar i).dep = f → ∀ {A : Around} {h₀ : Heap} {L : Addr} {m : Str → Option Value} {s : Shared} {Q : Value → Shared → Prop} {E : Value → Shared → Prop} (H : Here w A h₀ L) (hdp : A.depth + 10 * f < 870) (hun : A.units + 100 * f < 8700) (F : Fr h₀ L s.heap m)
    (hm : Mod w s.heap n na ar)
    (ret : ∀ t h' tk', Kept [] s.heap h' → Q (.int (tot ar f i : Nat) t) { s with heap := h', toks := tk' }),
    wpAny (model PySem.Challenge.rw_vk0009_01.row.prog w) A (call (.ref 251) [.ref (na i).nd]) Q E s := by
  intro f
  induction f with
  | zero => intro i hi hf; have := AR.dep i hi; omega
  | succ f ih =>
  intro i hi hf A h₀ L m s Q E H hdp hun F hm ret
  have X := H.inK
  revert X; k_fill; intro X
  refine wpAny_call ?_
  refine' codeAny_mono (enterC (R := Q) (E := E) H F News.nil ?k6 ?k7 ?k8 ?k9 ?kB ?kN ?kW ?c2 ?c3 ?c4) ?kM
  case k6 => k_is
  case k7 => k_is
  case k8 => show A.depth < 1000; omega
  case k9 => exact BindsTo.of_eq rfl
  case kB => exact rfl
  case kN => decide +kernel
  case c2 => exact rfl
  case c3 => exact rfl
  case c4 => exact rfl
  case kM => exact fun _ _ h => h
  case kW =>
    intro g' L' h' tk cells H' F' N' Y' up down hL' hnl
    k_cells Y'
    (try simp only [List.cons_append, List.nil_append] at N')
    have up1 : Kept [] s.heap g' := fun b o n e => up b o (by simp) e
    have hm1 := hm.kept up1 (by simp)
    obtain ⟨ekvs, hed, hem⟩ := (hm1 i hi).e
    have hel := hem.len
    have her := AR.errs i hi
    obtain ⟨⟨A₀, base, outer, env, p, loose, mean, mg, mb, B', T', hfr, _⟩, X', hh'⟩ := id H'
    (with_reducible show wpAny _ _ _ _ _ _)
    (try k_fold)
    repeat' (((fail_if_success (with_reducible show wpAny _ _ (eval (PySem.Expr.ListComp _ _ _ _) _) _ _ _))); first | (k_unfold; (try dsimp only)) | (k_end; wrow_close) | walk1 | (dsimp only; walk1) | (leave1; walk_say "STEP leave1"; try dsimp only) | fail "no step")
    refine sub_dict (str_is _ _) (dictOf_kept (hm1 i hi).d (kept_F (by assumption)) (by simp)) (node_errors (na i)) ?_
    repeat' (((fail_if_success (with_reducible show wpAny _ _ (eval (PySem.Expr.ListComp _ _ _ _) _) _ _ _))); first | (k_unfold; (try dsimp only)) | (k_end; wrow_close) | walk1 | (dsimp only; walk1) | (leave1; walk_say "STEP leave1"; try dsimp only) | fail "no step")
    refine call_len_dict (hm1 i hi).lo.2.1 (dictOf_kept hed (kept_F (by assumption)) (by simp)) (by omega) ?_
    repeat' (((fail_if_success (with_reducible show wpAny _ _ (eval (PySem.Expr.ListComp _ _ _ _) _) _ _ _))); first | (k_unfold; (try dsimp only)) | (k_end; wrow_close) | walk1 | (dsimp only; walk1) | (leave1; walk_say "STEP leave1"; try dsimp only) | fail "no step")
    refine' comp_J ?cc ?cl ?ck ?cn ?cx ?ch ?cs
    case cc => with_unfolding_all rfl
    case cl => decide
    case ck => with_unfolding_all rfl
    case cn => decide
    case cx => with_unfolding_all rfl
    case cs => intro _; with_unfolding_all rfl
    case ch =>
      repeat' (((fail_if_success (with_reducible show wpAny _ _ (eval (PySem.Expr.ListComp _ _ _ _) _) _ _ _))); first | (k_unfold; (try dsimp only)) | (k_end; wrow_close) | walk1 | (dsimp only; walk1) | (leave1; walk_say "STEP leave1"; try dsimp only) | fail "no step")
      refine sub_dict (str_is _ _) (dictOf_kept (hm1 i hi).d (kept_F (by assumption)) (by simp)) (node_kids (na i)) ?_
      repeat' (((fail_if_success (with_reducible show wpAny _ _ (eval (PySem.Expr.ListComp _ _ _ _) _) _ _ _))); first | (k_unfold; (try dsimp only)) | (k_end; wrow_close) | walk1 | (dsimp only; walk1) | (leave1; walk_say "STEP leave1"; try dsimp only) | fail "no step")
      rename Fr g' _ _ _ => Fc
      rename News g' _ _ _ => Nc
      refine comp_keys_q (knd := kyKind prg w) hh' (hm1 i hi).lo.2.2 (dictOf_kept (hm1 i hi).k (kept_F Fc) (by simp)) (by rw [List.length_map, sizeLine_eq]; have := AR.kids i hi; omega) Fc Nc (fun s' => ∃ h tk, s' = { s with heap := h, toks := tk }) ⟨_, _, rfl⟩ (fun _ h tk ⟨_, _, e⟩ => ⟨h, tk, by rw [e]⟩) (fun C D I hC hD hCD => ?_)
      refine ⟨fun j y _ => ∃ t, y = .int (((ar i).kids.map fun kj => (tot ar f kj.2 : Int)).getD j 0) t, fun j y h h' e _ => e, ?_, ?_⟩
      · rintro j v k xv m₁ s₁ E' hj hkv ⟨h1, tk1, rfl⟩ F1 N1 hns hmx hlow
        rw [List.getElem?_map] at hj
        obtain ⟨⟨k', j'⟩, hj1, hj2⟩ := Option.map_eq_some_iff.mp hj
        cases hj2
        clear Fc Nc
        repeat' (((fail_if_success (with_reducible show wpAny _ _ (subscriptTail _ _ _ _) _ _ _))); first | (k_unfold; (try dsimp only)) | (k_end; wrow_close) | walk1 | (dsimp only; walk1) | (leave1; walk_say "STEP leave1"; try dsimp only) | fail "no step")
        refine sub_dict (str_is _ _) (dictOf_kept (hm1 i hi).d (kept_F (by assumption)) (by simp)) (node_kids (na i)) ?_
        repeat' (((fail_if_success (with_reducible show wpAny _ _ (subscriptTail _ _ _ _) _ _ _))); first | (k_unfold; (try dsimp only)) | (k_end; wrow_close) | walk1 | (dsimp only; walk1) | (leave1; walk_say "STEP leave1"; try dsimp only) | fail "no step")
        have hkd := dictOf_kept (S := []) (hm1 i hi).k (kept_F (by assumption)) (by simp)
        have hnd : (((ar i).kids.map fun kj => (kj.1, Value.ref (na kj.2).nd)).map (·.1)).Nodup := let ⟨_, q⟩ := hkd.dictAt; q.nodup
        refine sub_dict (knd := kyKind prg w) hkv hkd (valueAt_of_get hnd (i := j) (by rw [List.getElem?_map, hj1]; rfl)) ?_
        k_steps
        refine ih j' (AR.kid i hi _ (List.mem_of_getElem? hj1)).1 (by have := (AR.kid i hi _ (List.mem_of_getElem? hj1)).2; dsimp only at this; omega) H' (by show A.depth + 1 + 10 * f < 870; omega) (by show A.units + 3 + 100 * f < 8700; omega) F1 (hm1.kept (kept_F F1) (by simp)) (fun t3 h3 tk3 hk3 => ?_)
        (try k_unfold)
        refine ⟨⟨t3, ?_⟩, ⟨h3, tk3, rfl⟩, hk3⟩
        rw [List.getD_eq_getElem?_getD, List.getElem?_map, hj1]; rfl
      · rintro ys s₄ hlen hall ⟨h1, tk1, rfl⟩ F1 N1 hl hp
        clear Fc Nc
        repeat' (((fail_if_success (with_reducible show wpAny _ _ (call (.builtin _) _) _ _ _))); first | (k_unfold; (try dsimp only)) | (k_end; wrow_close) | walk1 | (dsimp only; walk1) | (leave1; walk_say "STEP leave1"; try dsimp only) | fail "no step")
        refine sum_listJ (tl := (ar i).kids.map fun kj => (tot ar f kj.2 : Int)) hh' hl (by rw [hlen]; simp) hall (fun t3 h3 tk3 hk3 => ?_)
        have F3 := Fr.kept F1 hk3 (by simp) (by simp)
        have N3 := News.kept N1 hk3 (by simp)
        clear F1 N1
        k_steps
        refine Back.intro F3 fun hk => ?_
        have e : ((ekvs.length : Nat) : Int) + ((ar i).kids.map fun kj => (tot ar f kj.2 : Int)).sum = ((tot ar (f + 1) i : Nat) : Int) := by
          rw [← cast_sum, hel]
          show _ = (((ar i).errs.length + _ : Nat) : Int)
          push_cast; rfl
        rw [e]
        exact ret _ _ _ (by simpa using hk)
end
end Mine
namespace Mine
theorem fresh_U0 : True := by
  w_top off
  trivial
end Mine
-- part G0
namespace Mine
/-- generators grow -/
structure Grow (a b : Array GenState) : Prop where
  size : a.size ≤ b.size
  same : ∀ i, i < a.size → b[i]? = a[i]?
  bare : ∀ i x, a.size ≤ i → b[i]? = some x → x.bare = true
theorem Grow.refl (a : Array GenState) : Grow a a := ⟨Nat.le_refl _, fun _ _ => rfl, fun i x h e => by rw [Array.getElem?_eq_none h] at e; cases e⟩
theorem Grow.trans {a b c : Array GenState} (x : Grow a b) (y : Grow b c) : Grow a c :=
  ⟨Nat.le_trans x.size y.size, fun i h => (y.same i (Nat.lt_of_lt_of_le h x.size)).trans (x.same i h), fun i z h e => by
    rcases Nat.lt_or_ge i b.size with hb | hb
    · rw [y.same i hb] at e; exact x.bare i z h e
    · exact y.bare i z hb e⟩
theorem Grow.all {a b : Array GenState} (x : Grow a b) (h : ∀ y ∈ a, y.bare = true) : ∀ y ∈ b, y.bare = true := by
  intro y hy
  obtain ⟨i, hi, rfl⟩ := Array.mem_iff_getElem.mp hy
  rcases Nat.lt_or_ge i a.size with ha | ha
  · have e := x.same i ha
    rw [Array.getElem?_eq_getElem hi, Array.getElem?_eq_getElem ha] at e
    rw [Option.some.inj e]; exact h _ (Array.getElem_mem ha)
  · exact x.bare i _ ha (Array.getElem?_eq_getElem hi)
/-- since a generator went on -/
def Since (S : List Addr) (s₀ s : Shared) : Prop := ∃ h tk gs, s = { s₀ with heap := h, toks := tk, gens := gs } ∧ Kept S s₀.heap h ∧ Grow s₀.gens gs
theorem Since.refl {S : List Addr} {s : Shared} : Since S s s := ⟨s.heap, s.toks, s.gens, rfl, Kept.refl _ _, Grow.refl _⟩
theorem Since.heap {S : List Addr} {s₀ s : Shared} (x : Since S s₀ s) {h' : Heap} {tk : Nat} (k : Kept S s.heap h') : Since S s₀ { s with heap := h', toks := tk } := by
  obtain ⟨h, tk', gs, rfl, k0, g⟩ := x
  exact ⟨h', tk, gs, rfl, k0.trans k, g⟩
theorem Since.after {S : List Addr} {s₀ s s' : Shared} (x : Since S s₀ s) (y : Since [] s s') : Since S s₀ s' := by
  obtain ⟨h, tk', gs, rfl, k0, g⟩ := x
  obtain ⟨h', tk, gs', rfl, k, g'⟩ := y
  exact ⟨h', tk, gs', rfl, k0.trans (k.mono (by simp)), g.trans g'⟩
theorem Since.trans {S : List Addr} {s₀ s s' : Shared} (x : Since S s₀ s) (y : Since S s s') : Since S s₀ s' := by
  obtain ⟨h, tk', gs, rfl, k0, g⟩ := x
  obtain ⟨h', tk, gs', rfl, k, g'⟩ := y
  exact ⟨h', tk, gs', rfl, k0.trans k, g.trans g'⟩
/-- what must stand when a generator is woken again -/
def Alike (C : Addr) (s s'' : Shared) : Prop := ∀ b o, b ≤ C → s.heap.get? b = some o → s''.heap.get? b = some o
/-- what stands of the heap at the making -/
def Stands (C I : Addr) (href h : Heap) : Prop := ∀ b o, b < C → b ≠ I → href.get? b = some o → h.get? b = some o
def yp (C I : Addr) (n₀ : Nat) (F : Nat → Value → Prop) : Protocol := fun m s₀ v s kap => F (n₀ - 1 - m) v ∧ m < n₀ ∧ Since [C, I] s₀ s ∧ ∀ s'' : Shared, Alike C s s'' → kap (.send .none) s''
def yr (C I : Addr) : Nat → Shared → Shared → Prop := fun n s₀ s₁ => n = 0 ∧ Since [C, I] s₀ s₁
section
variable {prog : Program} {w : World} {A : Around} {K : Type} [DecidableEq K] {knd : PySem.KeyKind prog w K}
def EltOk (prog : Program) (w : World) (A : Around) (kvs : List (K × Value)) (C I : Addr) (cenv : Env) (xb : Str) (elt : Expr) (F : Nat → Value → Prop) (href : Heap) : Prop :=
  ∀ (i : Nat) k v (s₂ : Shared) (m₂ : Str → Option Value) (E' : Value → Shared → Prop), kvs[i]? = some (k, v) → s₂.heap.Ns C m₂ → m₂ xb = some v → Stands C I href s₂.heap →
    wpAny (model prog w) A (eval elt cenv) (fun y s₃ => F i y ∧ Since [] s₂ s₃) E' s₂
theorem seg_itemsLoop {elt iter : Expr} {xa xb : Str} {pa pb pt : Pos} {kt : Nat} {scope : Scope} {pos : Pos} {C I d : Addr} {kvs : List (K × Value)} {ep : Nat} {cenv : Env} (hC : cenv.locals = C)
    (hh : A.handled = none) (hab : xa ≠ xb) (F : Nat → Value → Prop) (href : Heap) (hdC : d < C) (hdI : d ≠ I) (hIC : I < C) (hm : href.DictAt knd d kvs ep)
    (hxa : cenv.kindOf xa = some .local) (hxb : cenv.kindOf xb = some .local) (hp : (cenv.scope.kind == .class || (cenv.scope.kind == .module && cenv.locals != cenv.globals)) = false)
    (hco : cenv.scope.isCoroutine = false)
    (hq : EltOk prog w (A.over (.compLoop (.GeneratorExp elt [⟨.Tuple [.Name xa pa, .Name xb pb] kt pt, iter, [], 0⟩] scope pos) 0 (.ref I) .none cenv) []) kvs C I cenv xb elt F href) :
    ∀ (k i : Nat) (s₀ s : Shared) (m : Str → Option Value) (ok ov : Value), kvs.length - i = k → i ≤ kvs.length → IsItemIter s.heap I d i kvs.length ep ok ov → s.heap.Ns C m → Since [C, I] s₀ s → Stands C I href s.heap →
      Seg (model prog w) A (fun n s₀ r s₁ => r = .ok .next ∧ yr C I n s₀ s₁) (yp C I kvs.length F) (kvs.length - i) s₀
        (.compLoop (.GeneratorExp elt [⟨.Tuple [.Name xa pa, .Name xb pb] kt pt, iter, [], 0⟩] scope pos) 0 (.ref I) .none cenv)
        ((model prog w).den (.compLoop (.GeneratorExp elt [⟨.Tuple [.Name xa pa, .Name xb pb] kt pt, iter, [], 0⟩] scope pos) 0 (.ref I) .none cenv)) [] s := by
  have hh' : (A.over (.compLoop (.GeneratorExp elt [⟨.Tuple [.Name xa pa, .Name xb pb] kt pt, iter, [], 0⟩] scope pos) 0 (.ref I) .none cenv) []).handled = none := hh
  subst hC
  intro k
  induction k with
  | zero =>
    intro i s₀ s m ok ov hk hi hit hn hsince hst
    have hin : i = kvs.length := by omega
    subst hin
    show Seg _ A _ _ _ s₀ _ ((compTurn (.GeneratorExp elt [⟨.Tuple [.Name xa pa, .Name xb pb] kt pt, iter, [], 0⟩] scope pos) 0 (.ref I) .none cenv).onRaise (leaving cenv)) [] s
    rw [compTurn_gen, Sem.onRaise_eq_wrap]
    refine seg_bind_wrap (wpAny_standAt ?_)
    have hds : s.heap.DictAt knd d kvs ep := hm.at' fun o e => hst d o hdC hdI e
    refine seg_bind_wrap (wpAny_pyNext_items_end hh' hit hds (by simp) fun h' hk' => ?_)
    refine seg_end (.ok .next) ⟨rfl, by simp, hsince.heap (fun b o hb e => hk' b o (fun q => hb (q ▸ .tail _ (.head _))) e)⟩
  | succ k ih =>
    intro i s₀ s m ok ov hk hi hit hn hsince hst
    have hlt : i < kvs.length := by omega
    obtain ⟨⟨kk, v⟩, hv⟩ : ∃ p, kvs[i]? = some p := ⟨kvs[i], by simp [hlt]⟩
    have hds : s.heap.DictAt knd d kvs ep := hm.at' fun o e => hst d o hdC hdI e
    have hIH : I < s.heap.objs.size := Heap.lt_size hit
    have hLH : cenv.locals < s.heap.objs.size := hn.lt
    show Seg _ A _ _ _ s₀ _ ((compTurn (.GeneratorExp elt [⟨.Tuple [.Name xa pa, .Name xb pb] kt pt, iter, [], 0⟩] scope pos) 0 (.ref I) .none cenv).onRaise (leaving cenv)) [] s
    rw [compTurn_gen, Sem.onRaise_eq_wrap]
    refine seg_bind_wrap (wpAny_standAt ?_)
    refine seg_bind_wrap (wpAny_pyNext_items_item hit hds hv fun key h₁ hkey heo ht₁ hz₁ hk₁ => ?_)
    refine seg_bind_wrap (wpAny_letOwnedTupleGo_items heo fun h₂ he₂ hs₂ => ?_)
    replace hs₂ : Heap.SameBut I h₁ h₂ := hs₂
    have ht₂ : h₂.IsTuple s.heap.objs.size #[key, v] := ⟨_, (hs₂.2 _ (Nat.ne_of_gt hIH)).trans ht₁, rfl, _, rfl⟩
    have hz₂ : h₂.objs.size = s.heap.objs.size + 1 := hs₂.1.trans hz₁
    refine seg_bind_wrap (wpAny_assign_Tuple hh' ht₂ rfl rfl fun h₃ hx₃ => ?_)
    replace hx₃ : Heap.ExtBut h₂.objs.size h₂ h₃ := hx₃
    have old₃ : ∀ b o, b < s.heap.objs.size → h₂.get? b = some o → h₃.get? b = some o := fun b o hb x => hx₃ b o (by rw [hz₂]; exact Nat.ne_of_lt (Nat.lt_succ_of_lt hb)) x
    have hIL : cenv.locals ≠ I := Nat.ne_of_gt hIC
    have hn₃ : h₃.Ns cenv.locals m := ((hn.at' fun o x => hk₁ _ o hIL x).sameBut hs₂ hIL).at' fun o x => old₃ _ o hLH x
    show wpAny _ _ (do holding [v] (assign (.Name xa pa) cenv key); do holding [] (assign (.Name xb pb) cenv v); pure ()) _ _ _
    refine wpAny_bind (wpAny_holding (wpAny_assign_Name (wpAny_storeName_local hxa hn₃ (fun h₄ hn₄ hs₄ => ?_) hp)))
    replace hs₄ : Heap.SameBut cenv.locals h₃ h₄ := hs₄
    refine wpAny_bind (wpAny_holding (wpAny_assign_Name (wpAny_storeName_local hxb hn₄ (fun h₅ hn₅ hs₅ => wpAny_pure ?_) hp)))
    replace hs₅ : Heap.SameBut cenv.locals h₄ h₅ := hs₅
    have up₅ : ∀ b o, b ≠ cenv.locals → b < s.heap.objs.size → h₂.get? b = some o → h₅.get? b = some o := fun b o hbL hb x => hs₅.extBut b o hbL (hs₄.extBut b o hbL (old₃ b o hb x))
    have up : ∀ b o, b ≠ cenv.locals → b ≠ I → s.heap.get? b = some o → h₅.get? b = some o := fun b o hbL hbi x => up₅ b o hbL (Heap.lt_size x) (hs₂.extBut b o hbi (hk₁ b o hbi x))
    have hst₅ : Stands cenv.locals I href h₅ := fun b o hb hbi e => up b o (Nat.ne_of_lt hb) hbi (hst b o hb hbi e)
    have hit₅ : IsItemIter h₅ I d (i + 1) kvs.length ep key v := up₅ I _ (Ne.symm hIL) hIH he₂
    have hsince₅ : Since [cenv.locals, I] s₀ { s with heap := h₅, toks := s.toks + 1 + 1 } := hsince.heap (fun b o hb e => up b o (fun q => hb (q ▸ .head _)) (fun q => hb (q ▸ .tail _ (.head _))) e)
    refine seg_bind_wrap (wpAny_tests_nil ?_)
    rw [if_pos rfl]
    have hy : ∀ v, yieldOut cenv v = yieldValue v := fun v => by simp only [yieldOut, hco, Bool.false_eq_true, if_false]
    simp only [hy]
    rw [Sem.bind_eq_wrap', Sem.bind_eq_wrap', Sem.wrap_wrap, Sem.wrap_wrap]
    have hmx : (fun y => if y = xb then some v else if y = xa then some key else m y) xb = some v := by simp
    refine seg_wrap (wpAny_mono (hq i kk v _ _ _ hv hn₅ hmx hst₅) (fun y s₆ h₆ => ?_) fun _ _ e => e)
    obtain ⟨hFy, haft⟩ := h₆
    have hsince₆ := hsince₅.after haft
    obtain ⟨h₆, tk₆, gs₆, rfl, k₆, g₆⟩ := haft
    have e1 : kvs.length - i = (kvs.length - (i + 1)) + 1 := by omega
    rw [e1]
    refine seg_at (seg_yield rfl rfl rfl ⟨by have : kvs.length - 1 - (kvs.length - (i + 1)) = i := by omega
                                             rw [this]; exact hFy, by omega, hsince₆, fun s'' hal => ?_⟩)
    refine seg_again rfl (ih (i + 1) s'' s'' (fun y => if y = xb then some v else if y = xa then some key else m y) key v (by omega) hlt ?_ ?_ Since.refl fun b o hb hbi e => ?_)
    · exact hal I _ (Nat.le_of_lt hIC) (k₆ _ _ (by simp) hit₅)
    · exact (hn₅.at' fun o e => k₆ _ o (by simp) e).at' fun o e => hal _ o (Nat.le_refl _) e
    · exact hal b o (Nat.le_of_lt hb) (k₆ b o (by simp) (hst₅ b o hb hbi e))

def GenSt (prog : Program) (w : World) (A : Around) (a : Addr) (g : Nat) (C I : Addr) (n₀ : Nat) (F : Nat → Value → Prop) (j : Nat) (s : Shared) : Prop :=
  s.heap.IsGen a g ∧ s.heap.NoLimit ∧ ∃ gs, s.gens[g]? = some gs ∧ ∀ s'' : Shared, Alike C s s'' →
    gs.Goes (model prog w) A.in1 (fun n s₀ r s₁ => r = .ok .next ∧ yr C I n s₀ s₁) (yp C I n₀ F) (n₀ - j) (.send .none) s''
/-- the generators' numbers: g's own state turns, the older ones stay, new ones are bare -/
structure GrowBut (g : Nat) (a b : Array GenState) : Prop where
  size : a.size ≤ b.size
  same : ∀ i, i < a.size → i ≠ g → b[i]? = a[i]?
  own : b[g]? = a[g]? ∨ ∀ x, b[g]? = some x → x.bare = true
  bare : ∀ i x, a.size ≤ i → i ≠ g → b[i]? = some x → x.bare = true
theorem GrowBut.refl (g : Nat) (a : Array GenState) : GrowBut g a a := ⟨Nat.le_refl _, fun _ _ _ => rfl, .inl rfl, fun i x h _ e => by rw [Array.getElem?_eq_none h] at e; cases e⟩
theorem GrowBut.trans {g : Nat} {a b c : Array GenState} (x : GrowBut g a b) (y : GrowBut g b c) : GrowBut g a c :=
  ⟨Nat.le_trans x.size y.size, fun i h n => (y.same i (Nat.lt_of_lt_of_le h x.size) n).trans (x.same i h n), by
    rcases y.own with e | e
    · rw [e]; exact x.own
    · exact .inr e, fun i z h n e => by
    rcases Nat.lt_or_ge i b.size with hb | hb
    · rw [y.same i hb n] at e; exact x.bare i z h n e
    · exact y.bare i z hb n e⟩
theorem setGen_gens (s : Shared) (g i : Nat) (x : GenState) (h : i ≠ g) : (s.setGen g x).gens[i]? = s.gens[i]? := by
  simp [Shared.setGen, Ne.symm h]
theorem setGen_size (s : Shared) (g : Nat) (x : GenState) : (s.setGen g x).gens.size = s.gens.size := by simp [Shared.setGen]
theorem GrowBut.of {s s₁ : Shared} {g : Nat} {gs gs' : GenState} (hgs : s.gens[g]? = some gs) (x : Grow (s.setGen g .running).gens s₁.gens) (hb : gs'.bare = true) : GrowBut g s.gens (s₁.setGen g gs').gens := by
  have hz : (s.setGen g .running).gens.size = s.gens.size := setGen_size ..
  have hlt : g < s.gens.size := by
    rcases Nat.lt_or_ge g s.gens.size with h' | h'
    · exact h'
    · rw [Array.getElem?_eq_none h'] at hgs; cases hgs
  have h1 : s₁.gens[g]? = some .running := (x.same g (by rw [hz]; exact hlt)).trans (setGen_self hgs)
  refine ⟨by rw [setGen_size, ← hz]; exact x.size, fun i h n => ?_, .inr fun y hy => ?_, fun i y h n e => ?_⟩
  · rw [setGen_gens _ _ _ _ n, x.same i (by rw [hz]; exact h), setGen_gens _ _ _ _ n]
  · rw [setGen_self h1] at hy; cases hy; exact hb
  · rw [setGen_gens _ _ _ _ n] at e
    exact x.bare i y (by rw [hz]; exact h) e
theorem walksS_nest (hh : A.handled = none) (a : Addr) (g : Nat) (C I : Addr) (n₀ : Nat) (F : Nat → Value → Prop) (haC : C < a) (hIC : I < C) (hroom : A.depth < recursionLimit) (hcs : cStatics < C) (hcI : cStatics ≠ I) :
    WalksS prog w A a (a :: C :: List.range C) [C, I] (GrowBut g) n₀ F (GenSt prog w A a g C I n₀ F) where
  sub := fun b hb => by
    have : b = C ∨ b = I := by simpa using hb
    rcases this with rfl | rfl
    · simp
    · simp [hIC]
  grefl := fun _ => GrowBut.refl _ _
  gtrans := fun _ _ _ x y => x.trans y
  frame := fun j s h' tk st _ hk => by
    obtain ⟨hg, hl, gs, hgs, hgo⟩ := st
    have hlow : ∀ b o, b ≤ C → s.heap.get? b = some o → h'.get? b = some o := fun b o hb e => by
      rcases Nat.lt_or_eq_of_le hb with hb | rfl
      · exact hk b (by simp [hb]) o e
      · exact hk b (by simp) o e
    refine ⟨let ⟨o, nm, qn, ho, r⟩ := hg; ⟨o, nm, qn, hk a (List.mem_cons_self ..) o ho, r⟩, (let ⟨mc, hns, hnn⟩ := hl; ⟨mc, hns.at' fun o e => hlow cStatics o (Nat.le_of_lt hcs) e, hnn⟩), gs, hgs, fun s'' hal => hgo s'' fun b o hb e => hal b o hb (hlow b o hb e)⟩
  item := fun j s Q E hj st hQ => by
    obtain ⟨hg, hl, gs, hgs, hgo⟩ := st
    obtain ⟨m, hm⟩ : ∃ m, n₀ - j = m + 1 := ⟨n₀ - j - 1, by omega⟩
    rw [hm] at hgo
    have hst : Alike C s (s.setGen g .running) := fun _ _ _ e => e
    refine wpAny_with_toks (Nat.le_refl s.toks) ?_
    refine wpAny_pyNext_genexpQ (P := yr C I) hh hl hroom hg hgs (hgo _ hst) (fun v s₁ gs' hb hv => ?_) (fun s₁ hp h' hk => ?_)
    · obtain ⟨hF, hlt, hsince, hkap⟩ := hv
      obtain ⟨h₁, tk₁, gs₁, rfl, hk₁, hgr⟩ := hsince
      have hidx : n₀ - 1 - (m + 1 - 1) = j := by omega
      rw [hidx] at hF
      intro htk
      have hgrow := GrowBut.of (s := s) (gs' := gs') (s₁ := { s.setGen g .running with heap := h₁, toks := tk₁, gens := gs₁ }) hgs hgr hb
      have h1 : gs₁[g]? = some .running := (hgr.same g (by
        have hz : (s.setGen g .running).gens.size = s.gens.size := setGen_size ..
        rcases Nat.lt_or_ge g s.gens.size with h' | h'
        · rw [hz]; exact h'
        · rw [Array.getElem?_eq_none h'] at hgs; cases hgs)).trans (setGen_self hgs)
      have mem : ∀ b, b ∈ [C, I] → b = C ∨ b = I := fun b hb => by simpa using hb
      refine hQ v _ hF ⟨let ⟨o, nm, qn, ho, r⟩ := hg; ⟨o, nm, qn, hk₁ a o (fun q => ?_) ho, r⟩, (let ⟨mc, hns, hnn⟩ := hl; ⟨mc, hns.at' fun o e => hk₁ cStatics o (fun q => ?_) e, hnn⟩), gs', setGen_self (gs := .running) h1, fun s'' hal => ?_⟩
        ⟨fun b o hb e => hk₁ b o hb e, hgrow, rfl, rfl, htk⟩
      · rcases mem _ q with e | e
        · exact absurd haC (by rw [e]; exact Nat.lt_irrefl _)
        · exact absurd (Nat.lt_trans hIC haC) (by rw [e]; exact Nat.lt_irrefl _)
      · rcases mem _ q with e | e
        · exact absurd hcs (by rw [e]; exact Nat.lt_irrefl _)
        · exact hcI e
      · have e : n₀ - (j + 1) = m := by omega
        rw [e]
        exact hkap s'' hal
    · exact absurd hp.1 (Nat.succ_ne_zero m)
  done := fun s Q E st hQ => by
    obtain ⟨hg, hl, gs, hgs, hgo⟩ := st
    rw [Nat.sub_self] at hgo
    have hst : Alike C s (s.setGen g .running) := fun _ _ _ e => e
    refine wpAny_with_toks (Nat.le_refl s.toks) ?_
    refine wpAny_pyNext_genexpQ (P := yr C I) hh hl hroom hg hgs (hgo _ hst) (fun v s₁ gs' hb hv => ?_) (fun s₁ hp h' hk => ?_)
    · obtain ⟨_, _, hsince, hkap⟩ := hv
      exact False.elim (hkap _ fun _ _ _ e => e)
    · obtain ⟨_, h₁, tk₁, gs₁, rfl, hk₁, hgr⟩ := hp
      intro htk
      exact hQ _ ⟨fun b o hb e => hk b o (hk₁ b o hb e), GrowBut.of (s := s) (gs' := .finished) (s₁ := { s.setGen g .running with heap := h₁, toks := tk₁, gens := gs₁ }) hgs hgr rfl, rfl, rfl, htk⟩
  self := fun _ _ _ _ st hQ => wpAny_pyIter_gen st.1 hQ
end
end Mine
namespace Mine
theorem fresh_G0 : True := by
  w_top off
  trivial
end Mine
-- part G1
namespace Mine
section
variable {w : World} {A : Around} {h₀ : Heap} {L : Addr} {m : Str → Option Value} {s : Shared} {Q : Value → Shared → Prop} {E : Value → Shared → Prop}

/-- all that has a class stays -/
def KeepC (h h' : Heap) : Prop := ∀ b o, o.cls ≠ .none → h.get? b = some o → h'.get? b = some o
theorem KeepC.of {h h' : Heap} (k : Kept [] h h') : KeepC h h' := fun b o _ e => k b o (by simp) e
theorem KeepC.trans {h h' h'' : Heap} (x : KeepC h h') (y : KeepC h' h'') : KeepC h h'' := fun b o c e => y b o c (x b o c e)
theorem dictOf_keptC {prog : Program} {K : Type} [DecidableEq K] {knd : PySem.KeyKind prog w K} {h h' : Heap} {a : Addr} {kvs : List (K × Value)} (x : h.DictOf knd a kvs) (k : KeepC h h') : h'.DictOf knd a kvs := by
  obtain ⟨o, es, ep, ho, hx, r⟩ := x
  exact ⟨o, es, ep, k a o (by rw [hx.1]; simp) ho, hx, r⟩
theorem isList_keptC {h h' : Heap} {a : Addr} {vs : Array Value} (x : h.IsList a vs) (k : KeepC h h') : h'.IsList a vs := by
  obtain ⟨o, ho, hc, r⟩ := x
  exact ⟨o, k a o (by rw [hc]; simp) ho, hc, r⟩
theorem Names.keptC {h h' : Heap} {a : Addr} {f : Str → Option Value} (x : Names h a f) (k : KeepC h h') : Names h' a f :=
  let ⟨es, n, ho, r⟩ := x; ⟨es, n, k a _ (by simp) ho, r⟩
theorem ErrAt.keptC {h h' : Heap} {a : Addr} {e : Er} (x : ErrAt h a e) (k : KeepC h h') : ErrAt h' a e := by
  obtain ⟨o, d, f, st, os, t1, t2, n, h1, h2, h3, h4, h5, h6, h7, h8, h9, h10, h11, h12⟩ := x.ex
  exact ⟨o, d, f, st, os, t1, t2, n, k _ _ (by rw [h2]; simp) h1, h2, h3, h4, h5.keptC k, h6, h7, h8, h9, k _ _ (by rw [h11]; simp) h10, h11, h12⟩
theorem Errs.keptC {h h' : Heap} {r : List (Str × Value)} {l : List (Str × Str)} (x : Errs h r l) (k : KeepC h h') : Errs h' r l := by
  induction x with
  | nil => exact .nil
  | cons e _ ih => exact .cons (e.keptC k) ih
theorem TreeAt.keptC {h h' : Heap} {ta : Nat → TA} {a : TA} {n : Nd} (x : TreeAt w h ta a n) (k : KeepC h h') : TreeAt w h' ta a n :=
  ⟨k _ _ (by simp [instObj]) x.o, x.d.keptC k, let ⟨kvs, hd, hm⟩ := x.e; ⟨kvs, dictOf_keptC hd k, hm.keptC k⟩, dictOf_keptC x.k k, x.lo⟩
theorem ModAt.keptC {h h' : Heap} {na : Nat → MA} {a : MA} {n : Nd} (x : ModAt w h na a n) (k : KeepC h h') : ModAt w h' na a n :=
  ⟨dictOf_keptC x.d k, let ⟨kvs, hd, hm⟩ := x.e; ⟨kvs, dictOf_keptC hd k, hm⟩, dictOf_keptC x.k k, isList_keptC x.p k, x.lo⟩
theorem ShapeAt.keptC {h h' : Heap} {v : Value} {sh : Sh} (x : ShapeAt w h v sh) (k : KeepC h h') : ShapeAt w h' v sh := by
  cases sh with
  | int => exact x
  | list vs => obtain ⟨a, e, hl, r⟩ := x; exact ⟨a, e, isList_keptC hl k, r⟩
  | dict kvs => obtain ⟨a, e, hl, r⟩ := x; exact ⟨a, e, dictOf_keptC hl k, r⟩
def Tre (w : World) (h : Heap) (n : Nat) (ta : Nat → TA) (ar : Nat → Nd) : Prop := ∀ i < n, TreeAt w h ta (ta i) (ar i)
theorem Tre.keptC {h h' : Heap} {n : Nat} {ta : Nat → TA} {ar : Nat → Nd} (x : Tre w h n ta ar) (k : KeepC h h') : Tre w h' n ta ar := fun i hi => (x i hi).keptC k
theorem Mod.keptC {h h' : Heap} {n : Nat} {na : Nat → MA} {ar : Nat → Nd} (x : Mod w h n na ar) (k : KeepC h h') : Mod w h' n na ar := fun i hi => (x i hi).keptC k
theorem Errs.len {h : Heap} {kvs : List (Str × Value)} {e : List (Str × Str)} (x : Errs h kvs e) : kvs.length = e.length := by
  induction x with
  | nil => rfl
  | cons _ _ ih => simp [ih]

abbrev tabObj (ps : Array Value) : Obj := { cls := .none, data := .fields ps }
abbrev genPos : Pos := { line := 82, col := 27, endLine := 82, endCol := 76 }
/-- the generator's code has been made -/
def Hit (h : Heap) : Prop := ∃ ps c, h.get? 188 = some (tabObj ps) ∧ TriplesOk ps.toList ∧ codeAmong genPos ps.toList = some c
theorem Hit.keep {h h' : Heap} (x : Hit h) (k : ∀ b o, h.get? b = some o → h'.get? b = some o) : Hit h' := let ⟨ps, c, a, r⟩ := x; ⟨ps, c, k _ _ a, r⟩
/-- either it has been made, or the table of codes is open to change -/
def Mode (news : List (Addr × Obj)) (h : Heap) : Prop := (news = [] ∧ Hit h) ∨ ∃ ps, news = [(188, tabObj ps)] ∧ TriplesOk ps.toList
theorem Mode.keep {news : List (Addr × Obj)} {h h' : Heap} (x : Mode news h) (k : ∀ b o, b ∉ news.map (·.1) → h.get? b = some o → h'.get? b = some o) : Mode news h' := by
  rcases x with ⟨e, x⟩ | x
  · exact .inl ⟨e, x.keep fun b o => k b o (by rw [e]; simp)⟩
  · exact .inr x
theorem Mode.mem {news : List (Addr × Obj)} {h : Heap} (x : Mode news h) {b : Addr} (hb : b ∈ news.map (·.1)) : ∃ ps, (b, tabObj ps) ∈ news := by
  rcases x with ⟨e, _⟩ | ⟨ps, e, _⟩
  · rw [e] at hb; cases hb
  · rw [e] at hb ⊢
    rw [List.mem_singleton.mp (by simpa using hb : b ∈ [188])]
    exact ⟨ps, .head _⟩
theorem Mode.up {news : List (Addr × Obj)} {h g : Heap} (x : Mode news h) (N : News h₀ L h news) (up : ∀ b o, b ∉ news.map (·.1) → h.get? b = some o → g.get? b = some o) : KeepC h g := fun b o hc e => up b o (fun q => by
  obtain ⟨ps, hm⟩ := x.mem q
  rw [(N _ hm).1] at e
  cases e; exact hc rfl) e
abbrev code192 : Obj := { cls := .type "code", data := .fields #[.str (Str.ofString "total_errors") 425, .str (Str.ofString "ErrorTree.total_errors") 426, .str (Str.ofString "/claim/cut.py") 427, .int 80 0, .int 1 0, .int 0 0, .int 0 0, .int 3 0, .ref 187, .bool true, .int 181 0, .ref 188, .none, .ref 189, .ref 190, .ref 191, .int 430 0, .int 80 0, .str (Str.ofString "/claim/cut.py") 431] }
theorem code_is {h : Heap} (ho : h.get? 192 = some code192) {ps : Array Value} (h8 : h.get? 188 = some { cls := .none, data := .fields ps }) (ht : TriplesOk ps.toList) : h.IsCode 192 188 ps ∧ h.TableAt 192 188 ps :=
  ⟨⟨code192, _, _, _, _, _, _, _, _, _, ho, rfl, rfl, rfl, rfl, rfl, rfl, h8, rfl, ht, by decide⟩, ⟨_, _, ho, rfl, rfl, rfl⟩, h8⟩
theorem genexpr_tab {M : Model} {env : Env} {qn : Str} {scope : Scope} {news : List (Addr × Obj)} (hc : env.code = .ref 192) (ho : s.heap.get? 192 = some code192) (md : Mode news s.heap) (N : News h₀ L s.heap news)
    (hQ : ∀ code h' tk, Kept (news.map (·.1)) s.heap h' → Hit h' → Q code { s with heap := h', toks := tk }) : wpAny M A (genexprCode env genPos qn scope) Q E s := by
  have key : ∀ ps, s.heap.get? 188 = some (tabObj ps) → TriplesOk ps.toList → (news.map (·.1) = [188] ∨ (codeAmong genPos ps.toList).isSome) → wpAny M A (genexprCode env genPos qn scope) Q E s := by
    intro ps h8 ht hn
    obtain ⟨hi, hta⟩ := code_is ho h8 ht
    cases hf : codeAmong genPos ps.toList with
    | some c' => exact wpAny_genexprCode_hit hc hi hf (hQ c' s.heap s.toks (Kept.refl _ _) ⟨ps, c', h8, ht, hf⟩)
    | none =>
      rcases hn with hn | hn
      · refine wpAny_genexprCodeX hc hi hta hf (fun c' h' tk hx _ _ _ _ hta' _ => hQ _ h' tk (by rw [hn]; exact Kept.of_extBut hx) ⟨_, .ref c', hta'.2, ?_, ?_⟩)
        · rw [show (ps ++ #[rawInt genPos.line, rawInt genPos.col, Value.ref c']).toList = ps.toList ++ [rawInt genPos.line, rawInt genPos.col, .ref c'] by simp]
          exact TriplesOk_snoc _ _ _ _ ht
        · rw [show (ps ++ #[rawInt genPos.line, rawInt genPos.col, Value.ref c']).toList = ps.toList ++ [rawInt genPos.line, rawInt genPos.col, .ref c'] by simp]
          exact codeAmong_snoc _ ht hf
      · rw [hf] at hn; cases hn
  rcases md with ⟨e, ps, c, h8, ht, hf⟩ | ⟨ps, e, ht⟩
  · exact key ps h8 ht (.inr (by rw [hf]; rfl))
  · refine key ps ?_ ht (.inl (by rw [e]; rfl))
    subst e
    exact (N _ (.head _)).1
theorem entry_dict_itemiterator_iter : entryFor table "dict_itemiterator.__iter__" = some Builtin.«dict_keyiterator.__iter__» :=
  entryFor_alias (id' := "dict_keyiterator.__iter__") (by kernel_rfl) rfl (by decide +kernel) (by kernel_rfl)
theorem pyIter_itemiter {prog : Program} {it d : Addr} {i n ep : Nat} {ok ov : Value} (hit : IsItemIter s.heap it d i n ep ok ov) (h : Q (.ref it) s) : wpAny (model prog w) A (pyIter (.ref it)) Q E s := by
  have hT : s.TypeIs (.ref it) "dict_itemiterator" := ⟨_, hit, rfl⟩
  refine wpAny_pyIter_slot hT PySem.F.slot_dict_itemiterator_iter (wpAny_call_entry PySem.F.slot_dict_itemiterator_iter hT entry_dict_itemiterator_iter ?_ (PySem.F.args_dict_itemiterator_iter_1 _))
  show wpAny _ _ (ret (.ref it)) _ _ s
  exact wpAny_pure ⟨_, rfl, "dict_itemiterator", _, hT, PySem.F.slot_dict_itemiterator_next.lookup, h⟩
def TeOk (w : World) (ta : Nat → TA) (ar : Nat → Nd) (n f i : Nat) : Prop := ∀ {A : Around} {h₀ : Heap} {L : Addr} {m : Str → Option Value} {s : Shared} {R : Result → Shared → Prop} {news : List (Addr × Obj)} (H : Here w A h₀ L) (hdp : A.depth + 40 * f < 870) (hun : A.units + 400 * f < 8700) (F : Fr h₀ L s.heap m)
    (N : News h₀ L s.heap news) (md : Mode news s.heap) (ht : Tre w s.heap n ta ar) (ret : ∀ t s', Since (news.map (·.1)) s s' → Hit s'.heap → R (.ok (.ret (.int (tot ar f i : Nat) t))) s'),
    codeAny (model PySem.Challenge.rw_vk0009_01.row.prog w) A (.call (.ref 193) ⟨[.ref (ta i).t], []⟩) R s
def LenOk (w : World) (ta : Nat → TA) (ar : Nat → Nd) (n f i : Nat) : Prop := ∀ {A : Around} {h₀ : Heap} {L : Addr} {m : Str → Option Value} {s : Shared} {Q : Value → Shared → Prop} {E : Value → Shared → Prop} {news : List (Addr × Obj)} (H : Here w A h₀ L) (hdp : A.depth + 40 * f + 10 < 870) (hun : A.units + 400 * f + 100 < 8700) (F : Fr h₀ L s.heap m)
    (N : News h₀ L s.heap news) (md : Mode news s.heap) (ht : Tre w s.heap n ta ar) (ret : ∀ t s', Since (news.map (·.1)) s s' → Hit s'.heap → Q (.int (tot ar f i : Nat) t) s'),
    wpAny (model PySem.Challenge.rw_vk0009_01.row.prog w) A (call (.builtin "len") [.ref (ta i).t]) Q E s
theorem KeepC.ground {g h : Heap} {L' : Addr} {m' : Str → Option Value} (F : Fr g L' h m') : KeepC g h := fun b o _ e => F.keep b o e
theorem Since.toks {S : List Addr} {s s' : Shared} {tk : Nat} (x : Since S { s with toks := tk } s') : Since S s s' := by
  obtain ⟨h, tk', gs, rfl, k, g⟩ := x
  exact ⟨h, tk', gs, rfl, k, g⟩
theorem Fr.since {s s' : Shared} {news : List (Addr × Obj)} (F : Fr h₀ L s.heap m) (N : News h₀ L s.heap news) (x : Since (news.map (·.1)) s s') : Fr h₀ L s'.heap m := by
  obtain ⟨h, tk', gs, rfl, k, g⟩ := x
  refine Fr.kept F k (fun q => ?_) (fun b hb => ?_)
  · obtain ⟨p, hp, e⟩ := List.mem_map.mp q
    exact (N p hp).2.1 e
  · obtain ⟨p, hp, rfl⟩ := List.mem_map.mp hb
    exact (N p hp).2.2
/-- tree.total_errors -/
theorem prop_of {ta : Nat → TA} {ar : Nat → Nd} {n f i : Nat} (te : TeOk w ta ar n f i) (hi : i < n) {expr : Bool} {news : List (Addr × Obj)} (H : Here w A h₀ L) (hdp : A.depth + 40 * f < 870) (hun : A.units + 400 * f + 20 < 8700) (F : Fr h₀ L s.heap m)
    (N : News h₀ L s.heap news) (md : Mode news s.heap) (ht : Tre w s.heap n ta ar) (ret : ∀ t s', Since (news.map (·.1)) s s' → Hit s'.heap → Q (.int (tot ar f i : Nat) t) s') :
    wpAny (model PySem.Challenge.rw_vk0009_01.row.prog w) A (getAttr (.ref (ta i).t) (Str.ofString "total_errors") expr) Q E s := by
  have X := H.inK
  revert X; k_fill; intro X
  obtain ⟨es, n, I, _⟩ := tree_inst (ht i hi).o (ht i hi).d
  refine' get_prop F X I ?k1 ?k2 ?k3 ?k4 ?k5 ?k6 ?hh
  case k1 => k_is
  case k2 => k_is
  case k3 => k_is
  case k4 => k_is
  case k5 => k_is
  case k6 => k_is
  case hh =>
    refine te H.in1 (s := { s with toks := s.toks + 1 }) hdp (by first | (show A.units + 1 + 400 * f < 8700; omega) | (show A.units + 4 + 400 * f < 8700; omega)) F N md ht (fun t s' ha hh => ?_)
    refine handed_on rfl ?_
    exact ret t s' ha.toks hh
theorem lenm_of {ta : Nat → TA} {ar : Nat → Nd} {n f i : Nat} (te : TeOk w ta ar n f i) (hi : i < n) {news : List (Addr × Obj)} (H : Here w A h₀ L) (hdp : A.depth + 40 * f + 10 < 870) (hun : A.units + 400 * f + 50 < 8700) (F : Fr h₀ L s.heap m)
    (N : News h₀ L s.heap news) (md : Mode news s.heap) (ht : Tre w s.heap n ta ar) (ret : ∀ t s', Since (news.map (·.1)) s s' → Hit s'.heap → Q (.int (tot ar f i : Nat) t) s') :
    wpAny (model PySem.Challenge.rw_vk0009_01.row.prog w) A (call (.ref 186) [.ref (ta i).t]) Q E s := by
  have X := H.inK
  revert X; k_fill; intro X
  refine wpAny_call ?_
  refine' codeAny_mono (enter (R := Q) (E := E) H F N ?k6 ?k7 ?k8 ?k9 ?kB ?kW ?c5 ?c2 ?c3 ?c4) ?kM
  case k6 => k_is
  case k7 => k_is
  case k8 => show A.depth < 1000; omega
  case k9 => exact BindsTo.of_eq rfl
  case kB => exact locs rfl
  case c5 => decide
  case c2 => exact rfl
  case c3 => exact rfl
  case c4 => exact rfl
  case kM => exact fun _ _ h => h
  case kW =>
    intro g' L' h' H' F' N' up down hL'
    have ht1 := ht.keptC (md.up N up)
    have md1 := md.keep up
    obtain ⟨⟨A₀, base, outer, env, p, loose, mean, mg, mb, B', T', hfr, _⟩, X', hh'⟩ := id H'
    (with_reducible show wpAny _ _ _ _ _ _)
    (try k_fold)
    repeat' (((fail_if_success (with_reducible show wpAny _ _ (getAttr _ _ _) _ _ _))); first | (k_unfold; (try dsimp only)) | (k_end; wrow_close) | walk1 | (dsimp only; walk1) | (leave1; walk_say "STEP leave1"; try dsimp only) | fail "no step")
    rename Fr g' _ _ _ => Fc
    rename News g' _ _ _ => Nc
    refine prop_of te hi H' (by show A.depth + 1 + 40 * f < 870; omega) (by show A.units + 3 + 400 * f + 20 < 8700; omega) Fc Nc (md1.keep fun b o _ e => Fc.keep b o e) (ht1.keptC (KeepC.ground Fc)) (fun t s' ha hh => ?_)
    have F2 := Fr.since Fc Nc ha
    obtain ⟨h2, tk2, gs2, rfl, k2, gr2⟩ := ha
    clear Fc Nc
    have N2 : News g' L' h2 [] := News.nil
    (try k_fold)
    k_steps
    all_goals (try dsimp only)
    all_goals (try k_unfold)
    all_goals (try dsimp only)
    all_goals refine Back.intro (by assumption) fun hk' => ?_
    all_goals exact ret _ _ ⟨h2, _, gs2, rfl, hk', gr2⟩ hh
theorem len_of {ta : Nat → TA} {ar : Nat → Nd} {n f i : Nat} (te : TeOk w ta ar n f i) (hi : i < n) (hb : tot ar f i < 2 ^ 60) : LenOk w ta ar n f i := by
  intro A h₀ L m s Q E news H hdp hun F N md ht ret
  have X0 := H.inK
  obtain ⟨es, nn, I0, _⟩ := tree_inst (ht i hi).o (ht i hi).d
  suffices hcall : wpAny (model PySem.Challenge.rw_vk0009_01.row.prog w) A.in1 (call (.ref 186) [.ref (ta i).t]) (PySem.W.LenBack Q) E s by
    revert X0; k_fill; intro X0
    refine' len_K F X0 I0 ?k1 ?k2 hcall
    case k1 => k_is
    case k2 => k_is
  refine lenm_of te hi H.in1 (by show A.depth + 40 * f + 10 < 870; omega) (by first | (show A.units + 1 + 400 * f + 50 < 8700; omega) | (show A.units + 4 + 400 * f + 50 < 8700; omega)) F N md ht (fun t s' ha hh => ?_)
  refine ⟨⟨by omega, by omega⟩, ret _ _ ?_ hh⟩
  obtain ⟨h, tk, gs, rfl, k, g⟩ := ha
  exact ⟨h, tk + 1, gs, rfl, k, g⟩
end
end Mine
namespace Mine
theorem fresh_G1 : True := by
  w_top off
  trivial
end Mine
-- part G2a
namespace Mine
section
variable {w : World} {A : Around} {h₀ : Heap} {L : Addr} {m : Str → Option Value} {s : Shared} {Q : Value → Shared → Prop} {E : Value → Shared → Prop}

theorem len_elt {prog : Program} {cenv : Env} {C : Addr} {mg mb : Str → Option Value} {p1 p2 p3 : Pos} {v : Value} (hk : cenv.scope.kind = .function) (hl : cenv.kindOf (Str.ofString "len") = some .globalImplicit) (ht : cenv.kindOf (Str.ofString "tree") = some .local) (hC : cenv.locals = C)
    (hg : s.heap.Ns cenv.globals mg) (hm : mg (Str.ofString "len") = none) (hb : s.heap.Ns cenv.builtins mb) (hv : mb (Str.ofString "len") = some (.builtin "len")) (hn : s.heap.Ns C m) (hx : m (Str.ofString "tree") = some v)
    (h : wpAny (model prog w) A (call (.builtin "len") [v]) Q E s) :
    wpAny (model prog w) A (eval (.Call (.Name (Str.ofString "len") p1) [.Name (Str.ofString "tree") p2] [] p3) cenv) Q E s := by
  subst hC
  refine Call_ ?_
  refine Name_function_global hk hl (loadGlobal_builtin hg hm hb hv ?_)
  walk1
  refine args_cons (wpAny_Name (wpAny_loadName_local hk ht hn hx ?_))
  exact args_nil h
theorem over_frames {A : Around} {elt : Expr} {gs : List Comprehension} {scope : Scope} {pos : Pos} {it : Value} {cenv : Env} {l : List Env} (h : A.frames = some l) :
    (A.over (.compLoop (.GeneratorExp elt gs scope pos) 0 it .none cenv) []).frames = some (cenv :: l) := by
  show pushEnvs (Code.envs (.compLoop (.GeneratorExp elt gs scope pos) 0 it .none cenv)) (pushEnvs (envsOf (([] : List Frame).map Frame.where_)) A.frames) = _
  rw [h]; rfl
theorem over_depth {A : Around} {elt : Expr} {gs : List Comprehension} {scope : Scope} {pos : Pos} {it : Value} {cenv : Env} :
    (A.over (.compLoop (.GeneratorExp elt gs scope pos) 0 it .none cenv) []).depth = A.depth + 1 := by
  show A.depth + 0 + _ = _
  rfl
theorem over_units {A : Around} {elt : Expr} {gs : List Comprehension} {scope : Scope} {pos : Pos} {it : Value} {cenv : Env} :
    (A.over (.compLoop (.GeneratorExp elt gs scope pos) 0 it .none cenv) []).units = A.units + 3 := by
  show A.units + 0 + _ = _
  rfl
theorem over_handled {A : Around} {elt : Expr} {gs : List Comprehension} {scope : Scope} {pos : Pos} {it : Value} {cenv : Env} (h : A.handled = none) :
    (A.over (.compLoop (.GeneratorExp elt gs scope pos) 0 it .none cenv) []).handled = none := h
end
end Mine
namespace Mine
theorem fresh_G2a : True := by
  w_top off
  trivial
end Mine
-- part G2b
namespace Mine
section
variable {w : World} {A : Around} {h₀ : Heap} {L : Addr} {m : Str → Option Value} {s : Shared} {Q : Value → Shared → Prop} {E : Value → Shared → Prop}
theorem sum_nest {prog : Program} {K : Type} [DecidableEq K] {knd : PySem.KeyKind prog w K} {elt iter : Expr} {xa xb : Str} {pa pb pt : Pos} {kt : Nat} {scope : Scope} {pos : Pos} {a C I d : Addr} {g : Nat} {kvs : List (K × Value)} {ep : Nat} {cenv : Env} {m0 : Str → Option Value} (F : Nat → Value → Prop) (val : Nat → Int)
    (hh : A.handled = none) (hg : s.heap.IsGen a g) (hgs : s.gens[g]? = some (.fresh (.compStart (.GeneratorExp elt [⟨.Tuple [.Name xa pa, .Name xb pb] kt pt, iter, [], 0⟩] scope pos) 0 (.ref I) .none cenv)))
    (hn : s.heap.Ns C m0) (hit : IsItemIter s.heap I d 0 kvs.length ep .none .none) (hda : s.heap.DictAt knd d kvs ep) (hIC : I < C) (hdC : d < C) (hdI : d ≠ I) (hCa : C < a) (hal : a < s.heap.objs.size) (hnl : s.heap.NoLimit) (hcs : cStatics < C) (hcI : cStatics ≠ I) (hroom : A.depth < recursionLimit)
    (hC : cenv.locals = C) (hab : xa ≠ xb) (hxa : cenv.kindOf xa = some .local) (hxb : cenv.kindOf xb = some .local) (hp : (cenv.scope.kind == .class || (cenv.scope.kind == .module && cenv.locals != cenv.globals)) = false) (hco : cenv.scope.isCoroutine = false)
    (hF : ∀ i v, F i v → ∃ t, v = .int (val i) t)
    (hq : EltOk prog w (A.in1.in1.over (.compLoop (.GeneratorExp elt [⟨.Tuple [.Name xa pa, .Name xb pb] kt pt, iter, [], 0⟩] scope pos) 0 (.ref I) .none cenv) []) kvs C I cenv xb elt F s.heap)
    (h : ∀ t s', Moved [C, I] (GrowBut g) s s' → Q (.int (preSum val kvs.length) t) s') : wpAny (model prog w) A (call (.builtin "sum") [.ref a]) Q E s := by
  refine call_sum_walkAnyS (wpAny_pyIter_gen hg ⟨a, _, _, _, kvs.length, F, GenSt prog w A.in1 a g C I kvs.length F, val, rfl, walksS_nest (A := A.in1) hh a g C I kvs.length F hCa hIC hroom hcs hcI, ⟨hg, hnl, _, hgs, fun s'' hk => ⟨rfl, ?_⟩⟩, ?_, hF, fun s' t' hm => h t' s' hm⟩)
  · have hit'' : IsItemIter s''.heap I d 0 kvs.length ep .none .none := hk I _ (Nat.le_of_lt hIC) hit
    have loop := seg_itemsLoop (iter := iter) (pa := pa) (pb := pb) (pt := pt) (kt := kt) (scope := scope) (pos := pos) (A := A.in1.in1) hC hh hab F s.heap hdC hdI hIC hda hxa hxb hp hco hq kvs.length 0 s'' s'' m0 .none .none (Nat.sub_zero _) (Nat.zero_le _) hit'' (hn.at' fun o e => hk C o (Nat.le_refl _) e) Since.refl (fun b o hb _ e => hk b o (Nat.le_of_lt hb) e)
    show Seg _ A.in1.in1 _ _ _ s'' _ ((compStart (.GeneratorExp elt [⟨.Tuple [.Name xa pa, .Name xb pb] kt pt, iter, [], 0⟩] scope pos) 0 (.ref I) .none cenv).onRaise (leaving cenv)) [] s''
    unfold compStart
    rw [Sem.onRaise_eq_wrap]
    show Seg _ A.in1.in1 _ _ _ s'' _ ((ask >>= _).wrap _ _ _ _) [] s''
    refine seg_bind_wrap (wpAny_askSetting ?_)
    split
    · exact seg_again rfl loop
    · refine seg_bind_wrap (wpAny_rule ?_)
      show Seg _ A.in1.in1 _ _ _ s'' _ ((standAt iter.pos >>= _).wrap _ _ _ _) [] s''
      exact seg_bind_wrap (wpAny_standAt (seg_bind_wrap (pyIter_itemiter hit'' (seg_again rfl loop))))
  · intro b hb
    rcases List.mem_cons.mp hb with rfl | hb
    · exact hal
    rcases List.mem_cons.mp hb with rfl | hb
    · exact Nat.lt_trans hCa hal
    · exact Nat.lt_trans (Nat.lt_trans (List.mem_range.mp hb) hCa) hal
theorem Grow.of_push {a b : Array GenState} {x : GenState} (hx : x.bare = true) (h : GrowBut a.size (a.push x) b) : Grow a b := by
  have hz : (a.push x).size = a.size + 1 := Array.size_push ..
  refine ⟨by have := h.size; omega, fun i hi => ?_, fun i y hi e => ?_⟩
  · rw [h.same i (by omega) (by omega), Array.getElem?_push, if_neg (by omega)]
  · by_cases q : i = a.size
    · subst q
      rcases h.own with o | o
      · rw [o, Array.getElem?_push_size] at e
        cases e; exact hx
      · exact o y e
    · exact h.bare i y (by omega) q e
end
end Mine
namespace Mine
theorem fresh_G2b : True := by
  w_top off
  trivial
end Mine
-- part G2
namespace Mine
section
variable {w : World} {A : Around} {h₀ : Heap} {L : Addr} {m : Str → Option Value} {s : Shared} {Q : Value → Shared → Prop} {E : Value → Shared → Prop}
theorem te_step {ta : Nat → TA} {ar : Nat → Nd} {n f : Nat} (AR : Arena ar n) (ih : ∀ i < n, 4 - (ar i).dep = f → LenOk w ta ar n f i) (i : Nat) (hi : i < n) (hf : 4 - (ar i).dep = f + 1) : TeOk w ta ar n (f + 1) i := by
  intro A h₀ L m s R news H hdp hun F N md ht ret
  have X := H.inK
  revert X; k_fill; intro X
  refine' codeAny_mono (enter (R := fun v s' => R (.ok (.ret v)) s') (E := fun e s' => R (.error e) s') H F N ?k6 ?k7 ?k8 ?k9 ?kB ?kW ?c5 ?c2 ?c3 ?c4) ?kM
  case k6 => k_is
  case k7 => k_is
  case k8 => show A.depth < 1000; omega
  case k9 => exact BindsTo.of_eq rfl
  case kB => exact locs rfl
  case c5 => decide
  case c2 => exact rfl
  case c3 => exact rfl
  case c4 => exact rfl
  case kM =>
    intro r s' h
    cases r with
    | error e => exact h
    | ok f => cases f <;> first | exact h | exact h.elim
  case kW =>
    intro g' L' h' H' F' N' up down hL'
    have ht1 := ht.keptC (md.up N up)
    have md1 := md.keep up
    have h192 : (hd.heap_39 w.params).lookup 192 = some code192 := by k_is
    have hlenns : nsIn (hd.heap_39 w.params) mainGlobals (Str.ofString "len") = some none := by k_is
    obtain ⟨⟨A₀, base, outer, env, p, loose, mean, mg, mb, B', T', hfr, _⟩, X', hh'⟩ := id H'
    (with_reducible show wpAny _ _ _ _ _ _)
    (try k_fold)
    repeat' (((fail_if_success (with_reducible show wpAny _ _ (getAttr _ _ _) _ _ _)); (fail_if_success (with_reducible show wpAny _ _ (eval (PySem.Expr.GeneratorExp _ _ _ _) _) _ _ _))); first | (k_unfold; (try dsimp only)) | (k_end; wrow_close) | walk1 | (dsimp only; walk1) | (leave1; walk_say "STEP leave1"; try dsimp only) | fail "no step")
    refine' wpAny_GeneratorExp_make ?gco ?gcl ?gce ?g0 ?gk ?gr ?gh ?gs
    case gco => rfl
    case gcl => with_unfolding_all rfl
    case gce => decide
    case g0 => rfl
    case gk => rfl
    case gr => show A.depth + 1 < 1000; omega
    case gs => intro _; with_unfolding_all rfl
    case gh =>
      repeat' (((fail_if_success (with_reducible show wpAny _ _ (getAttr _ _ _) _ _ _)); (fail_if_success (with_reducible show wpAny _ _ (eval (PySem.Expr.GeneratorExp _ _ _ _) _) _ _ _))); first | (k_unfold; (try dsimp only)) | (k_end; wrow_close) | walk1 | (dsimp only; walk1) | (leave1; walk_say "STEP leave1"; try dsimp only) | fail "no step")
      rename Fr g' _ _ _ => Fc
      rename News g' _ _ _ => Nc
      refine get_contents Fc X' ((ht1 i hi).keptC (KeepC.ground Fc)).o ((ht1 i hi).keptC (KeepC.ground Fc)).d ?_
      have hcur := ((ht1 i hi).keptC (KeepC.ground Fc)).k
      refine getMethod_builtin hcur.typeIs PySem.F.plainAttrs_dict PySem.F.slot_dict_items PySem.F.type_dict_items hcur.mapOf.noDict ?_
      repeat' (((fail_if_success (with_reducible show wpAny _ _ (pyIter _) _ _ _)); (fail_if_success (with_reducible show wpAny _ _ (call (.builtin _) _) _ _ _))); first | (k_unfold; (try dsimp only)) | (k_end; wrow_close) | walk1 | (dsimp only; walk1) | (leave1; walk_say "STEP leave1"; try dsimp only) | fail "no step")
      refine call_meetsIn PySem.F.slot_dict_items hcur.typeIs PySem.F.entry_dict_items (PySem.F.args_dict_items_1 _) (meets_dict_items (kyKind prg w) (ta i).tc (ht1 i hi).lo.2) ⟨⟨_, hcur⟩, ?_⟩
      dsimp only
      obtain ⟨ep, hda0⟩ := (ht1 i hi).k.dictAt
      have hda := hda0.keep Fc.keep
      have hdA := hda.push { cls := .type "dict_items", data := .fields #[.ref (ta i).tc] }
      refine wpAny_pyIter_items ⟨_, Heap.get?_push_size _ rfl, rfl, rfl⟩ hdA ?_
      dsimp only
      have hzA : (h'.push { cls := .type "dict_items", data := .fields #[.ref (ta i).tc] }).objs.size = h'.objs.size + 1 := Heap.size_push ..
      have kB : Kept [] h' ((h'.push { cls := .type "dict_items", data := .fields #[.ref (ta i).tc] }).push { cls := .type "dict_itemiterator", data := .fields #[.none, .bool false, .ref (ta i).tc, .int 0 0, .int ((ar i).kids.map fun kj => (kj.1, Value.ref (ta kj.2).t)).length 0, .int ep 0, .none, .none] }) := (Kept.push [] _ _).trans (Kept.push [] _ _)
      have hitB : IsItemIter ((h'.push { cls := .type "dict_items", data := .fields #[.ref (ta i).tc] }).push { cls := .type "dict_itemiterator", data := .fields #[.none, .bool false, .ref (ta i).tc, .int 0 0, .int ((ar i).kids.map fun kj => (kj.1, Value.ref (ta kj.2).t)).length 0, .int ep 0, .none, .none] }) (h'.objs.size + 1) (ta i).tc 0 ((ar i).kids.map fun kj => (kj.1, Value.ref (ta kj.2).t)).length ep .none .none := hzA ▸ Heap.get?_push_size _ rfl
      have hdB := hdA.push { cls := .type "dict_itemiterator", data := .fields #[.none, .bool false, .ref (ta i).tc, .int 0 0, .int ((ar i).kids.map fun kj => (kj.1, Value.ref (ta kj.2).t)).length 0, .int ep 0, .none, .none] }
      rw [hzA]
      generalize ((h'.push { cls := .type "dict_items", data := .fields #[.ref (ta i).tc] }).push { cls := .type "dict_itemiterator", data := .fields #[.none, .bool false, .ref (ta i).tc, .int 0 0, .int ((ar i).kids.map fun kj => (kj.1, Value.ref (ta kj.2).t)).length 0, .int ep 0, .none, .none] }) = hB at kB hitB hdB ⊢
      have hIl : h'.objs.size + 1 ≠ L' ∧ g'.get? (h'.objs.size + 1) = none := Fr.fresh Fc (Nat.le_succ h'.objs.size)
      have hIn : ∀ p ∈ news, p.1 ≠ h'.objs.size + 1 := fun p hp => Nat.ne_of_lt (Nat.lt_succ_of_lt (Heap.lt_size (Nc p hp).1))
      have hdlt := hda.lt_size
      have FB := Fr.kept Fc kB (by simp) (by simp)
      have NB := News.kept Nc kB (by simp)
      generalize hIe : h'.objs.size + 1 = I at hitB hIl hIn ⊢
      have hdI : (ta i).tc ≠ I := by rw [← hIe]; exact Nat.ne_of_lt (Nat.lt_succ_of_lt hdlt)
      clear Fc Nc
      refine ⟨H'.noLimit.keeps (fun b o e => FB.keep b o e), genexpr_tab (news := news) rfl (FB.keep _ _ (X' _ _ h192)) (md1.keep fun b o _ e => FB.keep b o e) NB (fun code hC tkC kC hitC => ?_)⟩
      have FC := Fr.since (s := { s with heap := hB }) (s' := { s with heap := hC }) FB NB ⟨hC, _, _, rfl, kC, Grow.refl _⟩
      obtain ⟨bm, ob, b1, b2, b3, b4, b5, b6⟩ := T'.bmain
      refine wpAny_builtinsFor (T'.g.keeps fun b o e => FC.keep b o e) b1 b2 (FC.keep _ _ b3) b4 b5 b6 ?_
      intro hD hnD hsD
      have hzD : hD.objs.size = hC.objs.size + 1 := by rw [hsD.1, Heap.size_push]
      have keepD : ∀ b o, hC.get? b = some o → hD.get? b = some o := fun b o e => hsD.extBut b o (Nat.ne_of_lt (Heap.lt_size e)) (Heap.get?_push_of_some _ e)
      have hIC : hC.get? I = some { cls := .type "dict_itemiterator", dict := none, data := .fields #[.none, .bool false, .ref (ta i).tc, .int 0 0, .int ((ar i).kids.map fun kj => (kj.1, Value.ref (ta kj.2).t)).length 0, .int ep 0, .none, .none], slots := #[] } := kC I _ (fun q => by
        obtain ⟨p, hp, e⟩ := List.mem_map.mp q
        exact hIn p hp e) hitB
      have hI8 : (188 : Addr) ≠ I := fun q => by
        obtain ⟨_, _, e, _⟩ := hitC
        rw [q, hIC] at e; cases e
      have h8L : ¬ ((188 : Addr) = L') := fun q => by
        obtain ⟨qs, _, e, _⟩ := hitC
        obtain ⟨o, es', n', ho, hd, _⟩ := FC.ns
        rw [← q, e] at ho; cases ho; cases hd
      have hlt188 : 188 < hC.objs.size := let ⟨_, _, e, _⟩ := hitC; Heap.lt_size e
      repeat' (((fail_if_success (with_reducible show wpAny _ _ (getAttr _ _ _) _ _ _)); (fail_if_success (with_reducible show wpAny _ _ (call (.builtin _) _) _ _ _))); first | (k_unfold; (try dsimp only)) | (k_end; wrow_close) | walk1 | (dsimp only; walk1) | (leave1; walk_say "STEP leave1"; try dsimp only) | fail "no step")
      have kE : ∀ o, Kept [] hC (hD.push o) := fun o b o' _ e => Heap.get?_push_of_some _ (keepD b o' e)
      have FE := fun o => Fr.kept FC (kE o) (by simp) (by simp)
      obtain ⟨mcs, hcsn, _⟩ := H'.noLimit
      obtain ⟨l₀, hl₀⟩ : ∃ l, A.frames = some l := let ⟨_, _, _, _, _, _, _, _, _, _, _, q, _⟩ := H.ex; ⟨_, q⟩
      have hfr2 := hfr
      rw [Around.frames_deeper hl₀] at hfr2
      injection hfr2 with z
      injection z with z1 z2
      subst z1 z2
      refine sum_nest (knd := kyKind prg w) (F := fun j y => ∃ t, y = .int (((ar i).kids.map fun kj => (tot ar f kj.2 : Int)).getD j 0) t) (val := fun j => ((ar i).kids.map fun kj => (tot ar f kj.2 : Int)).getD j 0) hh'
        ⟨_, _, _, Heap.get?_push_size _ rfl, rfl, rfl, rfl⟩ (Array.getElem?_push_size ..) (hnD.push _) (Heap.get?_push_of_some _ (keepD _ _ hIC)) (hda0.keep (FE _).keep) (Heap.lt_size hIC) (hda0.keep FC.keep).lt_size hdI (by rw [hzD]; exact Nat.lt_succ_self _) (by rw [Heap.size_push]; exact Nat.lt_succ_self _)
        (H'.noLimit.keeps (FE _).keep) (hcsn.keeps FC.keep).lt (fun q => ?_) (by show A.depth + 1 < 1000; omega) rfl (by decide) rfl rfl rfl rfl (fun j v e => e) (fun j k v s₂ m₂ E' hkv hn2 hm2 hst => ?_) (fun t s' hm => ?_)
      · obtain ⟨o, _, _, e, _⟩ := hcsn
        rw [q, hIl.2] at e; cases e
      · rw [List.getElem?_map] at hkv
        obtain ⟨⟨k', j'⟩, hj1, hj2⟩ := Option.map_eq_some_iff.mp hkv
        cases hj2
        obtain ⟨hj3, hj4⟩ := AR.kid i hi _ (List.mem_of_getElem? hj1)
        obtain ⟨oI, hIC'⟩ : ∃ o, hC.get? I = some o := ⟨_, hIC⟩
        have NI : News g' L' hC [(I, oI)] := fun p hp => by
          rw [List.mem_singleton.mp hp]; exact ⟨hIC', hIl.1, hIl.2⟩
        obtain ⟨_, BG, st, _⟩ := groundX (R := fun _ _ => True) (s := { s with heap := hC }) B' FC NI hfr rfl rfl
        replace BG : Below _ base _ (hideAll hC [I]) := BG
        replace st : g'.StaysIn (hideAll hC [I]) := st
        have FG : Fr (hideAll hC [I]) hC.objs.size s₂.heap m₂ := ⟨hn2, fun b o e => by
          have hb := of_hideAll _ e
          have hbI : b ≠ I := fun q => by
            rw [q, hideAll_none _ (by simp)] at e; cases e
          exact hst b o (Heap.lt_size hb) hbI (kE _ b o (by simp) hb), Nat.le_of_eq (hideAll_size _ _)⟩
        have TG : Top p loose mean mg mb (hideAll hC [I]) := T'.keeps st
        have XG : (hd.heap_39 w.params).In (hideAll hC [I]) := X'.keeps st
        have hit2 : Hit s₂.heap := by
          obtain ⟨qs, c, e, r⟩ := hitC
          exact ⟨qs, c, FG.keep _ _ (hideAll_get _ e (by simpa using hI8)), r⟩
        refine len_elt (mg := mg) (mb := mb) rfl rfl rfl rfl ((TG.g).keeps FG.keep) (mg_none_of XG TG.g hlenns) ((TG.b).keeps FG.keep) ((TG.builtins _ (by decide)).trans (by decide +kernel)) hn2 hm2 ?_
        refine ih j' hj3 (by dsimp only at hj4; omega) (news := []) ⟨⟨_, base, _, _, p, loose, mean, mg, mb, BG, TG, over_frames hfr, by rfl, by rfl⟩, XG, hh'⟩ ?hd ?hu FG News.nil (.inl ⟨rfl, hit2⟩) (ht1.keptC (KeepC.trans (fun b o _ e => st b o e) (KeepC.ground FG))) (fun t s' ha _ => ⟨⟨t, ?_⟩, ha⟩)
        case hd => rw [over_depth]; show A.depth + 1 + 1 + 40 * f + 10 < 870; omega
        case hu => rw [over_units]; first | (show A.units + 3 + 1 + 1 + 3 + 400 * f + 100 < 8700; omega) | (show A.units + 3 + 4 + 4 + 3 + 400 * f + 100 < 8700; omega)
        rw [List.getD_eq_getElem?_getD, List.getElem?_map, hj1]; rfl
      · obtain ⟨h3, gs3, dr3, tk3, os3⟩ := s'
        have e1 := hm.gens
        have e2 : dr3 = s.drawn := hm.drawn
        have e3 : os3 = s.os := hm.os
        subst e2 e3
        have hgrow := Grow.of_push rfl e1
        have hCI : ∀ b ∈ [hC.objs.size, I], b ≠ L' ∧ g'.get? b = none := fun b hb => by
          rcases List.mem_cons.mp hb with rfl | hb
          · exact Fr.fresh FC (Nat.le_refl _)
          · rw [List.mem_singleton.mp hb]; exact hIl
        have F3 : Fr g' L' h3 _ := Fr.kept (FE _) (fun b o hb e => hm.heap b o hb e) (fun q => (hCI _ q).1 rfl) fun b hb => (hCI b hb).2
        have N3 := news_all g' L' h3
        have hit3 : Hit h3 := by
          obtain ⟨qs, c, e, r⟩ := hitC
          exact ⟨qs, c, hm.heap _ _ (fun q => by
            rcases List.mem_cons.mp q with q | q
            · rw [← q] at hlt188; exact Nat.lt_irrefl _ hlt188
            · exact hI8 (List.mem_singleton.mp q)) (kE _ _ _ (by simp) e), r⟩
        have epre : preSum (fun j => ((ar i).kids.map fun kj => (tot ar f kj.2 : Int)).getD j 0) ((ar i).kids.map fun kj => (kj.1, Value.ref (ta kj.2).t)).length = ((ar i).kids.map fun kj => (tot ar f kj.2 : Int)).sum := by
          rw [preSum_getD, List.length_map, show (ar i).kids.length = ((ar i).kids.map fun kj => (tot ar f kj.2 : Int)).length by rw [List.length_map], List.take_length]
        rw [epre]
        have F3k := F3.keep
        clear hm e1 FE FC FB NB
        repeat' (((fail_if_success (with_reducible show wpAny _ _ (getAttr _ _ _) _ _ _))); first | (k_unfold; (try dsimp only)) | (k_end; wrow_close) | walk1 | (dsimp only; walk1) | (leave1; walk_say "STEP leave1"; try dsimp only) | fail "no step")
        rename Fr g' _ _ _ => Fd
        refine get_errors Fd X' ((ht1 i hi).keptC (KeepC.ground Fd)).o ((ht1 i hi).keptC (KeepC.ground Fd)).d ?_
        obtain ⟨ekvs, hed, hem⟩ := (ht1 i hi).e
        have hel := hem.len
        have her := AR.errs i hi
        repeat' (((fail_if_success (with_reducible show wpAny _ _ (getAttr _ _ _) _ _ _)); (fail_if_success (with_reducible show wpAny _ _ (call (.builtin _) _) _ _ _))); first | (k_unfold; (try dsimp only)) | (k_end; wrow_close) | walk1 | (dsimp only; walk1) | (leave1; walk_say "STEP leave1"; try dsimp only) | fail "no step")
        refine call_len_dict (ht1 i hi).lo.1 (dictOf_keptC hed (KeepC.ground (by assumption))) (by omega) ?_
        k_steps
        rename Fr g' _ _ _ => Fz
        rename News g' _ _ (all _ _ _) => Nz
        have kz := kept_all' F3k Fz Nz
        refine Back.intro Fz fun hk' => ?_
        have e : ((ekvs.length : Nat) : Int) + ((ar i).kids.map fun kj => (tot ar f kj.2 : Int)).sum = ((tot ar (f + 1) i : Nat) : Int) := by
          rw [← cast_sum, hel]
          show _ = (((ar i).errs.length + _ : Nat) : Int)
          push_cast; rfl
        rw [e]
        refine ret _ _ ⟨_, _, gs3, rfl, hk', hgrow⟩ ?_
        obtain ⟨qs, c, e, r⟩ := hit3
        refine ⟨qs, c, kz _ _ (fun q => ?_) e, r⟩
        exact h8L (List.mem_singleton.mp q)
theorem totB_small : ∀ f, f ≤ 4 → totB f < 2 ^ 60
  | 0, _ => by decide
  | 1, _ => by decide
  | 2, _ => by decide
  | 3, _ => by decide
  | 4, _ => by decide
  | f + 5, h => by omega
theorem totB_mono : ∀ f, totB f ≤ totB (f + 1)
  | 0 => by decide
  | f + 1 => by
    have := totB_mono f
    show 1000 + 1000 * totB f ≤ 1000 + 1000 * totB (f + 1)
    omega
theorem te_all {ta : Nat → TA} {ar : Nat → Nd} {n : Nat} (AR : Arena ar n) : ∀ (f i : Nat), i < n → 4 - (ar i).dep = f → TeOk w ta ar n f i
  | 0, i, hi, hf => by have := AR.dep i hi; omega
  | f + 1, i, hi, hf => te_step AR (fun j hj hjf => len_of (te_all AR f j hj hjf) hj (Nat.lt_of_le_of_lt (tot_le AR f j hj) (totB_small f (by have := AR.dep j hj; omega)))) i hi hf
theorem len_all {ta : Nat → TA} {ar : Nat → Nd} {n : Nat} (AR : Arena ar n) (f i : Nat) (hi : i < n) (hf : 4 - (ar i).dep = f) : LenOk w ta ar n f i :=
  len_of (te_all AR f i hi hf) hi (Nat.lt_of_le_of_lt (tot_le AR f i hi) (totB_small f (by have := AR.dep i hi; omega)))
end
end Mine
namespace Mine
theorem fresh_G2 : True := by
  w_top off
  trivial
end Mine
-- part C2
namespace Mine
section
variable {w : World} {A : Around} {h₀ : Heap} {L : Addr} {m : Str → Option Value} {s : Shared} {Q : Value → Shared → Prop} {E : Value → Shared → Prop}
structure Two (P Q : Prop) : Prop where
  a : P
  b : Q
section
variable {prog : Program} {env : Env} {K : Type} [DecidableEq K]
/-- what a dict's comprehension with one test wants -/
def CompJD (knd : PySem.KeyKind prog w K) (A : Around) (env : Env) (kx vx c : Expr) (x : Str) (scope : Scope) (cl : List (Str × Addr)) (Q : Value → Shared → Prop) (it : Value) (s₂ : Shared) : Prop :=
  ∃ (I : Addr) (fp wr : List Addr) (n : Nat) (P : Nat → Value → Prop) (St : Nat → Heap → Prop), it = .ref I ∧ Walks prog w A I fp wr n P St ∧ n ≤ sizeLine ∧ St 0 s₂.heap ∧ (∀ b ∈ fp, b < s₂.heap.objs.size) ∧
   ∀ C D : Addr, s₂.heap.objs.size ≤ C → s₂.heap.objs.size ≤ D → C ≠ D → ∃ J : Nat → List (K × Value) → Shared → Prop,
     (∀ h tk, Kept [] s₂.heap h → J 0 [] { s₂ with heap := h, toks := tk }) ∧
     (∀ i ys (s : Shared) h' tk, J i ys s → Kept (C :: D :: wr) s.heap h' → J i ys { s with heap := h', toks := tk }) ∧
     (∀ i v kvs (m₁ : Str → Option Value) (s₁ : Shared) (E' : Value → Shared → Prop), i < n → P i v → St (i + 1) s₁.heap → J i kvs s₁ → s₁.heap.Ns C m₁ → m₁ x = some v → s₁.heap.DictOf knd D kvs →
        wpAny (model prog w) A (isTrue c (compEnvC scope cl C env) (eval c (compEnvC scope cl C env))) (fun ok s₃ => Two
          (ok = true → wpAny (model prog w) A (eval kx (compEnvC scope cl C env)) (fun kv s₄ => wpAny (model prog w) A (eval vx (compEnvC scope cl C env)) (fun y s₅ =>
            ∃ k, knd.is k kv = true ∧ J (i + 1) (stored kvs k y) s₅ ∧ (∀ b ∈ C :: D :: fp, ∀ o, s₁.heap.get? b = some o → s₅.heap.get? b = some o)) E' s₄) E' s₃)
          (ok = false → J (i + 1) kvs s₃ ∧ (∀ b ∈ C :: D :: fp, ∀ o, s₁.heap.get? b = some o → s₃.heap.get? b = some o))) E' s₁) ∧
     (∀ kvs (s₄ : Shared), J n kvs s₄ → s₄.heap.DictOf knd D kvs → Q (.ref D) s₄)
theorem comp_JD {knd : PySem.KeyKind prog w K} {kx vx c iter : Expr} {x : Str} {px : Pos} {scope : Scope} {cl : List (Str × Addr)} {pos : Pos}
    (hclos : closureFor scope env = pure cl) (hcell : ∀ y ∈ scope.names, y.2 ≠ .cell) (hkind : scope.kind = .function)
    (hnames : ∀ y ∈ scope.names, y.2 = .local → scope.names.lookup y.1 = some .local) (hx : scope.names.lookup x = some .local)
    (h : wpAny (model prog w) A (eval iter env) (fun xv s₁ => wpAny (model prog w) A (pyIter xv) (fun it s₂ => CompJD knd A env kx vx c x scope cl Q it s₂) E s₁) E s)
    (hs : ∀ x, foldedSetIterable iter env x = pure x := by intro _; rfl) :
    wpAny (model prog w) A (eval (.DictComp kx vx [⟨.Name x px, iter, [c], 0⟩] scope pos) env) Q E s := by
  rw [arm_eval_DictComp]
  refine wpAny_comprehension_free (use := none) rfl hs hclos hkind hnames (wpAny_mono h (fun xv s₁ h₁ => wpAny_mono h₁ (fun it s₂ h₂ => ?_) fun _ _ e => e) fun _ _ e => e)
  obtain ⟨I, fp, wr, n, P, St, rfl, W, hsz, hst, hfp, hJ⟩ := h₂
  refine wpAny_newObj_type (wpAny_newFunctionEnv hcell (by intro y hy; simp at hy) (fun h₁ hns₁ hsb₁ => ?_) hkind)
  dsimp only at hns₁ hsb₁ ⊢
  have hnew : (s₂.heap.push { cls := .type "dict", dict := none, data := .dict #[] }).DictOf knd s₂.heap.objs.size [] := Heap.DictOf.new s₂.heap
  generalize hH2 : s₂.heap.push { cls := .type "dict", dict := none, data := .dict #[] } = H2 at hns₁ hsb₁ hnew ⊢
  have hC : H2.objs.size = s₂.heap.objs.size + 1 := by rw [← hH2, Heap.size_push]
  have hDC : s₂.heap.objs.size ≠ H2.objs.size := by rw [hC]; exact Nat.ne_of_lt (Nat.lt_succ_self _)
  have hCle : s₂.heap.objs.size ≤ H2.objs.size := by rw [hC]; exact Nat.le_succ _
  have below : ∀ b, b < s₂.heap.objs.size → b ≠ H2.objs.size ∧ b ≠ s₂.heap.objs.size := fun b hb => ⟨by rw [hC]; exact Nat.ne_of_lt (Nat.lt_succ_of_lt hb), Nat.ne_of_lt hb⟩
  have hDf : s₂.heap.objs.size ∉ fp := fun hm => Nat.lt_irrefl _ (hfp _ hm)
  have hCf : H2.objs.size ∉ fp := fun hm => by have := hfp _ hm; rw [hC] at this; exact Nat.lt_irrefl _ (Nat.lt_of_succ_lt this)
  have hCw : H2.objs.size ∉ wr := fun h => hCf (W.sub _ h)
  have hDw : s₂.heap.objs.size ∉ wr := fun h => hDf (W.sub _ h)
  have old : ∀ b o, s₂.heap.get? b = some o → h₁.get? b = some o := fun b o e => hsb₁.extBut b o (below b (Heap.lt_size e)).1 (Heap.get?_push_of_some _ (hH2 ▸ Heap.get?_push_of_some _ e))
  have hacc : h₁.DictOf knd s₂.heap.objs.size [] := hnew.at fun o e => hsb₁.extBut _ _ hDC (Heap.get?_push_of_some _ e)
  have hst₁ : St 0 h₁ := W.frame _ _ _ hst fun b _ o e => old b o e
  generalize H2.objs.size = C at hns₁ hsb₁ hDC hCle below hCf hCw ⊢
  generalize hDe : s₂.heap.objs.size = D at hDC hDf hDw hacc ⊢
  rw [hDe] at hJ
  obtain ⟨J, J0, stable, turn, done⟩ := hJ C D (hDe ▸ hCle) (Nat.le_refl _) (Ne.symm hDC)
  have hJ1 := J0 h₁ (s₂.toks + ([] : List (Str × Value)).length) fun b o _ e => old b o e
  have hkx : (compEnvC scope cl C env).kindOf x = some .local := lookup_relabel_local hx
  have hpx : ((compEnvC scope cl C env).scope.kind == .class || ((compEnvC scope cl C env).scope.kind == .module && (compEnvC scope cl C env).locals != (compEnvC scope cl C env).globals)) = false := by simp [compEnvC, relabel, hkind]
  have loop : codeAny (model prog w) A (.compLoop (.DictComp kx vx [⟨.Name x px, iter, [c], 0⟩] scope pos) 0 (.ref I) (.ref D) (compEnvC scope cl C env)) (compPost (model prog w) A E none Q (.ref D) C)
      { s₂ with heap := h₁, toks := s₂.toks + ([] : List (Str × Value)).length } := by
    refine codeAny_compLoop_testsD (fun k s' => ∃ i kvs m', St i s'.heap ∧ s'.heap.DictOf knd D kvs ∧ s'.heap.Ns C m' ∧ J i kvs s' ∧ i ≤ n ∧ k = n + 1 - i ∧ kvs.length ≤ i) ?_ (n + 1)
      ⟨0, [], _, hst₁, hacc, hns₁, hJ1, Nat.zero_le _, rfl, Nat.le_refl _⟩
    rintro k s' ⟨i, kvs, m', hst', hacc', hn', hJ', hi, rfl, hlen⟩
    by_cases hlt : i < n
    · refine W.item i _ _ _ hlt hst' fun v h₁ tk₁ hPv hst₁ hk₁ => ?_
      refine wpAny_assign_Name (wpAny_storeName_local hkx (hn'.at' fun o e => hk₁ _ o hCw e) (fun h₂ hn₂ hs₂ => ?_) hpx)
      have up₂ : Kept (C :: D :: wr) s'.heap h₂ := fun b o hb e => (hs₂.2 b fun q => hb (q ▸ .head _)).trans (hk₁ b o (fun q => hb (.tail _ (.tail _ q))) e)
      have hacc₂ : h₂.DictOf knd D kvs := hacc'.at fun o e => (hs₂.2 D hDC).trans (hk₁ D o hDw e)
      have hst₂ : St (i + 1) h₂ := W.frame _ _ _ hst₁ fun b hb o e => (hs₂.2 b fun (h : b = C) => hCf (h ▸ hb)).trans e
      have hJ₂ := stable i kvs s' h₂ (tk₁ + 1) hJ' up₂
      refine wpAny_tests_one (wpAny_mono (turn i v kvs _ _ _ hlt hPv hst₂ hJ₂ hn₂ (by simp) hacc₂) (fun ok s₃ h₃ => ?_) fun _ _ e => e)
      cases ok with
      | false =>
        obtain ⟨hJ₃, hk₃⟩ := h₃.b rfl
        simp only [Bool.false_eq_true, if_false]
        exact ⟨n + 1 - (i + 1), by omega, i + 1, kvs, _, W.frame _ _ _ hst₂ fun b hb o e => hk₃ b (by simp [hb]) o e, hacc₂.at fun o e => hk₃ D (by simp) o e, hn₂.at' fun o e => hk₃ C (by simp) o e, hJ₃, hlt, rfl, by omega⟩
      | true =>
        simp only [if_true]
        refine wpAny_mono (h₃.a rfl) (fun kv s₄ h₄ => wpAny_mono h₄ (fun y s₅ h₅ => ?_) fun _ _ e => e) fun _ _ e => e
        obtain ⟨kk, hkk, hJ₅, hk₅⟩ := h₅
        have hkv : kvs.length ≤ sizeLine := by omega
        refine wpAny_dictSet_pairs (hsz := hkv) hkk (hacc₂.at fun o e => hk₅ D (by simp) o e) fun h₆ hl₆ hs₆ => ?_
        have hlen' := stored_length_le kvs kk y
        refine ⟨n + 1 - (i + 1), by omega, i + 1, stored kvs kk y, _, ?_, hl₆, (hn₂.at' fun o e => hk₅ C (by simp) o e).sameBut hs₆ (Ne.symm hDC), stable _ _ _ h₆ _ hJ₅ fun b o hb e => (hs₆.2 b fun q => hb (q ▸ .tail _ (.head _))).trans e, hlt, rfl, by omega⟩
        exact W.frame _ _ _ hst₂ fun b hb o e => (hs₆.2 b fun (h : b = D) => hDf (h ▸ hb)).trans (hk₅ b (by simp [hb]) o e)
    · have hin : i = n := by omega
      subst hin
      refine W.done _ _ _ hst' fun h₁ tk₁ hk₁ => ?_
      refine ⟨m', hn'.at' fun o e => hk₁ _ o hCw e, fun h' hs' => ?_⟩
      have up : Kept (C :: D :: wr) s'.heap h' := fun b o hb e => (hs'.2 b fun q => hb (q ▸ .head _)).trans (hk₁ b o (fun q => hb (.tail _ (.tail _ q))) e)
      have hacc₃ : h'.DictOf knd D kvs := hacc'.at fun o e => (hs'.2 D hDC).trans (hk₁ D o hDw e)
      exact done kvs { s' with heap := h', toks := tk₁ } (stable _ _ _ _ _ hJ' up) hacc₃
  exact codeAny_compStart_dict loop (W.self 0 _ _ _ hst₁ loop)
/-- a text's signs walk -/
theorem comp_str {knd : PySem.KeyKind prog w K} {kx vx c : Expr} {x y : Str} {ty : Tok} {scope : Scope} {cl : List (Str × Addr)} (hh : A.handled = none) (hsz : y.cps.size ≤ 1000)
    (mk : ∀ h₂ : Heap, s.heap.objs.size < h₂.objs.size → Kept [] s.heap h₂ → ∀ C D : Addr, h₂.objs.size ≤ C → h₂.objs.size ≤ D → C ≠ D → ∃ J : Nat → List (K × Value) → Shared → Prop,
     (∀ h tk, Kept [] h₂ h → J 0 [] { s with heap := h, toks := tk }) ∧
     (∀ i ys (s₁ : Shared) h' tk, J i ys s₁ → Kept [C, D, s.heap.objs.size] s₁.heap h' → J i ys { s₁ with heap := h', toks := tk }) ∧
     (∀ i v kvs (m₁ : Str → Option Value) (s₁ : Shared) (E' : Value → Shared → Prop), i < y.cps.size → SignAt y i v → J i kvs s₁ → s₁.heap.Ns C m₁ → m₁ x = some v → s₁.heap.DictOf knd D kvs →
        wpAny (model prog w) A (isTrue c (compEnvC scope cl C env) (eval c (compEnvC scope cl C env))) (fun ok s₃ => Two
          (ok = true → wpAny (model prog w) A (eval kx (compEnvC scope cl C env)) (fun kv s₄ => wpAny (model prog w) A (eval vx (compEnvC scope cl C env)) (fun y s₅ =>
            ∃ k, knd.is k kv = true ∧ J (i + 1) (stored kvs k y) s₅ ∧ (∀ b ∈ [C, D, s.heap.objs.size], ∀ o, s₁.heap.get? b = some o → s₅.heap.get? b = some o)) E' s₄) E' s₃)
          (ok = false → J (i + 1) kvs s₃ ∧ (∀ b ∈ [C, D, s.heap.objs.size], ∀ o, s₁.heap.get? b = some o → s₃.heap.get? b = some o))) E' s₁) ∧
     (∀ kvs (s₄ : Shared), J y.cps.size kvs s₄ → s₄.heap.DictOf knd D kvs → Q (.ref D) s₄)) :
    wpAny (model prog w) A (pyIter (.str y ty)) (fun it s₂ => CompJD knd A env kx vx c x scope cl Q it s₂) E s := by
  refine wpAny_pyIter_str fun o St W hst => ?_
  have hz : (s.heap.push o).objs.size = s.heap.objs.size + 1 := Heap.size_push ..
  obtain hmk := mk (s.heap.push o) (by rw [hz]; exact Nat.lt_succ_self _) (Kept.push _ _ _)
  refine ⟨s.heap.objs.size, _, _, _, _, _, rfl, W A hh, by rw [sizeLine_eq]; omega, hst, fun b hb => ?_, fun C D hC hD hCD => ?_⟩
  · show b < (s.heap.push o).objs.size
    rw [hz, List.mem_singleton.mp hb]; exact Nat.lt_succ_self _
  · obtain ⟨J, j0, j1, j2, j3⟩ := hmk C D hC hD hCD
    exact ⟨J, j0, j1, fun i v kvs m₁ s₁ E' hi hP _ => j2 i v kvs m₁ s₁ E' hi hP, j3⟩
end
end
end Mine
namespace Mine
theorem fresh_C2 : True := by
  w_top off
  trivial
end Mine
-- part V0
namespace Mine
section
variable {w : World} {A : Around} {h₀ : Heap} {L : Addr} {m : Str → Option Value} {s : Shared} {Q : Value → Shared → Prop} {E : Value → Shared → Prop}
/-- a value out of the script -/
def ValAt (w : World) (h : Heap) : Nat → Value → Prop
  | 0, v => ∃ n t, v = .int n t
  | d + 1, v => (∃ n t, v = .int n t) ∨ (∃ a vs, v = .ref a ∧ h.IsList a (List.toArray vs) ∧ vs.length ≤ 2 ∧ ∀ x ∈ vs, ValAt w h d x) ∨
      (∃ a kvs, v = .ref a ∧ h.DictOf (kyKind prg w) a kvs ∧ (a == sysModules) = false ∧ kvs.length ≤ 2 ∧ (∀ kx ∈ kvs, ∃ x, kx.1 = Ky.s x ∧ PyData.strOk x = true) ∧ ∀ kx ∈ kvs, ValAt w h d kx.2)
theorem ValAt.keptC {h h' : Heap} (k : KeepC h h') : ∀ {d : Nat} {v : Value}, ValAt w h d v → ValAt w h' d v
  | 0, _, x => x
  | d + 1, _, x => by
    rcases x with x | ⟨a, vs, e, hl, hn, hx⟩ | ⟨a, kvs, e, hd, lo, hn, hst, hx⟩
    · exact .inl x
    · exact .inr (.inl ⟨a, vs, e, isList_keptC hl k, hn, fun y hy => ValAt.keptC k (hx y hy)⟩)
    · exact .inr (.inr ⟨a, kvs, e, dictOf_keptC hd k, lo, hn, hst, fun y hy => ValAt.keptC k (hx y hy)⟩)
theorem ValAt.hide {h : Heap} {S S' : List Addr} (hs : ∀ b ∈ S', b ∈ S) {d : Nat} {v : Value} (x : ValAt w (hideAll h S) d v) : ValAt w (hideAll h S') d v :=
  x.keptC fun b o _ e => hideAll_get _ (of_hideAll _ e) fun q => by rw [hideAll_none _ (hs b q)] at e; cases e
theorem ValAt.hk {h h' : Heap} {S T : List Addr} (k : Kept T h h') (hs : ∀ b ∈ T, b ∈ S) {d : Nat} {v : Value} (x : ValAt w (hideAll h S) d v) : ValAt w (hideAll h' S) d v :=
  x.keptC fun b o _ e => by
    have hb : b ∉ S := fun q => by rw [hideAll_none _ q] at e; cases e
    exact hideAll_get _ (k b o (fun q => hb (hs b q)) (of_hideAll _ e)) hb
theorem stay2 {g h h₁ h' : Heap} {L' : Addr} {m m₁ : Str → Option Value} {news : List (Addr × Obj)} {S : List Addr} (F : Fr g L' h m) (hS : ∀ b ∈ S, h.objs.size ≤ b) (F₁ : Fr g L' h₁ m₁) (N₁ : News g L' h₁ news) (hl : ∀ p ∈ news, p.1 < h.objs.size) (k : Kept S h₁ h') : Fr g L' h' m₁ ∧ News g L' h' news :=
  ⟨Fr.kept F₁ k (fun q => (Fr.fresh F (hS _ q)).1 rfl) fun b hb => (Fr.fresh F (hS b hb)).2, News.kept N₁ k fun p hp hm => absurd (hl p hp) (Nat.not_lt.mpr (hS _ hm))⟩
theorem mem_stored {K : Type} [DecidableEq K] {kvs : List (K × Value)} {k : K} {v : Value} {kx : K × Value} (h : kx ∈ stored kvs k v) : kx.2 = v ∨ ∃ kx' ∈ kvs, kx.2 = kx'.2 := by
  unfold stored at h
  split at h
  · obtain ⟨kx', hm, e⟩ := List.mem_map.mp h
    by_cases q : kx'.1 = k
    · rw [if_pos q] at e; exact .inl (by rw [← e])
    · rw [if_neg q] at e; exact .inr ⟨kx', hm, by rw [← e]⟩
  · rcases List.mem_append.mp h with h | h
    · exact .inr ⟨kx, h, rfl⟩
    · exact .inl (by rw [List.mem_singleton.mp h])
theorem keys_stored {kvs : List (Ky × Value)} {x : Str} {v : Value} (h : ∀ kx ∈ kvs, ∃ x, kx.1 = Ky.s x ∧ PyData.strOk x = true) {kx : Ky × Value} (hox : PyData.strOk x = true) (hx : kx ∈ stored kvs (Ky.s x) v) : ∃ x, kx.1 = Ky.s x ∧ PyData.strOk x = true := by
  unfold stored at hx
  split at hx
  · obtain ⟨kx', hm, e⟩ := List.mem_map.mp hx
    by_cases q : kx'.1 = Ky.s x
    · rw [if_pos q] at e; exact ⟨x, by rw [← e]; exact q, hox⟩
    · rw [if_neg q] at e; rw [← e]; exact h kx' hm
  · rcases List.mem_append.mp hx with hx | hx
    · exact h kx hx
    · exact ⟨x, by rw [List.mem_singleton.mp hx], hox⟩
def vB : Nat → Int
  | 0 => 2
  | d + 1 => 4 + 2 * vB d
theorem vB_pos : ∀ d, 2 ≤ vB d
  | 0 => by decide
  | d + 1 => by have := vB_pos d; show 2 ≤ 4 + 2 * vB d; omega
theorem News.swap {g h h' : Heap} {L' st : Addr} {o o' : Obj} {own : List (Addr × Obj)} (N : News g L' h (own ++ [(st, o)])) (k : Kept [st] h h') (e : h'.get? st = some o') (hn : ∀ p ∈ own, p.1 ≠ st) : News g L' h' (own ++ [(st, o')]) := fun p hp => by
  rcases List.mem_append.mp hp with hp | hp
  · have := N p (List.mem_append.mpr (.inl hp))
    exact ⟨k _ _ (by simpa using hn p hp) this.1, this.2⟩
  · rw [List.mem_singleton.mp hp]
    exact ⟨e, (N (st, o) (by simp)).2⟩
theorem News.last {g h : Heap} {L' st : Addr} {o : Obj} {own : List (Addr × Obj)} (N : News g L' h (own ++ [(st, o)])) : News g L' h [(st, o)] := News.sub N fun p hp => List.mem_append.mpr (.inr hp)
theorem value_spec : ∀ (d : Nat), d ≤ 2 → ∀ {A : Around} {h₀ : Heap} {L : Addr} {m : Str → Option Value} {s : Shared} {Q : Value → Shared → Prop} {E : Value → Shared → Prop} {st xs : Addr} {i : Int} {ti td : Tok} {n : Nat} {vs : List Value} {ns : List Int}
    (H : Here w A h₀ L) (hdp : A.depth + 10 * d < 860) (hun : A.units + 100 * d < 8600) (F : Fr h₀ L s.heap m)
    (N : News h₀ L s.heap [(st, listOf #[.ref xs, .int i ti] n)]) (hx : s.heap.IsList xs vs.toArray) (hne : xs ≠ st) (hI : IntsAre vs ns) (hlen : ns.length ≤ 60) (hi0 : 0 ≤ i) (hi1 : i + vB d < 990)
    (ret : ∀ v i' tk h' tk', Kept [st] s.heap h' → h'.get? st = some (listOf #[.ref xs, .int i' tk] n) → i ≤ i' → i' ≤ i + vB d → ValAt w (hideAll h' (List.range s.heap.objs.size)) d v → Q v { s with heap := h', toks := tk' }),
    wpAny (model PySem.Challenge.rw_vk0009_01.row.prog w) A (call (.ref 213) [.ref st, .int d td]) Q E s := by
  intro d
  induction d with
  | zero =>
    intro hd2 A h₀ L m s Q E st xs i ti td n vs ns H hdp hun F N hx hne hI hlen hi0 hi1 ret
    have hvB : vB 0 = 2 := rfl
    have X := H.inK
    revert X; k_fill; intro X
    refine wpAny_call ?_
    refine' codeAny_mono (enterC (R := Q) (E := E) H F N ?k6 ?k7 ?k8 ?k9 ?kB ?kN ?kW ?c2 ?c3 ?c4) ?kM
    case k6 => k_is
    case k7 => k_is
    case k8 => show A.depth < 1000; omega
    case k9 => exact BindsTo.of_eq rfl
    case kB => exact rfl
    case kN => decide +kernel
    case c2 => exact rfl
    case c3 => exact rfl
    case c4 => exact rfl
    case kM => exact fun _ _ h => h
    case kW =>
      intro g' L' h' tk cells H' F' N' Y' up down hL' hnl
      obtain ⟨oc1, oc2, hcE, hc1, hc2⟩ := CellsAre.two Y'
      subst hcE
      (try simp only [List.cons_append, List.nil_append] at N')
      have hx' : g'.IsList xs vs.toArray := let ⟨o, ho, r⟩ := hx; ⟨o, up xs o (by simpa using hne) ho, r⟩
      obtain ⟨⟨A₀, base, outer, env, p, loose, mean, mg, mb, B', T', hfr, _⟩, X', hh'⟩ := id H'
      (with_reducible show wpAny _ _ _ _ _ _)
      (try k_fold)
      repeat' (((fail_if_success (with_reducible show wpAny _ _ (call (.ref 208) _) _ _ _)); (fail_if_success (with_reducible show wpAny _ _ (eval (PySem.Expr.ListComp _ _ _ _) _) _ _ _)); (fail_if_success (with_reducible show wpAny _ _ (eval (PySem.Expr.DictComp _ _ _ _ _) _) _ _ _))); first | (k_unfold; (try dsimp only)) | (k_end; wrow_close) | walk1 | (dsimp only; walk1) | (leave1; walk_say "STEP leave1"; try dsimp only) | fail "no step")
      rename Fr g' _ _ _ => Fc
      rename News g' _ _ _ => Nc
      have hsl : st < L' := hnl _ (.head _)
      refine next_spec H' (by show A.depth + 1 < 900; omega) (by show A.units + 3 < 9000; omega) Fc (News.last (own := [_, _]) Nc) (isList_kept hx' (kept_F Fc) (by simp)) hne hI hlen (by omega) (by omega) (by decide) (by decide) (fun r tr tkr h2 tk2 hk2 hst2 hr0 hr1 => ?_)
      have F2 := Fr.kept Fc hk2 (by simpa using Nat.ne_of_gt hsl) (by simpa using (Nc _ (.tail _ (.tail _ (.head _)))).2.2)
      have N2 := News.swap (own := [_, _]) Nc hk2 hst2 (by intro p hp; simp only [List.mem_cons, List.not_mem_nil, or_false] at hp; rcases hp with rfl | rfl <;> first | exact Nat.ne_of_gt (Nat.lt_succ_of_lt hsl) | exact Nat.ne_of_gt (Nat.lt_succ_of_lt (Nat.lt_succ_of_lt hsl)))
      simp only [List.cons_append, List.nil_append] at N2
      clear Fc Nc
      (try k_fold)
      repeat' (((fail_if_success (with_reducible show wpAny _ _ (call (.ref 208) _) _ _ _)); (fail_if_success (with_reducible show wpAny _ _ (eval (PySem.Expr.ListComp _ _ _ _) _) _ _ _)); (fail_if_success (with_reducible show wpAny _ _ (eval (PySem.Expr.DictComp _ _ _ _ _) _) _ _ _))); first | (k_unfold; (try dsimp only)) | (k_end; wrow_close) | walk1 | (dsimp only; walk1) | (leave1; walk_say "STEP leave1"; try dsimp only) | fail "no step")
      all_goals
        rename Fr g' _ _ _ => Fc
        rename News g' _ _ _ => Nc
        have hsl2 : st < L' := hnl _ (.head _)
        refine next_spec H' (by show A.depth + 1 < 900; omega) (by show A.units + 3 < 9000; omega) Fc (News.last (own := [_, _]) Nc) (isList_kept hx' (kept_F Fc) (by simp)) hne hI hlen (by omega) (by omega) (by decide) (by decide) (fun r3 tr3 tkr3 h3 tk3 hk3 hst3 hr30 hr31 => ?_)
        have F3 := Fr.kept Fc hk3 (by simpa using Nat.ne_of_gt hsl2) (by simpa using (Nc _ (.tail _ (.tail _ (.head _)))).2.2)
        have N3 := News.swap (own := [_, _]) Nc hk3 hst3 (by intro p hp; simp only [List.mem_cons, List.not_mem_nil, or_false] at hp; rcases hp with rfl | rfl <;> first | exact Nat.ne_of_gt (Nat.lt_succ_of_lt hsl2) | exact Nat.ne_of_gt (Nat.lt_succ_of_lt (Nat.lt_succ_of_lt hsl2)))
        simp only [List.cons_append, List.nil_append] at N3
        clear Fc Nc
        (try k_fold)
        k_steps
        (try dsimp only)
        (try k_unfold)
        (try dsimp only)
        refine Back.intro (by assumption) fun hk => ?_
        refine ret _ _ _ _ _ hk (News.get (by assumption) (.tail _ (.tail _ (.head _)))) (by omega) (by omega) ⟨_, _, rfl⟩
  | succ d ih =>
    intro hd2 A h₀ L m s Q E st xs i ti td n vs ns H hdp hun F N hx hne hI hlen hi0 hi1 ret
    have hvB : vB (d + 1) = 4 + 2 * vB d := rfl
    have hvp := vB_pos d
    have hd1 : (0 : Int) < ((d + 1 : Nat) : Int) := by omega
    have X := H.inK
    revert X; k_fill; intro X
    refine wpAny_call ?_
    refine' codeAny_mono (enterC (R := Q) (E := E) H F N ?k6 ?k7 ?k8 ?k9 ?kB ?kN ?kW ?c2 ?c3 ?c4) ?kM
    case k6 => k_is
    case k7 => k_is
    case k8 => show A.depth < 1000; omega
    case k9 => exact BindsTo.of_eq rfl
    case kB => exact rfl
    case kN => decide +kernel
    case c2 => exact rfl
    case c3 => exact rfl
    case c4 => exact rfl
    case kM => exact fun _ _ h => h
    case kW =>
      intro g' L' h' tk cells H' F' N' Y' up down hL' hnl
      obtain ⟨oc1, oc2, hcE, hc1, hc2⟩ := CellsAre.two Y'
      subst hcE
      (try simp only [List.cons_append, List.nil_append] at N')
      have hx' : g'.IsList xs vs.toArray := let ⟨o, ho, r⟩ := hx; ⟨o, up xs o (by simpa using hne) ho, r⟩
      obtain ⟨⟨A₀, base, outer, env, p, loose, mean, mg, mb, B', T', hfr, _⟩, X', hh'⟩ := id H'
      (with_reducible show wpAny _ _ _ _ _ _)
      (try k_fold)
      repeat' (((fail_if_success (with_reducible show wpAny _ _ (call (.ref 208) _) _ _ _)); (fail_if_success (with_reducible show wpAny _ _ (eval (PySem.Expr.ListComp _ _ _ _) _) _ _ _)); (fail_if_success (with_reducible show wpAny _ _ (eval (PySem.Expr.DictComp _ _ _ _ _) _) _ _ _))); first | (k_unfold; (try dsimp only)) | (k_end; wrow_close) | walk1 | (dsimp only; walk1) | (leave1; walk_say "STEP leave1"; try dsimp only) | fail "no step")
      rename Fr g' _ _ _ => Fc
      rename News g' _ _ _ => Nc
      have hsl : st < L' := hnl _ (.head _)
      refine next_spec H' (by show A.depth + 1 < 900; omega) (by show A.units + 3 < 9000; omega) Fc (News.last (own := [_, _]) Nc) (isList_kept hx' (kept_F Fc) (by simp)) hne hI hlen (by omega) (by omega) (by decide) (by decide) (fun r tr tkr h2 tk2 hk2 hst2 hr0 hr1 => ?_)
      have F2 := Fr.kept Fc hk2 (by simpa using Nat.ne_of_gt hsl) (by simpa using (Nc _ (.tail _ (.tail _ (.head _)))).2.2)
      have N2 := News.swap (own := [_, _]) Nc hk2 hst2 (by intro p hp; simp only [List.mem_cons, List.not_mem_nil, or_false] at hp; rcases hp with rfl | rfl <;> first | exact Nat.ne_of_gt (Nat.lt_succ_of_lt hsl) | exact Nat.ne_of_gt (Nat.lt_succ_of_lt (Nat.lt_succ_of_lt hsl)))
      simp only [List.cons_append, List.nil_append] at N2
      clear Fc Nc
      (try k_fold)
      repeat' (((fail_if_success (with_reducible show wpAny _ _ (call (.ref 208) _) _ _ _)); (fail_if_success (with_reducible show wpAny _ _ (eval (PySem.Expr.ListComp _ _ _ _) _) _ _ _)); (fail_if_success (with_reducible show wpAny _ _ (eval (PySem.Expr.DictComp _ _ _ _ _) _) _ _ _))); first | (k_unfold; (try dsimp only)) | (k_end; wrow_close) | walk1 | (dsimp only; walk1) | (leave1; walk_say "STEP leave1"; try dsimp only) | fail "no step")
      · refine' comp_J ?cc ?cl ?ck ?cn ?cx ?ch ?cs
        case cc => with_unfolding_all rfl
        case cl => decide
        case ck => with_unfolding_all rfl
        case cn => decide
        case cx => with_unfolding_all rfl
        case cs => intro _; with_unfolding_all rfl
        case ch =>
          repeat' (((fail_if_success (with_reducible show wpAny _ _ (call (.ref 208) _) _ _ _)); (fail_if_success (with_reducible show wpAny _ _ (pyIter _) _ _ _))); first | (k_unfold; (try dsimp only)) | (k_end; wrow_close) | walk1 | (dsimp only; walk1) | (leave1; walk_say "STEP leave1"; try dsimp only) | fail "no step")
          rename Fr g' _ _ _ => Fc
          rename News g' _ _ _ => Nc
          have hsl2 : st < L' := hnl _ (.head _)
          refine next_spec H' (by show A.depth + 1 < 900; omega) (by show A.units + 3 < 9000; omega) Fc (News.last (own := [_, _]) Nc) (isList_kept hx' (kept_F Fc) (by simp)) hne hI hlen (by omega) (by omega) (by decide) (by decide) (fun r3 tr3 tkr3 h3 tk3 hk3 hst3 hr30 hr31 => ?_)
          have F3 := Fr.kept Fc hk3 (by simpa using Nat.ne_of_gt hsl2) (by simpa using (Nc _ (.tail _ (.tail _ (.head _)))).2.2)
          have N3 := News.swap (own := [_, _]) Nc hk3 hst3 (by intro p hp; simp only [List.mem_cons, List.not_mem_nil, or_false] at hp; rcases hp with rfl | rfl <;> first | exact Nat.ne_of_gt (Nat.lt_succ_of_lt hsl2) | exact Nat.ne_of_gt (Nat.lt_succ_of_lt (Nat.lt_succ_of_lt hsl2)))
          simp only [List.cons_append, List.nil_append] at N3
          clear Fc Nc
          (try k_fold)
          repeat' (((fail_if_success (with_reducible show wpAny _ _ (call (.ref 208) _) _ _ _)); (fail_if_success (with_reducible show wpAny _ _ (pyIter _) _ _ _))); first | (k_unfold; (try dsimp only)) | (k_end; wrow_close) | walk1 | (dsimp only; walk1) | (leave1; walk_say "STEP leave1"; try dsimp only) | fail "no step")
          rename Fr g' _ _ _ => Fc
          rename News g' _ _ _ => Nc
          rename IsRange _ _ _ _ _ _ _ _ => hrg
          obtain ⟨k3, rfl⟩ : ∃ k : Nat, r3 = k := ⟨r3.toNat, by omega⟩
          rename Heap => hq
          obtain ⟨mm, Fm⟩ : ∃ mm, Fr g' L' hq mm := ⟨_, Fc⟩
          clear Fc
          refine comp_range (n := k3) hh' hrg (by omega) (fun h4 hz4 hk4 C D hC hD hCD => ?_)
          have F4 := Fr.kept Fm hk4 (by simp) (by simp)
          have N4 := News.kept Nc hk4 (by simp)
          have hLq : L' < hq.objs.size := Fm.ns.lt
          have hlow : ∀ p ∈ [(L' + 1 + 1, oc1), (L' + 1, oc2), (st, listOf #[.ref xs, .int (i + 1 + 1) tkr3] n)], p.1 < hq.objs.size := fun p hp => Heap.lt_size (Nc p hp).1
          have hz4' : hq.objs.size + 1 ≤ h4.objs.size := hz4
          refine ⟨fun j ys s' => ∃ h tk i' tki, s' = { s with heap := h, toks := tk } ∧ Fr g' L' h mm ∧ News g' L' h ([(L' + 1 + 1, oc1), (L' + 1, oc2)] ++ [(st, listOf #[.ref xs, .int i' tki] n)]) ∧ i + 2 ≤ i' ∧ i' ≤ i + 2 + j * vB d ∧
            ∀ y ∈ ys, ValAt w (hideAll h ([C, D] ++ List.range (hq.objs.size + 1))) d y, ?_, ?_, ?_, ?_⟩
          · intro h tk k
            exact ⟨h, tk, _, _, rfl, Fr.kept F4 k (by simp) (by simp), News.kept N4 k (by simp), by omega, by simp; omega, fun y hy => by cases hy⟩
          · rintro j ys s₁ h5 tk5 ⟨h, tk, i', tki, rfl, F5, N5, hi5, hi6, hv5⟩ k
            have hS : ∀ b ∈ [C, D, hq.objs.size], hq.objs.size ≤ b := fun b hb => by
              rcases (by simpa using hb : b = C ∨ b = D ∨ b = hq.objs.size) with e | e | e
              · rw [e]; exact Nat.le_trans (Nat.le_of_lt hz4) hC
              · rw [e]; exact Nat.le_trans (Nat.le_of_lt hz4) hD
              · rw [e]; exact Nat.le_refl _
            obtain ⟨F6, N6⟩ := stay2 Fm hS F5 N5 (fun p hp => by
              rcases (by simpa using hp : p = (L' + 1 + 1, oc1) ∨ p = (L' + 1, oc2) ∨ p = (st, listOf #[.ref xs, .int i' tki] n)) with e | e | e
              · rw [e]; exact hlow (L' + 1 + 1, oc1) (.head _)
              · rw [e]; exact hlow (L' + 1, oc2) (.tail _ (.head _))
              · rw [e]; exact hlow (st, listOf #[.ref xs, .int (i + 1 + 1) tkr3] n) (.tail _ (.tail _ (.head _)))) k
            exact ⟨h5, tk5, i', tki, rfl, F6, N6, hi5, hi6, fun y hy => (hv5 y hy).hk k (fun b hb => by
              rcases (by simpa using hb : b = C ∨ b = D ∨ b = hq.objs.size) with e | e | e
              · simp [e]
              · simp [e]
              · simp [e])⟩
          · rintro j v ys m₁ s₁ E' hj ⟨t, rfl⟩ hlen5 ⟨h, tk, i', tki, rfl, F5, N5, hi5, hi6, hv5⟩ hn5 hm5 hp5
            have hCs : C < h.objs.size := hn5.lt
            have hDs : D < h.objs.size := let ⟨_, e⟩ := hp5; Heap.lt_size e
            have hmul : ((j + 1 : Nat) : Int) * vB d ≤ 2 * vB d := Int.mul_le_mul_of_nonneg_right (by omega) (by omega)
            have hmul2 : ((j + 1 : Nat) : Int) * vB d = j * vB d + vB d := by push_cast; rw [Int.add_mul, Int.one_mul]
            simp only [List.cons_append, List.nil_append] at N5
            clear Nc N4 F4
            repeat' (((fail_if_success (with_reducible show wpAny _ _ (call (.ref 213) _) _ _ _))); first | (k_unfold; (try dsimp only)) | (k_end; wrow_close) | walk1 | (dsimp only; walk1) | (leave1; walk_say "STEP leave1"; try dsimp only) | fail "no step")
            rw [show ((d + 1 : Nat) : Int) - 1 = (d : Int) by push_cast; omega]
            refine ih (by omega) H' (by show A.depth + 1 + 10 * d < 860; omega) (by show A.units + 3 + 100 * d < 8600; omega) F5 (News.last (own := [_, _]) N5) (isList_kept hx' (kept_F F5) (by simp)) hne hI hlen (by omega) (by omega) (fun v i2 tk2 h6 tk6 hk6 hst6 hi7 hi8 hv6 => ?_)
            (try k_unfold)
            have F6 := Fr.kept F5 hk6 (by simpa using Nat.ne_of_gt hsl) (by simpa using (N5 _ (.tail _ (.tail _ (.head _)))).2.2)
            have N6 := News.swap (own := [_, _]) N5 hk6 hst6 (by intro p hp; simp only [List.mem_cons, List.not_mem_nil, or_false] at hp; rcases hp with rfl | rfl <;> first | exact Nat.ne_of_gt (Nat.lt_succ_of_lt hsl) | exact Nat.ne_of_gt (Nat.lt_succ_of_lt (Nat.lt_succ_of_lt hsl)))
            have hsq : st < hq.objs.size := Nat.lt_trans hsl hLq
            refine ⟨⟨h6, _, i2, tk2, rfl, F6, N6, by omega, by rw [hmul2]; omega, fun y hy => ?_⟩, fun b hb o e => hk6 b o ?_ e⟩
            · rcases List.mem_append.mp hy with hy | hy
              · refine (hv5 y hy).hk hk6 (fun b hb => ?_)
                rw [List.mem_singleton.mp hb]
                simp only [List.mem_append, List.mem_range]
                exact .inr (Nat.lt_succ_of_lt hsq)
              · rw [List.mem_singleton.mp hy]
                refine hv6.hide (fun b hb => List.mem_range.mpr ?_)
                rcases List.mem_append.mp hb with hb | hb
                · rcases (by simpa using hb : b = C ∨ b = D) with e | e
                  · rw [e]; exact hCs
                  · rw [e]; exact hDs
                · exact Nat.lt_of_lt_of_le (List.mem_range.mp hb) (Nat.le_trans hz4' (Nat.le_trans hC (Nat.le_of_lt hCs)))
            · intro q
              have hb' := List.mem_singleton.mp q
              rcases (by simpa using hb : b = C ∨ b = D ∨ b = hq.objs.size) with e | e | e
              · rw [← e, hb'] at hC; exact Nat.lt_irrefl _ (Nat.lt_of_lt_of_le hsq (Nat.le_trans (Nat.le_of_lt hz4) hC))
              · rw [← e, hb'] at hD; exact Nat.lt_irrefl _ (Nat.lt_of_lt_of_le hsq (Nat.le_trans (Nat.le_of_lt hz4) hD))
              · rw [← e, hb'] at hsq; exact Nat.lt_irrefl _ hsq
          · rintro ys s₄ hlen5 ⟨h, tk, i', tki, rfl, F5, N5, hi5, hi6, hv5⟩ hl5 _
            have hmul : (k3 : Int) * vB d ≤ 2 * vB d := Int.mul_le_mul_of_nonneg_right (by omega) (by omega)
            (try k_unfold)
            (try dsimp only)
            refine Back.intro F5 fun hk => ?_
            simp only [List.cons_append, List.nil_append] at N5
            refine ret _ _ _ _ _ hk (News.get N5 (.tail _ (.tail _ (.head _)))) (by omega) (by omega) (.inr (.inl ⟨D, ys, rfl, ?_, by omega, fun y hy => (hv5 y hy).hide fun b hb => ?_⟩))
            · obtain ⟨o, e, r⟩ := hl5
              refine ⟨o, hideAll_get _ e (fun q => ?_), r⟩
              have := List.mem_range.mp q
              exact absurd (Nat.lt_of_lt_of_le (Nat.lt_of_le_of_lt hL' hLq) (Nat.le_trans (Nat.le_of_lt hz4) hD)) (Nat.not_lt.mpr (Nat.le_of_lt this))
            · refine List.mem_append.mpr (.inr (List.mem_range.mpr (Nat.lt_succ_of_lt (Nat.lt_of_lt_of_le (List.mem_range.mp hb) (Nat.le_trans hL' (Nat.le_of_lt hLq))))))
      · refine' comp_JD (knd := kyKind prg w) ?cc ?cl ?ck ?cn ?cx ?ch ?cs
        case cc => with_unfolding_all rfl
        case cl => decide
        case ck => with_unfolding_all rfl
        case cn => decide
        case cx => with_unfolding_all rfl
        case cs => intro _; with_unfolding_all rfl
        case ch =>
          repeat' (((fail_if_success (with_reducible show wpAny _ _ (call (.ref 208) _) _ _ _)); (fail_if_success (with_reducible show wpAny _ _ (pyIter _) _ _ _))); first | (k_unfold; (try dsimp only)) | (k_end; wrow_close) | walk1 | (dsimp only; walk1) | (leave1; walk_say "STEP leave1"; try dsimp only) | fail "no step")
          rename Fr g' _ _ _ => Fc
          rename News g' _ _ _ => Nc
          have hsl : st < L' := hnl _ (.head _)
          rename Heap => hq
          obtain ⟨mm, Fm⟩ : ∃ mm, Fr g' L' hq mm := ⟨_, Fc⟩
          clear Fc
          refine comp_str (y := Str.ofString "ba") hh' (by decide) (fun h4 hz4 hk4 C D hC hD hCD => ?_)
          have F4 := Fr.kept Fm hk4 (by simp) (by simp)
          have N4 := News.kept Nc hk4 (by simp)
          have hLq : L' < hq.objs.size := Fm.ns.lt
          have hlow : ∀ p ∈ [(L' + 1 + 1, oc1), (L' + 1, oc2), (st, listOf #[.ref xs, .int (i + 1) tkr] n)], p.1 < hq.objs.size := fun p hp => Heap.lt_size (Nc p hp).1
          have hz4' : hq.objs.size + 1 ≤ h4.objs.size := hz4
          refine ⟨fun j kvs s' => ∃ h tk i' tki, s' = { s with heap := h, toks := tk } ∧ Fr g' L' h mm ∧ News g' L' h ([(L' + 1 + 1, oc1), (L' + 1, oc2)] ++ [(st, listOf #[.ref xs, .int i' tki] n)]) ∧ i + 1 ≤ i' ∧ i' ≤ i + 1 + j * (1 + vB d) ∧
            (∀ kx ∈ kvs, ValAt w (hideAll h ([C, D] ++ List.range (hq.objs.size + 1))) d kx.2) ∧ kvs.length ≤ j ∧ (∀ kx ∈ kvs, ∃ x, kx.1 = Ky.s x ∧ PyData.strOk x = true), ?_, ?_, ?_, ?_⟩
          · intro h tk k
            exact ⟨h, tk, _, _, rfl, Fr.kept F4 k (by simp) (by simp), News.kept N4 k (by simp), by omega, by simp, fun y hy => (by cases hy), Nat.le_refl _, fun y hy => (by cases hy)⟩
          · rintro j ys s₁ h5 tk5 ⟨h, tk, i', tki, rfl, F5, N5, hi5, hi6, hv5, hkl, hks⟩ k
            have hS : ∀ b ∈ [C, D, hq.objs.size], hq.objs.size ≤ b := fun b hb => by
              rcases (by simpa using hb : b = C ∨ b = D ∨ b = hq.objs.size) with e | e | e
              · rw [e]; exact Nat.le_trans (Nat.le_of_lt hz4) hC
              · rw [e]; exact Nat.le_trans (Nat.le_of_lt hz4) hD
              · rw [e]; exact Nat.le_refl _
            obtain ⟨F6, N6⟩ := stay2 Fm hS F5 N5 (fun p hp => by
              rcases (by simpa using hp : p = (L' + 1 + 1, oc1) ∨ p = (L' + 1, oc2) ∨ p = (st, listOf #[.ref xs, .int i' tki] n)) with e | e | e
              · rw [e]; exact hlow (L' + 1 + 1, oc1) (.head _)
              · rw [e]; exact hlow (L' + 1, oc2) (.tail _ (.head _))
              · rw [e]; exact hlow (st, listOf #[.ref xs, .int (i + 1) tkr] n) (.tail _ (.tail _ (.head _)))) k
            exact ⟨h5, tk5, i', tki, rfl, F6, N6, hi5, hi6, fun y hy => (hv5 y hy).hk k (fun b hb => by
              rcases (by simpa using hb : b = C ∨ b = D ∨ b = hq.objs.size) with e | e | e
              · simp [e]
              · simp [e]
              · simp [e]), hkl, hks⟩
          · rintro j v kvs m₁ s₁ E' hj ⟨cc, tt, hcc, rfl⟩ ⟨h, tk, i', tki, rfl, F5, N5, hi5, hi6, hv5, hkl, hks⟩ hn5 hm5 hp5
            have hj2 : j < 2 := hj
            have hCs : C < h.objs.size := hn5.lt
            have hDs : D < h.objs.size := let ⟨_, _, _, e, _⟩ := hp5; Heap.lt_size e
            have hmul : ((j + 1 : Nat) : Int) * (1 + vB d) ≤ 2 * (1 + vB d) := Int.mul_le_mul_of_nonneg_right (by omega) (by omega)
            have hmul2 : ((j + 1 : Nat) : Int) * (1 + vB d) = j * (1 + vB d) + (1 + vB d) := by push_cast; rw [Int.add_mul, Int.one_mul]
            simp only [List.cons_append, List.nil_append] at N5
            clear Nc N4 F4
            repeat' (((fail_if_success (with_reducible show wpAny _ _ (call (.ref 208) _) _ _ _))); first | (k_unfold; (try dsimp only)) | (k_end; wrow_close) | walk1 | (dsimp only; walk1) | (leave1; walk_say "STEP leave1"; try dsimp only) | fail "no step")
            refine next_spec H' (by show A.depth + 1 < 900; omega) (by show A.units + 3 < 9000; omega) F5 (News.last (own := [_, _]) N5) (isList_kept hx' (kept_F F5) (by simp)) hne hI hlen (by omega) (by omega) (by decide) (by decide) (fun r3 tr3 tkr3 h6 tk6 hk6 hst6 hr30 hr31 => ?_)
            have F6 := Fr.kept F5 hk6 (by simpa using Nat.ne_of_gt hsl) (by simpa using (N5 _ (.tail _ (.tail _ (.head _)))).2.2)
            have N6 := News.swap (own := [_, _]) N5 hk6 hst6 (by intro p hp; simp only [List.mem_cons, List.not_mem_nil, or_false] at hp; rcases hp with rfl | rfl <;> first | exact Nat.ne_of_gt (Nat.lt_succ_of_lt hsl) | exact Nat.ne_of_gt (Nat.lt_succ_of_lt (Nat.lt_succ_of_lt hsl)))
            simp only [List.cons_append, List.nil_append] at N6
            clear F5 N5
            (try k_fold)
            repeat' (((fail_if_success (with_reducible show wpAny _ _ (call (.ref 213) _) _ _ _))); first | (k_unfold; (try dsimp only)) | (k_end; wrow_close) | walk1 | (dsimp only; walk1) | (leave1; walk_say "STEP leave1"; try dsimp only) | fail "no step")
            have hsq : st < hq.objs.size := Nat.lt_trans hsl hLq
            have nst : ∀ b ∈ [C, D, hq.objs.size], b ∉ [st] := fun b hb q => by
              have hb' := List.mem_singleton.mp q
              rcases (by simpa using hb : b = C ∨ b = D ∨ b = hq.objs.size) with e | e | e
              · rw [← e, hb'] at hC; exact Nat.lt_irrefl _ (Nat.lt_of_lt_of_le hsq (Nat.le_trans (Nat.le_of_lt hz4) hC))
              · rw [← e, hb'] at hD; exact Nat.lt_irrefl _ (Nat.lt_of_lt_of_le hsq (Nat.le_trans (Nat.le_of_lt hz4) hD))
              · rw [← e, hb'] at hsq; exact Nat.lt_irrefl _ hsq
            have hv6 : ∀ kx ∈ kvs, ValAt w (hideAll h6 ([C, D] ++ List.range (hq.objs.size + 1))) d kx.2 := fun kx hkx => (hv5 kx hkx).hk hk6 (fun b hb => by
              rw [List.mem_singleton.mp hb]
              simp only [List.mem_append, List.mem_range]
              exact .inr (Nat.lt_succ_of_lt hsq))
            have hn6 := hn5.at' fun o e => hk6 C o (nst C (by simp)) e
            refine ⟨fun _ => ?_, fun _ => ⟨⟨h6, _, i' + 1, tkr3, rfl, F6, N6, by omega, by rw [hmul2]; omega, hv6, by omega, hks⟩, fun b hb o e => hk6 b o (nst b hb) e⟩⟩
            clear hn5
            repeat' (((fail_if_success (with_reducible show wpAny _ _ (call (.ref 213) _) _ _ _))); first | (k_unfold; (try dsimp only)) | (k_end; wrow_close) | walk1 | (dsimp only; walk1) | (leave1; walk_say "STEP leave1"; try dsimp only) | fail "no step")
            rw [show ((d + 1 : Nat) : Int) - 1 = (d : Int) by push_cast; omega]
            refine ih (by omega) H' (by show A.depth + 1 + 10 * d < 860; omega) (by show A.units + 3 + 100 * d < 8600; omega) F6 (News.last (own := [_, _]) N6) (isList_kept hx' (kept_F F6) (by simp)) hne hI hlen (by omega) (by omega) (fun v i2 tk2 h7 tk7 hk7 hst7 hi7 hi8 hv7 => ?_)
            (try k_unfold)
            have F7 := Fr.kept F6 hk7 (by simpa using Nat.ne_of_gt hsl) (by simpa using (N6 _ (.tail _ (.tail _ (.head _)))).2.2)
            have N7 := News.swap (own := [_, _]) N6 hk7 hst7 (by intro p hp; simp only [List.mem_cons, List.not_mem_nil, or_false] at hp; rcases hp with rfl | rfl <;> first | exact Nat.ne_of_gt (Nat.lt_succ_of_lt hsl) | exact Nat.ne_of_gt (Nat.lt_succ_of_lt (Nat.lt_succ_of_lt hsl)))
            have hlen7 := stored_length_le kvs (Ky.s ⟨#[cc]⟩) v
            have hz6 : C < h6.objs.size := hn6.lt
            have hD6 : D < h6.objs.size := let ⟨_, _, _, e, _⟩ := hp5; Heap.lt_size (hk6 D _ (nst D (by simp)) e)
            have hoc : PyData.strOk ⟨#[cc]⟩ = true := by
              rcases (by omega : j = 0 ∨ j = 1) with e | e <;> subst e
              · obtain rfl := Option.some.inj (hcc.symm.trans (show _ = some 98 from by decide)); decide +kernel
              · obtain rfl := Option.some.inj (hcc.symm.trans (show _ = some 97 from by decide)); decide +kernel
            refine ⟨.s ⟨#[cc]⟩, beq_self_eq_true _, ⟨h7, _, i2, tk2, rfl, F7, N7, by omega, by rw [hmul2]; omega, fun kx hkx => ?_, by omega, fun kx hkx => keys_stored hks hoc hkx⟩, fun b hb o e => hk7 b o (nst b hb) (hk6 b o (nst b hb) e)⟩
            rcases mem_stored hkx with e | ⟨kx', hm', e⟩
            · rw [e]
              refine hv7.hide (fun b hb => List.mem_range.mpr ?_)
              rcases List.mem_append.mp hb with hb | hb
              · rcases (by simpa using hb : b = C ∨ b = D) with e | e
                · rw [e]; exact hz6
                · rw [e]; exact hD6
              · exact Nat.lt_of_lt_of_le (List.mem_range.mp hb) (Nat.le_trans hz4' (Nat.le_trans hC (Nat.le_of_lt hz6)))
            · rw [e]
              refine (hv6 kx' hm').hk hk7 (fun b hb => ?_)
              rw [List.mem_singleton.mp hb]
              simp only [List.mem_append, List.mem_range]
              exact .inr (Nat.lt_succ_of_lt hsq)
          · rintro kvs s₄ ⟨h, tk, i', tki, rfl, F5, N5, hi5, hi6, hv5, hkl, hks⟩ hl5
            have hkl2 : kvs.length ≤ 2 := hkl
            have hi62 : i' ≤ i + 1 + 2 * (1 + vB d) := hi6
            (try k_unfold)
            (try dsimp only)
            refine Back.intro F5 fun hk => ?_
            simp only [List.cons_append, List.nil_append] at N5
            have hDL : s.heap.objs.size ≤ D := Nat.le_of_lt (Nat.lt_of_lt_of_le (Nat.lt_of_le_of_lt hL' hLq) (Nat.le_trans (Nat.le_of_lt hz4) hD))
            refine ret _ _ _ _ _ hk (News.get N5 (.tail _ (.tail _ (.head _)))) (by omega) (by omega) (.inr (.inr ⟨D, kvs, rfl, ?_, ?_, hkl2, hks, fun y hy => (hv5 y hy).hide fun b hb => ?_⟩))
            · obtain ⟨o, es, ep, e, r⟩ := hl5
              refine ⟨o, es, ep, hideAll_get _ e (fun q => ?_), r⟩
              exact absurd (List.mem_range.mp q) (Nat.not_lt.mpr hDL)
            · exact beq_eq_false_iff_ne.mpr (Nat.ne_of_gt (Nat.lt_of_lt_of_le (Nat.lt_of_lt_of_le (modules_low H'.noLimit) (Nat.le_trans F5.above (Nat.le_of_lt hLq))) (Nat.le_trans (Nat.le_of_lt hz4) hD)))
            · refine List.mem_append.mpr (.inr (List.mem_range.mpr (Nat.lt_succ_of_lt (Nat.lt_of_lt_of_le (List.mem_range.mp hb) (Nat.le_trans hL' (Nat.le_of_lt hLq))))))
      · rename Fr g' _ _ _ => Fc
        rename News g' _ _ _ => Nc
        have hsl2 : st < L' := hnl _ (.head _)
        refine next_spec H' (by show A.depth + 1 < 900; omega) (by show A.units + 3 < 9000; omega) Fc (News.last (own := [_, _]) Nc) (isList_kept hx' (kept_F Fc) (by simp)) hne hI hlen (by omega) (by omega) (by decide) (by decide) (fun r3 tr3 tkr3 h3 tk3 hk3 hst3 hr30 hr31 => ?_)
        have F3 := Fr.kept Fc hk3 (by simpa using Nat.ne_of_gt hsl2) (by simpa using (Nc _ (.tail _ (.tail _ (.head _)))).2.2)
        have N3 := News.swap (own := [_, _]) Nc hk3 hst3 (by intro p hp; simp only [List.mem_cons, List.not_mem_nil, or_false] at hp; rcases hp with rfl | rfl <;> first | exact Nat.ne_of_gt (Nat.lt_succ_of_lt hsl2) | exact Nat.ne_of_gt (Nat.lt_succ_of_lt (Nat.lt_succ_of_lt hsl2)))
        simp only [List.cons_append, List.nil_append] at N3
        clear Fc Nc
        (try k_fold)
        k_steps
        (try dsimp only)
        (try k_unfold)
        (try dsimp only)
        refine Back.intro (by assumption) fun hk => ?_
        exact ret _ _ _ _ _ hk (News.get (by assumption) (.tail _ (.tail _ (.head _)))) (by omega) (by omega) (.inl ⟨_, _, rfl⟩)
end
end Mine
namespace Mine
theorem fresh_V0 : True := by
  w_top off
  trivial
end Mine
-- part P0
namespace Mine
section
variable {w : World} {A : Around} {h₀ : Heap} {L : Addr} {m : Str → Option Value} {s : Shared} {Q : Value → Shared → Prop} {E : Value → Shared → Prop}
/-- a value's child under a key -/
def Child (w : World) (h : Heap) (v : Value) (k : Ky) (c : Value) : Prop :=
  (∃ a vs j, v = .ref a ∧ h.IsList a (List.toArray vs) ∧ vs.length ≤ 10 ∧ k = .i j ∧ 0 ≤ j ∧ vs[j.toNat]? = some c) ∨ (∃ a kvs, v = .ref a ∧ h.DictOf (kyKind prg w) a kvs ∧ (a == sysModules) = false ∧ valueAt kvs k = some c)
theorem Child.keptC {h h' : Heap} (kk : KeepC h h') {v c : Value} {k : Ky} (x : Child w h v k c) : Child w h' v k c := by
  rcases x with ⟨a, vs, j, e, hl, r⟩ | ⟨a, kvs, e, hd, r⟩
  · exact .inl ⟨a, vs, j, e, isList_keptC hl kk, r⟩
  · exact .inr ⟨a, kvs, e, dictOf_keptC hd kk, r⟩
def Path (w : World) (h : Heap) : Value → List Ky → Value → Prop
  | v, [], u => u = v
  | v, k :: ks, u => ∃ c, Child w h v k c ∧ Path w h c ks u
theorem Path.snoc {h : Heap} {k : Ky} {u c : Value} (hc : Child w h u k c) : ∀ {v : Value} {ks : List Ky}, Path w h v ks u → Path w h v (ks ++ [k]) c
  | v, [], e => by cases e; exact ⟨c, hc, rfl⟩
  | v, k' :: ks, ⟨c', hc', p⟩ => ⟨c', hc', Path.snoc hc p⟩
theorem Path.keptC {h h' : Heap} (kk : KeepC h h') : ∀ {v : Value} {ks : List Ky} {u : Value}, Path w h v ks u → Path w h' v ks u
  | v, [], _, e => e
  | v, k' :: ks, _, ⟨c', hc', p⟩ => ⟨c', hc'.keptC kk, Path.keptC kk p⟩
/-- the keys' values -/
inductive KysAre : List Value → List Ky → Prop where
  | nil : KysAre [] []
  | cons {v : Value} {k : Ky} {vs : List Value} {ks : List Ky} : k.is v = true → k.small → KysAre vs ks → KysAre (v :: vs) (k :: ks)
theorem KysAre.snoc {v : Value} {k : Ky} (h : k.is v = true) (hs : k.small) : ∀ {vs : List Value} {ks : List Ky}, KysAre vs ks → KysAre (vs ++ [v]) (ks ++ [k])
  | _, _, .nil => .cons h hs .nil
  | _, _, .cons a b r => .cons a b (KysAre.snoc h hs r)
theorem Fr.name {g h : Heap} {L' : Addr} {m' : Str → Option Value} {x : Str} {v : Value} (F : Fr g L' h m') (e : m' x = some v) : Fr g L' h (fun y => if y = x then some v else m' y) := by
  have : m' = fun y => if y = x then some v else m' y := by
    funext y
    by_cases q : y = x
    · rw [if_pos q, q, e]
    · rw [if_neg q]
  rw [← this]; exact F
theorem ValAt.cases {h : Heap} : ∀ {d : Nat} {v : Value}, ValAt w h d v → (∃ n t, v = .int n t) ∨ (∃ d' a vs, d = d' + 1 ∧ v = .ref a ∧ h.IsList a (List.toArray vs) ∧ vs.length ≤ 2 ∧ ∀ x ∈ vs, ValAt w h d' x) ∨
      (∃ d' a kvs, d = d' + 1 ∧ v = .ref a ∧ h.DictOf (kyKind prg w) a kvs ∧ (a == sysModules) = false ∧ kvs.length ≤ 2 ∧ (∀ kx ∈ kvs, ∃ x, kx.1 = Ky.s x ∧ PyData.strOk x = true) ∧ ∀ kx ∈ kvs, ValAt w h d' kx.2)
  | 0, _, x => .inl x
  | d + 1, _, x => by
    rcases x with x | ⟨a, vs, r⟩ | ⟨a, kvs, r⟩
    · exact .inl x
    · exact .inr (.inl ⟨d, a, vs, rfl, r⟩)
    · exact .inr (.inr ⟨d, a, kvs, rfl, r⟩)
theorem KysAre.len : ∀ {vs : List Value} {ks : List Ky}, KysAre vs ks → vs.length = ks.length
  | _, _, .nil => rfl
  | _, _, .cons _ _ r => by simp [KysAre.len r]
theorem sub_child {prog : Program} {value slice : PySem.Expr} {u c kv : Value} {k : Ky} (hc : ∀ hh : prog = prg, Child w s.heap u k c) (hp : prog = prg) (hk : k.is kv = true) (hsm : k.small)
    (h : ∀ tk, Q c { s with toks := tk }) (hs : subscripted slice false u kv = operate [u, kv] (getItem u kv) := by with_unfolding_all rfl) :
    wpAny (model prog w) A (subscriptTail value slice u kv) Q E s := by
  subst hp
  rcases hc rfl with ⟨a, ws, j, rfl, hl, hlen, rfl, h0, hj⟩ | ⟨a, kvs, rfl, hd, hlo, hv⟩
  · rcases Ky.shape hk with ⟨x, t, e, rfl⟩ | ⟨n, t, e, rfl⟩
    · cases e
    cases e
    have hsz : ws.toArray.size = ws.length := List.size_toArray
    have hlt : j.toNat < ws.length := (List.getElem?_eq_some_iff.mp hj).1
    exact tail_any hl.typeIs slot_list_getitem.lookup (wpAny_getItem_list hl h0 (by omega) (by simpa using hj) (h s.toks)) hs
  · exact sub_dict (knd := kyKind prg w) hk hd hv (h _) hs
theorem none_new {h g : Heap} {a : Addr} {S : List Addr} (up : ∀ b o, b ∉ S → h.get? b = some o → g.get? b = some o) (hn : g.get? a = none) (hS : a ∉ S) : h.get? a = none := by
  cases q : h.get? a with
  | none => rfl
  | some o => rw [up a o hS q] at hn; cases hn
theorem ne_tuple {h : Heap} {T st : Addr} {d : Data} {a : Array Value} {n : Nat} (h1 : h.get? T = some { cls := .type "tuple", data := d }) (h2 : h.get? st = some (listOf a n)) : T ≠ st := by
  rintro rfl
  rw [h1] at h2
  exact absurd (show Value.type "tuple" = Value.type "list" from congrArg Obj.cls (Option.some.inj h2)) (by decide)
def RangeIs (ys : List Value) : Prop := ∀ (j : Nat) (y : Value), ys[j]? = some y → ∃ t, y = .int j t
theorem RangeIs.snoc {ys : List Value} {j : Nat} {t : Tok} (h : RangeIs ys) (hl : ys.length = j) : RangeIs (ys ++ [.int j t]) := by
  intro i y e
  rcases Nat.lt_or_ge i ys.length with q | q
  · exact h i y (by rwa [List.getElem?_append_left q] at e)
  · have hq2 : i = ys.length := by
      have := (List.getElem?_eq_some_iff.mp e).1
      simp at this; omega
    subst hq2
    rw [List.getElem?_append_right (Nat.le_refl _)] at e
    simp at e
    subst e
    exact ⟨_, by rw [hl]⟩
theorem place_spec {st xs : Addr} {i : Int} {ti : Tok} {n : Nat} {vs : List Value} {ns : List Int} {v : Value}
    (H : Here w A h₀ L) (hdp : A.depth < 860) (hun : A.units < 8600) (F : Fr h₀ L s.heap m)
    (N : News h₀ L s.heap [(st, listOf #[.ref xs, .int i ti] n)]) (hx : s.heap.IsList xs vs.toArray) (hne : xs ≠ st) (hI : IntsAre vs ns) (hlen : ns.length ≤ 60) (hi0 : 0 ≤ i) (hi1 : i + 6 < 990)
    (hv : ValAt w (hideAll s.heap [st]) 2 v)
    (ret : ∀ T pl ks kvals u i' tk h' tk', Kept [st] s.heap h' → h'.get? st = some (listOf #[.ref xs, .int i' tk] n) → i ≤ i' → i' ≤ i + 6 → h'.get? T = some { cls := .type "tuple", data := .seq #[.ref pl, u] } → s.heap.get? T = none → h'.IsList pl (List.toArray kvals) → s.heap.get? pl = none → KysAre kvals ks → ks.length ≤ 2 →
      Path w (hideAll s.heap [st]) v ks u → Q (.ref T) { s with heap := h', toks := tk' }) :
    wpAny (model PySem.Challenge.rw_vk0009_01.row.prog w) A (call (.ref 218) [.ref st, v]) Q E s := by
  have X := H.inK
  revert X; k_fill; intro X
  refine wpAny_call ?_
  refine' codeAny_mono (enter (R := Q) (E := E) H F N ?k6 ?k7 ?k8 ?k9 ?kB ?kW ?c5 ?c2 ?c3 ?c4) ?kM
  case k6 => k_is
  case k7 => k_is
  case k8 => show A.depth < 1000; omega
  case k9 => exact BindsTo.of_eq rfl
  case kB => exact locs rfl
  case c5 => decide
  case c2 => exact rfl
  case c3 => exact rfl
  case c4 => exact rfl
  case kM => exact fun _ _ h => h
  case kW =>
    intro g' L' h' H' F' N' up down hL'
    have hx' : g'.IsList xs vs.toArray := let ⟨o, ho, r⟩ := hx; ⟨o, up xs o (by simpa using hne) ho, r⟩
    obtain ⟨⟨A₀, base, outer, env, p, loose, mean, mg, mb, B', T', hfr, _⟩, X', hh'⟩ := id H'
    (with_reducible show wpAny _ _ _ _ _ _)
    (try k_fold)
    repeat' (((fail_if_success (with_reducible show wpAny _ _ (exec (Stmt.For _ _ _ _ _) _) _ _ _))); first | (k_unfold; (try dsimp only)) | (k_end; wrow_close) | walk1 | (dsimp only; walk1) | (leave1; walk_say "STEP leave1"; try dsimp only) | fail "no step")
    rename News g' _ _ _ => Nc
    rename Fr g' _ _ _ => Fc
    have hv' : ValAt w g' 2 v := hv.keptC fun b o _ e => up b o (fun q => by rw [hideAll_none _ (show b ∈ [st] from by simpa using q)] at e; cases e) (of_hideAll _ e)
    have hgS : ∀ b o, g'.get? b = some o → (hideAll s.heap [st]).get? b = some o := fun b o e => hideAll_get _ (down b o e) fun q => by
      have hh := (Nc (st, listOf #[.ref xs, .int i ti] n) (by simp)).2.2
      rw [List.mem_singleton.mp q] at e
      rw [show g'.get? st = none from hh] at e; cases e
    refine for_J rfl rfl ?_ (by intro _; with_unfolding_all rfl)
    repeat' (((fail_if_success (with_reducible show wpAny _ _ (pyIter _) _ _ _))); first | (k_unfold; (try dsimp only)) | (k_end; wrow_close) | walk1 | (dsimp only; walk1) | (leave1; walk_say "STEP leave1"; try dsimp only) | fail "no step")
    rename IsRange _ _ _ _ _ _ _ _ => hrg
    rename Fr g' _ _ _ => Fl
    rename News g' _ _ _ => Nl
    rename Heap => hq0
    have hge := fun b (o : Obj) (e : g'.get? b = some o) => ne_L Fl e
    have hab := Fl.above
    rename st < _ => l1
    refine loop_range (n := 3) hh' hrg (by decide) Fl.ns (fun h2 hz2 hk2 => ?_)
    have hIL : hq0.objs.size ≠ L' ∧ g'.get? hq0.objs.size = none := Fr.fresh Fl (Nat.le_refl _)
    have hIst : st < hq0.objs.size := Heap.lt_size (Nl _ (.tail _ (.head _))).1
    generalize hIe : hq0.objs.size = I at hz2 hIL hIst ⊢
    have hl0 := Heap.lt_size (Nl _ (.head _)).1
    refine ⟨fun j mj s' => ∃ h tk i' tki pl op ks kvals u, s' = { s with heap := h, toks := tk } ∧ Kept [] g' h ∧ News g' L' h [(pl, listOf (List.toArray kvals) op), (st, listOf #[.ref xs, .int i' tki] n)] ∧
      mj (Str.ofString "places") = some (.ref pl) ∧ mj (Str.ofString "value") = some u ∧ mj (Str.ofString "state") = some (.ref st) ∧ i ≤ i' ∧ i' ≤ i + 2 * j ∧ KysAre kvals ks ∧ ks.length ≤ j ∧ Path w g' v ks u ∧ j ≤ 2 ∧ ValAt w g' (2 - j) u ∧ s.heap.get? pl = none ∧ pl ≠ I, ?_, ?_, ?_, ?_⟩
    · refine ⟨h2, _, i, ti, _, _, [], [], v, rfl, (kept_F Fl).trans hk2, News.kept Nl hk2 (by simp), rfl, rfl, rfl, by omega, by omega, .nil, by simp, rfl, by omega, hv', ?_⟩
      exact ⟨none_new up (Nl _ (.head _)).2.2 (by simpa using Nat.ne_of_gt l1), hIe ▸ Nat.ne_of_lt hl0⟩
    · rintro j mj s₁ h5 tk5 ⟨h, tk, i', tki, pl, op, ks, kvals, u, rfl, hkg, N1, hm1, hm2, hm3, a⟩ k m' hm'
      have hI' : ∀ p ∈ [(pl, listOf (List.toArray kvals) op), (st, listOf #[.ref xs, .int i' tki] n)], p.1 ∉ [L', I] := by
        intro p hp
        rcases (by simpa using hp : p = (pl, listOf (List.toArray kvals) op) ∨ p = (st, listOf #[.ref xs, .int i' tki] n)) with e | e
        · rw [e]; simpa using ⟨(N1 _ (.head _)).2.1, a.2.2.2.2.2.2.2.2⟩
        · rw [e]; simpa using ⟨(N1 _ (.tail _ (.head _))).2.1, Nat.ne_of_lt hIst⟩
      refine ⟨h5, tk5, i', tki, pl, op, ks, kvals, u, rfl, fun b o _ e => k b o ?_ (hkg b o (by simp) e), fun p hp => ⟨k _ _ (hI' p hp) (N1 p hp).1, (N1 p hp).2⟩, (hm' _ (by decide)).trans hm1, (hm' _ (by decide)).trans hm2, (hm' _ (by decide)).trans hm3, a⟩
      intro q
      rcases (by simpa using q : b = L' ∨ b = I) with q | q
      · exact hge b o e q
      · rw [q, hIL.2] at e; cases e
    · rintro j kv m₁ s₁ hj ⟨tk9, rfl⟩ ⟨oI, hoI⟩ hns ⟨h, tk, i', tki, pl, op, ks, kvals, u, rfl, hkg, N1, hm1, hm2, hm3, hi1', hi2, hky, hkl, hpa, hj2, hva, hpl, hplI⟩
      have N1 : News g' L' h [(pl, listOf (List.toArray kvals) op), (I, oI), (st, listOf #[.ref xs, .int i' tki] n)] := by
        intro p hp
        rcases (by simpa using hp : p = (pl, listOf (List.toArray kvals) op) ∨ p = (I, oI) ∨ p = (st, listOf #[.ref xs, .int i' tki] n)) with e | e | e
        · rw [e]; exact N1 _ (.head _)
        · rw [e]; exact ⟨hoI, hIL.1, hIL.2⟩
        · rw [e]; exact N1 _ (.tail _ (.head _))
      have Fa := Fr.name (L' := L') (x := Str.ofString "state") (Fr.mk hns (fun b o e => hkg b o (by simp) e) hab) hm3
      have Fb := Fr.name (L' := L') (x := Str.ofString "value") (v := u) Fa ((if_neg (by decide)).trans hm2)
      have F1 := Fr.name (L' := L') (x := Str.ofString "places") (v := .ref pl) Fb ((if_neg (by decide)).trans ((if_neg (by decide)).trans hm1))
      clear Fa Fb
      clear Nl Fl
      rcases hva.cases with ⟨nn, tt, rfl⟩ | ⟨d', a, ws, hd', rfl, hl, hwl, hch⟩ | ⟨d', a, kvs, hd', rfl, hd0, hlo, hwl, hks0, hch⟩
      · repeat' (((fail_if_success (with_reducible show wpAny _ _ (call (.ref 208) _) _ _ _))); first | (k_unfold; (try dsimp only)) | (k_end; wrow_close) | walk1 | (dsimp only; walk1) | (leave1; walk_say "STEP leave1"; try dsimp only) | fail "no step")
        rename News g' _ _ _ => Nz
        unfold TurnEnd
        dsimp only
        (try k_unfold)
        (try dsimp only)
        refine Back.intro (by assumption) fun hk => ret _ pl ks kvals _ i' tki _ _ hk (News.get Nz (.tail _ (.tail _ (.tail _ (.tail _ (.head _)))))) (by omega) (by omega) (News.get Nz (.head _)) (none_new up (Nz _ (.head _)).2.2 (by simpa using ne_tuple (News.get Nz (.head _)) (News.get Nz (.tail _ (.tail _ (.tail _ (.tail _ (.head _)))))))) ⟨_, News.get Nz (.tail _ (.tail _ (.head _))), rfl, _, rfl⟩ hpl hky (by omega) (hpa.keptC fun b o _ e => hgS b o e)
      · obtain ⟨od, hod, hodc, _⟩ := id hl
        repeat' (((fail_if_success (with_reducible show wpAny _ _ (call (.ref 208) _) _ _ _)); (fail_if_success (with_reducible show wpAny _ _ (call (.builtin _) _) _ _ _)); (fail_if_success (with_reducible show wpAny _ _ (exec (Stmt.Assign _ (PySem.Expr.ListComp _ _ _ _) _) _) _ _ _))); first | (k_unfold; (try dsimp only)) | (k_end; wrow_close) | walk1 | (dsimp only; walk1) | (leave1; walk_say "STEP leave1"; try dsimp only) | fail "no step")
        rename Fr g' _ _ _ => Fc
        refine IsiPair.list_dict (Fr.keep Fc _ _ hod) hodc ?_
        repeat' (((fail_if_success (with_reducible show wpAny _ _ (call (.ref 208) _) _ _ _)); (fail_if_success (with_reducible show wpAny _ _ (call (.builtin _) _) _ _ _)); (fail_if_success (with_reducible show wpAny _ _ (exec (Stmt.Assign _ (PySem.Expr.ListComp _ _ _ _) _) _) _ _ _))); first | (k_unfold; (try dsimp only)) | (k_end; wrow_close) | walk1 | (dsimp only; walk1) | (leave1; walk_say "STEP leave1"; try dsimp only) | fail "no step")
        rename Fr g' _ _ _ => Fc
        refine IsiPair.list_list (Fr.keep Fc _ _ hod) hodc ?_
        repeat' (((fail_if_success (with_reducible show wpAny _ _ (call (.ref 208) _) _ _ _)); (fail_if_success (with_reducible show wpAny _ _ (call (.builtin _) _) _ _ _)); (fail_if_success (with_reducible show wpAny _ _ (exec (Stmt.Assign _ (PySem.Expr.ListComp _ _ _ _) _) _) _ _ _))); first | (k_unfold; (try dsimp only)) | (k_end; wrow_close) | walk1 | (dsimp only; walk1) | (leave1; walk_say "STEP leave1"; try dsimp only) | fail "no step")
        refine' comp_JA ?csw ?cy ?cp ?cc ?cl ?ck ?cn ?cx ?ch ?cs
        case csw => with_unfolding_all rfl
        case cy => with_unfolding_all rfl
        case cp => with_unfolding_all rfl
        case cc => with_unfolding_all rfl
        case cl => decide
        case ck => with_unfolding_all rfl
        case cn => decide
        case cx => with_unfolding_all rfl
        case cs => intro _; with_unfolding_all rfl
        case ch =>
          repeat' (((fail_if_success (with_reducible show wpAny _ _ (call (.builtin _) _) _ _ _)); (fail_if_success (with_reducible show wpAny _ _ (pyIter _) _ _ _))); first | (k_unfold; (try dsimp only)) | (k_end; wrow_close) | walk1 | (dsimp only; walk1) | (leave1; walk_say "STEP leave1"; try dsimp only) | fail "no step")
          rename Fr g' _ _ _ => Fc
          refine call_len_list (isList_kept hl (kept_F Fc) (by simp)) (by simp; omega) ?_
          repeat' (((fail_if_success (with_reducible show wpAny _ _ (pyIter _) _ _ _))); first | (k_unfold; (try dsimp only)) | (k_end; wrow_close) | walk1 | (dsimp only; walk1) | (leave1; walk_say "STEP leave1"; try dsimp only) | fail "no step")
          rename IsRange _ _ _ _ _ _ _ _ => hrg2
          rename Fr g' _ _ _ => Fc
          rename News g' _ _ _ => Nc
          rename Heap => hq
          obtain ⟨mm, hmm, Fm⟩ : ∃ mm, mm = _ ∧ Fr g' L' hq mm := ⟨_, rfl, Fc⟩
          clear Fc
          have Fc := Fm
          clear Fm
          refine comp_range (n := ws.toArray.size) hh' hrg2 (by simp; omega) (fun h4 hz4 hk4 C D hC4 hD4 hCD => ?_)
          have hC : hq.objs.size ≤ C := Nat.le_trans (Nat.le_of_lt hz4) hC4
          have hD : hq.objs.size ≤ D := Nat.le_trans (Nat.le_of_lt hz4) hD4
          have Nc' : News g' L' hq [(pl, listOf (List.toArray kvals) op), (I, oI), (st, listOf #[.ref xs, .int i' tki] n)] := News.sub Nc fun p hp => .tail _ hp
          refine ⟨fun j' ys s' => ∃ h tk, s' = { s with heap := h, toks := tk } ∧ Fr g' L' h mm ∧ News g' L' h [(pl, listOf (List.toArray kvals) op), (I, oI), (st, listOf #[.ref xs, .int i' tki] n)] ∧ RangeIs ys, ?_, ?_, ?_, ?_⟩
          · intro h tk k
            exact ⟨h, tk, rfl, Fr.kept (Fr.kept Fc hk4 (by simp) (by simp)) k (by simp) (by simp), News.kept (News.kept Nc' hk4 (by simp)) k (by simp), fun j y e => by simp at e⟩
          · rintro j' ys s₁ h5 tk5 ⟨h, tk, rfl, F5, N5, hv5⟩ k
            have hS : ∀ b ∈ [C, D, hq.objs.size], hq.objs.size ≤ b := fun b hb => by
              rcases (by simpa using hb : b = C ∨ b = D ∨ b = hq.objs.size) with e | e | e
              · rw [e]; exact hC
              · rw [e]; exact hD
              · rw [e]; exact Nat.le_refl _
            obtain ⟨F6, N6⟩ := stay2 Fc hS F5 N5 (fun p hp => by
              rcases (by simpa using hp : p = (pl, listOf (List.toArray kvals) op) ∨ p = (I, oI) ∨ p = (st, listOf #[.ref xs, .int i' tki] n)) with e | e | e
              · rw [e]; exact Heap.lt_size (Nc' _ (.head _)).1
              · rw [e]; exact Heap.lt_size (Nc' _ (.tail _ (.head _))).1
              · rw [e]; exact Heap.lt_size (Nc' _ (.tail _ (.tail _ (.head _)))).1) k
            exact ⟨h5, tk5, rfl, F6, N6, hv5⟩
          · rintro j' kv ys m₅ s₅ E' hj' ⟨t5, rfl⟩ hlen5 ⟨h5, tk5, rfl, F5, N5, hv5⟩ hns5 hmx5 hp5
            k_steps
            all_goals (first | exact F5 | exact N5 | exact hv5.snoc hlen5 | exact (fun b _ o e => e) | skip)
          · rintro ys s₅ hlen5 ⟨h5, tk5, rfl, F5, N5, hall5⟩ hl5 ⟨cD, hp5⟩
            have hlen5 : ys.length = ws.length := by simpa using hlen5
            subst hmm
            refine ⟨_, F5.ns, fun q => (Fr.fresh Fc hC).1 q.symm, fun h6 tk6 hns6 k6 => ?_⟩
            have hDf := Fr.fresh Fc hD
            have F6 : Fr g' L' h6 _ := ⟨hns6, fun b o e => k6 b o (fun q => by
              rcases (by simpa using q : b = L' ∨ b = C) with q | q
              · rw [q, kts_self Fc] at e; cases e
              · rw [q, (Fr.fresh Fc hC).2] at e; cases e) (F5.keep b o e), Fc.above⟩
            have nk : ∀ b o, b ≠ L' → b ≠ C → h5.get? b = some o → h6.get? b = some o := fun b o h1 h2 e => k6 b o (fun q => by
              rcases (by simpa using q : b = L' ∨ b = C) with q | q
              · exact h1 q
              · exact h2 q) e
            have N6 : News g' L' h6 [(D, listOf ys.toArray cD), (pl, listOf (List.toArray kvals) op), (I, oI), (st, listOf #[.ref xs, .int i' tki] n)] := by
              have N5' := N5
              exact News.cons (fun p hp => ⟨nk _ _ (N5' p hp).2.1 (fun q => absurd (Heap.lt_size (Nc' p hp).1) (Nat.not_lt.mpr (q ▸ hC))) (N5' p hp).1, (N5' p hp).2⟩) (nk _ _ hDf.1 (fun q => hCD q.symm) hp5) hDf.1 hDf.2
            have hsl : st < L' := Nat.lt_of_lt_of_le (Heap.lt_size (N _ (.head _)).1) hL'
            have hown : ∀ p ∈ [(D, listOf ys.toArray cD), (pl, listOf (List.toArray kvals) op), (I, oI)], p.1 ≠ st := by
              intro p hp
              simp only [List.mem_cons, List.not_mem_nil, or_false] at hp
              rcases hp with rfl | rfl | rfl
              · exact Nat.ne_of_gt (Nat.lt_of_lt_of_le (Nat.lt_trans hsl Fc.ns.lt) hD)
              · intro q; have q : pl = st := q; rw [q, (N _ (.head _)).1] at hpl; cases hpl
              · exact Nat.ne_of_gt hIst
            clear Fc Nc F5 N5
            have hlD : h6.IsList D ys.toArray := ⟨_, News.get N6 (.head _), rfl, _, rfl⟩
            repeat' (((fail_if_success (with_reducible show wpAny _ _ (call (.ref 208) _) _ _ _)); (fail_if_success (with_reducible show wpAny _ _ (call (.builtin _) _) _ _ _))); first | (k_unfold; (try dsimp only)) | (k_end; wrow_close) | walk1 | (dsimp only; walk1) | (leave1; walk_say "STEP leave1"; try dsimp only) | fail "no step")
            refine Calls.call_function_entry kind_len plain_len entry_len (args_len1 _) (wpAny_len_body_list hlD (by simp; omega) ?_)
            repeat' (((fail_if_success (with_reducible show wpAny _ _ (call (.ref 208) _) _ _ _)); (fail_if_success (with_reducible show wpAny _ _ (call (.builtin _) _) _ _ _))); first | (k_unfold; (try dsimp only)) | (k_end; wrow_close) | walk1 | (dsimp only; walk1) | (leave1; walk_say "STEP leave1"; try dsimp only) | fail "no step")
            · rename News g' _ _ _ => Nz
              unfold TurnEnd
              dsimp only
              (try k_unfold)
              (try dsimp only)
              refine Back.intro (by assumption) fun hk => ret _ pl ks kvals _ i' tki _ _ hk (News.get Nz (.tail _ (.tail _ (.tail _ (.tail _ (.head _)))))) (by omega) (by omega) (News.get Nz (.head _)) (none_new up (Nz _ (.head _)).2.2 (by simpa using ne_tuple (News.get Nz (.head _)) (News.get Nz (.tail _ (.tail _ (.tail _ (.tail _ (.head _)))))))) ⟨_, News.get Nz (.tail _ (.tail _ (.head _))), rfl, _, rfl⟩ hpl hky (by omega) (hpa.keptC fun b o _ e => hgS b o e)
            · rename Fr g' _ _ _ => Fc
              rename News g' _ _ _ => Nc
              refine next_spec H' (by show A.depth + 1 < 900; omega) (by show A.units + 3 < 9000; omega) Fc (News.last (own := [_, _, _]) Nc) (isList_kept hx' (kept_F Fc) (by simp)) hne ‹IntsAre vs ns› hlen (by omega) (by omega) (by decide) (by decide) (fun r7 tr7 tkr7 h7 tk7 hk7 hst7 hr70 hr71 => ?_)
              have F7 := Fr.kept Fc hk7 (by simpa using Nat.ne_of_gt hsl) (by simpa using (Nc _ (.tail _ (.tail _ (.tail _ (.head _))))).2.2)
              have N7 := News.swap (own := [_, _, _]) Nc hk7 hst7 hown
              simp only [List.cons_append, List.nil_append] at N7
              clear Fc Nc
              (try k_fold)
              repeat' (((fail_if_success (with_reducible show wpAny _ _ (call (.ref 208) _) _ _ _)); (fail_if_success (with_reducible show wpAny _ _ (call (.builtin _) _) _ _ _))); first | (k_unfold; (try dsimp only)) | (k_end; wrow_close) | walk1 | (dsimp only; walk1) | (leave1; walk_say "STEP leave1"; try dsimp only) | fail "no step")
              · rename News g' _ _ _ => Nz
                unfold TurnEnd
                dsimp only
                (try k_unfold)
                (try dsimp only)
                refine Back.intro (by assumption) fun hk => ret _ pl ks kvals _ _ _ _ _ hk (News.get Nz (.tail _ (.tail _ (.tail _ (.tail _ (.head _)))))) (by omega) (by omega) (News.get Nz (.head _)) (none_new up (Nz _ (.head _)).2.2 (by simpa using ne_tuple (News.get Nz (.head _)) (News.get Nz (.tail _ (.tail _ (.tail _ (.tail _ (.head _)))))))) ⟨_, News.get Nz (.tail _ (.tail _ (.head _))), rfl, _, rfl⟩ hpl hky (by omega) (hpa.keptC fun b o _ e => hgS b o e)
              · have hlD8 : Heap.IsList _ D ys.toArray := ⟨_, News.get (by assumption) (.head _), rfl, _, rfl⟩
                refine call_len_list hlD8 (by simp; omega) ?_
                repeat' (((fail_if_success (with_reducible show wpAny _ _ (call (.ref 208) _) _ _ _))); first | (k_unfold; (try dsimp only)) | (k_end; wrow_close) | walk1 | (dsimp only; walk1) | (leave1; walk_say "STEP leave1"; try dsimp only) | fail "no step")
                rename Fr g' _ _ _ => Fc
                rename News g' _ _ _ => Nc
                have hysz : ys.toArray.size = ys.length := List.size_toArray
                refine next_spec H' (by show A.depth + 1 < 900; omega) (by show A.units + 3 < 9000; omega) Fc (News.last (own := [_, _, _]) Nc) (isList_kept hx' (kept_F Fc) (by simp)) hne ‹IntsAre vs ns› hlen (by omega) (by omega) (by omega) (by omega) (fun r8 tr8 tkr8 h8 tk8 hk8 hst8 hr80 hr81 => ?_)
                obtain ⟨kk, rfl⟩ : ∃ kk : Nat, r8 = kk := ⟨r8.toNat, by omega⟩
                have F8 := Fr.kept Fc hk8 (by simpa using Nat.ne_of_gt hsl) (by simpa using (Nc _ (.tail _ (.tail _ (.tail _ (.head _))))).2.2)
                have N8 := News.swap (own := [_, _, _]) Nc hk8 hst8 hown
                simp only [List.cons_append, List.nil_append] at N8
                clear Fc Nc
                (try k_fold)
                repeat' (((fail_if_success (with_reducible show wpAny _ _ (subscriptTail _ _ _ _) _ _ _))); first | (k_unfold; (try dsimp only)) | (k_end; wrow_close) | walk1 | (dsimp only; walk1) | (leave1; walk_say "STEP leave1"; try dsimp only) | fail "no step")
                obtain ⟨y, hy⟩ : ∃ y, ys[kk]? = some y := ⟨ys[kk]'(by omega), List.getElem?_eq_getElem (by omega)⟩
                obtain ⟨ty, rfl⟩ := hall5 _ _ hy
                obtain ⟨cv, hkc⟩ : ∃ cv, ws[kk]? = some cv := ⟨ws[kk]'(by omega), List.getElem?_eq_getElem (by omega)⟩
                have hlD9 : Heap.IsList _ D ys.toArray := ⟨_, News.get (by assumption) (.head _), rfl, _, rfl⟩
                refine tail_any hlD9.typeIs slot_list_getitem.lookup (wpAny_getItem_list hlD9 hr80 (by omega) (by simpa using hy) ?_) (by with_unfolding_all rfl)
                repeat' (((fail_if_success (with_reducible show wpAny _ _ (subscriptTail _ _ _ _) _ _ _)); (fail_if_success (with_reducible show wpAny _ _ (binaryOp _ _ _) _ _ _))); first | (k_unfold; (try dsimp only)) | (k_end; wrow_close) | walk1 | (dsimp only; walk1) | (leave1; walk_say "STEP leave1"; try dsimp only) | fail "no step")
                rename Fr g' _ _ _ => Fb0
                rename News g' _ _ _ => Nb0
                have hbo := And.intro (Heap.lt_size (Nb0 (I, oI) (by simp)).1) (Heap.lt_size (Nb0 _ (.tail _ (.tail _ (.tail _ (.tail _ (.head _)))))).1)
                have hkvl : kvals.length ≤ 2 := by have := hky.len; omega
                repeat' (((fail_if_success (with_reducible show wpAny _ _ (subscriptTail _ _ _ _) _ _ _))); first | (k_unfold; (try dsimp only)) | (k_end; wrow_close) | walk1 | (dsimp only; walk1) | (leave1; walk_say "STEP leave1"; try dsimp only) | fail "no step")
                rename Fr g' _ _ _ => Fc
                rename News g' _ _ _ => Nc
                have hch5 : Child w g' (.ref a) (.i kk) cv := .inl ⟨a, ws, kk, rfl, hl, by omega, rfl, by omega, by simpa using hkc⟩
                have hsm5 : (Ky.i kk).small := ⟨by omega, by omega⟩
                have hkis : (Ky.i kk).is (.int kk ty) = true := by show (_ == _) = true; simp
                refine sub_child (k := .i kk) (fun _ => hch5.keptC (KeepC.ground Fc)) rfl hkis hsm5 (fun tk9 => ?_)
                k_steps
                rename Fr g' _ _ _ => Fz
                rename News g' _ _ _ => Nz
                unfold TurnEnd
                dsimp only
                refine ⟨_, Fz.ns, fun b hb o e => ?_, _, _, i' + 1 + 1, tkr8, _, 0, ks ++ [.i kk], kvals ++ [.int kk ty], cv, rfl, kept_F Fz, ?_, rfl, rfl, rfl, by omega, by push_cast; omega, hky.snoc hkis hsm5, by simp; omega, Path.snoc hch5 hpa, by omega, ?_, ?_, ?_⟩
                · rw [List.mem_singleton.mp hb] at e ⊢
                  rw [hoI] at e
                  cases e
                  exact (Nz (I, oI) (by simp)).1
                · exact News.sub Nz fun p hp => by
                    rcases (by simpa using hp) with e | e
                    · rw [e]; exact .head _
                    · rw [e]; exact .tail _ (.tail _ (.tail _ (.tail _ (.tail _ (.head _)))))
                · have e : 2 - (j + 1) = d' := by omega
                  rw [e]
                  exact hch _ (List.mem_of_getElem? hkc)
                · exact none_new up (Nz _ (.head _)).2.2 (by simpa using Nat.ne_of_gt hbo.2)
                · exact Nat.ne_of_gt hbo.1
      · obtain ⟨od, esd, epd, hod, hodc, _⟩ := id hd0
        repeat' (((fail_if_success (with_reducible show wpAny _ _ (call (.ref 208) _) _ _ _)); (fail_if_success (with_reducible show wpAny _ _ (call (.builtin _) _) _ _ _)); (fail_if_success (with_reducible show wpAny _ _ (exec (Stmt.Assign _ (PySem.Expr.ListComp _ _ _ _) _) _) _ _ _))); first | (k_unfold; (try dsimp only)) | (k_end; wrow_close) | walk1 | (dsimp only; walk1) | (leave1; walk_say "STEP leave1"; try dsimp only) | fail "no step")
        rename Fr g' _ _ _ => Fc
        refine IsiPair.dict_dict (Fr.keep Fc _ _ hod) hodc.1 ?_
        repeat' (((fail_if_success (with_reducible show wpAny _ _ (call (.ref 208) _) _ _ _)); (fail_if_success (with_reducible show wpAny _ _ (call (.builtin _) _) _ _ _)); (fail_if_success (with_reducible show wpAny _ _ (exec (Stmt.Assign _ (PySem.Expr.ListComp _ _ _ _) _) _) _ _ _))); first | (k_unfold; (try dsimp only)) | (k_end; wrow_close) | walk1 | (dsimp only; walk1) | (leave1; walk_say "STEP leave1"; try dsimp only) | fail "no step")
        refine' comp_JA ?csw ?cy ?cp ?cc ?cl ?ck ?cn ?cx ?ch ?cs
        case csw => with_unfolding_all rfl
        case cy => with_unfolding_all rfl
        case cp => with_unfolding_all rfl
        case cc => with_unfolding_all rfl
        case cl => decide
        case ck => with_unfolding_all rfl
        case cn => decide
        case cx => with_unfolding_all rfl
        case cs => intro _; with_unfolding_all rfl
        case ch =>
          repeat' (((fail_if_success (with_reducible show wpAny _ _ (pyIter _) _ _ _))); first | (k_unfold; (try dsimp only)) | (k_end; wrow_close) | walk1 | (dsimp only; walk1) | (leave1; walk_say "STEP leave1"; try dsimp only) | fail "no step")
          rename Fr g' _ _ _ => Fc
          rename News g' _ _ _ => Nc
          rename Heap => hq
          refine comp_keys_q (knd := kyKind prg w) hh' hlo (dictOf_kept hd0 (kept_F Fc) (by simp)) (by rw [sizeLine_eq]; omega) Fc Nc (fun s' => ∃ h tk, s' = { s with heap := h, toks := tk }) ⟨_, _, rfl⟩ (fun _ h tk ⟨_, _, e⟩ => ⟨h, tk, by rw [e]⟩) (fun C D I5 hC hD hCD => ?_)
          refine ⟨fun j' y _ => ∃ k x, kvs[j']? = some (k, x) ∧ k.is y = true, fun _ _ _ _ e _ => e, ?_, ?_⟩
          · rintro j' kv k xv m₅ s₅ E' hj' hkv ⟨h5, tk5, rfl⟩ F5 N5 hns5 hmx5 hlow5
            k_steps
            exact Kept.refl _ _
          · rintro ys s₅ hlen5 hall5 ⟨h5, tk5, rfl⟩ F5 N5 hl5 ⟨cD, hp5⟩
            refine ⟨_, F5.ns, fun q => (Fr.fresh Fc hC).1 q.symm, fun h6 tk6 hns6 k6 => ?_⟩
            have hDf := Fr.fresh Fc hD
            have F6 : Fr g' L' h6 _ := ⟨hns6, fun b o e => k6 b o (fun q => by
              rcases (by simpa using q : b = L' ∨ b = C) with q | q
              · rw [q, kts_self Fc] at e; cases e
              · rw [q, (Fr.fresh Fc hC).2] at e; cases e) (F5.keep b o e), Fc.above⟩
            have nk : ∀ b o, b ≠ L' → b ≠ C → h5.get? b = some o → h6.get? b = some o := fun b o h1 h2 e => k6 b o (fun q => by
              rcases (by simpa using q : b = L' ∨ b = C) with q | q
              · exact h1 q
              · exact h2 q) e
            have N6 : News g' L' h6 [(D, listOf ys.toArray cD), (pl, listOf (List.toArray kvals) op), (I, oI), (st, listOf #[.ref xs, .int i' tki] n)] := by
              have N5' : News g' L' h5 [(pl, listOf (List.toArray kvals) op), (I, oI), (st, listOf #[.ref xs, .int i' tki] n)] := News.sub N5 fun p hp => .tail _ hp
              have Nc' : News g' L' hq [(pl, listOf (List.toArray kvals) op), (I, oI), (st, listOf #[.ref xs, .int i' tki] n)] := News.sub Nc fun p hp => .tail _ hp
              exact News.cons (fun p hp => ⟨nk _ _ (N5' p hp).2.1 (fun q => absurd (Heap.lt_size (Nc' p hp).1) (Nat.not_lt.mpr (q ▸ hC))) (N5' p hp).1, (N5' p hp).2⟩) (nk _ _ hDf.1 (fun q => hCD q.symm) hp5) hDf.1 hDf.2
            have hsl : st < L' := Nat.lt_of_lt_of_le (Heap.lt_size (N _ (.head _)).1) hL'
            have hown : ∀ p ∈ [(D, listOf ys.toArray cD), (pl, listOf (List.toArray kvals) op), (I, oI)], p.1 ≠ st := by
              intro p hp
              simp only [List.mem_cons, List.not_mem_nil, or_false] at hp
              rcases hp with rfl | rfl | rfl
              · exact Nat.ne_of_gt (Nat.lt_of_lt_of_le (Nat.lt_trans hsl Fc.ns.lt) hD)
              · intro q; have q : pl = st := q; rw [q, (N _ (.head _)).1] at hpl; cases hpl
              · exact Nat.ne_of_gt hIst
            clear Fc Nc F5 N5
            have hlD : h6.IsList D ys.toArray := ⟨_, News.get N6 (.head _), rfl, _, rfl⟩
            repeat' (((fail_if_success (with_reducible show wpAny _ _ (call (.ref 208) _) _ _ _)); (fail_if_success (with_reducible show wpAny _ _ (call (.builtin _) _) _ _ _))); first | (k_unfold; (try dsimp only)) | (k_end; wrow_close) | walk1 | (dsimp only; walk1) | (leave1; walk_say "STEP leave1"; try dsimp only) | fail "no step")
            refine Calls.call_function_entry kind_len plain_len entry_len (args_len1 _) (wpAny_len_body_list hlD (by simp; omega) ?_)
            repeat' (((fail_if_success (with_reducible show wpAny _ _ (call (.ref 208) _) _ _ _)); (fail_if_success (with_reducible show wpAny _ _ (call (.builtin _) _) _ _ _))); first | (k_unfold; (try dsimp only)) | (k_end; wrow_close) | walk1 | (dsimp only; walk1) | (leave1; walk_say "STEP leave1"; try dsimp only) | fail "no step")
            · rename News g' _ _ _ => Nz
              unfold TurnEnd
              dsimp only
              (try k_unfold)
              (try dsimp only)
              refine Back.intro (by assumption) fun hk => ret _ pl ks kvals _ i' tki _ _ hk (News.get Nz (.tail _ (.tail _ (.tail _ (.tail _ (.head _)))))) (by omega) (by omega) (News.get Nz (.head _)) (none_new up (Nz _ (.head _)).2.2 (by simpa using ne_tuple (News.get Nz (.head _)) (News.get Nz (.tail _ (.tail _ (.tail _ (.tail _ (.head _)))))))) ⟨_, News.get Nz (.tail _ (.tail _ (.head _))), rfl, _, rfl⟩ hpl hky (by omega) (hpa.keptC fun b o _ e => hgS b o e)
            · rename Fr g' _ _ _ => Fc
              rename News g' _ _ _ => Nc
              refine next_spec H' (by show A.depth + 1 < 900; omega) (by show A.units + 3 < 9000; omega) Fc (News.last (own := [_, _, _]) Nc) (isList_kept hx' (kept_F Fc) (by simp)) hne hI hlen (by omega) (by omega) (by decide) (by decide) (fun r7 tr7 tkr7 h7 tk7 hk7 hst7 hr70 hr71 => ?_)
              have F7 := Fr.kept Fc hk7 (by simpa using Nat.ne_of_gt hsl) (by simpa using (Nc _ (.tail _ (.tail _ (.tail _ (.head _))))).2.2)
              have N7 := News.swap (own := [_, _, _]) Nc hk7 hst7 hown
              simp only [List.cons_append, List.nil_append] at N7
              clear Fc Nc
              (try k_fold)
              repeat' (((fail_if_success (with_reducible show wpAny _ _ (call (.ref 208) _) _ _ _)); (fail_if_success (with_reducible show wpAny _ _ (call (.builtin _) _) _ _ _))); first | (k_unfold; (try dsimp only)) | (k_end; wrow_close) | walk1 | (dsimp only; walk1) | (leave1; walk_say "STEP leave1"; try dsimp only) | fail "no step")
              · rename News g' _ _ _ => Nz
                unfold TurnEnd
                dsimp only
                (try k_unfold)
                (try dsimp only)
                refine Back.intro (by assumption) fun hk => ret _ pl ks kvals _ _ _ _ _ hk (News.get Nz (.tail _ (.tail _ (.tail _ (.tail _ (.head _)))))) (by omega) (by omega) (News.get Nz (.head _)) (none_new up (Nz _ (.head _)).2.2 (by simpa using ne_tuple (News.get Nz (.head _)) (News.get Nz (.tail _ (.tail _ (.tail _ (.tail _ (.head _)))))))) ⟨_, News.get Nz (.tail _ (.tail _ (.head _))), rfl, _, rfl⟩ hpl hky (by omega) (hpa.keptC fun b o _ e => hgS b o e)
              · have hlD8 : Heap.IsList _ D ys.toArray := ⟨_, News.get (by assumption) (.head _), rfl, _, rfl⟩
                refine call_len_list hlD8 (by simp; omega) ?_
                repeat' (((fail_if_success (with_reducible show wpAny _ _ (call (.ref 208) _) _ _ _))); first | (k_unfold; (try dsimp only)) | (k_end; wrow_close) | walk1 | (dsimp only; walk1) | (leave1; walk_say "STEP leave1"; try dsimp only) | fail "no step")
                rename Fr g' _ _ _ => Fc
                rename News g' _ _ _ => Nc
                have hysz : ys.toArray.size = ys.length := List.size_toArray
                refine next_spec H' (by show A.depth + 1 < 900; omega) (by show A.units + 3 < 9000; omega) Fc (News.last (own := [_, _, _]) Nc) (isList_kept hx' (kept_F Fc) (by simp)) hne hI hlen (by omega) (by omega) (by omega) (by omega) (fun r8 tr8 tkr8 h8 tk8 hk8 hst8 hr80 hr81 => ?_)
                have F8 := Fr.kept Fc hk8 (by simpa using Nat.ne_of_gt hsl) (by simpa using (Nc _ (.tail _ (.tail _ (.tail _ (.head _))))).2.2)
                have N8 := News.swap (own := [_, _, _]) Nc hk8 hst8 hown
                simp only [List.cons_append, List.nil_append] at N8
                clear Fc Nc
                (try k_fold)
                repeat' (((fail_if_success (with_reducible show wpAny _ _ (subscriptTail _ _ _ _) _ _ _))); first | (k_unfold; (try dsimp only)) | (k_end; wrow_close) | walk1 | (dsimp only; walk1) | (leave1; walk_say "STEP leave1"; try dsimp only) | fail "no step")
                obtain ⟨y, hy⟩ : ∃ y, ys[r8.toNat]? = some y := ⟨ys[r8.toNat]'(by omega), List.getElem?_eq_getElem (by omega)⟩
                obtain ⟨ky, cv, hkc, hkis⟩ := hall5 _ _ hy
                have hlD9 : Heap.IsList _ D ys.toArray := ⟨_, News.get (by assumption) (.head _), rfl, _, rfl⟩
                refine tail_any hlD9.typeIs slot_list_getitem.lookup (wpAny_getItem_list hlD9 hr80 (by omega) (by simpa using hy) ?_) (by with_unfolding_all rfl)
                repeat' (((fail_if_success (with_reducible show wpAny _ _ (subscriptTail _ _ _ _) _ _ _)); (fail_if_success (with_reducible show wpAny _ _ (binaryOp _ _ _) _ _ _))); first | (k_unfold; (try dsimp only)) | (k_end; wrow_close) | walk1 | (dsimp only; walk1) | (leave1; walk_say "STEP leave1"; try dsimp only) | fail "no step")
                rename Fr g' _ _ _ => Fb0
                rename News g' _ _ _ => Nb0
                have hbo := And.intro (Heap.lt_size (Nb0 (I, oI) (by simp)).1) (Heap.lt_size (Nb0 _ (.tail _ (.tail _ (.tail _ (.tail _ (.head _)))))).1)
                have hkvl : kvals.length ≤ 2 := by have := hky.len; omega
                repeat' (((fail_if_success (with_reducible show wpAny _ _ (subscriptTail _ _ _ _) _ _ _))); first | (k_unfold; (try dsimp only)) | (k_end; wrow_close) | walk1 | (dsimp only; walk1) | (leave1; walk_say "STEP leave1"; try dsimp only) | fail "no step")
                rename Fr g' _ _ _ => Fc
                rename News g' _ _ _ => Nc
                have hch5 : Child w g' (.ref a) ky cv := .inr ⟨a, kvs, rfl, hd0, hlo, valueAt_of_get (let ⟨_, q⟩ := hd0.dictAt; q.nodup) hkc⟩
                have hsm5 : ky.small := by
                  obtain ⟨x, e, ok⟩ := hks0 _ (List.mem_of_getElem? hkc)
                  rw [show ky = _ from e]; exact ok
                refine sub_child (k := ky) (fun _ => hch5.keptC (KeepC.ground Fc)) rfl hkis hsm5 (fun tk9 => ?_)
                k_steps
                rename Fr g' _ _ _ => Fz
                rename News g' _ _ _ => Nz
                unfold TurnEnd
                dsimp only
                refine ⟨_, Fz.ns, fun b hb o e => ?_, _, _, i' + 1 + 1, tkr8, _, 0, ks ++ [ky], kvals ++ [y], cv, rfl, kept_F Fz, ?_, rfl, rfl, rfl, by omega, by push_cast; omega, hky.snoc hkis hsm5, by simp; omega, Path.snoc hch5 hpa, by omega, ?_, ?_, ?_⟩
                · rw [List.mem_singleton.mp hb] at e ⊢
                  rw [hoI] at e
                  cases e
                  exact (Nz (I, oI) (by simp)).1
                · exact News.sub Nz fun p hp => by
                    rcases (by simpa using hp) with e | e
                    · rw [e]; exact .head _
                    · rw [e]; exact .tail _ (.tail _ (.tail _ (.tail _ (.tail _ (.head _)))))
                · have e : 2 - (j + 1) = d' := by omega
                  rw [e]
                  exact hch _ (List.mem_of_getElem? hkc)
                · exact none_new up (Nz _ (.head _)).2.2 (by simpa using Nat.ne_of_gt hbo.2)
                · exact Nat.ne_of_gt hbo.1
    · rintro mj s' hn5 ⟨h, tk, i', tki, pl, op, ks, kvals, u, rfl, hkg, N1, hm1, hm2, hm3, a⟩
      omega
end
end Mine
namespace Mine
theorem fresh_P0 : True := by
  w_top off
  trivial
end Mine
-- part X0
namespace Mine
section
variable {w : World} {A : Around} {h₀ : Heap} {L : Addr} {m : Str → Option Value} {s : Shared} {Q : Value → Shared → Prop} {E : Value → Shared → Prop}
section
variable {prog : Program} {K : Frag} {x C : Addr} {ox : Obj} {od : Option Obj} {name : Str} {expr : Bool}
theorem ga_check {M : Model} {nameV : Value} {Q : Unit → Shared → Prop} (X : K.In s.heap) (I : InstAt s.heap x ox C od) (hs : subIn K (.ref C) (.type "BaseException") = some true) (hq : Q () s) : wpAny M A (checkBuiltinCall "BaseException.__getattribute__" ⟨[.ref x, nameV], []⟩) Q E s := by
  have hk : builtinKind "BaseException.__getattribute__" = some .slot := by decide +kernel
  have hsplit : splitId "BaseException.__getattribute__" = some ("BaseException", "__getattribute__") := by decide +kernel
  have ha := F.args_bexc_ga (.ref x) nameV
  simp only [checkBuiltinCall, hk, hsplit]
  refine wpAny_bind ?_
  have LS : Looks M s.heap (isInstance (.ref x) (.type "BaseException")) true := I.type.andThen (looks_subIn X (t := .ref C) (base := .type "BaseException") hs)
  refine LS.here ?_
  repeat (first | wp_step)
  all_goals exact hq
theorem get_valueE {v : Value} (X : K.In s.heap) (I : InstAt s.heap x ox C od) (hga : findIn K (.ref C) "__getattribute__" = some (some (.builtin "BaseException.__getattribute__")))
    (hgh : findIn K (.ref C) "__getattr__" = some none) (hs : subIn K (.ref C) (.type "BaseException") = some true)
    (hf : findObj K C od name = some (.value v)) (hh : handedIn v = true) (h : Q v { s with toks := s.toks + 1 }) : wpAny (model prog w) A (getAttr (.ref x) name expr) Q E s := by
  have hcs := ga_check (M := model prog w) (A := A.in1) (E := fun _ _ => False) (s := { s with toks := s.toks + 1 }) (nameV := .str name s.toks) X I hs (Q := fun _ s' => s' = { s with toks := s.toks + 1 }) rfl
  obtain ⟨hh', g, d, t, os⟩ := s
  have L0 := I.type (M := model prog w)
  have L1 := looks_findIn (M := model prog w) X hga
  have L2 := looks_findIn (M := model prog w) X hgh
  have L3 := looks_find (M := model prog w) X I hf
  unfold getAttr getAttrBy
  refine wpAny_bind (wpAny_mkText (wpAny_holding (wpAny_bind (L0.at (wpAny_bind (L1.at ?_))))))
  have e0 : (onTheHeap (Value.ref C) && Value.builtin "BaseException.__getattribute__" == Value.builtin "object.__getattribute__") = false := by rw [show (Value.builtin "BaseException.__getattribute__" == Value.builtin "object.__getattribute__") = false by decide +kernel]; rfl
  dsimp only
  rw [e0, if_neg Bool.false_ne_true]
  unfold getAttrByItsOwn hookBefore callGetattribute boundAndCalled
  rw [show onTheHeap (Value.ref C) = true from rfl, if_pos rfl, show (expr && onTheHeap (Value.builtin "BaseException.__getattribute__")) = false by cases expr <;> rfl, if_neg Bool.false_ne_true]
  refine wpAny_bind (L2.at (wpAny_bind (wpAny_attempt (wpAny_holding ?_))))
  refine wpAny_bind (wpAny_of_eq (F.attr_Exception.ga.bind _) ?_)
  refine wpAny_call (codeAny_call_builtin F.attr_Exception.ga.plain F.entry_bexc_ga (wpAny_mono hcs (fun _ s' e => ?_) ?_))
  · subst e
    unfold Builtin.«object.__getattribute__»
    repeat (first | (with_reducible refine Looks.at L0 ?_) | (with_reducible refine Looks.at L3 ?_) | wp_step)
    show wpAny _ _ (handedOut v) _ _ _
    rw [handedOut_of hh]; exact wpAny_pure h
  · exact fun _ _ z => z.elim
end
theorem get_namesE {x C d : Addr} {o : Obj} {f : Str → Option Value} {name : Str} {expr : Bool} {attr : Option Value} {v : Value} (F : Fr h₀ L s.heap m) (X : (hd.heap_39 w.params).In h₀)
    (ho : s.heap.get? x = some o) (hcl : o.cls = .ref C) (hno : notCls o = true) (hdi : o.dict = some d) (hdn : Names s.heap d f)
    (hga : findIn (hd.heap_39 w.params) (.ref C) "__getattribute__" = some (some (.builtin "BaseException.__getattribute__"))) (hgh : findIn (hd.heap_39 w.params) (.ref C) "__getattr__" = some none) (hs : subIn (hd.heap_39 w.params) (.ref C) (.type "BaseException") = some true)
    (hh : hasDictIn (hd.heap_39 w.params) C = true) (ha : findIn (hd.heap_39 w.params) (.ref C) name = some attr) (hn : noGet (hd.heap_39 w.params) attr = true)
    (hv : f name = some v) (hi : handedIn v = true) (h : Q v { s with toks := s.toks + 1 }) : wpAny (model PySem.Challenge.rw_vk0009_01.row.prog w) A (getAttr (.ref x) name expr) Q E s := by
  obtain ⟨es, n, h1, h2⟩ := hdn
  exact get_valueE (X.keeps F.keep) (ox := o) (C := C) (od := some (dictOf es n)) ⟨ho, hcl, hno, by rw [hdi]; exact h1⟩ hga hgh hs (findObj_own hh ha hn ((h2.1 name).trans (congrArg some hv))) hi h
end
end Mine
namespace Mine
theorem fresh_X0 : True := by
  w_top off
  trivial
end Mine
-- part I0
namespace Mine
section
variable {w : World} {A : Around} {h₀ : Heap} {L : Addr} {m : Str → Option Value} {s : Shared} {Q : Value → Shared → Prop} {E : Value → Shared → Prop}
theorem iter_dict {d : Addr} {kvs : List (Ky × Value)} (hd : s.heap.DictOf (kyKind prg w) d kvs) (lo : (d == sysModules) = false)
    (h : ∀ (I : Addr) h' ep, Kept [] s.heap h' → s.heap.objs.size ≤ I → h'.IsKeyIter I d 0 kvs.length ep → h'.DictAt (kyKind prg w) d kvs ep → Q (.ref I) { s with heap := h' }) :
    wpAny (model PySem.Challenge.rw_vk0009_01.row.prog w) A (call (.builtin "iter") [.ref d]) Q E s := by
  obtain ⟨ep, ha⟩ := hd.dictAt
  refine call_function_entry (by decide +kernel) (by decide +kernel) kdk_entry_iter (kdk_args_iter _) ?_
  unfold Builtin.«iter»
  refine wpAny_bind (m := someArgs "iter" 1 2 _) (wpAny_of_eq (a := [Value.ref d]) (by first | rfl | kernel_rfl!) ?_)
  show wpAny _ _ (pyIter (.ref d) >>= _) _ _ _
  refine wpAny_bind (wpAny_pyIter_dict lo ha ?_)
  exact wpAny_pure ⟨_, rfl, h _ _ ep (Kept.push _ _ _) (Nat.le_refl _) ⟨_, Heap.get?_push_size _ rfl, rfl, rfl⟩ (ha.push _)⟩
theorem iterm_spec {a : TA} {p : Option Value} {kvs : List (Ky × Value)} (H : Here w A h₀ L) (hdp : A.depth < 900) (hun : A.units < 9000) (F : Fr h₀ L s.heap m)
    (ho : s.heap.get? a.t = some (instObj 197 a.td)) (hd : Names s.heap a.td (treeNames a p)) (hc : s.heap.DictOf (kyKind prg w) a.tc kvs) (hlo : (a.tc == sysModules) = false)
    (ret : ∀ I h' tk' ep, Kept [] s.heap h' → s.heap.objs.size ≤ I → h'.IsKeyIter I a.tc 0 kvs.length ep → h'.DictAt (kyKind prg w) a.tc kvs ep → Q (.ref I) { s with heap := h', toks := tk' }) :
    wpAny (model PySem.Challenge.rw_vk0009_01.row.prog w) A (call (.ref 179) [.ref a.t]) Q E s := by
  have X := H.inK
  revert X; k_fill; intro X
  refine wpAny_call ?_
  refine' codeAny_mono (enter (R := Q) (E := E) H F News.nil ?k6 ?k7 ?k8 ?k9 ?kB ?kW ?c5 ?c2 ?c3 ?c4) ?kM
  case k6 => k_is
  case k7 => k_is
  case k8 => show A.depth < 1000; omega
  case k9 => exact BindsTo.of_eq rfl
  case kB => exact locs rfl
  case c5 => decide
  case c2 => exact rfl
  case c3 => exact rfl
  case c4 => exact rfl
  case kM => exact fun _ _ h => h
  case kW =>
    intro g' L' h' H' F' N' up down hL'
    obtain ⟨⟨A₀, base, outer, env, p, loose, mean, mg, mb, B', T', hfr, _⟩, X', hh'⟩ := id H'
    (with_reducible show wpAny _ _ _ _ _ _)
    (try k_fold)
    repeat' (((fail_if_success (with_reducible show wpAny _ _ (getAttr _ _ _) _ _ _))); first | (k_unfold; (try dsimp only)) | (k_end; wrow_close) | walk1 | (dsimp only; walk1) | (leave1; walk_say "STEP leave1"; try dsimp only) | fail "no step")
    rename Fr g' _ _ _ => Fc
    have keep : Kept [] g' _ := kept_F Fc
    have gs : ∀ b o, s.heap.get? b = some o → g'.get? b = some o := fun b o e => up b o (by simp) e
    refine get_contents Fc H'.inK (keep _ _ (by simp) (gs _ _ ho)) ((hd.kept (S := []) (fun b o _ e => gs b o e) (by simp)).kept keep (by simp)) ?_
    repeat' (((fail_if_success (with_reducible show wpAny _ _ (call (.builtin _) _) _ _ _))); first | (k_unfold; (try dsimp only)) | (k_end; wrow_close) | walk1 | (dsimp only; walk1) | (leave1; walk_say "STEP leave1"; try dsimp only) | fail "no step")
    rename Fr g' _ _ _ => Fc
    obtain ⟨mm, Fm⟩ : ∃ mm, Fr g' L' h' mm := ⟨_, Fc⟩
    have hcq : h'.DictOf (kyKind prg w) a.tc kvs := dictOf_kept (dictOf_kept hc (S := []) (fun b o _ e => gs b o e) (by simp)) (kept_F Fm) (by simp)
    refine iter_dict hcq hlo (fun I h5 ep k5 hI hki hda => ?_)
    have F5 := Fr.kept Fm k5 (by simp) (by simp)
    clear Fc
    k_steps
    all_goals (try dsimp only)
    all_goals (try k_unfold)
    all_goals (try dsimp only)
    all_goals refine Back.intro (by assumption) fun hk => ?_
    all_goals exact ret I _ _ ep hk (Nat.le_trans hL' (Nat.le_trans (Nat.le_of_lt Fm.ns.lt) hI)) hki hda
theorem tree_iter {a : TA} {p : Option Value} {kvs : List (Ky × Value)} (H : Here w A h₀ L) (hdp : A.depth < 890) (hun : A.units < 8900) (F : Fr h₀ L s.heap m)
    (ho : s.heap.get? a.t = some (instObj 197 a.td)) (hd : Names s.heap a.td (treeNames a p)) (hc : s.heap.DictOf (kyKind prg w) a.tc kvs) (hlo : (a.tc == sysModules) = false)
    (ret : ∀ I h' tk' ep, Kept [] s.heap h' → s.heap.objs.size ≤ I → h'.IsKeyIter I a.tc 0 kvs.length ep → h'.DictAt (kyKind prg w) a.tc kvs ep → Q (.ref I) { s with heap := h', toks := tk' }) :
    wpAny (model PySem.Challenge.rw_vk0009_01.row.prog w) A (pyIter (.ref a.t)) Q E s := by
  have X := H.inK
  obtain ⟨es, nn, I0, _⟩ := tree_inst ho hd
  revert X; k_fill; intro X
  refine' owit_iter F X I0 ?k1 ?k2 ?hh
  case k1 => k_is
  case k2 => k_is
  case hh =>
    refine iterm_spec H (by omega) (by omega) F ho hd hc hlo (fun I h' tk' ep k5 hI hki hda => ?_)
    unfold OwitIt
    exact wpAny_specialOf (name := Str.ofString "__next__") hki.typeIs PySem.F.slot_dict_keyiterator_next.lookup (ret I h' tk' ep k5 hI hki hda)
end
end Mine
namespace Mine
theorem fresh_I0 : True := by
  w_top off
  trivial
end Mine
-- part E0
namespace Mine
section
variable {w : World} {A : Around} {h₀ : Heap} {L : Addr} {m : Str → Option Value} {s : Shared} {Q : Value → Shared → Prop} {E : Value → Shared → Prop}
def kyD : Ky → PyData
  | .s x => .str x
  | .i n => .int n
def erD (e : Str × Str) : PyData := .tuple [.str e.1, .str e.2]
def TupAt (h : Heap) (v : Value) (e : Str × Str) : Prop := ∃ T t1 t2, v = .ref T ∧ h.IsTuple T #[.str e.1 t1, .str e.2 t2]
theorem TupAt.kept {h h' : Heap} {v : Value} {e : Str × Str} {S : List Addr} (x : TupAt h v e) (k : Kept S h h') (hn : ∀ T, v = .ref T → T ∉ S) : TupAt h' v e := by
  obtain ⟨T, t1, t2, rfl, o, ho, r⟩ := x
  exact ⟨T, t1, t2, rfl, o, k _ _ (hn T rfl) ho, r⟩
theorem tup_reads {h : Heap} {v : Value} {e : Str × Str} (x : TupAt h v e) : Reads h v (erD e) [] := by
  obtain ⟨T, t1, t2, rfl, o, ho, hc, n, hd⟩ := x
  exact Reads.tuple ho hc hd (.cons (.str _ _) (.cons (.str _ _) .nil))
theorem ky_reads {h : Heap} {v : Value} {k : Ky} (x : k.is v = true) : Reads h v (kyD k) [] := by
  rcases Ky.shape x with ⟨x, t, rfl, rfl⟩ | ⟨n, t, rfl, rfl⟩
  · exact .str _ _
  · exact .int _ _
theorem reads_all {α : Type} {h : Heap} (f : α → PyData) : ∀ (ys : List Value) (es : List α), ys.length = es.length → (∀ (i : Nat) (y : Value), ys[i]? = some y → ∃ e, es[i]? = some e ∧ Reads h y (f e) []) → ReadsAll h ys (es.map f) []
  | [], [], _, _ => .nil
  | [], _ :: _, e, _ => by simp at e
  | _ :: _, [], e, _ => by simp at e
  | y :: ys, e :: es, hl, hx => by
    obtain ⟨e', he', hr⟩ := hx 0 y rfl
    cases he'
    exact ReadsAll.cons (as := []) (bs := []) hr (reads_all f ys es (by simpa using hl) fun i y hi => hx (i + 1) y hi)
theorem kyD_ok : ∀ ks : List Ky, (∀ k ∈ ks, k.small) → PyData.canLayAll0 (ks.map kyD) = true ∧ PyData.depthAll (ks.map kyD) ≤ 1 ∧ PyData.eqvAll (ks.map kyD) (ks.map kyD) = true
  | [], _ => by simp [PyData.canLayAll0, PyData.depthAll, PyData.eqvAll]
  | k :: r, hk => by
    have ⟨h1, h2, h3⟩ := kyD_ok r fun x hx => hk x (.tail _ hx)
    have h4 := hk k (.head _)
    cases k <;> simp_all [kyD, Ky.small, PyData.canLayAll0, PyData.canLay0, PyData.depthAll, PyData.depth, PyData.eqvAll, PyData.eqv, h1, h2, h3]
theorem erD_ok : ∀ ks : List (Str × Str), (∀ e ∈ ks, PyData.strOk e.1 = true ∧ PyData.strOk e.2 = true) → PyData.canLayAll0 (ks.map erD) = true ∧ PyData.depthAll (ks.map erD) ≤ 5 ∧ PyData.eqvAll (ks.map erD) (ks.map erD) = true
  | [], _ => by simp [PyData.canLayAll0, PyData.depthAll, PyData.eqvAll]
  | k :: r, hk => by
    have ⟨h1, h2, h3⟩ := erD_ok r fun x hx => hk x (.tail _ hx)
    have ⟨h4, h5⟩ := hk k (.head _)
    have h6 : max 1 (PyData.depthAll (List.map erD r)) ≤ 5 := Nat.max_le.mpr ⟨by decide, h2⟩
    simp [erD, PyData.canLayAll0, PyData.canLay0, PyData.depthAll, PyData.depth, PyData.eqvAll, PyData.eqv, h1, h3, h4, h5, h6]
theorem ne_list {prog : Program} {a b : Addr} {ys zs : List Value} {ds : List PyData} (ha : s.heap.IsList a ys.toArray) (hb : s.heap.IsList b zs.toArray) (ra : ReadsAll s.heap ys ds []) (rb : ReadsAll s.heap zs ds []) (h1 : PyData.canLayAll0 ds = true) (h2 : PyData.depthAll ds ≤ 5)
    (h3 : PyData.eqvAll ds ds = true) (hu : A.units < 9000) (h : Q (.bool false) s) : wpAny (model prog w) A (compareOp .NotEq (.ref a) (.ref b)) Q E s := by
  obtain ⟨oa, ea, ca, na, da⟩ := ha
  obtain ⟨ob, eb, cb, nb, db⟩ := hb
  have hs : SeqAt.shaped (.list ds) = true := by
    unfold SeqAt.shaped
    simp only [PyData.canLay0, PyData.depth, h1, Bool.true_and]
    exact decide_eq_true (by omega)
  refine ne_dataH (Reads.list ea ca da (by simpa using ra)) (Reads.list eb cb db (by simpa using rb)) hs hs (by have : cLine = 9900 := rfl; omega) ?_
  rw [show PyData.eqv (.list ds) (.list ds) = true from h3]
  exact h
theorem ne_keys {prog : Program} {a b : Addr} {ys zs : List Value} {ks : List Ky} (ha : s.heap.IsList a ys.toArray) (hb : s.heap.IsList b zs.toArray) (hy : ys.length = ks.length) (hz : zs.length = ks.length)
    (ra : ∀ (i : Nat) (y : Value), ys[i]? = some y → ∃ k, ks[i]? = some k ∧ k.is y = true) (rb : ∀ (i : Nat) (y : Value), zs[i]? = some y → ∃ k, ks[i]? = some k ∧ k.is y = true) (hsm : ∀ k ∈ ks, k.small) (hu : A.units < 9000) (h : Q (.bool false) s) : wpAny (model prog w) A (compareOp .NotEq (.ref a) (.ref b)) Q E s :=
  ne_list ha hb (reads_all kyD ys ks hy fun i y e => let ⟨k, e, r⟩ := ra i y e; ⟨k, e, ky_reads r⟩) (reads_all kyD zs ks hz fun i y e => let ⟨k, e, r⟩ := rb i y e; ⟨k, e, ky_reads r⟩) (kyD_ok ks hsm).1 (Nat.le_trans (kyD_ok ks hsm).2.1 (by decide)) (kyD_ok ks hsm).2.2 hu h
theorem ne_told {prog : Program} {a b : Addr} {ys zs : List Value} {ks : List (Str × Str)} (ha : s.heap.IsList a ys.toArray) (hb : s.heap.IsList b zs.toArray) (hy : ys.length = ks.length) (hz : zs.length = ks.length)
    (ra : ∀ (i : Nat) (y : Value), ys[i]? = some y → ∃ k, ks[i]? = some k ∧ TupAt s.heap y k) (rb : ∀ (i : Nat) (y : Value), zs[i]? = some y → ∃ k, ks[i]? = some k ∧ TupAt s.heap y k) (hsm : ∀ e ∈ ks, PyData.strOk e.1 = true ∧ PyData.strOk e.2 = true) (hu : A.units < 9000) (h : Q (.bool false) s) : wpAny (model prog w) A (compareOp .NotEq (.ref a) (.ref b)) Q E s :=
  ne_list ha hb (reads_all erD ys ks hy fun i y e => let ⟨k, e, r⟩ := ra i y e; ⟨k, e, tup_reads r⟩) (reads_all erD zs ks hz fun i y e => let ⟨k, e, r⟩ := rb i y e; ⟨k, e, tup_reads r⟩) (erD_ok ks hsm).1 (erD_ok ks hsm).2.1 (erD_ok ks hsm).2.2 hu h
end
end Mine
namespace Mine
theorem fresh_E0 : True := by
  w_top off
  trivial
end Mine
-- part A0
namespace Mine
section
variable {w : World} {A : Around} {h₀ : Heap} {L : Addr} {m : Str → Option Value} {s : Shared} {Q : Value → Shared → Prop} {E : Value → Shared → Prop}
theorem get_er {a : Addr} {e : Er} {expr : Bool} (F : Fr h₀ L s.heap m) (X : (hd.heap_39 w.params).In h₀) (he : ErrAt s.heap a e) :
    ((h : ∀ t, Q (.str e.msg t) { s with toks := s.toks + 1 }) → wpAny (model PySem.Challenge.rw_vk0009_01.row.prog w) A (getAttr (.ref a) (Str.ofString "message") expr) Q E s) ∧
    ((h : ∀ t, Q (.str e.word t) { s with toks := s.toks + 1 }) → wpAny (model PySem.Challenge.rw_vk0009_01.row.prog w) A (getAttr (.ref a) (Str.ofString "validator") expr) Q E s) ∧
    ((h : ∀ st os n, s.heap.get? st = some os → os.cls = .ref 38 → os.data = .seq e.path.toArray n → notCls os = true → Q (.ref st) { s with toks := s.toks + 1 }) → wpAny (model PySem.Challenge.rw_vk0009_01.row.prog w) A (getAttr (.ref a) (Str.ofString "path") expr) Q E s) ∧
    ((hi : handedIn e.inst = true) → (h : Q e.inst { s with toks := s.toks + 1 }) → wpAny (model PySem.Challenge.rw_vk0009_01.row.prog w) A (getAttr (.ref a) (Str.ofString "instance") expr) Q E s) := by
  obtain ⟨o, d, f, st, os, t1, t2, n, h1, h2, h3, h4, h5, h6, h7, h8, h9, h10, h11, h12, h13⟩ := he.ex
  refine ⟨fun h => ?_, fun h => ?_, fun h => ?_, fun hi h => ?_⟩
  · revert X; k_fill; intro X
    refine' get_namesE F X h1 h2 h3 h4 h5 ?k1 ?k2 ?k3 ?k4 ?k5 ?k6 h6 rfl (h _)
    case k1 => k_is
    case k2 => k_is
    case k3 => k_is
    case k4 => k_is
    case k5 => k_is
    case k6 => k_is
  · revert X; k_fill; intro X
    refine' get_namesE F X h1 h2 h3 h4 h5 ?k1 ?k2 ?k3 ?k4 ?k5 ?k6 h7 rfl (h _)
    case k1 => k_is
    case k2 => k_is
    case k3 => k_is
    case k4 => k_is
    case k5 => k_is
    case k6 => k_is
  · revert X; k_fill; intro X
    refine' get_namesE F X h1 h2 h3 h4 h5 ?k1 ?k2 ?k3 ?k4 ?k5 ?k6 h8 rfl (h _ _ _ h10 h11 h12 h13)
    case k1 => k_is
    case k2 => k_is
    case k3 => k_is
    case k4 => k_is
    case k5 => k_is
    case k6 => k_is
  · revert X; k_fill; intro X
    refine' get_namesE F X h1 h2 h3 h4 h5 ?k1 ?k2 ?k3 ?k4 ?k5 ?k6 h9 hi h
    case k1 => k_is
    case k2 => k_is
    case k3 => k_is
    case k4 => k_is
    case k5 => k_is
    case k6 => k_is
theorem get_message {a : Addr} {e : Er} {expr : Bool} (F : Fr h₀ L s.heap m) (X : (hd.heap_39 w.params).In h₀) (he : ErrAt s.heap a e) (h : ∀ t, Q (.str e.msg t) { s with toks := s.toks + 1 }) :
    wpAny (model PySem.Challenge.rw_vk0009_01.row.prog w) A (getAttr (.ref a) (Str.ofString "message") expr) Q E s := (get_er F X he).1 h
theorem get_validator {a : Addr} {e : Er} {expr : Bool} (F : Fr h₀ L s.heap m) (X : (hd.heap_39 w.params).In h₀) (he : ErrAt s.heap a e) (h : ∀ t, Q (.str e.word t) { s with toks := s.toks + 1 }) :
    wpAny (model PySem.Challenge.rw_vk0009_01.row.prog w) A (getAttr (.ref a) (Str.ofString "validator") expr) Q E s := (get_er F X he).2.1 h
theorem get_path {a : Addr} {e : Er} {expr : Bool} (F : Fr h₀ L s.heap m) (X : (hd.heap_39 w.params).In h₀) (he : ErrAt s.heap a e)
    (h : ∀ st os n, s.heap.get? st = some os → os.cls = .ref 38 → os.data = .seq e.path.toArray n → notCls os = true → Q (.ref st) { s with toks := s.toks + 1 }) :
    wpAny (model PySem.Challenge.rw_vk0009_01.row.prog w) A (getAttr (.ref a) (Str.ofString "path") expr) Q E s := (get_er F X he).2.2.1 h
theorem get_instance {a : Addr} {e : Er} {expr : Bool} (F : Fr h₀ L s.heap m) (X : (hd.heap_39 w.params).In h₀) (he : ErrAt s.heap a e) (hi : handedIn e.inst = true) (h : Q e.inst { s with toks := s.toks + 1 }) :
    wpAny (model PySem.Challenge.rw_vk0009_01.row.prog w) A (getAttr (.ref a) (Str.ofString "instance") expr) Q E s := (get_er F X he).2.2.2 hi h
theorem Errs.at {h : Heap} {r : List (Str × Value)} {l : List (Str × Str)} (x : Errs h r l) : ∀ {i : Nat} {k : Str} {v : Value}, r[i]? = some (k, v) → ∃ a e, v = .ref a ∧ ErrAt h a e ∧ l[i]? = some (k, e.msg) := by
  induction x with
  | nil => intro i k v e; simp at e
  | @cons x a e r l he _ ih =>
    intro i k v hi
    cases i with
    | zero => cases hi; exact ⟨a, e, rfl, he, rfl⟩
    | succ i => exact ih hi
theorem Msgs.at {r : List (Str × Value)} {l : List (Str × Str)} (x : Msgs r l) : ∀ {i : Nat} {k : Str} {v : Value}, r[i]? = some (k, v) → ∃ y t, v = .str y t ∧ l[i]? = some (k, y) := by
  induction x with
  | nil => intro i k v e; simp at e
  | @cons x y t r l _ ih =>
    intro i k v hi
    cases i with
    | zero => cases hi; exact ⟨y, t, rfl, rfl⟩
    | succ i => exact ih hi
theorem all_true {prog : Program} {l : Addr} {ys : List Value} (hh : A.handled = none) (hl : s.heap.IsList l ys.toArray) (hv : ∀ (i : Nat) (y : Value), ys[i]? = some y → y = Value.bool true)
    (h : ∀ h' tk, Kept [] s.heap h' → Q (.bool true) { s with heap := h', toks := tk }) : wpAny (model prog w) A (call (.builtin "all") [.ref l]) Q E s := by
  have hlt : l < s.heap.objs.size := by obtain ⟨_, e, _⟩ := hl; exact Heap.lt_size e
  refine call_all_walk (wpAny_pyIter_list hl ?_)
  refine ⟨s.heap.objs.size, [s.heap.objs.size, l], [s.heap.objs.size], ys.toArray.size, _, _, fun i => true, rfl, Walks.list (A := A.in1) hh _ l (Nat.ne_of_lt hlt) ys.toArray,
    ⟨⟨_, Heap.get?_push_size _ rfl, rfl, rfl⟩, hl.push _⟩, fun i v s' Q' E' hP hQ => ?_, fun h' tk hk => ?_⟩
  · rw [hv i v (by simpa using hP)]
    exact wpAny_truthy_bool hQ
  · rw [show ((List.range ys.toArray.size).all fun i => true) = true by simp]
    exact h h' tk (fun b o _ e => hk b o (fun q => absurd (Heap.lt_size e) (by rw [List.mem_singleton.mp q]; exact Nat.lt_irrefl _)) (Heap.get?_push_of_some _ e))
/-- what the nodes' pieces are -/
def Pcs (w : World) (h : Heap) (n : Nat) (ar : Nat → Nd) : Prop := ∀ i < n, ∀ v, (ar i).piece = some v → ∃ sh, ShapeAt w h v sh
theorem Pcs.keptC {h h' : Heap} {n : Nat} {ar : Nat → Nd} (x : Pcs w h n ar) (k : KeepC h h') : Pcs w h' n ar := fun i hi v e => let ⟨sh, r⟩ := x i hi v e; ⟨sh, r.keptC k⟩
/-- keys and words can be told -/
def Clean (n : Nat) (ar : Nat → Nd) : Prop := ∀ i < n, (∀ kj ∈ (ar i).kids, kj.1.small) ∧ ∀ e ∈ (ar i).errs, PyData.strOk e.1 = true ∧ PyData.strOk e.2 = true
theorem errs_keys {K : Type} {ks : List (K × Value)} {i : Nat} {k : K} {v : Value} [DecidableEq K] (hn : (ks.map (·.1)).Nodup) (h : ks[i]? = some (k, v)) : valueAt ks k = some v := valueAt_of_get hn h
/-- where the made code can be seen -/
def HitL (news : List (Addr × Obj)) (g : Heap) : Prop := (news = [] ∧ Hit g) ∨ ∃ ps c, news = [(188, tabObj ps)] ∧ TriplesOk ps.toList ∧ codeAmong genPos ps.toList = some c
theorem HitL.mode {news : List (Addr × Obj)} {g h : Heap} (x : HitL news g) (k : ∀ b o, g.get? b = some o → h.get? b = some o) : Mode news h := by
  rcases x with ⟨e, x⟩ | ⟨ps, c, e, h1, _⟩
  · exact .inl ⟨e, x.keep k⟩
  · exact .inr ⟨ps, e, h1⟩
theorem HitL.hit {news : List (Addr × Obj)} {g h : Heap} {L' : Addr} (x : HitL news g) (k : ∀ b o, g.get? b = some o → h.get? b = some o) (N : News g L' h news) : Hit h := by
  rcases x with ⟨e, x⟩ | ⟨ps, c, rfl, h1, h2⟩
  · exact x.keep k
  · exact ⟨ps, c, (N _ (.head _)).1, h1, h2⟩
/-- after the first total the table is what it is -/
theorem Mode.after {news : List (Addr × Obj)} {g h h' : Heap} {L' : Addr} (x : Mode news h) (hh : Hit h') (N : News g L' h news) (kg : ∀ b o, g.get? b = some o → h'.get? b = some o) (kh : news = [] → Hit g) : ∃ news', news'.map (·.1) = news.map (·.1) ∧ HitL news' g ∧ News g L' h' news' := by
  rcases x with ⟨e, _⟩ | ⟨ps, e, _⟩
  · subst e; exact ⟨[], rfl, .inl ⟨rfl, kh rfl⟩, fun p hp => by cases hp⟩
  · subst e
    obtain ⟨ps', c, h8, ht, hc⟩ := hh
    refine ⟨[(188, tabObj ps')], rfl, .inr ⟨ps', c, rfl, ht, hc⟩, fun p hp => ?_⟩
    rw [List.mem_singleton.mp hp]
    exact ⟨h8, (N _ (.head _)).2⟩
end
end Mine
namespace Mine
theorem fresh_A0 : True := by
  w_top off
  trivial
end Mine
-- part A1
namespace Mine
section
variable {w : World} {A : Around} {h₀ : Heap} {L : Addr} {m : Str → Option Value} {s : Shared} {Q : Value → Shared → Prop} {E : Value → Shared → Prop}
/-- what a list of told errors holds -/
def ToldAt (es : List (Str × Str)) (S : List Addr) (j : Nat) (y : Value) (h : Heap) : Prop := ∃ e, es[j]? = some e ∧ TupAt h y e ∧ ∀ T, y = .ref T → T ∉ S
theorem ToldAt.kept {es : List (Str × Str)} {S S' : List Addr} {j : Nat} {y : Value} {h h' : Heap} (x : ToldAt es S j y h) (k : Kept S' h h') (hs : ∀ b ∈ S', b ∈ S) : ToldAt es S j y h' := by
  obtain ⟨e, h1, h2, h3⟩ := x
  exact ⟨e, h1, h2.kept k (fun T hT q => h3 T hT (hs T q)), h3⟩
theorem toldAt_push {h : Heap} {es : List (Str × Str)} {S : List Addr} {j : Nat} {e : Str × Str} {t1 t2 : Tok} (hS : ∀ b ∈ S, b < h.objs.size) (hj : es[j]? = some e) : ToldAt es S j (.ref h.objs.size) (h.push { cls := .type "tuple", data := .seq #[.str e.1 t1, .str e.2 t2] }) :=
  ⟨e, hj, ⟨_, t1, t2, rfl, _, Heap.get?_push_size _ rfl, rfl, _, rfl⟩, fun T q hm => by cases q; exact Nat.lt_irrefl _ (hS _ hm)⟩
def AlikeOk (w : World) (na : Nat → MA) (ta : Nat → TA) (ar : Nat → Nd) (n f i : Nat) : Prop := ∀ {A : Around} {h₀ : Heap} {L : Addr} {m : Str → Option Value} {s : Shared} {Q : Value → Shared → Prop} {E : Value → Shared → Prop} {news : List (Addr × Obj)} (H : Here w A h₀ L) (hdp : A.depth + 60 * f + 200 < 870) (hun : A.units + 600 * f + 2000 < 8700) (F : Fr h₀ L s.heap m)
    (N : News h₀ L s.heap news) (md : Mode news s.heap) (ht : Tre w s.heap n ta ar) (hm : Mod w s.heap n na ar) (hp : Pcs w s.heap n ar) (ret : ∀ s', Since (news.map (·.1)) s s' → Hit s'.heap → Q (.bool true) s'),
    wpAny (model PySem.Challenge.rw_vk0009_01.row.prog w) A (call (.ref 256) [.ref (ta i).t, .ref (na i).nd]) Q E s
def KeyAt (ks : List Ky) (j : Nat) (y : Value) : Prop := ∃ k, ks[j]? = some k ∧ k.is y = true
theorem keyAt_of {kids : List (Ky × Nat)} {f : Ky × Nat → Value} {j : Nat} {k : Ky} {xv kv : Value} (h : (kids.map fun kj => (kj.1, f kj))[j]? = some (k, xv)) (hk : k.is kv = true) : KeyAt (kids.map Prod.fst) j kv := by
  rw [List.getElem?_map] at h
  obtain ⟨kj, h1, h2⟩ := Option.map_eq_some_iff.mp h
  cases h2
  exact ⟨kj.1, by rw [List.getElem?_map, h1]; rfl, hk⟩
theorem getitem_any {a : TA} {kvs : List (Ky × Value)} {k : Ky} {kv cv : Value} {p : Option Value} (H : Here w A h₀ L) (hdp : A.depth < 880) (hun : A.units < 8800) (F : Fr h₀ L s.heap m)
    (ho : s.heap.get? a.t = some (instObj 197 a.td)) (hdn : Names s.heap a.td (treeNames a p)) (hc : s.heap.DictOf (kyKind prg w) a.tc kvs) (hlo : (a.tc == sysModules) = false) (hk : k.is kv = true)
    (hp : ∀ v, p = some v → ∃ sh, ShapeAt w s.heap v sh) (hin : valueAt kvs k = some cv) (hlen : kvs.length ≤ 1000)
    (ret : ∀ h' tk', Kept [] s.heap h' → Q cv { s with heap := h', toks := tk' }) :
    wpAny (model PySem.Challenge.rw_vk0009_01.row.prog w) A (call (.ref 172) [.ref a.t, kv]) Q E s := by
  cases p with
  | none => exact getitem_there0 H hdp hun F ho hdn hc hlo hk hin hlen ret
  | some v =>
    obtain ⟨sh, hv⟩ := hp v rfl
    exact getitem_there1 H hdp hun F ho hdn hc hlo hk hv hin hlen ret
theorem len_at {ta : Nat → TA} {ar : Nat → Nd} {n f i : Nat} (te : LenOk w ta ar n f i) {news : List (Addr × Obj)} (H : Here w A h₀ L) (hdp : A.depth + 40 * f + 10 < 870) (hun : A.units + 400 * f + 100 < 8700) (F : Fr h₀ L s.heap m)
    (N : News h₀ L s.heap news) (md : Mode news s.heap) (ht : Tre w s.heap n ta ar) (ret : ∀ t s', Since (news.map (·.1)) s s' → Hit s'.heap → Q (.int (tot ar f i : Nat) t) s') :
    wpAny (model PySem.Challenge.rw_vk0009_01.row.prog w) A (call (.builtin "len") [.ref (ta i).t]) Q E s := te H hdp hun F N md ht ret
theorem alike_at {na : Nat → MA} {ta : Nat → TA} {ar : Nat → Nd} {n f i : Nat} (te : AlikeOk w na ta ar n f i) {news : List (Addr × Obj)} (H : Here w A h₀ L) (hdp : A.depth + 60 * f + 200 < 870) (hun : A.units + 600 * f + 2000 < 8700) (F : Fr h₀ L s.heap m)
    (N : News h₀ L s.heap news) (md : Mode news s.heap) (ht : Tre w s.heap n ta ar) (hm : Mod w s.heap n na ar) (hp : Pcs w s.heap n ar) (ret : ∀ s', Since (news.map (·.1)) s s' → Hit s'.heap → Q (.bool true) s') :
    wpAny (model PySem.Challenge.rw_vk0009_01.row.prog w) A (call (.ref 256) [.ref (ta i).t, .ref (na i).nd]) Q E s := te H hdp hun F N md ht hm hp ret
theorem alike_step {na : Nat → MA} {ta : Nat → TA} {ar : Nat → Nd} {n f : Nat} (AR : Arena ar n) (CL : Clean n ar) (ih : ∀ j < n, 4 - (ar j).dep = f → AlikeOk w na ta ar n f j) (i : Nat) (hi : i < n) (hf : 4 - (ar i).dep = f + 1) : AlikeOk w na ta ar n (f + 1) i := by
  intro A h₀ L m s Q E news H hdp hun F N md ht hm hp ret
  have hf4 : f + 1 ≤ 4 := by omega
  have X := H.inK
  revert X; k_fill; intro X
  refine wpAny_call ?_
  refine' codeAny_mono (enterC (R := Q) (E := E) H F N ?k6 ?k7 ?k8 ?k9 ?kB ?kN ?kW ?c2 ?c3 ?c4) ?kM
  case k6 => k_is
  case k7 => k_is
  case k8 => show A.depth < 1000; omega
  case k9 => exact BindsTo.of_eq rfl
  case kB => exact rfl
  case kN => decide +kernel
  case c2 => exact rfl
  case c3 => exact rfl
  case c4 => exact rfl
  case kM => exact fun _ _ h => h
  case kW =>
    intro g' L' h' tk cells H' F' N' Y' up down hL' hnl
    obtain ⟨oc1, oc2, hcE, hc1, hc2⟩ := CellsAre.two Y'
    subst hcE
    (try simp only [List.cons_append, List.nil_append] at N')
    have ht1 := ht.keptC (md.up N up)
    have hm1 := hm.keptC (md.up N up)
    have hp1 := hp.keptC (md.up N up)
    have md1 := md.keep up
    obtain ⟨ekv, hde, hee⟩ := (ht1 i hi).e
    obtain ⟨mkv, hdm, hme⟩ := (hm1 i hi).e
    have hel := hee.len
    have hml := hme.len
    have he1000 := AR.errs i hi
    have hk1000 := AR.kids i hi
    obtain ⟨⟨A₀, base, outer, env, p, loose, mean, mg, mb, B', T', hfr, _⟩, X', hh'⟩ := id H'
    (with_reducible show wpAny _ _ _ _ _ _)
    (try k_fold)
    repeat' (((fail_if_success (with_reducible show wpAny _ _ (getAttr _ _ _) _ _ _)); (fail_if_success (with_reducible show wpAny _ _ (exec (Stmt.Assign _ (PySem.Expr.ListComp _ _ _ _) _) _) _ _ _))); first | (k_unfold; (try dsimp only)) | (k_end; wrow_close) | walk1 | (dsimp only; walk1) | (leave1; walk_say "STEP leave1"; try dsimp only) | fail "no step")
    refine' comp_JA ?csw ?cy ?cp ?cc ?cl ?ck ?cn ?cx ?ch ?cs
    case csw => with_unfolding_all rfl
    case cy => with_unfolding_all rfl
    case cp => with_unfolding_all rfl
    case cc => with_unfolding_all rfl
    case cl => decide
    case ck => with_unfolding_all rfl
    case cn => decide
    case cx => with_unfolding_all rfl
    case cs => intro _; with_unfolding_all rfl
    case ch =>
      repeat' (((fail_if_success (with_reducible show wpAny _ _ (getAttr _ _ _) _ _ _)); (fail_if_success (with_reducible show wpAny _ _ (pyIter _) _ _ _))); first | (k_unfold; (try dsimp only)) | (k_end; wrow_close) | walk1 | (dsimp only; walk1) | (leave1; walk_say "STEP leave1"; try dsimp only) | fail "no step")
      rename Fr g' _ _ _ => Fc
      refine get_errors Fc X' ((ht1 i hi).keptC (KeepC.ground Fc)).o ((ht1 i hi).keptC (KeepC.ground Fc)).d ?_
      repeat' (((fail_if_success (with_reducible show wpAny _ _ (pyIter _) _ _ _))); first | (k_unfold; (try dsimp only)) | (k_end; wrow_close) | walk1 | (dsimp only; walk1) | (leave1; walk_say "STEP leave1"; try dsimp only) | fail "no step")
      rename Fr g' _ _ _ => Fc
      rename News g' _ _ _ => Nc
      have hLq : L' < h'.objs.size := Fc.ns.lt
      refine comp_keys_q (knd := strKind prg w) hh' (ht1 i hi).lo.1 (dictOf_keptC hde (KeepC.ground Fc)) (by rw [sizeLine_eq]; omega) Fc Nc (fun s' => ∃ h tk, s' = { s with heap := h, toks := tk }) ⟨_, _, rfl⟩ (fun _ h tk ⟨_, _, e⟩ => ⟨h, tk, by rw [e]⟩) (fun C D I5 hC hD hCD => ?_)
      refine ⟨fun j y h => ToldAt (ar i).errs [L', C, D, I5] j y h, ?_, ?_, ?_⟩
      · rintro j y h h' x k
        exact x.kept k (fun b hb => .tail _ hb)
      · rintro j' kv k xv m₅ s₅ E' hj' hkv ⟨h5, tk5, rfl⟩ F5 N5 hns5 hmx5 hlow5
        obtain ⟨a5, e5, rfl, hea, hej⟩ := hee.at hj'
        obtain ⟨t5, rfl⟩ := Value.isStrOf_shape hkv
        have hL5 := F5.ns.lt
        repeat' (((fail_if_success (with_reducible show wpAny _ _ (getAttr _ _ _) _ _ _))); first | (k_unfold; (try dsimp only)) | (k_end; wrow_close) | walk1 | (dsimp only; walk1) | (leave1; walk_say "STEP leave1"; try dsimp only) | fail "no step")
        rename Fr g' _ _ _ => Fd
        refine get_errors Fd X' ((ht1 i hi).keptC (KeepC.ground Fd)).o ((ht1 i hi).keptC (KeepC.ground Fd)).d ?_
        repeat' (((fail_if_success (with_reducible show wpAny _ _ (getAttr _ _ _) _ _ _)); (fail_if_success (with_reducible show wpAny _ _ (subscriptTail _ _ _ _) _ _ _))); first | (k_unfold; (try dsimp only)) | (k_end; wrow_close) | walk1 | (dsimp only; walk1) | (leave1; walk_say "STEP leave1"; try dsimp only) | fail "no step")
        rename Fr g' _ _ _ => Fd
        refine sub_dict (knd := strKind prg w) (str_is _ _) (dictOf_keptC hde (KeepC.ground Fd)) (valueAt_of_get (let ⟨_, q⟩ := hde.dictAt; q.nodup) hj') ?_
        repeat' (((fail_if_success (with_reducible show wpAny _ _ (getAttr _ _ _) _ _ _))); first | (k_unfold; (try dsimp only)) | (k_end; wrow_close) | walk1 | (dsimp only; walk1) | (leave1; walk_say "STEP leave1"; try dsimp only) | fail "no step")
        rename Fr g' _ _ _ => Fd
        refine get_message Fd X' (hea.keptC (KeepC.ground Fd)) (fun tm => ?_)
        repeat' (((fail_if_success (with_reducible show wpAny _ _ (newTuple _) _ _ _))); first | (k_unfold; (try dsimp only)) | (k_end; wrow_close) | walk1 | (dsimp only; walk1) | (leave1; walk_say "STEP leave1"; try dsimp only) | fail "no step")
        refine wpAny_newObj_type ?_ (by show 2 ≤ sizeLine; rw [sizeLine_eq]; decide)
        refine ⟨toldAt_push (e := (k, e5.msg)) (fun b hb => ?_) hej, ⟨_, _, rfl⟩, Kept.push _ _ _⟩
        rcases List.mem_cons.mp hb with q | q
        · rw [q]; exact hL5
        · obtain ⟨o, e⟩ := hlow5 b q; exact Heap.lt_size e
      · rintro ys s₅ hlen5 hall5 ⟨h5, tk5, rfl⟩ F5 N5 hl5 ⟨cD, hp5⟩
        refine ⟨_, F5.ns, fun q => (Fr.fresh Fc hC).1 q.symm, fun h6 tk6 hns6 k6 => ?_⟩
        have k6 : Kept [L', C] h5 h6 := k6
        have hDf := Fr.fresh Fc hD
        have hCf := Fr.fresh Fc hC
        have F6 : Fr g' L' h6 _ := ⟨hns6, fun b o e => k6 b o (fun q => by
          rcases (by simpa using q : b = L' ∨ b = C) with q | q
          · rw [q, kts_self Fc] at e; cases e
          · rw [q, hCf.2] at e; cases e) (F5.keep b o e), Fc.above⟩
        have told6 : ∀ (j : Nat) (y : Value), ys[j]? = some y → ToldAt (ar i).errs [L', C, D, I5] j y h6 := fun j y e => (hall5 j y e).kept k6 (fun b hb => by
          rcases (by simpa using hb : b = L' ∨ b = C) with q | q
          · rw [q]; exact .head _
          · rw [q]; exact .tail _ (.head _))
        have hk6 : ∀ b o, b ≠ L' → b < h'.objs.size → h5.get? b = some o → h6.get? b = some o := fun b o h1 h2 e => k6 b o (fun q => by
          rcases (by simpa using q : b = L' ∨ b = C) with q | q
          · exact h1 q
          · exact absurd h2 (q ▸ Nat.not_lt.mpr hC)) e
        have N6 : News g' L' h6 ((L' + 1 + 1, oc1) :: (L' + 1, oc2) :: all g' L' h6) := News.cons (News.cons (news_all g' L' h6) (hk6 _ _ (Nc _ (.tail _ (.head _))).2.1 (Heap.lt_size (Nc _ (.tail _ (.head _))).1) (N5 _ (.tail _ (.head _))).1) (Nc _ (.tail _ (.head _))).2.1 (Nc _ (.tail _ (.head _))).2.2) (hk6 _ _ (Nc _ (.head _)).2.1 (Heap.lt_size (Nc _ (.head _)).1) (N5 _ (.head _)).1) (Nc _ (.head _)).2.1 (Nc _ (.head _)).2.2
        have N6n : ∀ p ∈ news, h6.get? p.1 = some p.2 ∧ p.1 ≠ L' ∧ g'.get? p.1 = none := fun p hp => ⟨hk6 _ _ (Nc p (.tail _ (.tail _ hp))).2.1 (Heap.lt_size (Nc p (.tail _ (.tail _ hp))).1) (N5 p (.tail _ (.tail _ hp))).1, (Nc p (.tail _ (.tail _ hp))).2⟩
        have hlD6 : h6.IsList D ys.toArray := ⟨_, k6 D _ (fun q => by
          rcases (by simpa using q : D = L' ∨ D = C) with q | q
          · exact hDf.1 q
          · exact hCD q.symm) hp5, rfl, _, rfl⟩
        have hkg6 := F6.keep
        obtain ⟨own, hown⟩ : ∃ own, own = all g' L' h6 := ⟨_, rfl⟩
        rw [← hown] at N6
        clear Fc Nc F5 N5
        repeat' (((fail_if_success (with_reducible show wpAny _ _ (eval (PySem.Expr.ListComp _ _ _ _) _) _ _ _))); first | (k_unfold; (try dsimp only)) | (k_end; wrow_close) | walk1 | (dsimp only; walk1) | (leave1; walk_say "STEP leave1"; try dsimp only) | fail "no step")
        refine' comp_J ?cc ?cl ?ck ?cn ?cx ?ch ?cs
        case cc => with_unfolding_all rfl
        case cl => decide
        case ck => with_unfolding_all rfl
        case cn => decide
        case cx => with_unfolding_all rfl
        case cs => intro _; with_unfolding_all rfl
        case ch =>
          repeat' (((fail_if_success (with_reducible show wpAny _ _ (subscriptTail _ _ _ _) _ _ _)); (fail_if_success (with_reducible show wpAny _ _ (pyIter _) _ _ _))); first | (k_unfold; (try dsimp only)) | (k_end; wrow_close) | walk1 | (dsimp only; walk1) | (leave1; walk_say "STEP leave1"; try dsimp only) | fail "no step")
          rename Fr g' _ _ _ => Fc
          refine sub_dict (knd := strKind prg w) (str_is _ _) (dictOf_keptC (hm1 i hi).d (KeepC.ground Fc)) (node_errors _) ?_
          repeat' (((fail_if_success (with_reducible show wpAny _ _ (pyIter _) _ _ _))); first | (k_unfold; (try dsimp only)) | (k_end; wrow_close) | walk1 | (dsimp only; walk1) | (leave1; walk_say "STEP leave1"; try dsimp only) | fail "no step")
          rename Fr g' _ _ _ => Fc
          rename News g' _ _ _ => Nc
          refine comp_keys_q (knd := strKind prg w) hh' (hm1 i hi).lo.2.1 (dictOf_keptC hdm (KeepC.ground Fc)) (by rw [sizeLine_eq]; omega) Fc Nc (fun s' => ∃ h tk, s' = { s with heap := h, toks := tk }) ⟨_, _, rfl⟩ (fun _ h tk ⟨_, _, e⟩ => ⟨h, tk, by rw [e]⟩) (fun C2 D2 I2 hC2 hD2 hCD2 => ?_)
          refine ⟨fun j y h => ToldAt (ar i).errs [L', C2, D2, I2] j y h, ?_, ?_, ?_⟩
          · rintro j y h h' x k
            exact x.kept k (fun b hb => .tail _ hb)
          · rintro j' kv k xv m₅ s₅ E' hj' hkv ⟨h5, tk5, rfl⟩ F5 N5 hns5 hmx5 hlow5
            obtain ⟨y5, t6, rfl, hej⟩ := hme.at hj'
            obtain ⟨t5, rfl⟩ := Value.isStrOf_shape hkv
            have hL5 := F5.ns.lt
            repeat' (((fail_if_success (with_reducible show wpAny _ _ (subscriptTail _ _ _ _) _ _ _))); first | (k_unfold; (try dsimp only)) | (k_end; wrow_close) | walk1 | (dsimp only; walk1) | (leave1; walk_say "STEP leave1"; try dsimp only) | fail "no step")
            rename Fr g' _ _ _ => Fd
            refine sub_dict (knd := strKind prg w) (str_is _ _) (dictOf_keptC (hm1 i hi).d (KeepC.ground Fd)) (node_errors _) ?_
            repeat' (((fail_if_success (with_reducible show wpAny _ _ (subscriptTail _ _ _ _) _ _ _))); first | (k_unfold; (try dsimp only)) | (k_end; wrow_close) | walk1 | (dsimp only; walk1) | (leave1; walk_say "STEP leave1"; try dsimp only) | fail "no step")
            rename Fr g' _ _ _ => Fd
            refine sub_dict (knd := strKind prg w) (str_is _ _) (dictOf_keptC hdm (KeepC.ground Fd)) (valueAt_of_get (let ⟨_, q⟩ := hdm.dictAt; q.nodup) hj') ?_
            repeat' (((fail_if_success (with_reducible show wpAny _ _ (newTuple _) _ _ _))); first | (k_unfold; (try dsimp only)) | (k_end; wrow_close) | walk1 | (dsimp only; walk1) | (leave1; walk_say "STEP leave1"; try dsimp only) | fail "no step")
            refine wpAny_newObj_type ?_ (by show 2 ≤ sizeLine; rw [sizeLine_eq]; decide)
            refine ⟨toldAt_push (e := (k, y5)) (fun b hb => ?_) hej, ⟨_, _, rfl⟩, Kept.push _ _ _⟩
            rcases List.mem_cons.mp hb with q | q
            · rw [q]; exact hL5
            · obtain ⟨o, e⟩ := hlow5 b q; exact Heap.lt_size e
          · rintro zs s₅ hlenz hallz ⟨h5, tk5, rfl⟩ F5 N5 hlz ⟨cD2, hpz⟩
            have k67 := kept_all' hkg6 F5 (News.sub N5 fun p hp => .tail _ (.tail _ (hown ▸ hp)))
            clear Fc Nc
            repeat' (((fail_if_success (with_reducible show wpAny _ _ (compareOp _ _ _) _ _ _))); first | (k_unfold; (try dsimp only)) | (k_end; wrow_close) | walk1 | (dsimp only; walk1) | (leave1; walk_say "STEP leave1"; try dsimp only) | fail "no step")
            refine ne_told (ks := (ar i).errs) (isList_kept hlD6 k67 (by simpa using hDf.1)) hlz (by omega) (by omega) (fun j y e => ?_) (fun j y e => ?_) (CL i hi).2 (by show A.units + 3 < 9000; omega) ?_
            · obtain ⟨x, h1, h2, h3⟩ := (told6 j y e).kept k67 (fun b hb => by rw [List.mem_singleton.mp hb]; exact .head _)
              exact ⟨x, h1, h2⟩
            · obtain ⟨x, h1, h2, h3⟩ := hallz j y e
              exact ⟨x, h1, h2⟩
            have N7 : News g' L' h5 ((L' + 1 + 1, oc1) :: (L' + 1, oc2) :: news) := News.cons (News.cons (fun p hp => ⟨k67 _ _ (by simpa using (N6n p hp).2.1) (N6n p hp).1, (N6n p hp).2⟩) (N5 _ (.tail _ (.head _))).1 (N5 _ (.tail _ (.head _))).2.1 (N5 _ (.tail _ (.head _))).2.2) (N5 _ (.head _)).1 (N5 _ (.head _)).2.1 (N5 _ (.head _)).2.2
            clear N5
            repeat' (((fail_if_success (with_reducible show wpAny _ _ (getAttr _ _ _) _ _ _))); first | (k_unfold; (try dsimp only)) | (k_end; wrow_close) | walk1 | (dsimp only; walk1) | (leave1; walk_say "STEP leave1"; try dsimp only) | fail "no step")
            rename Fr g' _ _ _ => Fc
            rename News g' _ _ _ => Nc
            have kh1 : news = [] → Hit g' := fun hn => by
              rcases md1 with ⟨_, x⟩ | ⟨ps, e, _⟩
              · exact x
              · rw [e] at hn; cases hn
            have hnl' : ∀ b ∈ news.map (·.1), b < L' := fun b hb => by
              obtain ⟨p, hp, e⟩ := List.mem_map.mp hb
              exact e ▸ hnl p hp
            have hcl1 : ∀ b ∈ news.map (·.1), b ≠ L' + 1 + 1 ∧ b ≠ L' + 1 := fun b hb => ⟨Nat.ne_of_lt (Nat.lt_succ_of_lt (Nat.lt_succ_of_lt (hnl' b hb))), Nat.ne_of_lt (Nat.lt_succ_of_lt (hnl' b hb))⟩
            have md2 : Mode news _ := md1.keep fun b o _ e => Fc.keep b o e
            have Nn : News g' L' _ news := News.sub Nc fun p hp => .tail _ (.tail _ hp)
            refine prop_of (te_all AR (f + 1) i hi hf) hi H' (by show A.depth + 1 + 40 * (f + 1) < 870; omega) (by show A.units + 3 + 400 * (f + 1) + 20 < 8700; omega) Fc Nn md2 (ht1.keptC (KeepC.ground Fc)) (fun t8 s8 ha hh8 => ?_)
            have F8 := Fr.since Fc Nn ha
            obtain ⟨h8, tk8, gs8, rfl, k8, gr8⟩ := ha
            obtain ⟨news8, hn8, HL8, N8n⟩ := Mode.after (L' := L') md2 hh8 Nn F8.keep kh1
            have N8 : News g' L' h8 ((L' + 1 + 1, oc1) :: (L' + 1, oc2) :: news8) := News.cons (News.cons N8n (k8 _ _ (fun q => (hcl1 _ q).2 rfl) (Nc _ (.tail _ (.head _))).1) (Nc _ (.tail _ (.head _))).2.1 (Nc _ (.tail _ (.head _))).2.2) (k8 _ _ (fun q => (hcl1 _ q).1 rfl) (Nc _ (.head _)).1) (Nc _ (.head _)).2.1 (Nc _ (.head _)).2.2
            clear N8n Nn Fc Nc md2
            repeat' (((fail_if_success (with_reducible show wpAny _ _ (call (.ref 251) _) _ _ _)); (fail_if_success (with_reducible show wpAny _ _ (call (.builtin _) _) _ _ _))); first | (k_unfold; (try dsimp only)) | (k_end; wrow_close) | walk1 | (dsimp only; walk1) | (leave1; walk_say "STEP leave1"; try dsimp only) | fail "no step")
            rename Fr g' _ _ _ => Fc
            rename News g' _ _ _ => Nc
            refine total_spec AR (f + 1) i hi hf H' (by show A.depth + 1 + 10 * (f + 1) < 870; omega) (by show A.units + 3 + 100 * (f + 1) < 8700; omega) Fc (hm1.keptC (KeepC.ground Fc)) (fun t9 h9 tk9 k9 => ?_)
            have F9 := Fr.kept Fc k9 (by simp) (by simp)
            have N9 := News.kept Nc k9 (by simp)
            clear Fc Nc
            (try k_fold)
            repeat' (((fail_if_success (with_reducible show wpAny _ _ (call (.ref 251) _) _ _ _)); (fail_if_success (with_reducible show wpAny _ _ (call (.builtin _) _) _ _ _))); first | (k_unfold; (try dsimp only)) | (k_end; wrow_close) | walk1 | (dsimp only; walk1) | (leave1; walk_say "STEP leave1"; try dsimp only) | fail "no step")
            · exact absurd rfl ‹((tot ar (f + 1) i : Nat) : Int) ≠ ((tot ar (f + 1) i : Nat) : Int)›
            rename Fr g' _ _ _ => Fc
            rename News g' _ _ _ => Nc
            have Nn : News g' L' _ news8 := News.sub Nc fun p hp => .tail _ (.tail _ hp)
            have kh8 : news8 = [] → Hit g' := fun hn => by
              rcases HL8 with ⟨_, x⟩ | ⟨ps, c, e, _⟩
              · exact x
              · rw [e] at hn; cases hn
            have hcl8 : ∀ b ∈ news8.map (·.1), b ≠ L' + 1 + 1 ∧ b ≠ L' + 1 := fun b hb => hcl1 b (hn8 ▸ hb)
            refine len_at (len_all AR (f + 1) i hi hf) H' (by show A.depth + 1 + 40 * (f + 1) + 10 < 870; omega) (by show A.units + 3 + 400 * (f + 1) + 100 < 8700; omega) Fc Nn (HL8.mode Fc.keep) (ht1.keptC (KeepC.ground Fc)) (fun t10 s10 ha hh10 => ?_)
            have F10 := Fr.since Fc Nn ha
            obtain ⟨h10, tk10, gs10, rfl, k10, gr10⟩ := ha
            obtain ⟨news10, hn10, HL10, N10n⟩ := Mode.after (L' := L') (HL8.mode Fc.keep) hh10 Nn F10.keep kh8
            have N10 : News g' L' h10 ((L' + 1 + 1, oc1) :: (L' + 1, oc2) :: news10) := News.cons (News.cons N10n (k10 _ _ (fun q => (hcl8 _ q).2 rfl) (Nc _ (.tail _ (.head _))).1) (Nc _ (.tail _ (.head _))).2.1 (Nc _ (.tail _ (.head _))).2.2) (k10 _ _ (fun q => (hcl8 _ q).1 rfl) (Nc _ (.head _)).1) (Nc _ (.head _)).2.1 (Nc _ (.head _)).2.2
            have gr := gr8.trans gr10
            clear N10n Nn Fc Nc hcl8 kh8
            (try k_fold)
            repeat' (((fail_if_success (with_reducible show wpAny _ _ (call (.ref 251) _) _ _ _)); (fail_if_success (with_reducible show wpAny _ _ (call (.builtin _) _) _ _ _))); first | (k_unfold; (try dsimp only)) | (k_end; wrow_close) | walk1 | (dsimp only; walk1) | (leave1; walk_say "STEP leave1"; try dsimp only) | fail "no step")
            rename Fr g' _ _ _ => Fc
            rename News g' _ _ _ => Nc
            refine total_spec AR (f + 1) i hi hf H' (by show A.depth + 1 + 10 * (f + 1) < 870; omega) (by show A.units + 3 + 100 * (f + 1) < 8700; omega) Fc (hm1.keptC (KeepC.ground Fc)) (fun t9b h9b tk9b k9b => ?_)
            have F9b := Fr.kept Fc k9b (by simp) (by simp)
            have N9b := News.kept Nc k9b (by simp)
            clear Fc Nc
            (try k_fold)
            repeat' (((fail_if_success (with_reducible show wpAny _ _ (eval (PySem.Expr.ListComp _ _ _ _) _) _ _ _))); first | (k_unfold; (try dsimp only)) | (k_end; wrow_close) | walk1 | (dsimp only; walk1) | (leave1; walk_say "STEP leave1"; try dsimp only) | fail "no step")
            · exact absurd rfl ‹((tot ar (f + 1) i : Nat) : Int) ≠ ((tot ar (f + 1) i : Nat) : Int)›
            refine' comp_J ?cc ?cl ?ck ?cn ?cx ?ch ?cs
            case cc => with_unfolding_all rfl
            case cl => decide
            case ck => with_unfolding_all rfl
            case cn => decide
            case cx => with_unfolding_all rfl
            case cs => intro _; with_unfolding_all rfl
            case ch =>
              repeat' (((fail_if_success (with_reducible show wpAny _ _ (pyIter _) _ _ _))); first | (k_unfold; (try dsimp only)) | (k_end; wrow_close) | walk1 | (dsimp only; walk1) | (leave1; walk_say "STEP leave1"; try dsimp only) | fail "no step")
              rename Fr g' _ _ _ => Fc
              rename News g' _ _ _ => Nc
              have hti := ht1 i hi
              refine tree_iter H' (by show A.depth + 1 < 890; omega) (by show A.units + 3 < 8900; omega) Fc (hti.keptC (KeepC.ground Fc)).o (hti.keptC (KeepC.ground Fc)).d (hti.keptC (KeepC.ground Fc)).k hti.lo.2 (fun I1 h11 tk11 ep k11 hI1 hki hda => ?_)
              have F11 := Fr.kept Fc k11 (by simp) (by simp)
              have N11 := News.kept Nc k11 (by simp)
              have hIf := Fr.fresh Fc hI1
              have hItc : (ta i).tc ≠ I1 := Nat.ne_of_lt (Nat.lt_of_lt_of_le (let ⟨_, _, _, e, _⟩ := (hti.keptC (KeepC.ground Fc)).k; Heap.lt_size e) hI1)
              refine compJ_q (knd := kyKind prg w) hh' hki hda hItc (by rw [sizeLine_eq]; simp; omega) F11 N11 hIf.2 hIf.1 (fun p hp => Nat.ne_of_lt (Nat.lt_of_lt_of_le (Heap.lt_size (Nc p hp).1) hI1)) (fun s' => ∃ h tk, s' = { s with heap := h, toks := tk, gens := gs10 }) ⟨_, _, rfl⟩ (fun _ h tk ⟨_, _, e⟩ => ⟨h, tk, by rw [e]⟩) (fun C1 D1 hC1 hD1 hCD1 => ?_)
              refine ⟨fun j y _ => KeyAt ((ar i).kids.map Prod.fst) j y, fun _ _ _ _ e _ => e, ?_, ?_⟩
              · rintro j' kv k xv m₅ s₅ E' hj' hkv ⟨h5, tk5, rfl⟩ F5 N5 hns5 hmx5 hlow5
                k_steps
                · exact keyAt_of hj' hkv
                · exact Kept.refl _ _
              · rintro ys1 s₅ hlen1 hall1 ⟨h5, tk5, rfl⟩ F5 N5 hl5 ⟨cD1, hp5⟩
                have hDf1 := Fr.fresh F11 hD1
                have N12 : News g' L' h5 ((D1, listOf ys1.toArray cD1) :: (L' + 1 + 1, oc1) :: (L' + 1, oc2) :: news10) := News.cons N5 hp5 hDf1.1 hDf1.2
                clear Fc Nc F11 N11 N5
                repeat' (((fail_if_success (with_reducible show wpAny _ _ (eval (PySem.Expr.ListComp _ _ _ _) _) _ _ _))); first | (k_unfold; (try dsimp only)) | (k_end; wrow_close) | walk1 | (dsimp only; walk1) | (leave1; walk_say "STEP leave1"; try dsimp only) | fail "no step")
                refine' comp_J ?cc ?cl ?ck ?cn ?cx ?ch ?cs
                case cc => with_unfolding_all rfl
                case cl => decide
                case ck => with_unfolding_all rfl
                case cn => decide
                case cx => with_unfolding_all rfl
                case cs => intro _; with_unfolding_all rfl
                case ch =>
                  repeat' (((fail_if_success (with_reducible show wpAny _ _ (subscriptTail _ _ _ _) _ _ _)); (fail_if_success (with_reducible show wpAny _ _ (pyIter _) _ _ _))); first | (k_unfold; (try dsimp only)) | (k_end; wrow_close) | walk1 | (dsimp only; walk1) | (leave1; walk_say "STEP leave1"; try dsimp only) | fail "no step")
                  rename Fr g' _ _ _ => Fc
                  refine sub_dict (knd := strKind prg w) (str_is _ _) (dictOf_keptC (hm1 i hi).d (KeepC.ground Fc)) (node_kids _) ?_
                  repeat' (((fail_if_success (with_reducible show wpAny _ _ (pyIter _) _ _ _))); first | (k_unfold; (try dsimp only)) | (k_end; wrow_close) | walk1 | (dsimp only; walk1) | (leave1; walk_say "STEP leave1"; try dsimp only) | fail "no step")
                  rename Fr g' _ _ _ => Fc
                  rename News g' _ _ _ => Nc
                  refine comp_keys_q (knd := kyKind prg w) hh' (hm1 i hi).lo.2.2 (dictOf_keptC (hm1 i hi).k (KeepC.ground Fc)) (by rw [sizeLine_eq]; simp; omega) Fc Nc (fun s' => ∃ h tk, s' = { s with heap := h, toks := tk, gens := gs10 }) ⟨_, _, rfl⟩ (fun _ h tk ⟨_, _, e⟩ => ⟨h, tk, by rw [e]⟩) (fun C2 D2 I2 hC2 hD2 hCD2 => ?_)
                  refine ⟨fun j y _ => KeyAt ((ar i).kids.map Prod.fst) j y, fun _ _ _ _ e _ => e, ?_, ?_⟩
                  · rintro j' kv k xv m₅ s₅ E' hj' hkv ⟨h5, tk5, rfl⟩ F5 N5 hns5 hmx5 hlow5
                    k_steps
                    · exact keyAt_of hj' hkv
                    · exact Kept.refl _ _
                  · rintro ys2 s₅ hlen2 hall2 ⟨h6, tk6, rfl⟩ F6 N6 hl6 _
                    clear Fc Nc
                    repeat' (((fail_if_success (with_reducible show wpAny _ _ (compareOp _ _ _) _ _ _))); first | (k_unfold; (try dsimp only)) | (k_end; wrow_close) | walk1 | (dsimp only; walk1) | (leave1; walk_say "STEP leave1"; try dsimp only) | fail "no step")
                    refine ne_keys (ks := (ar i).kids.map Prod.fst) ⟨_, News.get N6 (.head _), rfl, _, rfl⟩ hl6 (by simpa using hlen1) (by simpa using hlen2) (fun j y e => hall1 j y e) (fun j y e => hall2 j y e) (fun k hk => ?_) (by show A.units + 3 < 9000; omega) ?_
                    · obtain ⟨kj, h1, rfl⟩ := List.mem_map.mp hk
                      exact (CL i hi).1 kj h1
                    have N13 : News g' L' h6 ((L' + 1 + 1, oc1) :: (L' + 1, oc2) :: news10) := News.sub N6 fun p hp => .tail _ hp
                    clear N6
                    repeat' (((fail_if_success (with_reducible show wpAny _ _ (eval (PySem.Expr.ListComp _ _ _ _) _) _ _ _))); first | (k_unfold; (try dsimp only)) | (k_end; wrow_close) | walk1 | (dsimp only; walk1) | (leave1; walk_say "STEP leave1"; try dsimp only) | fail "no step")
                    refine' comp_J ?cc ?cl ?ck ?cn ?cx ?ch ?cs
                    case cc => with_unfolding_all rfl
                    case cl => decide
                    case ck => with_unfolding_all rfl
                    case cn => decide
                    case cx => with_unfolding_all rfl
                    case cs => intro _; with_unfolding_all rfl
                    case ch =>
                      repeat' (((fail_if_success (with_reducible show wpAny _ _ (subscriptTail _ _ _ _) _ _ _)); (fail_if_success (with_reducible show wpAny _ _ (pyIter _) _ _ _))); first | (k_unfold; (try dsimp only)) | (k_end; wrow_close) | walk1 | (dsimp only; walk1) | (leave1; walk_say "STEP leave1"; try dsimp only) | fail "no step")
                      rename Fr g' _ _ _ => Fc
                      refine sub_dict (knd := strKind prg w) (str_is _ _) (dictOf_keptC (hm1 i hi).d (KeepC.ground Fc)) (node_kids _) ?_
                      repeat' (((fail_if_success (with_reducible show wpAny _ _ (pyIter _) _ _ _))); first | (k_unfold; (try dsimp only)) | (k_end; wrow_close) | walk1 | (dsimp only; walk1) | (leave1; walk_say "STEP leave1"; try dsimp only) | fail "no step")
                      rename Fr g' _ _ _ => Fc
                      rename News g' _ _ _ => Nc
                      refine comp_keys_q (knd := kyKind prg w) hh' (hm1 i hi).lo.2.2 (dictOf_keptC (hm1 i hi).k (KeepC.ground Fc)) (by rw [sizeLine_eq]; simp; omega) Fc Nc (fun s' => ∃ h tk gs, s' = { s with heap := h, toks := tk, gens := gs } ∧ Grow s.gens gs) ⟨_, _, _, rfl, gr⟩ (fun _ h tk ⟨_, _, gs, e, g⟩ => ⟨h, tk, gs, by rw [e], g⟩) (fun C3 D3 I3 hC3 hD3 hCD3 => ?_)
                      refine ⟨fun _ y _ => y = .bool true, fun _ _ _ _ e _ => e, ?_, ?_⟩
                      · rintro j' kv k xv m₅ s₅ E' hj' hkv ⟨h5, tk5, gs5, rfl, g5⟩ F5 N5 hns5 hmx5 hlow5
                        obtain ⟨kj, hkj, rfl, rfl⟩ : ∃ kj, (ar i).kids[j']? = some kj ∧ kj.1 = k ∧ Value.ref (na kj.2).nd = xv := by
                          rw [List.getElem?_map] at hj'
                          obtain ⟨kj, h1, h2⟩ := Option.map_eq_some_iff.mp hj'
                          cases h2
                          exact ⟨kj, h1, rfl, rfl⟩
                        have hkid := AR.kid i hi kj (List.mem_of_getElem? hkj)
                        have hvm : valueAt ((ar i).kids.map fun kj => (kj.1, Value.ref (na kj.2).nd)) kj.1 = some (.ref (na kj.2).nd) := valueAt_of_get (let ⟨_, q⟩ := (hm1 i hi).k.dictAt; q.nodup) hj'
                        have hvt : valueAt ((ar i).kids.map fun kj => (kj.1, Value.ref (ta kj.2).t)) kj.1 = some (.ref (ta kj.2).t) := valueAt_of_get (let ⟨_, q⟩ := (ht1 i hi).k.dictAt; q.nodup) (by rw [List.getElem?_map, hkj]; rfl)
                        repeat' (((fail_if_success (with_reducible show wpAny _ _ (subscriptTail _ _ _ _) _ _ _))); first | (k_unfold; (try dsimp only)) | (k_end; wrow_close) | walk1 | (dsimp only; walk1) | (leave1; walk_say "STEP leave1"; try dsimp only) | fail "no step")
                        rename Fr g' _ _ _ => Fd
                        rename News g' _ _ _ => Nd
                        refine tree_sub Fd X' ((ht1 i hi).keptC (KeepC.ground Fd)).o ((ht1 i hi).keptC (KeepC.ground Fd)).d ?_
                        refine getitem_any H'.in1 (by show A.depth + 1 < 880; omega) (by first | (show A.units + 3 + 1 < 8800; omega) | (show A.units + 3 + 4 < 8800; omega)) Fd ((ht1 i hi).keptC (KeepC.ground Fd)).o ((ht1 i hi).keptC (KeepC.ground Fd)).d ((ht1 i hi).keptC (KeepC.ground Fd)).k (ht1 i hi).lo.2 hkv (fun v e => hp1.keptC (KeepC.ground Fd) i hi v e) hvt (by simpa using hk1000) (fun h6 tk6 k6 => ?_)
                        have F6 := Fr.kept Fd k6 (by simp) (by simp)
                        have N6 := News.kept Nd k6 (by simp)
                        have hns6 := hns5.at' fun o e => k6 C3 o (by simp) e
                        clear Fd Nd hns5
                        (try k_fold)
                        repeat' (((fail_if_success (with_reducible show wpAny _ _ (subscriptTail _ _ _ _) _ _ _))); first | (k_unfold; (try dsimp only)) | (k_end; wrow_close) | walk1 | (dsimp only; walk1) | (leave1; walk_say "STEP leave1"; try dsimp only) | fail "no step")
                        rename Fr g' _ _ _ => Fd
                        refine sub_dict (knd := strKind prg w) (str_is _ _) (dictOf_keptC (hm1 i hi).d (KeepC.ground Fd)) (node_kids _) ?_
                        repeat' (((fail_if_success (with_reducible show wpAny _ _ (subscriptTail _ _ _ _) _ _ _))); first | (k_unfold; (try dsimp only)) | (k_end; wrow_close) | walk1 | (dsimp only; walk1) | (leave1; walk_say "STEP leave1"; try dsimp only) | fail "no step")
                        rename Fr g' _ _ _ => Fd
                        refine sub_dict (knd := kyKind prg w) hkv (dictOf_keptC (hm1 i hi).k (KeepC.ground Fd)) hvm ?_
                        repeat' (((fail_if_success (with_reducible show wpAny _ _ (call (.ref 256) _) _ _ _))); first | (k_unfold; (try dsimp only)) | (k_end; wrow_close) | walk1 | (dsimp only; walk1) | (leave1; walk_say "STEP leave1"; try dsimp only) | fail "no step")
                        rename Fr g' _ _ _ => Fd
                        rename News g' _ _ _ => Nd
                        refine alike_at (ih kj.2 hkid.1 (by omega)) H' (by show A.depth + 1 + 60 * f + 200 < 870; omega) (by show A.units + 3 + 600 * f + 2000 < 8700; omega) Fd News.nil (.inl ⟨rfl, HL10.hit Fd.keep (News.sub Nd fun p hp => .tail _ (.tail _ hp))⟩) (ht1.keptC (KeepC.ground Fd)) (hm1.keptC (KeepC.ground Fd)) (hp1.keptC (KeepC.ground Fd)) (fun s7 ha hh7 => ?_)
                        obtain ⟨h7, tk7, gs7, rfl, k7, gr7⟩ := ha
                        (try k_unfold)
                        exact ⟨rfl, ⟨_, _, _, rfl, g5.trans gr7⟩, k6.trans k7⟩
                      · rintro ys3 s₅ hlen3 hall3 ⟨h5, tk5, gs5, rfl, g5⟩ F5 N5 hl5 _
                        clear Fc Nc
                        repeat' (((fail_if_success (with_reducible show wpAny _ _ (call (.builtin _) _) _ _ _))); first | (k_unfold; (try dsimp only)) | (k_end; wrow_close) | walk1 | (dsimp only; walk1) | (leave1; walk_say "STEP leave1"; try dsimp only) | fail "no step")
                        rename Fr g' _ _ _ => Fd
                        rename News g' _ _ _ => Nd
                        refine all_true hh' hl5 hall3 (fun h6 tk6 k6 => ?_)
                        have F6 := Fr.kept Fd k6 (by simp) (by simp)
                        have N6 := News.kept Nd k6 (by simp)
                        (try k_unfold)
                        (try dsimp only)
                        (try k_unfold)
                        (try dsimp only)
                        exact Back.intro F6 fun hk' => ret _ ⟨h6, _, gs5, rfl, hk', g5⟩ (HL10.hit F6.keep (News.sub N6 fun p hp => .tail _ (.tail _ hp)))
theorem alike_all {na : Nat → MA} {ta : Nat → TA} {ar : Nat → Nd} {n : Nat} (AR : Arena ar n) (CL : Clean n ar) : ∀ (f i : Nat), i < n → 4 - (ar i).dep = f → AlikeOk w na ta ar n f i
  | 0, i, hi, hf => by have := AR.dep i hi; omega
  | f + 1, i, hi, hf => alike_step AR CL (fun j hj hjf => alike_all AR CL f j hj hjf) i hi hf
end
end Mine
namespace Mine
theorem fresh_A1 : True := by
  w_top off
  trivial
end Mine
-- part M0
namespace Mine
section
variable {w : World} {A : Around} {h₀ : Heap} {L : Addr} {m : Str → Option Value} {s : Shared} {Q : Value → Shared → Prop} {E : Value → Shared → Prop}
abbrev Ars := (Nat → Nd) × Nat
def kidAt (l : List (Ky × Nat)) (k : Ky) : Option Nat := (l.find? fun kj => kj.1 = k).map (·.2)
theorem valueAt_kids (g : Nat → Value) (l : List (Ky × Nat)) (k : Ky) : valueAt (l.map fun kj => (kj.1, g kj.2)) k = (kidAt l k).map g := by
  unfold valueAt kidAt
  rw [List.find?_map]
  show Option.map _ (Option.map _ (List.find? (fun kj : Ky × Nat => decide (kj.1 = k)) l)) = _
  cases List.find? (fun kj : Ky × Nat => decide (kj.1 = k)) l <;> rfl
theorem kidAt_mem {l : List (Ky × Nat)} {k : Ky} {j : Nat} (h : kidAt l k = some j) : (k, j) ∈ l := by
  unfold kidAt at h
  obtain ⟨kj, h1, h2⟩ := Option.map_eq_some_iff.mp h
  have h3 := List.find?_some h1
  have h4 : kj.1 = k := of_decide_eq_true h3
  have h5 := List.mem_of_find?_eq_some h1
  subst h4; subst h2; exact h5
def storedE (l : List (Str × Str)) (x y : Str) : List (Str × Str) := if l.any (fun e => e.1 = x) then l.map (fun e => if e.1 = x then (e.1, y) else e) else l ++ [(x, y)]
theorem storedE_len (l : List (Str × Str)) (x y : Str) : (storedE l x y).length ≤ l.length + 1 := by
  unfold storedE
  split
  · rw [List.length_map]; omega
  · simp
theorem storedE_mem {l : List (Str × Str)} {x y : Str} {e : Str × Str} (h : e ∈ storedE l x y) : e = (x, y) ∨ e ∈ l := by
  unfold storedE at h
  split at h
  · obtain ⟨e', hm, q⟩ := List.mem_map.mp h
    by_cases hx : e'.1 = x
    · rw [if_pos hx] at q; left; rw [← q, hx]
    · rw [if_neg hx] at q; right; rw [← q]; exact hm
  · rcases List.mem_append.mp h with h | h
    · exact .inr h
    · exact .inl (List.mem_singleton.mp h)
theorem Msgs.any {r : List (Str × Value)} {l : List (Str × Str)} (h : Msgs r l) (x : Str) : r.any (fun e => e.1 = x) = l.any (fun e => e.1 = x) := by
  induction h with
  | nil => rfl
  | cons _ ih => simp only [List.any_cons, ih]
theorem Msgs.map {r : List (Str × Value)} {l : List (Str × Str)} (h : Msgs r l) (x y : Str) (t : Tok) : Msgs (r.map fun kv => if kv.1 = x then (kv.1, Value.str y t) else kv) (l.map fun e => if e.1 = x then (e.1, y) else e) := by
  induction h with
  | nil => exact .nil
  | @cons x' y' t' r l _ ih =>
    simp only [List.map_cons]
    by_cases q : x' = x
    · rw [if_pos q, if_pos q]; exact .cons ih
    · rw [if_neg q, if_neg q]; exact .cons ih
theorem Msgs.snoc {r : List (Str × Value)} {l : List (Str × Str)} (h : Msgs r l) (x y : Str) (t : Tok) : Msgs (r ++ [(x, .str y t)]) (l ++ [(x, y)]) := by
  induction h with
  | nil => exact .cons .nil
  | cons _ ih => exact .cons ih
theorem Msgs.stored {r : List (Str × Value)} {l : List (Str × Str)} (h : Msgs r l) (x y : Str) (t : Tok) : Msgs (PySem.stored r x (.str y t)) (storedE l x y) := by
  unfold PySem.stored storedE
  rw [h.any x]
  split
  · exact h.map x y t
  · exact h.snoc x y t
theorem Errs.any {h : Heap} {r : List (Str × Value)} {l : List (Str × Str)} (q : Errs h r l) (x : Str) : r.any (fun e => e.1 = x) = l.any (fun e => e.1 = x) := by
  induction q with
  | nil => rfl
  | cons _ _ ih => simp only [List.any_cons, ih]
theorem Errs.map {h : Heap} {r : List (Str × Value)} {l : List (Str × Str)} (q : Errs h r l) (x : Str) {a : Addr} {e : Er} (he : ErrAt h a e) : Errs h (r.map fun kv => if kv.1 = x then (kv.1, Value.ref a) else kv) (l.map fun d => if d.1 = x then (d.1, e.msg) else d) := by
  induction q with
  | nil => exact .nil
  | @cons x' a' e' r l h1 _ ih =>
    simp only [List.map_cons]
    by_cases q : x' = x
    · rw [if_pos q, if_pos q]; exact .cons he ih
    · rw [if_neg q, if_neg q]; exact .cons h1 ih
theorem Errs.snoc {h : Heap} {r : List (Str × Value)} {l : List (Str × Str)} (q : Errs h r l) (x : Str) {a : Addr} {e : Er} (he : ErrAt h a e) : Errs h (r ++ [(x, .ref a)]) (l ++ [(x, e.msg)]) := by
  induction q with
  | nil => exact .cons he .nil
  | cons h1 _ ih => exact .cons h1 ih
theorem Errs.stored {h : Heap} {r : List (Str × Value)} {l : List (Str × Str)} (q : Errs h r l) (x : Str) {a : Addr} {e : Er} (he : ErrAt h a e) : Errs h (PySem.stored r x (.ref a)) (storedE l x e.msg) := by
  unfold PySem.stored storedE
  rw [q.any x]
  split
  · exact q.map x he
  · exact q.snoc x he

def stepTo (s : Ars) (i : Nat) (k : Ky) : Ars × Nat := match kidAt (s.1 i).kids k with
  | some j => (s, j)
  | none => ((fun j => if j = s.2 then Nd.nil ((s.1 i).dep + 1) else if j = i then { s.1 i with kids := (s.1 i).kids ++ [(k, s.2)] } else s.1 j, s.2 + 1), s.2)
def putErr (s : Ars) (i : Nat) (x y : Str) (u : Value) : Ars := (fun j => if j = i then { s.1 i with errs := storedE (s.1 i).errs x y, piece := some u } else s.1 j, s.2)
structure Row where
  ks : List Ky
  u : Value
  word : Str
  msg : Str
def walkTo (s : Ars) (i : Nat) : List Ky → Ars × Nat
  | [] => (s, i)
  | k :: ks => walkTo (stepTo s i k).1 (stepTo s i k).2 ks
def addRow (s : Ars) (r : Row) : Ars := putErr (walkTo s 0 r.ks).1 (walkTo s 0 r.ks).2 r.word r.msg r.u
def ar0 : Ars := (fun _ => Nd.nil 0, 1)
structure Ok (c : Nat) (s : Ars) : Prop where
  pos : 0 < s.2
  n : s.2 ≤ c + 1
  kid : ∀ i < s.2, ∀ kj ∈ (s.1 i).kids, kj.2 < s.2 ∧ (s.1 kj.2).dep = (s.1 i).dep + 1 ∧ kj.1.small
  dep : ∀ i < s.2, (s.1 i).dep ≤ 3
  kl : ∀ i < s.2, (s.1 i).kids.length ≤ c
  el : ∀ i < s.2, (s.1 i).errs.length ≤ c
  er : ∀ i < s.2, ∀ e ∈ (s.1 i).errs, PyData.strOk e.1 = true ∧ PyData.strOk e.2 = true
  d0 : (s.1 0).dep = 0
theorem Ok.arena {c : Nat} {s : Ars} (x : Ok c s) (hc : c ≤ 1000) : Arena s.1 s.2 :=
  ⟨fun i hi kj hk => ⟨(x.kid i hi kj hk).1, (x.kid i hi kj hk).2.1⟩, x.dep, fun i hi => Nat.le_trans (x.kl i hi) hc, fun i hi => Nat.le_trans (x.el i hi) hc⟩
theorem Ok.clean {c : Nat} {s : Ars} (x : Ok c s) : Clean s.2 s.1 := fun i hi => ⟨fun kj hk => (x.kid i hi kj hk).2.2, x.er i hi⟩
theorem Ok.mono {c c' : Nat} {s : Ars} (x : Ok c s) (h : c ≤ c') : Ok c' s :=
  ⟨x.pos, Nat.le_trans x.n (by omega), x.kid, x.dep, fun i hi => Nat.le_trans (x.kl i hi) h, fun i hi => Nat.le_trans (x.el i hi) h, x.er, x.d0⟩
theorem ok0 : Ok 0 ar0 := ⟨by decide, by decide, fun i hi kj hk => by simp [ar0, Nd.nil] at hk, fun i hi => by simp [ar0, Nd.nil], fun i hi => by simp [ar0, Nd.nil], fun i hi => by simp [ar0, Nd.nil], fun i hi e he => by simp [ar0, Nd.nil] at he, rfl⟩
structure StepOk (c : Nat) (s : Ars) (i : Nat) (k : Ky) : Prop where
  ok : Ok (c + 1) (stepTo s i k).1
  lt : (stepTo s i k).2 < (stepTo s i k).1.2
  dep : ((stepTo s i k).1.1 (stepTo s i k).2).dep = (s.1 i).dep + 1
  le : s.2 ≤ (stepTo s i k).1.2
theorem step_ok {c : Nat} {s : Ars} {i : Nat} {k : Ky} (x : Ok c s) (hi : i < s.2) (hk : k.small) (hd : (s.1 i).dep ≤ 2) : StepOk c s i k := by
  cases q : kidAt (s.1 i).kids k with
  | some j =>
    have e : stepTo s i k = (s, j) := by unfold stepTo; rw [q]
    have hm := x.kid i hi _ (kidAt_mem q)
    refine ⟨?_, ?_, ?_, ?_⟩
    · rw [e]; exact x.mono (Nat.le_succ _)
    · rw [e]; exact hm.1
    · rw [e]; exact hm.2.1
    · rw [e]; exact Nat.le_refl _
  | none =>
    have e : stepTo s i k = ((fun j => if j = s.2 then Nd.nil ((s.1 i).dep + 1) else if j = i then { s.1 i with kids := (s.1 i).kids ++ [(k, s.2)] } else s.1 j, s.2 + 1), s.2) := by unfold stepTo; rw [q]
    have hin : i ≠ s.2 := Nat.ne_of_lt hi
    have a0 : ∀ j, j < s.2 → j ≠ i → (stepTo s i k).1.1 j = s.1 j := fun j hj hji => by rw [e]; show (if j = s.2 then _ else _) = _; rw [if_neg (Nat.ne_of_lt hj), if_neg hji]
    have a1 : (stepTo s i k).1.1 i = { s.1 i with kids := (s.1 i).kids ++ [(k, s.2)] } := by rw [e]; show (if i = s.2 then _ else _) = _; rw [if_neg hin, if_pos rfl]
    have a2 : (stepTo s i k).1.1 s.2 = Nd.nil ((s.1 i).dep + 1) := by rw [e]; show (if s.2 = s.2 then _ else _) = _; rw [if_pos rfl]
    have an : (stepTo s i k).1.2 = s.2 + 1 := by rw [e]
    have aj : (stepTo s i k).2 = s.2 := by rw [e]
    have adep : ∀ j, j < s.2 → ((stepTo s i k).1.1 j).dep = (s.1 j).dep := fun j hj => by
      by_cases hji : j = i
      · rw [hji, a1]
      · rw [a0 j hj hji]
    refine ⟨⟨by rw [an]; omega, by rw [an]; have := x.n; omega, ?_, ?_, ?_, ?_, ?_, ?_⟩, by rw [an, aj]; omega, by rw [aj, a2]; rfl, by rw [an]; omega⟩
    · intro j hj kj hkj
      rw [an] at hj ⊢
      rcases Nat.lt_succ_iff_lt_or_eq.mp hj with hj | hj
      · by_cases hji : j = i
        · subst hji
          rw [a1] at hkj ⊢
          rcases List.mem_append.mp hkj with hkj | hkj
          · have := x.kid j hj kj hkj
            exact ⟨by omega, by rw [adep _ this.1]; exact this.2.1, this.2.2⟩
          · rw [List.mem_singleton.mp hkj]
            exact ⟨by show s.2 < s.2 + 1; omega, by rw [a2]; rfl, hk⟩
        · rw [a0 j hj hji] at hkj ⊢
          have := x.kid j hj kj hkj
          exact ⟨by omega, by rw [adep _ this.1]; exact this.2.1, this.2.2⟩
      · rw [hj, a2] at hkj; simp [Nd.nil] at hkj
    · intro j hj
      rw [an] at hj
      rcases Nat.lt_succ_iff_lt_or_eq.mp hj with hj | hj
      · rw [adep j hj]; exact x.dep j hj
      · rw [hj, a2]; show (s.1 i).dep + 1 ≤ 3; omega
    · intro j hj
      rw [an] at hj
      rcases Nat.lt_succ_iff_lt_or_eq.mp hj with hj | hj
      · by_cases hji : j = i
        · rw [hji, a1]; simp; exact x.kl i hi
        · rw [a0 j hj hji]; exact Nat.le_succ_of_le (x.kl j hj)
      · rw [hj, a2]; simp [Nd.nil]
    · intro j hj
      rw [an] at hj
      rcases Nat.lt_succ_iff_lt_or_eq.mp hj with hj | hj
      · by_cases hji : j = i
        · rw [hji, a1]; exact Nat.le_succ_of_le (x.el i hi)
        · rw [a0 j hj hji]; exact Nat.le_succ_of_le (x.el j hj)
      · rw [hj, a2]; simp [Nd.nil]
    · intro j hj
      rw [an] at hj
      rcases Nat.lt_succ_iff_lt_or_eq.mp hj with hj | hj
      · by_cases hji : j = i
        · rw [hji, a1]; exact x.er i hi
        · rw [a0 j hj hji]; exact x.er j hj
      · rw [hj, a2]; intro e he; simp [Nd.nil] at he
    · rw [adep 0 x.pos]; exact x.d0
theorem put_ok {c : Nat} {s : Ars} {i : Nat} {a b : Str} {u : Value} (x : Ok c s) (hi : i < s.2) (ha : PyData.strOk a = true) (hb : PyData.strOk b = true) : Ok (c + 1) (putErr s i a b u) := by
  have a0 : ∀ j, j ≠ i → (putErr s i a b u).1 j = s.1 j := fun j hj => if_neg hj
  have a1 : (putErr s i a b u).1 i = { s.1 i with errs := storedE (s.1 i).errs a b, piece := some u } := if_pos rfl
  have ad : ∀ j, ((putErr s i a b u).1 j).dep = (s.1 j).dep := fun j => by
    by_cases h : j = i
    · rw [h, a1]
    · rw [a0 j h]
  have ak : ∀ j, ((putErr s i a b u).1 j).kids = (s.1 j).kids := fun j => by
    by_cases h : j = i
    · rw [h, a1]
    · rw [a0 j h]
  refine ⟨x.pos, Nat.le_succ_of_le x.n, fun j hj kj hkj => ?_, fun j hj => by rw [ad]; exact x.dep j hj, fun j hj => by rw [ak]; exact Nat.le_succ_of_le (x.kl j hj), fun j hj => ?_, fun j hj => ?_, by rw [ad]; exact x.d0⟩
  · rw [ak] at hkj
    rw [ad, ad]; exact x.kid j hj kj hkj
  · by_cases h : j = i
    · rw [h, a1]; exact Nat.le_trans (storedE_len _ _ _) (Nat.succ_le_succ (x.el i hi))
    · rw [a0 j h]; exact Nat.le_succ_of_le (x.el j hj)
  · by_cases h : j = i
    · rw [h, a1]; intro e he
      rcases storedE_mem he with q | q
      · rw [q]; exact ⟨ha, hb⟩
      · exact x.er i hi e q
    · rw [a0 j h]; exact x.er j hj
/-- the values that the nodes stand for -/
structure Gv (w : World) (σ : Heap) (v : Value) (s : Ars) (gv : Nat → Value) : Prop where
  kid : ∀ i < s.2, ∀ kj ∈ (s.1 i).kids, Child w σ (gv i) kj.1 (gv kj.2)
  piece : ∀ i < s.2, ∀ u, (s.1 i).piece = some u → u = gv i
  val : ∀ i < s.2, ∃ d, ValAt w σ d (gv i)
  g0 : gv 0 = v
theorem isList_det {σ : Heap} {a : Addr} {vs vs' : List Value} (hl : σ.IsList a vs.toArray) (hl' : σ.IsList a vs'.toArray) : vs = vs' := by
  obtain ⟨o, e, _, n, hd⟩ := hl
  obtain ⟨o', e', _, n', hd'⟩ := hl'
  rw [e] at e'; cases e'
  rw [hd] at hd'
  simpa using (Data.seq.inj hd').1
theorem dictOf_det {σ : Heap} {a : Addr} {kvs kvs' : List (Ky × Value)} (hd : σ.DictOf (kyKind prg w) a kvs) (hd' : σ.DictOf (kyKind prg w) a kvs') (k : Ky) : valueAt kvs k = valueAt kvs' k := by
  obtain ⟨o, es, ep, e, _, hdat, _, hf⟩ := hd.mapOf
  obtain ⟨o', es', ep', e', _, hdat', _, hf'⟩ := hd'.mapOf
  rw [e] at e'; cases e'
  rw [hdat] at hdat'
  cases hdat'
  rw [← hf k, ← hf' k]
theorem list_not_dict {σ : Heap} {a : Addr} {vs : List Value} {kvs : List (Ky × Value)} (hl : σ.IsList a vs.toArray) (hd : σ.DictOf (kyKind prg w) a kvs) : False := by
  obtain ⟨o, e, hc, _⟩ := hl
  obtain ⟨o', es, ep, e', hx, _⟩ := hd
  rw [e] at e'; cases e'
  rw [hx.1] at hc; exact absurd hc (by simp)
theorem Child.det {σ : Heap} {u c c' : Value} {k : Ky} (x : Child w σ u k c) (y : Child w σ u k c') : c = c' := by
  rcases x with ⟨a, vs, j, rfl, hl, hn, rfl, h0, hj⟩ | ⟨a, kvs, rfl, hd, hlo, hv⟩
  · rcases y with ⟨a', vs', j', e, hl', hn', e2, h0', hj'⟩ | ⟨a', kvs', e, hd', hlo', hv'⟩
    · cases e; cases e2
      rw [isList_det hl hl'] at hj
      rw [hj] at hj'; exact Option.some.inj hj'
    · cases e; exact (list_not_dict hl hd').elim
  · rcases y with ⟨a', vs', j', e, hl', hn', e2, h0', hj'⟩ | ⟨a', kvs', e, hd', hlo', hv'⟩
    · cases e; exact (list_not_dict hl' hd).elim
    · cases e
      rw [dictOf_det hd hd' k, hv'] at hv
      exact (Option.some.inj hv).symm
theorem valueAt_mem {kvs : List (Ky × Value)} {k : Ky} {c : Value} (h : valueAt kvs k = some c) : (k, c) ∈ kvs := by
  unfold valueAt at h
  obtain ⟨kj, h1, h2⟩ := Option.map_eq_some_iff.mp h
  have h3 := List.find?_some h1
  have h4 : kj.1 = k := of_decide_eq_true h3
  have h5 := List.mem_of_find?_eq_some h1
  subst h4; subst h2; exact h5
theorem Child.val {σ : Heap} {u c : Value} {k : Ky} (x : Child w σ u k c) {d : Nat} (h : ValAt w σ d u) : ∃ d', ValAt w σ d' c := by
  rcases x with ⟨a, vs, j, rfl, hl, hn, rfl, h0, hj⟩ | ⟨a, kvs, rfl, hd, hlo, hv⟩
  · rcases h.cases with ⟨n, t, e⟩ | ⟨d', a', ws, e, e2, hl', hw, hch⟩ | ⟨d', a', ws, e, e2, hl', hw, _, _, hch⟩
    · cases e
    · cases e2
      rw [isList_det hl hl'] at hj
      exact ⟨d', hch _ (List.mem_of_getElem? hj)⟩
    · cases e2; exact (list_not_dict hl hl').elim
  · rcases h.cases with ⟨n, t, e⟩ | ⟨d', a', ws, e, e2, hl', hw, hch⟩ | ⟨d', a', ws, e, e2, hl', hw, _, _, hch⟩
    · cases e
    · cases e2; exact (list_not_dict hl' hd).elim
    · cases e2
      rw [dictOf_det hd hl' k] at hv
      exact ⟨d', hch _ (valueAt_mem hv)⟩
theorem ValAt.shape {σ : Heap} {d : Nat} {v : Value} (h : ValAt w σ d v) : ∃ sh, ShapeAt w σ v sh := by
  rcases h.cases with ⟨n, t, e⟩ | ⟨d', a', ws, e, e2, hl', hw, hch⟩ | ⟨d', a', ws, e, e2, hl', hw, _, _, hch⟩
  · exact ⟨.int, n, t, e⟩
  · exact ⟨.list ws, a', e2, hl', by omega⟩
  · exact ⟨.dict ws, a', e2, hl', hw⟩
theorem Child.shape {σ : Heap} {u c : Value} {k : Ky} (x : Child w σ u k c) : ∃ sh, ShapeAt w σ u sh ∧ sh.lacks k = Str.ofString "" := by
  rcases x with ⟨a, vs, j, rfl, hl, hn, rfl, h0, hj⟩ | ⟨a, kvs, rfl, hd, hlo, hv⟩
  · refine ⟨.list vs, ⟨a, rfl, hl, hn⟩, ?_⟩
    have := (List.getElem?_eq_some_iff.mp hj).1
    show inPlace vs.length (Ky.i j) = _
    show (if j < vs.length ∧ -(vs.length : Int) ≤ j then Str.ofString "" else Str.ofString "place") = _
    exact if_pos ⟨by omega, by omega⟩
  · exact ⟨.dict kvs, ⟨a, rfl, hd, hlo⟩, by show (if (valueAt kvs k).isSome then _ else _) = _; rw [hv]; rfl⟩
theorem step_gv {σ : Heap} {v c : Value} {s : Ars} {gv : Nat → Value} {cc i : Nat} {k : Ky} (x : Gv w σ v s gv) (o : Ok cc s) (hi : i < s.2) (hc : Child w σ (gv i) k c) : ∃ gv', Gv w σ v (stepTo s i k).1 gv' ∧ gv' (stepTo s i k).2 = c ∧ ∀ j < s.2, gv' j = gv j := by
  cases q : kidAt (s.1 i).kids k with
  | some j =>
    have e : stepTo s i k = (s, j) := by unfold stepTo; rw [q]
    refine ⟨gv, by rw [e]; exact x, ?_, fun _ _ => rfl⟩
    rw [e]
    exact (x.kid i hi _ (kidAt_mem q)).det hc
  | none =>
    have e : stepTo s i k = ((fun j => if j = s.2 then Nd.nil ((s.1 i).dep + 1) else if j = i then { s.1 i with kids := (s.1 i).kids ++ [(k, s.2)] } else s.1 j, s.2 + 1), s.2) := by unfold stepTo; rw [q]
    have hin : i ≠ s.2 := Nat.ne_of_lt hi
    have a0 : ∀ j, j < s.2 → j ≠ i → (stepTo s i k).1.1 j = s.1 j := fun j hj hji => by rw [e]; show (if j = s.2 then _ else _) = _; rw [if_neg (Nat.ne_of_lt hj), if_neg hji]
    have a1 : (stepTo s i k).1.1 i = { s.1 i with kids := (s.1 i).kids ++ [(k, s.2)] } := by rw [e]; show (if i = s.2 then _ else _) = _; rw [if_neg hin, if_pos rfl]
    have a2 : (stepTo s i k).1.1 s.2 = Nd.nil ((s.1 i).dep + 1) := by rw [e]; show (if s.2 = s.2 then _ else _) = _; rw [if_pos rfl]
    have an : (stepTo s i k).1.2 = s.2 + 1 := by rw [e]
    have aj : (stepTo s i k).2 = s.2 := by rw [e]
    obtain ⟨gv', g0, g1⟩ : ∃ gv' : Nat → Value, (∀ j, j < s.2 → gv' j = gv j) ∧ gv' s.2 = c := ⟨fun j => if j = s.2 then c else gv j, fun j hj => if_neg (Nat.ne_of_lt hj), if_pos rfl⟩
    refine ⟨gv', ⟨?_, ?_, ?_, ?_⟩, by rw [aj]; exact g1, g0⟩
    · intro j hj kj hkj
      rw [an] at hj
      rcases Nat.lt_succ_iff_lt_or_eq.mp hj with hj | hj
      · rw [g0 j hj]
        by_cases hji : j = i
        · subst hji
          rw [a1] at hkj
          rcases List.mem_append.mp hkj with hkj | hkj
          · rw [g0 _ (o.kid j hj kj hkj).1]; exact x.kid j hj kj hkj
          · rw [List.mem_singleton.mp hkj]
            show Child w σ (gv j) k (gv' s.2)
            rw [g1]; exact hc
        · rw [a0 j hj hji] at hkj
          rw [g0 _ (o.kid j hj kj hkj).1]; exact x.kid j hj kj hkj
      · rw [hj, a2] at hkj; simp [Nd.nil] at hkj
    · intro j hj u hu
      rw [an] at hj
      rcases Nat.lt_succ_iff_lt_or_eq.mp hj with hj | hj
      · rw [g0 j hj]
        by_cases hji : j = i
        · subst hji; rw [a1] at hu; exact x.piece j hj u hu
        · rw [a0 j hj hji] at hu; exact x.piece j hj u hu
      · rw [hj, a2] at hu; cases hu
    · intro j hj
      rw [an] at hj
      rcases Nat.lt_succ_iff_lt_or_eq.mp hj with hj | hj
      · rw [g0 j hj]; exact x.val j hj
      · rw [hj, g1]
        obtain ⟨d, h⟩ := x.val i hi
        exact hc.val h
    · rw [g0 0 o.pos]; exact x.g0
theorem put_gv {σ : Heap} {v : Value} {s : Ars} {gv : Nat → Value} {i : Nat} {a b : Str} (x : Gv w σ v s gv) : Gv w σ v (putErr s i a b (gv i)) gv := by
  have a0 : ∀ j, j ≠ i → (putErr s i a b (gv i)).1 j = s.1 j := fun j hj => if_neg hj
  have a1 : (putErr s i a b (gv i)).1 i = { s.1 i with errs := storedE (s.1 i).errs a b, piece := some (gv i) } := if_pos rfl
  refine ⟨fun j hj kj hkj => ?_, fun j hj u hu => ?_, x.val, x.g0⟩
  · by_cases h : j = i
    · rw [h, a1] at hkj; rw [h]; exact x.kid i (h ▸ hj) kj hkj
    · rw [a0 j h] at hkj; exact x.kid j hj kj hkj
  · by_cases h : j = i
    · rw [h, a1] at hu; cases hu; rw [h]
    · rw [a0 j h] at hu; exact x.piece j hj u hu
theorem Gv.pcs {σ : Heap} {v : Value} {s : Ars} {gv : Nat → Value} (x : Gv w σ v s gv) : Pcs w σ s.2 s.1 := fun i hi u hu => by
  rw [x.piece i hi u hu]
  obtain ⟨d, h⟩ := x.val i hi
  exact h.shape
theorem Gv.kept {σ σ' : Heap} {v : Value} {s : Ars} {gv : Nat → Value} (x : Gv w σ v s gv) (k : ∀ b o, σ.get? b = some o → σ'.get? b = some o) : Gv w σ' v s gv :=
  ⟨fun i hi kj hk => (x.kid i hi kj hk).keptC fun b o _ e => k b o e, x.piece, fun i hi => let ⟨d, h⟩ := x.val i hi; ⟨d, h.keptC fun b o _ e => k b o e⟩, x.g0⟩
end
end Mine
namespace Mine
theorem fresh_M0 : True := by
  w_top off
  trivial
end Mine
-- part M1
namespace Mine
section
variable {w : World} {A : Around} {h₀ : Heap} {L : Addr} {m : Str → Option Value} {s : Shared} {Q : Value → Shared → Prop} {E : Value → Shared → Prop}
def Sub (σ h : Heap) : Prop := ∀ b o, σ.get? b = some o → h.get? b = some o
theorem Sub.kept {σ h h' : Heap} {S : List Addr} (x : Sub σ h) (k : Kept S h h') (hn : ∀ b ∈ S, σ.get? b = none) : Sub σ h' := fun b o e => k b o (fun q => by rw [hn b q] at e; cases e) (x b o e)
theorem Sub.none {σ h : Heap} (x : Sub σ h) {b : Addr} (e : h.get? b = none) : σ.get? b = none := by
  cases q : σ.get? b with
  | none => rfl
  | some o => rw [x b o q] at e; cases e
/-- where the new node is and which nodes stay -/
theorem stepTo_new {s : Ars} {i : Nat} {k : Ky} (hi : i < s.2) (q : kidAt (s.1 i).kids k = none) : (stepTo s i k).2 = s.2 ∧ (stepTo s i k).1.2 = s.2 + 1 ∧ (∀ j, j < s.2 → j ≠ i → (stepTo s i k).1.1 j = s.1 j) ∧
    (stepTo s i k).1.1 i = { s.1 i with kids := (s.1 i).kids ++ [(k, s.2)] } ∧ (stepTo s i k).1.1 s.2 = Nd.nil ((s.1 i).dep + 1) := by
  have e : stepTo s i k = ((fun j => if j = s.2 then Nd.nil ((s.1 i).dep + 1) else if j = i then { s.1 i with kids := (s.1 i).kids ++ [(k, s.2)] } else s.1 j, s.2 + 1), s.2) := by unfold stepTo; rw [q]
  refine ⟨by rw [e], by rw [e], fun j hj hji => ?_, ?_, ?_⟩
  · rw [e]; show (if j = s.2 then _ else _) = _; rw [if_neg (Nat.ne_of_lt hj), if_neg hji]
  · rw [e]; show (if i = s.2 then _ else _) = _; rw [if_neg (Nat.ne_of_lt hi), if_pos rfl]
  · rw [e]; show (if s.2 = s.2 then _ else _) = _; rw [if_pos rfl]
theorem stepTo_old {s : Ars} {i j : Nat} {k : Ky} (q : kidAt (s.1 i).kids k = some j) : stepTo s i k = (s, j) := by unfold stepTo; rw [q]

structure MOK (w : World) (g : Heap) (L' : Addr) (σ : Heap) (X : List Addr) (h : Heap) (s : Ars) (na : Nat → MA) : Prop where
  mod : Mod w h s.2 na s.1
  new : ∀ i < s.2, ∀ b ∈ (na i).fp, b ≠ L' ∧ g.get? b = none ∧ σ.get? b = none ∧ b ∉ X
  sep : ∀ i < s.2, ∀ j < s.2, ∀ b, b ∈ (na i).fp → b ∈ (na j).fp → i = j
  nod : ∀ i < s.2, (na i).fp.Nodup
theorem MOK.kept {g σ h h' : Heap} {L' : Addr} {X S : List Addr} {s : Ars} {na : Nat → MA} (x : MOK w g L' σ X h s na) (k : Kept S h h') (hn : ∀ i < s.2, ∀ b ∈ (na i).fp, b ∉ S) : MOK w g L' σ X h' s na :=
  ⟨x.mod.kept k hn, x.new, x.sep, x.nod⟩
theorem MOK.kept0 {g σ h h' : Heap} {L' : Addr} {X : List Addr} {s : Ars} {na : Nat → MA} (x : MOK w g L' σ X h s na) (k : Kept [] h h') : MOK w g L' σ X h' s na := x.kept k fun _ _ _ _ => by simp
theorem MOK.keptX {g σ h h' : Heap} {L' : Addr} {X : List Addr} {s : Ars} {na : Nat → MA} (x : MOK w g L' σ X h s na) (k : Kept (L' :: X) h h') : MOK w g L' σ X h' s na := x.kept k fun i hi b hb q => by
  rcases List.mem_cons.mp q with q | q
  · exact (x.new i hi b hb).1 q
  · exact (x.new i hi b hb).2.2.2 q
theorem MA.mem {a : MA} : a.nd ∈ a.fp ∧ a.ne ∈ a.fp ∧ a.nk ∈ a.fp ∧ a.np ∈ a.fp := by simp [MA.fp]
theorem ModAt.there {h : Heap} {na : Nat → MA} {a : MA} {n : Nd} (x : ModAt w h na a n) : ∀ b ∈ a.fp, ∃ o, h.get? b = some o := by
  intro b hb
  rcases (by simpa [MA.fp] using hb : b = a.nd ∨ b = a.ne ∨ b = a.nk ∨ b = a.np) with rfl | rfl | rfl | rfl
  · obtain ⟨o, _, _, e, _⟩ := x.d; exact ⟨o, e⟩
  · obtain ⟨_, ⟨o, _, _, e, _⟩, _⟩ := x.e; exact ⟨o, e⟩
  · obtain ⟨o, _, _, e, _⟩ := x.k; exact ⟨o, e⟩
  · obtain ⟨o, e, _⟩ := x.p; exact ⟨o, e⟩
theorem kids_eq {s : Ars} {f f' : Nat → Value} {l : List (Ky × Nat)} (hl : ∀ kj ∈ l, kj.2 < s.2) (hf : ∀ j < s.2, f' j = f j) : (l.map fun kj => (kj.1, f' kj.2)) = l.map fun kj => (kj.1, f kj.2) := by
  refine List.map_congr_left fun kj hk => ?_
  rw [hf _ (hl kj hk)]
theorem MOK.grow {g σ h h' : Heap} {L' : Addr} {X : List Addr} {s : Ars} {na : Nat → MA} {i : Nat} {k : Ky} {b : MA} {c : Nat} (x : MOK w g L' σ X h s na) (hok : Ok c s) (hi : i < s.2) (q : kidAt (s.1 i).kids k = none)
    (hL : ∃ o, h.get? L' = some o) (hg : Sub g h) (hσ : Sub σ h) (hX : ∀ b ∈ X, ∃ o, h.get? b = some o)
    (hk : Kept [(na i).nk] h h') (hd : h'.DictOf (kyKind prg w) (na i).nk (((s.1 i).kids.map fun kj => (kj.1, Value.ref (na kj.2).nd)) ++ [(k, .ref b.nd)])) (hm : ModAt w h' (fun _ => b) b (Nd.nil 0)) (hnd : b.fp.Nodup) (hnew : ∀ y ∈ b.fp, h.get? y = none) :
    ∃ na', MOK w g L' σ X h' (stepTo s i k).1 na' ∧ (∀ j < s.2, na' j = na j) ∧ na' s.2 = b := by
  obtain ⟨e1, e2, e3, e4, e5⟩ := stepTo_new hi q
  obtain ⟨na', n0, n1⟩ : ∃ na' : Nat → MA, (∀ j, j < s.2 → na' j = na j) ∧ na' s.2 = b := ⟨fun j => if j = s.2 then b else na j, fun j hj => if_neg (Nat.ne_of_lt hj), if_pos rfl⟩
  have there : ∀ j < s.2, ∀ y ∈ (na j).fp, ∃ o, h.get? y = some o := fun j hj => (x.mod j hj).there
  have kk : ∀ j < s.2, ((s.1 j).kids.map fun kj => (kj.1, Value.ref (na' kj.2).nd)) = (s.1 j).kids.map fun kj => (kj.1, Value.ref (na kj.2).nd) := fun j hj => kids_eq (s := s) (f := fun j => Value.ref (na j).nd) (f' := fun j => Value.ref (na' j).nd) (fun kj hkj => (hok.kid j hj kj hkj).1) (fun j' hj' => by show Value.ref (na' j').nd = _; rw [n0 j' hj'])
  refine ⟨na', ⟨?_, ?_, ?_, ?_⟩, n0, n1⟩
  · intro j hj
    rw [e2] at hj
    rcases Nat.lt_succ_iff_lt_or_eq.mp hj with hj | hj
    · rw [n0 j hj]
      by_cases hji : j = i
      · subst hji
        rw [e4]
        have M := x.mod j hj
        have nn := x.nod j hj
        simp only [MA.fp, List.nodup_cons, List.mem_cons, List.not_mem_nil, or_false, not_or] at nn
        have w1 : ∀ y, y ≠ (na j).nk → y ∉ [(na j).nk] := fun y hy => by simpa using hy
        refine ⟨dictOf_kept M.d hk (w1 _ nn.1.2.1), let ⟨kvs, a1, a2⟩ := M.e; ⟨kvs, dictOf_kept a1 hk (w1 _ nn.2.1.1), a2⟩, ?_, isList_kept M.p hk (w1 _ (fun q => nn.2.2.1 q.symm)), M.lo⟩
        show h'.DictOf (kyKind prg w) (na j).nk (((s.1 j).kids ++ [(k, s.2)]).map fun kj => (kj.1, Value.ref (na' kj.2).nd))
        rw [List.map_append, kk j hj]
        show h'.DictOf (kyKind prg w) (na j).nk (((s.1 j).kids.map fun kj => (kj.1, Value.ref (na kj.2).nd)) ++ [(k, Value.ref (na' s.2).nd)])
        rw [n1]; exact hd
      · rw [e3 j hj hji]
        have M := (x.mod j hj).kept hk (fun y hy q => hji (x.sep j hj i hi y hy ((List.mem_singleton.mp q) ▸ MA.mem.2.2.1)))
        exact ⟨M.d, M.e, (kk j hj) ▸ M.k, M.p, M.lo⟩
    · rw [hj, n1, e5]
      exact ⟨hm.d, hm.e, hm.k, hm.p, hm.lo⟩
  · intro j hj y hy
    rw [e2] at hj
    rcases Nat.lt_succ_iff_lt_or_eq.mp hj with hj | hj
    · rw [n0 j hj] at hy; exact x.new j hj y hy
    · rw [hj, n1] at hy
      have hn := hnew y hy
      refine ⟨fun q => ?_, hg.none hn, hσ.none hn, fun q => ?_⟩
      · obtain ⟨o, e⟩ := hL; rw [← q, hn] at e; cases e
      · obtain ⟨o, e⟩ := hX y q; rw [hn] at e; cases e
  · intro j hj j' hj' y hy hy'
    rw [e2] at hj hj'
    rcases Nat.lt_succ_iff_lt_or_eq.mp hj with hj | hj
    · rcases Nat.lt_succ_iff_lt_or_eq.mp hj' with hj' | hj'
      · rw [n0 j hj] at hy; rw [n0 j' hj'] at hy'; exact x.sep j hj j' hj' y hy hy'
      · rw [n0 j hj] at hy; rw [hj', n1] at hy'
        obtain ⟨o, e⟩ := there j hj y hy; rw [hnew y hy'] at e; cases e
    · rcases Nat.lt_succ_iff_lt_or_eq.mp hj' with hj' | hj'
      · rw [n0 j' hj'] at hy'; rw [hj, n1] at hy
        obtain ⟨o, e⟩ := there j' hj' y hy'; rw [hnew y hy] at e; cases e
      · rw [hj, hj']
  · intro j hj
    rw [e2] at hj
    rcases Nat.lt_succ_iff_lt_or_eq.mp hj with hj | hj
    · rw [n0 j hj]; exact x.nod j hj
    · rw [hj, n1]; exact hnd
/-- a step of the model that is not refused -/
theorem mstep {σ : Heap} {X : List Addr} {ars : Ars} {na : Nat → MA} {i c : Nat} {k : Ky} {kv : Value} (H : Here w A h₀ L) (hdp : A.depth < 890) (hun : A.units < 8900) (F : Fr h₀ L s.heap m)
    (M : MOK w h₀ L σ X s.heap ars na) (O : Ok c ars) (hc : c ≤ 1000) (hi : i < ars.2) (hk : k.is kv = true) (hσ : Sub σ s.heap) (hX : ∀ b ∈ X, ∃ o, s.heap.get? b = some o)
    (hp : ∀ u, (ars.1 i).piece = some u → ∃ sh, ShapeAt w σ u sh ∧ (kidAt (ars.1 i).kids k = none → sh.lacks k = Str.ofString ""))
    (ret : ∀ na' t h' tk', Kept [(na i).nk] s.heap h' → MOK w h₀ L σ X h' (stepTo ars i k).1 na' → (∀ j < ars.2, na' j = na j) → (∀ j < (stepTo ars i k).1.2, ∀ y ∈ (na' j).fp, (j < ars.2 ∧ y ∈ (na j).fp) ∨ s.heap.get? y = none) → Q (.str (Str.ofString "") t) { s with heap := h', toks := tk' }) :
    wpAny (model PySem.Challenge.rw_vk0009_01.row.prog w) A (call (.ref 239) [.ref (na i).nd, kv]) Q E s := by
  have hv := valueAt_kids (fun j => Value.ref (na j).nd) (ars.1 i).kids k
  have hn := M.new i hi _ MA.mem.2.2.1
  cases q : kidAt (ars.1 i).kids k with
  | some j =>
    rw [q] at hv
    refine step_there H hdp hun F (M.mod i hi) hk (by rw [hv]; rfl) (fun t h' tk' k' => ret na t h' tk' (k'.mono (by simp)) ?_ (fun _ _ => rfl) ?_)
    · rw [stepTo_old q]; exact M.kept0 k'
    · rw [stepTo_old q]; exact fun j hj y hy => .inl ⟨hj, hy⟩
  | none =>
    rw [q] at hv
    have fin : ∀ (b : MA) t h' tk', Kept [(na i).nk] s.heap h' → h'.DictOf (kyKind prg w) (na i).nk (((ars.1 i).kids.map fun kj => (kj.1, Value.ref (na kj.2).nd)) ++ [(k, .ref b.nd)]) → ModAt w h' (fun _ => b) b (Nd.nil 0) → b.fp.Nodup → (∀ x ∈ b.fp, s.heap.get? x = none) → Q (.str (Str.ofString "") t) { s with heap := h', toks := tk' } := by
      intro b t h' tk' k1 k2 k3 k4 k5
      obtain ⟨na', a1, a2, a3⟩ := M.grow O hi q (let ⟨o, _, _, e, _⟩ := F.ns; ⟨o, e⟩) F.keep hσ hX k1 k2 k3 k4 k5
      exact ret na' t h' tk' k1 a1 a2 (by
        rw [(stepTo_new hi q).2.1]
        intro j hj y hy
        rcases Nat.lt_succ_iff_lt_or_eq.mp hj with hj | hj
        · rw [a2 j hj] at hy; exact .inl ⟨hj, hy⟩
        · rw [hj, a3] at hy; exact .inr (k5 y hy))
    cases hpc : (ars.1 i).piece with
    | none => exact step_new0 H hdp hun F (M.mod i hi) (M.nod i hi) hn.1 hn.2.1 hk (by rw [hv]; rfl) (Nat.le_trans (O.kl i hi) hc) hpc fin
    | some u =>
      obtain ⟨sh, h1, h2⟩ := hp u hpc
      exact step_new1 H hdp hun F (M.mod i hi) (M.nod i hi) hn.1 hn.2.1 hk (by rw [hv]; rfl) (Nat.le_trans (O.kl i hi) hc) hpc (h1.keptC fun b o _ e => hσ b o e) (fun a e q => by
        subst e
        have := hn.2.2.1
        rw [← q] at this
        cases sh with
        | int => obtain ⟨n, t, e⟩ := h1; cases e
        | list vs => obtain ⟨a', e, ⟨o, e', _⟩, _⟩ := h1; cases e; rw [this] at e'; cases e'
        | dict kvs => obtain ⟨a', e, ⟨o, _, _, e', _⟩, _⟩ := h1; cases e; rw [this] at e'; cases e') (h2 q) fin
/-- a step that is refused -/
theorem mhold {σ : Heap} {X : List Addr} {ars : Ars} {na : Nat → MA} {i : Nat} {k : Ky} {kv u : Value} {sh : Sh} (H : Here w A h₀ L) (hdp : A.depth < 890) (hun : A.units < 8900) (F : Fr h₀ L s.heap m)
    (M : MOK w h₀ L σ X s.heap ars na) (hi : i < ars.2) (hk : k.is kv = true) (hσ : Sub σ s.heap)
    (q : kidAt (ars.1 i).kids k = none) (hp : (ars.1 i).piece = some u) (hsh : ShapeAt w σ u sh) (hla : sh.lacks k ≠ Str.ofString "")
    (ret : ∀ t h' tk', Kept [] s.heap h' → Q (.str (sh.lacks k) t) { s with heap := h', toks := tk' }) :
    wpAny (model PySem.Challenge.rw_vk0009_01.row.prog w) A (call (.ref 239) [.ref (na i).nd, kv]) Q E s := by
  have hv := valueAt_kids (fun j => Value.ref (na j).nd) (ars.1 i).kids k
  rw [q] at hv
  exact step_hold H hdp hun F (M.mod i hi) hk (by rw [hv]; rfl) hp (hsh.keptC fun b o _ e => hσ b o e) hla ret
end
end Mine
namespace Mine
theorem fresh_M1 : True := by
  w_top off
  trivial
end Mine
-- part M2
namespace Mine
section
variable {w : World} {A : Around} {h₀ : Heap} {L : Addr} {m : Str → Option Value} {s : Shared} {Q : Value → Shared → Prop} {E : Value → Shared → Prop}
/-- a tree's node, its errors among what stands still -/
structure TreeS (w : World) (σ h : Heap) (ta : Nat → TA) (a : TA) (n : Nd) : Prop where
  o : h.get? a.t = some (instObj 197 a.td)
  d : Names h a.td (treeNames a n.piece)
  e : ∃ kvs, h.DictOf (strKind prg w) a.te kvs ∧ Errs σ kvs n.errs
  k : h.DictOf (kyKind prg w) a.tc (n.kids.map fun kj => (kj.1, .ref (ta kj.2).t))
  lo : (a.te == sysModules) = false ∧ (a.tc == sysModules) = false
theorem TreeS.tree {σ h : Heap} {ta : Nat → TA} {a : TA} {n : Nd} (x : TreeS w σ h ta a n) (hσ : Sub σ h) : TreeAt w h ta a n :=
  ⟨x.o, x.d, let ⟨kvs, h1, h2⟩ := x.e; ⟨kvs, h1, h2.kept fun b o _ e => hσ b o e⟩, x.k, x.lo⟩
theorem TreeS.kept {σ h h' : Heap} {ta : Nat → TA} {a : TA} {n : Nd} {S : List Addr} (x : TreeS w σ h ta a n) (k : Kept S h h') (hn : ∀ b ∈ a.fp, b ∉ S) : TreeS w σ h' ta a n :=
  ⟨k _ _ (hn _ (by simp [TA.fp])) x.o, x.d.kept k (hn _ (by simp [TA.fp])), let ⟨kvs, hd, hm⟩ := x.e; ⟨kvs, dictOf_kept hd k (hn _ (by simp [TA.fp])), hm⟩, dictOf_kept x.k k (hn _ (by simp [TA.fp])), x.lo⟩
theorem Errs.nil_of {h : Heap} {kvs : List (Str × Value)} (x : Errs h kvs []) : kvs = [] := by cases x; rfl
theorem TreeS.nil {σ h : Heap} {b : TA} {d : Nat} {ta : Nat → TA} (x : TreeAt w h (fun _ => b) b (Nd.nil 0)) : TreeS w σ h ta b (Nd.nil d) :=
  ⟨x.o, x.d, let ⟨kvs, h1, h2⟩ := x.e; ⟨kvs, h1, by rw [show kvs = [] from h2.nil_of]; exact .nil⟩, x.k, x.lo⟩
theorem TreeS.there {σ h : Heap} {ta : Nat → TA} {a : TA} {n : Nd} (x : TreeS w σ h ta a n) : ∀ b ∈ a.fp, ∃ o, h.get? b = some o := by
  intro b hb
  rcases (by simpa [TA.fp] using hb : b = a.t ∨ b = a.td ∨ b = a.te ∨ b = a.tc) with rfl | rfl | rfl | rfl
  · exact ⟨_, x.o⟩
  · obtain ⟨es, n, e, _⟩ := x.d; exact ⟨_, e⟩
  · obtain ⟨_, ⟨o, _, _, e, _⟩, _⟩ := x.e; exact ⟨o, e⟩
  · obtain ⟨o, _, _, e, _⟩ := x.k; exact ⟨o, e⟩
theorem TA.mem {a : TA} : a.t ∈ a.fp ∧ a.td ∈ a.fp ∧ a.te ∈ a.fp ∧ a.tc ∈ a.fp := by simp [TA.fp]
structure TOK (w : World) (g : Heap) (L' : Addr) (σ : Heap) (X : List Addr) (h : Heap) (s : Ars) (ta : Nat → TA) : Prop where
  tre : ∀ i < s.2, TreeS w σ h ta (ta i) (s.1 i)
  new : ∀ i < s.2, ∀ b ∈ (ta i).fp, b ≠ L' ∧ g.get? b = none ∧ σ.get? b = none ∧ b ∉ X
  sep : ∀ i < s.2, ∀ j < s.2, ∀ b, b ∈ (ta i).fp → b ∈ (ta j).fp → i = j
  nod : ∀ i < s.2, (ta i).fp.Nodup
theorem TOK.all {g σ h : Heap} {L' : Addr} {X : List Addr} {s : Ars} {ta : Nat → TA} (x : TOK w g L' σ X h s ta) (hσ : Sub σ h) : Tre w h s.2 ta s.1 := fun i hi => (x.tre i hi).tree hσ
theorem TOK.kept {g σ h h' : Heap} {L' : Addr} {X S : List Addr} {s : Ars} {ta : Nat → TA} (x : TOK w g L' σ X h s ta) (k : Kept S h h') (hn : ∀ i < s.2, ∀ b ∈ (ta i).fp, b ∉ S) : TOK w g L' σ X h' s ta :=
  ⟨fun i hi => (x.tre i hi).kept k (hn i hi), x.new, x.sep, x.nod⟩
theorem TOK.kept0 {g σ h h' : Heap} {L' : Addr} {X : List Addr} {s : Ars} {ta : Nat → TA} (x : TOK w g L' σ X h s ta) (k : Kept [] h h') : TOK w g L' σ X h' s ta := x.kept k fun _ _ _ _ => by simp
theorem TOK.keptX {g σ h h' : Heap} {L' : Addr} {X : List Addr} {s : Ars} {ta : Nat → TA} (x : TOK w g L' σ X h s ta) (k : Kept (L' :: X) h h') : TOK w g L' σ X h' s ta := x.kept k fun i hi b hb q => by
  rcases List.mem_cons.mp q with q | q
  · exact (x.new i hi b hb).1 q
  · exact (x.new i hi b hb).2.2.2 q
theorem TOK.grow {g σ h h' : Heap} {L' : Addr} {X : List Addr} {s : Ars} {ta : Nat → TA} {i : Nat} {k : Ky} {b : TA} {c : Nat} (x : TOK w g L' σ X h s ta) (hok : Ok c s) (hi : i < s.2) (q : kidAt (s.1 i).kids k = none)
    (hL : ∃ o, h.get? L' = some o) (hg : Sub g h) (hσ : Sub σ h) (hX : ∀ b ∈ X, ∃ o, h.get? b = some o)
    (hk : Kept [(ta i).tc] h h') (hd : h'.DictOf (kyKind prg w) (ta i).tc (((s.1 i).kids.map fun kj => (kj.1, Value.ref (ta kj.2).t)) ++ [(k, .ref b.t)])) (hm : TreeAt w h' (fun _ => b) b (Nd.nil 0)) (hnd : b.fp.Nodup) (hnew : ∀ y ∈ b.fp, h.get? y = none) :
    ∃ ta', TOK w g L' σ X h' (stepTo s i k).1 ta' ∧ (∀ j < s.2, ta' j = ta j) ∧ ta' s.2 = b := by
  obtain ⟨e1, e2, e3, e4, e5⟩ := stepTo_new hi q
  obtain ⟨ta', n0, n1⟩ : ∃ ta' : Nat → TA, (∀ j, j < s.2 → ta' j = ta j) ∧ ta' s.2 = b := ⟨fun j => if j = s.2 then b else ta j, fun j hj => if_neg (Nat.ne_of_lt hj), if_pos rfl⟩
  have there : ∀ j < s.2, ∀ y ∈ (ta j).fp, ∃ o, h.get? y = some o := fun j hj => (x.tre j hj).there
  have kk : ∀ j < s.2, ((s.1 j).kids.map fun kj => (kj.1, Value.ref (ta' kj.2).t)) = (s.1 j).kids.map fun kj => (kj.1, Value.ref (ta kj.2).t) := fun j hj => kids_eq (s := s) (f := fun j => Value.ref (ta j).t) (f' := fun j => Value.ref (ta' j).t) (fun kj hkj => (hok.kid j hj kj hkj).1) (fun j' hj' => by show Value.ref (ta' j').t = _; rw [n0 j' hj'])
  refine ⟨ta', ⟨?_, ?_, ?_, ?_⟩, n0, n1⟩
  · intro j hj
    rw [e2] at hj
    rcases Nat.lt_succ_iff_lt_or_eq.mp hj with hj | hj
    · rw [n0 j hj]
      by_cases hji : j = i
      · subst hji
        rw [e4]
        have M := x.tre j hj
        have nn := x.nod j hj
        simp only [TA.fp, List.nodup_cons, List.mem_cons, List.not_mem_nil, or_false, not_or] at nn
        have w1 : ∀ y, y ≠ (ta j).tc → y ∉ [(ta j).tc] := fun y hy => by simpa using hy
        refine ⟨hk _ _ (w1 _ nn.1.2.2) M.o, M.d.kept hk (w1 _ nn.2.1.2), let ⟨kvs, a1, a2⟩ := M.e; ⟨kvs, dictOf_kept a1 hk (w1 _ nn.2.2.1), a2⟩, ?_, M.lo⟩
        show h'.DictOf (kyKind prg w) (ta j).tc (((s.1 j).kids ++ [(k, s.2)]).map fun kj => (kj.1, Value.ref (ta' kj.2).t))
        rw [List.map_append, kk j hj]
        show h'.DictOf (kyKind prg w) (ta j).tc (((s.1 j).kids.map fun kj => (kj.1, Value.ref (ta kj.2).t)) ++ [(k, Value.ref (ta' s.2).t)])
        rw [n1]; exact hd
      · rw [e3 j hj hji]
        have M := (x.tre j hj).kept hk (fun y hy q => hji (x.sep j hj i hi y hy ((List.mem_singleton.mp q) ▸ TA.mem.2.2.2)))
        exact ⟨M.o, M.d, M.e, (kk j hj) ▸ M.k, M.lo⟩
    · rw [hj, n1, e5]
      exact TreeS.nil hm
  · intro j hj y hy
    rw [e2] at hj
    rcases Nat.lt_succ_iff_lt_or_eq.mp hj with hj | hj
    · rw [n0 j hj] at hy; exact x.new j hj y hy
    · rw [hj, n1] at hy
      have hn := hnew y hy
      refine ⟨fun q => ?_, hg.none hn, hσ.none hn, fun q => ?_⟩
      · obtain ⟨o, e⟩ := hL; rw [← q, hn] at e; cases e
      · obtain ⟨o, e⟩ := hX y q; rw [hn] at e; cases e
  · intro j hj j' hj' y hy hy'
    rw [e2] at hj hj'
    rcases Nat.lt_succ_iff_lt_or_eq.mp hj with hj | hj
    · rcases Nat.lt_succ_iff_lt_or_eq.mp hj' with hj' | hj'
      · rw [n0 j hj] at hy; rw [n0 j' hj'] at hy'; exact x.sep j hj j' hj' y hy hy'
      · rw [n0 j hj] at hy; rw [hj', n1] at hy'
        obtain ⟨o, e⟩ := there j hj y hy; rw [hnew y hy'] at e; cases e
    · rcases Nat.lt_succ_iff_lt_or_eq.mp hj' with hj' | hj'
      · rw [n0 j' hj'] at hy'; rw [hj, n1] at hy
        obtain ⟨o, e⟩ := there j' hj' y hy'; rw [hnew y hy] at e; cases e
      · rw [hj, hj']
  · intro j hj
    rw [e2] at hj
    rcases Nat.lt_succ_iff_lt_or_eq.mp hj with hj | hj
    · rw [n0 j hj]; exact x.nod j hj
    · rw [hj, n1]; exact hnd
theorem shape_ne {σ : Heap} {u : Value} {sh : Sh} {b : Addr} (h : ShapeAt w σ u sh) (hn : σ.get? b = none) : ∀ a, u = .ref a → a ≠ b := by
  rintro a rfl rfl
  cases sh with
  | int => obtain ⟨n, t, e⟩ := h; cases e
  | list vs => obtain ⟨a', e, ⟨o, e', _⟩, _⟩ := h; cases e; rw [hn] at e'; cases e'
  | dict kvs => obtain ⟨a', e, ⟨o, _, _, e', _⟩, _⟩ := h; cases e; rw [hn] at e'; cases e'
/-- tree[index], not refused -/
theorem tget {σ : Heap} {X : List Addr} {ars : Ars} {ta : Nat → TA} {i c : Nat} {k : Ky} {kv : Value} (H : Here w A h₀ L) (hdp : A.depth < 880) (hun : A.units < 8800) (F : Fr h₀ L s.heap m)
    (M : TOK w h₀ L σ X s.heap ars ta) (O : Ok c ars) (hc : c ≤ 1000) (hi : i < ars.2) (hk : k.is kv = true) (hsm : k.small) (hσ : Sub σ s.heap) (hX : ∀ b ∈ X, ∃ o, s.heap.get? b = some o)
    (hp : ∀ u, (ars.1 i).piece = some u → ∃ sh, ShapeAt w σ u sh ∧ (kidAt (ars.1 i).kids k = none → sh.lacks k = Str.ofString ""))
    (ret : ∀ ta' h' tk', Kept [(ta i).tc] s.heap h' → TOK w h₀ L σ X h' (stepTo ars i k).1 ta' → (∀ j < ars.2, ta' j = ta j) → (∀ j < (stepTo ars i k).1.2, ∀ y ∈ (ta' j).fp, (j < ars.2 ∧ y ∈ (ta j).fp) ∨ s.heap.get? y = none) → Q (.ref (ta' (stepTo ars i k).2).t) { s with heap := h', toks := tk' }) :
    wpAny (model PySem.Challenge.rw_vk0009_01.row.prog w) A (call (.ref 172) [.ref (ta i).t, kv]) Q E s := by
  have hv := valueAt_kids (fun j => Value.ref (ta j).t) (ars.1 i).kids k
  have hn := M.new i hi _ TA.mem.2.2.2
  have T := M.tre i hi
  have hlen : ((ars.1 i).kids.map fun kj => (kj.1, Value.ref (ta kj.2).t)).length ≤ 1000 := by rw [List.length_map]; exact Nat.le_trans (O.kl i hi) hc
  cases q : kidAt (ars.1 i).kids k with
  | some j =>
    rw [q] at hv
    have fin : ∀ h' tk', Kept [] s.heap h' → Q (.ref (ta j).t) { s with heap := h', toks := tk' } := fun h' tk' k' => by
      have := ret ta h' tk' (k'.mono (by simp)) (by rw [stepTo_old q]; exact M.kept0 k') (fun _ _ => rfl) (by rw [stepTo_old q]; exact fun j hj y hy => .inl ⟨hj, hy⟩)
      rw [stepTo_old q] at this; exact this
    refine getitem_any H hdp hun F T.o T.d T.k T.lo.2 hk (fun u e => ?_) hv hlen fin
    obtain ⟨sh, h1, _⟩ := hp u e
    exact ⟨sh, h1.keptC fun b o _ e => hσ b o e⟩
  | none =>
    rw [q] at hv
    have fin : ∀ (b : TA) h' tk', Kept [(ta i).tc] s.heap h' → h'.DictOf (kyKind prg w) (ta i).tc (((ars.1 i).kids.map fun kj => (kj.1, Value.ref (ta kj.2).t)) ++ [(k, .ref b.t)]) → TreeAt w h' (fun _ => b) b (Nd.nil 0) → b.fp.Nodup → (∀ x ∈ b.fp, s.heap.get? x = none) → Q (.ref b.t) { s with heap := h', toks := tk' } := by
      intro b h' tk' k1 k2 k3 k4 k5
      obtain ⟨ta', a1, a2, a3⟩ := M.grow O hi q (let ⟨o, _, _, e, _⟩ := F.ns; ⟨o, e⟩) F.keep hσ hX k1 k2 k3 k4 k5
      have := ret ta' h' tk' k1 a1 a2 (by
        rw [(stepTo_new hi q).2.1]
        intro j hj y hy
        rcases Nat.lt_succ_iff_lt_or_eq.mp hj with hj | hj
        · rw [a2 j hj] at hy; exact .inl ⟨hj, hy⟩
        · rw [hj, a3] at hy; exact .inr (k5 y hy))
      rw [(stepTo_new hi q).1, a3] at this
      exact this
    cases hpc : (ars.1 i).piece with
    | none => exact getitem_new0 H hdp hun F T.o (hpc ▸ T.d) T.k T.lo.2 hk (M.nod i hi) hn.1 hn.2.1 (by rw [hv]; rfl) hlen fin
    | some u =>
      obtain ⟨sh, h1, h2⟩ := hp u hpc
      exact getitem_new1 H hdp hun F T.o (hpc ▸ T.d) T.k T.lo.2 hk (h1.keptC fun b o _ e => hσ b o e) (shape_ne h1 hn.2.2.1) hsm (h2 q) (M.nod i hi) hn.1 hn.2.1 (by rw [hv]; rfl) hlen fin
/-- _law_read, not refused -/
theorem tread {σ : Heap} {X : List Addr} {ars : Ars} {ta : Nat → TA} {i c : Nat} {k : Ky} {kv : Value} (H : Here w A h₀ L) (hdp : A.depth < 870) (hun : A.units < 8700) (F : Fr h₀ L s.heap m)
    (M : TOK w h₀ L σ X s.heap ars ta) (O : Ok c ars) (hc : c ≤ 1000) (hi : i < ars.2) (hk : k.is kv = true) (hsm : k.small) (hσ : Sub σ s.heap) (hX : ∀ b ∈ X, ∃ o, s.heap.get? b = some o)
    (hp : ∀ u, (ars.1 i).piece = some u → ∃ sh, ShapeAt w σ u sh ∧ (kidAt (ars.1 i).kids k = none → sh.lacks k = Str.ofString ""))
    (ret : ∀ ta' t h' tk', Kept [(ta i).tc] s.heap h' → TOK w h₀ L σ X h' (stepTo ars i k).1 ta' → (∀ j < ars.2, ta' j = ta j) → (∀ j < (stepTo ars i k).1.2, ∀ y ∈ (ta' j).fp, (j < ars.2 ∧ y ∈ (ta j).fp) ∨ s.heap.get? y = none) → Q (.str (Str.ofString "") t) { s with heap := h', toks := tk' }) :
    wpAny (model PySem.Challenge.rw_vk0009_01.row.prog w) A (call (.ref 246) [.ref (ta i).t, kv]) Q E s := by
  have hv := valueAt_kids (fun j => Value.ref (ta j).t) (ars.1 i).kids k
  have hn := M.new i hi _ TA.mem.2.2.2
  have T := M.tre i hi
  have hlen : ((ars.1 i).kids.map fun kj => (kj.1, Value.ref (ta kj.2).t)).length ≤ 1000 := by rw [List.length_map]; exact Nat.le_trans (O.kl i hi) hc
  cases q : kidAt (ars.1 i).kids k with
  | some j =>
    rw [q] at hv
    have fin : ∀ t h' tk', Kept [] s.heap h' → Q (.str (Str.ofString "") t) { s with heap := h', toks := tk' } := fun t h' tk' k' =>
      ret ta t h' tk' (k'.mono (by simp)) (by rw [stepTo_old q]; exact M.kept0 k') (fun _ _ => rfl) (by rw [stepTo_old q]; exact fun j hj y hy => .inl ⟨hj, hy⟩)
    cases hpc : (ars.1 i).piece with
    | none => exact read_there0 H hdp hun F T.lo.2 hk hlen T.o T.k (hpc ▸ T.d) hv fin
    | some u =>
      obtain ⟨sh, h1, _⟩ := hp u hpc
      exact read_there1 H hdp hun F T.lo.2 hk hlen T.o T.k (hpc ▸ T.d) (h1.keptC fun b o _ e => hσ b o e) hv fin
  | none =>
    rw [q] at hv
    have fin : ∀ (b : TA) t h' tk', Kept [(ta i).tc] s.heap h' → h'.DictOf (kyKind prg w) (ta i).tc (((ars.1 i).kids.map fun kj => (kj.1, Value.ref (ta kj.2).t)) ++ [(k, .ref b.t)]) → TreeAt w h' (fun _ => b) b (Nd.nil 0) → b.fp.Nodup → (∀ x ∈ b.fp, s.heap.get? x = none) → Q (.str (Str.ofString "") t) { s with heap := h', toks := tk' } := by
      intro b t h' tk' k1 k2 k3 k4 k5
      obtain ⟨ta', a1, a2, a3⟩ := M.grow O hi q (let ⟨o, _, _, e, _⟩ := F.ns; ⟨o, e⟩) F.keep hσ hX k1 k2 k3 k4 k5
      exact ret ta' t h' tk' k1 a1 a2 (by
        rw [(stepTo_new hi q).2.1]
        intro j hj y hy
        rcases Nat.lt_succ_iff_lt_or_eq.mp hj with hj | hj
        · rw [a2 j hj] at hy; exact .inl ⟨hj, hy⟩
        · rw [hj, a3] at hy; exact .inr (k5 y hy))
    cases hpc : (ars.1 i).piece with
    | none => exact read_new0 H hdp hun F T.lo.2 hk hlen T.o T.k (hpc ▸ T.d) (M.nod i hi) hn.1 hn.2.1 (by rw [hv]; rfl) fin
    | some u =>
      obtain ⟨sh, h1, h2⟩ := hp u hpc
      exact read_new1 H hdp hun F T.lo.2 hk hlen T.o T.k (hpc ▸ T.d) (h1.keptC fun b o _ e => hσ b o e) (shape_ne h1 hn.2.2.1) hsm (h2 q) (M.nod i hi) hn.1 hn.2.1 (by rw [hv]; rfl) fin
/-- _law_read, refused -/
theorem thold {σ : Heap} {X : List Addr} {ars : Ars} {ta : Nat → TA} {i : Nat} {k : Ky} {kv u : Value} {sh : Sh} {env₀ : Env} (H : Here w A h₀ L) (hdp : A.depth < 870) (hun : A.units < 8700) (F : Fr h₀ L s.heap m) (hfl : A.frames = some [env₀]) (hf0 : env₀.frame = some L) (hk0 : env₀.scope.kind = .function)
    (M : TOK w h₀ L σ X s.heap ars ta) (hi : i < ars.2) (hk : k.is kv = true) (hsm : k.small) (hσ : Sub σ s.heap)
    (q : kidAt (ars.1 i).kids k = none) (hp : (ars.1 i).piece = some u) (hsh : ShapeAt w σ u sh) (hla : sh.lacks k ≠ Str.ofString "")
    (ret : ∀ t h' tk', Fr h₀ L h' m → Kept [L] s.heap h' → Q (.str (sh.lacks k) t) { s with heap := h', toks := tk' }) :
    wpAny (model PySem.Challenge.rw_vk0009_01.row.prog w) A (call (.ref 246) [.ref (ta i).t, kv]) Q E s := by
  have hv := valueAt_kids (fun j => Value.ref (ta j).t) (ars.1 i).kids k
  rw [q] at hv
  have T := M.tre i hi
  exact read_raise H hdp hun F hfl hf0 hk0 T.lo.2 hk T.o T.k (hp ▸ T.d) (hsh.keptC fun b o _ e => hσ b o e) hsm (by rw [hv]; rfl) hla ret
end
end Mine
namespace Mine
theorem fresh_M2 : True := by
  w_top off
  trivial
end Mine
-- part M3
namespace Mine
section
variable {w : World} {A : Around} {h₀ : Heap} {L : Addr} {m : Str → Option Value} {s : Shared} {Q : Value → Shared → Prop} {E : Value → Shared → Prop}
def putE (s : Ars) (i : Nat) (x y : Str) : Ars := (fun j => if j = i then { s.1 i with errs := storedE (s.1 i).errs x y } else s.1 j, s.2)
def putP (s : Ars) (i : Nat) (u : Value) : Ars := (fun j => if j = i then { s.1 i with piece := some u } else s.1 j, s.2)
theorem putErr_eq (s : Ars) (i : Nat) (x y : Str) (u : Value) : putErr s i x y u = putP (putE s i x y) i u := by
  unfold putErr putP putE
  refine Prod.ext (funext fun j => ?_) rfl
  show (if j = i then _ else _) = (if j = i then _ else (if j = i then _ else _))
  by_cases h : j = i
  · rw [if_pos h, if_pos h]
    show _ = { (if i = i then ({ s.1 i with errs := storedE (s.1 i).errs x y } : Nd) else s.1 i) with piece := some u }
    rw [if_pos rfl]
  · rw [if_neg h, if_neg h, if_neg h]
theorem MOK.putE {g σ h h' : Heap} {L' : Addr} {X : List Addr} {s : Ars} {na : Nat → MA} {i : Nat} {x y : Str} {kvs : List (Str × Value)} (M : MOK w g L' σ X h s na) (hi : i < s.2) (k : Kept [(na i).ne] h h') (hd : h'.DictOf (strKind prg w) (na i).ne kvs) (hm : Msgs kvs (storedE (s.1 i).errs x y)) :
    MOK w g L' σ X h' (putE s i x y) na := by
  refine ⟨fun j hj => ?_, M.new, M.sep, M.nod⟩
  by_cases hji : j = i
  · subst hji
    have A := M.mod j hi
    have nn := M.nod j hi
    simp only [MA.fp, List.nodup_cons, List.mem_cons, List.not_mem_nil, or_false, not_or] at nn
    have w1 : ∀ y, y ≠ (na j).ne → y ∉ [(na j).ne] := fun y hy => by simpa using hy
    show ModAt w h' na (na j) (if j = j then _ else _)
    rw [if_pos rfl]
    exact ⟨dictOf_kept A.d k (w1 _ nn.1.1), ⟨kvs, hd, hm⟩, dictOf_kept A.k k (w1 _ (fun q => nn.2.1.1 q.symm)), isList_kept A.p k (w1 _ (fun q => nn.2.1.2 q.symm)), A.lo⟩
  · show ModAt w h' na (na j) (if j = i then _ else _)
    rw [if_neg hji]
    exact (M.mod j hj).kept k (fun y hy q => hji (M.sep j hj i hi y hy ((List.mem_singleton.mp q) ▸ MA.mem.2.1)))
theorem MOK.putP {g σ h h' : Heap} {L' lp : Addr} {X : List Addr} {s : Ars} {na : Nat → MA} {i : Nat} {u : Value} (M : MOK w g L' σ X h s na) (hi : i < s.2) (hL : ∃ o, h.get? L' = some o) (hg : Sub g h) (hσ : Sub σ h) (hX : ∀ b ∈ X, ∃ o, h.get? b = some o) (hn : h.get? lp = none)
    (k : Kept [L', (na i).nd] h h') (hd : h'.DictOf (strKind prg w) (na i).nd (nodeKvs { na i with np := lp })) (hl : h'.IsList lp #[u]) :
    ∃ na', MOK w g L' σ X h' (putP s i u) na' ∧ (∀ j, (na' j).nd = (na j).nd) := by
  have there : ∀ j < s.2, ∀ y ∈ (na j).fp, ∃ o, h.get? y = some o := fun j hj => (M.mod j hj).there
  obtain ⟨na', n0, n1⟩ : ∃ na' : Nat → MA, (∀ j, j ≠ i → na' j = na j) ∧ na' i = { na i with np := lp } := ⟨fun j => if j = i then { na i with np := lp } else na j, fun j hj => if_neg hj, if_pos rfl⟩
  have nd' : ∀ j, (na' j).nd = (na j).nd := fun j => by
    by_cases q : j = i
    · rw [q, n1]
    · rw [n0 j q]
  have kk : ∀ j, ((s.1 j).kids.map fun kj => (kj.1, Value.ref (na' kj.2).nd)) = (s.1 j).kids.map fun kj => (kj.1, Value.ref (na kj.2).nd) := fun j => List.map_congr_left fun kj _ => by rw [nd']
  have nn := M.nod i hi
  simp only [MA.fp, List.nodup_cons, List.mem_cons, List.not_mem_nil, or_false, not_or] at nn
  have mem1 : ∀ y ∈ (na' i).fp, y = lp ∨ y ∈ (na i).fp := fun y hy => by
    rw [n1] at hy
    rcases (by simpa [MA.fp] using hy : y = (na i).nd ∨ y = (na i).ne ∨ y = (na i).nk ∨ y = lp) with e | e | e | e
    · right; rw [e]; exact MA.mem.1
    · right; rw [e]; exact MA.mem.2.1
    · right; rw [e]; exact MA.mem.2.2.1
    · exact .inl e
  have lpn : ∀ j < s.2, lp ∉ (na j).fp := fun j hj q => by obtain ⟨o, e⟩ := there j hj lp q; rw [hn] at e; cases e
  refine ⟨na', ⟨fun j hj => ?_, fun j hj y hy => ?_, fun j hj j' hj' y hy hy' => ?_, fun j hj => ?_⟩, nd'⟩
  · by_cases hji : j = i
    · subst hji
      have A := M.mod j hi
      have w1 : ∀ y, y ∈ (na j).fp → y ≠ (na j).nd → y ∉ [L', (na j).nd] := fun y hm hy => by simpa using ⟨(M.new j hi y hm).1, hy⟩
      show ModAt w h' na' (na' j) (if j = j then _ else _)
      rw [if_pos rfl, n1]
      exact ⟨hd, let ⟨kvs, a1, a2⟩ := A.e; ⟨kvs, dictOf_kept a1 k (w1 _ MA.mem.2.1 (fun q => nn.1.1 q.symm)), a2⟩, (kk j).symm ▸ dictOf_kept A.k k (w1 _ MA.mem.2.2.1 (fun q => nn.1.2.1 q.symm)), hl, A.lo⟩
    · show ModAt w h' na' (na' j) (if j = i then _ else _)
      rw [if_neg hji, n0 j hji]
      have A := (M.mod j hj).kept k (fun y hy q => by
        rcases (by simpa using q : y = L' ∨ y = (na i).nd) with q | q
        · exact (M.new j hj y hy).1 q
        · exact hji (M.sep j hj i hi y hy (q ▸ MA.mem.1)))
      exact ⟨A.d, A.e, (kk j).symm ▸ A.k, A.p, A.lo⟩
  · by_cases hji : j = i
    · subst hji
      rcases mem1 y hy with e | e
      · rw [e]
        exact ⟨fun q => (by obtain ⟨o, e⟩ := hL; rw [← q, hn] at e; cases e), hg.none hn, hσ.none hn, fun q => (by obtain ⟨o, e⟩ := hX lp q; rw [hn] at e; cases e)⟩
      · exact M.new j hj y e
    · rw [n0 j hji] at hy; exact M.new j hj y hy
  · by_cases hji : j = i
    · subst hji
      by_cases hji' : j' = j
      · exact hji'.symm
      · rw [n0 j' hji'] at hy'
        rcases mem1 y hy with e | e
        · exact absurd (e ▸ hy') (lpn j' hj')
        · exact M.sep j hj j' hj' y e hy'
    · rw [n0 j hji] at hy
      by_cases hji' : j' = i
      · subst hji'
        rcases mem1 y hy' with e | e
        · exact absurd (e ▸ hy) (lpn j hj)
        · exact M.sep j hj j' hj' y hy e
      · rw [n0 j' hji'] at hy'; exact M.sep j hj j' hj' y hy hy'
  · by_cases hji : j = i
    · subst hji
      rw [n1]
      have l1 := lpn j hj
      simp only [MA.fp, List.mem_cons, List.not_mem_nil, or_false, not_or] at l1
      simp only [MA.fp, List.nodup_cons, List.mem_cons, List.not_mem_nil, or_false, not_or, not_false_eq_true, List.nodup_nil, and_true]
      exact ⟨⟨nn.1.1, nn.1.2.1, fun q => l1.1 q.symm⟩, ⟨nn.2.1.1, fun q => l1.2.1 q.symm⟩, fun q => l1.2.2.1 q.symm⟩
    · rw [n0 j hji]; exact M.nod j hj
theorem node_put (a : MA) (lp : Addr) : PySem.stored (nodeKvs a) (Str.ofString "piece") (.ref lp) = nodeKvs { a with np := lp } := by kernel_rfl
theorem TOK.putE {g σ h h' : Heap} {L' : Addr} {X : List Addr} {s : Ars} {ta : Nat → TA} {i : Nat} {x y : Str} {kvs : List (Str × Value)} (M : TOK w g L' σ X h s ta) (hi : i < s.2) (k : Kept [(ta i).te] h h') (hd : h'.DictOf (strKind prg w) (ta i).te kvs) (hm : Errs σ kvs (storedE (s.1 i).errs x y)) :
    TOK w g L' σ X h' (putE s i x y) ta := by
  refine ⟨fun j hj => ?_, M.new, M.sep, M.nod⟩
  by_cases hji : j = i
  · subst hji
    have A := M.tre j hi
    have nn := M.nod j hi
    simp only [TA.fp, List.nodup_cons, List.mem_cons, List.not_mem_nil, or_false, not_or] at nn
    have w1 : ∀ y, y ≠ (ta j).te → y ∉ [(ta j).te] := fun y hy => by simpa using hy
    show TreeS w σ h' ta (ta j) (if j = j then _ else _)
    rw [if_pos rfl]
    exact ⟨k _ _ (w1 _ nn.1.2.1) A.o, A.d.kept k (w1 _ nn.2.1.1), ⟨kvs, hd, hm⟩, dictOf_kept A.k k (w1 _ (fun q => nn.2.2.1 q.symm)), A.lo⟩
  · show TreeS w σ h' ta (ta j) (if j = i then _ else _)
    rw [if_neg hji]
    exact (M.tre j hj).kept k (fun y hy q => hji (M.sep j hj i hi y hy ((List.mem_singleton.mp q) ▸ TA.mem.2.2.1)))
theorem TOK.putP {g σ h h' : Heap} {L' : Addr} {X : List Addr} {s : Ars} {ta : Nat → TA} {i : Nat} {u : Value} (M : TOK w g L' σ X h s ta) (hi : i < s.2) (k : Kept [L', (ta i).td] h h') (hd : Names h' (ta i).td (treeNames (ta i) (some u))) :
    TOK w g L' σ X h' (putP s i u) ta := by
  refine ⟨fun j hj => ?_, M.new, M.sep, M.nod⟩
  by_cases hji : j = i
  · subst hji
    have A := M.tre j hi
    have nn := M.nod j hi
    simp only [TA.fp, List.nodup_cons, List.mem_cons, List.not_mem_nil, or_false, not_or] at nn
    have w1 : ∀ y, y ∈ (ta j).fp → y ≠ (ta j).td → y ∉ [L', (ta j).td] := fun y hm hy => by simpa using ⟨(M.new j hi y hm).1, hy⟩
    show TreeS w σ h' ta (ta j) (if j = j then _ else _)
    rw [if_pos rfl]
    exact ⟨k _ _ (w1 _ TA.mem.1 nn.1.1) A.o, hd, let ⟨kvs, a1, a2⟩ := A.e; ⟨kvs, dictOf_kept a1 k (w1 _ TA.mem.2.2.1 (fun q => nn.2.1.1 q.symm)), a2⟩, dictOf_kept A.k k (w1 _ TA.mem.2.2.2 (fun q => nn.2.1.2 q.symm)), A.lo⟩
  · show TreeS w σ h' ta (ta j) (if j = i then _ else _)
    rw [if_neg hji]
    exact (M.tre j hj).kept k (fun y hy q => by
      rcases (by simpa using q : y = L' ∨ y = (ta i).td) with q | q
      · exact (M.new j hj y hy).1 q
      · exact hji (M.sep j hj i hi y hy (q ▸ TA.mem.2.1)))
end
end Mine
namespace Mine
theorem fresh_M3 : True := by
  w_top off
  trivial
end Mine
-- part B1
namespace Mine
section
variable {w : World} {A : Around} {h₀ : Heap} {L : Addr} {m : Str → Option Value} {s : Shared} {Q : Value → Shared → Prop} {E : Value → Shared → Prop}
/-- a top of which nothing is asked but its names -/
def bareP (p : Program) : Program := { p with main := { p.main with body := [.Import [{ name := Str.ofString "sys", asname := none, pos := genPos }] genPos] } }
theorem top_hide {p : Program} {loose : List Str} {mean : ExcName → Option Value} {mg mb : Str → Option Value} {h : Heap} (T : Top p loose mean mg mb h) (h8 : h.get? 188 = some (tabObj #[])) :
    Top (bareP p) (loose ++ (recsOf p).map (·.name) ++ (litsOf p).map (·.1) ++ (clssOf p loose).map (·.name)) mean mg mb (hideAll h [188]) where
  g := let ⟨o, es, ep, e, r⟩ := T.g; ⟨o, es, ep, hideAll_get _ e (by decide), r⟩
  b := let ⟨o, es, ep, e, r⟩ := T.b; ⟨o, es, ep, hideAll_get _ e (by decide), r⟩
  nolimit := let ⟨mc, ⟨o, es, ep, e, r⟩, q⟩ := T.nolimit; ⟨mc, ⟨o, es, ep, hideAll_get _ e (by decide), r⟩, q⟩
  nodigits := let ⟨mc, ⟨o, es, ep, e, r⟩, q⟩ := T.nodigits; ⟨mc, ⟨o, es, ep, hideAll_get _ e (by decide), r⟩, q⟩
  fn := fun d hd => by exact absurd hd (by show d ∉ ([] : List DefRec); simp)
  own := fun o ho => by exact absurd ho (by show o ∉ ([] : List OwnSpec); simp)
  const := fun x d e => by
    have e : (none : Option PyData) = some d := e
    cases e
  free := fun x h1 h2 _ _ _ => by
    simp only [List.mem_append, not_or] at h2
    exact T.free x h1 h2.1.1.1 h2.1.1.2 h2.1.2 h2.2
  builtins := T.builtins
  tab := fun d hd => by exact absurd hd (by show d ∉ ([] : List DefRec); simp)
  bmain := by
    obtain ⟨bm, ob, a1, a2, a3, a4, r⟩ := T.bmain
    refine ⟨bm, ob, a1, a2, hideAll_get _ a3 (fun q => ?_), a4, r⟩
    rw [List.mem_singleton.mp q, h8] at a3
    cases a3; cases a4
  seer := fun hi => by
    have hi : false = true := by rw [← hi]; with_unfolding_all rfl
    cases hi
theorem here_law {p : Program} {loose : List Str} {mean : ExcName → Option Value} {mg mb : Str → Option Value} {h h₁ : Heap} {env : Env} {m : Str → Option Value} (T : Top p loose mean mg mb h) (X : (hd.heap_39 w.params).In h) (h8 : h.get? 188 = some (tabObj #[]))
    (F : Fr h h.objs.size h₁ m) (hf : env.frame = some h.objs.size) (hk : env.scope.kind = .function) (hlk : (hd.heap_39 w.params).lookup 188 = none) :
    Here w (callerA.deeper env) (hideAll h [188]) h.objs.size ∧ (callerA.deeper env).frames = some [env] ∧ Fr (hideAll h [188]) h.objs.size h₁ m ∧ News (hideAll h [188]) h.objs.size h₁ [(188, tabObj #[])] := by
  have hlt := Heap.lt_size h8
  refine ⟨⟨⟨callerA, hideAll h [188], [], env, _, _, mean, mg, mb, below_caller _, top_hide T h8, rfl, hf, hk⟩, ?_, rfl⟩, rfl, ⟨F.ns, fun b o e => F.keep b o (of_hideAll _ e), by rw [hideAll_size]; exact F.above⟩, ?_⟩
  · exact fun a o e => hideAll_get _ (X a o e) (fun q => by rw [List.mem_singleton.mp q, hlk] at e; cases e)
  · intro p hp
    rw [List.mem_singleton.mp hp]
    exact ⟨F.keep _ _ h8, Nat.ne_of_lt hlt, hideAll_none _ (by simp)⟩
theorem law_at {p : Program} {loose : List Str} {mean : ExcName → Option Value} {mg mb : Str → Option Value} {h h₁ : Heap} {env : Env} {m : Str → Option Value} {α : Type} {M : Model} {t : Sem α} {Q : α → Shared → Prop} {E : Value → Shared → Prop} {s : Shared} (T : Top p loose mean mg mb h) (X : (hd.heap_39 w.params).In h) (h8 : h.get? 188 = some (tabObj #[]))
    (F : Fr h h.objs.size h₁ m) (hf : env.frame = some h.objs.size) (hk : env.scope.kind = .function) (hlk : (hd.heap_39 w.params).lookup 188 = none)
    (go : Here w (callerA.deeper env) (hideAll h [188]) h.objs.size → (callerA.deeper env).frames = some [env] → Fr (hideAll h [188]) h.objs.size h₁ m → News (hideAll h [188]) h.objs.size h₁ [(188, tabObj #[])] → wpAny M (callerA.deeper env) t Q E s) : wpAny M (callerA.deeper env) t Q E s :=
  let ⟨a, b, c, d⟩ := here_law (env := env) T X h8 F hf hk hlk; go a b c d
end
end Mine
namespace Mine
theorem fresh_B1 : True := by
  w_top off
  trivial
end Mine
-- part B2
namespace Mine
section
variable {w : World} {A : Around} {h₀ : Heap} {L : Addr} {m : Str → Option Value} {s : Shared} {Q : Value → Shared → Prop} {E : Value → Shared → Prop}
theorem AllLt.mem {d : Addr} : ∀ {l : List (Addr × Obj)}, AllLt d l → ∀ p ∈ l, p.1 < d
  | [], _, p, hp => by cases hp
  | q :: r, h, p, hp => by
    rcases List.mem_cons.mp hp with e | e
    · rw [e]; exact h.1
    · exact AllLt.mem h.2 p e
theorem own_lt {g h : Heap} {L' b d : Addr} {o : Obj} {own : List (Addr × Obj)} (ho : own = all g L' h) (l : AllLt d own) (e : h.get? b = some o) (h1 : b ≠ L') (h2 : g.get? b = none) : b < d := AllLt.mem l (b, o) (ho ▸ mem_all.mpr ⟨e, h1, h2⟩)
theorem words_at {h : Heap} {lit : Addr} {t1 t2 t3 : Tok} {n : Nat} {r : Int} (hl : h.get? lit = some (listOf #[Value.str (Str.ofString "type") t1, Value.str (Str.ofString "minimum") t2, Value.str (Str.ofString "enum") t3] n)) (h0 : 0 ≤ r) (h1 : r < 3) : ∃ x t, (#[Value.str (Str.ofString "type") t1, Value.str (Str.ofString "minimum") t2, Value.str (Str.ofString "enum") t3] : Array Value)[r.toNat]? = some (.str x t) ∧ PyData.strOk x = true := by
  rcases (by omega : r = 0 ∨ r = 1 ∨ r = 2) with e | e | e <;> subst e
  · exact ⟨_, _, rfl, by decide +kernel⟩
  · exact ⟨_, _, rfl, by decide +kernel⟩
  · exact ⟨_, _, rfl, by decide +kernel⟩
theorem snap (g : Heap) (L' : Addr) (h : Heap) : ∃ own, News g L' h own ∧ own = all g L' h := ⟨_, news_all g L' h, rfl⟩
/-- what stands at every point of the law -/
structure LB (w : World) (g : Heap) (L' : Addr) (σ : Heap) (st xs : Addr) (vs : List Value) (X : List Addr) (h : Heap) (i : Int) (ps : Array Value) (ars : Ars) (na : Nat → MA) : Prop where
  sub : Sub σ h
  stx : ∃ t, h.get? st = some (listOf #[.ref xs, .int i t] 0)
  h8 : h.get? 188 = some (tabObj ps)
  xsl : σ.IsList xs vs.toArray
  fr : ∀ b ∈ X, b ≠ L' ∧ g.get? b = none ∧ σ.get? b = none
  frL : σ.get? L' = none
  inX : st ∈ X ∧ 188 ∈ X
  ne8 : st ≠ 188
  mod : MOK w g L' σ X h ars na
theorem LB.keptL {g σ h h' : Heap} {L' st xs : Addr} {vs : List Value} {X : List Addr} {i : Int} {ps : Array Value} {ars : Ars} {na : Nat → MA} (x : LB w g L' σ st xs vs X h i ps ars na) (k : Kept [L'] h h') : LB w g L' σ st xs vs X h' i ps ars na :=
  ⟨x.sub.kept k (by intro b hb; rw [List.mem_singleton.mp hb]; exact x.frL), let ⟨t, e⟩ := x.stx; ⟨t, k _ _ (by simpa using (x.fr st x.inX.1).1) e⟩, k _ _ (by simpa using (x.fr 188 x.inX.2).1) x.h8, x.xsl, x.fr, x.frL, x.inX, x.ne8,
   x.mod.keptX (k.mono fun b hb => by rw [List.mem_singleton.mp hb]; exact .head _)⟩
theorem LB.kept0 {g σ h h' : Heap} {L' st xs : Addr} {vs : List Value} {X : List Addr} {i : Int} {ps : Array Value} {ars : Ars} {na : Nat → MA} (x : LB w g L' σ st xs vs X h i ps ars na) (k : Kept [] h h') : LB w g L' σ st xs vs X h' i ps ars na := x.keptL (k.mono (by simp))
theorem LB.keptX {g σ h h' : Heap} {L' st xs y : Addr} {vs : List Value} {X : List Addr} {i : Int} {ps : Array Value} {ars : Ars} {na : Nat → MA} (x : LB w g L' σ st xs vs X h i ps ars na) (hy : y ∈ X) (k : Kept [y] h h') (h1 : y ≠ st) (h2 : y ≠ 188) : LB w g L' σ st xs vs X h' i ps ars na :=
  ⟨x.sub.kept k (by intro b hb; rw [List.mem_singleton.mp hb]; exact (x.fr y hy).2.2), let ⟨t, e⟩ := x.stx; ⟨t, k _ _ (by simpa using h1.symm) e⟩, k _ _ (by simpa using h2.symm) x.h8, x.xsl, x.fr, x.frL, x.inX, x.ne8,
   x.mod.keptX (k.mono fun b hb => by rw [List.mem_singleton.mp hb]; exact .tail _ hy)⟩
theorem LB.keptS {g σ h h' : Heap} {L' st xs : Addr} {vs : List Value} {X S : List Addr} {i : Int} {ps : Array Value} {ars : Ars} {na : Nat → MA} (x : LB w g L' σ st xs vs X h i ps ars na) (k : Kept S h h') (hS : ∀ b ∈ S, b = L' ∨ (b ∈ X ∧ b ≠ st ∧ b ≠ 188)) : LB w g L' σ st xs vs X h' i ps ars na := by
  have n1 : st ∉ S := fun q => by
    rcases hS _ q with e | e
    · exact (x.fr st x.inX.1).1 e
    · exact e.2.1 rfl
  have n2 : (188 : Addr) ∉ S := fun q => by
    rcases hS _ q with e | e
    · exact (x.fr 188 x.inX.2).1 e
    · exact e.2.2 rfl
  refine ⟨x.sub.kept k fun b hb => ?_, let ⟨t, e⟩ := x.stx; ⟨t, k _ _ n1 e⟩, k _ _ n2 x.h8, x.xsl, x.fr, x.frL, x.inX, x.ne8, x.mod.keptX (k.mono fun b hb => ?_)⟩
  · rcases hS _ hb with e | e
    · rw [e]; exact x.frL
    · exact (x.fr b e.1).2.2
  · rcases hS _ hb with e | e
    · rw [e]; exact .head _
    · exact .tail _ e.1
theorem LB.addX {g σ h : Heap} {L' st xs I : Addr} {vs : List Value} {X : List Addr} {i : Int} {ps : Array Value} {ars : Ars} {na : Nat → MA} (x : LB w g L' σ st xs vs X h i ps ars na) (hI : h.get? I = none) (h1 : I ≠ L') (h2 : g.get? I = none) : LB w g L' σ st xs vs (I :: X) h i ps ars na :=
  ⟨x.sub, x.stx, x.h8, x.xsl, fun b hb => by
    rcases List.mem_cons.mp hb with e | e
    · rw [e]; exact ⟨h1, h2, x.sub.none hI⟩
    · exact x.fr b e, x.frL, ⟨.tail _ x.inX.1, .tail _ x.inX.2⟩, x.ne8, ⟨x.mod.mod, fun j hj b hb => ⟨(x.mod.new j hj b hb).1, (x.mod.new j hj b hb).2.1, (x.mod.new j hj b hb).2.2.1, fun q => by
      rcases List.mem_cons.mp q with e | e
      · obtain ⟨o, e'⟩ := (x.mod.mod j hj).there b hb
        rw [e, hI] at e'; cases e'
      · exact (x.mod.new j hj b hb).2.2.2 e⟩, x.mod.sep, x.mod.nod⟩⟩
theorem LB.dropX {g σ h : Heap} {L' st xs : Addr} {vs : List Value} {X X' : List Addr} {i : Int} {ps : Array Value} {ars : Ars} {na : Nat → MA} (x : LB w g L' σ st xs vs X h i ps ars na) (hX : ∀ b ∈ X', b ∈ X) (h1 : st ∈ X') (h2 : 188 ∈ X') : LB w g L' σ st xs vs X' h i ps ars na :=
  ⟨x.sub, x.stx, x.h8, x.xsl, fun b hb => x.fr b (hX b hb), x.frL, ⟨h1, h2⟩, x.ne8, ⟨x.mod.mod, fun j hj b hb => ⟨(x.mod.new j hj b hb).1, (x.mod.new j hj b hb).2.1, (x.mod.new j hj b hb).2.2.1, fun q => (x.mod.new j hj b hb).2.2.2 (hX b q)⟩, x.mod.sep, x.mod.nod⟩⟩
theorem LB.next {g σ h h' : Heap} {L' st xs : Addr} {vs : List Value} {X : List Addr} {i i' : Int} {t : Tok} {ps : Array Value} {ars : Ars} {na : Nat → MA} (x : LB w g L' σ st xs vs X h i ps ars na) (k : Kept [st] h h') (e : h'.get? st = some (listOf #[.ref xs, .int i' t] 0)) : LB w g L' σ st xs vs X h' i' ps ars na :=
  ⟨x.sub.kept k (by intro b hb; rw [List.mem_singleton.mp hb]; exact (x.fr st x.inX.1).2.2), ⟨t, e⟩, k _ _ (by simpa using x.ne8.symm) x.h8, x.xsl, x.fr, x.frL, x.inX, x.ne8,
   x.mod.keptX (k.mono fun b hb => by rw [List.mem_singleton.mp hb]; exact .tail _ x.inX.1)⟩
theorem LB.grow {g σ h h' : Heap} {L' st xs y : Addr} {vs : List Value} {X : List Addr} {i : Int} {ps : Array Value} {ars ars' : Ars} {na na' : Nat → MA} {j : Nat} (x : LB w g L' σ st xs vs X h i ps ars na) (hj : j < ars.2) (hy : y ∈ (na j).fp) (k : Kept [y] h h') (m : MOK w g L' σ X h' ars' na') : LB w g L' σ st xs vs X h' i ps ars' na' := by
  have hn := x.mod.new j hj y hy
  refine ⟨x.sub.kept k (by intro b hb; rw [List.mem_singleton.mp hb]; exact hn.2.2.1), let ⟨t, e⟩ := x.stx; ⟨t, k _ _ (fun q => hn.2.2.2 ((List.mem_singleton.mp q) ▸ x.inX.1)) e⟩, k _ _ (fun q => hn.2.2.2 ((List.mem_singleton.mp q) ▸ x.inX.2)) x.h8, x.xsl, x.fr, x.frL, x.inX, x.ne8, m⟩
/-- more stands still -/
theorem LB.more {g σ σ' h : Heap} {L' st xs : Addr} {vs : List Value} {X : List Addr} {i : Int} {ps : Array Value} {ars : Ars} {na : Nat → MA} (x : LB w g L' σ st xs vs X h i ps ars na) (h1 : Sub σ σ') (h2 : Sub σ' h) (h3 : σ'.get? L' = none) (h4 : ∀ b ∈ X, σ'.get? b = none) (h5 : ∀ j < ars.2, ∀ b ∈ (na j).fp, σ'.get? b = none) : LB w g L' σ' st xs vs X h i ps ars na :=
  ⟨h2, x.stx, x.h8, let ⟨o, e, r⟩ := x.xsl; ⟨o, h1 _ _ e, r⟩, fun b hb => ⟨(x.fr b hb).1, (x.fr b hb).2.1, h4 b hb⟩, h3, x.inX, x.ne8, ⟨x.mod.mod, fun j hj b hb => ⟨(x.mod.new j hj b hb).1, (x.mod.new j hj b hb).2.1, h5 j hj b hb, (x.mod.new j hj b hb).2.2.2⟩, x.mod.sep, x.mod.nod⟩⟩
theorem LB.frame {g σ h h' : Heap} {L' st xs : Addr} {vs : List Value} {X S : List Addr} {i : Int} {ps : Array Value} {ars : Ars} {na : Nat → MA} {mm : Str → Option Value} (x : LB w g L' σ st xs vs X h i ps ars na) (F : Fr g L' h mm) (k : Kept S h h') (hS : ∀ b ∈ S, b ∈ X) : Fr g L' h' mm :=
  Fr.kept F k (fun q => (x.fr L' (hS _ q)).1 rfl) fun b hb => (x.fr b (hS b hb)).2.1
theorem LB.frameM {g σ h h' : Heap} {L' st xs y : Addr} {vs : List Value} {X : List Addr} {i : Int} {ps : Array Value} {ars : Ars} {na : Nat → MA} {mm : Str → Option Value} {j : Nat} (x : LB w g L' σ st xs vs X h i ps ars na) (F : Fr g L' h mm) (hj : j < ars.2) (hy : y ∈ (na j).fp) (k : Kept [y] h h') : Fr g L' h' mm :=
  Fr.kept F k (fun q => (x.mod.new j hj y hy).1 (List.mem_singleton.mp q).symm) fun b hb => by rw [List.mem_singleton.mp hb]; exact (x.mod.new j hj y hy).2.1
theorem lnext {σ : Heap} {st xs : Addr} {vs : List Value} {ns : List Int} {X : List Addr} {i lim : Int} {tl : Tok} {ps : Array Value} {ars : Ars} {na : Nat → MA} (H : Here w A h₀ L) (hdp : A.depth < 900) (hun : A.units < 9000) (F : Fr h₀ L s.heap m)
    (B : LB w h₀ L σ st xs vs X s.heap i ps ars na) (hI : IntsAre vs ns) (hlen : ns.length ≤ 60) (hi0 : 0 ≤ i) (hi1 : i < 1000) (hl0 : 0 < lim) (hl1 : lim < 10)
    (ret : ∀ r tr h' tk', Fr h₀ L h' m → LB w h₀ L σ st xs vs X h' (i + 1) ps ars na → Kept [st] s.heap h' → 0 ≤ r → r < lim → Q (.int r tr) { s with heap := h', toks := tk' }) :
    wpAny (model PySem.Challenge.rw_vk0009_01.row.prog w) A (call (.ref 208) [.ref st, .int lim tl]) Q E s := by
  obtain ⟨t, e⟩ := B.stx
  have hf := B.fr st B.inX.1
  have N : News h₀ L s.heap [(st, listOf #[.ref xs, .int i t] 0)] := fun p hp => by rw [List.mem_singleton.mp hp]; exact ⟨e, hf.1, hf.2.1⟩
  have hx : s.heap.IsList xs vs.toArray := let ⟨o, e, r⟩ := B.xsl; ⟨o, B.sub _ _ e, r⟩
  have hne : xs ≠ st := fun q => by obtain ⟨o, e, r⟩ := B.xsl; rw [q, hf.2.2] at e; cases e
  refine next_spec H hdp hun F N hx hne hI hlen hi0 hi1 hl0 hl1 (fun r tr tk h' tk' k e' h0 h1 => ?_)
  exact ret r tr h' tk' (B.frame F k (fun b hb => by rw [List.mem_singleton.mp hb]; exact B.inX.1)) (B.next k e') k h0 h1
theorem Child.down {σ τ : Heap} {u c : Value} {k : Ky} {d : Nat} (hs : KeepC σ τ) (hv : ValAt w σ d u) (x : Child w τ u k c) : Child w σ u k c := by
  rcases hv.cases with ⟨n, t, e⟩ | ⟨d', a', ws, e, e2, hl', hw, hch⟩ | ⟨d', a', ws, e, e2, hl', hlo', hw, _, hch⟩
  · rcases x with ⟨a, vs, j, e', _⟩ | ⟨a, kvs, e', _⟩ <;> (rw [e] at e'; cases e')
  · rcases x with ⟨a, vs, j, e', hl, hn, rfl, h0, hj⟩ | ⟨a, kvs, e', hd, hlo, hv⟩
    · rw [e2] at e'; cases e'
      have := isList_det hl (isList_keptC hl' hs)
      subst this
      exact .inl ⟨a', vs, j, e2, hl', by omega, rfl, h0, hj⟩
    · rw [e2] at e'; cases e'
      exact (list_not_dict (isList_keptC hl' hs) hd).elim
  · rcases x with ⟨a, vs, j, e', hl, hn, rfl, h0, hj⟩ | ⟨a, kvs, e', hd, hlo, hv⟩
    · rw [e2] at e'; cases e'
      exact (list_not_dict hl (dictOf_keptC hl' hs)).elim
    · rw [e2] at e'; cases e'
      exact .inr ⟨a', ws, e2, hl', hlo, by rw [dictOf_det (dictOf_keptC hl' hs) hd k]; exact hv⟩
theorem Path.down {σ τ : Heap} (hs : KeepC σ τ) : ∀ {v : Value} {ks : List Ky} {u : Value} {d : Nat}, ValAt w σ d v → Path w τ v ks u → Path w σ v ks u
  | v, [], _, _, _, e => e
  | v, k :: ks, _, _, hv, ⟨c, hc, p⟩ => by
    have hc' := hc.down hs hv
    obtain ⟨d', hv'⟩ := hc'.val hv
    exact ⟨c, hc', Path.down hs hv' p⟩
theorem ValAt.handed {σ : Heap} {d : Nat} {v : Value} (h : ValAt w σ d v) : handedIn v = true := by
  rcases h.cases with ⟨n, t, e⟩ | ⟨d', a', ws, e, e2, r⟩ | ⟨d', a', ws, e, e2, r⟩
  · rw [e]; rfl
  · rw [e2]; rfl
  · rw [e2]; rfl
theorem Path.val {σ : Heap} : ∀ {v : Value} {ks : List Ky} {u : Value} {d : Nat}, Path w σ v ks u → ValAt w σ d v → ∃ d', ValAt w σ d' u
  | v, [], _, d, e, hv => by rw [show _ = v from e]; exact ⟨d, hv⟩
  | v, k :: ks, _, d, ⟨c, hc, p⟩, hv => by
    obtain ⟨d', hv'⟩ := hc.val hv
    exact Path.val p hv'
theorem lplace {σ : Heap} {st xs : Addr} {vs : List Value} {ns : List Int} {X : List Addr} {i : Int} {ps : Array Value} {ars : Ars} {na : Nat → MA} {v : Value} (H : Here w A h₀ L) (hdp : A.depth < 860) (hun : A.units < 8600) (F : Fr h₀ L s.heap m)
    (B : LB w h₀ L σ st xs vs X s.heap i ps ars na) (hI : IntsAre vs ns) (hlen : ns.length ≤ 60) (hi0 : 0 ≤ i) (hi1 : i + 6 < 990) (hv : ValAt w σ 2 v)
    (ret : ∀ T pl ks kvals u i' h' tk', Fr h₀ L h' m → LB w h₀ L σ st xs vs X h' i' ps ars na → Kept [st] s.heap h' → i ≤ i' → i' ≤ i + 6 → h'.get? T = some { cls := .type "tuple", data := .seq #[.ref pl, u] } → s.heap.get? T = none → h'.IsList pl (List.toArray kvals) → s.heap.get? pl = none → KysAre kvals ks → ks.length ≤ 2 →
      Path w σ v ks u → Q (.ref T) { s with heap := h', toks := tk' }) :
    wpAny (model PySem.Challenge.rw_vk0009_01.row.prog w) A (call (.ref 218) [.ref st, v]) Q E s := by
  obtain ⟨t, e⟩ := B.stx
  have hf := B.fr st B.inX.1
  have N : News h₀ L s.heap [(st, listOf #[.ref xs, .int i t] 0)] := fun p hp => by rw [List.mem_singleton.mp hp]; exact ⟨e, hf.1, hf.2.1⟩
  have hx : s.heap.IsList xs vs.toArray := let ⟨o, e, r⟩ := B.xsl; ⟨o, B.sub _ _ e, r⟩
  have hne : xs ≠ st := fun q => by obtain ⟨o, e, r⟩ := B.xsl; rw [q, hf.2.2] at e; cases e
  have kσ : KeepC σ (hideAll s.heap [st]) := fun b o _ e => hideAll_get _ (B.sub _ _ e) (fun q => by rw [List.mem_singleton.mp q, hf.2.2] at e; cases e)
  refine place_spec H hdp hun F N hx hne hI hlen hi0 hi1 (hv.keptC kσ) (fun T pl ks kvals u i' tk h' tk' k e' h0 h1 hT hTn hl hn hky hkl hpa => ?_)
  have hpa' : Path w σ v ks u := hpa.down kσ hv
  exact ret T pl ks kvals u i' h' tk' (B.frame F k (fun b hb => by rw [List.mem_singleton.mp hb]; exact B.inX.1)) (B.next k e') k h0 h1 hT hTn hl hn hky hkl hpa'
structure RowAt (w : World) (σ : Heap) (v : Value) (e : Value) (r : Row) : Prop where
  ex : ∃ a er, e = .ref a ∧ ErrAt σ a er ∧ KysAre er.path r.ks ∧ er.msg = r.msg ∧ er.word = r.word ∧ er.inst = r.u
  path : Path w σ v r.ks r.u
  len : r.ks.length ≤ 2
  ok : PyData.strOk r.word = true ∧ PyData.strOk r.msg = true
theorem RowAt.keptC {σ σ' : Heap} {v e : Value} {r : Row} (x : RowAt w σ v e r) (k : KeepC σ σ') : RowAt w σ' v e r :=
  ⟨let ⟨a, er, h1, h2, h3⟩ := x.ex; ⟨a, er, h1, h2.keptC k, h3⟩, x.path.keptC k, x.len, x.ok⟩
def build (rs : List Row) : Ars := rs.foldl addRow ar0
theorem build_snoc (rs : List Row) (r : Row) : build (rs ++ [r]) = addRow (build rs) r := by unfold build; rw [List.foldl_append]; rfl
/-- what stands between two rows -/
structure RowsJ (w : World) (g : Heap) (L' st xs : Addr) (wsl : List Value) (rw nd0 : Addr) (X : List Addr) (v : Value) (h : Heap) (k : Nat) (σ : Heap) (i : Int) (na : Nat → MA) (gv : Nat → Value) (rs : List Row) (es : List Value) : Prop where
  B : LB w g L' σ st xs wsl X h i #[] (build rs) na
  G : Gv w σ v (build rs) gv
  O : Ok (3 * k) (build rs)
  V : ValAt w σ 2 v
  rX : rw ∈ X
  R : ∃ c, h.get? rw = some (listOf es.toArray c)
  len : es.length = rs.length ∧ rs.length = k
  row : ∀ (j : Nat) (e : Value) (r : Row), es[j]? = some e → rs[j]? = some r → RowAt w σ v e r
  i0 : 0 ≤ i
  i1 : i ≤ 21 + 7 * k
  nd : (na 0).nd = nd0
theorem RowsJ.keptS {g h h' : Heap} {L' st xs : Addr} {wsl : List Value} {rw nd0 : Addr} {X S : List Addr} {v : Value} {k : Nat} {σ : Heap} {i : Int} {na : Nat → MA} {gv : Nat → Value} {rs : List Row} {es : List Value} (x : RowsJ w g L' st xs wsl rw nd0 X v h k σ i na gv rs es) (kk : Kept S h h') (hS : ∀ b ∈ S, b = L' ∨ (b ∈ X ∧ b ≠ st ∧ b ≠ 188 ∧ b ≠ rw)) : RowsJ w g L' st xs wsl rw nd0 X v h' k σ i na gv rs es :=
  ⟨x.B.keptS kk fun b hb => (hS b hb).imp id fun q => ⟨q.1, q.2.1, q.2.2.1⟩, x.G, x.O, x.V, x.rX, let ⟨c, e⟩ := x.R; ⟨c, kk _ _ (fun q => by
    rcases hS _ q with e | e
    · exact (x.B.fr rw x.rX).1 e
    · exact e.2.2.2 rfl) e⟩, x.len, x.row, x.i0, x.i1, x.nd⟩
end
end Mine
namespace Mine
theorem fresh_B2 : True := by
  w_top off
  trivial
end Mine
-- part B3
namespace Mine
section
variable {w : World} {A : Around} {h₀ : Heap} {L : Addr} {m : Str → Option Value} {s : Shared} {Q : Value → Shared → Prop} {E : Value → Shared → Prop}
theorem walkTo_snoc (k : Ky) : ∀ (l : List Ky) (s : Ars) (i : Nat), walkTo s i (l ++ [k]) = stepTo (walkTo s i l).1 (walkTo s i l).2 k
  | [], s, i => rfl
  | k' :: l, s, i => walkTo_snoc k l _ _
theorem kidAt_snoc {l : List (Ky × Nat)} {k : Ky} {n : Nat} (h : kidAt l k = none) : kidAt (l ++ [(k, n)]) k = some n := by
  unfold kidAt at h ⊢
  rw [List.find?_append]
  cases q : List.find? (fun kj : Ky × Nat => decide (kj.1 = k)) l with
  | some z => rw [q] at h; cases h
  | none => simp
theorem step_kid {s : Ars} {i : Nat} {k : Ky} (hi : i < s.2) : kidAt ((stepTo s i k).1.1 i).kids k = some (stepTo s i k).2 := by
  cases q : kidAt (s.1 i).kids k with
  | some j => rw [stepTo_old q]; exact q
  | none =>
    obtain ⟨e1, e2, e3, e4, e5⟩ := stepTo_new hi q
    rw [e1, e4]; exact kidAt_snoc q
/-- what stands on the way to a row's place -/
structure InnerJ (w : World) (g : Heap) (L' st xs : Addr) (wsl : List Value) (X : List Addr) (v : Value) (h : Heap) (c0 : Nat) (σ : Heap) (i : Int) (na : Nat → MA) (gv : Nat → Value) (s0 : Ars) (ks : List Ky) (u : Value) (nd0 : Addr) (j : Nat) : Prop where
  B : LB w g L' σ st xs wsl X h i #[] (walkTo s0 0 (ks.take j)).1 na
  G : Gv w σ v (walkTo s0 0 (ks.take j)).1 gv
  O : Ok (c0 + j) (walkTo s0 0 (ks.take j)).1
  lt : (walkTo s0 0 (ks.take j)).2 < (walkTo s0 0 (ks.take j)).1.2
  dep : ((walkTo s0 0 (ks.take j)).1.1 (walkTo s0 0 (ks.take j)).2).dep = j
  val : Path w σ (gv (walkTo s0 0 (ks.take j)).2) (ks.drop j) u
  nd : (na 0).nd = nd0
theorem InnerJ.keptS {g h h' : Heap} {L' st xs nd0 : Addr} {wsl : List Value} {X S : List Addr} {v u : Value} {c0 j : Nat} {σ : Heap} {i : Int} {na : Nat → MA} {gv : Nat → Value} {s0 : Ars} {ks : List Ky} (x : InnerJ w g L' st xs wsl X v h c0 σ i na gv s0 ks u nd0 j) (k : Kept S h h') (hS : ∀ b ∈ S, b = L' ∨ (b ∈ X ∧ b ≠ st ∧ b ≠ 188)) :
    InnerJ w g L' st xs wsl X v h' c0 σ i na gv s0 ks u nd0 j := ⟨x.B.keptS k hS, x.G, x.O, x.lt, x.dep, x.val, x.nd⟩
theorem linner {σ : Heap} {st xs nd0 : Addr} {wsl : List Value} {X : List Addr} {v u : Value} {c0 j : Nat} {i : Int} {na : Nat → MA} {gv : Nat → Value} {s0 : Ars} {ks : List Ky} {k : Ky} {kv : Value} (H : Here w A h₀ L) (hdp : A.depth < 890) (hun : A.units < 8900) (F : Fr h₀ L s.heap m)
    (J : InnerJ w h₀ L st xs wsl X v s.heap c0 σ i na gv s0 ks u nd0 j) (hc : c0 + j ≤ 900) (hj : j ≤ 2) (hks : ks[j]? = some k) (hk : k.is kv = true) (hsm : k.small) (hX : ∀ b ∈ X, ∃ o, s.heap.get? b = some o)
    (ret : ∀ na' gv' t h' tk', Fr h₀ L h' m → Kept [(na (walkTo s0 0 (ks.take j)).2).nk] s.heap h' → InnerJ w h₀ L st xs wsl X v h' c0 σ i na' gv' s0 ks u nd0 (j + 1) → na' (walkTo s0 0 (ks.take j)).2 = na (walkTo s0 0 (ks.take j)).2 →
      kidAt ((walkTo s0 0 (ks.take (j + 1))).1.1 (walkTo s0 0 (ks.take j)).2).kids k = some (walkTo s0 0 (ks.take (j + 1))).2 → (walkTo s0 0 (ks.take j)).2 < (walkTo s0 0 (ks.take (j + 1))).1.2 → Q (.str (Str.ofString "") t) { s with heap := h', toks := tk' }) :
    wpAny (model PySem.Challenge.rw_vk0009_01.row.prog w) A (call (.ref 239) [.ref (na (walkTo s0 0 (ks.take j)).2).nd, kv]) Q E s := by
  have hjl : j < ks.length := (List.getElem?_eq_some_iff.mp hks).1
  have hkj : ks[j] = k := (List.getElem?_eq_some_iff.mp hks).2
  have htk : ks.take (j + 1) = ks.take j ++ [k] := by rw [← hkj]; exact List.take_succ_eq_append_getElem hjl
  have hdr : ks.drop j = k :: ks.drop (j + 1) := by rw [← hkj]; exact List.drop_eq_getElem_cons hjl
  have hw : walkTo s0 0 (ks.take (j + 1)) = stepTo (walkTo s0 0 (ks.take j)).1 (walkTo s0 0 (ks.take j)).2 k := by rw [htk, walkTo_snoc]
  have hv := J.val
  rw [hdr] at hv
  obtain ⟨c', hch, hpa⟩ := hv
  have S := step_ok J.O J.lt hsm (by rw [J.dep]; exact hj)
  obtain ⟨gv', hG, hg1, hg2⟩ := step_gv J.G J.O J.lt hch
  refine mstep H hdp hun F J.B.mod J.O (by omega) J.lt hk J.B.sub hX (fun u' hu' => ?_) (fun na' t h' tk' k1 k2 k3 _ => ?_)
  · rw [J.G.piece _ J.lt u' hu']
    obtain ⟨sh, h1, h2⟩ := hch.shape
    exact ⟨sh, h1, fun _ => h2⟩
  · refine ret na' gv' t h' tk' (J.B.frameM F J.lt MA.mem.2.2.1 k1) k1 ⟨?_, ?_, ?_, ?_, ?_, ?_, ?_⟩ (k3 _ J.lt) ?_ ?_
    · rw [hw]; exact J.B.grow J.lt MA.mem.2.2.1 k1 k2
    · rw [hw]; exact hG
    · rw [hw]; exact S.ok
    · rw [hw]; exact S.lt
    · rw [hw]; rw [S.dep, J.dep]
    · rw [hw, hg1]; exact hpa
    · rw [k3 0 J.O.pos]; exact J.nd
    · rw [hw]; exact step_kid J.lt
    · rw [hw]; exact Nat.lt_of_lt_of_le J.lt S.le
/-- what stands still from here on: all but the objects that change -/
noncomputable def still (h : Heap) (L' : Addr) (X : List Addr) (s : Ars) (na : Nat → MA) : Heap := hideAll h (L' :: X ++ (List.range s.2).flatMap fun j => (na j).fp)
theorem mem_fps {s : Ars} {na : Nat → MA} {b : Addr} : b ∈ (List.range s.2).flatMap (fun j => (na j).fp) ↔ ∃ j < s.2, b ∈ (na j).fp := by
  rw [List.mem_flatMap]
  constructor
  · rintro ⟨j, hj, hb⟩; exact ⟨j, List.mem_range.mp hj, hb⟩
  · rintro ⟨j, hj, hb⟩; exact ⟨j, List.mem_range.mpr hj, hb⟩
theorem more_static {g σ h : Heap} {L' st xs : Addr} {vs : List Value} {X : List Addr} {i : Int} {ps : Array Value} {ars : Ars} {na : Nat → MA} (x : LB w g L' σ st xs vs X h i ps ars na) :
    LB w g L' (still h L' X ars na) st xs vs X h i ps ars na ∧ Sub σ (still h L' X ars na) := by
  have h0 : ∀ b ∈ L' :: X ++ (List.range ars.2).flatMap (fun j => (na j).fp), (still h L' X ars na).get? b = none := fun b hb => hideAll_none _ hb
  have hs : Sub σ (still h L' X ars na) := fun b o e => hideAll_get _ (x.sub b o e) (fun q => by
    rcases List.mem_append.mp q with q | q
    · rcases List.mem_cons.mp q with q | q
      · rw [q, x.frL] at e; cases e
      · rw [(x.fr b q).2.2] at e; cases e
    · obtain ⟨j, hj, hb⟩ := mem_fps.mp q
      rw [(x.mod.new j hj b hb).2.2.1] at e; cases e)
  exact ⟨x.more hs (fun b o e => of_hideAll _ e) (h0 _ (by simp)) (fun b hb => h0 b (by simp [hb])) (fun j hj b hb => h0 b (List.mem_append.mpr (.inr (mem_fps.mpr ⟨j, hj, hb⟩)))), hs⟩
/-- what is new is among what stands still -/
theorem new_static {h h8 h9 : Heap} {L' rw : Addr} {X : List Addr} {s : Ars} {na : Nat → MA} (hM : ∀ b ∈ L' :: X ++ (List.range s.2).flatMap (fun j => (na j).fp), b < h.objs.size) (hrw : rw < h.objs.size) (k : Kept [rw] h8 h9) : KeepC (hideAll h8 (List.range h.objs.size)) (still h9 L' X s na) := by
  intro b o _ e
  have hb : h.objs.size ≤ b := by
    rcases Nat.lt_or_ge b h.objs.size with q | q
    · rw [hideAll_none _ (List.mem_range.mpr q)] at e; cases e
    · exact q
  have e' := of_hideAll _ e
  refine hideAll_get _ (k b o (fun q => ?_) e') (fun q => Nat.lt_irrefl _ (Nat.lt_of_lt_of_le (hM b q) hb))
  rw [List.mem_singleton.mp q] at hb
  exact Nat.lt_irrefl _ (Nat.lt_of_lt_of_le hrw hb)
theorem KysAre.get : ∀ {vs : List Value} {ks : List Ky}, KysAre vs ks → ∀ {j : Nat} {v : Value}, vs[j]? = some v → ∃ k, ks[j]? = some k ∧ k.is v = true ∧ k.small
  | _, _, .nil, _, _, e => by simp at e
  | _, _, .cons h1 h2 r, 0, v, e => by cases e; exact ⟨_, rfl, h1, h2⟩
  | _, _, .cons h1 h2 r, j + 1, v, e => r.get (j := j) (by simpa using e)
theorem kid_value {s : Ars} {na : Nat → MA} {i j : Nat} {k : Ky} (hj : kidAt (s.1 i).kids k = some j) : valueAt ((s.1 i).kids.map fun kj => (kj.1, Value.ref (na kj.2).nd)) k = some (.ref (na j).nd) := by
  rw [valueAt_kids (fun j => Value.ref (na j).nd), hj]; rfl
theorem msg_ok {j : Nat} (h : j < 7) : PyData.strOk (Str.ofString "m" ++ Str.ofString (toString (j : Int))) = true := by
  rcases (by omega : j = 0 ∨ j = 1 ∨ j = 2 ∨ j = 3 ∨ j = 4 ∨ j = 5 ∨ j = 6) with e | e | e | e | e | e | e <;> subst e <;> decide +kernel
theorem new_none {g h : Heap} {L' lp : Addr} {own : List (Addr × Obj)} (ho : own = all g L' h) (lt : ∀ p : Addr × Obj, p ∈ own → p.1 < lp) (h1 : lp ≠ L') (h2 : g.get? lp = none) : h.get? lp = none := by
  cases q : h.get? lp with
  | none => rfl
  | some o => exact absurd (lt (lp, o) (ho ▸ mem_all.mpr ⟨q, h1, h2⟩)) (Nat.lt_irrefl _)
end
end Mine
namespace Mine
theorem fresh_B3 : True := by
  w_top off
  trivial
end Mine
-- part X1
namespace Mine
section
variable {w : World} {A : Around} {h₀ : Heap} {L : Addr} {m : Str → Option Value} {s : Shared} {Q : Value → Shared → Prop} {E : Value → Shared → Prop}
section
variable {prog : Program} {R : Result → Shared → Prop} {h : Heap} {g : Array GenState} {d : Drawn} {t : Nat} {os : OsState}
variable {nm q : Str} {C N : Addr} {bs bm : List Value} {hdct : Bool} {sn : List Str} {sub : List Value} {ab : Bool} {col : Option Bool} {dd : Option Addr} {k0 k1 k2 k3 k5 : Option Value}
theorem exc_new_kw {rest : List Value} {kw : List (Str × Value)} (hC : h.get? C = some (excClassObj nm q C N bs bm hdct sn sub ab col dd k0 k1 k2 k3 k5 "Exception.__new__"))
    (hB : (Value.ref C :: bm).contains (.type "Exception") = true) (hA : (Value.ref C :: bm).contains (.type "AttributeError") = false) (hN : (Value.ref C :: bm).contains (.type "NameError") = false)
    (hq : R (.ok (.ret (.ref (h.objs.size + 1)))) ⟨(h.push { cls := .type "tuple", data := .seq rest.toArray }).push
      { cls := .ref C, data := .fields #[.ref h.objs.size, .none, .none, .none, .bool false, .none] }, g, d, t, os⟩) (hrest : rest.length ≤ sizeLine) :
    codeAny (model prog w) A (.builtin "Exception.__new__" ⟨.ref C :: rest, kw⟩) R ⟨h, g, d, t, os⟩ := by
  have F := PySem.F.excBase_Exception
  have hends := F.ends
  refine codeAny_builtinAt F.entry ?_
  unfold Builtin.«BaseException.__new__»
  refine PySem.wpAt_bind ?_
  show PySem.wpAt _ _ _ (stack >>= _) _ _ _
  refine PySem.wpAt_bind (PySem.wpAt_stack fun p below => PySem.wpAt_of_wpAny ?_)
  wp_walk
  refine PySem.wpAt_of_wpAny ?_
  rw [F.owner]
  repeat (first | with_reducible refine wpAny_madeHere_exc F.canon hC ?_ | with_reducible refine wpAny_loadPart_at hC ?_ | (with_reducible refine wpAny_isSubtype_exc hC ?_; first | rw [hB] | rw [hA] | rw [hN]) | wp_step)
  show R _ _
  rw [Heap.size_push]
  exact hq
theorem exc_check_kw {M : Model} {E : Value → Shared → Prop} {Q : Unit → Shared → Prop} {a b c e : Value} (hC : h.get? C = some (excClassObj nm q C N bs bm hdct sn sub ab col dd k0 k1 k2 k3 k5 "Exception.__new__"))
    (hB : (Value.ref C :: bm).contains (.type "Exception") = true) (hq : Q () ⟨h, g, d, t, os⟩) :
    wpAny M A (checkBuiltinCall "Exception.__new__" ⟨.ref C :: [a], [(Str.ofString "validator", b), (Str.ofString "path", c), (Str.ofString "instance", e)]⟩) Q E ⟨h, g, d, t, os⟩ := by
  have F := PySem.F.excBase_Exception
  have hstar := F.noStar
  simp only [checkBuiltinCall, F.newKind, F.newSplit, F.newRow]
  repeat (first | refine wpAny_loadPart_at hC ?_ | (refine wpAny_isSubtype_exc hC ?_; rw [hB]) | refine wpAny_staticBase_exc hC ?_ | refine wpAny_madeBy_exc hC ?_ | simp only [bne_self_eq_false, Bool.false_eq_true, if_false] | wp_step)
  exact hq
theorem make_exc {K : Frag} {fI : Addr} {a b c e : Value} (X : K.In h) (hC : h.get? C = some (excClassObj nm q C N bs bm hdct sn sub ab col dd k0 k1 k2 k3 k5 "Exception.__new__"))
    (hB : (Value.ref C :: bm).contains (.type "Exception") = true) (hA : (Value.ref C :: bm).contains (.type "AttributeError") = false) (hN : (Value.ref C :: bm).contains (.type "NameError") = false)
    (hi : findIn K (.ref C) "__init__" = some (some (.ref fI))) (hf : typeIn K (.ref fI) = some (.type "function")) (hcl : specialIn K (.ref C) "__call__" = some (some (.builtin "type.__call__"))) (hty : instIn K (.ref C) (.type "type") = some true)
    (hq : codeAny (model prog w) (A.under (.builtin "type.__call__" ⟨.ref C :: [a], [(Str.ofString "validator", b), (Str.ofString "path", c), (Str.ofString "instance", e)]⟩)) (.call (.ref fI) ⟨.ref (h.objs.size + 1) :: [a], [(Str.ofString "validator", b), (Str.ofString "path", c), (Str.ofString "instance", e)]⟩) (InitBack (h.objs.size + 1) R)
      ⟨(h.push { cls := .type "tuple", data := .seq #[a] }).push { cls := .ref C, data := .fields #[.ref h.objs.size, .none, .none, .none, .bool false, .none] }, g, d, t, os⟩) :
    codeAny (model prog w) A (.call (.ref C) ⟨[a], [(Str.ofString "validator", b), (Str.ofString "path", c), (Str.ofString "instance", e)]⟩) R ⟨h, g, d, t, os⟩ := by
  have F := PySem.F.excBase_Exception
  have call := looks_specialIn (M := model prog w) X hcl
  have typ := looks_instIn (M := model prog w) X hty
  have hi0 := looks_findIn (M := model prog w) X hi
  refine codeAny_of_tree ?_
  show wpAny _ _ (callAny (.ref C) _) _ _ _
  refine nd_load hC ?_
  show wpAny _ _ (callAny.viaDunder (.ref C) _) _ _ _
  unfold callAny.viaDunder
  refine wpAny_bind (call.at ?_)
  dsimp only
  rw [tc_bind]
  refine wpAny_bind (wpAny_pure (wpAny_bind (wpAny_pure ?_)))
  refine wpAny_pure (a := Fin.again (.call (.builtin "type.__call__") ⟨.ref C :: [a], [(Str.ofString "validator", b), (Str.ofString "path", c), (Str.ofString "instance", e)]⟩)) (And.intro rfl ?_)
  refine codeAny_call_builtin_at (Code.quiet_builtin _ (by decide +kernel)) entry_typeCall ?_
  refine @check_slot (model prog w) _ _ ⟨h, g, d, t, os⟩ "type.__call__" "type" "__call__" (.ref C) [a] [(Str.ofString "validator", b), (Str.ofString "path", c), (Str.ofString "instance", e)] _ tc_kind tc_split typ (tc_args _ _ _) ?_
  unfold Builtin.«type.__call__»
  repeat (first | with_reducible refine wpAny_loadPart_at hC ?_ | with_reducible refine wpAny_madeBy_exc hC ?_ | wp_step)
  refine codeAny_call_builtin_code (Code.quiet_builtin _ F.quiet) (exc_check_kw hC hB ?_)
  refine exc_new_kw hC hB hA hN ?_ (by show 1 ≤ sizeLine; rw [sizeLine_eq]; decide)
  show wpAny _ _ _ _ _ _
  have k : ∀ b o, h.get? b = some o → ((h.push { cls := .type "tuple", data := .seq #[a] }).push { cls := .ref C, data := .fields #[.ref h.objs.size, .none, .none, .none, .bool false, .none] }).get? b = some o := fun b o e => Heap.get?_push_of_some _ (Heap.get?_push_of_some _ e)
  have hx : ((h.push { cls := .type "tuple", data := .seq #[a] }).push { cls := .ref C, data := .fields #[.ref h.objs.size, .none, .none, .none, .bool false, .none] }).get? (h.objs.size + 1) = some { cls := .ref C, data := .fields #[.ref h.objs.size, .none, .none, .none, .bool false, .none] } := by heap_get
  have t1 : Looks (model prog w) ((h.push { cls := .type "tuple", data := .seq #[a] }).push { cls := .ref C, data := .fields #[.ref h.objs.size, .none, .none, .none, .bool false, .none] }) (typeOf (.ref (h.objs.size + 1))) (.ref C) := (Looks.ld hx).andThen .now
  have hC1 := k _ _ hC
  have i1 := hi0.keeps k
  have b1 := (bind_fn (M := model prog w) X (.ref (h.objs.size + 1)) hf).keeps k
  have hcC : (Value.ref C :: bm).contains (.ref C) = true := by simp
  unfold isInstance callSpecial? specialOf
  repeat (first | (with_reducible refine wpAny_isSubtype_exc hC1 ?_; rw [hcC]) | with_reducible refine wpAny_call ?_ | lk)
  refine codeAny_mono hq fun r s' z => ?_
  rcases r with e | (v | _ | _ | _) <;> first | exact z | exact z.elim | skip
  obtain ⟨rfl, z⟩ := z
  exact wpAny_pure (wpAny_pure z)
end
end
end Mine
namespace Mine
theorem fresh_X1 : True := by
  w_top off
  trivial
end Mine
-- part S1
namespace Mine
section
variable {w : World} {A : Around} {h₀ : Heap} {L : Addr} {m : Str → Option Value} {s : Shared} {Q : Value → Shared → Prop} {E : Value → Shared → Prop}
section
variable {prog : Program} {x C l it : Addr} {K : Frag} {ox ol : Obj} {od : Option Obj} {items : Array Value} {nl i : Nat}
theorem iter_seq {E : Value → Shared → Prop} (X : K.In s.heap) (hat : s.heap.get? x = some ox) (hcl : ox.cls = .ref C) (hs : findIn K (.ref C) "__iter__" = some (some (.builtin "list.__iter__"))) (hsub : subIn K (.ref C) (.type "list") = some true)
    (h : Q (.ref s.heap.objs.size) { s with heap := s.heap.push { cls := .type "list_iterator", data := .fields #[.ref x, .int 0 0] } }) : wpAny (model prog w) A (pyIter (.ref x)) Q E s := by
  have LT : Looks (model prog w) s.heap (typeOf (.ref x)) (.ref C) := hcl ▸ (Looks.ld hat).andThen .now
  have LS : Looks (model prog w) s.heap (isInstance (.ref x) (.type "list")) true := LT.andThen (looks_subIn X (t := .ref C) (base := .type "list") hsub)
  have run : wpAny (model prog w) A (call (.builtin "list.__iter__") [.ref x]) (fun v s' => v = .ref s.heap.objs.size ∧ s' = { s with heap := s.heap.push { cls := .type "list_iterator", data := .fields #[.ref x, .int 0 0] } }) E s := by
    refine wpAny_call (codeAny_call_builtin F.slot_list_iter.plain F.entry_list_iter (check_slot (owner := "list") (n := "__iter__") (by decide +kernel) (by decide +kernel) (LT.andThen (looks_subIn X (t := .ref C) (base := .type "list") hsub)) (args_list_iter _) ?_))
    show wpAny _ _ (do ret (← newFields "list_iterator" [.ref x, rawInt 0])) _ _ s
    exact wpAny_bind (wpAny_newObj_type (wpAny_pure ⟨rfl, rfl⟩) (by size_fits))
  have fin : wpAny (model prog w) A (call (.builtin "list.__iter__") [.ref x] >>= fun v => pure (some v)) (fun r s' => r = some (.ref s.heap.objs.size) ∧ s' = { s with heap := s.heap.push { cls := .type "list_iterator", data := .fields #[.ref x, .int 0 0] } }) E s :=
    wpAny_bind (wpAny_mono run (fun v s' h' => wpAny_pure ⟨by rw [h'.1], h'.2⟩) fun _ _ z => z)
  have one : ∀ refuse : Sem Value, wpAny (model prog w) A (callSpecialIfBoundUnlessNone? (.ref x) "__iter__" refuse) (fun r s' => r = some (.ref s.heap.objs.size) ∧ s' = { s with heap := s.heap.push { cls := .type "list_iterator", data := .fields #[.ref x, .int 0 0] } }) E s := by
    intro refuse
    simp only [callSpecialIfBoundUnlessNone?, bindSpecialIfBound?]
    refine wpAny_holding (wpAny_bind (wpAny_bind (wpAny_bind (LT.here ((looks_findIn X hs).here ?_)))))
    have fin2 : wpAny (model prog w) A (if (Value.builtin "list.__iter__" == Value.none) = true then (refuse >>= fun v => pure (some v)) else (call (.builtin "list.__iter__") [.ref x] >>= fun v => pure (some v))) (fun r s' => r = some (.ref s.heap.objs.size) ∧ s' = { s with heap := s.heap.push { cls := .type "list_iterator", data := .fields #[.ref x, .int 0 0] } }) E s := by
      rw [if_neg (show ¬ ((Value.builtin "list.__iter__" == Value.none) = true) from Bool.false_ne_true)]
      exact fin
    refine wpAny_bind (wpAny_askSetting (wpAny_ite ?_))
    split
    · exact wpAny_bind (wpAny_of_eq (F.slot_list_iter.bind _) (wpAny_pure fin2))
    · exact wpAny_tryCatch (wpAny_bind (wpAny_of_eq (F.slot_list_iter.bind _) (wpAny_pure fin2)))
  unfold pyIter
  refine wpAny_bind (wpAny_bind (LT.here ((looks_findIn X hs).here ?_)))
  show wpAny _ A (callSpecialIfBoundUnlessNone? (.ref x) "__iter__" _ >>= _) Q E s
  refine wpAny_bind (wpAny_mono (one _) (fun r s' hr => ?_) fun _ _ z => z)
  obtain ⟨rfl, rfl⟩ := hr
  exact wpAny_bind (wpAny_specialOf (name := Str.ofString "__next__") (T := "list_iterator") ⟨_, Heap.get?_push_size _ rfl, rfl⟩ slot_listiter_next.lookup (wpAny_pure h))
/-- an iterator over what holds values in a row, whatever its class -/
theorem next_seq {E : Value → Shared → Prop} {Q : Option Value → Shared → Prop} {y : Value} (hit : s.heap.IsListIter it l i) (hol : s.heap.get? l = some ol) (hdl : ol.data = .seq items nl) (hx : items[i]? = some y)
    (h : ∀ h', h'.IsListIter it l (i + 1) → Heap.SameBut it s.heap h' → Q (some y) { s with heap := h' }) : wpAny (model prog w) A (pyNext (.ref it)) Q E s := by
  obtain ⟨o, ho, hc, hd⟩ := id hit
  unfold pyNext
  refine wpAny_bind (wpAny_attempt (wpAny_callSpecial?_slot (name := Str.ofString "__next__") hit.typeIs slot_listiter_next (wpAny_call_entry slot_listiter_next hit.typeIs entry_listiter_next ?_ (args_listiter_next _))))
  refine wpAny_bind (m := field (.ref it) 0) (wpAny_field ho hd (x := .ref l) rfl ?_)
  have e0 : ¬ ((Value.ref l == Value.none) = true) := Bool.false_ne_true
  dsimp only
  rw [if_neg e0]
  refine wpAny_bind (m := field (.ref it) 1) (wpAny_field ho hd (x := .int i 0) rfl ?_)
  refine wpAny_bind (m := seqItems? (.ref l)) (wpAny_seqItems hol hdl ?_)
  simp only [Int.toNat_natCast, hx]
  refine wpAny_bind (wpAny_setField ho hd (by simp) (wpAny_pure ⟨y, rfl, wpAny_pure (h _ ?_ (Heap.SameBut.update ..))⟩))
  exact ⟨_, Heap.get?_update_self _ ho (Obj.isFreed_of_fields (Obj.data_mapFields hd _)), (Obj.cls_mapFields ..).trans hc, by rw [Obj.data_mapFields hd]; simp [rawInt]⟩
theorem next_seq_end {E : Value → Shared → Prop} {Q : Option Value → Shared → Prop} (hh : A.handled = none) (hit : s.heap.IsListIter it l i) (hol : s.heap.get? l = some ol) (hdl : ol.data = .seq items nl) (hx : items[i]? = none)
    (h : ∀ h', Heap.ExtBut it s.heap h' → Q none { s with heap := h' }) : wpAny (model prog w) A (pyNext (.ref it)) Q E s := by
  obtain ⟨o, ho, hc, hd⟩ := id hit
  unfold pyNext
  refine wpAny_bind (wpAny_attempt (wpAny_callSpecial?_slot (name := Str.ofString "__next__") hit.typeIs slot_listiter_next (wpAny_call_entry slot_listiter_next hit.typeIs entry_listiter_next ?_ (args_listiter_next _))))
  refine wpAny_bind (m := field (.ref it) 0) (wpAny_field ho hd (x := .ref l) rfl ?_)
  have e0 : ¬ ((Value.ref l == Value.none) = true) := Bool.false_ne_true
  dsimp only
  rw [if_neg e0]
  refine wpAny_bind (m := field (.ref it) 1) (wpAny_field ho hd (x := .int i 0) rfl ?_)
  refine wpAny_bind (m := seqItems? (.ref l)) (wpAny_seqItems hol hdl ?_)
  simp only [Int.toNat_natCast, hx]
  refine wpAny_bind (wpAny_rule (wpAny_bind (wpAny_setField ho hd (by simp) ?_)))
  refine wpAny_bind (m := newExc (.type "StopIteration") []) ?_
  simp only [newExc, newTuple]
  refine wpAny_bind (wpAny_newObj_type ?_ (by size_fits))
  refine wpAny_bind (m := firstArgMember _ _) (wpAny_of_eq (a := Value.none) (by first | rfl | (simp only [firstArgMember]; rfl)) ?_)
  refine wpAny_newObj_type ?_ (by size_fits)
  simp only [raiseNew]
  refine wpAny_bind (wpAny_handled ?_)
  rw [show A.in1.handled = none from hh]
  refine wpAny_bind (wpAny_pure (wpAny_throw ?_))
  refine wpAny_bind (wpAny_isInstance (T := "StopIteration") (b := true) ⟨_, Heap.get?_push_size _ rfl, rfl⟩ isSubtype_stop ?_)
  exact wpAny_pure (h _ (((Heap.SameBut.update ..).extBut.push _).push _))
/-- a row of values walks -/
theorem walks_seq (hh : A.handled = none) (I ax : Addr) (hne : ax ≠ I) (o : Obj) (items : Array Value) (n : Nat) (hd : o.data = .seq items n) :
    Walks prog w A I [I, ax] [I] items.size (fun i v => items[i]? = some v) (fun i h => h.IsListIter I ax i ∧ h.get? ax = some o) where
  sub := fun b hb => by simp at hb; simp [hb]
  frame := fun _ _ _ st hk => ⟨st.1.at fun o e => hk I (by simp) o e, hk ax (by simp) _ st.2⟩
  item := fun i s Q E hi st hQ => by
    refine next_seq st.1 st.2 hd (y := items[i]) (by simp [hi]) fun h' hit' hs' => ?_
    exact hQ _ h' s.toks (by simp [hi]) ⟨hit', (hs'.2 ax hne).trans st.2⟩ fun b o hb e => hs'.extBut b o (fun h => hb (by simp [h])) e
  done := fun s Q E st hQ => next_seq_end hh st.1 st.2 hd (by simp) fun h' he' => hQ h' s.toks fun b o hb e => he' b o (fun h => hb (by simp [h])) e
  self := fun _ _ _ _ st hQ => wpAny_pyIter_listiter st.1 hQ
theorem loop_seq {env : Env} {x : Str} {body : List Stmt} {Q : Flow → Shared → Prop} {l C : Addr} {K : Frag} {ol : Obj} {od : Option Obj} {items : Array Value} {n : Nat} {m : Str → Option Value} {E : Value → Shared → Prop} (hh : A.handled = none) (X : K.In s.heap) (hat : s.heap.get? l = some ol) (hcl : ol.cls = .ref C) (hs : findIn K (.ref C) "__iter__" = some (some (.builtin "list.__iter__"))) (hsub : subIn K (.ref C) (.type "list") = some true)
    (hd : ol.data = .seq items n) (hlL : l ≠ env.locals) (hns : s.heap.Ns env.locals m)
    (mk : ∀ h₂ : Heap, s.heap.objs.size < h₂.objs.size → Kept [] s.heap h₂ →
      LoopW prog w A env x body Q [s.heap.objs.size, l] s.heap.objs.size items.size (fun i v => items[i]? = some v) m { s with heap := h₂ }) :
    wpAny (model prog w) A (pyIter (.ref l)) (fun it s₂ => LoopJ prog w A env x body Q it s₂) E s := by
  have hlt : l < s.heap.objs.size := Heap.lt_size hat
  refine iter_seq X hat hcl hs hsub ?_
  have hz : (s.heap.push { cls := .type "list_iterator", data := .fields #[.ref l, .int 0 0] }).objs.size = s.heap.objs.size + 1 := Heap.size_push ..
  obtain ⟨J, h0, st, turn, done⟩ := mk _ (by rw [hz]; exact Nat.lt_succ_self _) (Kept.push _ _ { cls := .type "list_iterator", data := .fields #[.ref l, .int 0 0] })
  refine ⟨_, _, _, _, _, _, m, J, rfl, walks_seq hh s.heap.objs.size l (Nat.ne_of_lt hlt) ol items n hd, ?_, ⟨⟨_, Heap.get?_push_size _ rfl, rfl, rfl⟩, Heap.get?_push_of_some _ hat⟩, hns.push _, h0, st, fun i v m₁ s₁ hi hP st => turn i v m₁ s₁ hi hP (let ⟨⟨o, e, _⟩, _⟩ := st; ⟨o, e⟩), done⟩
  intro hm
  rcases List.mem_cons.mp hm with e | hm
  · exact absurd hns.lt (e ▸ Nat.lt_irrefl _)
  · exact hlL (List.mem_singleton.mp hm).symm
end
end
end Mine
namespace Mine
theorem fresh_S1 : True := by
  w_top off
  trivial
end Mine
-- part N5
namespace Mine
section
variable {w : World} {A : Around} {h₀ : Heap} {L : Addr} {m : Str → Option Value} {s : Shared} {Q : Value → Shared → Prop} {E : Value → Shared → Prop}
theorem isStr_ne {k : Value} {x y : Str} (h : k.isStr x = true) (hy : y ≠ x) : k.isStr y = false := by
  cases k with
  | str z t =>
    have h : (z == x) = true := h
    show (z == y) = false
    rw [beq_iff_eq] at h
    subst h
    exact beq_eq_false_iff_ne.mpr (Ne.symm hy)
  | _ => cases h
theorem putL_any {name : Str} {hsh : Int} {t : Tok} {v : Value} : ∀ es : List DictEntry, (putL name hsh (.str name t) v es).any (·.refKey) = es.any (·.refKey)
  | [] => rfl
  | e :: r => by
    show (if e.key.isStr name then (⟨e.hash, e.key, v⟩ :: r : List DictEntry) else e :: putL name hsh (.str name t) v r).any (·.refKey) = _
    by_cases h : e.key.isStr name = true
    · rw [if_pos h]; rfl
    · rw [if_neg h, List.any_cons, List.any_cons, putL_any r]
theorem putL_same {name : Str} {hsh : Int} {t : Tok} {v : Value} : ∀ es : List DictEntry, ∃ e, (putL name hsh (.str name t) v es).find? (·.key.isStr name) = some e ∧ e.val = v
  | [] => ⟨_, by show List.find? _ [(⟨hsh, .str name t, v⟩ : DictEntry)] = _; rw [List.find?_cons, show (DictEntry.mk hsh (.str name t) v).key.isStr name = true from beq_self_eq_true name], rfl⟩
  | e :: r => by
    show ∃ e', (if e.key.isStr name then (⟨e.hash, e.key, v⟩ :: r : List DictEntry) else e :: putL name hsh (.str name t) v r).find? (·.key.isStr name) = some e' ∧ _
    by_cases h : e.key.isStr name = true
    · rw [if_pos h, List.find?_cons, show (DictEntry.mk e.hash e.key v).key.isStr name = true from h]; exact ⟨_, rfl, rfl⟩
    · rw [if_neg h, List.find?_cons, Bool.eq_false_iff.mpr h]; exact putL_same r
theorem putL_other {name y : Str} {hsh : Int} {t : Tok} {v : Value} (hy : y ≠ name) : ∀ es : List DictEntry, (putL name hsh (.str name t) v es).find? (·.key.isStr y) = es.find? (·.key.isStr y)
  | [] => by
    show List.find? _ [(⟨hsh, .str name t, v⟩ : DictEntry)] = none
    rw [List.find?_cons, show (DictEntry.mk hsh (.str name t) v).key.isStr y = false from isStr_ne (k := .str name t) (beq_self_eq_true name) hy]
    rfl
  | e :: r => by
    show (if e.key.isStr name then (⟨e.hash, e.key, v⟩ :: r : List DictEntry) else e :: putL name hsh (.str name t) v r).find? (·.key.isStr y) = _
    by_cases h : e.key.isStr name = true
    · rw [if_pos h, List.find?_cons, List.find?_cons, show (DictEntry.mk e.hash e.key v).key.isStr y = false from isStr_ne h hy]
    · rw [if_neg h, List.find?_cons, List.find?_cons, putL_other hy r]
theorem getL_putL {name : Str} {hsh : Int} {t : Tok} {v : Value} (es : List DictEntry) (y : Str) : getL y (putL name hsh (.str name t) v es) = if y = name then some (some v) else getL y es := by
  unfold getL
  rw [putL_any]
  by_cases h : y = name
  · subst h
    obtain ⟨e, h1, h2⟩ := putL_same (name := y) (hsh := hsh) (t := t) (v := v) es
    rw [h1, if_pos rfl, ← h2]
  · rw [putL_other h, if_neg h]
theorem putL_len {name : Str} {hsh : Int} {k v : Value} : ∀ es : List DictEntry, (putL name hsh k v es).length ≤ es.length + 1
  | [] => Nat.le_refl _
  | e :: r => by
    show (if e.key.isStr name then (⟨e.hash, e.key, v⟩ :: r : List DictEntry) else e :: putL name hsh k v r).length ≤ _
    by_cases h : e.key.isStr name = true
    · rw [if_pos h]; simp
    · rw [if_neg h]; simpa using putL_len r
theorem putL_len' {name : Str} {hsh : Int} {k v : Value} : ∀ es : List DictEntry, (es.find? (·.key.isStr name)).isSome = true → (putL name hsh k v es).length = es.length
  | [], h => by cases h
  | e :: r, hs => by
    show (if e.key.isStr name then (⟨e.hash, e.key, v⟩ :: r : List DictEntry) else e :: putL name hsh k v r).length = _
    by_cases h : e.key.isStr name = true
    · rw [if_pos h]; rfl
    · rw [if_neg h]
      rw [List.find?_cons, Bool.eq_false_iff.mpr h] at hs
      simpa using putL_len' r hs
theorem set_inst {t td : Addr} {f : Str → Option Value} {v : Value} (F : Fr h₀ L s.heap m) (X : (hd.heap_39 w.params).In h₀) (ho : s.heap.get? t = some (instObj 197 td)) (hd : Names s.heap td f) (hdL : td ≠ L) (hd0 : h₀.get? td = none)
    (ret : ∀ h' tk', Fr h₀ L h' m → Kept [L, td] s.heap h' → Names h' td (fun x => if x = Str.ofString "_instance" then some v else f x) → Q .none { s with heap := h', toks := tk' }) {QQ : Unit → Shared → Prop} (hQQ : ∀ s', Q .none s' → QQ () s') :
    wpAny (model PySem.Challenge.rw_vk0009_01.row.prog w) A (setAttr (.ref t) (Str.ofString "_instance") v) QQ E s := by
  obtain ⟨es, n, h1, h2, h3, h4⟩ := hd
  have I : InstAt s.heap t (instObj 197 td) 197 (some (dictOf es n)) := ⟨ho, rfl, rfl, h1⟩
  have N : News h₀ L s.heap ((td, dictOf es n) :: (all h₀ L s.heap).filter fun p => p.1 ≠ td) := News.cons (News.sub (news_all h₀ L s.heap) fun p hp => (List.mem_filter.mp hp).1) h1 hdL hd0
  revert X; k_fill; intro X
  refine' set_dict F X N I rfl ?k1 ?k2 ?k3 ?k4 (by rw [h2]; rfl) rfl (.head fun p hp => by simpa using (List.mem_filter.mp hp).2) (Nat.le_trans (putL_len es) (by omega)) (fun h' F' N' => hQQ _ (ret h' _ F' (fun b o hb e => ?hk) ⟨_, _, (N' _ (.head _)).1, fun x => ?hg, ?hl, fun q => ?hq⟩))
  case k1 => k_is
  case k2 => k_is
  case k3 => k_is
  case k4 => k_is
  case hk =>
    have hb' : b ≠ L ∧ b ≠ td := by simpa using hb
    cases q : h₀.get? b with
    | some o' =>
      have := F.keep b o' q
      rw [e] at this; cases this
      exact F'.keep b o q
    | none => exact (N' (b, o) (.tail _ (List.mem_filter.mpr ⟨mem_all.mpr ⟨e, hb'.1, q⟩, by simpa using hb'.2⟩))).1
  case hg =>
    rw [getL_putL, h2]
    show _ = some (if x = Str.ofString "_instance" then some v else f x)
    by_cases q : x = Str.ofString "_instance"
    · rw [if_pos q, if_pos q]
    · rw [if_neg q, if_neg q]
  case hl =>
    cases q : f (Str.ofString "_instance") with
    | none => exact Nat.le_trans (putL_len es) (by have := h4 q; omega)
    | some y =>
      have := h2 (Str.ofString "_instance")
      rw [q] at this
      rw [putL_len' es (by
        unfold getL at this
        cases z : es.find? (·.key.isStr (Str.ofString "_instance")) with
        | some e => rfl
        | none => rw [z] at this; dsimp only at this; split at this <;> cases this)]
      exact h3
  case hq =>
    have q : (if Str.ofString "_instance" = Str.ofString "_instance" then some v else f (Str.ofString "_instance")) = none := q
    rw [if_pos rfl] at q; cases q
end
end Mine
namespace Mine
theorem fresh_N5 : True := by
  w_top off
  trivial
end Mine
-- part R1
namespace Mine
section
variable {w : World} {A : Around} {h₀ : Heap} {L : Addr} {m : Str → Option Value} {s : Shared} {Q : Value → Shared → Prop} {E : Value → Shared → Prop}
/-- what stands in the walks: the model's arena and the tree's -/
structure WJ (w : World) (g : Heap) (L' st xs : Addr) (wsl : List Value) (X : List Addr) (h : Heap) (σ : Heap) (i : Int) (ps : Array Value) (ars arT : Ars) (na : Nat → MA) (ta : Nat → TA) (c : Nat) (nd0 t0 : Addr) : Prop where
  B : LB w g L' σ st xs wsl X h i ps ars na
  T : TOK w g L' σ X h arT ta
  OM : Ok c ars
  OT : Ok c arT
  P : Pcs w σ arT.2 arT.1
  tr : TriplesOk ps.toList
  sep : ∀ a < ars.2, ∀ b < arT.2, ∀ y, y ∈ (na a).fp → y ∉ (ta b).fp
  i0 : 0 ≤ i
  nd : (na 0).nd = nd0
  t0 : (ta 0).t = t0
theorem WJ.keptS {g h h' : Heap} {L' st xs nd0 t0 : Addr} {wsl : List Value} {X S : List Addr} {σ : Heap} {i : Int} {ps : Array Value} {ars arT : Ars} {na : Nat → MA} {ta : Nat → TA} {c : Nat} (x : WJ w g L' st xs wsl X h σ i ps ars arT na ta c nd0 t0) (k : Kept S h h') (hS : ∀ b ∈ S, b = L' ∨ (b ∈ X ∧ b ≠ st ∧ b ≠ 188)) : WJ w g L' st xs wsl X h' σ i ps ars arT na ta c nd0 t0 :=
  ⟨x.B.keptS k hS, x.T.kept k fun j hj b hb q => by
    rcases hS b q with e | e
    · exact (x.T.new j hj b hb).1 e
    · exact (x.T.new j hj b hb).2.2.2 e.1, x.OM, x.OT, x.P, x.tr, x.sep, x.i0, x.nd, x.t0⟩
theorem WJ.keptL {g h h' : Heap} {L' st xs nd0 t0 : Addr} {wsl : List Value} {X : List Addr} {σ : Heap} {i : Int} {ps : Array Value} {ars arT : Ars} {na : Nat → MA} {ta : Nat → TA} {c : Nat} (x : WJ w g L' st xs wsl X h σ i ps ars arT na ta c nd0 t0) (k : Kept [L'] h h') : WJ w g L' st xs wsl X h' σ i ps ars arT na ta c nd0 t0 :=
  x.keptS k fun b hb => .inl (List.mem_singleton.mp hb)
theorem WJ.addX {g h : Heap} {L' st xs nd0 t0 I : Addr} {wsl : List Value} {X : List Addr} {σ : Heap} {i : Int} {ps : Array Value} {ars arT : Ars} {na : Nat → MA} {ta : Nat → TA} {c : Nat} (x : WJ w g L' st xs wsl X h σ i ps ars arT na ta c nd0 t0) (hI : h.get? I = none) (h1 : I ≠ L') (h2 : g.get? I = none) : WJ w g L' st xs wsl (I :: X) h σ i ps ars arT na ta c nd0 t0 :=
  ⟨x.B.addX hI h1 h2, ⟨x.T.tre, fun j hj b hb => ⟨(x.T.new j hj b hb).1, (x.T.new j hj b hb).2.1, (x.T.new j hj b hb).2.2.1, fun q => by
    rcases List.mem_cons.mp q with e | e
    · obtain ⟨o, e'⟩ := (x.T.tre j hj).there b hb
      rw [e, hI] at e'; cases e'
    · exact (x.T.new j hj b hb).2.2.2 e⟩, x.T.sep, x.T.nod⟩, x.OM, x.OT, x.P, x.tr, x.sep, x.i0, x.nd, x.t0⟩
theorem WJ.dropX {g h : Heap} {L' st xs nd0 t0 : Addr} {wsl : List Value} {X X' : List Addr} {σ : Heap} {i : Int} {ps : Array Value} {ars arT : Ars} {na : Nat → MA} {ta : Nat → TA} {c : Nat} (x : WJ w g L' st xs wsl X h σ i ps ars arT na ta c nd0 t0) (hX : ∀ b ∈ X', b ∈ X) (h1 : st ∈ X') (h2 : 188 ∈ X') : WJ w g L' st xs wsl X' h σ i ps ars arT na ta c nd0 t0 :=
  ⟨x.B.dropX hX h1 h2, ⟨x.T.tre, fun j hj b hb => ⟨(x.T.new j hj b hb).1, (x.T.new j hj b hb).2.1, (x.T.new j hj b hb).2.2.1, fun q => (x.T.new j hj b hb).2.2.2 (hX b q)⟩, x.T.sep, x.T.nod⟩, x.OM, x.OT, x.P, x.tr, x.sep, x.i0, x.nd, x.t0⟩
section
variable {σ : Heap} {st xs nd0 t0 : Addr} {wsl : List Value} {ns : List Int} {X : List Addr} {i : Int} {ps : Array Value} {ars arT : Ars} {na : Nat → MA} {ta : Nat → TA} {c ix : Nat} {k : Ky} {kv : Value}
theorem wnext {lim : Int} {tl : Tok} (H : Here w A h₀ L) (hdp : A.depth < 900) (hun : A.units < 9000) (F : Fr h₀ L s.heap m) (W : WJ w h₀ L st xs wsl X s.heap σ i ps ars arT na ta c nd0 t0) (hI : IntsAre wsl ns) (hlen : ns.length ≤ 60) (hi1 : i < 1000) (hl0 : 0 < lim) (hl1 : lim < 10)
    (ret : ∀ r tr h' tk', Fr h₀ L h' m → WJ w h₀ L st xs wsl X h' σ (i + 1) ps ars arT na ta c nd0 t0 → Kept [st] s.heap h' → 0 ≤ r → r < lim → Q (.int r tr) { s with heap := h', toks := tk' }) :
    wpAny (model PySem.Challenge.rw_vk0009_01.row.prog w) A (call (.ref 208) [.ref st, .int lim tl]) Q E s :=
  lnext H hdp hun F W.B hI hlen W.i0 hi1 hl0 hl1 fun r tr h' tk' F' B' k' h0 h1 => ret r tr h' tk' F' ⟨B', W.T.kept k' (fun j hj b hb q => (W.T.new j hj b hb).2.2.2 ((List.mem_singleton.mp q) ▸ W.B.inX.1)), W.OM, W.OT, W.P, W.tr, W.sep, by have := W.i0; omega, W.nd, W.t0⟩ k' h0 h1
/-- a walk's step is refused or not -/
theorem wcase (hp : Pcs w σ arT.2 arT.1) (hi : ix < arT.2) (k : Ky) : (∀ u, (arT.1 ix).piece = some u → ∃ sh, ShapeAt w σ u sh ∧ (kidAt (arT.1 ix).kids k = none → sh.lacks k = Str.ofString "")) ∨
    (kidAt (arT.1 ix).kids k = none ∧ ∃ u sh, (arT.1 ix).piece = some u ∧ ShapeAt w σ u sh ∧ sh.lacks k ≠ Str.ofString "") := by
  cases hpc : (arT.1 ix).piece with
  | none => exact .inl fun u e => by cases e
  | some u =>
    obtain ⟨sh, h⟩ := hp ix hi u hpc
    cases q : kidAt (arT.1 ix).kids k with
    | some j => exact .inl fun u' e => by cases e; exact ⟨sh, h, fun e => by cases e⟩
    | none =>
      by_cases hl : sh.lacks k = Str.ofString ""
      · exact .inl fun u' e => by cases e; exact ⟨sh, h, fun _ => hl⟩
      · exact .inr ⟨rfl, u, sh, rfl, h, hl⟩
theorem wstep (H : Here w A h₀ L) (hdp : A.depth < 890) (hun : A.units < 8900) (F : Fr h₀ L s.heap m) (W : WJ w h₀ L st xs wsl X s.heap σ i ps ars ars na ta c nd0 t0) (hc : c ≤ 900) (hi : ix < ars.2) (hdep : (ars.1 ix).dep ≤ 2) (hk : k.is kv = true) (hsm : k.small) (hX : ∀ b ∈ X, ∃ o, s.heap.get? b = some o)
    (hp : ∀ u, (ars.1 ix).piece = some u → ∃ sh, ShapeAt w σ u sh ∧ (kidAt (ars.1 ix).kids k = none → sh.lacks k = Str.ofString ""))
    (ret : ∀ na' t h' tk', Fr h₀ L h' m → WJ w h₀ L st xs wsl X h' σ i ps (stepTo ars ix k).1 ars na' ta (c + 1) nd0 t0 → (∀ j < ars.2, na' j = na j) → (∀ b ∈ X, ∃ o, h'.get? b = some o) → (∀ b o, b ∈ X → s.heap.get? b = some o → h'.get? b = some o) → Q (.str (Str.ofString "") t) { s with heap := h', toks := tk' }) :
    wpAny (model PySem.Challenge.rw_vk0009_01.row.prog w) A (call (.ref 239) [.ref (na ix).nd, kv]) Q E s := by
  have S := step_ok W.OM hi hsm hdep
  refine mstep H hdp hun F W.B.mod W.OM (by omega) hi hk W.B.sub hX hp (fun na' t h' tk' k1 k2 k3 k4 => ?_)
  have hnX : ∀ b ∈ X, b ∉ [(na ix).nk] := fun b hb q => (W.B.mod.new ix hi _ MA.mem.2.2.1).2.2.2 ((List.mem_singleton.mp q) ▸ hb)
  refine ret na' t h' tk' (W.B.frameM F hi MA.mem.2.2.1 k1) ⟨W.B.grow hi MA.mem.2.2.1 k1 k2, W.T.kept k1 (fun j hj b hb q => W.sep ix hi j hj _ MA.mem.2.2.1 ((List.mem_singleton.mp q) ▸ hb)), S.ok, W.OT.mono (Nat.le_succ _), W.P, W.tr, fun a ha b hb y hy hy' => ?_, W.i0, (by rw [k3 0 W.OM.pos]; exact W.nd), W.t0⟩ k3 (fun b hb => let ⟨o, e⟩ := hX b hb; ⟨o, k1 b o (hnX b hb) e⟩) fun b o hb e => k1 b o (hnX b hb) e
  rcases k4 a ha y hy with ⟨h1, h2⟩ | h1
  · exact W.sep a h1 b hb y h2 hy'
  · obtain ⟨o, e⟩ := (W.T.tre b hb).there y hy'
    rw [h1] at e; cases e
theorem whold {u : Value} {sh : Sh} (H : Here w A h₀ L) (hdp : A.depth < 890) (hun : A.units < 8900) (F : Fr h₀ L s.heap m) (W : WJ w h₀ L st xs wsl X s.heap σ i ps ars ars na ta c nd0 t0) (hi : ix < ars.2) (hk : k.is kv = true)
    (q : kidAt (ars.1 ix).kids k = none) (hp : (ars.1 ix).piece = some u) (hsh : ShapeAt w σ u sh) (hla : sh.lacks k ≠ Str.ofString "")
    (ret : ∀ t h' tk', Kept [] s.heap h' → Q (.str (sh.lacks k) t) { s with heap := h', toks := tk' }) :
    wpAny (model PySem.Challenge.rw_vk0009_01.row.prog w) A (call (.ref 239) [.ref (na ix).nd, kv]) Q E s := mhold H hdp hun F W.B.mod hi hk W.B.sub q hp hsh hla ret
theorem stepTo_pieces {s : Ars} {i : Nat} {k : Ky} (hp : Pcs w σ s.2 s.1) (hi : i < s.2) : Pcs w σ (stepTo s i k).1.2 (stepTo s i k).1.1 := by
  cases q : kidAt (s.1 i).kids k with
  | some j => rw [stepTo_old q]; exact hp
  | none =>
    obtain ⟨e1, e2, e3, e4, e5⟩ := stepTo_new hi q
    intro j hj u hu
    rw [e2] at hj
    rcases Nat.lt_succ_iff_lt_or_eq.mp hj with hj | hj
    · by_cases hji : j = i
      · subst hji; rw [e4] at hu; exact hp j hj u hu
      · rw [e3 j hj hji] at hu; exact hp j hj u hu
    · rw [hj, e5] at hu; cases hu
theorem wread (H : Here w A h₀ L) (hdp : A.depth < 870) (hun : A.units < 8700) (F : Fr h₀ L s.heap m) (W : WJ w h₀ L st xs wsl X s.heap σ i ps (stepTo ars ix k).1 ars na ta (c + 1) nd0 t0) (hc : c ≤ 900) (hO : Ok c ars) (hi : ix < ars.2) (hdep : (ars.1 ix).dep ≤ 2) (hk : k.is kv = true) (hsm : k.small) (hX : ∀ b ∈ X, ∃ o, s.heap.get? b = some o)
    (hp : ∀ u, (ars.1 ix).piece = some u → ∃ sh, ShapeAt w σ u sh ∧ (kidAt (ars.1 ix).kids k = none → sh.lacks k = Str.ofString ""))
    (ret : ∀ ta' t h' tk', Fr h₀ L h' m → WJ w h₀ L st xs wsl X h' σ i ps (stepTo ars ix k).1 (stepTo ars ix k).1 na ta' (c + 1) nd0 t0 → (∀ j < ars.2, ta' j = ta j) → (∀ b ∈ X, ∃ o, h'.get? b = some o) → (∀ b o, b ∈ X → s.heap.get? b = some o → h'.get? b = some o) → Q (.str (Str.ofString "") t) { s with heap := h', toks := tk' }) :
    wpAny (model PySem.Challenge.rw_vk0009_01.row.prog w) A (call (.ref 246) [.ref (ta ix).t, kv]) Q E s := by
  have S := step_ok hO hi hsm hdep
  refine tread H hdp hun F W.T W.OT (by omega) hi hk hsm W.B.sub hX hp (fun ta' t h' tk' k1 k2 k3 k4 => ?_)
  have hn := W.T.new ix hi _ TA.mem.2.2.2
  have hnX : ∀ b ∈ X, b ∉ [(ta ix).tc] := fun b hb q => hn.2.2.2 ((List.mem_singleton.mp q) ▸ hb)
  have hB : LB w h₀ L σ st xs wsl X h' i ps (stepTo ars ix k).1 na := ⟨W.B.sub.kept k1 (by intro b hb; rw [List.mem_singleton.mp hb]; exact hn.2.2.1), let ⟨t, e⟩ := W.B.stx; ⟨t, k1 _ _ (hnX _ W.B.inX.1) e⟩, k1 _ _ (hnX _ W.B.inX.2) W.B.h8, W.B.xsl, W.B.fr, W.B.frL, W.B.inX, W.B.ne8, W.B.mod.kept k1 fun j hj b hb q => W.sep j hj ix hi b hb ((List.mem_singleton.mp q) ▸ TA.mem.2.2.2)⟩
  refine ret ta' t h' tk' (Fr.kept F k1 (fun q => hn.1 (List.mem_singleton.mp q).symm) fun b hb => by rw [List.mem_singleton.mp hb]; exact hn.2.1) ⟨hB, k2, W.OM, S.ok, stepTo_pieces W.P hi, W.tr, fun a ha b hb y hy hy' => ?_, W.i0, W.nd, (by rw [k3 0 hO.pos]; exact W.t0)⟩ k3 (fun b hb => let ⟨o, e⟩ := hX b hb; ⟨o, k1 b o (hnX b hb) e⟩) fun b o hb e => k1 b o (hnX b hb) e
  rcases k4 b hb y hy' with ⟨h1, h2⟩ | h1
  · exact W.sep a ha b h1 y hy h2
  · obtain ⟨o, e⟩ := (W.B.mod.mod a ha).there y hy
    rw [h1] at e; cases e
/-- here[index], once it is there -/
theorem wget (H : Here w A h₀ L) (hdp : A.depth < 880) (hun : A.units < 8800) (F : Fr h₀ L s.heap m) (W : WJ w h₀ L st xs wsl X s.heap σ i ps ars ars na ta c nd0 t0) (hc : c ≤ 900) (hi : ix < ars.2) (hk : k.is kv = true) {j : Nat} (hkid : kidAt (ars.1 ix).kids k = some j)
    (ret : ∀ h' tk', Kept [] s.heap h' → Q (.ref (ta j).t) { s with heap := h', toks := tk' }) :
    wpAny (model PySem.Challenge.rw_vk0009_01.row.prog w) A (call (.ref 172) [.ref (ta ix).t, kv]) Q E s := by
  have T := W.T.tre ix hi
  refine getitem_any H hdp hun F T.o T.d T.k T.lo.2 hk (fun u e => ?_) (by rw [valueAt_kids (fun j => Value.ref (ta j).t), hkid]; rfl) (by rw [List.length_map]; exact Nat.le_trans (W.OT.kl ix hi) (by omega)) ret
  obtain ⟨sh, h⟩ := W.P ix hi u e
  exact ⟨sh, h.keptC fun b o _ e => W.B.sub b o e⟩
end
theorem tree_in {a : TA} {p : Option Value} {kv : Value} (F : Fr h₀ L s.heap m) (X : (hd.heap_39 w.params).In h₀) (ho : s.heap.get? a.t = some (instObj 197 a.td)) (hdn : Names s.heap a.td (treeNames a p))
    (h : wpAny (model PySem.Challenge.rw_vk0009_01.row.prog w) A (call (.ref 165) [.ref a.t, kv]) (fun r s' => ∃ b, r = .bool b ∧ Q (.bool b) s') E s) : wpAny (model PySem.Challenge.rw_vk0009_01.row.prog w) A (compareOp .In kv (.ref a.t)) Q E s := by
  revert X; k_fill; intro X
  obtain ⟨es, n, I, _⟩ := tree_inst ho hdn
  refine' in_K F X I ?k1 ?k2 (wpAny_mono h (fun r s' z => by obtain ⟨b, rfl, q⟩ := z; exact wpAny_truthy_bool q) fun _ _ z => z)
  case k1 => k_is
  case k2 => k_is
section
variable {σ : Heap} {st xs nd0 t0 : Addr} {wsl : List Value} {X : List Addr} {i : Int} {ps : Array Value} {ars : Ars} {na : Nat → MA} {ta : Nat → TA} {c ix : Nat} {k : Ky} {kv : Value}
theorem win (H : Here w A h₀ L) (hdp : A.depth < 900) (hun : A.units < 9000) (F : Fr h₀ L s.heap m) (W : WJ w h₀ L st xs wsl X s.heap σ i ps ars ars na ta c nd0 t0) (hi : ix < ars.2) (hk : k.is kv = true)
    (ret : ∀ h' tk', Kept [] s.heap h' → Q (.bool (kidAt (ars.1 ix).kids k).isSome) { s with heap := h', toks := tk' }) :
    wpAny (model PySem.Challenge.rw_vk0009_01.row.prog w) A (compareOp .In kv (.ref (ta ix).t)) Q E s := by
  have T := W.T.tre ix hi
  refine tree_in F H.inK T.o T.d (contains_spec H hdp hun F T.o T.d T.k T.lo.2 hk (fun h' tk' k' => ⟨_, rfl, ?_⟩))
  rw [valueAt_kids (fun j => Value.ref (ta j).t), Option.isSome_map]
  exact ret h' tk' k'
theorem wkin {h : Heap} {g : Heap} {L' : Addr} (W : WJ w g L' st xs wsl X s.heap σ i ps ars ars na ta c nd0 t0) (hi : ix < ars.2) (hk : k.is kv = true)
    (ret : ∀ tk', Q (.bool (kidAt (ars.1 ix).kids k).isSome) { s with toks := tk' }) :
    wpAny (model PySem.Challenge.rw_vk0009_01.row.prog w) A (compareOp .In kv (.ref (na ix).nk)) Q E s := by
  have M := W.B.mod.mod ix hi
  refine wpAny_in_of hk M.lo.2.2 (Heap.DictOf.mapOf M.k) ?_
  rw [valueAt_kids (fun j => Value.ref (na j).nd), Option.isSome_map]
  exact ret _
end
theorem WJ.tab {g h h' : Heap} {L' st xs nd0 t0 : Addr} {wsl : List Value} {X : List Addr} {σ : Heap} {i : Int} {ps ps' : Array Value} {ars arT : Ars} {na : Nat → MA} {ta : Nat → TA} {c : Nat} (x : WJ w g L' st xs wsl X h σ i ps ars arT na ta c nd0 t0) (k : Kept [188] h h') (e : h'.get? 188 = some (tabObj ps')) (ht : TriplesOk ps'.toList) : WJ w g L' st xs wsl X h' σ i ps' ars arT na ta c nd0 t0 :=
  ⟨⟨x.B.sub.kept k (by intro b hb; rw [List.mem_singleton.mp hb]; exact (x.B.fr 188 x.B.inX.2).2.2), let ⟨t, e⟩ := x.B.stx; ⟨t, k _ _ (by simpa using x.B.ne8) e⟩, e, x.B.xsl, x.B.fr, x.B.frL, x.B.inX, x.B.ne8, x.B.mod.kept k fun j hj b hb q => (x.B.mod.new j hj b hb).2.2.2 ((List.mem_singleton.mp q) ▸ x.B.inX.2)⟩,
   x.T.kept k fun j hj b hb q => (x.T.new j hj b hb).2.2.2 ((List.mem_singleton.mp q) ▸ x.B.inX.2), x.OM, x.OT, x.P, ht, x.sep, x.i0, x.nd, x.t0⟩
theorem idx_at {h : Heap} {lit : Addr} {t1 t2 t3 t4 t5 t6 t7 : Tok} {n : Nat} {r : Int} (hl : h.get? lit = some (listOf #[.str (Str.ofString "a") t1, .str (Str.ofString "b") t2, .str (Str.ofString "c") t3, .int 0 t4, .int 1 t5, .int 2 t6, .int (-1) t7] n)) (h0 : 0 ≤ r) (h1 : r < 7) :
    ∃ kv k, (#[Value.str (Str.ofString "a") t1, .str (Str.ofString "b") t2, .str (Str.ofString "c") t3, .int 0 t4, .int 1 t5, .int 2 t6, .int (-1) t7] : Array Value)[r.toNat]? = some kv ∧ Ky.is k kv = true ∧ Ky.small k := by
  rcases (by omega : r = 0 ∨ r = 1 ∨ r = 2 ∨ r = 3 ∨ r = 4 ∨ r = 5 ∨ r = 6) with e | e | e | e | e | e | e <;> subst e
  · exact ⟨_, .s (Str.ofString "a"), rfl, beq_self_eq_true _, by show PyData.strOk _ = true; decide +kernel⟩
  · exact ⟨_, .s (Str.ofString "b"), rfl, beq_self_eq_true _, by show PyData.strOk _ = true; decide +kernel⟩
  · exact ⟨_, .s (Str.ofString "c"), rfl, beq_self_eq_true _, by show PyData.strOk _ = true; decide +kernel⟩
  · exact ⟨_, .i 0, rfl, beq_self_eq_true _, by decide, by decide⟩
  · exact ⟨_, .i 1, rfl, beq_self_eq_true _, by decide, by decide⟩
  · exact ⟨_, .i 2, rfl, beq_self_eq_true _, by decide, by decide⟩
  · exact ⟨_, .i (-1), rfl, beq_self_eq_true _, by decide, by decide⟩
end
end Mine
namespace Mine
theorem fresh_R1 : True := by
  w_top off
  trivial
end Mine
-- part R2
namespace Mine
section
variable {w : World} {A : Around} {h₀ : Heap} {L : Addr} {m : Str → Option Value} {s : Shared} {Q : Value → Shared → Prop} {E : Value → Shared → Prop}
theorem walk_take (rs : List Row) {j : Nat} {r : Row} (h : rs[j]? = some r) : build (rs.take (j + 1)) = addRow (build (rs.take j)) r := by
  have hl : j < rs.length := (List.getElem?_eq_some_iff.mp h).1
  have he : rs[j] = r := (List.getElem?_eq_some_iff.mp h).2
  rw [List.take_succ_eq_append_getElem hl, he, build_snoc]
theorem TOK.addX {g σ h : Heap} {L' I : Addr} {X : List Addr} {s : Ars} {ta : Nat → TA} (x : TOK w g L' σ X h s ta) (hI : h.get? I = none) (h1 : I ≠ L') (h2 : g.get? I = none) : TOK w g L' σ (I :: X) h s ta :=
  ⟨x.tre, fun j hj b hb => ⟨(x.new j hj b hb).1, (x.new j hj b hb).2.1, (x.new j hj b hb).2.2.1, fun q => by
    rcases List.mem_cons.mp q with e | e
    · obtain ⟨o, e'⟩ := (x.tre j hj).there b hb
      rw [e, hI] at e'; cases e'
    · exact (x.new j hj b hb).2.2.2 e⟩, x.sep, x.nod⟩
theorem TOK.dropX {g σ h : Heap} {L' : Addr} {X X' : List Addr} {s : Ars} {ta : Nat → TA} (x : TOK w g L' σ X h s ta) (hX : ∀ b ∈ X', b ∈ X) : TOK w g L' σ X' h s ta :=
  ⟨x.tre, fun j hj b hb => ⟨(x.new j hj b hb).1, (x.new j hj b hb).2.1, (x.new j hj b hb).2.2.1, fun q => (x.new j hj b hb).2.2.2 (hX b q)⟩, x.sep, x.nod⟩
theorem treeNames_put (a : TA) (p : Option Value) (v : Value) : (fun x => if x = Str.ofString "_instance" then some v else treeNames a p x) = treeNames a (some v) := by
  funext x
  unfold treeNames
  by_cases h : x = Str.ofString "_instance"
  · rw [if_pos h, h, if_neg (by decide), if_neg (by decide), if_pos rfl]
  · rw [if_neg h, if_neg h, if_neg h]
theorem set_inst' {t td : Addr} {f : Str → Option Value} {v : Value} {QQ : Unit → Shared → Prop} (F : Fr h₀ L s.heap m) (X : (hd.heap_39 w.params).In h₀) (ho : s.heap.get? t = some (instObj 197 td)) (hd : Names s.heap td f) (hdL : td ≠ L) (hd0 : h₀.get? td = none)
    (ret : ∀ h' tk', Fr h₀ L h' m → Kept [L, td] s.heap h' → Names h' td (fun x => if x = Str.ofString "_instance" then some v else f x) → QQ () { s with heap := h', toks := tk' }) :
    wpAny (model PySem.Challenge.rw_vk0009_01.row.prog w) A (setAttr (.ref t) (Str.ofString "_instance") v) QQ E s :=
  set_inst (Q := fun _ s' => QQ () s') F X ho hd hdL hd0 ret (fun _ h => h)
/-- what stands on the way to an error's place -/
structure InnerT (w : World) (g : Heap) (L' : Addr) (σ : Heap) (X : List Addr) (v : Value) (x : Addr) (h : Heap) (c0 : Nat) (ta : Nat → TA) (gv : Nat → Value) (s0 : Ars) (ks : List Ky) (u : Value) (j : Nat) : Prop where
  T : TOK w g L' σ X h (walkTo s0 0 (ks.take j)).1 ta
  G : Gv w σ v (walkTo s0 0 (ks.take j)).1 gv
  O : Ok (c0 + j) (walkTo s0 0 (ks.take j)).1
  lt : (walkTo s0 0 (ks.take j)).2 < (walkTo s0 0 (ks.take j)).1.2
  dep : ((walkTo s0 0 (ks.take j)).1.1 (walkTo s0 0 (ks.take j)).2).dep = j
  val : Path w σ (gv (walkTo s0 0 (ks.take j)).2) (ks.drop j) u
  t0 : (ta 0).t = x
theorem InnerT.keptX {g σ h h' : Heap} {L' x : Addr} {X : List Addr} {v u : Value} {c0 j : Nat} {ta : Nat → TA} {gv : Nat → Value} {s0 : Ars} {ks : List Ky} (y : InnerT w g L' σ X v x h c0 ta gv s0 ks u j) (k : Kept (L' :: X) h h') : InnerT w g L' σ X v x h' c0 ta gv s0 ks u j :=
  ⟨y.T.keptX k, y.G, y.O, y.lt, y.dep, y.val, y.t0⟩
theorem tinner {σ : Heap} {X : List Addr} {v u : Value} {x : Addr} {c0 j : Nat} {ta : Nat → TA} {gv : Nat → Value} {s0 : Ars} {ks : List Ky} {k : Ky} {kv : Value} (H : Here w A h₀ L) (hdp : A.depth < 880) (hun : A.units < 8800) (F : Fr h₀ L s.heap m)
    (J : InnerT w h₀ L σ X v x s.heap c0 ta gv s0 ks u j) (hc : c0 + j ≤ 900) (hj : j ≤ 2) (hks : ks[j]? = some k) (hk : k.is kv = true) (hsm : k.small) (hσ : Sub σ s.heap) (hX : ∀ b ∈ X, ∃ o, s.heap.get? b = some o)
    (ret : ∀ ta' gv' h' tk', Fr h₀ L h' m → Kept [(ta (walkTo s0 0 (ks.take j)).2).tc] s.heap h' → InnerT w h₀ L σ X v x h' c0 ta' gv' s0 ks u (j + 1) → Q (.ref (ta' (walkTo s0 0 (ks.take (j + 1))).2).t) { s with heap := h', toks := tk' }) :
    wpAny (model PySem.Challenge.rw_vk0009_01.row.prog w) A (call (.ref 172) [.ref (ta (walkTo s0 0 (ks.take j)).2).t, kv]) Q E s := by
  have hjl : j < ks.length := (List.getElem?_eq_some_iff.mp hks).1
  have hkj : ks[j] = k := (List.getElem?_eq_some_iff.mp hks).2
  have htk : ks.take (j + 1) = ks.take j ++ [k] := by rw [← hkj]; exact List.take_succ_eq_append_getElem hjl
  have hdr : ks.drop j = k :: ks.drop (j + 1) := by rw [← hkj]; exact List.drop_eq_getElem_cons hjl
  have hw : walkTo s0 0 (ks.take (j + 1)) = stepTo (walkTo s0 0 (ks.take j)).1 (walkTo s0 0 (ks.take j)).2 k := by rw [htk, walkTo_snoc]
  have hv := J.val
  rw [hdr] at hv
  obtain ⟨c', hch, hpa⟩ := hv
  have S := step_ok J.O J.lt hsm (by rw [J.dep]; exact hj)
  obtain ⟨gv', hG, hg1, hg2⟩ := step_gv J.G J.O J.lt hch
  have hn := J.T.new _ J.lt _ TA.mem.2.2.2
  refine tget H hdp hun F J.T J.O (by omega) J.lt hk hsm hσ hX (fun u' hu' => ?_) (fun ta' h' tk' k1 k2 k3 _ => ?_)
  · rw [J.G.piece _ J.lt u' hu']
    obtain ⟨sh, h1, h2⟩ := hch.shape
    exact ⟨sh, h1, fun _ => h2⟩
  · have := ret ta' gv' h' tk' (Fr.kept F k1 (fun q => hn.1 (List.mem_singleton.mp q).symm) (fun b hb => by rw [List.mem_singleton.mp hb]; exact hn.2.1)) k1 ⟨by rw [hw]; exact k2, by rw [hw]; exact hG, by rw [hw]; exact S.ok, by rw [hw]; exact S.lt, by rw [hw]; rw [S.dep, J.dep], by rw [hw, hg1]; exact hpa, by rw [k3 0 J.O.pos]; exact J.t0⟩
    rw [hw] at this
    exact this
theorem tree_spec {σ : Heap} {rw : Addr} {v : Value} {rs : List Row} {es : List Value} (H : Here w A h₀ L) (hdp : A.depth < 800) (hun : A.units < 8000) (F : Fr h₀ L s.heap m) (hl : s.heap.IsList rw es.toArray) (hrwL : rw ≠ L) (hlen : es.length = rs.length) (hrs : rs.length ≤ 6)
    (hrow : ∀ (j : Nat) (e : Value) (r : Row), es[j]? = some e → rs[j]? = some r → RowAt w σ v e r) (hσ : Sub σ s.heap) (hσL : σ.get? L = none) (hv : ValAt w σ 2 v)
    (ret : ∀ ta h' tk', Fr h₀ L h' m → Kept [L] s.heap h' → (∀ i < (build rs).2, TreeS w σ h' ta (ta i) ((build rs).1 i)) → (∀ i < (build rs).2, ∀ b ∈ (ta i).fp, s.heap.get? b = none) →
      (∀ i < (build rs).2, ∀ j < (build rs).2, ∀ b, b ∈ (ta i).fp → b ∈ (ta j).fp → i = j) → (∀ i < (build rs).2, (ta i).fp.Nodup) → Q (.ref (ta 0).t) { s with heap := h', toks := tk' }) :
    wpAny (model PySem.Challenge.rw_vk0009_01.row.prog w) A (call (.ref 197) [.ref rw]) Q E s := by
  have X := H.inK
  revert X; k_fill; intro X
  refine' call_cls F X (news_all h₀ L s.heap) ?k1 ?k2 ?k3 ?_
  case k1 => k_is
  case k2 => k_is
  case k3 => k_is
  intro x d h1 F1 N1' lt1 l1
  replace l1 := ltN l1
  have kA : Kept [L] s.heap h1 := kept_all F.keep F1 N1' (fun p hp => .tail _ (.tail _ hp))
  have N1 : News h₀ L h1 [(x, instObj 197 d), (d, dictOf [] 0)] := News.sub N1' (by simp)
  have fr1 : ∀ b ob, (b, ob) ∈ [(x, instObj 197 d), (d, dictOf [] 0)] → s.heap.get? b = none := by
    intro b ob hb
    cases q : s.heap.get? b with
    | none => rfl
    | some o =>
      exfalso
      have hm := ltN (lt1 _ (mem_all.mpr ⟨q, (N1 _ hb).2⟩))
      simp only [List.mem_cons, Prod.mk.injEq, List.not_mem_nil, or_false] at hb
      rcases hb with ⟨rfl, _⟩ | ⟨rfl, _⟩
      · exact Nat.lt_irrefl _ (Nat.lt_trans l1 hm)
      · exact Nat.lt_irrefl _ hm
  have hx0 : s.heap.get? x = none := fr1 x _ (.head _)
  have hd0 : s.heap.get? d = none := fr1 d _ (.tail _ (.head _))
  have H1 : Here w (A.under (.builtin "type.__call__" ⟨[.ref 197, .ref rw], []⟩)) h₀ L := H.of_frames rfl rfl
  refine' codeAny_mono (enter (R := fun v s' => v = .none ∧ Q (.ref x) s') (E := E) H1 F1 N1 ?k6 ?k7 ?k8 ?k9 ?kB ?kW ?c5 ?c2 ?c3 ?c4) ?kM
  case k6 => k_is
  case k7 => k_is
  case k8 => show A.depth + 1 < 1000; omega
  case k9 => exact binds_K (X.keeps F1.keep) rfl (by k_is) rfl rfl rfl
  case kB => exact locs rfl
  case c5 => decide
  case c2 => exact rfl
  case c3 => exact rfl
  case c4 => exact rfl
  case kM =>
    intro r s' hr
    rcases r with e | (v | _ | _ | _)
    · exact hr
    · exact hr.elim
    · exact hr.elim
    · exact hr.elim
    · exact hr
  case kW =>
    intro g' L' h' H' F' N' up down hL'
    have ups : ∀ b o, b ≠ L → s.heap.get? b = some o → g'.get? b = some o := fun b o hb e => up b o (fun q => by
      rcases (by simpa using q : b = x ∨ b = d) with q | q
      · rw [q, hx0] at e; cases e
      · rw [q, hd0] at e; cases e) (kA b o (by simpa using hb) e)
    have hl' : g'.IsList rw es.toArray := let ⟨o, e, r⟩ := hl; ⟨o, ups _ _ hrwL e, r⟩
    have hσg : Sub σ g' := fun b o e => ups b o (fun q => by rw [q, hσL] at e; cases e) (hσ b o e)
    have hnewS : ∀ b, g'.get? b = none → s.heap.get? b = none := by
      intro b hb
      cases q : s.heap.get? b with
      | none => rfl
      | some o =>
        by_cases hbL : b = L
        · obtain ⟨oL, _, _, e, _⟩ := F1.ns
          have := up L oL (fun q => by
            rcases (by simpa using q : L = x ∨ L = d) with q | q
            · exact (N1 _ (.head _)).2.1 q.symm
            · exact (N1 _ (.tail _ (.head _))).2.1 q.symm) e
          rw [← hbL, hb] at this; cases this
        · rw [ups b o hbL q] at hb; cases hb
    obtain ⟨⟨A₀, base, outer, env, p, loose, mean, mg, mb, B', T', hfr, _⟩, X', hh'⟩ := id H'
    (with_reducible show wpAny _ _ _ _ _ _)
    (try k_fold)
    repeat' (((fail_if_success (with_reducible show wpAny _ _ (exec (Stmt.For _ _ _ _ _) _) _ _ _))); first | (k_unfold; (try dsimp only)) | (k_end; wrow_close) | walk1 | (dsimp only; walk1) | (leave1; walk_say "STEP leave1"; try dsimp only) | fail "no step")
    rename Fr g' _ _ _ => Fc
    rename News g' _ _ _ => Nc
    rename_i te _ oe loe hse _ _ _ lte _ tc _ oc loc hsc _ _ _ ltc hz0
    have T0 : TOK w g' L' σ [] hz0 (build []) (fun _ => ⟨x, d, te, tc⟩) := by
      have e1 := Nc _ (.head _)
      have e2 := Nc _ (.tail _ (.head _))
      have e3 := Nc _ (.tail _ (.tail _ (.head _)))
      have e4 := Nc _ (.tail _ (.tail _ (.tail _ (.head _))))
      refine ⟨fun i hi => ⟨e3.1, ?_, ⟨[], Heap.dictOf_iff.mpr ⟨oe, e2.1, hse⟩, .nil⟩, Heap.dictOf_iff.mpr ⟨oc, e1.1, isDictOf_nil hsc⟩, loe, loc⟩, fun i hi b hb => ?_, fun i hi j hj b _ _ => ?_, fun i hi => ?_⟩
      · refine ⟨_, _, e4.1, fun y => ?_, by show 2 ≤ 50; decide, fun _ => by show 2 ≤ 49; decide⟩
        rw [getL_str, getL_str]
        show _ = some (if y = _ then _ else if y = _ then _ else if y = _ then none else none)
        by_cases h1 : y = Str.ofString "errors"
        · rw [if_pos h1, if_pos h1]
        · rw [if_neg h1, if_neg h1]
          by_cases h2 : y = Str.ofString "_contents"
          · rw [if_pos h2, if_pos h2]
          · rw [if_neg h2, if_neg h2, ite_self]; rfl
      · have nn : ∀ b, b ≠ L' → g'.get? b = none → b ≠ L' ∧ g'.get? b = none ∧ σ.get? b = none ∧ b ∉ ([] : List Addr) := fun b h1 h2 => ⟨h1, h2, hσg.none h2, by simp⟩
        rcases (by simpa [TA.fp] using hb : b = x ∨ b = d ∨ b = te ∨ b = tc) with e | e | e | e
        · rw [e]; exact nn _ e3.2.1 e3.2.2
        · rw [e]; exact nn _ e4.2.1 e4.2.2
        · rw [e]; exact nn _ e2.2.1 e2.2.2
        · rw [e]; exact nn _ e1.2.1 e1.2.2
      · have h1 : i = 0 := Nat.lt_one_iff.mp hi
        have h2 : j = 0 := Nat.lt_one_iff.mp hj
        rw [h1, h2]
      · simp only [TA.fp, List.nodup_cons, List.mem_cons, List.not_mem_nil, or_false, not_or, not_false_eq_true, List.nodup_nil, and_true]
        exact ⟨⟨Nat.ne_of_gt l1, Nat.ne_of_lt lte.1, Nat.ne_of_lt ltc.2.1⟩, ⟨Nat.ne_of_lt lte.2, Nat.ne_of_lt ltc.2.2⟩, Nat.ne_of_lt ltc.1⟩
    have hkg0 := Fc.keep
    have hns0 := Fc.ns
    clear Nc
    refine for_J rfl rfl ?_ (by intro _; with_unfolding_all rfl)
    repeat' (((fail_if_success (with_reducible show wpAny _ _ (pyIter _) _ _ _))); first | (k_unfold; (try dsimp only)) | (k_end; wrow_close) | walk1 | (dsimp only; walk1) | (leave1; walk_say "STEP leave1"; try dsimp only) | fail "no step")
    rename Fr g' _ _ _ => Fl
    have hab := Fl.above
    refine loop_list hh' (isList_kept hl' (kept_F Fl) (by simp)) (ne_L Fl hl'.choose_spec.1) Fl.ns (fun h2 e2 k2 => ?_)
    have hIf := Fr.fresh Fl (Nat.le_refl _)
    have T2 := (T0.addX (Heap.get?_none_of_le (Nat.le_refl _)) hIf.1 hIf.2).kept0 k2
    generalize hIe : hz0.objs.size = I at T2 hIf ⊢
    refine ⟨fun j mj s' => ∃ h tk ta gv, s' = { s with heap := h, toks := tk } ∧ mj (Str.ofString "self") = some (.ref x) ∧ Sub g' h ∧ TOK w g' L' σ [I] h (build (rs.take j)) ta ∧ Gv w σ v (build (rs.take j)) gv ∧ Ok (3 * j) (build (rs.take j)) ∧ (ta 0).t = x, ?_, ?_, ?_, ?_⟩
    · refine ⟨h2, _, _, fun _ => v, rfl, rfl, fun b o e => k2 _ _ (by simp) (hkg0 b o e), T2, ⟨?_, ?_, ?_, rfl⟩, ok0, rfl⟩
      · intro i hi kj hkj; simp [build, ar0, Nd.nil] at hkj
      · intro i hi u hu; simp [build, ar0, Nd.nil] at hu
      · intro i hi; exact ⟨2, hv⟩
    · rintro j mj s5 h6 tk6 ⟨h, tk, ta, gv, rfl, hm, hgs, hT, hG, hO, ht0⟩ k m' hm'
      have k : Kept [L', I] h h6 := k
      refine ⟨h6, tk6, ta, gv, rfl, (hm' _ (by decide)).trans hm, fun b o e => k b o (fun q => ?_) (hgs b o e), hT.keptX k, hG, hO, ht0⟩
      rcases (by simpa using q : b = L' ∨ b = I) with q | q
      · rw [q, kts_self Fl] at e; cases e
      · rw [q, hIf.2] at e; cases e
    · rintro j ev m₁ s5 hj hev ⟨oI, hoI⟩ hns ⟨h, tk, ta, gv, rfl, hm, hgs, hT, hG, hO, ht0⟩
      have hev : es[j]? = some ev := by simpa using hev
      have hjr : j < rs.length := by rw [← hlen]; exact (List.getElem?_eq_some_iff.mp hev).1
      obtain ⟨r, hr⟩ : ∃ r, rs[j]? = some r := ⟨rs[j], List.getElem?_eq_getElem hjr⟩
      have hRow := hrow j ev r hev hr
      obtain ⟨ea, er, rfl, hea, hky, hmsg, hword, hinst⟩ := hRow.ex
      have F5 := Fr.name (L' := L') (x := Str.ofString "self") (Fr.mk hns hgs hab) hm
      clear Fl
      obtain ⟨own5, N5, ho5⟩ := snap g' L' h
      repeat' (((fail_if_success (with_reducible show wpAny _ _ (exec (Stmt.For _ _ _ _ _) _) _ _ _))); first | (k_unfold; (try dsimp only)) | (k_end; wrow_close) | walk1 | (dsimp only; walk1) | (leave1; walk_say "STEP leave1"; try dsimp only) | fail "no step")
      refine for_J rfl rfl ?_ (by intro _; with_unfolding_all rfl)
      repeat' (((fail_if_success (with_reducible show wpAny _ _ (getAttr _ _ _) _ _ _))); first | (k_unfold; (try dsimp only)) | (k_end; wrow_close) | walk1 | (dsimp only; walk1) | (leave1; walk_say "STEP leave1"; try dsimp only) | fail "no step")
      rename Fr g' _ _ _ => Fc
      refine get_path Fc X' ((hea.keptC fun b o _ e => hσg b o e).keptC (KeepC.ground Fc)) (fun sp os sn hsp hos hod hno => ?_)
      repeat' (((fail_if_success (with_reducible show wpAny _ _ (pyIter _) _ _ _))); first | (k_unfold; (try dsimp only)) | (k_end; wrow_close) | walk1 | (dsimp only; walk1) | (leave1; walk_say "STEP leave1"; try dsimp only) | fail "no step")
      rename Fr g' _ _ _ => Fl2
      rename News g' _ _ _ => Nl2
      have kk := kept_all' hgs Fl2 (News.sub Nl2 fun p hp => (ho5 ▸ hp))
      have T5 := hT.keptX (kk.mono fun b hb => by rw [List.mem_singleton.mp hb]; exact .head _)
      have hI5 := kk I _ (by simpa using hIf.1) hoI
      have hspL : sp ≠ L' := fun q => by
        obtain ⟨o, _, _, e, e', _⟩ := Fl2.ns
        rw [q] at hsp
        rw [e] at hsp; cases hsp
        rw [hod] at e'
        cases e'
      rename Heap => hq6
      refine loop_seq (od := none) hh' (X'.keeps Fl2.keep) hsp hos (by k_is) (by k_is) hod hspL Fl2.ns (fun h6 hz6 k6 => ?_)
      have hI2f : hq6.objs.size ≠ L' ∧ g'.get? hq6.objs.size = none := Fr.fresh Fl2 (Nat.le_refl _)
      have hI2n : hq6.get? hq6.objs.size = none := Heap.get?_none_of_le (Nat.le_refl _)
      have T6 := (T5.addX hI2n hI2f.1 hI2f.2).kept0 k6
      have hI2I : I < hq6.objs.size := Heap.lt_size hI5
      have hspI2 : sp ≠ hq6.objs.size := Nat.ne_of_lt (Heap.lt_size hsp)
      have hsp6 := k6 _ _ (by simp) hsp
      have hI6 := k6 _ _ (by simp) hI5
      have hg6 : Sub g' h6 := fun b o e => k6 b o (by simp) (Fl2.keep b o e)
      have hab2 := Fl2.above
      have hsf2 := kts_self Fl2
      generalize hI2e : hq6.objs.size = I2 at T6 hI2I hI2f hspI2 ⊢
      clear Fl2 Nl2 kk T5
      refine ⟨fun jj mj s' => ∃ h tk ta gv, s' = { s with heap := h, toks := tk } ∧ (mj (Str.ofString "self") = some (.ref x) ∧ mj (Str.ofString "error") = some (.ref ea) ∧ mj (Str.ofString "container") = some (.ref (ta (walkTo (build (rs.take j)) 0 (r.ks.take jj)).2).t)) ∧ Sub g' h ∧
        InnerT w g' L' σ [I2, I] v x h (3 * j) ta gv (build (rs.take j)) r.ks r.u jj ∧ h.get? I = some oI ∧ h.get? sp = some os, ?_, ?_, ?_, ?_⟩
      · refine ⟨h6, _, ta, gv, rfl, ⟨?_, ?_, ?_⟩, hg6, ⟨T6, hG, hO, hO.pos, hO.d0, ?_, ht0⟩, hI6, hsp6⟩
        · rfl
        · rfl
        · show some (Value.ref x) = some (Value.ref (ta 0).t)
          rw [ht0]
        · show Path w σ (gv 0) r.ks r.u
          rw [hG.g0]
          exact hRow.path
      · rintro jj mj s6 h7 tk7 ⟨h, tk, ta, gv, rfl, ⟨n1, n2, n3⟩, hgs2, hJ2, hI2x, hspx⟩ k m' hm'
        have k : Kept [L', I2] h h7 := k
        have nI : ∀ b, b ≠ L' → b ≠ I2 → b ∉ [L', I2] := fun b h1 h2 => by simpa using ⟨h1, h2⟩
        refine ⟨h7, tk7, ta, gv, rfl, ⟨(hm' _ (by decide)).trans n1, (hm' _ (by decide)).trans n2, (hm' _ (by decide)).trans n3⟩, fun b o e => k b o (nI b (fun q => ?_) (fun q => ?_)) (hgs2 b o e), hJ2.keptX (k.mono fun b hb => ?_), k _ _ (nI I hIf.1 (Nat.ne_of_lt hI2I)) hI2x, k _ _ (nI sp hspL hspI2) hspx⟩
        · rw [q, hsf2] at e; cases e
        · rw [q, hI2f.2] at e; cases e
        · rcases (by simpa using hb : b = L' ∨ b = I2) with q | q <;> simp [q]
      · rintro jj kv2 m₂ s6 hjj hkv2 ⟨oI2, hoI2⟩ hns2 ⟨h, tk, ta, gv, rfl, ⟨n1, n2, n3⟩, hgs2, hJ2, hI2x, hspx⟩
        obtain ⟨k2, hk2, hk2i, hk2s⟩ := hky.get (by simpa using hkv2)
        have hjjk : jj < r.ks.length := (List.getElem?_eq_some_iff.mp hk2).1
        have hkl := hRow.len
        have Fa := Fr.name (L' := L') (x := Str.ofString "container") (Fr.mk hns2 hgs2 hab2) n3
        obtain ⟨own12, N12, ho12⟩ := snap g' L' h
        repeat' (((fail_if_success (with_reducible show wpAny _ _ (subscriptTail _ _ _ _) _ _ _))); first | (k_unfold; (try dsimp only)) | (k_end; wrow_close) | walk1 | (dsimp only; walk1) | (leave1; walk_say "STEP leave1"; try dsimp only) | fail "no step")
        rename Fr g' _ _ _ => Fc
        rename News g' _ _ _ => Nc
        have kk := kept_all' hgs2 Fc (News.sub Nc fun p hp => (ho12 ▸ hp))
        have hJ2k := hJ2.keptX (kk.mono fun b hb => by rw [List.mem_singleton.mp hb]; exact .head _)
        have hI3 := kk _ _ (by simpa using hIf.1) hI2x
        have hI23 := kk _ _ (by simpa using hI2f.1) hoI2
        have hsp3 := kk _ _ (by simpa using hspL) hspx
        have hXe : ∀ b ∈ [I2, I], ∃ o, Heap.get? _ b = some o := fun b hb => by
          rcases (by simpa using hb : b = I2 ∨ b = I) with e | e
          · rw [e]; exact ⟨_, hI23⟩
          · rw [e]; exact ⟨_, hI3⟩
        have hTt := hJ2k.T.tre _ hJ2k.lt
        refine tree_sub Fc X' hTt.o hTt.d ?_
        refine tinner H'.in1 (by first | (show A.depth + 1 < 880; omega) | (show A.depth + 1 + 1 < 880; omega) | (show A.depth + 1 + 1 + 1 < 880; omega)) (by first | (show A.units + 3 + 4 < 8800; omega) | (show A.units + 1 + 3 + 1 < 8800; omega) | (show A.units + 4 + 3 + 1 < 8800; omega) | (show A.units + 3 + 1 < 8800; omega)) Fc hJ2k (by omega) (by omega) hk2 hk2i hk2s (fun b o e => Fc.keep b o (hσg b o e)) hXe (fun ta2 gv2 h12 tk12 F12 k12 J12 => ?_)
        have htcX : ∀ b ∈ [I2, I], b ∉ [(ta (walkTo (build (rs.take j)) 0 (r.ks.take jj)).2).tc] := fun b hb q => (hJ2k.T.new _ hJ2k.lt _ TA.mem.2.2.2).2.2.2 ((List.mem_singleton.mp q) ▸ hb)
        have hsptc : sp ≠ (ta (walkTo (build (rs.take j)) 0 (r.ks.take jj)).2).tc := fun q => by
          obtain ⟨o', es', ep', e', hx', _⟩ := hTt.k
          rw [← q, hsp3] at e'; cases e'
          rw [hx'.1] at hos; cases hos
        have hI12 := k12 _ _ (htcX I (by simp)) hI3
        have hI212 := k12 _ _ (htcX I2 (by simp)) hI23
        have hsp12 := k12 _ _ (by simpa using hsptc) hsp3
        have hkg12 := F12.keep
        obtain ⟨own13, N13, ho13⟩ := snap g' L' h12
        clear Fc Nc kk
        (try k_fold)
        k_steps
        rename Fr g' _ _ _ => Fz
        rename News g' _ _ _ => Nz
        have kz := kept_all' hkg12 Fz (News.sub Nz fun p hp => (ho13 ▸ hp))
        unfold TurnEnd
        dsimp only
        (try k_unfold)
        (try dsimp only)
        refine ⟨_, Fz.ns, fun b hb o e => ?_, _, _, ta2, gv2, rfl, ⟨(if_neg (by decide)).trans ((if_neg (by decide)).trans n1), (if_neg (by decide)).trans ((if_neg (by decide)).trans n2), rfl⟩, Fz.keep, J12.keptX (kz.mono fun b hb => by rw [List.mem_singleton.mp hb]; exact .head _), kz _ _ (by simpa using hIf.1) hI12, kz _ _ (by simpa using hspL) hsp12⟩
        rcases (by simpa using hb : b = I2 ∨ b = sp) with q | q
        · rw [q] at e ⊢
          rw [hoI2] at e; cases e
          exact kz _ _ (by simpa using hI2f.1) hI212
        · rw [q] at e ⊢
          rw [hspx] at e; cases e
          exact kz _ _ (by simpa using hspL) hsp12
      · rintro mj s6 hn12 ⟨h, tk, ta, gv, rfl, ⟨n1, n2, n3⟩, hgs2, hJ2, hI2x, hspx⟩
        have hkl2 : er.path.toArray.size = r.ks.length := by have := hky.len; simpa using this
        rw [hkl2] at n3 hJ2
        have Fa := Fr.name (L' := L') (x := Str.ofString "container") (Fr.mk hn12 hgs2 hab2) n3
        have F14 := Fr.name (L' := L') (x := Str.ofString "error") (v := .ref ea) Fa ((if_neg (by decide)).trans n2)
        clear Fa
        obtain ⟨own14, N14, ho14⟩ := snap g' L' h
        (try dsimp only)
        repeat' (((fail_if_success (with_reducible show wpAny _ _ (setItem _ _ _) _ _ _)); (fail_if_success (with_reducible show wpAny _ _ (getAttr _ _ _) _ _ _))); first | (k_unfold; (try dsimp only)) | (k_end; wrow_close) | walk1 | (dsimp only; walk1) | (leave1; walk_say "STEP leave1"; try dsimp only) | fail "no step")
        rename Fr g' _ _ _ => Fd
        rename News g' _ _ _ => Nd
        have kk := kept_all' hgs2 Fd (News.sub Nd fun p hp => (ho14 ▸ hp))
        have hJ4 := hJ2.keptX (kk.mono fun b hb => by rw [List.mem_singleton.mp hb]; exact .head _)
        have hT4 := hJ4.T.tre _ hJ4.lt
        refine get_errors Fd X' hT4.o hT4.d ?_
        repeat' (((fail_if_success (with_reducible show wpAny _ _ (setItem _ _ _) _ _ _)); (fail_if_success (with_reducible show wpAny _ _ (getAttr _ _ _) _ _ _))); first | (k_unfold; (try dsimp only)) | (k_end; wrow_close) | walk1 | (dsimp only; walk1) | (leave1; walk_say "STEP leave1"; try dsimp only) | fail "no step")
        rename Fr g' _ _ _ => Fd
        rename News g' _ _ _ => Nd
        refine get_validator Fd X' ((hea.keptC fun b o _ e => hσg b o e).keptC (KeepC.ground Fd)) (fun tv => ?_)
        repeat' (((fail_if_success (with_reducible show wpAny _ _ (setItem _ _ _) _ _ _)); (fail_if_success (with_reducible show wpAny _ _ (getAttr _ _ _) _ _ _))); first | (k_unfold; (try dsimp only)) | (k_end; wrow_close) | walk1 | (dsimp only; walk1) | (leave1; walk_say "STEP leave1"; try dsimp only) | fail "no step")
        rename Fr g' _ _ _ => Fd
        rename News g' _ _ _ => Nd
        have kk := kept_all' hgs2 Fd (News.sub Nd fun p hp => (ho14 ▸ hp))
        have hJ5 := hJ2.keptX (kk.mono fun b hb => by rw [List.mem_singleton.mp hb]; exact .head _)
        have hI5b := kk _ _ (by simpa using hIf.1) hI2x
        obtain ⟨mkv, hmd, hme⟩ := (hJ5.T.tre _ hJ5.lt).e
        refine wpAny_setItem_pairs (knd := strKind prg w) (str_is _ _) hmd (fun h15 hd15 hs15 => ?_) (by have := hme.len; have := hJ5.O.el _ hJ5.lt; have := hRow.len; rw [sizeLine_eq]; omega)
        have k15 := Kept.sameBut hs15
        have M15 := hJ5.T.putE hJ5.lt k15 hd15 (hme.stored er.word hea)
        have hn5 := hJ5.T.new _ hJ5.lt
        have F15 := Fr.kept Fd k15 (fun q => (hn5 _ TA.mem.2.2.1).1 (List.mem_singleton.mp q).symm) (fun b hb => by rw [List.mem_singleton.mp hb]; exact (hn5 _ TA.mem.2.2.1).2.1)
        have hI15 := k15 I _ (fun q => (hn5 _ TA.mem.2.2.1).2.2.2 ((List.mem_singleton.mp q) ▸ (by simp))) hI5b
        have hkg15 := F15.keep
        obtain ⟨own15, N15, ho15⟩ := snap g' L' h15
        clear Fd Nd kk
        (try dsimp only)
        (try k_fold)
        repeat' (((fail_if_success (with_reducible show wpAny _ _ (setAttr _ _ _) _ _ _)); (fail_if_success (with_reducible show wpAny _ _ (getAttr _ _ _) _ _ _))); first | (k_unfold; (try dsimp only)) | (k_end; wrow_close) | walk1 | (dsimp only; walk1) | (leave1; walk_say "STEP leave1"; try dsimp only) | fail "no step")
        rename Fr g' _ _ _ => Fd
        rename News g' _ _ _ => Nd
        obtain ⟨dv, hdv⟩ := hRow.path.val hv
        refine get_instance Fd X' ((hea.keptC fun b o _ e => hσg b o e).keptC (KeepC.ground Fd)) (by rw [hinst]; exact hdv.handed) ?_
        rw [hinst]
        repeat' (((fail_if_success (with_reducible show wpAny _ _ (setAttr _ _ _) _ _ _)); (fail_if_success (with_reducible show wpAny _ _ (getAttr _ _ _) _ _ _))); first | (k_unfold; (try dsimp only)) | (k_end; wrow_close) | walk1 | (dsimp only; walk1) | (leave1; walk_say "STEP leave1"; try dsimp only) | fail "no step")
        rename Fr g' _ _ _ => Fd
        rename News g' _ _ _ => Nd
        have kk := kept_all' hkg15 Fd (News.sub Nd fun p hp => (ho15 ▸ hp))
        have M16 := M15.keptX (kk.mono fun b hb => by rw [List.mem_singleton.mp hb]; exact .head _)
        have hI16 := kk _ _ (by simpa using hIf.1) hI15
        have hT16 := M16.tre _ hJ5.lt
        have hn16 := hn5 _ TA.mem.2.1
        refine set_inst' Fd X' hT16.o hT16.d hn16.1 hn16.2.1 (fun h17 tk17 F17 k17 nm17 => ?_)
        rw [treeNames_put] at nm17
        have M17 := M16.putP (u := r.u) hJ5.lt k17 nm17
        rw [hmsg, hword, ← putErr_eq] at M17
        have hI17 := k17 I _ (by simpa using ⟨hIf.1, fun q => hn16.2.2.2 (q ▸ (by simp))⟩) hI16
        have hgvu : gv (walkTo (build (rs.take j)) 0 (List.take r.ks.length r.ks)).2 = r.u := by
          have := hJ5.val
          rw [List.drop_length] at this
          exact (show r.u = _ from this).symm
        have hGp := put_gv (i := (walkTo (build (rs.take j)) 0 (List.take r.ks.length r.ks)).2) (a := r.word) (b := r.msg) hJ5.G
        rw [hgvu] at hGp
        have hOb := put_ok (u := r.u) hJ5.O hJ5.lt hRow.ok.1 hRow.ok.2
        have hbr : build (rs.take (j + 1)) = putErr (walkTo (build (rs.take j)) 0 (List.take r.ks.length r.ks)).1 (walkTo (build (rs.take j)) 0 (List.take r.ks.length r.ks)).2 r.word r.msg r.u := by
          rw [walk_take rs hr, List.take_length]; rfl
        (try dsimp only)
        (try k_unfold)
        (try dsimp only)
        refine wpAny_execs_nil ?_
        unfold TurnEnd
        dsimp only
        refine ⟨_, F17.ns, fun b hb o e => ?_, h17, tk17, ta, gv, rfl, (if_neg (by decide)).trans ((if_neg (by decide)).trans n1), F17.keep, ?_, hbr ▸ hGp, hbr ▸ (hOb.mono (by have := hRow.len; omega)), hJ5.t0⟩
        · rcases (by simpa using hb : b = I ∨ b = rw) with q | q
          · rw [q] at e ⊢
            rw [hoI] at e; cases e
            exact hI17
          · rw [q] at e ⊢
            obtain ⟨ol, hol, _⟩ := hl'
            have e : Heap.get? _ rw = some o := e
            rw [hgs _ _ hol] at e; cases e
            exact F17.keep _ _ hol
        · rw [hbr]; exact M17.dropX (fun b hb => .tail _ hb)
    · rintro mj s5 hn ⟨h, tk, ta, gv, rfl, hm, hgs, hT, hG, hO, ht0⟩
      have hsz : es.toArray.size = rs.length := by simpa using hlen
      rw [hsz, List.take_length] at hT
      (try dsimp only)
      (try k_unfold)
      (try dsimp only)
      refine wpAny_execs_nil ⟨mj, ⟨hn, hgs, hab⟩, fun hk => ⟨rfl, ?_⟩⟩
      rw [← ht0]
      have kR : Kept [L] s.heap h := by
        intro b o hb e
        refine hk b o ?_ (kA b o hb e)
        simp only [List.map_cons, List.map_nil, List.mem_cons, List.not_mem_nil, or_false, not_or]
        refine ⟨fun q => ?_, fun q => ?_⟩
        · rw [q, hx0] at e; cases e
        · rw [q, hd0] at e; cases e
      refine ret ta h tk (Fr.kept F1 hk ?_ ?_) kR hT.tre (fun i hi b hb => hnewS b (hT.new i hi b hb).2.1) hT.sep hT.nod
      · simp only [List.map_cons, List.map_nil, List.mem_cons, List.not_mem_nil, or_false, not_or]
        exact ⟨Ne.symm (N1 _ (.head _)).2.1, Ne.symm (N1 _ (.tail _ (.head _))).2.1⟩
      · intro b hb
        simp only [List.map_cons, List.map_nil, List.mem_cons, List.not_mem_nil, or_false] at hb
        rcases hb with rfl | rfl
        · exact (N1 _ (.head _)).2.2
        · exact (N1 _ (.tail _ (.head _))).2.2
end
end Mine
namespace Mine
theorem fresh_R2 : True := by
  w_top off
  trivial
end Mine
-- part V2
namespace Mine
section
variable {w : World} {A : Around} {h₀ : Heap} {L : Addr} {m : Str → Option Value} {s : Shared} {Q : Value → Shared → Prop} {E : Value → Shared → Prop}
namespace XI
theorem type_init : typeOf (.builtin "Exception.__init__") = pure (.type "wrapper_descriptor") := by show builtinType _ = _; rw [builtinType_eq_fast]; kernel_rfl
theorem slot_get : Slot "wrapper_descriptor" "__get__" "wrapper_descriptor.__get__" := .of (owner := "wrapper_descriptor") (n := "__get__") (by rw [typeLookup_type, builtinLookup_eq_fast]; kernel_rfl) (by decide +kernel) (by decide +kernel) (by decide +kernel)
  (by first | exact .inl (by decide +kernel) | exact .inr (by decide +kernel)) (by rw [isSubtype_type]; kernel_rfl)
theorem entry_get : entryFor table "wrapper_descriptor.__get__" = some Builtin.«wrapper_descriptor.__get__» := entryFor_of_tree (by kernel_rfl)
theorem args_get (a b c : Value) : argsOk "wrapper_descriptor.__get__" ⟨[a, b, c], []⟩ := by unfold argsOk; kernel_rfl
def mwObj (x : Addr) : Obj := { cls := .type "method-wrapper", data := .fields #[.builtin "Exception.__init__", .ref x] }
section
variable {prog : Program} {w : World} {M : Model} {A : Around} {E : Value → Shared → Prop} {h : Heap} {g : Array GenState} {d : Drawn} {t : Nat} {os : OsState}
theorem run_get {P : Fin → Shared → Prop} {x C : Addr} {ox : Obj} {K : Frag} (X : K.In h) (hx : h.get? x = some ox) (hcl : ox.cls = .ref C) (hsub : subIn K (.ref C) (.type "Exception") = some true)
    (hq : P (.done (.ret (.ref h.objs.size))) ⟨h.push (mwObj x), g, d, t, os⟩) :
    wpAny M A (Builtin.«wrapper_descriptor.__get__» ⟨[.builtin "Exception.__init__", .ref x, .ref C], []⟩) P E ⟨h, g, d, t, os⟩ := by
  have LT : Looks M h (typeOf (.ref x)) (.ref C) := hcl ▸ (Looks.ld hx).andThen .now
  have LS : Looks M h (isInstance (.ref x) (.type "Exception")) true := LT.andThen (looks_subIn X (t := .ref C) (base := .type "Exception") hsub)
  unfold Builtin.«wrapper_descriptor.__get__»
  refine wpAny_bind (wpAny_of_eq (a := (.builtin "Exception.__init__", some (.ref x), some (.ref C))) (by first | rfl | kernel_rfl) ?_)
  dsimp only
  show wpAny M A ((_ : Sem Unit) >>= fun _ => newFields "method-wrapper" [.builtin "Exception.__init__", .ref x] >>= fun v => ret v) P E _
  refine wpAny_bind ?_
  refine wpAny_bind (m := (_ : Sem (Str × Value))) (wpAny_of_eq (a := (Str.ofString "__init__", Value.type "Exception")) (by first | rfl | kernel_rfl) ?_)
  refine wpAny_bind (m := isInstance (.ref x) (.type "Exception")) (LS.at ?_)
  refine wpAny_pure ?_
  exact wpAny_bind (wpAny_newObj_type (wpAny_pure hq))
theorem super_ga {so D x C : Addr} {ox : Obj} {l₀ l : List Value} {K : Frag} {tk : Tok} {Q : Fin → Shared → Prop}
    (hso : h.get? so = some { cls := .type "super", dict := none, data := .fields #[.ref D, .ref x, .ref C], slots := #[] }) (hno : Looks (model prog w) h (opaqueClassAbove (.ref C)) none)
    (hC : Looks (model prog w) h (mroOf (.ref C)) l₀) (hl : (l₀.dropWhile (· != .ref D)).drop 1 = l) (X : K.In h)
    (hf : alongIn K (Str.ofString "__init__") l = some (some (.builtin "Exception.__init__"))) (hx : h.get? x = some ox) (hcl : ox.cls = .ref C) (hsub : subIn K (.ref C) (.type "Exception") = some true) (hxC : x ≠ C)
    (hq : Q (.done (.ret (.ref h.objs.size))) ⟨h.push (mwObj x), g, d, t, os⟩) :
    wpAny (model prog w) A (Builtin.«super.__getattribute__» ⟨[.ref so, .str (Str.ofString "__init__") tk], []⟩) Q E ⟨h, g, d, t, os⟩ := by
  have hlk := slot_get.lookup
  have hne : (Value.ref x == Value.ref C) = false := by simp [hxC]
  have hn : (Str.ofString "__init__" == ("__class__" : Str)) = false := by decide
  have hTf : (⟨h, g, d, t, os⟩ : Shared).TypeIs (.builtin "Exception.__init__") "wrapper_descriptor" := type_init
  have hdt : ({ cls := .type "super", dict := none, data := .fields #[.ref D, .ref x, .ref C], slots := #[] } : Obj).data = .fields #[.ref D, .ref x, .ref C] := rfl
  have f0 : (#[.ref D, .ref x, .ref C] : Array Value)[0]? = some (.ref D) := rfl
  have f1 : (#[.ref D, .ref x, .ref C] : Array Value)[1]? = some (.ref x) := rfl
  have f2 : (#[.ref D, .ref x, .ref C] : Array Value)[2]? = some (.ref C) := rfl
  unfold Builtin.«super.__getattribute__»
  repeat (first
    | (with_reducible refine wpAny_field hso hdt f0 ?_) | (with_reducible refine wpAny_field hso hdt f1 ?_) | (with_reducible refine wpAny_field hso hdt f2 ?_)
    | (with_reducible refine ks_wpAny_notOpaque hno ?_)
    | (with_reducible refine Looks.at hC ?_; rw [hl])
    | (refine ks_forIn_along X (fun _ _ => rfl) rfl ?_ hf)
    | (with_reducible refine wpAny_typeOf hTf ?_)
    | (with_reducible refine wpAny_call_entry slot_get hTf entry_get (run_get X hx hcl hsub ?_) (args_get _ _ _))
    | (with_reducible refine ⟨_, rfl, ?_⟩)
    | (simp only [hn, hne, Bool.or_false, Bool.false_eq_true, if_false])
    | wp_step
    | dsimp only)
  all_goals exact hq
theorem getm {so D x C : Addr} {ox : Obj} {l₀ l : List Value} {K : Frag} {pl : Sem Bool} {Q : Value × List Value → Shared → Prop}
    (hso : h.get? so = some { cls := .type "super", dict := none, data := .fields #[.ref D, .ref x, .ref C], slots := #[] }) (hno : Looks (model prog w) h (opaqueClassAbove (.ref C)) none)
    (hC : Looks (model prog w) h (mroOf (.ref C)) l₀) (hl : (l₀.dropWhile (· != .ref D)).drop 1 = l) (X : K.In h)
    (hf : alongIn K (Str.ofString "__init__") l = some (some (.builtin "Exception.__init__"))) (hx : h.get? x = some ox) (hcl : ox.cls = .ref C) (hsub : subIn K (.ref C) (.type "Exception") = some true) (hxC : x ≠ C)
    (hq : Q (.ref h.objs.size, []) ⟨h.push (mwObj x), g, d, t + 1, os⟩) :
    wpAny (model prog w) A (getMethod (.ref so) (Str.ofString "__init__") pl) Q E ⟨h, g, d, t, os⟩ := by
  have hlk := F.ks_slot_super_ga.lookup
  have hcan := F.ks_canon_super_ga
  have hT : ∀ t', (⟨h, g, d, t', os⟩ : Shared).TypeIs (.ref so) "super" := fun _ => ⟨_, hso, rfl⟩
  unfold getMethod
  refine wpAny_bind (wpAny_specialOf (hT _) hlk ?_)
  show wpAny _ _ (if (Manifest.canonical "super.__getattribute__" != "object.__getattribute__") = true then _ else _) _ _ _
  rw [if_pos hcan]
  unfold getAttr getAttrBy
  refine wpAny_bind (wpAny_bind (wpAny_mkText (wpAny_holding (wpAny_bind (wpAny_typeOf (hT _) (wpAny_bind (wpAny_of_eq hlk ?_)))))))
  show wpAny _ _ (getAttrByItsOwn (.ref so) (.str (Str.ofString "__init__") t) (.type "super") (.builtin "super.__getattribute__") true false) _ _ _
  unfold getAttrByItsOwn hookBefore callGetattribute boundAndCalled
  refine wpAny_bind (wpAny_of_eq (show (if onTheHeap (.type "super") then typeLookup (.type "super") "__getattr__" else pure none) = pure none from rfl) ?_)
  refine wpAny_bind (wpAny_attempt (wpAny_holding ?_))
  show wpAny _ _ (bindSpecial (.builtin "super.__getattribute__") (.ref so) >>= _) _ _ _
  refine wpAny_bind (wpAny_of_eq (F.ks_slot_super_ga.bind _) ?_)
  refine wpAny_mono (Q := fun v s' => v = .ref h.objs.size ∧ s' = ⟨h.push (mwObj x), g, d, t + 1, os⟩) (E := fun _ _ => False)
    (wpAny_call_entry F.ks_slot_super_ga (hT _) F.ks_entry_super_ga (super_ga hso hno hC hl X hf hx hcl hsub hxC ⟨_, rfl, rfl, rfl⟩) (F.ks_gaArgs_super _ _)) (fun v s' hv => ?_) fun _ _ z => z.elim
  obtain ⟨rfl, rfl⟩ := hv
  exact wpAny_pure (wpAny_pure hq)
variable {nm q : Str} {C N : Addr} {bs bm : List Value} {hdct : Bool} {sn : List Str} {sub : List Value} {ab : Bool} {col : Option Bool} {dd : Option Addr} {k0 k1 k2 k3 k5 : Option Value}
theorem check_bound {e : Addr} {oe : Obj} {rest : List Value} {Q : Unit → Shared → Prop}
    (hC : h.get? C = some (excClassObj nm q C N bs bm hdct sn sub ab col dd k0 k1 k2 k3 k5 "Exception.__new__")) (he : h.get? e = some oe) (hcls : oe.cls = .ref C) (hq : Q () ⟨h, g, d, t, os⟩) :
    wpAny M A (checkBoundCall "Exception.__init__" ⟨.ref e :: rest, []⟩) Q E ⟨h, g, d, t, os⟩ := by
  have F := PySem.F.excBase_Exception
  have hshort := F.noStar
  simp only [checkBoundCall, F.initKind, F.initSplit, F.initRow]
  repeat (first | (with_reducible refine wpAny_loadPart_at he ?_; rw [hcls]) | with_reducible refine wpAny_loadPart_at hC ?_ | wp_step)
  refine wpAny_onRaise ?_
  rw [show ∀ (a b : String) (n : Nat), Bind.check ⟨.positional, "*", "Exception", .self, [⟨"args", .varPos, false⟩]⟩ a b n (List.map (fun x => x.fst) ({ pos := Value.ref e :: rest } : Args).kw) = pure () from
    fun a b n => check_star_args _ _ _ _ _ _]
  exact wpAny_pure hq
theorem run_init {e t0 : Addr} {ob : Obj} {vs : Array Value} {rest : List Value} {Q : Fin → Shared → Prop} (he : h.get? e = some ob) (hd : ob.data = .fields vs) (h0 : vs[0]? = some (.ref t0)) (hrest : rest.length ≤ sizeLine)
    (hq : Q (.done (.ret .none)) ⟨(h.push { cls := .type "tuple", data := .seq rest.toArray }).update e (Obj.mapFields (·.setIfInBounds 0 (.ref h.objs.size))), g, d, t, os⟩) :
    wpAny M A (Builtin.«BaseException.__init__» ⟨.ref e :: rest, []⟩) Q E ⟨h, g, d, t, os⟩ := by
  unfold Builtin.«BaseException.__init__»
  dsimp only
  rw [if_neg (by simp)]
  unfold newTuple Builtin.BaseException.bexcPut
  have hsz : 0 < vs.size := (Array.getElem?_eq_some_iff.mp h0).1
  have he₁ := Heap.get?_push_of_some (h := h) { cls := .type "tuple", data := .seq rest.toArray } he
  refine wpAny_bind (wpAny_newObj_type (wpAny_bind (wpAny_bind (wpAny_field he₁ hd h0 (wpAny_bind (wpAny_setField he₁ hd hsz ?_))))) (by show rest.toArray.size ≤ sizeLine; rw [List.size_toArray]; exact hrest))
  exact wpAny_letGo (wpAny_pure hq)
theorem call_init {u x t0 : Addr} {ob : Obj} {vs : Array Value} {rest : List Value} {Q : Value → Shared → Prop}
    (hC : h.get? C = some (excClassObj nm q C N bs bm hdct sn sub ab col dd k0 k1 k2 k3 k5 "Exception.__new__")) (hu : h.get? u = some (mwObj x)) (he : h.get? x = some ob) (hcls : ob.cls = .ref C) (hd : ob.data = .fields vs) (h0 : vs[0]? = some (.ref t0)) (hrest : rest.length ≤ sizeLine)
    (hq : Q .none ⟨(h.push { cls := .type "tuple", data := .seq rest.toArray }).update x (Obj.mapFields (·.setIfInBounds 0 (.ref h.objs.size))), g, d, t, os⟩) :
    wpAny (model prog w) A (call (.ref u) rest) Q E ⟨h, g, d, t, os⟩ := by
  have F := PySem.F.excBase_Exception
  refine wpAny_call (codeAny_of_tree ?_)
  show wpAny _ A.in1 (callAny (.ref u) ⟨rest, []⟩) _ _ _
  simp only [callAny]
  refine wpAny_bind (wpAny_load hu ?_)
  simp only [mwObj, show (Value.type "method-wrapper" == Value.type "method" || Value.type "method-wrapper" == Value.type "builtin_function_or_method" || Value.type "method-wrapper" == Value.type "method-wrapper") = true by decide, if_true]
  refine KFB.if_so (by decide) ?_
  refine wpAny_bind (check_bound hC he hcls ?_)
  refine wpAny_bind (wpAny_pure (wpAny_pure ?_))
  exact ⟨Code.quiet_builtin _ (by decide +kernel), codeAny_builtin F.initEntry (run_init he hd h0 hrest hq)⟩
end
end XI
end
end Mine
namespace Mine
theorem fresh_V2 : True := by
  w_top off
  trivial
end Mine
-- part V3
namespace Mine
section
variable {w : World} {A : Around} {h₀ : Heap} {L : Addr} {m : Str → Option Value} {s : Shared} {Q : Value → Shared → Prop} {E : Value → Shared → Prop}
section
variable {news : List (Addr × Obj)} {R : Value → Shared → Prop} {name qual : Str} {params : Arguments} {body : List Stmt} {scope : Scope} {dV kV doc pm cdv ct oc : Value} {an od : Option Addr} {osl : Array (Option Value)} {f cc : Addr} {args : Args} {binds : List (Str × Value)}
/-- a def that closes over its class is entered -/
theorem enterS (H : Here w A h₀ L) (F : Fr h₀ L s.heap m) (N : News h₀ L s.heap news)
    (ho : (hd.heap_39 w.params).lookup f = some ⟨oc, od, .func (ksFn name qual params body scope dV kV doc pm an cdv ct cc), osl⟩) (hcd : codeIn (hd.heap_39 w.params) cdv qual = true) (hroom : A.depth < recursionLimit)
    (hbind : BindsTo s (ksFn name qual params body scope dV kV doc pm an cdv ct cc) args binds) (hloc : ∀ y ∈ binds, scope.names.lookup y.1 = some .local)
    (h : ∀ g L' h₁, Here w (A.deeper (ksEnv qual scope L' f cdv cc)) g L' → Fr g L' h₁ (fun y => binds.reverse.lookup y) → News g L' h₁ news →
      (∀ b o, b ∉ news.map (·.1) → s.heap.get? b = some o → g.get? b = some o) → (∀ b o, g.get? b = some o → s.heap.get? b = some o) → s.heap.objs.size ≤ L' →
      PySem.wpAt (model PySem.Challenge.rw_vk0009_01.row.prog w) (A.deeper (ksEnv qual scope L' f cdv cc)) (.func body (ksEnv qual scope L' f cdv cc)) (execs body (ksEnv qual scope L' f cdv cc))
        (fun fl s' => Back (news.map (·.1)) s.heap g L' R (match fl with | .ret v => v | _ => .none) s')
        (fun e s' => wpAny (model PySem.Challenge.rw_vk0009_01.row.prog w) (A.deeper (ksEnv qual scope L' f cdv cc)) (leaving (ksEnv qual scope L' f cdv cc) e) (fun _ s'' => E e s'') (fun e' s'' => E e' s'') s')
        { s with heap := h₁, toks := s.toks + binds.length })
    (hcell : ∀ x ∈ scope.names, x.2 ≠ .cell)
    (hco : scope.isCoroutine = false) (hgen : scope.isGenerator = false) (hk : scope.kind = .function) : codeAny (model PySem.Challenge.rw_vk0009_01.row.prog w) A (.call (.ref f) args) (onRes R E) s := by
  obtain ⟨⟨A₀, base, outer, env, p, loose, mean, mg, mb, B, T, hA, hf, hke⟩, X₀, hh⟩ := H
  obtain ⟨FG, BG, st, lv⟩ := groundX (R := fun _ _ => True) B F N hA hf hke
  have TG : Top p loose mean mg mb (hideAll s.heap (news.map fun x => x.1)) := T.keeps st
  have XG : (hd.heap_39 w.params).In (hideAll s.heap (news.map fun x => x.1)) := X₀.keeps st
  have hg : ∀ b o, b ∉ news.map (·.1) → s.heap.get? b = some o → (hideAll s.heap (news.map (·.1))).get? b = some o := fun b o n e => hideAll_get _ e n
  refine ks_codeAny_call_defAt (fd := ksFn name qual params body scope dV kV doc pm an cdv ct cc) (body := body) (binds := binds) hroom ((X₀.keeps F.keep) _ _ ho) rfl (T.nolimit.keeps F.keep) (codeRec_of (X₀.keeps F.keep) hcd) rfl hbind hcell hloc (fun h₁ hns hk₁ => ?_) hco hgen hk
  refine ks_wpAt_mono (h (hideAll s.heap (news.map (·.1))) s.heap.objs.size h₁ (Here.deeper hA BG TG XG hh rfl hk) ⟨hns, fun b o e => hk₁ b o (of_hideAll _ e), Nat.le_of_eq (hideAll_size _ _)⟩
    (fun p hp => ⟨hk₁ _ _ (N p hp).1, Nat.ne_of_lt (Heap.lt_size (N p hp).1), hideAll_none _ (List.mem_map_of_mem hp)⟩) hg (fun b o e => of_hideAll _ e) (Nat.le_refl _)) (fun fl s' hl => back_ret hg hl) fun _ _ y => y
end
theorem callWith_mw {M : Model} {Q : Value → Shared → Prop} {pos : Pos} {u x : Addr} {first : List Value} {args : List (Bool × Sem Value)} (hplain : args.any (·.1) = false)
    (h : wpAny M A (evalArgs (.ref u) true args []) (fun a s₁ => s₁.heap.get? u = some (XI.mwObj x) ∧ wpAny M A (call (.ref u) (first ++ a.pos) a.kw) Q E s₁) E s) : wpAny M A (callWith pos (.ref u) first args []) Q E s := by
  unfold callWith
  refine wpAny_bind (wpAny_holding (wpAny_mono h (fun x s₁ h₁ => wpAny_bind (wpAny_standAt ?_)) fun _ _ x => x))
  obtain ⟨ho, hcall⟩ := h₁
  simp only [hplain, List.any_nil, Bool.or_false]
  refine wpAny_bind (m := keeperOf (.ref u)) ?_
  unfold keeperOf
  refine wpAny_bind (wpAny_load ho ?_)
  simp only [XI.mwObj, show (Value.type "method-wrapper" != Value.type "method") = true by decide, show (Value.type "method-wrapper" == Value.type "builtin_function_or_method" || Value.type "method-wrapper" == Value.type "method-wrapper") = true by decide, if_true]
  refine wpAny_pure ?_
  exact wpAny_bind (wpAny_mono hcall (fun r s₂ hr => wpAny_bind (wpAny_holding (wpAny_point (wpAny_pure hr)))) fun _ _ x => x)
theorem callWith_mw' {M : Model} {Q : Value → Shared → Prop} {pos : Pos} {u x : Addr} {first : List Value} {env : Env} {e : PySem.Expr} {rest : List PySem.Expr}
    (h : wpAny M A (spliced (backTo pos (starEach (e :: rest) env))) (fun vs s₁ => s₁.heap.get? u = some (XI.mwObj x) ∧ wpAny M A (call (.ref u) (first ++ vs)) Q E s₁) E s)
    (he : starEach (e :: rest) env = (false, eval e env) :: starEach rest env := by rfl) (hplain : (backTo pos (starEach rest env)).any (·.1) = false := by rfl) :
    wpAny M A (callWith pos (.ref u) first (backTo pos (starEach (e :: rest) env)) []) Q E s := by
  rw [he] at h ⊢
  refine callWith_mw (x := x) (by show (false || (backTo pos (starEach rest env)).any (·.1)) = false; rw [hplain]; rfl) ?_
  exact evalArgs_plain h
end
end Mine
namespace Mine
theorem fresh_V3 : True := by
  w_top off
  trivial
end Mine
-- part V4
namespace Mine
section
variable {w : World} {A : Around} {h₀ : Heap} {L : Addr} {m : Str → Option Value} {s : Shared} {Q : Value → Shared → Prop} {E : Value → Shared → Prop}
def excO (t : Addr) (dct : Option Addr) : Obj := { cls := .ref 140, dict := dct, data := .fields #[.ref t, .none, .none, .none, .bool false, .none] }
def XNames (h : Heap) (d : Addr) (f : Str → Option Value) (k : Nat) : Prop := ∃ es n, h.get? d = some (dictOf es n) ∧ (∀ x, getL x es = some (f x)) ∧ es.length ≤ k
theorem XNames.kept {h h' : Heap} {d : Addr} {f : Str → Option Value} {k : Nat} {S : List Addr} (x : XNames h d f k) (kk : Kept S h h') (hd : d ∉ S) : XNames h' d f k := let ⟨es, n, e, r⟩ := x; ⟨es, n, kk _ _ hd e, r⟩
theorem store_tail {dx : Addr} {name : Str} {tk : Tok} {v : Value} {es : List DictEntry} {n : Nat} {Q : Fin → Shared → Prop} {prog : Program} (D : s.heap.get? dx = some (dictOf es n)) (hl : (getL name es).isSome = true) (hz : es.length ≤ 900)
    (h : Q (.done (.ret .none)) { s with heap := s.heap.update dx (Obj.putName name (PyData.keyHash w.params name) (.str name s.toks) v), toks := s.toks + 1 }) :
    wpAny (model prog w) A (Builtin.ObjectAttr.storeInDict dx (.str name tk) name v) Q E s := by
  have e : Obj.putName name (PyData.keyHash w.params name) (.str name s.toks) v (dictOf es n) = dictOf (putL name (PyData.keyHash w.params name) (.str name s.toks) v es) (putN name es n) := putName_dict _ _ _ _ _ _
  have D' : (s.heap.update dx (Obj.putName name (PyData.keyHash w.params name) (.str name s.toks) v)).get? dx = some (dictOf (putL name (PyData.keyHash w.params name) (.str name s.toks) v es) (putN name es n)) := by
    rw [← e]
    refine Heap.get?_update_self _ D ?_
    rw [e]; rfl
  refine wpAny_bind (wpAny_pure (wpAny_bind ?_))
  unfold nsSet
  refine wpAny_bind (wpAny_bind (wpAny_askSetting (wpAny_pure (wpAny_bind (wpAny_mkText (wpAny_bind (wpAny_loadPart D ?_)))))))
  have hl' : (lookIn name (dictOf es n)).isSome = true := hl
  have c : (!es.toArray.any (·.key.isStr name) && es.toArray.any (·.refKey)) = false := by
    unfold getL at hl
    rw [← Array.any_toList, ← Array.any_toList]
    show (!es.any _ && es.any _) = false
    split at hl
    · rename_i en he
      rw [List.any_eq_true.mpr ⟨en, List.mem_of_find?_eq_some he, List.find?_some he⟩]; rfl
    · split at hl
      · cases hl
      · rename_i z; rw [Bool.not_eq_true] at z; rw [z, Bool.and_false]
  unfold dictOf
  dsimp only
  rw [aRefKeyMayBeTheName_at, c]
  refine wpAny_updatePart D ?_
  refine wpAny_bind (wpAny_lookBehind D' (pastItsLine_dict (by have := putL_len (name := name) (hsh := PyData.keyHash w.params name) (k := .str name s.toks) (v := v) es; rw [List.size_toArray, sizeLine_eq]; omega)) ?_)
  exact wpAny_pure h
theorem refuse_exc (self : Value) : refuseLoop self "__setattr__" [.ref 140, .ref 127, .type "Exception", .type "BaseException", .type "object"] = pure () := by
  rw [refuseLoop_ref, refuseLoop_ref]; exact PySem.F.store_Exception.passes self
theorem osa_exc {prog : Program} {K : Frag} {R : Result → Shared → Prop} {x : Addr} {ox : Obj} {od : Option Obj} {name : Str} {tk : Tok} {v : Value} (X : K.In s.heap) (I : InstAt s.heap x ox 140 od)
    (hm : (clsIn K 140).any (fun cd => cd.mro == [.ref 140, .ref 127, .type "Exception", .type "BaseException", .type "object"]) = true) (ho : mroIn K 140 (.type "object") = some true) (ht : takerIn K 140 name = some none)
    (h : ∀ b, wpAny (model prog w) A.in1 (Builtin.ObjectAttr.storeInOwnDict (.ref x) (.ref 140) (.str name tk) name v b)
      (fun fin s' => match fin with | .done f => R (.ok f) s' | .again c' => c'.quiet = true ∧ codeAny (model prog w) A c' R s') (fun e s' => R (.error e) s') s) :
    codeAny (model prog w) A (.call (.builtin "object.__setattr__") ⟨[.ref x, .str name tk, v], []⟩) R s := by
  have SF := PySem.F.store_object
  obtain ⟨cd, hc, hmm⟩ := any_some hm
  have hmro : cd.mro = [.ref 140, .ref 127, .type "Exception", .type "BaseException", .type "object"] := by simpa using hmm
  have sub : Looks (model prog w) s.heap (isInstance (.ref x) (.type "object")) true := I.type.andThen (looks_mroIn X ho)
  refine codeAny_call_builtin SF.slot.plain SF.entry (@check_slot (model prog w) _ _ s "object.__setattr__" "object" "__setattr__" (.ref x) [.str name tk, v] [] _ SF.kind SF.split sub (SF.args (.ref x) (.str name tk) v) ?_)
  obtain ⟨attr, ha, hr⟩ := Option.bind_eq_some_iff.mp ht
  have hmr : Looks (model prog w) s.heap (mroOf (.ref 140)) cd.mro := (looks_clsIn X hc).andThen .now
  have L3 : Looks (model prog w) s.heap (Builtin.ObjectAttr.storeTaker? attr) none := by
    cases attr with
    | none => exact .now
    | some a =>
      obtain ⟨b, hb, hbb⟩ := Option.map_eq_some_iff.mp hr
      refine (looks_takesIn X hb).andThen ?_
      cases b
      · exact .now
      · cases hbb
  rw [osa_eq, refuse_eq]
  refine wpAny_bind (wpAny_bind (I.type.here (wpAny_bind (hmr.here ?_))))
  rw [hmro, refuse_exc]
  refine wpAny_pure (wpAny_bind (I.type.here (wpAny_bind ((looks_findIn X ha).here (wpAny_bind (L3.here ?_))))))
  exact h _
theorem set_exc {x t d : Addr} {f : Str → Option Value} {k : Nat} {name : Str} {v : Value} {QQ : Unit → Shared → Prop} (F : Fr h₀ L s.heap m) (X : (hd.heap_39 w.params).In h₀) (ho : s.heap.get? x = some (excO t (some d))) (hds : XNames s.heap d f k) (hk : k ≤ 50) (hdL : d ≠ L) (hd0 : h₀.get? d = none)
    (ht : takerIn (hd.heap_39 w.params) 140 name = some none)
    (ret : ∀ h' tk', Fr h₀ L h' m → Kept [d] s.heap h' → XNames h' d (fun y => if y = name then some v else f y) (k + 1) → QQ () { s with heap := h', toks := tk' }) :
    wpAny (model PySem.Challenge.rw_vk0009_01.row.prog w) A (setAttr (.ref x) name v) QQ E s := by
  obtain ⟨hp, gs, dr, tk, os⟩ := s
  obtain ⟨es, n, h1, h2, h3⟩ := hds
  have I : InstAt hp x (excO t (some d)) 140 (some (dictOf es n)) := ⟨ho, rfl, rfl, h1⟩
  revert X ht; k_fill; intro X ht
  have XH : (Mine.hd.heap_39 w.params).In hp := X.keeps F.keep
  have hm : (clsIn (Mine.hd.heap_39 w.params) 140).any (fun cd => cd.mro == [.ref 140, .ref 127, .type "Exception", .type "BaseException", .type "object"]) = true := by kernel_rfl
  have hh : hasDictIn (Mine.hd.heap_39 w.params) 140 = true := by k_is
  obtain ⟨cd, hc, hd'⟩ := any_some hh
  refine set_plain XH I (by k_is) ?_
  refine osa_exc (s := ⟨hp, gs, dr, tk + 1, os⟩) XH I hm (by k_is) ht (fun b => ?_)
  refine wpAny_bind (wpAny_pure (wpAny_bind (wpAny_bind (wpAny_loadPart ho (wpAny_bind ((looks_clsIn XH hc).at ?_))))))
  rw [hd']
  refine wpAny_pure (a := some d) ?_
  refine store_tail (s := ⟨hp, gs, dr, tk + 1, os⟩) h1 (by rw [h2]; rfl) (by omega) ?_
  have hup : Kept [d] hp (hp.update d (Obj.putName name (PyData.keyHash w.params name) (.str name (tk + 1)) v)) := fun b o hb e => (Heap.get?_update_ne _ _ _ _ (fun q => hb (by simp [q]))).trans e
  have e : Obj.putName name (PyData.keyHash w.params name) (.str name (tk + 1)) v (dictOf es n) = dictOf (putL name (PyData.keyHash w.params name) (.str name (tk + 1)) v es) (putN name es n) := putName_dict _ _ _ _ _ _
  refine ret _ _ (Fr.kept F hup (fun q => hdL (List.mem_singleton.mp q).symm) (fun b hb => by rw [List.mem_singleton.mp hb]; exact hd0)) hup ⟨_, _, by rw [← e]; exact Heap.get?_update_self _ h1 (by rw [e]; rfl), fun y => ?_, Nat.le_trans (putL_len es) (by omega)⟩
  rw [getL_putL, h2]
  show _ = some (if y = name then some v else f y)
  by_cases q : y = name
  · rw [if_pos q, if_pos q]
  · rw [if_neg q, if_neg q]
theorem set_exc0 {x t : Addr} {name : Str} {v : Value} {QQ : Unit → Shared → Prop} (F : Fr h₀ L s.heap m) (X : (hd.heap_39 w.params).In h₀) (ho : s.heap.get? x = some (excO t none)) (hxL : x ≠ L) (hx0 : h₀.get? x = none)
    (ht : takerIn (hd.heap_39 w.params) 140 name = some none)
    (ret : ∀ d h' tk', Fr h₀ L h' m → Kept [x] s.heap h' → h'.get? x = some (excO t (some d)) → s.heap.get? d = none → s.heap.objs.size ≤ d → d ≠ L → h₀.get? d = none → XNames h' d (fun y => if y = name then some v else none) 1 → QQ () { s with heap := h', toks := tk' }) :
    wpAny (model PySem.Challenge.rw_vk0009_01.row.prog w) A (setAttr (.ref x) name v) QQ E s := by
  obtain ⟨hp, gs, dr, tk, os⟩ := s
  have I : InstAt hp x (excO t none) 140 none := ⟨ho, rfl, rfl, trivial⟩
  revert X ht; k_fill; intro X ht
  have XH : (Mine.hd.heap_39 w.params).In hp := X.keeps F.keep
  have hm : (clsIn (Mine.hd.heap_39 w.params) 140).any (fun cd => cd.mro == [.ref 140, .ref 127, .type "Exception", .type "BaseException", .type "object"]) = true := by kernel_rfl
  have hh : hasDictIn (Mine.hd.heap_39 w.params) 140 = true := by k_is
  obtain ⟨cd, hc, hd'⟩ := any_some hh
  refine set_plain XH I (by k_is) ?_
  refine osa_exc (s := ⟨hp, gs, dr, tk + 1, os⟩) XH I hm (by k_is) ht (fun b => ?_)
  refine wpAny_bind (wpAny_pure (wpAny_bind (wpAny_bind (wpAny_loadPart ho (wpAny_bind ((looks_clsIn XH hc).at ?_))))))
  rw [hd']
  have hfr := Fr.fresh F (Nat.le_refl _)
  have hsn : hp.get? hp.objs.size = none := Heap.get?_none_of_le (Nat.le_refl _)
  have ho' : hp.get? x = some (excO t none) := ho
  have hxd : x ≠ hp.objs.size := Nat.ne_of_lt (Heap.lt_size ho')
  have ho1 : (hp.push emptyDict).get? x = some (excO t none) := Heap.get?_push_of_some _ ho'
  have hup : ∀ b o, b ≠ x → hp.get? b = some o → ((hp.push emptyDict).update x fun o => { o with dict := some hp.objs.size }).get? b = some o := fun b o hb e => (Heap.get?_update_ne _ _ _ _ hb).trans (Heap.get?_push_of_some _ e)
  have hx2 : ((hp.push emptyDict).update x fun o => { o with dict := some hp.objs.size }).get? x = some (excO t (some hp.objs.size)) := Heap.get?_update_self _ ho1 rfl
  have hd2 : ((hp.push emptyDict).update x fun o => { o with dict := some hp.objs.size }).get? hp.objs.size = some (dictOf [] 0) := (Heap.get?_update_ne _ _ _ _ (Ne.symm hxd)).trans (Heap.get?_push_size _ rfl)
  refine wpAny_bind (wpAny_alloc (wpAny_bind (wpAny_update ho1 ?_)))
  refine wpAny_pure (a := some hp.objs.size) ?_
  refine store_tail (s := ⟨(hp.push emptyDict).update x fun o => { o with dict := some hp.objs.size }, gs, dr, tk + 1, os⟩) (es := []) (n := 0) hd2 rfl (by decide) ?_
  generalize hg2 : ((hp.push emptyDict).update x fun o => { o with dict := some hp.objs.size }) = h2 at hup hx2 hd2
  generalize hdd : hp.objs.size = d at *
  have e : Obj.putName name (PyData.keyHash w.params name) (.str name (tk + 1)) v (dictOf [] 0) = dictOf (putL name (PyData.keyHash w.params name) (.str name (tk + 1)) v []) (putN name [] 0) := putName_dict _ _ _ _ _ _
  have hk : Kept [x] hp (h2.update d (Obj.putName name (PyData.keyHash w.params name) (.str name (tk + 1)) v)) := fun b o hb e => by
    have hbd : b ≠ d := fun q => by rw [q, hsn] at e; cases e
    exact (Heap.get?_update_ne _ _ _ _ hbd).trans (hup b o (by simpa using hb) e)
  refine ret d _ _ (Fr.kept F hk (fun q => hxL (List.mem_singleton.mp q).symm) (fun b hb => by rw [List.mem_singleton.mp hb]; exact hx0)) hk ((Heap.get?_update_ne _ _ _ _ hxd).trans hx2) hsn (Nat.le_refl _) hfr.1 hfr.2 ⟨_, _, (Heap.get?_update_self _ hd2 (by rw [e]; rfl)).trans (congrArg some e), fun y => ?_, putL_len (es := []) (name := name) (hsh := PyData.keyHash w.params name) (k := .str name (tk + 1)) (v := v)⟩
  rw [getL_putL]
  show _ = some (if y = name then some v else none)
  by_cases q : y = name
  · rw [if_pos q, if_pos q]
  · rw [if_neg q, if_neg q]; rfl
end
end Mine
namespace Mine
theorem fresh_V4 : True := by
  w_top off
  trivial
end Mine
-- part V5
namespace Mine
section
variable {w : World} {A : Around} {h₀ : Heap} {L : Addr} {m : Str → Option Value} {s : Shared} {Q : Value → Shared → Prop} {E : Value → Shared → Prop}
theorem lnew_kind : builtinKind "list.__new__" = some .builtinFn := by decide +kernel
theorem lnew_split : splitId "list.__new__" = some ("list", "__new__") := by decide +kernel
theorem lnew_row : Manifest.signature? "list.__new__" = some ⟨.any, "list", "list", .cls, [⟨"args", .varPos, false⟩, ⟨"kwargs", .varKw, false⟩]⟩ := by kernel_rfl
section
variable {prog : Program} {R : Result → Shared → Prop} {h : Heap} {g : Array GenState} {dr : Drawn} {t : Nat} {os : OsState}
variable {nm q : Str} {C N : Addr} {bs bm : List Value} {hdct : Bool} {sn : List Str} {sub : List Value} {ab : Bool} {col : Option Bool} {dd : Option Addr} {k0 k1 k2 k3 k5 : Option Value}
theorem lnew_check {M : Model} {E : Value → Shared → Prop} {Q : Unit → Shared → Prop} {a : Value} (hC : h.get? C = some (excClassObj nm q C N bs bm hdct sn sub ab col dd k0 k1 k2 k3 k5 "list.__new__"))
    (hB : (Value.ref C :: bm).contains (.type "list") = true) (hq : Q () ⟨h, g, dr, t, os⟩) :
    wpAny M A (checkBuiltinCall "list.__new__" ⟨[.ref C, a], []⟩) Q E ⟨h, g, dr, t, os⟩ := by
  have hstar : ("list" != "*") = true := by decide +kernel
  simp only [checkBuiltinCall, lnew_kind, lnew_split, lnew_row]
  repeat (first | with_reducible refine wpAny_loadPart_at hC ?_ | (with_reducible refine wpAny_isSubtype_exc hC ?_; rw [hB]) | with_reducible refine wpAny_staticBase_exc hC ?_ | with_reducible refine wpAny_madeBy_exc hC ?_ | simp only [bne_self_eq_false, Bool.false_eq_true, if_false] | wp_step)
  exact hq
abbrev stepsO (C d : Addr) (items : Array Value) (c : Nat) : Obj := { cls := .ref C, dict := some d, data := .seq items c }
theorem lnew_run {a : Value} (hC : h.get? C = some (excClassObj nm q C N bs bm hdct sn sub ab col dd k0 k1 k2 k3 k5 "list.__new__"))
    (hB : (Value.ref C :: bm).contains (.type "list") = true)
    (hq : R (.ok (.ret (.ref (h.objs.size + 1)))) ⟨(h.push emptyDict).push (stepsO C h.objs.size #[] 0), g, dr, t, os⟩) :
    codeAny (model prog w) A (.builtin "list.__new__" ⟨[.ref C, a], []⟩) R ⟨h, g, dr, t, os⟩ := by
  refine codeAny_builtin_stack F.entry_list_new rfl fun p st => ?_
  have hown := owner_list_new
  simp only [hown]
  have hC1 : (h.push emptyDict).get? C = some (excClassObj nm q C N bs bm hdct sn sub ab col dd k0 k1 k2 k3 k5 "list.__new__") := Heap.get?_push_of_some _ hC
  have hC2 : ((h.push emptyDict).push (stepsO C h.objs.size #[] 0)).get? C = some (excClassObj nm q C N bs bm hdct sn sub ab col dd k0 k1 k2 k3 k5 "list.__new__") := Heap.get?_push_of_some _ hC1
  repeat (first | with_reducible refine wpAny_loadPart_at hC ?_ | (with_reducible refine wpAny_isSubtype_exc hC ?_; rw [hB]) | with_reducible refine wpAny_loadPart_at hC1 ?_ | with_reducible refine wpAny_loadPart_at hC2 ?_ | wp_step)
  show R _ _
  rw [Heap.size_push]
  exact hq
theorem lupd {M : Model} {E : Value → Shared → Prop} {S it d : Addr} {T : String} {o : Obj} {items : Array Value} {n c : Nat} {P : Fin → Shared → Prop} (hT : T = "list" ∨ T = "tuple") (hne : it ≠ S)
    (hS : h.get? S = some (stepsO C d #[] c)) (ho : h.get? it = some o) (hc : o.cls = .type T) (hd : o.data = .seq items n) (hsz : items.size ≤ sizeLine)
    (hq : ∀ h' c', (∀ b o', b ≠ S → h.get? b = some o' → h'.get? b = some o') → h'.get? S = some (stepsO C d items c') → P (.done (.ret .none)) ⟨h', g, dr, t, os⟩) :
    wpAny M A (Builtin.«list.__init__» ⟨[.ref S, .ref it], []⟩) P E ⟨h, g, dr, t, os⟩ := by
  show wpAny _ A (do let old ← Builtin.List.listItems (.ref S); Builtin.List.listUpdate (.ref S) (fun _ => #[]); letGo old.toList.reverse; Builtin.List.listExtendWith (.ref S) (.ref it) .none) _ _ _
  refine wpAny_bind ?_
  unfold Builtin.List.listItems
  refine wpAny_bind (wpAny_seqItems hS rfl (wpAny_pure ?_))
  show wpAny _ A (updateSeq S (fun _ => #[]) >>= fun _ => letGo (#[] : Array Value).toList.reverse >>= fun _ => Builtin.List.listExtendWith (.ref S) (.ref it) .none) _ _ _
  refine wpAny_bind (wpAny_updateSeq hS rfl ?_)
  have hS₂ := Heap.get?_update_self (Obj.mapSeq (fun _ => (#[] : Array Value))) hS rfl
  refine wpAny_bind (wpAny_letGo ?_)
  have ho₂ := (Heap.get?_update_other h (Obj.mapSeq (fun _ => (#[] : Array Value))) (Ne.symm hne)).trans ho
  unfold Builtin.List.listExtendWith
  refine wpAny_bind (wpAny_typeOf ⟨o, ho₂, hc⟩ ?_)
  have h1 : (Builtin.List.listSameRef (.ref S) (.ref it) || Value.type T == Value.type "list" || Value.type T == Value.type "tuple") = true := by
    rcases hT with rfl | rfl <;> simp
  simp only [h1, if_true]
  refine wpAny_bind ?_
  unfold Builtin.List.listItems
  refine wpAny_bind (wpAny_seqItems ho₂ hd (wpAny_pure ?_))
  refine wpAny_bind ?_
  refine wpAny_bind (wpAny_seqItems hS₂ rfl (wpAny_pure ?_))
  show wpAny _ A (updateSeq S (· ++ items) >>= fun _ => ret .none) _ _ _
  refine wpAny_bind (wpAny_updateSeq hS₂ rfl ?_)
  have hS₃ := Heap.get?_update_self (Obj.mapSeq (· ++ items)) hS₂ rfl
  exact wpAny_pure (hq _ _ (fun b o' hb e => (Heap.get?_update_other _ _ (Ne.symm hb)).trans ((Heap.get?_update_other _ _ (Ne.symm hb)).trans e)) (by simpa [Obj.mapSeq] using hS₃))
theorem linit_kind : builtinKind "list.__init__" = some .slot := by decide +kernel
theorem linit_split : splitId "list.__init__" = some ("list", "__init__") := by decide +kernel
theorem steps_make {K : Frag} {it : Addr} {T : String} {o : Obj} {items : Array Value} {n : Nat} (X : K.In h) (hC : h.get? C = some (excClassObj nm q C N bs bm hdct sn sub ab col dd k0 k1 k2 k3 k5 "list.__new__"))
    (hB : (Value.ref C :: bm).contains (.type "list") = true) (hs : subIn K (.ref C) (.type "list") = some true)
    (hi : findIn K (.ref C) "__init__" = some (some (.builtin "list.__init__"))) (hcl : specialIn K (.ref C) "__call__" = some (some (.builtin "type.__call__"))) (hty : instIn K (.ref C) (.type "type") = some true)
    (hT : T = "list" ∨ T = "tuple") (ho : h.get? it = some o) (hc : o.cls = .type T) (hd : o.data = .seq items n) (hsz : items.size ≤ sizeLine)
    (hq : ∀ h' c', (∀ b o', h.get? b = some o' → h'.get? b = some o') → h'.get? (h.objs.size + 1) = some (stepsO C h.objs.size items c') → R (.ok (.ret (.ref (h.objs.size + 1)))) ⟨h', g, dr, t, os⟩) :
    codeAny (model prog w) A (.call (.ref C) ⟨[.ref it], []⟩) R ⟨h, g, dr, t, os⟩ := by
  have call := looks_specialIn (M := model prog w) X hcl
  have typ := looks_instIn (M := model prog w) X hty
  have hi0 := looks_findIn (M := model prog w) X hi
  refine codeAny_of_tree ?_
  show wpAny _ _ (callAny (.ref C) _) _ _ _
  refine nd_load hC ?_
  show wpAny _ _ (callAny.viaDunder (.ref C) _) _ _ _
  unfold callAny.viaDunder
  refine wpAny_bind (call.at ?_)
  dsimp only
  rw [tc_bind]
  refine wpAny_bind (wpAny_pure (wpAny_bind (wpAny_pure ?_)))
  refine wpAny_pure (a := Fin.again (.call (.builtin "type.__call__") ⟨.ref C :: [.ref it], []⟩)) (And.intro rfl ?_)
  refine codeAny_call_builtin_at (Code.quiet_builtin _ (by decide +kernel)) entry_typeCall ?_
  refine @check_slot (model prog w) _ _ ⟨h, g, dr, t, os⟩ "type.__call__" "type" "__call__" (.ref C) [.ref it] [] _ tc_kind tc_split typ (tc_args _ _ _) ?_
  unfold Builtin.«type.__call__»
  repeat (first | with_reducible refine wpAny_loadPart_at hC ?_ | with_reducible refine wpAny_madeBy_exc hC ?_ | wp_step)
  refine codeAny_call_builtin_code (Code.quiet_builtin _ (by decide +kernel)) (lnew_check hC hB ?_)
  refine lnew_run hC hB ?_
  show wpAny _ _ _ _ _ _
  have k : ∀ b o, h.get? b = some o → ((h.push emptyDict).push (stepsO C h.objs.size #[] 0)).get? b = some o := fun b o e => Heap.get?_push_of_some _ (Heap.get?_push_of_some _ e)
  have hx : ((h.push emptyDict).push (stepsO C h.objs.size #[] 0)).get? (h.objs.size + 1) = some (stepsO C h.objs.size #[] 0) := by heap_get
  have t1 : Looks (model prog w) ((h.push emptyDict).push (stepsO C h.objs.size #[] 0)) (typeOf (.ref (h.objs.size + 1))) (.ref C) := (Looks.ld hx).andThen .now
  have hC1 := k _ _ hC
  have i1 := hi0.keeps k
  have b1 : Looks (model prog w) ((h.push emptyDict).push (stepsO C h.objs.size #[] 0)) (bindSpecial (.builtin "list.__init__") (.ref (h.objs.size + 1))) (.builtin "list.__init__", [.ref (h.objs.size + 1)]) := Looks.of_pure (F.slot_list_init.bind _)
  have hcC : (Value.ref C :: bm).contains (.ref C) = true := by simp
  have X1 : K.In ((h.push emptyDict).push (stepsO C h.objs.size #[] 0)) := X.keeps k
  have LS : Looks (model prog w) ((h.push emptyDict).push (stepsO C h.objs.size #[] 0)) (isInstance (.ref (h.objs.size + 1)) (.type "list")) true := t1.andThen (looks_subIn X1 (t := .ref C) (base := .type "list") hs)
  have hne : it ≠ h.objs.size + 1 := fun e => absurd (Heap.lt_size ho) (e ▸ Nat.not_lt.mpr (Nat.le_succ _))
  unfold isInstance callSpecial? specialOf
  repeat (first | (with_reducible refine wpAny_isSubtype_exc hC1 ?_; rw [hcC]) | with_reducible refine wpAny_call ?_ | lk)
  refine codeAny_call_builtin F.slot_list_init.plain F.entry_list_init ?_
  refine @check_slot (model prog w) _ _ ⟨_, g, dr, t, os⟩ "list.__init__" "list" "__init__" (.ref (h.objs.size + 1)) [.ref it] [] _ linit_kind linit_split LS (F.args_list_init_2 _ _) ?_
  refine lupd hT hne hx (k _ _ ho) hc hd hsz (fun h' c' kk e => ?_)
  refine wpAny_pure (wpAny_pure ?_)
  exact hq h' c' (fun b o' eb => kk b o' (fun z => absurd (Heap.lt_size eb) (z ▸ Nat.not_lt.mpr (Nat.le_succ _))) (k _ _ eb)) e
end
end
end Mine
namespace Mine
theorem fresh_V5 : True := by
  w_top off
  trivial
end Mine
-- part V6
namespace Mine
section
variable {w : World} {A : Around} {h₀ : Heap} {L : Addr} {m : Str → Option Value} {s : Shared} {Q : Value → Shared → Prop} {E : Value → Shared → Prop}
theorem verr_spec {msg word : Str} {t1 t2 : Tok} {pl : Addr} {kvals : List Value} {u : Value} (H : Here w A h₀ L) (hdp : A.depth < 800) (hun : A.units < 8000) (F : Fr h₀ L s.heap m) (hl : s.heap.IsList pl kvals.toArray) (hlen : kvals.length ≤ 2) (hu : handedIn u = true)
    (ret : ∀ a er h' tk', Kept [] s.heap h' → ErrAt (hideAll h' (List.range s.heap.objs.size)) a er → er.msg = msg → er.word = word → er.path = kvals → er.inst = u → Q (.ref a) { s with heap := h', toks := tk' }) :
    wpAny (model PySem.Challenge.rw_vk0009_01.row.prog w) A (call (.ref 140) [.str msg t1] [(Str.ofString "validator", .str word t2), (Str.ofString "path", .ref pl), (Str.ofString "instance", u)]) Q E s := by
  have X := H.inK
  revert X; k_fill; intro X
  have XH := X.keeps F.keep
  obtain ⟨hp, gs, dr, tk, os⟩ := s
  refine wpAny_call ?_
  refine' make_exc XH (XH 140 _ ?k0) ?k1 ?k2 ?k3 ?k4 ?k5 ?k6 ?k7 ?_
  case k0 => k_is
  case k1 => kernel_rfl
  case k2 => kernel_rfl
  case k3 => kernel_rfl
  case k4 => k_is
  case k5 => k_is
  case k6 => k_is
  case k7 => k_is
  have hF := Fr.fresh F (Nat.le_refl _)
  have hF1 := Fr.fresh F (C := hp.objs.size + 1) (Nat.le_succ _)
  have kP : Kept [] hp ((hp.push { cls := .type "tuple", data := .seq #[.str msg t1] }).push { cls := .ref 140, data := .fields #[.ref hp.objs.size, .none, .none, .none, .bool false, .none] }) := fun b o _ e => Heap.get?_push_of_some _ (Heap.get?_push_of_some _ e)
  have hx : ((hp.push { cls := .type "tuple", data := .seq #[.str msg t1] }).push { cls := .ref 140, data := .fields #[.ref hp.objs.size, .none, .none, .none, .bool false, .none] }).get? (hp.objs.size + 1) = some (excO hp.objs.size none) := by
    show _ = some ({ cls := .ref 140, data := .fields #[.ref hp.objs.size, .none, .none, .none, .bool false, .none] } : Obj)
    heap_get
  have F1 := Fr.kept F kP (by simp) (by simp)
  have hxn : hp.get? (hp.objs.size + 1) = none := Heap.get?_none_of_le (Nat.le_succ _)
  generalize hh1 : (hp.push { cls := .type "tuple", data := .seq #[.str msg t1] }).push { cls := .ref 140, data := .fields #[.ref hp.objs.size, .none, .none, .none, .bool false, .none] } = h1 at kP hx F1 ⊢
  generalize hxx : hp.objs.size + 1 = x at hx hF1 hxn ⊢
  have N1 : News h₀ L h1 [(x, excO hp.objs.size none)] := fun p hp => by rw [List.mem_singleton.mp hp]; exact ⟨hx, hF1⟩
  have H1 : Here w (A.under (.builtin "type.__call__" ⟨[.ref 140, .str msg t1], [(Str.ofString "validator", .str word t2), (Str.ofString "path", .ref pl), (Str.ofString "instance", u)]⟩)) h₀ L := H.of_frames rfl rfl
  refine' codeAny_mono (enterS (binds := [(Str.ofString "self", .ref x), (Str.ofString "message", .str msg t1), (Str.ofString "validator", .str word t2), (Str.ofString "path", .ref pl), (Str.ofString "context", .ref 75), (Str.ofString "validator_value", .ref 65), (Str.ofString "instance", u), (Str.ofString "schema", .ref 65), (Str.ofString "schema_path", .ref 76), (Str.ofString "parent", .none), (Str.ofString "type_checker", .ref 65)]) (R := fun v s' => v = .none ∧ Q (.ref x) s') (E := E) H1 F1 N1 ?k6 ?k7 ?k8 ?k9 ?kB ?kW ?c5 ?c2 ?c3 ?c4) ?kM
  case k6 => k_is
  case k7 => k_is
  case k8 => show A.depth + 1 < 1000; omega
  case k9 => exact binds_K (X.keeps F1.keep) rfl (by k_is) rfl rfl rfl
  case kB => exact locs rfl
  case c5 => decide
  case c2 => exact rfl
  case c3 => exact rfl
  case c4 => exact rfl
  case kM =>
    intro r s' hr
    rcases r with e | (v | _ | _ | _)
    · exact hr
    · exact hr.elim
    · exact hr.elim
    · exact hr.elim
    · exact hr
  case kW =>
    intro g' L' h' H' F' N' up down hL'
    have hxL : x < L' := Nat.lt_of_lt_of_le (Heap.lt_size hx) hL'
    have ups : ∀ b o, hp.get? b = some o → g'.get? b = some o := fun b o e => up b o (fun q => by
      rw [show b = x by simpa using q, hxn] at e; cases e) (kP b o (by simp) e)
    have hl' : g'.IsList pl kvals.toArray := let ⟨o, e, r⟩ := hl; ⟨o, ups _ _ e, r⟩
    obtain ⟨⟨A₀, base, outer, env, p, loose, mean, mg, mb, B', T', hfr, _⟩, X', hh'⟩ := id H'
    (with_reducible show PySem.wpAt _ _ _ _ _ _ _)
    (try dsimp only)
    (try k_fold)
    walk1
    walk1
    walk1
    k_here
    have I0 : InstAt h' x (excO hp.objs.size none) 140 none := ⟨(N' _ (.head _)).1, rfl, rfl, trivial⟩
    refine ks_node F' X' N' T' (by k_is) (by rfl) (by rfl) I0 (by k_is) (by rfl) (by first | rfl | decide +kernel) (by k_is) (by k_is) (by k_is) (by k_is) (by decide) (by rfl) (by rfl) (by rfl) (by rfl) (by decide +kernel) (by first | boot_by_name | rfl | kernel_rfl) ?_
    intro so h2 F2 N2 l2
    have hm : (clsIn (Mine.hd.heap_39 w.params) 140).any (fun cd => cd.mro == [.ref 140, .ref 127, .type "Exception", .type "BaseException", .type "object"]) = true := by kernel_rfl
    obtain ⟨cd, hc, hmm⟩ := any_some hm
    have hmro : cd.mro = [.ref 140, .ref 127, .type "Exception", .type "BaseException", .type "object"] := by simpa using hmm
    have hxC : x ≠ 140 := ks_ne (X'.keeps F'.keep) I0 hc
    have XH2 : (Mine.hd.heap_39 w.params).In h2 := X'.keeps F2.keep
    refine XI.getm (C := 140) (l₀ := cd.mro) (l := [.type "Exception", .type "BaseException", .type "object"]) (N2 _ (.head _)).1 (looks_opaque XH2 (by k_is)) (fun A Q E s k q => wpAny_bind ((looks_clsIn XH2 hc) A _ E s k (wpAny_pure q))) (by rw [hmro]; rfl) XH2 (by kernel_rfl) (N2 _ (.tail _ (.head _))).1 rfl (by k_is) hxC ?_
    obtain ⟨F3, N3, l3⟩ := ks_newsPush (s := ⟨h2, gs, dr, 0, os⟩) (o := XI.mwObj x) F2 N2 rfl (Heap.get?_push_at rfl rfl) (fun b o e => Heap.get?_push_of_some _ e)
    dsimp only at F3 N3 l3 ⊢
    generalize h2.objs.size = mw at F3 N3 l3 ⊢
    generalize h2.push (XI.mwObj x) = h3 at F3 N3 ⊢
    refine callWith_mw' (x := x) ?_
    repeat' (((fail_if_success (with_reducible show wpAny _ _ (call (.ref _) _) _ _ _))); first | (k_unfold; (try dsimp only)) | (k_end; wrow_close) | walk1 | (dsimp only; walk1) | (leave1; walk_say "STEP leave1"; try dsimp only) | fail "no step")
    · exact (N3 _ (.head _)).1
    have XH3 : (Mine.hd.heap_39 w.params).In h3 := X'.keeps F3.keep
    have hx3 : h3.get? x = some (excO hp.objs.size none) := (N3 _ (.tail _ (.tail _ (.head _)))).1
    refine' XI.call_init (C := 140) (XH3 140 _ ?k0) (N3 _ (.head _)).1 hx3 rfl rfl rfl (by show 9 ≤ sizeLine; rw [sizeLine_eq]; decide) ?_
    case k0 => k_is
    have hx4 := Heap.get?_update_self (Obj.mapFields (·.setIfInBounds 0 (.ref h3.objs.size))) (Heap.get?_push_of_some { cls := .type "tuple", data := .seq (List.toArray [Value.str msg t1, Value.str word t2, Value.ref pl, Value.ref 75, Value.ref 65, u, Value.ref 65, Value.ref 76, Value.none]) } hx3) rfl
    have k4 : Kept [x] h3 ((h3.push { cls := .type "tuple", data := .seq (List.toArray [Value.str msg t1, Value.str word t2, Value.ref pl, Value.ref 75, Value.ref 65, u, Value.ref 65, Value.ref 76, Value.none]) }).update x (Obj.mapFields (·.setIfInBounds 0 (.ref h3.objs.size)))) := fun b o hb e => (Heap.get?_update_other _ _ (fun q => hb (by simp [q]))).trans (Heap.get?_push_of_some _ e)
    replace hx4 : Heap.get? _ x = some (excO h3.objs.size none) := hx4
    generalize h3.objs.size = tt4 at hx4 k4 ⊢
    generalize (h3.push { cls := .type "tuple", data := .seq (List.toArray [Value.str msg t1, Value.str word t2, Value.ref pl, Value.ref 75, Value.ref 65, u, Value.ref 65, Value.ref 76, Value.none]) }).update x (Obj.mapFields (·.setIfInBounds 0 (.ref tt4))) = h4 at hx4 k4 ⊢
    have F4 := Fr.kept F3 k4 (by simpa using (N' _ (.head _)).2.1.symm) (by simpa using (N' _ (.head _)).2.2)
    obtain ⟨own4, N4, ho4⟩ := snap g' L' h4
    clear F2 N2 F3 N3 hx3
    (try dsimp only)
    repeat' (((fail_if_success (with_reducible show wpAny _ _ (setAttr _ _ _) _ _ _))); first | (k_unfold; (try dsimp only)) | (k_end; wrow_close) | walk1 | (dsimp only; walk1) | (leave1; walk_say "STEP leave1"; try dsimp only) | fail "no step")
    have hx0 : g'.get? x = none := (N' _ (.head _)).2.2
    have hxL' : x ≠ L' := Nat.ne_of_lt hxL
    refine set_exc0 F4 X' hx4 hxL' hx0 (by k_is) (fun d h5 tk5 F5 k5 hx5 hdn hdz hdL hd0 D5 => ?_)
    have hxz4 := Heap.lt_size hx4
    obtain ⟨own5, N5, ho5⟩ := snap g' L' h5
    clear F4 N4
    (try dsimp only)
    repeat' (((fail_if_success (with_reducible show wpAny _ _ (call (.ref 38) _) _ _ _))); first | (k_unfold; (try dsimp only)) | (k_end; wrow_close) | walk1 | (dsimp only; walk1) | (leave1; walk_say "STEP leave1"; try dsimp only) | fail "no step")
    have XH5 := X'.keeps F5.keep
    obtain ⟨ol, hol, hoc, nol, hod⟩ := id hl'
    refine wpAny_call ?_
    refine' steps_make XH5 (XH5 38 _ ?k0) ?k1 ?k2 ?k3 ?k4 ?k5 (.inl rfl) (F5.keep _ _ hol) hoc hod ?k6 (fun h6 c6 k6 hst6 => ?_)
    case k0 => k_is
    case k1 => kernel_rfl
    case k2 => k_is
    case k3 => k_is
    case k4 => k_is
    case k5 => k_is
    case k6 => rw [sizeLine_eq, List.size_toArray]; omega
    dsimp only at k6 hst6 ⊢
    have k6' : Kept [] h5 h6 := fun b o _ e => k6 b o e
    have F6 := Fr.kept F5 k6' (by simp) (by simp)
    have hx6 := k6 _ _ hx5
    have D6 := D5.kept k6' (by simp)
    have hs56 : h5.get? (h5.objs.size + 1) = none := Heap.get?_none_of_le (Nat.le_succ _)
    have hs6f := Fr.fresh F5 (C := h5.objs.size + 1) (Nat.le_succ _)
    have hxz5 := Heap.lt_size hx5
    have hstz : x < h5.objs.size + 1 := Nat.lt_succ_of_lt hxz5
    generalize h5.objs.size + 1 = st at hst6 hs56 hs6f hstz ⊢
    generalize h5.objs.size = sd at hst6
    have hxst : x ≠ st := fun q => by rw [← q, hx5] at hs56; cases hs56
    have hdst : d ≠ st := fun q => by obtain ⟨_, _, e, _⟩ := D5; rw [← q, e] at hs56; cases hs56
    obtain ⟨own6, N6, ho6⟩ := snap g' L' h6
    have hs6 := hst6
    clear F5 N5
    (try dsimp only)
    repeat' (((fail_if_success (with_reducible show wpAny _ _ (setAttr _ _ _) _ _ _))); first | (k_unfold; (try dsimp only)) | (k_end; wrow_close) | walk1 | (dsimp only; walk1) | (leave1; walk_say "STEP leave1"; try dsimp only) | fail "no step")
    have hxd : x ≠ d := fun q => by rw [← q, hx4] at hdn; cases hdn
    refine set_exc F6 X' hx6 D6 (by decide) hdL hd0 (by k_is) (fun h7 tk7 F7 k7 D7 => ?_)
    have hx7 := k7 _ _ (by simpa using hxd) hx6
    have hs7 := k7 _ _ (by simpa using hdst.symm) hs6
    obtain ⟨own7, N7, ho7⟩ := snap g' L' h7
    clear F6 N6 k7 hx6 hs6 D6
    (try dsimp only)
    repeat' (((fail_if_success (with_reducible show wpAny _ _ (setAttr _ _ _) _ _ _))); first | (k_unfold; (try dsimp only)) | (k_end; wrow_close) | walk1 | (dsimp only; walk1) | (leave1; walk_say "STEP leave1"; try dsimp only) | fail "no step")
    refine set_exc F7 X' hx7 D7 (by decide) hdL hd0 (by k_is) (fun h8 tk8 F8 k8 D8 => ?_)
    have hx8 := k8 _ _ (by simpa using hxd) hx7
    have hs8 := k8 _ _ (by simpa using hdst.symm) hs7
    obtain ⟨own8, N8, ho8⟩ := snap g' L' h8
    clear F7 N7 k8 hx7 hs7 D7
    (try dsimp only)
    repeat' (((fail_if_success (with_reducible show wpAny _ _ (call (.ref 38) _) _ _ _))); first | (k_unfold; (try dsimp only)) | (k_end; wrow_close) | walk1 | (dsimp only; walk1) | (leave1; walk_say "STEP leave1"; try dsimp only) | fail "no step")
    have XH8 := X'.keeps F8.keep
    have h76 := XH8 76 _ (by k_is)
    refine wpAny_call ?_
    refine' steps_make XH8 (XH8 38 _ ?k0) ?k1 ?k2 ?k3 ?k4 ?k5 (.inr rfl) h76 rfl rfl ?k6 (fun h9 c9 k9 hst9 => ?_)
    case k0 => k_is
    case k1 => kernel_rfl
    case k2 => k_is
    case k3 => k_is
    case k4 => k_is
    case k5 => k_is
    case k6 => rw [sizeLine_eq]; decide
    dsimp only at k9 hst9 ⊢
    have k9' : Kept [] h8 h9 := fun b o _ e => k9 b o e
    have F9 := Fr.kept F8 k9' (by simp) (by simp)
    have hx9 := k9 _ _ hx8
    have D9 := D8.kept k9' (by simp)
    have hs9 := k9 _ _ hs8
    clear hst9
    generalize h8.objs.size + 1 = st2
    obtain ⟨own9, N9, ho9⟩ := snap g' L' h9
    clear F8 N8
    (try dsimp only)
    repeat' (((fail_if_success (with_reducible show wpAny _ _ (setAttr _ _ _) _ _ _))); first | (k_unfold; (try dsimp only)) | (k_end; wrow_close) | walk1 | (dsimp only; walk1) | (leave1; walk_say "STEP leave1"; try dsimp only) | fail "no step")
    refine set_exc F9 X' hx9 D9 (by decide) hdL hd0 (by k_is) (fun h10 tk10 F10 k10 D10 => ?_)
    have hx10 := k10 _ _ (by simpa using hxd) hx9
    have hs10 := k10 _ _ (by simpa using hdst.symm) hs9
    obtain ⟨own10, N10, ho10⟩ := snap g' L' h10
    clear F9 N9 k10 hx9 hs9 D9
    (try dsimp only)
    repeat' (((fail_if_success (with_reducible show wpAny _ _ (setAttr _ _ _) _ _ _))); first | (k_unfold; (try dsimp only)) | (k_end; wrow_close) | walk1 | (dsimp only; walk1) | (leave1; walk_say "STEP leave1"; try dsimp only) | fail "no step")
    refine set_exc F10 X' hx10 D10 (by decide) hdL hd0 (by k_is) (fun h11 tk11 F11 k11 D11 => ?_)
    have hx11 := k11 _ _ (by simpa using hxd) hx10
    have hs11 := k11 _ _ (by simpa using hdst.symm) hs10
    obtain ⟨own11, N11, ho11⟩ := snap g' L' h11
    clear F10 N10 k11 hx10 hs10 D10
    (try dsimp only)
    repeat' (((fail_if_success (with_reducible show wpAny _ _ (call (.type "list") _) _ _ _))); first | (k_unfold; (try dsimp only)) | (k_end; wrow_close) | walk1 | (dsimp only; walk1) | (leave1; walk_say "STEP leave1"; try dsimp only) | fail "no step")
    have XH11 := X'.keeps F11.keep
    have h75 := XH11 75 _ (by k_is)
    refine list_copyKT F11 N11 (items := #[]) ⟨_, h75, rfl, _, rfl⟩ (fun D c h12 F12 N12' l12 => ?_) (by rw [sizeLine_eq]; decide)
    have kk12 := kept_all' F11.keep F12 (News.sub N12' fun p hp => .tail _ (ho11 ▸ hp))
    have hx12 := kk12 _ _ (by simpa using hxL') hx11
    have hs12 := kk12 _ _ (by simpa using hs6f.1) hs11
    have D12 := D11.kept kk12 (by simpa using hdL)
    clear N12' kk12 F11 N11 hx11 hs11 D11
    obtain ⟨own12, N12, ho12⟩ := snap g' L' h12
    (try dsimp only)
    repeat' (((fail_if_success (with_reducible show wpAny _ _ (setAttr _ _ _) _ _ _))); first | (k_unfold; (try dsimp only)) | (k_end; wrow_close) | walk1 | (dsimp only; walk1) | (leave1; walk_say "STEP leave1"; try dsimp only) | fail "no step")
    refine set_exc F12 X' hx12 D12 (by decide) hdL hd0 (by k_is) (fun h13 tk13 F13 k13 D13 => ?_)
    have hx13 := k13 _ _ (by simpa using hxd) hx12
    have hs13 := k13 _ _ (by simpa using hdst.symm) hs12
    obtain ⟨own13, N13, ho13⟩ := snap g' L' h13
    clear F12 N12 k13 hx12 hs12 D12
    (try dsimp only)
    repeat' (((fail_if_success (with_reducible show wpAny _ _ (setAttr _ _ _) _ _ _))); first | (k_unfold; (try dsimp only)) | (k_end; wrow_close) | walk1 | (dsimp only; walk1) | (leave1; walk_say "STEP leave1"; try dsimp only) | fail "no step")
    refine set_exc F13 X' hx13 D13 (by decide) hdL hd0 (by k_is) (fun h14 tk14 F14 k14 D14 => ?_)
    have hx14 := k14 _ _ (by simpa using hxd) hx13
    have hs14 := k14 _ _ (by simpa using hdst.symm) hs13
    obtain ⟨own14, N14, ho14⟩ := snap g' L' h14
    clear F13 N13 k14 hx13 hs13 D13
    (try dsimp only)
    repeat' (((fail_if_success (with_reducible show wpAny _ _ (setAttr _ _ _) _ _ _))); first | (k_unfold; (try dsimp only)) | (k_end; wrow_close) | walk1 | (dsimp only; walk1) | (leave1; walk_say "STEP leave1"; try dsimp only) | fail "no step")
    refine set_exc F14 X' hx14 D14 (by decide) hdL hd0 (by k_is) (fun h15 tk15 F15 k15 D15 => ?_)
    have hx15 := k15 _ _ (by simpa using hxd) hx14
    have hs15 := k15 _ _ (by simpa using hdst.symm) hs14
    obtain ⟨own15, N15, ho15⟩ := snap g' L' h15
    clear F14 N14 k15 hx14 hs14 D14
    (try dsimp only)
    repeat' (((fail_if_success (with_reducible show wpAny _ _ (setAttr _ _ _) _ _ _))); first | (k_unfold; (try dsimp only)) | (k_end; wrow_close) | walk1 | (dsimp only; walk1) | (leave1; walk_say "STEP leave1"; try dsimp only) | fail "no step")
    refine set_exc F15 X' hx15 D15 (by decide) hdL hd0 (by k_is) (fun h16 tk16 F16 k16 D16 => ?_)
    have hx16 := k16 _ _ (by simpa using hxd) hx15
    have hs16 := k16 _ _ (by simpa using hdst.symm) hs15
    obtain ⟨own16, N16, ho16⟩ := snap g' L' h16
    clear F15 N15 k16 hx15 hs15 D15
    (try dsimp only)
    repeat' (((fail_if_success (with_reducible show wpAny _ _ (setAttr _ _ _) _ _ _))); first | (k_unfold; (try dsimp only)) | (k_end; wrow_close) | walk1 | (dsimp only; walk1) | (leave1; walk_say "STEP leave1"; try dsimp only) | fail "no step")
    refine set_exc F16 X' hx16 D16 (by decide) hdL hd0 (by k_is) (fun h17 tk17 F17 k17 D17 => ?_)
    have hx17 := k17 _ _ (by simpa using hxd) hx16
    have hs17 := k17 _ _ (by simpa using hdst.symm) hs16
    obtain ⟨own17, N17, ho17⟩ := snap g' L' h17
    clear F16 N16 k17 hx16 hs16 D16
    (try dsimp only)
    repeat' (((fail_if_success (with_reducible show wpAny _ _ (setAttr _ _ _) _ _ _))); first | (k_unfold; (try dsimp only)) | (k_end; wrow_close) | walk1 | (dsimp only; walk1) | (leave1; walk_say "STEP leave1"; try dsimp only) | fail "no step")
    refine set_exc F17 X' hx17 D17 (by decide) hdL hd0 (by k_is) (fun h18 tk18 F18 k18 D18 => ?_)
    have hx18 := k18 _ _ (by simpa using hxd) hx17
    have hs18 := k18 _ _ (by simpa using hdst.symm) hs17
    obtain ⟨own18, N18, ho18⟩ := snap g' L' h18
    clear F17 N17 k18 hx17 hs17 D17
    (try dsimp only)
    repeat' (((fail_if_success (with_reducible show wpAny _ _ (setAttr _ _ _) _ _ _))); first | (k_unfold; (try dsimp only)) | (k_end; wrow_close) | walk1 | (dsimp only; walk1) | (leave1; walk_say "STEP leave1"; try dsimp only) | fail "no step")
    refine set_exc F18 X' hx18 D18 (by decide) hdL hd0 (by k_is) (fun h19 tk19 F19 k19 D19 => ?_)
    have hx19 := k19 _ _ (by simpa using hxd) hx18
    have hs19 := k19 _ _ (by simpa using hdst.symm) hs18
    obtain ⟨own19, N19, ho19⟩ := snap g' L' h19
    clear F18 N18 k19 hx18 hs18 D18
    (try dsimp only)
    repeat' (((fail_if_success (with_reducible show wpAny _ _ (exec (Stmt.For _ _ _ _ _) _) _ _ _))); first | (k_unfold; (try dsimp only)) | (k_end; wrow_close) | walk1 | (dsimp only; walk1) | (leave1; walk_say "STEP leave1"; try dsimp only) | fail "no step")
    refine for_J rfl rfl ?_ (by intro _; with_unfolding_all rfl)
    repeat' (((fail_if_success (with_reducible show wpAny _ _ (pyIter _) _ _ _))); first | (k_unfold; (try dsimp only)) | (k_end; wrow_close) | walk1 | (dsimp only; walk1) | (leave1; walk_say "STEP leave1"; try dsimp only) | fail "no step")
    have h75b := (X'.keeps F19.keep) 75 _ (by k_is)
    have h75g := X' 75 _ (by k_is)
    refine loop_tuple hh' (items := #[]) ⟨_, h75b, rfl, _, rfl⟩ (ne_L F19 h75g) F19.ns (fun h20 hz20 k20 => loopW_none (fun m21 h21 tk21 hns21 k21 => ?_))
    obtain ⟨F21, N21⟩ := after_loop F19 N19 k20 k21 hns21
    have kk21 := kept_all' F19.keep F21 (News.sub N21 fun p hp => (ho19 ▸ hp))
    have hx21 := kk21 _ _ (by simpa using hxL') hx19
    have hs21 := kk21 _ _ (by simpa using hs6f.1) hs19
    have D21 := D19.kept kk21 (by simpa using hdL)
    clear k20 k21 kk21 hx19 hs19 D19 N19 N21 F19
    (try dsimp only)
    repeat' (first | (k_unfold; (try dsimp only)) | walk1)
    refine Back.intro F21 fun hk => ⟨rfl, ?_⟩
    obtain ⟨es, ne, e1, e2, e3⟩ := D21
    have big : ∀ b o, hp.objs.size ≤ b → h21.get? b = some o → (hideAll h21 (List.range hp.objs.size)).get? b = some o := fun b o hb e => hideAll_get _ e (fun q => Nat.lt_irrefl _ (Nat.lt_of_lt_of_le (List.mem_range.mp q) hb))
    have hxp : hp.objs.size ≤ x := by omega
    have hdp : hp.objs.size ≤ d := by have hxz4 : @LT.lt Nat _ x h4.objs.size := Heap.lt_size hx4; dsimp only at hdz; omega
    have hsp : hp.objs.size ≤ st := by omega
    refine ret x ⟨msg, word, kvals, u⟩ h21 tk21 (fun b o _ e => hk b o (fun q => by rw [show b = x by simpa using q, hxn] at e; cases e) (kP b o (by simp) e)) ⟨_, d, _, st, _, t1, t2, _, big _ _ hxp hx21, rfl, rfl, rfl, ⟨es, ne, big _ _ hdp e1, e2, Nat.le_trans e3 (by decide), fun _ => Nat.le_trans e3 (by decide)⟩, ?_, ?_, ?_, ?_, big _ _ hsp hs21, rfl, rfl, rfl⟩ rfl rfl rfl rfl
    all_goals (repeat (first | exact if_pos rfl | refine (if_neg (by decide)).trans ?_))
end
end Mine
namespace Mine
theorem fresh_V6 : True := by
  w_top off
  trivial
end Mine
-- part W0
namespace Mine
section
variable {w : World} {A : Around} {h₀ : Heap} {L : Addr} {m : Str → Option Value} {s : Shared} {Q : Value → Shared → Prop} {E : Value → Shared → Prop}
theorem end_shape : WShape.has Challenge.rw_vk0009_01.row.records (WData.bool true) Challenge.rw_vk0009_01.row.returns = true := by kernel_rfl
theorem end_post (l : List Int) : WTm.value Challenge.rw_vk0009_01.row.records Challenge.rw_vk0009_01.row.post { args := [ofPy (PyData.list (l.map PyData.int))], res := some (WData.bool true), after := [ofPy (PyData.list (l.map PyData.int))] } = some (WData.bool true) := by kernel_rfl
noncomputable def myK (P : PySem.Params) : Frag := (188, (tabObj #[])) :: hd.heap_39 P
def myAs : List Addr := [188, 2, 3, 15, 17, 18, 20, 21, 22, 29, 31, 32, 34, 35, 36, 37, 38, 39, 40, 50, 52, 53, 55, 56, 57, 58, 59, 60, 61, 64, 65, 66, 69, 74, 75, 76, 77, 78, 79, 81, 82, 84, 85, 86, 88, 89, 91, 92, 93, 94, 96, 97, 99, 100, 101, 102, 104, 105, 107, 108, 109, 110, 111, 113, 114, 116, 117, 118, 120, 121, 123, 124, 125, 126, 127, 128, 131, 138, 139, 140, 150, 151, 152, 154, 155, 157, 158, 159, 161, 162, 164, 165, 166, 168, 169, 171, 172, 173, 175, 176, 178, 179, 180, 182, 183, 185, 186, 187, 189, 190, 192, 193, 194, 195, 196, 197, 198, 199, 202, 204, 205, 207, 208, 209, 212, 213, 214, 217, 218, 219, 221, 222, 224, 225, 226, 228, 229, 231, 232, 233, 235, 236, 238, 239, 240, 242, 243, 245, 246, 247, 250, 251, 252, 255, 256, 257, 259, 260, 262, 263]
theorem law_holds : PySem.Challenge.rw_vk0009_01.Holds := by
  w_on; o_law
  o_head (kHook myK myAs (fun _ => by kernel_rfl))
  (case hw => w_witness2)
  intro w s₀ s₁ mg mb G Y fa o pm cd doc dV kV ho hd hcd hD hmg hg args vals as hpre hlay hrd hwl hlo
  have KM := kIn_of Y
  have h8 : s₁.heap.get? 188 = some (tabObj #[]) := KM 188 _ rfl
  have hlk : (Mine.hd.heap_39 w.params).lookup 188 = none := by kernel_rfl
  have KX : (Mine.hd.heap_39 w.params).In s₁.heap := fun a o e => KM a o (by
    show List.lookup a ((188, tabObj #[]) :: Mine.hd.heap_39 w.params) = some o
    rw [List.lookup_cons]
    by_cases q : a = 188
    · subst q; rw [hlk] at e; cases e
    · rw [show (a == 188) = false from beq_eq_false_iff_ne.mpr q]; exact e)
  clear KM Y
  revert KX
  k_fill
  intro KX
  have X := (Ground.X G).1
  have V := (Ground.X G).2
  try w_nolog (first | (have GL := glob_more (Ground.glob G (by first | k_qdec | decide +kernel) (by first | k_qdec | decide +kernel)) V) | (have GL := glob_more (Ground.glob G (by decide +kernel)) V))
  refine Ground.open G ?_
  intro T B D TE TW
  try (refine guard_noD D (by decide +kernel) ?_; clear D)
  obtain ⟨_, _, M⟩ := bmod_of_top T
  have TA := at_of_top T
  try (obtain ⟨_, _, he, B0⟩ := based_of_top T rfl hmg ho hd; have he' : cd = _ := he; subst he'; clear he)
  clear hmg
  wrow_args hpre hlay hrd hwl hlo
  first | refine callC_kw (enter_call ?_) | refine enter_call ?_ | refine callC_kw (enter_callW ?_) | refine enter_callW ?_ | w_how
  w_top on
  w_call any ho hd hcd hD T F
  have h192 : (Mine.hd.heap_39 w.params).lookup 192 = some code192 := by k_is
  refine law_at T KX h8 F rfl rfl hlk fun H' hfl F' N' => ?_
  rename Heap.IsList s₁.heap _ _ => hlist
  rename IntsAre _ _ => hints
  rename_i hlen63 _
  obtain ⟨ol, hol, holc, nol, hold⟩ := id hlist
  have hlist' := hideAll_get [188] hol (fun q => by rw [List.mem_singleton.mp q, h8] at hol; cases hol; cases holc)
  generalize hgg : hideAll s₁.heap [188] = g' at H' F' N' hlist'
  generalize hLL : s₁.heap.objs.size = L' at H' F' N' ⊢
  clear F
  have hlistg : g'.IsList _ _ := ⟨ol, hlist', holc, nol, hold⟩
  obtain ⟨⟨A₀, base, outer, env, p, loose, mean, mg, mb, B', T', hfr, _⟩, X', hh'⟩ := id H'
  (with_reducible show wpAny _ _ _ _ _ _)
  (try k_fold)
  repeat' (((fail_if_success (with_reducible show wpAny _ _ (call (.ref 213) _) _ _ _)); (fail_if_success (with_reducible show wpAny _ _ (getItem _ _) _ _ _))); first | (k_unfold; (try dsimp only)) | (k_end; wrow_close) | walk1 | (dsimp only; walk1) | (leave1; walk_say "STEP leave1"; try dsimp only) | fail "no step")
  rename IntsAre _ (List.take 60 _) => hI60
  rename Fr g' _ _ _ => Fc
  rename News g' _ _ _ => Nc
  rename_i xs wsl hx1 hx2 hx3 lt1 st hx4 lt2 hcur
  generalize hns60 : List.take 60 _ = ns at hI60
  have hn60 : ns.length ≤ 60 := by rw [← hns60]; simp; omega
  have hst0 := (Nc _ (.head _))
  have hxs0 := (Nc _ (.tail _ (.head _)))
  have h880 := (Nc _ (.tail _ (.tail _ (.head _))))
  have hxst : xs ≠ st := Nat.ne_of_lt lt2.1
  have h8st : (188 : Addr) ≠ st := Nat.ne_of_lt lt2.2
  have h8xs : (188 : Addr) ≠ xs := Nat.ne_of_lt lt1
  refine value_spec 2 (by decide) H' (of_decide_eq_true rfl) (of_decide_eq_true rfl) Fc (News.sub Nc (news' := [_]) fun p hp => by rw [List.mem_singleton.mp hp]; exact .head _) ⟨_, hxs0.1, rfl, _, rfl⟩ hxst hI60 hn60 (by decide) (by decide) (fun v i2 tk2 h2 tkk2 k2 hst2 hi20 hi21 hv2 => ?_)
  have hxsL := Heap.lt_size hxs0.1
  have hstL := Heap.lt_size hst0.1
  have h8L := Heap.lt_size h880.1
  have hLL2 := Fc.ns.lt
  have F2 := Fr.kept Fc k2 (by simpa using hst0.2.1.symm) (by simpa using hst0.2.2)
  obtain ⟨σ, hσe⟩ : ∃ σ, σ = hideAll h2 [L', st, 188] := ⟨_, rfl⟩
  have hsub : Sub σ h2 := fun b o e => of_hideAll _ (hσe ▸ e)
  have hσ0 : ∀ b ∈ [L', st, 188], σ.get? b = none := fun b hb => by rw [hσe]; exact hideAll_none _ hb
  have hσx : σ.IsList xs wsl.toArray := ⟨_, by rw [hσe]; exact hideAll_get _ (k2 _ _ (by simpa using hxst) hxs0.1) (by simpa using ⟨hxs0.2.1, hxst, h8xs.symm⟩), rfl, _, rfl⟩
  have hσv : ValAt w σ 2 v := hσe ▸ hv2.hide fun b hb => List.mem_range.mpr (by
    rcases (by simpa using hb : b = L' ∨ b = st ∨ b = 188) with e | e | e
    · rw [e]; exact hLL2
    · rw [e]; exact hstL
    · rw [e]; exact h8L)
  have h82 : h2.get? 188 = some (tabObj #[]) := k2 _ _ (by simpa using h8st) h880.1
  have hkg2 := F2.keep
  clear Fc Nc hv2
  obtain ⟨own2, N2, ho2⟩ := snap g' L' h2
  (try k_fold)
  repeat' (((fail_if_success (with_reducible show wpAny _ _ (call (.ref 225) _) _ _ _))); first | (k_unfold; (try dsimp only)) | (k_end; wrow_close) | walk1 | (dsimp only; walk1) | (leave1; walk_say "STEP leave1"; try dsimp only) | fail "no step")
  rename Fr g' _ _ _ => Fc
  rename News g' _ _ _ => Nc
  have kk := kept_all' hkg2 Fc (News.sub Nc fun p hp => .tail _ (ho2 ▸ hp))
  rename_i rw hy1 ltrw hcur3
  refine new_spec H' (of_decide_eq_true rfl) Fc (fun a0 h3 tk3 k3 hm3 hnd3 hnew3 => ?_)
  have hrw := Nc _ (.head _)
  have hgh : Sub g' hcur3 := Fc.keep
  have hσh : Sub σ hcur3 := fun b o e => kk b o (fun q => by rw [List.mem_singleton.mp q, hσ0 L' (by simp)] at e; cases e) (hsub b o e)
  have hrw2 : h2.get? rw = none := by
    cases q : h2.get? rw with
    | none => rfl
    | some o => exact absurd (ltrw (rw, o) (ho2 ▸ mem_all.mpr ⟨q, hrw.2.1, hrw.2.2⟩)) (Nat.lt_irrefl _)
  have hrwst : rw ≠ st := fun q => by rw [q, hst2] at hrw2; cases hrw2
  have hrw8 : rw ≠ 188 := fun q => by rw [q, h82] at hrw2; cases hrw2
  have hstc : hcur3.get? st = some (listOf #[.ref xs, .int i2 tk2] 0) := kk _ _ (by simpa using hst0.2.1) hst2
  have h8c : hcur3.get? 188 = some (tabObj #[]) := kk _ _ (by simpa using h880.2.1) h82
  have there : ∀ b ∈ [L', st, 188, rw], ∃ o, hcur3.get? b = some o := fun b hb => by
    rcases (by simpa using hb : b = L' ∨ b = st ∨ b = 188 ∨ b = rw) with e | e | e | e
    · rw [e]; exact let ⟨o, _, _, e, _⟩ := Fc.ns; ⟨o, e⟩
    · rw [e]; exact ⟨_, hstc⟩
    · rw [e]; exact ⟨_, h8c⟩
    · rw [e]; exact ⟨_, hrw.1⟩
  have B3 : LB w g' L' σ st xs wsl [st, 188, rw] h3 i2 #[] (build []) (fun _ => a0) := by
    refine ⟨fun b o e => k3 _ _ (by simp) (hσh b o e), ⟨tk2, k3 _ _ (by simp) hstc⟩, k3 _ _ (by simp) h8c, hσx, fun b hb => ?_, hσ0 L' (by simp), ⟨by simp, by simp⟩, h8st.symm, ⟨fun i hi => ?_, fun i hi b hb => ?_, fun i hi j hj b _ _ => ?_, fun i hi => hnd3⟩⟩
    · rcases (by simpa using hb : b = st ∨ b = 188 ∨ b = rw) with e | e | e
      · rw [e]; exact ⟨hst0.2.1, hst0.2.2, hσ0 st (by simp)⟩
      · rw [e]; exact ⟨h880.2.1, h880.2.2, hσ0 188 (by simp)⟩
      · rw [e]; exact ⟨hrw.2.1, hrw.2.2, hsub.none hrw2⟩
    · obtain rfl : i = 0 := Nat.lt_one_iff.mp hi
      exact hm3
    · have hn := hnew3 b hb
      refine ⟨fun q => ?_, hgh.none hn, hσh.none hn, fun q => ?_⟩
      · obtain ⟨o, e⟩ := there L' (by simp); rw [← q, hn] at e; cases e
      · obtain ⟨o, e⟩ := there b (.tail _ q); rw [hn] at e; cases e
    · have h1 : i = 0 := Nat.lt_one_iff.mp hi
      have h2 : j = 0 := Nat.lt_one_iff.mp hj
      rw [h1, h2]
  have hrw3 : h3.get? rw = some (listOf (List.toArray []) 0) := k3 _ _ (by simp) hrw.1
  have F3 := Fr.kept Fc k3 (by simp) (by simp)
  have hkg3 := F3.keep
  obtain ⟨own3, N3, ho3⟩ := snap g' L' h3
  clear Fc Nc kk
  (try k_fold)
  repeat' (((fail_if_success (with_reducible show wpAny _ _ (exec (Stmt.For _ _ _ _ _) _) _ _ _))); first | (k_unfold; (try dsimp only)) | (k_end; wrow_close) | walk1 | (dsimp only; walk1) | (leave1; walk_say "STEP leave1"; try dsimp only) | fail "no step")
  refine for_J rfl rfl ?_ (by intro _; with_unfolding_all rfl)
  repeat' (((fail_if_success (with_reducible show wpAny _ _ (call (.ref 208) _) _ _ _))); first | (k_unfold; (try dsimp only)) | (k_end; wrow_close) | walk1 | (dsimp only; walk1) | (leave1; walk_say "STEP leave1"; try dsimp only) | fail "no step")
  rename Fr g' _ _ _ => Fc
  rename News g' _ _ _ => Nc
  have kk := kept_all' hkg3 Fc (News.sub Nc fun p hp => (ho3 ▸ hp))
  refine lnext H' (of_decide_eq_true rfl) (of_decide_eq_true rfl) Fc (B3.keptL kk) hI60 hn60 hi20 (by have : vB 2 = 20 := rfl; omega) (by decide) (by decide) (fun r4 tr4 h4 tk4 F4 B4 k4 hr40 hr41 => ?_)
  have hrw4 : h4.get? rw = some (listOf (List.toArray []) 0) := k4 _ _ (by simpa using hrwst) (kk _ _ (by simpa using hrw.2.1) hrw3)
  have hkg4 := F4.keep
  obtain ⟨own4, N4, ho4⟩ := snap g' L' h4
  clear Fc Nc kk
  (try k_fold)
  repeat' (((fail_if_success (with_reducible show wpAny _ _ (pyIter _) _ _ _))); first | (k_unfold; (try dsimp only)) | (k_end; wrow_close) | walk1 | (dsimp only; walk1) | (leave1; walk_say "STEP leave1"; try dsimp only) | fail "no step")
  rename IsRange _ _ _ _ _ _ _ _ => hrg
  rename Fr g' _ _ _ => Fl
  rename News g' _ _ _ => Nl
  rename Heap => hq5
  have kk := kept_all' hkg4 Fl (News.sub Nl fun p hp => (ho4 ▸ hp))
  obtain ⟨k7, rfl⟩ : ∃ k : Nat, r4 = k := ⟨r4.toNat, by omega⟩
  have hk7 : k7 ≤ 6 := by omega
  have hrw5 := kk _ _ (by simpa using hrw.2.1) hrw4
  refine loop_range (n := k7) hh' hrg (by omega) Fl.ns (fun h5 hz5 hk5 => ?_)
  have hIf : hq5.objs.size ≠ L' ∧ g'.get? hq5.objs.size = none := Fr.fresh Fl (Nat.le_refl _)
  have hIn : hq5.get? hq5.objs.size = none := Heap.get?_none_of_le (Nat.le_refl _)
  have B5 := ((B4.keptL kk).addX hIn hIf.1 hIf.2).kept0 hk5
  have hIst : st < hq5.objs.size := by obtain ⟨t, e⟩ := (B4.keptL kk).stx; exact Heap.lt_size e
  have hI8 : (188 : Addr) < hq5.objs.size := Heap.lt_size (B4.keptL kk).h8
  have hIrw : rw < hq5.objs.size := Heap.lt_size hrw5
  generalize hIe : hq5.objs.size = I at B5 hIst hI8 hIrw hIf hz5 ⊢
  refine ⟨fun k mj s' => ∃ h tk σ i na gv rs es, s' = { s₁ with heap := h, toks := tk } ∧ mj (Str.ofString "state") = some (.ref st) ∧ mj (Str.ofString "value") = some v ∧ mj (Str.ofString "rows") = some (.ref rw) ∧ mj (Str.ofString "root") = some (.ref a0.nd) ∧ Sub g' h ∧
    RowsJ w g' L' st xs wsl rw a0.nd [I, st, 188, rw] v h k σ i na gv rs es, ?_, ?_, ?_, ?_⟩
  · refine ⟨h5, _, σ, _, _, fun _ => v, [], [], rfl, rfl, rfl, rfl, rfl, fun b o e => hk5 _ _ (by simp) (Fl.keep b o e), ⟨B5, ⟨?_, ?_, ?_, rfl⟩, ok0, hσv, by simp, ⟨0, hk5 _ _ (by simp) hrw5⟩, ⟨rfl, rfl⟩, fun j e r h => by simp at h, by omega, by have : vB 2 = 20 := rfl; omega, rfl⟩⟩
    · intro i hi kj hkj; simp [build, ar0, Nd.nil] at hkj
    · intro i hi u hu; simp [build, ar0, Nd.nil] at hu
    · intro i hi; exact ⟨2, hσv⟩
  · rintro j mj s5 h6 tk6 ⟨h, tk, σ, i, na, gv, rs, es, rfl, hm1, hm2, hm3, hm4, hgs, hJ⟩ k m' hm'
    have k : Kept [L', I] h h6 := k
    refine ⟨h6, tk6, σ, i, na, gv, rs, es, rfl, (hm' _ (by decide)).trans hm1, (hm' _ (by decide)).trans hm2, (hm' _ (by decide)).trans hm3, (hm' _ (by decide)).trans hm4, fun b o e => k b o (fun q => ?_) (hgs b o e), hJ.keptS k (fun b hb => ?_)⟩
    · rcases (by simpa using q : b = L' ∨ b = I) with q | q
      · rw [q, kts_self Fl] at e; cases e
      · rw [q, hIf.2] at e; cases e
    · rcases (by simpa using hb : b = L' ∨ b = I) with q | q
      · exact .inl q
      · right; rw [q]; exact ⟨by simp, Nat.ne_of_gt hIst, Nat.ne_of_gt hI8, Nat.ne_of_gt hIrw⟩
  · rintro j kv m₁ s5 hj ⟨tk9, rfl⟩ ⟨oI, hoI⟩ hns ⟨h, tk, σ1, i, na, gv, rs, es, rfl, hm1, hm2, hm3, hm4, hgs, hJ⟩
    have hab := Fl.above
    have Fa := Fr.name (L' := L') (x := Str.ofString "state") (Fr.mk hns hgs hab) hm1
    have Fb := Fr.name (L' := L') (x := Str.ofString "value") (v := v) Fa ((if_neg (by decide)).trans hm2)
    have Fc := Fr.name (L' := L') (x := Str.ofString "rows") (v := .ref rw) Fb ((if_neg (by decide)).trans ((if_neg (by decide)).trans hm3))
    have F5 := Fr.name (L' := L') (x := Str.ofString "root") (v := .ref a0.nd) Fc ((if_neg (by decide)).trans ((if_neg (by decide)).trans ((if_neg (by decide)).trans hm4)))
    clear Fa Fb Fc Fl Nl
    obtain ⟨own5, N5, ho5⟩ := snap g' L' h
    repeat' (((fail_if_success (with_reducible show wpAny _ _ (call (.ref 218) _) _ _ _))); first | (k_unfold; (try dsimp only)) | (k_end; wrow_close) | walk1 | (dsimp only; walk1) | (leave1; walk_say "STEP leave1"; try dsimp only) | fail "no step")
    rename Fr g' _ _ _ => Fc
    rename News g' _ _ _ => Nc
    have kk := kept_all' hgs Fc (News.sub Nc fun p hp => (ho5 ▸ hp))
    obtain ⟨cr, hR0⟩ := hJ.R
    have hR5 := kk _ _ (by simpa using hrw.2.1) hR0
    have hI5 := kk I _ (by simpa using hIf.1) hoI
    have i0 := hJ.i0
    have i1 := hJ.i1
    refine lplace H' (of_decide_eq_true rfl) (of_decide_eq_true rfl) Fc (hJ.B.keptL kk) ‹IntsAre wsl ns› hn60 i0 (by omega) hJ.V (fun T6 pl ks kvals u i6 h6 tk6 F6 B6 k6 hi60 hi61 hT6 hTn6 hl6 hpl6 hky hkl hpa => ?_)
    have hR6 := k6 _ _ (by simpa using hrwst) hR5
    have hI6 := k6 I _ (by simpa using Nat.ne_of_gt hIst) hI5
    have hkg6 := F6.keep
    obtain ⟨own6, N6, ho6⟩ := snap g' L' h6
    have N6' : News g' L' h6 ((T6, _) :: own6) := News.cons N6 hT6 (fun q => by obtain ⟨o, _, _, e, _⟩ := Fc.ns; rw [q] at hTn6; rw [hTn6] at e; cases e) (Sub.none Fc.keep hTn6)
    clear Fc Nc kk
    (try k_fold)
    repeat' (((fail_if_success (with_reducible show wpAny _ _ (call (.ref 208) _) _ _ _))); first | (k_unfold; (try dsimp only)) | (k_end; wrow_close) | walk1 | (dsimp only; walk1) | (leave1; walk_say "STEP leave1"; try dsimp only) | fail "no step")
    rename Fr g' _ _ _ => Fc
    rename News g' _ _ _ => Nc
    rename_i z1 z2 z3 z4 lit hcl ltl
    have kk := kept_all' hkg6 Fc (News.sub Nc fun p hp => .tail _ (.tail _ (ho6 ▸ hp)))
    have hlit := Nc _ (.head _)
    have hR6b := kk _ _ (by simpa using hrw.2.1) hR6
    have hI6b := kk I _ (by simpa using hIf.1) hI6
    have hlst : st < lit := by
      obtain ⟨t, e⟩ := B6.stx
      exact own_lt ho6 ltl.2 e (B6.fr st B6.inX.1).1 (B6.fr st B6.inX.1).2.1
    refine lnext H' (of_decide_eq_true rfl) (of_decide_eq_true rfl) Fc (B6.keptL kk) ‹IntsAre wsl ns› hn60 (by omega) (by omega) (by decide) (by decide) (fun r7 tr7 h7 tk7 F7 B7 k7 hr70 hr71 => ?_)
    have hrw7 := k7 _ _ (by simpa using hrwst) hR6b
    have hI7 := k7 I _ (by simpa using Nat.ne_of_gt hIst) hI6b
    have hlit7 := k7 lit _ (by simpa using Nat.ne_of_gt hlst) hlit.1
    have hpl7 : h7.IsList pl kvals.toArray := by
      refine isList_kept (isList_kept hl6 kk ?_) k7 ?_
      · intro q
        obtain ⟨o, _, _, e, _⟩ := hns
        rw [List.mem_singleton.mp q] at hpl6
        have e : h.get? L' = some o := e
        rw [hpl6] at e; cases e
      · intro q
        obtain ⟨t, e⟩ := hJ.B.stx
        rw [List.mem_singleton.mp q] at hpl6; rw [hpl6] at e; cases e
    have hkg7 := F7.keep
    obtain ⟨own7, N7, ho7⟩ := snap g' L' h7
    clear Fc Nc kk
    (try k_fold)
    repeat' (((fail_if_success (with_reducible show wpAny _ _ (subscriptTail _ _ _ _) _ _ _))); first | (k_unfold; (try dsimp only)) | (k_end; wrow_close) | walk1 | (dsimp only; walk1) | (leave1; walk_say "STEP leave1"; try dsimp only) | fail "no step")
    obtain ⟨wx, wt, hwe, hwok⟩ := words_at hlit7 hr70 hr71
    refine tail_any (Heap.IsList.typeIs ⟨_, hlit7, rfl, _, rfl⟩) slot_list_getitem.lookup (wpAny_getItem_list ⟨_, hlit7, rfl, _, rfl⟩ hr70 (by simp; omega) hwe ?_) (by with_unfolding_all rfl)
    repeat' (((fail_if_success (with_reducible show wpAny _ _ (getMethod _ _ _) _ _ _))); first | (k_unfold; (try dsimp only)) | (k_end; wrow_close) | walk1 | (dsimp only; walk1) | (leave1; walk_say "STEP leave1"; try dsimp only) | fail "no step")
    rename Fr g' _ _ _ => Fc
    rename News g' _ _ _ => Nc
    have kk := kept_all' hkg7 Fc (News.sub Nc fun p hp => (ho7 ▸ hp))
    refine Calls.getMethod_list_append (kk _ _ (by simpa using hrw.2.1) hrw7) rfl rfl ?_
    repeat' (((fail_if_success (with_reducible show wpAny _ _ (eval (PySem.Expr.Call (PySem.Expr.Name _ _) _ _ _) _) _ _ _))); first | (k_unfold; (try dsimp only)) | (k_end; wrow_close) | walk1 | (dsimp only; walk1) | (leave1; walk_say "STEP leave1"; try dsimp only) | fail "no step")
    repeat' (((fail_if_success (with_reducible show wpAny _ _ (callWith _ _ _ _ _) _ _ _))); first | (k_unfold; (try dsimp only)) | (k_end; wrow_close) | walk1 | (dsimp only; walk1) | (leave1; walk_say "STEP leave1"; try dsimp only) | fail "no step")
    repeat' (((fail_if_success (with_reducible show wpAny _ _ (call (.ref 140) _ _) _ _ _))); first | (k_unfold; (try dsimp only)) | (k_end; wrow_close) | walk1 | (dsimp only; walk1) | (leave1; walk_say "STEP leave1"; try dsimp only) | fail "no step")
    rename Fr g' _ _ _ => Fc
    rename News g' _ _ _ => Nc
    rename Heap => hcur8
    have kk := kept_all' hkg7 Fc (News.sub Nc fun p hp => (ho7 ▸ hp))
    have hv6 : ∃ d, ValAt w σ1 d u := hpa.val hJ.V
    have hui : handedIn u = true := by obtain ⟨d, q⟩ := hv6; exact q.handed
    have B7c := B7.keptL kk
    have hL8 : L' < hcur8.objs.size := Fc.ns.lt
    have hM8 : ∀ b ∈ L' :: [I, st, 188, rw] ++ (List.range (build rs).2).flatMap (fun j => (na j).fp), b < hcur8.objs.size := by
      intro b hb
      rcases List.mem_append.mp hb with hb | hb
      · rcases (by simpa using hb : b = L' ∨ b = I ∨ b = st ∨ b = 188 ∨ b = rw) with e | e | e | e | e
        · rw [e]; exact hL8
        · rw [e]; exact Heap.lt_size (kk I _ (by simpa using hIf.1) hI7)
        · rw [e]; obtain ⟨t, e⟩ := B7c.stx; exact Heap.lt_size e
        · rw [e]; exact Heap.lt_size B7c.h8
        · rw [e]; exact Heap.lt_size (kk _ _ (by simpa using hrw.2.1) hrw7)
      · obtain ⟨jj, hjj, hb⟩ := mem_fps.mp hb
        obtain ⟨o, e⟩ := (B7c.mod.mod jj hjj).there b hb
        exact Heap.lt_size e
    have hplL : pl ≠ L' := by
      intro q
      obtain ⟨o, _, _, e, _⟩ := hns
      have e : h.get? L' = some o := e
      rw [q] at hpl6
      rw [hpl6] at e; cases e
    have hplrw : pl ≠ rw := by
      intro q
      rw [q] at hpl6
      rw [hpl6] at hR0; cases hR0
    have hplX : pl ∉ L' :: [I, st, 188, rw] ++ (List.range (build rs).2).flatMap (fun j => (na j).fp) := by
      intro hb
      have hJB := hJ.B
      rcases List.mem_append.mp hb with hb | hb
      · rcases (by simpa using hb : pl = L' ∨ pl = I ∨ pl = st ∨ pl = 188 ∨ pl = rw) with e | e | e | e | e
        · exact hplL e
        · rw [e, hoI] at hpl6; cases hpl6
        · obtain ⟨t, e'⟩ := hJB.stx; rw [e, e'] at hpl6; cases hpl6
        · rw [e, hJB.h8] at hpl6; cases hpl6
        · exact hplrw e
      · obtain ⟨jj, hjj, hb⟩ := mem_fps.mp hb
        obtain ⟨o, e⟩ := (hJB.mod.mod jj hjj).there pl hb
        rw [hpl6] at e; cases e
    refine verr_spec H' (of_decide_eq_true rfl) (of_decide_eq_true rfl) Fc (isList_kept hpl7 kk ?_) (by have := hky.len; omega) hui (fun ea er h8 tk8 k8 her hem hew hep hei => ?_)
    · intro q
      obtain ⟨o, _, _, e, _⟩ := hns
      have e : h.get? L' = some o := e
      rw [List.mem_singleton.mp q] at hpl6
      rw [hpl6] at e; cases e
    have B8 := B7c.kept0 k8
    have F8 := Fr.kept Fc k8 (by simp) (by simp)
    have hR8 := k8 _ _ (by simp) (kk _ _ (by simpa using hrw.2.1) hrw7)
    have hpl8 : h8.IsList pl kvals.toArray := isList_kept (isList_kept hpl7 kk (by
      intro q
      obtain ⟨o, _, _, e, _⟩ := hns
      have e : h.get? L' = some o := e
      rw [List.mem_singleton.mp q] at hpl6
      rw [hpl6] at e; cases e)) k8 (by simp)
    have hI8a := k8 I _ (by simp) (kk I _ (by simpa using hIf.1) hI7)
    clear Fc Nc kk
    (try k_fold)
    repeat' (((fail_if_success (with_reducible show wpAny _ _ (call (.builtin _) _) _ _ _))); first | (k_unfold; (try dsimp only)) | (k_end; wrow_close) | walk1 | (dsimp only; walk1) | (leave1; walk_say "STEP leave1"; try dsimp only) | fail "no step")
    (try k_unfold)
    (try dsimp only)
    refine append_at hR8 (fun h9 hs9 he9 => ?_) (by rw [sizeLine_eq]; have := hJ.len; simp; omega)
    have k9 : Kept [rw] h8 h9 := Kept.sameBut hs9
    have B9 := B8.keptX (by simp) k9 hrwst hrw8
    have F9 := B8.frame F8 k9 (by intro b hb; rw [List.mem_singleton.mp hb]; simp)
    obtain ⟨B10, hs10⟩ := more_static B9
    have her10 := her.keptC (new_static hM8 (hM8 rw (by simp)) k9)
    have hpl9 : (still h9 L' [I, st, 188, rw] (build rs) na).IsList pl kvals.toArray := let ⟨o, e, r⟩ := isList_kept hpl8 k9 (by simpa using hplrw); ⟨o, hideAll_get _ e hplX, r⟩
    generalize still h9 L' [I, st, 188, rw] (build rs) na = σ2 at B10 hs10 her10 hpl9
    have hkg9 := F9.keep
    obtain ⟨own9, N9, ho9⟩ := snap g' L' h9
    clear B9 B8
    (try k_fold)
    repeat' (((fail_if_success (with_reducible show wpAny _ _ (exec (Stmt.For _ _ _ _ _) _) _ _ _))); first | (k_unfold; (try dsimp only)) | (k_end; wrow_close) | walk1 | (dsimp only; walk1) | (leave1; walk_say "STEP leave1"; try dsimp only) | fail "no step")
    refine for_J rfl rfl ?_ (by intro _; with_unfolding_all rfl)
    repeat' (((fail_if_success (with_reducible show wpAny _ _ (pyIter _) _ _ _))); first | (k_unfold; (try dsimp only)) | (k_end; wrow_close) | walk1 | (dsimp only; walk1) | (leave1; walk_say "STEP leave1"; try dsimp only) | fail "no step")
    rename Fr g' _ _ _ => Fl2
    rename News g' _ _ _ => Nl2
    rename Heap => hq10
    have kk := kept_all' hkg9 Fl2 (News.sub Nl2 fun p hp => (ho9 ▸ hp))
    have B10' := B10.keptL kk
    have hR10 := kk _ _ (by simpa using hrw.2.1) he9
    have hI10 : hq10.get? I = some oI := kk I _ (by simpa using hIf.1) (k9 I _ (by simpa using Nat.ne_of_gt hIrw) hI8a)
    have hpl10 : hq10.IsList pl kvals.toArray := let ⟨o, e, r⟩ := hpl9; ⟨o, B10'.sub _ _ e, r⟩
    refine loop_list hh' hpl10 hplL Fl2.ns (fun h11 e11 k11 => ?_)
    have hI2f : hq10.objs.size ≠ L' ∧ g'.get? hq10.objs.size = none := Fr.fresh Fl2 (Nat.le_refl _)
    have hI2n : hq10.get? hq10.objs.size = none := Heap.get?_none_of_le (Nat.le_refl _)
    have B11 := (B10'.addX hI2n hI2f.1 hI2f.2).kept0 k11
    have hI2st : st < hq10.objs.size := by obtain ⟨t, e⟩ := B10'.stx; exact Heap.lt_size e
    have hI28 : (188 : Addr) < hq10.objs.size := Heap.lt_size B10'.h8
    have hI2rw : rw < hq10.objs.size := Heap.lt_size hR10
    have hI2I : I < hq10.objs.size := Heap.lt_size hI10
    generalize hI2e : hq10.objs.size = I2 at B11 hI2st hI28 hI2rw hI2I hI2f ⊢
    refine ⟨fun jj mj s' => ∃ h tk na gv, s' = { s₁ with heap := h, toks := tk } ∧ (mj (Str.ofString "state") = some (.ref st) ∧ mj (Str.ofString "value") = some v ∧ mj (Str.ofString "rows") = some (.ref rw) ∧ mj (Str.ofString "root") = some (.ref a0.nd) ∧ mj (Str.ofString "k") = some (.int j tk9) ∧
      mj (Str.ofString "piece") = some u ∧ mj (Str.ofString "word") = some (.str wx wt) ∧ mj (Str.ofString "node") = some (.ref (na (walkTo (build rs) 0 (ks.take jj)).2).nd)) ∧ Sub g' h ∧
      InnerJ w g' L' st xs wsl [I2, I, st, 188, rw] v h (3 * j) σ2 (i6 + 1) na gv (build rs) ks u a0.nd jj ∧ h.get? rw = some (listOf (es.toArray.push (.ref ea)) (cr + 1)) ∧ h.get? I = some oI, ?_, ?_, ?_, ?_⟩
    · refine ⟨h11, _, na, gv, rfl, ⟨rfl, rfl, rfl, rfl, rfl, rfl, rfl, ?_⟩, fun b o e => k11 b o (by simp) (Fl2.keep b o e), ⟨B11, hJ.G.kept hs10, hJ.O, hJ.O.pos, hJ.O.d0, ?_, hJ.nd⟩, k11 _ _ (by simp) hR10, k11 _ _ (by simp) hI10⟩
      · show some (Value.ref a0.nd) = some (Value.ref (na 0).nd)
        rw [hJ.nd]
      · show Path w σ2 (gv 0) ks u
        rw [hJ.G.g0]
        exact hpa.keptC fun b o _ e => hs10 b o e
    · rintro jj mj s6 h6 tk6 ⟨h, tk, na', gv', rfl, ⟨n1, n2, n3, n4, n5, n6, n7, n8⟩, hgs2, hJ2, hR2, hI2x⟩ k m' hm'
      have k : Kept [L', I2] h h6 := k
      have nI : ∀ b, b ≠ L' → b ≠ I2 → b ∉ [L', I2] := fun b h1 h2 => by simpa using ⟨h1, h2⟩
      refine ⟨h6, tk6, na', gv', rfl, ⟨(hm' _ (by decide)).trans n1, (hm' _ (by decide)).trans n2, (hm' _ (by decide)).trans n3, (hm' _ (by decide)).trans n4, (hm' _ (by decide)).trans n5, (hm' _ (by decide)).trans n6, (hm' _ (by decide)).trans n7, (hm' _ (by decide)).trans n8⟩, fun b o e => k b o (nI b (fun q => ?_) (fun q => ?_)) (hgs2 b o e), hJ2.keptS k (fun b hb => ?_), k _ _ (nI rw hrw.2.1 (Nat.ne_of_lt hI2rw)) hR2, k _ _ (nI I hIf.1 (Nat.ne_of_lt hI2I)) hI2x⟩
      · rw [q, kts_self Fl2] at e; cases e
      · rw [q, hI2f.2] at e; cases e
      · rcases (by simpa using hb : b = L' ∨ b = I2) with q | q
        · exact .inl q
        · right; rw [q]; exact ⟨by simp, Nat.ne_of_gt hI2st, Nat.ne_of_gt hI28⟩
    · rintro jj kv2 m₂ s6 hjj hkv2 ⟨oI2, hoI2⟩ hns2 ⟨h, tk, na', gv', rfl, ⟨n1, n2, n3, n4, n5, n6, n7, n8⟩, hgs2, hJ2, hR2, hI2x⟩
      obtain ⟨k2, hk2, hk2i, hk2s⟩ := hky.get (by simpa using hkv2)
      have hjjk : jj < ks.length := (List.getElem?_eq_some_iff.mp hk2).1
      have Fa := Fr.name (L' := L') (x := Str.ofString "node") (Fr.mk hns2 hgs2 Fl2.above) n8
      clear Fl2 Nl2 kk
      obtain ⟨own12, N12, ho12⟩ := snap g' L' h
      repeat' (((fail_if_success (with_reducible show wpAny _ _ (call (.ref 239) _) _ _ _))); first | (k_unfold; (try dsimp only)) | (k_end; wrow_close) | walk1 | (dsimp only; walk1) | (leave1; walk_say "STEP leave1"; try dsimp only) | fail "no step")
      rename Fr g' _ _ _ => Fc
      rename News g' _ _ _ => Nc
      have kk := kept_all' hgs2 Fc (News.sub Nc fun p hp => (ho12 ▸ hp))
      have hJ2k := hJ2.keptS kk (fun b hb => .inl (List.mem_singleton.mp hb))
      have hR3 := kk _ _ (by simpa using hrw.2.1) hR2
      have hI3 := kk _ _ (by simpa using hIf.1) hI2x
      have hI23 := kk _ _ (by simpa using hI2f.1) hoI2
      have hXe : ∀ b ∈ [I2, I, st, 188, rw], ∃ o, Heap.get? _ b = some o := fun b hb => by
        rcases (by simpa using hb : b = I2 ∨ b = I ∨ b = st ∨ b = 188 ∨ b = rw) with e | e | e | e | e
        · rw [e]; exact ⟨_, hI23⟩
        · rw [e]; exact ⟨_, hI3⟩
        · rw [e]; obtain ⟨t, e⟩ := hJ2k.B.stx; exact ⟨_, e⟩
        · rw [e]; exact ⟨_, hJ2k.B.h8⟩
        · rw [e]; exact ⟨_, hR3⟩
      refine linner H' (of_decide_eq_true rfl) (of_decide_eq_true rfl) Fc hJ2k (by omega) (by omega) hk2 hk2i hk2s hXe (fun na2 gv2 t2 h12 tk12 F12 k12 J12 hna hkid hlt12 => ?_)
      have hkg12 := F12.keep
      have hnkX : ∀ b ∈ [I2, I, st, 188, rw], b ∉ [(na' (walkTo (build rs) 0 (ks.take jj)).2).nk] := fun b hb q => (hJ2k.B.mod.new _ hJ2k.lt _ MA.mem.2.2.1).2.2.2 ((List.mem_singleton.mp q) ▸ hb)
      have hR12 := k12 _ _ (hnkX rw (by simp)) hR3
      have hI12 := k12 _ _ (hnkX I (by simp)) hI3
      have hI212 := k12 _ _ (hnkX I2 (by simp)) hI23
      have hmod12 := hJ2k.B.mod
      have hM12 := J12.B.mod.mod _ hlt12
      rw [hna] at hM12
      obtain ⟨own13, N13, ho13⟩ := snap g' L' h12
      clear Fc Nc kk
      (try k_fold)
      repeat' (((fail_if_success (with_reducible show wpAny _ _ (subscriptTail _ _ _ _) _ _ _))); first | (k_unfold; (try dsimp only)) | (k_end; wrow_close) | walk1 | (dsimp only; walk1) | (leave1; walk_say "STEP leave1"; try dsimp only) | fail "no step")
      rename Fr g' _ _ _ => Fd
      rename News g' _ _ _ => Nd
      have hM13 := ((J12.B.keptL (kept_all' hkg12 Fd (News.sub Nd fun p hp => (ho13 ▸ hp)))).mod.mod _ hlt12)
      rw [hna] at hM13
      refine sub_dict (knd := strKind prg w) (str_is _ _) hM13.d (node_kids _) ?_
      repeat' (((fail_if_success (with_reducible show wpAny _ _ (subscriptTail _ _ _ _) _ _ _))); first | (k_unfold; (try dsimp only)) | (k_end; wrow_close) | walk1 | (dsimp only; walk1) | (leave1; walk_say "STEP leave1"; try dsimp only) | fail "no step")
      rename Fr g' _ _ _ => Fd
      rename News g' _ _ _ => Nd
      have hM14 := ((J12.B.keptL (kept_all' hkg12 Fd (News.sub Nd fun p hp => (ho13 ▸ hp)))).mod.mod _ hlt12)
      rw [hna] at hM14
      refine sub_dict (knd := kyKind prg w) hk2i hM14.k (kid_value hkid) ?_
      k_steps
      rename Fr g' _ _ _ => Fz
      rename News g' _ _ _ => Nz
      have kz := kept_all' hkg12 Fz (News.sub Nz fun p hp => (ho13 ▸ hp))
      unfold TurnEnd
      dsimp only
      (try k_unfold)
      (try dsimp only)
      refine ⟨_, Fz.ns, fun b hb o e => ?_, _, _, na2, gv2, rfl, ⟨(if_neg (by decide)).trans ((if_neg (by decide)).trans n1), (if_neg (by decide)).trans ((if_neg (by decide)).trans n2), (if_neg (by decide)).trans ((if_neg (by decide)).trans n3), (if_neg (by decide)).trans ((if_neg (by decide)).trans n4), (if_neg (by decide)).trans ((if_neg (by decide)).trans n5), (if_neg (by decide)).trans ((if_neg (by decide)).trans n6), (if_neg (by decide)).trans ((if_neg (by decide)).trans n7), rfl⟩, Fz.keep, J12.keptS kz (fun b hb => .inl (List.mem_singleton.mp hb)), kz _ _ (by simpa using hrw.2.1) hR12, kz _ _ (by simpa using hIf.1) hI12⟩
      rcases (by simpa using hb : b = I2 ∨ b = pl) with q | q
      · rw [q] at e ⊢
        rw [hoI2] at e; cases e
        exact kz _ _ (by simpa using hI2f.1) hI212
      · rw [q] at e ⊢
        obtain ⟨op, hop, _⟩ := hpl9
        rw [hJ2.B.sub _ _ hop] at e; cases e
        exact kz _ _ (by simpa using hplL) (J12.B.sub _ _ hop)
    · rintro mj s6 hn12 ⟨h, tk, na', gv', rfl, ⟨n1, n2, n3, n4, n5, n6, n7, n8⟩, hgs2, hJ2, hR2, hI2x⟩
      have hkl2 : kvals.toArray.size = ks.length := by have := hky.len; simpa using this
      rw [hkl2] at n8
      have hJ3 := hJ2
      rw [hkl2] at hJ3
      have Fa := Fr.name (L' := L') (x := Str.ofString "node") (Fr.mk hn12 hgs2 hab) n8
      have Fb := Fr.name (L' := L') (x := Str.ofString "word") (v := .str wx wt) Fa ((if_neg (by decide)).trans n7)
      have Fc := Fr.name (L' := L') (x := Str.ofString "piece") (v := u) Fb ((if_neg (by decide)).trans ((if_neg (by decide)).trans n6))
      have F14 := Fr.name (L' := L') (x := Str.ofString "k") (v := .int j tk9) Fc ((if_neg (by decide)).trans ((if_neg (by decide)).trans ((if_neg (by decide)).trans n5)))
      clear Fa Fb Fc Fl2 Nl2 kk
      obtain ⟨own14, N14, ho14⟩ := snap g' L' h
      (try dsimp only)
      repeat' (((fail_if_success (with_reducible show wpAny _ _ (setItem _ _ _) _ _ _)); (fail_if_success (with_reducible show wpAny _ _ (subscriptTail _ _ _ _) _ _ _))); first | (k_unfold; (try dsimp only)) | (k_end; wrow_close) | walk1 | (dsimp only; walk1) | (leave1; walk_say "STEP leave1"; try dsimp only) | fail "no step")
      rename Fr g' _ _ _ => Fd
      rename News g' _ _ _ => Nd
      have kk := kept_all' hgs2 Fd (News.sub Nd fun p hp => (ho14 ▸ hp))
      have hJ4 := hJ3.keptS kk (fun b hb => .inl (List.mem_singleton.mp hb))
      refine sub_dict (knd := strKind prg w) (str_is _ _) (hJ4.B.mod.mod _ hJ4.lt).d (node_errors _) ?_
      repeat' (((fail_if_success (with_reducible show wpAny _ _ (setItem _ _ _) _ _ _)); (fail_if_success (with_reducible show wpAny _ _ (subscriptTail _ _ _ _) _ _ _))); first | (k_unfold; (try dsimp only)) | (k_end; wrow_close) | walk1 | (dsimp only; walk1) | (leave1; walk_say "STEP leave1"; try dsimp only) | fail "no step")
      rename Fr g' _ _ _ => Fd
      rename News g' _ _ _ => Nd
      have kk := kept_all' hgs2 Fd (News.sub Nd fun p hp => (ho14 ▸ hp))
      have hJ5 := hJ3.keptS kk (fun b hb => .inl (List.mem_singleton.mp hb))
      have hR5b := kk _ _ (by simpa using hrw.2.1) hR2
      have hI5b := kk _ _ (by simpa using hIf.1) hI2x
      obtain ⟨mkv, hmd, hme⟩ := (hJ5.B.mod.mod _ hJ5.lt).e
      refine wpAny_setItem_pairs (knd := strKind prg w) (str_is _ _) hmd (fun h15 hd15 hs15 => ?_) (by have := hme.len; have := hJ5.O.el _ hJ5.lt; rw [sizeLine_eq]; omega)
      have k15 := Kept.sameBut hs15
      have M15 := hJ5.B.mod.putE hJ5.lt k15 hd15 (hme.stored wx _ _)
      have B15 := hJ5.B.grow hJ5.lt MA.mem.2.1 k15 M15
      have F15 := hJ5.B.frameM Fd hJ5.lt MA.mem.2.1 k15
      have hnX : ∀ b ∈ [I2, I, st, 188, rw], ∀ y ∈ (na' (walkTo (build rs) 0 (List.take ks.length ks)).2).fp, b ∉ [y] := fun b hb y hy q => (hJ5.B.mod.new _ hJ5.lt y hy).2.2.2 ((List.mem_singleton.mp q) ▸ hb)
      have hR15 := k15 _ _ (hnX rw (by simp) _ MA.mem.2.1) hR5b
      have hI15 := k15 _ _ (hnX I (by simp) _ MA.mem.2.1) hI5b
      have hkg15 := F15.keep
      have hL15 : ∃ o, h15.get? L' = some o := let ⟨o, _, _, e, _⟩ := F15.ns; ⟨o, e⟩
      obtain ⟨own15, N15, ho15⟩ := snap g' L' h15
      clear Fd Nd kk
      (try dsimp only)
      (try k_fold)
      repeat' (((fail_if_success (with_reducible show wpAny _ _ (setItem _ _ _) _ _ _)); (fail_if_success (with_reducible show wpAny _ _ (subscriptTail _ _ _ _) _ _ _))); first | (k_unfold; (try dsimp only)) | (k_end; wrow_close) | walk1 | (dsimp only; walk1) | (leave1; walk_say "STEP leave1"; try dsimp only) | fail "no step")
      rename Fr g' _ _ _ => Fd
      rename News g' _ _ _ => Nd
      rename (∀ p : Addr × Obj, p ∈ own15 → _) => ltlp
      rename Addr => lp
      have hlp := Nd _ (.head _)
      have hlpn := new_none ho15 ltlp hlp.2.1 hlp.2.2
      have kk := kept_all' hkg15 Fd (News.sub Nd fun p hp => .tail _ (ho15 ▸ hp))
      have B15d := B15.dropX (X' := [I, st, 188, rw]) (fun b hb => .tail _ hb) (by simp) (by simp)
      have B16 := B15d.keptL kk
      have hR16 := kk _ _ (by simpa using hrw.2.1) hR15
      have hI16 := kk _ _ (by simpa using hIf.1) hI15
      refine wpAny_setItem_pairs (knd := strKind prg w) (str_is _ _) (B16.mod.mod _ hJ5.lt).d (fun h17 hd17 hs17 => ?_) (by show 3 ≤ sizeLine; rw [sizeLine_eq]; decide)
      have k17 := Kept.sameBut hs17
      rw [node_put] at hd17
      have hndlp : lp ≠ (na' (walkTo (build rs) 0 (List.take ks.length ks)).2).nd := fun q => by
        obtain ⟨o, e⟩ := (B15d.mod.mod _ hJ5.lt).there _ MA.mem.1
        rw [← q, hlpn] at e; cases e
      have hX15 : ∀ b ∈ [I, st, 188, rw], ∃ o, h15.get? b = some o := fun b hb => by
        rcases (by simpa using hb : b = I ∨ b = st ∨ b = 188 ∨ b = rw) with e | e | e | e
        · rw [e]; exact ⟨_, hI15⟩
        · rw [e]; obtain ⟨t, e⟩ := B15d.stx; exact ⟨_, e⟩
        · rw [e]; exact ⟨_, B15d.h8⟩
        · rw [e]; exact ⟨_, hR15⟩
      have hOb := put_ok (u := u) hJ5.O hJ5.lt hwok (msg_ok (show j < 7 by omega))
      obtain ⟨na17, M17, hnd17⟩ := B15d.mod.putP (u := u) hJ5.lt hL15 hkg15 B15d.sub hX15 hlpn (fun b o hb e => k17 b o (fun q => hb (.tail _ q)) (kk b o (fun q => hb ((List.mem_singleton.mp q) ▸ .head _)) e)) hd17 ⟨_, k17 _ _ (fun q => hndlp (List.mem_singleton.mp q)) hlp.1, rfl, _, rfl⟩
      have B17 := B16.grow hJ5.lt MA.mem.1 k17 M17
      have F17 := B16.frameM Fd hJ5.lt MA.mem.1 k17
      have hnX2 : ∀ b ∈ [I, st, 188, rw], b ∉ [(na' (walkTo (build rs) 0 (List.take ks.length ks)).2).nd] := fun b hb q => (B16.mod.new _ hJ5.lt _ MA.mem.1).2.2.2 ((List.mem_singleton.mp q) ▸ hb)
      have hR17 := k17 _ _ (hnX2 rw (by simp)) hR16
      have hI17 := k17 _ _ (hnX2 I (by simp)) hI16
      rw [← putErr_eq] at B17
      clear Nd kk
      refine wpAny_execs_nil ?_
      unfold TurnEnd
      dsimp only
      have hgvu : gv' (walkTo (build rs) 0 (List.take ks.length ks)).2 = u := by
        have := hJ5.val
        rw [List.drop_length] at this
        exact (show u = _ from this).symm
      have hGp := put_gv (i := (walkTo (build rs) 0 (List.take ks.length ks)).2) (a := wx) (b := Str.ofString "m" ++ Str.ofString (toString (j : Int))) hJ5.G
      rw [hgvu] at hGp
      obtain ⟨r, hr⟩ : ∃ r : Row, r = ⟨ks, u, wx, Str.ofString "m" ++ Str.ofString (toString (j : Int))⟩ := ⟨_, rfl⟩
      have hbr : build (rs ++ [r]) = putErr (walkTo (build rs) 0 (List.take ks.length ks)).1 (walkTo (build rs) 0 (List.take ks.length ks)).2 wx (Str.ofString "m" ++ Str.ofString (toString (j : Int))) u := by
        rw [build_snoc, List.take_length, hr]; rfl
      refine ⟨_, F17.ns, fun b hb o e => ?_, h17, _, σ2, i6 + 1, na17, gv', rs ++ [r], es ++ [.ref ea], rfl, (if_neg (by decide)).trans ((if_neg (by decide)).trans ((if_neg (by decide)).trans ((if_neg (by decide)).trans n1))), (if_neg (by decide)).trans ((if_neg (by decide)).trans ((if_neg (by decide)).trans ((if_neg (by decide)).trans n2))), (if_neg (by decide)).trans ((if_neg (by decide)).trans ((if_neg (by decide)).trans ((if_neg (by decide)).trans n3))), (if_neg (by decide)).trans ((if_neg (by decide)).trans ((if_neg (by decide)).trans ((if_neg (by decide)).trans n4))), F17.keep, ?_⟩
      · rw [List.mem_singleton.mp hb] at e ⊢
        rw [hoI] at e; cases e
        exact hI17
      · refine ⟨hbr ▸ B17, hbr ▸ hGp, hbr ▸ (hOb.mono (by omega)), hJ.V.keptC fun b o _ e => hs10 b o e, by simp, ⟨_, by simpa using hR17⟩, by simp [hJ.len], fun jj e r' he hr' => ?_, by omega, by push_cast; omega, (hnd17 0).trans hJ5.nd⟩
        rcases Nat.lt_or_ge jj es.length with q | q
        · rw [List.getElem?_append_left q] at he
          rw [List.getElem?_append_left (by rw [← hJ.len.1]; exact q)] at hr'
          exact (hJ.row jj e r' he hr').keptC fun b o _ e => hs10 b o e
        · have h1 : jj = es.length := by
            have := (List.getElem?_eq_some_iff.mp he).1
            simp at this; omega
          have h2 : jj = rs.length := by rw [h1, hJ.len.1]
          rw [h1, List.getElem?_append_right (Nat.le_refl _)] at he
          rw [h2, List.getElem?_append_right (Nat.le_refl _)] at hr'
          simp at he hr'
          subst he; subst hr'
          rw [hr]
          exact ⟨⟨ea, er, rfl, her10, hep ▸ hky, hem, hew, hei⟩, hpa.keptC fun b o _ e => hs10 b o e, hkl, hwok, msg_ok (by omega)⟩
  · rintro mj s5 hn ⟨h, tk, σ1, i, na, gv, rs, es, rfl, hm1, hm2, hm3, hm4, hgs, hJ⟩
    have hab := Fl.above
    have Fa := Fr.name (L' := L') (x := Str.ofString "state") (Fr.mk hn hgs hab) hm1
    have Fb := Fr.name (L' := L') (x := Str.ofString "rows") (v := .ref rw) Fa ((if_neg (by decide)).trans hm3)
    have F20 := Fr.name (L' := L') (x := Str.ofString "root") (v := .ref a0.nd) Fb ((if_neg (by decide)).trans ((if_neg (by decide)).trans hm4))
    clear Fa Fb Fl Nl
    obtain ⟨own20, N20, ho20⟩ := snap g' L' h
    (try dsimp only)
    repeat' (((fail_if_success (with_reducible show wpAny _ _ (call (.ref 197) _) _ _ _))); first | (k_unfold; (try dsimp only)) | (k_end; wrow_close) | walk1 | (dsimp only; walk1) | (leave1; walk_say "STEP leave1"; try dsimp only) | fail "no step")
    rename Fr g' _ _ _ => Fc
    rename News g' _ _ _ => Nc
    have kk := kept_all' hgs Fc (News.sub Nc fun p hp => (ho20 ▸ hp))
    have B20 := hJ.B.keptL kk
    obtain ⟨cr, hR0⟩ := hJ.R
    have hR20 := kk _ _ (by simpa using hrw.2.1) hR0
    refine tree_spec H' (of_decide_eq_true rfl) (of_decide_eq_true rfl) Fc ⟨_, hR20, rfl, _, rfl⟩ hrw.2.1 hJ.len.1 (by rw [hJ.len.2]; exact hk7) hJ.row B20.sub B20.frL hJ.V (fun ta h21 tk21 F21 k21 hT hTn hTs hTd => ?_)
    have hL20 : ∃ o, h.get? L' = some o := let ⟨o, _, _, e, _⟩ := Fc.ns; ⟨o, e⟩
    have W21 : WJ w g' L' st xs wsl [st, 188] h21 σ1 i #[] (build rs) (build rs) na ta 30 a0.nd (ta 0).t := by
      refine ⟨(B20.keptL k21).dropX (fun b hb => by rcases (by simpa using hb : b = st ∨ b = 188) with e | e <;> simp [e]) (by simp) (by simp), ⟨hT, fun jj hjj b hb => ?_, hTs, hTd⟩, hJ.O.mono (by omega), hJ.O.mono (by omega), hJ.G.pcs, by trivial, fun a ha b hb y hy hy' => ?_, hJ.i0, hJ.nd, rfl⟩
      · have hn := hTn jj hjj b hb
        refine ⟨fun q => ?_, Sub.none Fc.keep hn, B20.sub.none hn, fun q => ?_⟩
        · obtain ⟨o, e⟩ := hL20; rw [← q, hn] at e; cases e
        · rcases (by simpa using q : b = st ∨ b = 188) with q | q
          · obtain ⟨t, e⟩ := B20.stx; rw [← q, hn] at e; cases e
          · have e := B20.h8; rw [← q, hn] at e; cases e
      · obtain ⟨o, e⟩ := (B20.mod.mod a ha).there y hy
        rw [hTn b hb y hy'] at e; cases e
    have hi21 := hJ.i1
    have hkg21 := F21.keep
    obtain ⟨own21, N21, ho21⟩ := snap g' L' h21
    generalize ht0 : (ta 0).t = t0 at W21
    generalize build rs = ars at W21
    clear Fc Nc kk hJ B20
    (try k_fold)
    repeat' (((fail_if_success (with_reducible show wpAny _ _ (exec (Stmt.For _ _ _ _ _) _) _ _ _))); first | (k_unfold; (try dsimp only)) | (k_end; wrow_close) | walk1 | (dsimp only; walk1) | (leave1; walk_say "STEP leave1"; try dsimp only) | fail "no step")
    refine for_J rfl rfl ?_ (by intro _; with_unfolding_all rfl)
    repeat' (((fail_if_success (with_reducible show wpAny _ _ (call (.ref 208) _) _ _ _))); first | (k_unfold; (try dsimp only)) | (k_end; wrow_close) | walk1 | (dsimp only; walk1) | (leave1; walk_say "STEP leave1"; try dsimp only) | fail "no step")
    rename Fr g' _ _ _ => Fc
    rename News g' _ _ _ => Nc
    have kk := kept_all' hkg21 Fc (News.sub Nc fun p hp => (ho21 ▸ hp))
    refine wnext H' (of_decide_eq_true rfl) (of_decide_eq_true rfl) Fc (W21.keptL kk) ‹IntsAre wsl ns› hn60 (by omega) (by decide) (by decide) (fun r22 tr22 h22 tk22 F22 W22 k22 hr220 hr221 => ?_)
    have hkg22 := F22.keep
    obtain ⟨own22, N22, ho22⟩ := snap g' L' h22
    clear Fc Nc kk
    (try k_fold)
    repeat' (((fail_if_success (with_reducible show wpAny _ _ (pyIter _) _ _ _))); first | (k_unfold; (try dsimp only)) | (k_end; wrow_close) | walk1 | (dsimp only; walk1) | (leave1; walk_say "STEP leave1"; try dsimp only) | fail "no step")
    rename IsRange _ _ _ _ _ _ _ _ => hrg2
    rename Fr g' _ _ _ => Fl
    rename News g' _ _ _ => Nl
    rename Heap => hq23
    have kk := kept_all' hkg22 Fl (News.sub Nl fun p hp => (ho22 ▸ hp))
    obtain ⟨k5, rfl⟩ : ∃ k : Nat, r22 = k := ⟨r22.toNat, by omega⟩
    have hk5 : k5 ≤ 5 := by omega
    refine loop_range (n := k5) hh' hrg2 (by omega) Fl.ns (fun h23 hz23 hk23 => ?_)
    have hJf : hq23.objs.size ≠ L' ∧ g'.get? hq23.objs.size = none := Fr.fresh Fl (Nat.le_refl _)
    have W23 := ((W22.keptL kk).addX (Heap.get?_none_of_le (Nat.le_refl _)) hJf.1 hJf.2).keptS hk23 (by simp)
    have hJst : st < hq23.objs.size := by obtain ⟨t, e⟩ := (W22.keptL kk).B.stx; exact Heap.lt_size e
    have hJ8 : (188 : Addr) < hq23.objs.size := Heap.lt_size (W22.keptL kk).B.h8
    generalize hJe : hq23.objs.size = I3 at W23 hJst hJ8 hJf hz23 ⊢
    refine ⟨fun k mj s' => ∃ h tk gs i ps ars na ta c, s' = { s₁ with heap := h, toks := tk, gens := gs } ∧ Grow s₁.gens gs ∧ (mj (Str.ofString "state") = some (.ref st) ∧ mj (Str.ofString "tree") = some (.ref t0) ∧ mj (Str.ofString "root") = some (.ref a0.nd)) ∧ Sub g' h ∧
      WJ w g' L' st xs wsl [I3, st, 188] h σ1 i ps ars ars na ta c a0.nd t0 ∧ c ≤ 30 + 3 * k ∧ i ≤ 70 + 4 * k, ?_, ?_, ?_, ?_⟩
    · exact ⟨h23, _, _, _, _, _, _, _, _, rfl, Grow.refl _, ⟨rfl, rfl, rfl⟩, fun b o e => hk23 _ _ (by simp) (Fl.keep b o e), W23, by omega, by omega⟩
    · rintro j mj s6 h6 tk6 ⟨h, tk, gs, i, ps, ars, na, ta, c, rfl, hgr, ⟨n1, n2, n3⟩, hgs, hW, hc, hi⟩ k m' hm'
      have k : Kept [L', I3] h h6 := k
      refine ⟨h6, tk6, gs, i, ps, ars, na, ta, c, rfl, hgr, ⟨(hm' _ (by decide)).trans n1, (hm' _ (by decide)).trans n2, (hm' _ (by decide)).trans n3⟩, fun b o e => k b o (fun q => ?_) (hgs b o e), hW.keptS k (fun b hb => ?_), hc, hi⟩
      · rcases (by simpa using q : b = L' ∨ b = I3) with q | q
        · rw [q, kts_self Fl] at e; cases e
        · rw [q, hJf.2] at e; cases e
      · rcases (by simpa using hb : b = L' ∨ b = I3) with q | q
        · exact .inl q
        · right; rw [q]; exact ⟨by simp, Nat.ne_of_gt hJst, Nat.ne_of_gt hJ8⟩
    · rintro j kv m₁ s6 hj ⟨tk9, rfl⟩ ⟨oI, hoI⟩ hns ⟨h, tk, gs, i, ps, ars, na, ta, c, rfl, hgr, ⟨n1, n2, n3⟩, hgs, hW, hc, hi⟩
      have hab := Fl.above
      have Fa := Fr.name (L' := L') (x := Str.ofString "state") (Fr.mk hns hgs hab) n1
      have Fb := Fr.name (L' := L') (x := Str.ofString "tree") (v := .ref t0) Fa ((if_neg (by decide)).trans n2)
      have F24 := Fr.name (L' := L') (x := Str.ofString "root") (v := .ref a0.nd) Fb ((if_neg (by decide)).trans ((if_neg (by decide)).trans n3))
      clear Fa Fb Fl Nl kk
      obtain ⟨own24, N24, ho24⟩ := snap g' L' h
      repeat' (((fail_if_success (with_reducible show wpAny _ _ (exec (Stmt.For _ _ _ _ _) _) _ _ _))); first | (k_unfold; (try dsimp only)) | (k_end; wrow_close) | walk1 | (dsimp only; walk1) | (leave1; walk_say "STEP leave1"; try dsimp only) | fail "no step")
      refine for_J rfl rfl ?_ (by intro _; with_unfolding_all rfl)
      repeat' (((fail_if_success (with_reducible show wpAny _ _ (call (.ref 208) _) _ _ _))); first | (k_unfold; (try dsimp only)) | (k_end; wrow_close) | walk1 | (dsimp only; walk1) | (leave1; walk_say "STEP leave1"; try dsimp only) | fail "no step")
      rename Fr g' _ _ _ => Fc
      rename News g' _ _ _ => Nc
      have kk := kept_all' hgs Fc (News.sub Nc fun p hp => (ho24 ▸ hp))
      have hI24 := kk _ _ (by simpa using hJf.1) hoI
      refine wnext H' (of_decide_eq_true rfl) (of_decide_eq_true rfl) Fc (hW.keptL kk) ‹IntsAre wsl ns› hn60 (by omega) (by decide) (by decide) (fun r25 tr25 h25 tk25 F25 W25 k25 hr250 hr251 => ?_)
      have hI25 := k25 _ _ (by simpa using Nat.ne_of_gt hJst) hI24
      have hkg25 := F25.keep
      obtain ⟨own25, N25, ho25⟩ := snap g' L' h25
      clear Fc Nc kk
      (try k_fold)
      repeat' (((fail_if_success (with_reducible show wpAny _ _ (pyIter _) _ _ _))); first | (k_unfold; (try dsimp only)) | (k_end; wrow_close) | walk1 | (dsimp only; walk1) | (leave1; walk_say "STEP leave1"; try dsimp only) | fail "no step")
      rename IsRange _ _ _ _ _ _ _ _ => hrg3
      rename Fr g' _ _ _ => Fl2
      rename News g' _ _ _ => Nl2
      rename Heap => hq26
      have kk := kept_all' hkg25 Fl2 (News.sub Nl2 fun p hp => (ho25 ▸ hp))
      obtain ⟨k3, rfl⟩ : ∃ k : Nat, r25 = k := ⟨r25.toNat, by omega⟩
      have hk3 : k3 ≤ 2 := by omega
      rw [show (1 : Int) + (k3 : Int) = ((1 + k3 : Nat) : Int) by push_cast; rfl] at hrg3
      have hI26 := kk _ _ (by simpa using hJf.1) hI25
      refine loop_range (n := 1 + k3) hh' hrg3 (by omega) Fl2.ns (fun h27 hz27 hk27 => ?_)
      have hKf : hq26.objs.size ≠ L' ∧ g'.get? hq26.objs.size = none := Fr.fresh Fl2 (Nat.le_refl _)
      have W27 := ((W25.keptL kk).addX (Heap.get?_none_of_le (Nat.le_refl _)) hKf.1 hKf.2).keptS hk27 (by simp)
      have hKst : st < hq26.objs.size := by obtain ⟨t, e⟩ := (W25.keptL kk).B.stx; exact Heap.lt_size e
      have hK8 : (188 : Addr) < hq26.objs.size := Heap.lt_size (W25.keptL kk).B.h8
      have hKI : I3 < hq26.objs.size := Heap.lt_size hI26
      generalize hKe : hq26.objs.size = I4 at W27 hKst hK8 hKI hKf hz27 ⊢
      refine ⟨fun jj mj s' => ∃ h tk i' ars na ta c' ix, s' = { s₁ with heap := h, toks := tk, gens := gs } ∧ (mj (Str.ofString "state") = some (.ref st) ∧ mj (Str.ofString "tree") = some (.ref t0) ∧ mj (Str.ofString "root") = some (.ref a0.nd) ∧ mj (Str.ofString "here") = some (.ref (ta ix).t) ∧ mj (Str.ofString "node") = some (.ref (na ix).nd)) ∧ Sub g' h ∧
        WJ w g' L' st xs wsl [I4, I3, st, 188] h σ1 i' ps ars ars na ta c' a0.nd t0 ∧ ix < ars.2 ∧ (ars.1 ix).dep ≤ jj ∧ c' ≤ c + jj ∧ i' ≤ i + 1 + jj ∧ h.get? I3 = some oI, ?_, ?_, ?_, ?_⟩
      · refine ⟨h27, _, _, ars, na, ta, c, 0, rfl, ⟨rfl, rfl, rfl, ?_, ?_⟩, fun b o e => hk27 _ _ (by simp) (Fl2.keep b o e), W27, hW.OM.pos, Nat.le_of_eq hW.OM.d0, by omega, by omega, hk27 _ _ (by simp) hI26⟩
        · show some (Value.ref t0) = some (Value.ref (ta 0).t)
          rw [hW.t0]
        · show some (Value.ref a0.nd) = some (Value.ref (na 0).nd)
          rw [hW.nd]
      · rintro jj mj s6 h6 tk6 ⟨h, tk, i', ars, na, ta, c', ix, rfl, ⟨n1, n2, n3, n4, n5⟩, hgs2, hW2, hix, hdp, hc2, hi2, hI2x⟩ k m' hm'
        have k : Kept [L', I4] h h6 := k
        refine ⟨h6, tk6, i', ars, na, ta, c', ix, rfl, ⟨(hm' _ (by decide)).trans n1, (hm' _ (by decide)).trans n2, (hm' _ (by decide)).trans n3, (hm' _ (by decide)).trans n4, (hm' _ (by decide)).trans n5⟩, fun b o e => k b o (fun q => ?_) (hgs2 b o e), hW2.keptS k (fun b hb => ?_), hix, hdp, hc2, hi2, k _ _ (by simpa using ⟨hJf.1, Nat.ne_of_lt hKI⟩) hI2x⟩
        · rcases (by simpa using q : b = L' ∨ b = I4) with q | q
          · rw [q, kts_self Fl2] at e; cases e
          · rw [q, hKf.2] at e; cases e
        · rcases (by simpa using hb : b = L' ∨ b = I4) with q | q
          · exact .inl q
          · right; rw [q]; exact ⟨by simp, Nat.ne_of_gt hKst, Nat.ne_of_gt hK8⟩
      · rintro jj kv m₂ s6 hjj ⟨tk10, rfl⟩ ⟨oI4, hoI4⟩ hns2 ⟨h, tk, i', ars, na, ta, c', ix, rfl, ⟨n1, n2, n3, n4, n5⟩, hgs2, hW2, hix, hdp, hc2, hi2, hI2x⟩
        have Fa := Fr.name (L' := L') (x := Str.ofString "state") (Fr.mk hns2 hgs2 hab) n1
        have Fb := Fr.name (L' := L') (x := Str.ofString "here") (v := .ref (ta ix).t) Fa ((if_neg (by decide)).trans n4)
        have F28 := Fr.name (L' := L') (x := Str.ofString "node") (v := .ref (na ix).nd) Fb ((if_neg (by decide)).trans ((if_neg (by decide)).trans n5))
        clear Fa Fb Fl2 Nl2 kk
        obtain ⟨own28, N28, ho28⟩ := snap g' L' h
        repeat' (((fail_if_success (with_reducible show wpAny _ _ (call (.ref 208) _) _ _ _))); first | (k_unfold; (try dsimp only)) | (k_end; wrow_close) | walk1 | (dsimp only; walk1) | (leave1; walk_say "STEP leave1"; try dsimp only) | fail "no step")
        rename Fr g' _ _ _ => Fc
        rename News g' _ _ _ => Nc
        rename (∀ p : Addr × Obj, p ∈ own28 → _) => ltlit
        rename Addr => lit
        have hlit := Nc _ (.head _)
        have kk := kept_all' hgs2 Fc (News.sub Nc fun p hp => .tail _ (ho28 ▸ hp))
        have W28 := hW2.keptL kk
        have hI28 := kk _ _ (by simpa using hJf.1) hI2x
        have hI428 := kk _ _ (by simpa using hKf.1) hoI4
        have hlst : st < lit := by
          obtain ⟨t, e⟩ := hW2.B.stx
          exact ltlit (st, _) (ho28 ▸ mem_all.mpr ⟨e, (hW2.B.fr st hW2.B.inX.1).1, (hW2.B.fr st hW2.B.inX.1).2.1⟩)
        refine wnext H' (of_decide_eq_true rfl) (of_decide_eq_true rfl) Fc W28 ‹IntsAre wsl ns› hn60 (by omega) (by decide) (by decide) (fun r29 tr29 h29 tk29 F29 W29 k29 hr290 hr291 => ?_)
        have hlit29 := k29 lit _ (by simpa using Nat.ne_of_gt hlst) hlit.1
        have hI29 := k29 _ _ (by simpa using Nat.ne_of_gt hJst) hI28
        have hI429 := k29 _ _ (by simpa using Nat.ne_of_gt hKst) hI428
        have hkg29 := F29.keep
        obtain ⟨own29, N29, ho29⟩ := snap g' L' h29
        clear Fc Nc kk W28
        (try k_fold)
        repeat' (((fail_if_success (with_reducible show wpAny _ _ (subscriptTail _ _ _ _) _ _ _))); first | (k_unfold; (try dsimp only)) | (k_end; wrow_close) | walk1 | (dsimp only; walk1) | (leave1; walk_say "STEP leave1"; try dsimp only) | fail "no step")
        obtain ⟨xv, xk, hxe, hxk, hxs⟩ := idx_at hlit29 hr290 hr291
        refine tail_any (Heap.IsList.typeIs ⟨_, hlit29, rfl, _, rfl⟩) slot_list_getitem.lookup (wpAny_getItem_list ⟨_, hlit29, rfl, _, rfl⟩ hr290 (by simp; omega) hxe ?_) (by with_unfolding_all rfl)
        repeat' (((fail_if_success (with_reducible show wpAny _ _ (compareOp _ _ _) _ _ _))); first | (k_unfold; (try dsimp only)) | (k_end; wrow_close) | walk1 | (dsimp only; walk1) | (leave1; walk_say "STEP leave1"; try dsimp only) | fail "no step")
        rename Fr g' _ _ _ => Fc
        rename News g' _ _ _ => Nc
        have kk := kept_all' hkg29 Fc (News.sub Nc fun p hp => (ho29 ▸ hp))
        refine win H' (of_decide_eq_true rfl) (of_decide_eq_true rfl) Fc (W29.keptL kk) hix hxk (fun h30 tk30 k30 => ?_)
        have F30 := Fr.kept Fc k30 (by simp) (by simp)
        have W30 := (W29.keptL kk).keptS k30 (by simp)
        have hI30 := k30 _ _ (by simp) (kk _ _ (by simpa using hJf.1) hI29)
        have hI430 := k30 _ _ (by simp) (kk _ _ (by simpa using hKf.1) hI429)
        have hkg30 := F30.keep
        obtain ⟨own30, N30, ho30⟩ := snap g' L' h30
        clear Fc Nc kk
        (try k_fold)
        repeat' (((fail_if_success (with_reducible show wpAny _ _ (compareOp _ _ _) _ _ _)); (fail_if_success (with_reducible show wpAny _ _ (subscriptTail _ _ _ _) _ _ _))); first | (k_unfold; (try dsimp only)) | (k_end; wrow_close) | walk1 | (dsimp only; walk1) | (leave1; walk_say "STEP leave1"; try dsimp only) | fail "no step")
        rename Fr g' _ _ _ => Fc
        rename News g' _ _ _ => Nc
        have kk := kept_all' hkg30 Fc (News.sub Nc fun p hp => (ho30 ▸ hp))
        refine sub_dict (knd := strKind prg w) (str_is _ _) ((W30.keptL kk).B.mod.mod _ hix).d (node_kids _) ?_
        clear kk
        repeat' (((fail_if_success (with_reducible show wpAny _ _ (compareOp _ _ _) _ _ _)); (fail_if_success (with_reducible show wpAny _ _ (subscriptTail _ _ _ _) _ _ _))); first | (k_unfold; (try dsimp only)) | (k_end; wrow_close) | walk1 | (dsimp only; walk1) | (leave1; walk_say "STEP leave1"; try dsimp only) | fail "no step")
        rename Fr g' _ _ _ => Fc
        rename News g' _ _ _ => Nc
        have kk := kept_all' hkg30 Fc (News.sub Nc fun p hp => (ho30 ▸ hp))
        refine wkin (h := h30) (W30.keptL kk) hix hxk (fun tk31 => ?_)
        clear kk
        repeat' (((fail_if_success (with_reducible show wpAny _ _ (call (.ref 239) _) _ _ _))); first | (k_unfold; (try dsimp only)) | (k_end; wrow_close) | walk1 | (dsimp only; walk1) | (leave1; walk_say "STEP leave1"; try dsimp only) | fail "no step")
        · exact absurd ‹(_ != _) = true› (by simp)
        rename Fr g' _ _ _ => Fc
        rename News g' _ _ _ => Nc
        have kk := kept_all' hkg30 Fc (News.sub Nc fun p hp => (ho30 ▸ hp))
        have W31 := W30.keptL kk
        have hI31 := kk _ _ (by simpa using hJf.1) hI30
        have hI431 := kk _ _ (by simpa using hKf.1) hI430
        have hXe : ∀ b ∈ [I4, I3, st, 188], ∃ o, Heap.get? _ b = some o := fun b hb => by
          rcases (by simpa using hb : b = I4 ∨ b = I3 ∨ b = st ∨ b = 188) with e | e | e | e
          · rw [e]; exact ⟨_, hI431⟩
          · rw [e]; exact ⟨_, hI31⟩
          · rw [e]; obtain ⟨t, e⟩ := W31.B.stx; exact ⟨_, e⟩
          · rw [e]; exact ⟨_, W31.B.h8⟩
        rcases wcase W31.P hix xk with hok | ⟨hq, pu, psh, hpu, hpsh, hpl⟩
        · refine wstep H' (of_decide_eq_true rfl) (of_decide_eq_true rfl) Fc W31 (by omega) hix (by omega) hxk hxs hXe hok (fun na2 t2 h32 tk32 F32 W32 hna2 hX32 hXk32 => ?_)
          have hI32 := hXk32 I3 _ (by simp) hI31
          have hI432 := hXk32 I4 _ (by simp) hI431
          have hkg32 := F32.keep
          obtain ⟨own32, N32, ho32⟩ := snap g' L' h32
          clear Fc Nc kk
          (try k_fold)
          repeat' (((fail_if_success (with_reducible show wpAny _ _ (call (.ref 246) _) _ _ _))); first | (k_unfold; (try dsimp only)) | (k_end; wrow_close) | walk1 | (dsimp only; walk1) | (leave1; walk_say "STEP leave1"; try dsimp only) | fail "no step")
          rename Fr g' _ _ _ => Fc
          rename News g' _ _ _ => Nc
          have kk := kept_all' hkg32 Fc (News.sub Nc fun p hp => (ho32 ▸ hp))
          refine wread H' (of_decide_eq_true rfl) (of_decide_eq_true rfl) Fc (W32.keptL kk) (by omega) W31.OM hix (by omega) hxk hxs (fun b hb => let ⟨o, e⟩ := hX32 b hb; ⟨o, kk b o (fun q => (W32.B.fr b hb).1 (List.mem_singleton.mp q)) e⟩) hok (fun ta2 t3 h33 tk33 F33 W33 hta2 hX33 hXk33 => ?_)
          have hI33 := hXk33 I3 _ (by simp) (kk _ _ (by simpa using hJf.1) hI32)
          have hI433 := hXk33 I4 _ (by simp) (kk _ _ (by simpa using hKf.1) hI432)
          have hkg33 := F33.keep
          obtain ⟨own33, N33, ho33⟩ := snap g' L' h33
          clear Fc Nc kk
          (try k_fold)
          have S := step_ok hW2.OM hix hxs (show (ars.1 ix).dep ≤ 2 by omega)
          have hix2 : ix < (stepTo ars ix xk).1.2 := Nat.lt_of_lt_of_le hix S.le
          have hkid := step_kid (s := ars) (k := xk) hix
          repeat' (((fail_if_success (with_reducible show wpAny _ _ (subscriptTail _ _ _ _) _ _ _))); first | (k_unfold; (try dsimp only)) | (k_end; wrow_close) | walk1 | (dsimp only; walk1) | (leave1; walk_say "STEP leave1"; try dsimp only) | fail "no step")
          rename Fr g' _ _ _ => Fc
          rename News g' _ _ _ => Nc
          have kk := kept_all' hkg33 Fc (News.sub Nc fun p hp => (ho33 ▸ hp))
          have W34 := W33.keptL kk
          rw [← hta2 ix hix]
          refine tree_sub Fc X' (W34.T.tre ix hix2).o (W34.T.tre ix hix2).d ?_
          refine wget H'.in1 (of_decide_eq_true rfl) (of_decide_eq_true rfl) Fc W34 (by omega) hix2 hxk hkid (fun h35 tk35 k35 => ?_)
          have W35 := W34.keptS k35 (by simp)
          have F35 := Fr.kept Fc k35 (by simp) (by simp)
          have hI35 := k35 _ _ (by simp) (kk _ _ (by simpa using hJf.1) hI33)
          have hI435 := k35 _ _ (by simp) (kk _ _ (by simpa using hKf.1) hI433)
          have hkg35 := F35.keep
          obtain ⟨own35, N35, ho35⟩ := snap g' L' h35
          clear Fc Nc kk W34
          (try k_fold)
          repeat' (((fail_if_success (with_reducible show wpAny _ _ (subscriptTail _ _ _ _) _ _ _))); first | (k_unfold; (try dsimp only)) | (k_end; wrow_close) | walk1 | (dsimp only; walk1) | (leave1; walk_say "STEP leave1"; try dsimp only) | fail "no step")
          rename Fr g' _ _ _ => Fc
          rename News g' _ _ _ => Nc
          have M36 := ((W35.keptL (kept_all' hkg35 Fc (News.sub Nc fun p hp => (ho35 ▸ hp)))).B.mod.mod ix hix2)
          rw [hna2 ix hix] at M36
          refine sub_dict (knd := strKind prg w) (str_is _ _) M36.d (node_kids _) ?_
          repeat' (((fail_if_success (with_reducible show wpAny _ _ (subscriptTail _ _ _ _) _ _ _))); first | (k_unfold; (try dsimp only)) | (k_end; wrow_close) | walk1 | (dsimp only; walk1) | (leave1; walk_say "STEP leave1"; try dsimp only) | fail "no step")
          rename Fr g' _ _ _ => Fc
          rename News g' _ _ _ => Nc
          have M37 := ((W35.keptL (kept_all' hkg35 Fc (News.sub Nc fun p hp => (ho35 ▸ hp)))).B.mod.mod ix hix2)
          rw [hna2 ix hix] at M37
          refine sub_dict (knd := kyKind prg w) hxk M37.k (kid_value hkid) ?_
          k_steps
          rename Fr g' _ _ _ => Fz
          rename News g' _ _ _ => Nz
          have kz := kept_all' hkg35 Fz (News.sub Nz fun p hp => (ho35 ▸ hp))
          unfold TurnEnd
          dsimp only
          (try k_unfold)
          (try dsimp only)
          have hI36 := kz _ _ (by simpa using hJf.1) hI35
          have hI436 := kz _ _ (by simpa using hKf.1) hI435
          refine ⟨_, Fz.ns, fun b hb o e => ?_, _, _, i' + 1, (stepTo ars ix xk).1, na2, ta2, c' + 1, (stepTo ars ix xk).2, rfl, ⟨rfl, (if_neg (by decide)).trans ((if_neg (by decide)).trans ((if_neg (by decide)).trans ((if_neg (by decide)).trans ((if_neg (by decide)).trans ((if_neg (by decide)).trans ((if_neg (by decide)).trans (n2))))))), (if_neg (by decide)).trans ((if_neg (by decide)).trans ((if_neg (by decide)).trans ((if_neg (by decide)).trans ((if_neg (by decide)).trans ((if_neg (by decide)).trans ((if_neg (by decide)).trans (n3))))))), rfl, rfl⟩, Fz.keep, W35.keptL kz, S.lt, by rw [S.dep]; omega, by omega, by push_cast; omega, hI36⟩
          rw [List.mem_singleton.mp hb] at e ⊢
          rw [hoI4] at e; cases e
          exact hI436
        · refine whold H' (of_decide_eq_true rfl) (of_decide_eq_true rfl) Fc W31 hix hxk hq hpu hpsh hpl (fun t2 h32 tk32 k32 => ?_)
          have W32 := W31.keptS k32 (by simp)
          have F32 := Fr.kept Fc k32 (by simp) (by simp)
          have hI32 := k32 _ _ (by simp) hI31
          have hI432 := k32 _ _ (by simp) hI431
          have hkg32 := F32.keep
          obtain ⟨own32, N32, ho32⟩ := snap g' L' h32
          clear Fc Nc kk
          (try k_fold)
          repeat' (((fail_if_success (with_reducible show wpAny _ _ (call (.ref 246) _) _ _ _))); first | (k_unfold; (try dsimp only)) | (k_end; wrow_close) | walk1 | (dsimp only; walk1) | (leave1; walk_say "STEP leave1"; try dsimp only) | fail "no step")
          rename Fr g' _ _ _ => Fc
          rename News g' _ _ _ => Nc
          have kk := kept_all' hkg32 Fc (News.sub Nc fun p hp => (ho32 ▸ hp))
          refine thold H' (of_decide_eq_true rfl) (of_decide_eq_true rfl) Fc rfl rfl rfl (W32.keptL kk).T hix hxk hxs (W32.keptL kk).B.sub hq hpu hpsh hpl (fun t3 h33 tk33 F33 k33 => ?_)
          have W33 := (W32.keptL kk).keptL k33
          have hI33 := k33 _ _ (by simpa using hJf.1) (kk _ _ (by simpa using hJf.1) hI32)
          have hI433 := k33 _ _ (by simpa using hKf.1) (kk _ _ (by simpa using hKf.1) hI432)
          have hkg33 := F33.keep
          obtain ⟨own33, N33, ho33⟩ := snap g' L' h33
          clear Fc Nc kk
          (try k_fold)
          repeat' (((fail_if_success (with_reducible show wpAny _ _ (subscriptTail _ _ _ _) _ _ _)); (fail_if_success (with_reducible show wpAny _ _ (TurnEnd _ _ _ _ _ _ _) _ _ _))); first | (k_unfold; (try dsimp only)) | (k_end; wrow_close) | walk1 | (dsimp only; walk1) | (leave1; walk_say "STEP leave1"; try dsimp only) | fail "no step")
          · exact absurd ‹(psh.lacks xk != psh.lacks xk) = true› (by simp)
          · exact absurd (beq_iff_eq.mp ‹(psh.lacks xk == Str.ofString "") = true›) hpl
          rename Fr g' _ _ _ => Fz
          rename News g' _ _ _ => Nz
          have kz := kept_all' hkg33 Fz (News.sub Nz fun p hp => (ho33 ▸ hp))
          unfold TurnEnd
          dsimp only
          have hI36 := kz _ _ (by simpa using hJf.1) hI33
          have hI436 := kz _ _ (by simpa using hKf.1) hI433
          refine ⟨_, Fz.ns, fun b hb o e => ?_, _, _, i' + 1, ars, na, ta, c', ix, rfl, ⟨rfl, (if_neg (by decide)).trans ((if_neg (by decide)).trans ((if_neg (by decide)).trans ((if_neg (by decide)).trans ((if_neg (by decide)).trans (n2))))), (if_neg (by decide)).trans ((if_neg (by decide)).trans ((if_neg (by decide)).trans ((if_neg (by decide)).trans ((if_neg (by decide)).trans (n3))))), rfl, rfl⟩, Fz.keep, W33.keptL kz, hix, by omega, by omega, by push_cast; omega, hI36⟩
          rw [List.mem_singleton.mp hb] at e ⊢
          rw [hoI4] at e; cases e
          exact hI436
      · rintro mj s6 hn2 ⟨h, tk, i', ars, na, ta, c', ix, rfl, ⟨n1, n2, n3, n4, n5⟩, hgs2, hW2, hix, hdp, hc2, hi2, hI2x⟩
        have Fa := Fr.name (L' := L') (x := Str.ofString "here") (Fr.mk hn2 hgs2 hab) n4
        have F50 := Fr.name (L' := L') (x := Str.ofString "node") (v := .ref (na ix).nd) Fa ((if_neg (by decide)).trans n5)
        clear Fa Fl2 Nl2 kk
        obtain ⟨own50, N50, ho50⟩ := snap g' L' h
        (try dsimp only)
        repeat' (((fail_if_success (with_reducible show wpAny _ _ (getAttr _ _ _) _ _ _))); first | (k_unfold; (try dsimp only)) | (k_end; wrow_close) | walk1 | (dsimp only; walk1) | (leave1; walk_say "STEP leave1"; try dsimp only) | fail "no step")
        rename Fr g' _ _ _ => Fc
        rename News g' _ _ _ => Nc
        have kk := kept_all' hgs2 Fc (News.sub Nc fun p hp => (ho50 ▸ hp))
        have W50 := hW2.keptL kk
        have hI50 := kk _ _ (by simpa using hJf.1) hI2x
        have N188 : News g' L' _ [(188, tabObj ps)] := fun p hp => by rw [List.mem_singleton.mp hp]; exact ⟨W50.B.h8, (W50.B.fr 188 W50.B.inX.2).1, (W50.B.fr 188 W50.B.inX.2).2.1⟩
        have hf4 : 4 - (ars.1 ix).dep ≤ 4 := Nat.sub_le _ _
        have AR := W50.OT.arena (by omega)
        refine prop_of (te_all AR (4 - (ars.1 ix).dep) ix hix rfl) hix H' (Nat.lt_of_le_of_lt (Nat.add_le_add_left (Nat.mul_le_mul_left 40 hf4) _) (of_decide_eq_true rfl)) (Nat.lt_of_le_of_lt (Nat.add_le_add_right (Nat.add_le_add_left (Nat.mul_le_mul_left 400 hf4) _) _) (of_decide_eq_true rfl)) Fc N188 (.inr ⟨ps, rfl, W50.tr⟩) (W50.T.all W50.B.sub) (fun t51 s51 ha hh51 => ?_)
        have F51 := Fr.since Fc N188 ha
        obtain ⟨h51, tk51, gs51, rfl, k51, gr51⟩ := ha
        obtain ⟨ps', c188, e188, ht188, _⟩ := hh51
        have W51 := W50.tab k51 e188 ht188
        have hI51 := k51 _ _ (by simpa using Nat.ne_of_gt hJ8) hI50
        have hkg51 := F51.keep
        obtain ⟨own51, N51, ho51⟩ := snap g' L' h51
        clear Fc Nc kk N188
        (try k_fold)
        repeat' (((fail_if_success (with_reducible show wpAny _ _ (call (.ref 251) _) _ _ _))); first | (k_unfold; (try dsimp only)) | (k_end; wrow_close) | walk1 | (dsimp only; walk1) | (leave1; walk_say "STEP leave1"; try dsimp only) | fail "no step")
        rename Fr g' _ _ _ => Fc
        rename News g' _ _ _ => Nc
        have kk := kept_all' hkg51 Fc (News.sub Nc fun p hp => (ho51 ▸ hp))
        refine total_spec AR (4 - (ars.1 ix).dep) ix hix rfl H' (Nat.lt_of_le_of_lt (Nat.add_le_add_left (Nat.mul_le_mul_left 10 hf4) _) (of_decide_eq_true rfl)) (Nat.lt_of_le_of_lt (Nat.add_le_add_left (Nat.mul_le_mul_left 100 hf4) _) (of_decide_eq_true rfl)) Fc (W51.keptL kk).B.mod.mod (fun t52 h52 tk52 k52 => ?_)
        have W52 := (W51.keptL kk).keptS k52 (by simp)
        have F52 := Fr.kept Fc k52 (by simp) (by simp)
        have hI52 := k52 _ _ (by simp) (kk _ _ (by simpa using hJf.1) hI51)
        have hkg52 := F52.keep
        obtain ⟨own52, N52, ho52⟩ := snap g' L' h52
        clear Fc Nc kk
        (try k_fold)
        repeat' (((fail_if_success (with_reducible show wpAny _ _ (TurnEnd _ _ _ _ _ _ _) _ _ _))); first | (k_unfold; (try dsimp only)) | (k_end; wrow_close) | walk1 | (dsimp only; walk1) | (leave1; walk_say "STEP leave1"; try dsimp only) | fail "no step")
        · exact absurd rfl ‹((tot ars.1 (4 - (ars.1 ix).dep) ix : Nat) : Int) ≠ ((tot ars.1 (4 - (ars.1 ix).dep) ix : Nat) : Int)›
        rename Fr g' _ _ _ => Fz
        rename News g' _ _ _ => Nz
        have kz := kept_all' hkg52 Fz (News.sub Nz fun p hp => (ho52 ▸ hp))
        unfold TurnEnd
        dsimp only
        refine ⟨_, Fz.ns, fun b hb o e => ?_, _, _, gs51, i', ps', ars, na, ta, c', rfl, hgr.trans gr51, ⟨(if_neg (by decide)).trans ((if_neg (by decide)).trans n1), (if_neg (by decide)).trans ((if_neg (by decide)).trans n2), (if_neg (by decide)).trans ((if_neg (by decide)).trans n3)⟩, Fz.keep, (W52.keptL kz).dropX (fun b hb => .tail _ hb) (by simp) (by simp), by omega, by push_cast; push_cast at hi2; omega⟩
        rw [List.mem_singleton.mp hb] at e ⊢
        rw [hoI] at e; cases e
        exact kz _ _ (by simpa using hJf.1) hI52
    · rintro mj s6 hn6 ⟨h, tk, gs, i, ps, ars, na, ta, c, rfl, hgr, ⟨n1, n2, n3⟩, hgs, hW, hc, hi⟩
      have Fa := Fr.name (L' := L') (x := Str.ofString "tree") (Fr.mk hn6 hgs Fl.above) n2
      have F60 := Fr.name (L' := L') (x := Str.ofString "root") (v := .ref a0.nd) Fa ((if_neg (by decide)).trans n3)
      clear Fa Fl Nl kk
      obtain ⟨own60, N60, ho60⟩ := snap g' L' h
      (try dsimp only)
      repeat' (((fail_if_success (with_reducible show wpAny _ _ (call (.ref 256) _) _ _ _))); first | (k_unfold; (try dsimp only)) | (k_end; wrow_close) | walk1 | (dsimp only; walk1) | (leave1; walk_say "STEP leave1"; try dsimp only) | fail "no step")
      rename Fr g' _ _ _ => Fc
      rename News g' _ _ _ => Nc
      have kk := kept_all' hgs Fc (News.sub Nc fun p hp => (ho60 ▸ hp))
      have W60 := hW.keptL kk
      have N188 : News g' L' _ [(188, tabObj ps)] := fun p hp => by rw [List.mem_singleton.mp hp]; exact ⟨W60.B.h8, (W60.B.fr 188 W60.B.inX.2).1, (W60.B.fr 188 W60.B.inX.2).2.1⟩
      rw [← W60.t0, ← W60.nd]
      refine alike_at (f := 4) (alike_all (W60.OT.arena (by omega)) W60.OT.clean 4 0 W60.OT.pos (by rw [W60.OT.d0])) H' (of_decide_eq_true rfl) (of_decide_eq_true rfl) Fc N188 (.inr ⟨ps, rfl, W60.tr⟩) (W60.T.all W60.B.sub) W60.B.mod.mod (W60.P.keptC fun b o _ e => W60.B.sub b o e) (fun s61 ha hh => ?_)
      have F61 := Fr.since Fc N188 ha
      obtain ⟨h61, tk61, gs61, rfl, k61, gr61⟩ := ha
      clear Fc Nc kk
      (try dsimp only)
      (try k_unfold)
      (try dsimp only)
      show GoodWG Challenge.rw_vk0009_01.row.claim _ _ _ s₁ (.ok (.ret (.bool true))) _
      obtain ⟨ps', c188, e188, ht188, _⟩ := hh
      have hold : OldK s₁.heap h61 := by
        refine ⟨fun b o e => ?_, fun b o e => ?_⟩
        · by_cases hb : b = 188
          · subst hb
            rw [h8] at e; cases e
            exact .inr (.inl ⟨⟨192, code192, _, KX _ _ h192, rfl, rfl, rfl⟩, rfl, #[], ps', rfl, by simpa using e188⟩)
          · exact .inl (F61.keep b o (hgg ▸ hideAll_get _ e (by simpa using hb)))
        · by_cases hb : b = 188
          · subst hb; exact ⟨_, e188⟩
          · exact ⟨o, F61.keep b o (hgg ▸ hideAll_get _ e (by simpa using hb))⟩
      refine' ⟨.inl ⟨.bool true, .bool true, [], rfl, raisesW_false ?gn1, .bool true, postW_of (X := true) end_shape (end_post _) rfl, fun _ => ⟨.nil, by simp⟩⟩, hold, rfl, (hgr.trans gr61).all (by rw [hg]; intro y hy; simp at hy)⟩
      case gn1 => wrow_none_raised
end
end Mine
namespace Mine
theorem fresh_W0 : True := by
  w_top off
  trivial
end Mine
theorem PySem.Challenge.cw_vk0009_01_holds : PySem.Challenge.rw_vk0009_01.Holds := by
  exact Mine.law_holds
