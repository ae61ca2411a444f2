import PyProof.Rows.All
import Wide.All
import OpenK.AllK
import Wide.FinOn
import PySem.Challenge.RW_wo0010_01
set_option Elab.async false

section
open PySem PySem.W PyProof.Rows
namespace Mine
set_option maxRecDepth 100000 in
set_option maxHeartbeats 8000000 in
open_top hd for PySem.Challenge.rw_wo0010_01
end Mine

end

namespace Mine
theorem walk_top_off : True := by
  w_top off
  trivial
end Mine

section
open PySem PySem.W PyProof.Rows PySem.Calls
set_option maxRecDepth 100000
namespace Mine

abbrev NoE : Value → Shared → Prop := fun _ _ => False
abbrev Led := List (Addr × Obj)
def Holds (h : Heap) (own : Led) : Prop := ∀ p ∈ own, h.get? p.1 = some p.2
theorem Holds.nil {h : Heap} : Holds h [] := fun _ x => nomatch x
theorem Holds.cons {h : Heap} {a : Addr} {o : Obj} {own : Led} (e : h.get? a = some o) (x : Holds h own) : Holds h ((a, o) :: own) := fun p hp => by
  rcases List.mem_cons.mp hp with rfl | hp
  · exact e
  · exact x p hp

structure Side (s s' : Shared) : Prop where
  os : s'.os = s.os
  bare : AllBare s.gens → AllBare s'.gens
theorem Side.refl (s : Shared) : Side s s := ⟨rfl, id⟩
theorem Side.trans {a b c : Shared} (x : Side a b) (y : Side b c) : Side a c := ⟨y.os.trans x.os, fun h => y.bare (x.bare h)⟩
theorem Side.same {s : Shared} {h : Heap} {t : Nat} : Side s { s with heap := h, toks := t } := ⟨rfl, id⟩

/-- what a pure call gives: all old objects stand -/
structure Ext (s s' : Shared) : Prop where
  keep : ∀ b o, s.heap.get? b = some o → s'.heap.get? b = some o
  side : Side s s'
theorem Ext.trans {a b c : Shared} (x : Ext a b) (y : Ext b c) : Ext a c := ⟨fun b' o e => y.keep b' o (x.keep b' o e), x.side.trans y.side⟩
theorem Ext.refl (s : Shared) : Ext s s := ⟨fun _ _ e => e, .refl s⟩

section
variable {h₀ h h' : Heap} {L : Addr} {m : Str → Option Value} {news : Led}
theorem fr_ext {s s' : Shared} (F : Fr h₀ L s.heap m) (x : Ext s s') : Fr h₀ L s'.heap m := F.keeps x.keep
theorem news_ext {s s' : Shared} (N : News h₀ L s.heap news) (x : Ext s s') : News h₀ L s'.heap news := fun p hp => ⟨x.keep _ _ (N p hp).1, (N p hp).2⟩
theorem fr_eqm {m' : Str → Option Value} (F : Fr h₀ L h m) (e : m = m') : Fr h₀ L h m' := e ▸ F
theorem news_sub {news' : Led} (N : News h₀ L h news) (hs : ∀ p ∈ news', p ∈ news) : News h₀ L h news' := fun p hp => N p (hs p hp)
theorem fr_none {a : Addr} (F : Fr h₀ L h m) (e : h.objs.size ≤ a) : h₀.get? a = none := by
  cases q : h₀.get? a with
  | none => rfl
  | some o => exact absurd (Heap.lt_size (F.keep _ _ q)) (Nat.not_lt.mpr e)
theorem fr_ne {a : Addr} (F : Fr h₀ L h m) (e : h.objs.size ≤ a) : a ≠ L := fun q => absurd F.ns.lt (by rw [← q]; exact Nat.not_lt.mpr e)
theorem news_lt (N : News h₀ L h news) : ∀ p ∈ news, p.1 < h.objs.size := fun p hp => Heap.lt_size (N p hp).1
end

theorem call_plainK {prog : Program} {w : World} {A : Around} {s : Shared} {f : Addr} {vals : List Value} {Q E : Value → Shared → Prop} {K : Frag}
  {oc : Value} {od : Option Addr} {osl : Array (Option Value)} {name : Str} {params : Arguments} {body : List Stmt} {scope : Scope} {pm cd doc : Value} (binds : List (Str × Value))
  (X : K.In s.heap) (hlim : s.heap.NoLimit) (hroom : A.depth < recursionLimit)
  (ho : K.lookup f = some ⟨oc, od, .func (docDef name params body scope pm cd doc), osl⟩)
  (hcd : codeIn K cd name = true)
  (hbind : bindArgs (docDef name params body scope pm cd doc) ⟨vals, []⟩ = pure binds)
  (hloc : (binds.all fun x => decide (scope.names.lookup x.1 = some .local)) = true)
  (h : ∀ h₁, Fr s.heap s.heap.objs.size h₁ (fun x => binds.reverse.lookup x) → wpAny (model prog w) (A.deeper (envOf name scope s.heap.objs.size f cd)) (execs body (envOf name scope s.heap.objs.size f cd))
     (fun fl s' => Q (match fl with | .ret v => v | _ => .none) s') NoE { s with heap := h₁, toks := s.toks + binds.length })
  (hco : scope.isCoroutine = false := by rfl) (hgen : scope.isGenerator = false := by rfl) (hk : scope.kind = .function := by rfl)
  (hcell : ∀ x ∈ scope.names, x.2 ≠ .cell := by decide) :
  wpAny (model prog w) A (call (.ref f) vals) Q E s := by
  refine wpAny_call ?_
  exact call_plain_ret hroom (X _ _ ho) rfl hlim (codeRec_of X hcd) hbind (locs hloc) h hco hgen hk hcell

structure Moves (own : Led) (s s' : Shared) : Prop where
  keep : ∀ b o, b ∉ own.map (·.1) → s.heap.get? b = some o → s'.heap.get? b = some o
  side : Side s s'

/-- an iterator at work: n items, what an item is (its own new objects beside it), how it stands after j items with its ledger -/
structure Iter (prog : Program) (w : World) (A : Around) (B : Heap → Prop) (G : Shared → Shared → Prop) (tgt : PySem.Expr) (it : Value) (n : Nat)
    (Item : Nat → Value → Led → Prop) (St : Nat → Led → Shared → Prop) : Prop where
  next : ∀ j own (s : Shared) (Q : Value → Shared → Prop) (E : Value → Shared → Prop), j < n → St j own s → B s.heap →
    (∀ v extra own' s', Item j v extra → St (j + 1) own' s' → Holds s'.heap extra → (∀ p ∈ extra, s.heap.objs.size ≤ p.1 ∧ p.1 ∉ own'.map (·.1)) →
      (∀ p ∈ own', p.1 ∈ own.map (·.1) ∨ s.heap.objs.size ≤ p.1) → Moves own s s' → Q v s') →
    wpAny (model prog w) A (pyNext it) (fun r s₁ => ∃ v, r = some v ∧ wpAny (model prog w) A (letOwnedTupleGo tgt it v) (fun _ s₂ => Q v s₂) E s₁) E s
  done : ∀ own (s : Shared) (Q : Shared → Prop) (E : Value → Shared → Prop), St n own s → B s.heap → (∀ s', Moves own s s' → Q s') →
    wpAny (model prog w) A (pyNext it) (fun r s₁ => r = none ∧ Q s₁) E s
  keep : ∀ j own (s s' : Shared), St j own s → Holds s'.heap own → G s s' → St j own s'
  holds : ∀ j own s, St j own s → Holds s.heap own
  self : ∀ j own (s : Shared) (Q : Value → Shared → Prop) (E : Value → Shared → Prop), St j own s → Q it s → wpAny (model prog w) A (pyIter it) Q E s

theorem moves_fr {h₀ : Heap} {L : Addr} {m : Str → Option Value} {own : Led} {s s' : Shared} (F : Fr h₀ L s.heap m) (M : Moves own s s') (N : News h₀ L s.heap own) : Fr h₀ L s'.heap m :=
  ⟨F.ns.at' fun o e => M.keep L o (fun q => by obtain ⟨p, hp, e'⟩ := List.mem_map.mp q; exact (N p hp).2.1 e') e,
   fun b o e => M.keep b o (fun q => by obtain ⟨p, hp, e'⟩ := List.mem_map.mp q; have := (N p hp).2.2; rw [e', e] at this; cases this) (F.keep b o e), F.above⟩
theorem moves_news {h₀ : Heap} {L : Addr} {own news : Led} {s s' : Shared} (N : News h₀ L s.heap news) (M : Moves own s s') (off : OwnOff own (news.map (·.1))) : News h₀ L s'.heap news := fun p hp =>
  ⟨M.keep _ _ (fun q => by obtain ⟨r, hr, e'⟩ := List.mem_map.mp q; exact off r hr p.1 (List.mem_map_of_mem hp) e') (N p hp).1, (N p hp).2⟩

/-- after a turn of a loop -/
def TurnPost (h₀ : Heap) (L : Addr) (J : (Str → Option Value) → Led → Prop) (own : Led) (G : Shared → Shared → Prop) (s₁ : Shared) (Q : Flow → Shared → Prop) (f : Flow) (s₃ : Shared) : Prop :=
  match f with
  | .ret v => Q (.ret v) s₃
  | .brk => Q .next s₃
  | _ => ∃ m' news', Fr h₀ L s₃.heap m' ∧ News h₀ L s₃.heap (news' ++ own) ∧ OwnOff own (news'.map (·.1)) ∧ J m' news' ∧ Side s₁ s₃ ∧ G s₁ s₃

theorem ownOff_step {h₀ : Heap} {L : Addr} {own own' news : Led} {s : Shared} (N : News h₀ L s.heap news) (off : OwnOff own (news.map (·.1)))
    (hg : ∀ p ∈ own', p.1 ∈ own.map (·.1) ∨ s.heap.objs.size ≤ p.1) : OwnOff own' (news.map (·.1)) := fun p hp b hb e => by
  rcases hg p hp with q | q
  · obtain ⟨r, hr, e'⟩ := List.mem_map.mp q
    exact off r hr b hb (e'.trans e)
  · obtain ⟨r, hr, e'⟩ := List.mem_map.mp hb
    have h1 := Heap.lt_size (N r hr).1
    have h2 : r.1 = p.1 := e'.trans e.symm
    rw [h2] at h1
    exact absurd h1 (Nat.not_lt.mpr q)
theorem news_own {h₀ : Heap} {L : Addr} {m : Str → Option Value} {own own' : Led} {s s' : Shared} (F : Fr h₀ L s.heap m) (N : News h₀ L s.heap own) (hh : Holds s'.heap own')
    (hg : ∀ p ∈ own', p.1 ∈ own.map (·.1) ∨ s.heap.objs.size ≤ p.1) : News h₀ L s'.heap own' := fun p hp => by
  refine ⟨hh p hp, ?_⟩
  rcases hg p hp with q | q
  · obtain ⟨r, hr, e'⟩ := List.mem_map.mp q
    rw [← e']; exact (N r hr).2
  · exact ⟨fr_ne F q, fr_none F q⟩
theorem news_app {h₀ h : Heap} {L : Addr} {a b : Led} (x : News h₀ L h a) (y : News h₀ L h b) : News h₀ L h (a ++ b) := fun p hp => (List.mem_append.mp hp).elim (x p) (y p)
theorem news_l {h₀ h : Heap} {L : Addr} {a b : Led} (x : News h₀ L h (a ++ b)) : News h₀ L h a := fun p hp => x p (List.mem_append_left _ hp)
theorem news_r {h₀ h : Heap} {L : Addr} {a b : Led} (x : News h₀ L h (a ++ b)) : News h₀ L h b := fun p hp => x p (List.mem_append_right _ hp)

section
variable {prog : Program} {w : World} {A : Around} {B : Heap → Prop} {G : Shared → Shared → Prop} {tgt : PySem.Expr} {it : Value} {n : Nat} {Item : Nat → Value → Led → Prop} {St : Nat → Led → Shared → Prop}
  {E : Value → Shared → Prop} {s : Shared} {env : Env} {h₀ : Heap} {body : List Stmt} {Q : Flow → Shared → Prop} {m : Str → Option Value} {news own : Led}

theorem for_walk (I : Iter prog w A B G tgt it n Item St) (J : Nat → (Str → Option Value) → Led → Prop) (hB : ∀ j h m news, J j m news → Fr h₀ env.locals h m → News h₀ env.locals h news → B h)
    (st : St 0 own s) (F : Fr h₀ env.locals s.heap m) (N : News h₀ env.locals s.heap (news ++ own)) (off : OwnOff own (news.map (·.1))) (j0 : J 0 m news)
    (turn : ∀ j v extra own m news s₁, j < n → Item j v extra → J j m news → Fr h₀ env.locals s₁.heap m → News h₀ env.locals s₁.heap (extra ++ news ++ own) → OwnOff own (news.map (·.1)) → OwnOff own (extra.map (·.1)) →
      (∀ p ∈ extra, ∀ q ∈ news, q.1 < p.1) → Side s s₁ →
      wpAny (model prog w) A (assign tgt env v) (fun _ s₂ => wpAny (model prog w) A (execs body env) (TurnPost h₀ env.locals (J (j + 1)) own G s₁ Q) NoE s₂) NoE s₁)
    (done : ∀ m news s', J n m news → Fr h₀ env.locals s'.heap m → News h₀ env.locals s'.heap news → Side s s' → Q .next s') :
    codeAny (model prog w) A (.forLoop tgt it body [] env) (fun r s' => match r with | .ok f => Q f s' | .error e => E e s') s := by
  refine codeAny_forLoop_any
    (fun k s' => ∃ j m' news' own', k = n - j ∧ j ≤ n ∧ St j own' s' ∧ Fr h₀ env.locals s'.heap m' ∧ News h₀ env.locals s'.heap (news' ++ own') ∧ OwnOff own' (news'.map (·.1)) ∧ J j m' news' ∧ Side s s') ?_ n
    ⟨0, m, news, own, rfl, Nat.zero_le _, st, F, N, off, j0, .refl s⟩
  rintro k s' ⟨j, m', news', own', rfl, hj, st', F', N', off', hJ, hS⟩
  by_cases hlt : j < n
  · refine wpAny_mono (I.next j own' s' (fun v s₁ => wpAny (model prog w) A (assign tgt env v) (fun _ s₂ => wpAny (model prog w) A (execs body env) (fun f s₃ => match f with
            | .next | .cont => ∃ k', k' < n - j ∧ ∃ j m' news' own', k' = n - j ∧ j ≤ n ∧ St j own' s₃ ∧ Fr h₀ env.locals s₃.heap m' ∧ News h₀ env.locals s₃.heap (news' ++ own') ∧ OwnOff own' (news'.map (·.1)) ∧ J j m' news' ∧ Side s s₃
            | .brk => Q .next s₃
            | .ret v => Q (.ret v) s₃) NoE s₂) NoE s₁) NoE hlt st' (hB _ _ _ _ hJ F' (news_l N')) fun v extra own'' s₁ hit st₁ hx hxs hg M => ?_) (fun r s₁ hr => ?_) (fun _ _ x => x.elim)
    · have N₁ : News h₀ env.locals s₁.heap news' := moves_news (news_l N') M off'
      have F₁ : Fr h₀ env.locals s₁.heap m' := moves_fr F' M (news_r N')
      have No : News h₀ env.locals s₁.heap own'' := news_own F' (news_r N') (I.holds _ _ _ st₁) hg
      have Nx : News h₀ env.locals s₁.heap extra := fun p hp => ⟨hx p hp, fr_ne F' (hxs p hp).1, fr_none F' (hxs p hp).1⟩
      have off₁ := ownOff_step (news_l N') off' hg
      have offx : OwnOff own'' (extra.map (·.1)) := fun p hp b hb e => by
        obtain ⟨r, hr, e'⟩ := List.mem_map.mp hb
        exact (hxs r hr).2 (List.mem_map.mpr ⟨p, hp, e.trans e'.symm⟩)
      have hlts : ∀ p ∈ extra, ∀ q ∈ news', q.1 < p.1 := fun p hp q hq => Nat.lt_of_lt_of_le (Heap.lt_size (news_l N' q hq).1) (hxs p hp).1
      refine wpAny_mono (turn j v extra own'' m' news' s₁ hlt hit hJ F₁ (news_app (news_app Nx N₁) No) off₁ offx hlts (hS.trans M.side)) (fun _ s₂ h₂ => wpAny_mono h₂ (fun f s₃ h₃ => ?_) fun _ _ x => x) fun _ _ x => x
      have fin : TurnPost h₀ env.locals (J (j + 1)) own'' G s₁ Q .next s₃ → ∃ k', k' < n - j ∧ ∃ j m' news' own', k' = n - j ∧ j ≤ n ∧ St j own' s₃ ∧ Fr h₀ env.locals s₃.heap m' ∧ News h₀ env.locals s₃.heap (news' ++ own') ∧ OwnOff own' (news'.map (·.1)) ∧ J j m' news' ∧ Side s s₃ := by
        rintro ⟨m₂, news₂, F₃, N₃, off₃, hJ₃, hS₃, hG₃⟩
        exact ⟨n - (j + 1), by omega, j + 1, m₂, news₂, own'', rfl, hlt, I.keep _ _ _ _ st₁ (fun p hp => (news_r N₃ p hp).1) hG₃, F₃, N₃, off₃, hJ₃, (hS.trans M.side).trans hS₃⟩
      cases f with
      | next => exact fin h₃
      | cont => exact fin h₃
      | brk => exact h₃
      | ret v => exact h₃
    · obtain ⟨v, rfl, hv⟩ := hr
      exact wpAny_mono hv (fun _ s₂ h₂ => wpAny_mono h₂ (fun _ s₃ h₃ => wpAny_mono h₃ (fun _ _ y => y) fun _ _ x => x.elim) fun _ _ x => x.elim) fun _ _ x => x.elim
  · obtain rfl : j = n := by omega
    refine wpAny_mono (I.done own' s' (fun s₁ => Q .next s₁) NoE st' (hB _ _ _ _ hJ F' (news_l N')) fun s₁ M => ?_) (fun r s₁ hr => ?_) fun _ _ x => x.elim
    · exact done m' news' s₁ hJ (moves_fr F' M (news_r N')) (moves_news (news_l N') M off') (hS.trans M.side)
    · obtain ⟨rfl, hq⟩ := hr
      exact wpAny_execs_nil hq

/-- what one element of a list comprehension leaves behind -/
def CompPost (h₀ : Heap) (C : Addr) (led : Led) (G : Shared → Shared → Prop) (s₁ : Shared) (P : Prop) (s₄ : Shared) : Prop :=
  P ∧ (∃ m', Fr h₀ C s₄.heap m') ∧ News h₀ C s₄.heap led ∧ Side s₁ s₄ ∧ G s₁ s₄

theorem compLoop_any {R : Result → Shared → Prop} {elt iter : PySem.Expr} {ifs : List PySem.Expr} {scope : Scope} {pos : Pos} {acc : Value} (J : Nat → Shared → Prop)
    (turn : ∀ n s, J n s → wpAny (model prog w) A (pyNext it) (fun r s₁ => match r with
      | none => R (.ok .next) s₁
      | some v => wpAny (model prog w) A (letOwnedTupleGo tgt it v) (fun _ s₁' => wpAny (model prog w) A (assign tgt env v) (fun _ s₂ =>
          wpAny (model prog w) A (forIn ifs true fun c r => if r = true then do let ok ← isTrue c env (eval c env); pure (ForInStep.yield ok) else pure (ForInStep.yield r)) (fun ok s₃ =>
            if ok = true then wpAny (model prog w) A (eval elt env) (fun x s₄ =>
              wpAny (model prog w) A (call (.builtin "list.append") [acc, x]) (fun _ s₅ => ∃ m, m < n ∧ J m s₅) NoE s₄) NoE s₃
            else ∃ m, m < n ∧ J m s₃) NoE s₂) NoE s₁') NoE s₁) NoE s)
    (n : Nat) (h : J n s) : codeAny (model prog w) A (.compLoop (.ListComp elt [⟨tgt, iter, ifs, 0⟩] scope pos) 0 it acc env) R s := by
  refine codeAny_loop rfl J (fun n s hI => ?_) n h
  show wpAny _ A ((compTurn (.ListComp elt [⟨tgt, iter, ifs, 0⟩] scope pos) 0 it acc env).onRaise (fun x => do noteFrame x env; theTreesLotGoes x)) _ _ s
  refine wpAny_noted (wpAny_noRaise ?_)
  rw [compTurn_list]
  refine wpAny_bind (wpAny_standAt (wpAny_bind (wpAny_mono (turn n s hI) (fun r s₁ h₁ => ?_) fun _ _ h' => h')))
  cases r with
  | none => exact wpAny_pure h₁
  | some v =>
    refine wpAny_bind (wpAny_mono h₁ (fun _ s₁' h₁' => ?_) fun _ _ h' => h')
    refine wpAny_bind (wpAny_mono h₁' (fun _ s₂ h₂ => wpAny_bind (wpAny_mono h₂ (fun ok s₃ h₃ => ?_) fun _ _ h' => h')) fun _ _ h' => h')
    cases ok with
    | false => exact wpAny_pure ⟨rfl, h₃⟩
    | true =>
      exact wpAny_bind (wpAny_bind (wpAny_mono h₃ (fun x s₄ h₄ => wpAny_bind (wpAny_mono h₄ (fun _ s₅ h₅ => wpAny_pure (wpAny_pure ⟨rfl, h₅⟩)) fun _ _ h' => h')) fun _ _ h' => h'))

theorem comp_block {RR : Value → Addr → Result → Shared → Prop} {elt iter : PySem.Expr} {ifs : List PySem.Expr} {scope : Scope} {cl : List (Str × Addr)} {pos : Pos}
    (I : Iter prog w A B G tgt it n Item St) (hB : ∀ h, (∀ b o, h₀.get? b = some o → h.get? b = some o) → Holds h news → B h) (hGr : ∀ a, G a a) (hGh : ∀ a b h t, G a b → G a { b with heap := h, toks := t })
    (hsz : n ≤ sizeLine) (hcell : ∀ y ∈ scope.names, y.2 ≠ .cell) (hkind : scope.kind = .function)
    (J : Nat → List Value → Prop) (st : St 0 own s) (F : Fr h₀ env.locals s.heap m) (N : News h₀ env.locals s.heap (news ++ own)) (off : OwnOff own (news.map (·.1))) (j0 : J 0 [])
    (hJn : ∀ j ys, J j ys → ys.length ≤ j)
    (turn : ∀ j v extra rest ys C mC s₁, j < n → Item j v extra → J j ys → Fr h₀ C s₁.heap mC → News h₀ C s₁.heap (extra ++ news ++ rest) → Side s s₁ →
      wpAny (model prog w) A (assign tgt (compEnvC scope cl C env) v) (fun _ s₂ =>
        wpAny (model prog w) A (forIn ifs true fun c r => if r = true then do let ok ← isTrue c (compEnvC scope cl C env) (eval c (compEnvC scope cl C env)); pure (ForInStep.yield ok) else pure (ForInStep.yield r)) (fun ok s₃ =>
          if ok = true then wpAny (model prog w) A (eval elt (compEnvC scope cl C env)) (fun y s₄ => CompPost h₀ C (news ++ rest) G s₁ (J (j + 1) (ys ++ [y])) s₄) NoE s₃
          else CompPost h₀ C (news ++ rest) G s₁ (J (j + 1) ys) s₃) NoE s₂) NoE s₁)
    (done : ∀ D C ys s' mC, J n ys → Fr h₀ env.locals s'.heap m → News h₀ env.locals s'.heap ((D, LCg.lst ys) :: news) → (∀ p ∈ news, p.1 < D) → s'.heap.Ns C mC → C ≠ D → C ≠ env.locals → h₀.get? C = none → (∀ p ∈ news, p.1 ≠ C) → Side s s' → RR (.ref D) C (.ok .next) s') :
    wpAny (model prog w) A (newList []) (fun acc s₃ => wpAny (model prog w) A (newFunctionEnv scope env.globals cl [] env.qual none .none (some env)) (fun cenv s₄ =>
      codeAny (model prog w) A (.compStart (.ListComp elt [⟨tgt, iter, ifs, 0⟩] scope pos) 0 it acc { cenv with scope := relabel scope env }) (RR acc cenv.locals) s₄) E s₃) E s := by
  refine wpAny_newObj_type (wpAny_newFunctionEnv hcell (by intro y hy; simp at hy) (fun h₁ hns₁ hsb₁ => ?_) hkind)
  dsimp only at hns₁ hsb₁ ⊢
  generalize hH2 : s.heap.push { cls := .type "list", dict := none, data := .seq ([] : List Value).toArray } = H2 at hns₁ hsb₁ ⊢
  have hC : H2.objs.size = s.heap.objs.size + 1 := by rw [← hH2, Heap.size_push]
  have hDC : s.heap.objs.size ≠ H2.objs.size := by rw [hC]; exact Nat.ne_of_lt (Nat.lt_succ_self _)
  have below : ∀ b, b < s.heap.objs.size → b ≠ H2.objs.size ∧ b ≠ s.heap.objs.size := fun b hb => ⟨by rw [hC]; exact Nat.ne_of_lt (Nat.lt_succ_of_lt hb), Nat.ne_of_lt hb⟩
  have old : ∀ b o, s.heap.get? b = some o → h₁.get? b = some o := fun b o e => hsb₁.extBut b o (below b (Heap.lt_size e)).1 (Heap.get?_push_of_some _ (hH2 ▸ Heap.get?_push_of_some _ e))
  have hacc : h₁.get? s.heap.objs.size = some (LCg.lst []) := hsb₁.extBut _ _ hDC (Heap.get?_push_of_some _ (hH2 ▸ Heap.get?_push_size _ rfl))
  have F₁ : Fr h₀ env.locals h₁ m := F.keeps old
  obtain ⟨oL, hoL, nL⟩ := LCg.ns_obj F.ns
  have hLlt : env.locals < s.heap.objs.size := F.ns.lt
  have hC₀ : h₀.get? H2.objs.size = none := fr_none F (by rw [hC]; exact Nat.le_succ _)
  have hD₀ : h₀.get? s.heap.objs.size = none := fr_none F (Nat.le_refl _)
  have hL₀ : h₀.get? env.locals = none := by
    cases q : h₀.get? env.locals with
    | none => rfl
    | some o => exact absurd (Nat.lt_of_lt_of_le (Heap.lt_size q) F.above) (Nat.lt_irrefl _)
  have FC : Fr h₀ H2.objs.size h₁ (fun x => ([] : List (Str × Value)).reverse.lookup x) := ⟨hns₁, fun b o e => old b o (F.keep b o e), Nat.le_trans F.above (by rw [hC]; exact Nat.le_trans (Nat.le_of_lt hLlt) (Nat.le_succ _))⟩
  -- the whole ledger seen from the block's own frame
  have NC : News h₀ H2.objs.size h₁ (((s.heap.objs.size, LCg.lst []) :: (env.locals, oL) :: news) ++ own) := fun p hp => by
    rcases List.mem_append.mp hp with hp | hp
    · rcases List.mem_cons.mp hp with rfl | hp
      · exact ⟨hacc, hDC, hD₀⟩
      · rcases List.mem_cons.mp hp with rfl | hp
        · exact ⟨old _ _ hoL, (below _ hLlt).1, hL₀⟩
        · exact ⟨old _ _ (news_l N p hp).1, (below _ (Heap.lt_size (news_l N p hp).1)).1, (news_l N p hp).2.2⟩
    · exact ⟨old _ _ (news_r N p hp).1, (below _ (Heap.lt_size (news_r N p hp).1)).1, (news_r N p hp).2.2⟩
  have offC : OwnOff own (((s.heap.objs.size, LCg.lst []) :: (env.locals, oL) :: news).map (·.1)) := fun p hp b hb e => by
    rcases List.mem_cons.mp hb with rfl | hb
    · exact (below _ (Heap.lt_size (news_r N p hp).1)).2 e
    · rcases List.mem_cons.mp hb with rfl | hb
      · exact (news_r N p hp).2.1 e
      · exact off p hp b hb e
  have loop : ∀ s₃ : Shared, s₃ = { s with heap := h₁, toks := s.toks + ([] : List (Str × Value)).length } →
      codeAny (model prog w) A (.compLoop (.ListComp elt [⟨tgt, iter, ifs, 0⟩] scope pos) 0 it (.ref s.heap.objs.size) (compEnvC scope cl H2.objs.size env)) (RR (.ref s.heap.objs.size) H2.objs.size) s₃ := by
    rintro s₃ rfl
    refine compLoop_any
      (fun k s' => ∃ j ys own' mC, k = n - j ∧ j ≤ n ∧ St j own' s' ∧ Fr h₀ H2.objs.size s'.heap mC ∧ News h₀ H2.objs.size s'.heap (((s.heap.objs.size, LCg.lst ys) :: (env.locals, oL) :: news) ++ own') ∧
        OwnOff own' (((s.heap.objs.size, LCg.lst ys) :: (env.locals, oL) :: news).map (·.1)) ∧ J j ys ∧ Side s s') ?_ n
      ⟨0, [], own, _, rfl, Nat.zero_le _, I.keep _ _ _ _ st (fun p hp => old _ _ (I.holds _ _ _ st p hp)) (hGh _ _ _ _ (hGr _)), FC, NC, offC, j0, .same⟩
    rintro k s' ⟨j, ys, own', mC, rfl, hj, st', F', N', off', hJ, hS⟩
    by_cases hlt : j < n
    · refine wpAny_mono (I.next j own' s' (fun v s₁ => wpAny (model prog w) A (assign tgt (compEnvC scope cl H2.objs.size env) v) (fun _ s₂ =>
          wpAny (model prog w) A (forIn ifs true fun c r => if r = true then do let ok ← isTrue c (compEnvC scope cl H2.objs.size env) (eval c (compEnvC scope cl H2.objs.size env)); pure (ForInStep.yield ok) else pure (ForInStep.yield r)) (fun ok s₃ =>
            if ok = true then wpAny (model prog w) A (eval elt (compEnvC scope cl H2.objs.size env)) (fun x s₄ =>
              wpAny (model prog w) A (call (.builtin "list.append") [.ref s.heap.objs.size, x]) (fun _ s₅ => ∃ k', k' < n - j ∧ ∃ j ys own' mC, k' = n - j ∧ j ≤ n ∧ St j own' s₅ ∧ Fr h₀ H2.objs.size s₅.heap mC ∧ News h₀ H2.objs.size s₅.heap (((s.heap.objs.size, LCg.lst ys) :: (env.locals, oL) :: news) ++ own') ∧
        OwnOff own' (((s.heap.objs.size, LCg.lst ys) :: (env.locals, oL) :: news).map (·.1)) ∧ J j ys ∧ Side s s₅) NoE s₄) NoE s₃
            else ∃ k', k' < n - j ∧ ∃ j ys own' mC, k' = n - j ∧ j ≤ n ∧ St j own' s₃ ∧ Fr h₀ H2.objs.size s₃.heap mC ∧ News h₀ H2.objs.size s₃.heap (((s.heap.objs.size, LCg.lst ys) :: (env.locals, oL) :: news) ++ own') ∧
        OwnOff own' (((s.heap.objs.size, LCg.lst ys) :: (env.locals, oL) :: news).map (·.1)) ∧ J j ys ∧ Side s s₃) NoE s₂) NoE s₁) NoE hlt st' (hB _ F'.keep fun p hp => (news_l N' p (.tail _ (.tail _ hp))).1) fun v extra own'' s₁ hit st₁ hx hxs hg M => ?_) (fun r s₁ hr => ?_) (fun _ _ x => x.elim)
      · have N₁ : News h₀ H2.objs.size s₁.heap ((s.heap.objs.size, LCg.lst ys) :: (env.locals, oL) :: news) := moves_news (news_l N') M off'
        have FC₁ : Fr h₀ H2.objs.size s₁.heap mC := moves_fr F' M (news_r N')
        have No : News h₀ H2.objs.size s₁.heap own'' := news_own F' (news_r N') (I.holds _ _ _ st₁) hg
        have Nx : News h₀ H2.objs.size s₁.heap extra := fun p hp => ⟨hx p hp, fr_ne F' (hxs p hp).1, fr_none F' (hxs p hp).1⟩
        have off₁ := ownOff_step (news_l N') off' hg
        let rest : Led := (s.heap.objs.size, LCg.lst ys) :: (env.locals, oL) :: own''
        have Nall : News h₀ H2.objs.size s₁.heap (extra ++ news ++ rest) := news_app (news_app Nx fun p hp => N₁ p (List.mem_cons_of_mem _ (List.mem_cons_of_mem _ hp))) fun p hp => by
          rcases List.mem_cons.mp hp with rfl | hp
          · exact N₁ _ (.head _)
          · rcases List.mem_cons.mp hp with rfl | hp
            · exact N₁ _ (.tail _ (.head _))
            · exact No p hp
        have back : ∀ (s₃ : Shared), News h₀ H2.objs.size s₃.heap (news ++ rest) → News h₀ H2.objs.size s₃.heap (((s.heap.objs.size, LCg.lst ys) :: (env.locals, oL) :: news) ++ own'') := fun s₃ X p hp => by
          refine X p ?_
          rcases List.mem_append.mp hp with hp | hp
          · rcases List.mem_cons.mp hp with rfl | hp
            · exact List.mem_append_right _ (.head _)
            · rcases List.mem_cons.mp hp with rfl | hp
              · exact List.mem_append_right _ (.tail _ (.head _))
              · exact List.mem_append_left _ hp
          · exact List.mem_append_right _ (.tail _ (.tail _ hp))
        refine wpAny_mono (turn j v extra rest ys H2.objs.size mC s₁ hlt hit hJ FC₁ Nall (hS.trans M.side)) (fun _ s₂ h₂ => wpAny_mono h₂ (fun ok s₃ h₃ => ?_) fun _ _ x => x) fun _ _ x => x
        cases ok with
        | false =>
          obtain ⟨hJ', ⟨m', F₃⟩, N₃, hS₃, hG₃⟩ := h₃
          exact ⟨n - (j + 1), by omega, j + 1, ys, own'', m', rfl, hlt, I.keep _ _ _ _ st₁ (fun p hp => (N₃ p (List.mem_append_right _ (.tail _ (.tail _ hp)))).1) hG₃, F₃, back s₃ N₃, off₁, hJ', (hS.trans M.side).trans hS₃⟩
        | true =>
          refine wpAny_mono h₃ (fun y s₄ h₄ => ?_) fun _ _ x => x
          obtain ⟨hJ', ⟨m', F₄⟩, N₄, hS₄, hG₄⟩ := h₄
          have zD := N₄ (s.heap.objs.size, LCg.lst ys) (List.mem_append_right _ (.head _))
          have hyl := hJn _ _ hJ
          refine append_at (hsz := by show ys.toArray.size ≤ sizeLine; rw [List.size_toArray]; omega) zD.1 fun h₅ hs₅ hD₅ => ?_
          rw [LCg.lst_snoc] at hD₅
          have F₅ : Fr h₀ H2.objs.size h₅ m' := F₄.change hs₅ zD.2.1 zD.2.2
          have offD : ∀ p ∈ own'', p.1 ≠ s.heap.objs.size := fun p hp => off₁ p hp _ (.head _)
          have keepO : Holds h₅ own'' := fun p hp => hs₅.extBut _ _ (offD p hp) (N₄ p (List.mem_append_right _ (.tail _ (.tail _ hp)))).1
          have N₅ : News h₀ H2.objs.size h₅ (((s.heap.objs.size, LCg.lst (ys ++ [y])) :: (env.locals, oL) :: news) ++ own'') := fun p hp => by
            rcases List.mem_append.mp hp with hp | hp
            · rcases List.mem_cons.mp hp with rfl | hp
              · exact ⟨hD₅, zD.2⟩
              · have hne : p.1 ≠ s.heap.objs.size := by
                  rcases List.mem_cons.mp hp with rfl | hp
                  · exact Nat.ne_of_lt hLlt
                  · exact Nat.ne_of_lt (Heap.lt_size (news_l N p hp).1)
                have z := back s₄ N₄ p (List.mem_append_left _ (.tail _ hp))
                exact ⟨hs₅.extBut _ _ hne z.1, z.2⟩
            · have z := N₄ p (List.mem_append_right _ (.tail _ (.tail _ hp)))
              exact ⟨keepO p hp, z.2⟩
          exact ⟨n - (j + 1), by omega, j + 1, ys ++ [y], own'', m', rfl, hlt, I.keep _ _ _ _ st₁ keepO (hGh _ _ _ _ hG₄), F₅, N₅, off₁, hJ', ((hS.trans M.side).trans hS₄).trans .same⟩
      · obtain ⟨v, rfl, hv⟩ := hr
        exact hv
    · obtain rfl : j = n := by omega
      refine wpAny_mono (I.done own' s' (fun s₁ => RR (.ref s.heap.objs.size) H2.objs.size (.ok .next) s₁) NoE st' (hB _ F'.keep fun p hp => (news_l N' p (.tail _ (.tail _ hp))).1) fun s₁ M => ?_) (fun r s₁ hr => ?_) fun _ _ x => x.elim
      · have N₁ : News h₀ H2.objs.size s₁.heap ((s.heap.objs.size, LCg.lst ys) :: (env.locals, oL) :: news) := moves_news (news_l N') M off'
        have FC₁ : Fr h₀ H2.objs.size s₁.heap mC := moves_fr F' M (news_r N')
        have zL := N₁ (env.locals, oL) (.tail _ (.head _))
        have zD := N₁ (s.heap.objs.size, LCg.lst ys) (.head _)
        refine done _ _ ys s₁ mC hJ ⟨nL.ns zL.1, FC₁.keep, F.above⟩ (fun p hp => ?_) (fun p hp => Heap.lt_size (news_l N p hp).1) FC₁.ns (Ne.symm hDC) (Ne.symm (below _ hLlt).1) hC₀
          (fun p hp => (below _ (Heap.lt_size (news_l N p hp).1)).1) (hS.trans M.side)
        rcases List.mem_cons.mp hp with rfl | hp
        · exact ⟨zD.1, Ne.symm (below _ hLlt).2, zD.2.2⟩
        · exact ⟨(N₁ p (.tail _ (.tail _ hp))).1, (news_l N p hp).2⟩
      · obtain ⟨rfl, hq⟩ := hr
        exact hq
  exact codeAny_compStart_list (loop _ rfl) (wpAny_noRaise (I.self 0 own _ _ _ (I.keep _ _ _ _ st (fun p hp => old _ _ (I.holds _ _ _ st p hp)) (hGh _ _ _ _ (hGr _))) (loop _ rfl)))

theorem side_heap {a b : Shared} {h : Heap} (x : Side a b) : Side a { b with heap := h } := ⟨x.os, x.bare⟩
theorem fr_ns {h₀ h : Heap} {L : Addr} {m : Str → Option Value} {C : Addr} {h' : Heap} (F : Fr h₀ L h m) (hs : Heap.SameBut C h h') (hC : C ≠ L) (h0 : h₀.get? C = none) : Fr h₀ L h' m := F.change hs hC h0
theorem news_same {h₀ h h' : Heap} {L C : Addr} {led : Led} (N : News h₀ L h led) (hs : Heap.SameBut C h h') (hn : ∀ p ∈ led, p.1 ≠ C) : News h₀ L h' led := fun p hp => ⟨hs.extBut _ _ (hn p hp) (N p hp).1, (N p hp).2⟩

theorem comp_eval {elt iter : PySem.Expr} {ifs : List PySem.Expr} {scope : Scope} (cl : List (Str × Addr)) {pos : Pos} {Q : Value → Shared → Prop}
    (hclos : closureFor scope env = pure cl) (hkind : scope.kind = .function) (hnames : ∀ y ∈ scope.names, y.2 = .local → scope.names.lookup y.1 = some .local)
    (h : wpAny (model prog w) A (eval iter env) (fun xv s₁ => wpAny (model prog w) A (pyIter xv) (fun it s₂ => wpAny (model prog w) A (newList []) (fun acc s₃ => wpAny (model prog w) A (newFunctionEnv scope env.globals cl [] env.qual none .none (some env)) (fun cenv s₄ =>
      codeAny (model prog w) A (.compStart (.ListComp elt [⟨tgt, iter, ifs, 0⟩] scope pos) 0 it acc { cenv with scope := relabel scope env }) (compPost (model prog w) A E none Q acc cenv.locals) s₄) E s₃) E s₂) E s₁) E s)
    (hs : ∀ x, foldedSetIterable iter env x = pure x := by intro _; rfl) :
    wpAny (model prog w) A (eval (.ListComp elt [⟨tgt, iter, ifs, 0⟩] scope pos) env) Q E s := by
  rw [eval_ListComp]
  exact wpAny_comprehension_free (use := none) rfl hs hclos hkind hnames h

theorem comp_assign {elt iter : PySem.Expr} {ifs : List PySem.Expr} {scope : Scope} (cl : List (Str × Addr)) {pos spos py : Pos} {y : Str} {Q : Flow → Shared → Prop}
    (hsw : swapsWith (.ListComp elt [⟨tgt, iter, ifs, 0⟩] scope pos) (some (.Name y py)) spos.line env = pure true)
    (hclos : closureFor scope env = pure cl) (hkind : scope.kind = .function) (hnames : ∀ y ∈ scope.names, y.2 = .local → scope.names.lookup y.1 = some .local)
    (h : wpAny (model prog w) A (eval iter env) (fun xv s₁ => wpAny (model prog w) A (pyIter xv) (fun it s₂ => wpAny (model prog w) A (newList []) (fun acc s₃ => wpAny (model prog w) A (newFunctionEnv scope env.globals cl [] env.qual none .none (some env)) (fun cenv s₄ =>
      codeAny (model prog w) A (.compStart (.ListComp elt [⟨tgt, iter, ifs, 0⟩] scope pos) 0 it acc { cenv with scope := relabel scope env }) (compPost (model prog w) A E (some (assign (.Name y py) env)) (fun _ s' => Q .next s') acc cenv.locals) s₄) E s₃) E s₂) E s₁) E s)
    (hs : ∀ x, foldedSetIterable iter env x = pure x := by intro _; rfl) :
    wpAny (model prog w) A (exec (.Assign [.Name y py] (.ListComp elt [⟨tgt, iter, ifs, 0⟩] scope pos) spos) env) Q E s := by
  rw [exec_Assign_Name_used _ _ _ _ hsw]
  refine wpAny_bind (wpAny_standAt (wpAny_bind ?_))
  show wpAny _ A (do let _ ← comprehension (.ListComp elt [⟨tgt, iter, ifs, 0⟩] scope pos) scope env _ (newList []) false (eval iter env) (some (assign (.Name y py) env))) _ _ s
  exact wpAny_bind (wpAny_mono (wpAny_comprehension_free (use := some (assign (.Name y py) env)) (Q := fun _ s' => Q .next s') rfl hs hclos hkind hnames h) (fun _ s' hq => wpAny_pure (wpAny_pure hq)) fun _ _ e => e)

theorem comp_done {D C : Addr} {ys : List Value} {s' s₀ : Shared} {mC : Str → Option Value} {Q : Value → Shared → Prop}
    (F : Fr h₀ env.locals s'.heap m) (N : News h₀ env.locals s'.heap ((D, LCg.lst ys) :: news)) (nC : s'.heap.Ns C mC) (hCD : C ≠ D) (hCL : C ≠ env.locals) (hC0 : h₀.get? C = none) (hCn : ∀ p ∈ news, p.1 ≠ C) (S : Side s₀ s')
    (h : ∀ s'', Fr h₀ env.locals s''.heap m → News h₀ env.locals s''.heap ((D, LCg.lst ys) :: news) → Side s₀ s'' → Q (.ref D) s'') :
    compPost (model prog w) A E none Q (.ref D) C (.ok .next) s' :=
  ⟨mC, nC, fun h' hs => h _ (fr_ns F hs hCL hC0) (news_same N hs fun p hp => by
    rcases List.mem_cons.mp hp with rfl | hp
    · exact Ne.symm hCD
    · exact hCn p hp) (side_heap S)⟩

theorem comp_done_use {D C : Addr} {ys : List Value} {s' s₀ : Shared} {mC : Str → Option Value} {Q : Flow → Shared → Prop} {y : Str} {py : Pos}
    (F : Fr h₀ env.locals s'.heap m) (N : News h₀ env.locals s'.heap ((D, LCg.lst ys) :: news)) (nC : s'.heap.Ns C mC) (hCD : C ≠ D) (hCL : C ≠ env.locals) (hC0 : h₀.get? C = none) (hCn : ∀ p ∈ news, p.1 ≠ C) (S : Side s₀ s')
    (hy : env.kindOf y = some .local) (hk : (env.scope.kind == .class || (env.scope.kind == .module && env.locals != env.globals)) = false)
    (h : ∀ s'', Fr h₀ env.locals s''.heap (fun z => if z = y then some (.ref D) else m z) → News h₀ env.locals s''.heap ((D, LCg.lst ys) :: news) → Side s₀ s'' → Q .next s'') :
    compPost (model prog w) A E (some (assign (.Name y py) env)) (fun _ s' => Q .next s') (.ref D) C (.ok .next) s' := by
  show wpAny _ A (assign (.Name y py) env (.ref D)) _ _ _
  refine wpAny_assign_Name (wpAny_storeName_local hy F.ns (fun h₂ hn₂ hs₂ => ?_) hk)
  refine ⟨mC, nC.sameBut hs₂ hCL, fun h' hs => h _ (fr_ns (F.set hn₂ hs₂) hs hCL hC0) (news_same (N.set hs₂) hs fun p hp => by
    rcases List.mem_cons.mp hp with rfl | hp
    · exact Ne.symm hCD
    · exact hCn p hp) ⟨S.os, S.bare⟩⟩
end
end Mine

end

section
open PySem PySem.W PyProof.Rows PySem.Calls
set_option maxRecDepth 100000
namespace Mine
abbrev GT : Shared → Shared → Prop := fun _ _ => True
abbrev tupO (vs : List Value) : Obj := { cls := .type "tuple", data := .seq vs.toArray }
section
variable {prog : Program} {w : World} {A : Around} {E : Value → Shared → Prop} {s : Shared}

theorem letOwned_off {tgt : PySem.Expr} {v : Value} {I : Addr} {o : Obj} {T : String} {vs : Array Value} {Q : Unit → Shared → Prop} (ho : s.heap.get? I = some o) (hc : o.cls = .type T) (hd : o.data = .fields vs)
    (hT : (["enumerate", "zip", "dict_itemiterator", "dict_reverseitemiterator", "odict_iterator", "itertools.zip_longest", "itertools.pairwise"].contains T) = false) (hQ : Q () s) :
    wpAny (model prog w) A (letOwnedTupleGo tgt (.ref I) v) Q E s := by
  have key : ∀ a, wpAny (model prog w) A (do
      let o ← load I
      match o.cls, o.data with
      | .type n, .fields vs =>
        if ["enumerate", "zip", "dict_itemiterator", "dict_reverseitemiterator", "odict_iterator", "itertools.zip_longest", "itertools.pairwise"].contains n && vs[0]? == some (rawInt a) then
          rule "for.unpacks-the-owned-tuple"
          updateField I 0 .none
      | _, _ => pure ()) Q E s := fun a => by
    refine wpAny_bind (wpAny_load ho ?_)
    rw [hc, hd]
    show wpAny _ A (if (_ && _) = true then _ else _) Q E s
    rw [hT, Bool.false_and, if_neg Bool.false_ne_true]
    exact wpAny_pure hQ
  unfold letOwnedTupleGo
  cases tgt <;> first
    | exact wpAny_pure hQ
    | (cases v <;> first | exact wpAny_pure hQ | exact key _)

theorem letOwned_name {x : Str} {px : Pos} {it v : Value} {Q : Unit → Shared → Prop} (hQ : Q () s) : wpAny (model prog w) A (letOwnedTupleGo (.Name x px) it v) Q E s := wpAny_pure hQ

def ListSt (I l : Addr) (j : Nat) (own : Led) (s : Shared) : Prop := ∃ o, own = [(I, o)] ∧ s.heap.get? I = some o ∧ o.cls = .type "list_iterator" ∧ o.data = .fields #[.ref l, .int j 0]

theorem iter_list (hh : A.handled = none) (tgt : PySem.Expr) (I l : Addr) (vs : List Value) (hne : l ≠ I) :
    Iter prog w A (fun h => h.IsList l vs.toArray) GT tgt (.ref I) vs.length (fun j v extra => vs[j]? = some v ∧ extra = []) (ListSt I l) where
  next := fun j own s Q E hj st hB hQ => by
    obtain ⟨o, rfl, ho, hc, hd⟩ := st
    have hx : vs.toArray[j]? = some vs[j] := by simp [hj]
    refine wpAny_pyNext_list_item ⟨o, ho, hc, hd⟩ hB hx fun h' hit' hs' => ?_
    obtain ⟨o', ho', hc', hd'⟩ := hit'
    refine ⟨_, rfl, letOwned_off ho' hc' hd' (by decide) ?_⟩
    refine hQ _ [] [(I, o')] _ ⟨by simp [hj], rfl⟩ ⟨o', rfl, ho', hc', hd'⟩ .nil (fun _ h => nomatch h) (fun p hp => ?_) ⟨fun b o hb e => hs'.extBut b o (fun q => hb (by simp [q])) e, .same⟩
    rw [List.mem_singleton.mp hp]; exact .inl (by simp)
  done := fun own s Q E st hB hQ => by
    obtain ⟨o, rfl, ho, hc, hd⟩ := st
    exact wpAny_pyNext_list_end hh ⟨o, ho, hc, hd⟩ hB (by simp) fun h' he' => ⟨rfl, hQ _ ⟨fun b o hb e => he' b o (fun q => hb (by simp [q])) e, .same⟩⟩
  keep := fun j own s s' st hk _ => by
    obtain ⟨o, rfl, ho, hc, hd⟩ := st
    exact ⟨o, rfl, hk _ (.head _), hc, hd⟩
  holds := fun j own s st => by
    obtain ⟨o, rfl, ho, hc, hd⟩ := st
    exact Holds.cons ho .nil
  self := fun j own s Q E st hQ => by
    obtain ⟨o, rfl, ho, hc, hd⟩ := st
    exact wpAny_pyIter_listiter ⟨o, ho, hc, hd⟩ hQ

/-- iter(list) -/
theorem start_list {h₀ : Heap} {L l : Addr} {m : Str → Option Value} {news : Led} {vs : List Value} {Q : Value → Shared → Prop} (F : Fr h₀ L s.heap m) (N : News h₀ L s.heap news) (hl : s.heap.IsList l vs.toArray)
    (h : ∀ I own s', l ≠ I → ListSt I l 0 own s' → Fr h₀ L s'.heap m → News h₀ L s'.heap (news ++ own) → OwnOff own (news.map (·.1)) → Side s s' → Ext s s' → Q (.ref I) s') :
    wpAny (model prog w) A (pyIter (.ref l)) Q E s := by
  obtain ⟨ol, hol, _⟩ := id hl
  have lt := Heap.lt_size hol
  refine wpAny_pyIter_list hl ?_
  refine h _ [(s.heap.objs.size, _)] _ (Nat.ne_of_lt lt) ⟨_, rfl, Heap.get?_push_size _ rfl, rfl, rfl⟩ (F.push _) ?_ ?_ .same ⟨fun b o e => Heap.get?_push_of_some _ e, .same⟩
  · refine news_app (fun p hp => ⟨Heap.get?_push_of_some _ (N p hp).1, (N p hp).2⟩) fun p hp => ?_
    rw [List.mem_singleton.mp hp]
    exact ⟨Heap.get?_push_size _ rfl, fr_ne F (Nat.le_refl _), fr_none F (Nat.le_refl _)⟩
  · intro p hp b hb e
    rw [List.mem_singleton.mp hp] at e
    obtain ⟨r, hr, e'⟩ := List.mem_map.mp hb
    have h1 := Heap.lt_size (N r hr).1
    have e2 : r.1 = s.heap.objs.size := e'.trans e.symm
    rw [e2] at h1
    exact Nat.lt_irrefl _ h1

def RangeSt (I : Addr) (lo : Int) (n : Nat) (j : Nat) (own : Led) (s : Shared) : Prop := ∃ o, own = [(I, o)] ∧ s.heap.get? I = some o ∧ o = { cls := .type "range_iterator", dict := none, data := .fields #[rawInt (lo + j), rawInt ((n : Int) - j), rawInt 1], slots := #[] }

theorem iter_range (hh : A.handled = none) (tgt : PySem.Expr) (I : Addr) (lo : Int) (n : Nat) :
    Iter prog w A (fun _ => True) GT tgt (.ref I) n (fun j v extra => (∃ t, v = .int (lo + j) t) ∧ extra = []) (RangeSt I lo n) where
  next := fun j own s Q E hj st hB hQ => by
    obtain ⟨o, rfl, ho, rfl⟩ := st
    refine wpAny_pyNext_range_item ho (by omega) fun h' hit' hs' => ?_
    refine ⟨_, rfl, letOwned_off hit' rfl rfl (by decide) ?_⟩
    refine hQ _ [] [(I, _)] _ ⟨⟨_, rfl⟩, rfl⟩ ⟨_, rfl, hit', ?_⟩ .nil (fun _ h => nomatch h) (fun p hp => ?_) ⟨fun b o hb e => hs'.extBut b o (fun q => hb (by simp [q])) e, .same⟩
    · have e1 : lo + (j : Int) + 1 = lo + ((j + 1 : Nat) : Int) := by omega
      have e2 : (n : Int) - j - 1 = n - ((j + 1 : Nat) : Int) := by omega
      rw [e1, e2]
    · rw [List.mem_singleton.mp hp]; exact .inl (by simp)
  done := fun own s Q E st hB hQ => by
    obtain ⟨o, rfl, ho, rfl⟩ := st
    exact wpAny_pyNext_range_end hh ho (by omega) fun h' he' => ⟨rfl, hQ _ ⟨fun b o hb e => he' b o (fun q => hb (by simp [q])) e, .same⟩⟩
  keep := fun j own s s' st hk _ => by
    obtain ⟨o, rfl, ho, e⟩ := st
    exact ⟨o, rfl, hk _ (.head _), e⟩
  holds := fun j own s st => by
    obtain ⟨o, rfl, ho, _⟩ := st
    exact Holds.cons ho .nil
  self := fun j own s Q E st hQ => by
    obtain ⟨o, rfl, ho, rfl⟩ := st
    exact wpAny_pyIter_rangeiter ho hQ

/-- iter(range(n)) -/
theorem start_range {h₀ : Heap} {L r : Addr} {m : Str → Option Value} {news : Led} {n : Nat} {t u v : Tok} {Q : Value → Shared → Prop} (F : Fr h₀ L s.heap m) (N : News h₀ L s.heap news) (hr : IsRange s.heap r 0 n 1 t u v) (hn : n < 1000)
    (h : ∀ I own s', RangeSt I 0 n 0 own s' → Fr h₀ L s'.heap m → News h₀ L s'.heap (news ++ own) → OwnOff own (news.map (·.1)) → Side s s' → Q (.ref I) s') :
    wpAny (model prog w) A (pyIter (.ref r)) Q E s := by
  refine wpAny_pyIter_range hr (small_one (by omega) (by omega) (by omega) (by omega)) ?_
  have hsz : Builtin.Range.rangeSize 0 n 1 = (n : Int) := by rw [rangeSize_one]; split <;> omega
  rw [hsz]
  refine h _ [(s.heap.objs.size, _)] _ ⟨_, rfl, Heap.get?_push_size _ rfl, ?_⟩ (F.push _) ?_ ?_ .same
  · simp
  · refine news_app (fun p hp => ⟨Heap.get?_push_of_some _ (N p hp).1, (N p hp).2⟩) fun p hp => ?_
    rw [List.mem_singleton.mp hp]
    exact ⟨Heap.get?_push_size _ rfl, fr_ne F (Nat.le_refl _), fr_none F (Nat.le_refl _)⟩
  · intro p hp b hb e
    rw [List.mem_singleton.mp hp] at e
    obtain ⟨r, hr, e'⟩ := List.mem_map.mp hb
    have h1 := Heap.lt_size (N r hr).1
    have e2 : r.1 = s.heap.objs.size := e'.trans e.symm
    rw [e2] at h1
    exact Nat.lt_irrefl _ h1

def EnumSt (e it l : Addr) (j : Nat) (own : Led) (s : Shared) : Prop := ∃ old o, own = [(e, { cls := .type "enumerate", dict := none, data := .fields #[.none, .bool false, .ref it, rawInt j, .none, old], slots := #[] }), (it, o)] ∧
  IsEnum s.heap e it j old ∧ s.heap.get? it = some o ∧ o.cls = .type "list_iterator" ∧ o.data = .fields #[.ref l, .int j 0]

theorem iter_enum (hh : A.handled = none) {elts : List PySem.Expr} {k : Nat} {pos : Pos} (e it l : Addr) (vs : List Value) (hei : e ≠ it) (hel : e ≠ l) (hli : l ≠ it) :
    Iter prog w A (fun h => h.IsList l vs.toArray) GT (.Tuple elts k pos) (.ref e) vs.length
      (fun j v extra => ∃ T t x, v = .ref T ∧ extra = [(T, tupO [.int j t, x])] ∧ vs[j]? = some x) (EnumSt e it l) where
  next := fun j own s Q E hj st hB hQ => by
    obtain ⟨old, o, rfl, he, ho, hc, hd⟩ := st
    have D := Draws.list (prog := prog) (w := w) (A := A.in1) hh it l hli vs.toArray
    have hef : e ∉ [it, l] := fun hm => by
      rcases List.mem_cons.mp hm with q | hm
      · exact hei q
      · exact hel (List.mem_singleton.mp hm)
    refine wpAny_pyNext_enum_itemD D he ⟨⟨o, ho, hc, hd⟩, hB⟩ (by simpa using hj) hei hef fun x h' tk hP heo hst hT hz hk => ?_
    refine ⟨_, rfl, wpAny_letOwnedTupleGo_enum heo fun h₂ he₂ hs₂ => ?_⟩
    replace hs₂ : Heap.SameBut e h' h₂ := hs₂
    obtain ⟨⟨o', ho', hc', hd'⟩, _⟩ := hst
    have helt : e < s.heap.objs.size := Heap.lt_size he
    have ej : ((j : Int) + 1) = ((j + 1 : Nat) : Int) := by omega
    rw [ej] at he₂
    have hit₂ : h₂.get? it = some o' := hs₂.extBut _ _ (Ne.symm hei) ho'
    refine hQ _ [(s.heap.objs.size, tupO [.int j tk, x])] [(e, _), (it, o')] _ ⟨_, tk, x, rfl, rfl, by simpa using hP⟩ ⟨x, o', rfl, he₂, hit₂, hc', hd'⟩ ?_ ?_ ?_ ⟨fun b o hb q => hs₂.extBut b o (fun z => hb (by simp [z])) (hk b o (fun z => hb (by simp [z])) (fun z => hb (by simp [z])) q), .same⟩
    · exact Holds.cons (hs₂.extBut _ _ (Nat.ne_of_gt helt) hT) .nil
    · intro p hp
      rw [List.mem_singleton.mp hp]
      refine ⟨Nat.le_refl _, fun hm => ?_⟩
      simp only [List.map_cons, List.map_nil] at hm
      rcases List.mem_cons.mp hm with q | hm
      · exact absurd helt (by rw [← q]; exact Nat.lt_irrefl _)
      · exact absurd (Heap.lt_size ho) (by rw [← List.mem_singleton.mp hm]; exact Nat.lt_irrefl _)
    · intro p hp
      rcases List.mem_cons.mp hp with rfl | hp
      · exact .inl (by simp)
      · rw [List.mem_singleton.mp hp]; exact .inl (by simp)
  done := fun own s Q E st hB hQ => by
    obtain ⟨old, o, rfl, he, ho, hc, hd⟩ := st
    have D := Draws.list (prog := prog) (w := w) (A := A.in1) hh it l hli vs.toArray
    have hsz : vs.toArray.size = vs.length := by simp
    rw [hsz] at D
    exact wpAny_pyNext_enum_endD D he ⟨⟨o, ho, hc, hd⟩, hB⟩ fun h' he' => ⟨rfl, hQ _ ⟨fun b o hb q => he' b o (fun z => hb (by simp [z])) q, .same⟩⟩
  keep := fun j own s s' st hk _ => by
    obtain ⟨old, o, rfl, he, ho, hc, hd⟩ := st
    exact ⟨old, o, rfl, hk _ (.head _), hk _ (.tail _ (.head _)), hc, hd⟩
  holds := fun j own s st => by
    obtain ⟨old, o, rfl, he, ho, hc, hd⟩ := st
    exact Holds.cons he (Holds.cons ho .nil)
  self := fun j own s Q E st hQ => by
    obtain ⟨old, o, rfl, he, ho, hc, hd⟩ := st
    exact wpAny_pyIter_enum he hQ
end
end Mine

end

section
open PySem PySem.W PyProof.Rows PySem.Calls
set_option maxRecDepth 100000
namespace Mine

abbrev TP := Challenge.rw_wo0010_01.prog
structure Bas (w : World) (mean : ExcName → Option Value) (mg mb : Str → Option Value) (h : Heap) : Prop where
  K : (hd.heap_39 w.params).In h
  T : Top hd.view_39 (looseW hd.view_39 [Str.ofString "_twin_re_1"]) mean mg mb h
theorem Bas.keeps {w : World} {mean : ExcName → Option Value} {mg mb : Str → Option Value} {h h' : Heap} (x : Bas w mean mg mb h) (k : ∀ b o, h.get? b = some o → h'.get? b = some o) : Bas w mean mg mb h' := ⟨x.K.keeps k, x.T.keeps k⟩

section
variable {M : Model} {A : Around} {R : GenEnd} {Y : Protocol} {n : Nat} {s₀ : Shared} {c : Code} {fs : List Frame} {s : Shared} {env : Env}
  {K : Flow → Sem Fin} {H : Value → Sem Fin} {gd : Bool → Bool} {lv : List Value → List Value}

theorem seg_exec {st : Stmt} (h : wpAny M (A.over c fs) (exec st env) (fun f s' => Seg M A R Y n s₀ c (K f) fs s') NoE s) :
    Seg M A R Y n s₀ c ((exec st env).wrap K H gd lv) fs s := seg_wrap (wpAny_noRaise h)

theorem seg_For {tgt iter : PySem.Expr} {body orelse : List Stmt} {pos : Pos}
    (h : wpAny M (A.over c fs) (eval iter env) (fun x s₁ => wpAny M (A.over c fs) (pyIter x) (fun it s₂ => ∀ p,
      Seg M A R Y n s₀ (.forLoop tgt it body orelse env) (M.den (.forLoop tgt it body orelse env))
      (.ret (fun r => ((match r with | .ok f => (.pure f : Sem Flow) | .error e => .raise e).onRaise fun (x : Value) => do
        if (← field x 1) == Value.none then unsupported "frame.own-activation:exception-without-traceback"
        setFlight x env.frame).wrap K H gd lv) none (gd false) (lv []) c p [] :: fs) s₂) NoE s₁) NoE s)
    (hs : ∀ x, foldedSetIterable iter env x = pure x := by intro _; rfl) :
    Seg M A R Y n s₀ c ((exec (.For tgt iter body orelse pos) env).wrap K H gd lv) fs s := by
  rw [exec_For]
  refine seg_bind_wrap (wpAny_standAt ?_)
  refine seg_bind_wrap (wpAny_noRaise (wpAny_mono h (fun x s₁ h₁ => ?_) fun _ _ e => e))
  refine seg_bind_wrap (wpAny_of_eq (hs x) ?_)
  refine seg_bind_wrap (wpAny_standAt ?_)
  refine seg_bind_wrap (wpAny_noRaise (wpAny_holding (wpAny_mono h₁ (fun it s₂ h₂ => ?_) fun _ _ e => e)))
  exact seg_call h₂

theorem seg_If {test : PySem.Expr} {body orelse : List Stmt} {pos : Pos}
    (h : wpAny M (A.over c fs) (isTrue test env (eval test env)) (fun b s' => if b = true then Seg M A R Y n s₀ c ((execs body env).wrap K H gd lv) fs s' else Seg M A R Y n s₀ c ((execs orelse env).wrap K H gd lv) fs s') NoE s) :
    Seg M A R Y n s₀ c ((exec (.If test body orelse pos) env).wrap K H gd lv) fs s := by
  rw [exec_If]
  refine seg_bind_wrap (wpAny_standAt ?_)
  refine seg_bind_wrap (wpAny_noRaise (wpAny_mono h (fun b s₁ h₁ => ?_) fun _ _ e => e))
  cases b with
  | true => exact h₁
  | false => exact h₁
end

section
variable {prog : Program} {w : World} {A : Around} {R : GenEnd} {Y : Protocol} {n : Nat} {s₀ : Shared} {fs : List Frame} {s : Shared} {env : Env}

theorem seg_forLoop {tgt : PySem.Expr} {it : Value} {body orelse : List Stmt}
    (h : wpAny (model prog w) (A.over (.forLoop tgt it body orelse env) fs) (pyNext it) (fun r s₁ => match r with
      | none => Seg (model prog w) A R Y n s₀ (.block orelse env) ((model prog w).den (.block orelse env)) fs s₁
      | some v => wpAny (model prog w) (A.over (.forLoop tgt it body orelse env) fs) (letOwnedTupleGo tgt it v) (fun _ s₂ =>
          wpAny (model prog w) (A.over (.forLoop tgt it body orelse env) fs) (assign tgt env v) (fun _ s₃ =>
            Seg (model prog w) A R Y n s₀ (.forLoop tgt it body orelse env) ((execs body env).wrap (fun f => match f with
              | .next | .cont => .pure (.again (.forLoop tgt it body orelse env))
              | .brk => .pure (.done .next)
              | .ret v => .pure (.done (.ret v))) (fun e => (do noteFrame e env; theTreesLotGoes e : Sem Unit).bind fun _ => .raise e) id id) fs s₃) NoE s₂) NoE s₁) NoE s) :
    Seg (model prog w) A R Y n s₀ (.forLoop tgt it body orelse env) ((model prog w).den (.forLoop tgt it body orelse env)) fs s := by
  show Seg _ A R Y n s₀ _ ((forTurn tgt it body orelse env).onRaise (fun x => do noteFrame x env; theTreesLotGoes x)) fs s
  unfold forTurn
  rw [Sem.onRaise_eq_wrap]
  refine seg_bind_wrap (wpAny_standAt ?_)
  refine seg_bind_wrap (wpAny_noRaise (wpAny_onRaise (wpAny_mono h (fun r s₁ h₁ => ?_) fun _ _ e => e.elim)))
  cases r with
  | none => exact seg_again rfl h₁
  | some v =>
    refine seg_bind_wrap (wpAny_noRaise (wpAny_mono h₁ (fun _ s₂ h₂ => ?_) fun _ _ e => e))
    refine seg_bind_wrap (wpAny_noRaise (wpAny_mono h₂ (fun _ s₃ h₃ => ?_) fun _ _ e => e))
    rw [Sem.bind_eq_wrap', Sem.wrap_wrap]
    rw [Sem.wrap_congr (execs body env) _ _ (K' := fun f => match f with
              | .next | .cont => .pure (.again (.forLoop tgt it body orelse env))
              | .brk => .pure (.done .next)
              | .ret v => .pure (.done (.ret v))) (H' := (fun e => (do noteFrame e env; theTreesLotGoes e : Sem Unit).bind fun _ => .raise e))
        (fun f => by cases f <;> rfl) (fun e => by rfl)]
    exact h₃
end

def SinceW (W : List Addr) (s₀ s : Shared) : Prop := ∃ h tk, s = { s₀ with heap := h, toks := tk } ∧ ∀ b o, b ∉ W → s₀.heap.get? b = some o → h.get? b = some o
theorem SinceW.refl (W : List Addr) (s : Shared) : SinceW W s s := ⟨s.heap, s.toks, rfl, fun _ _ _ e => e⟩
theorem SinceW.step {W : List Addr} {s₀ s : Shared} (x : SinceW W s₀ s) {h : Heap} {tk : Nat} (k : ∀ b o, b ∉ W → s.heap.get? b = some o → h.get? b = some o) : SinceW W s₀ { s with heap := h, toks := tk } := by
  obtain ⟨h', tk', rfl, k'⟩ := x
  exact ⟨h, tk, rfl, fun b o hb e => k b o hb (k' b o hb e)⟩

abbrev enumO (it : Addr) (j : Nat) (old : Value) : Obj := { cls := .type "enumerate", dict := none, data := .fields #[.none, .bool false, .ref it, rawInt j, .none, old], slots := #[] }

section
variable {prog : Program} {w : World} {A : Around} {R : GenEnd} {Y : Protocol} {fs : List Frame} {env : Env}

theorem strIter_end {E : Value → Shared → Prop} {s : Shared} {it : Addr} {x : Str} {t : Tok} {i : Nat} {Q : Value → Shared → Prop} (hh : A.handled = none)
    (hit : s.heap.IsStrIter it "str_ascii_iterator" x t i) (hx : x.cps[i]? = none)
    (hE : ∀ h' e, Heap.ExtBut it s.heap h' → ((∃ o, h'.get? it = some o) ∧ s.heap.objs.size ≤ h'.objs.size) → (∃ o, h'.get? e = some o ∧ o.cls = .type "StopIteration") → E (.ref e) { s with heap := h' }) :
    wpAny (model prog w) A (Builtin.SmallTypes.nextOf (.ref it)) Q E s := by
  obtain ⟨o, ho, hc, hd⟩ := id hit
  unfold Builtin.SmallTypes.nextOf
  refine wpAny_bind (wpAny_callSpecial?_slot (name := Str.ofString "__next__") hit.typeIs F.slot_str_ascii_iterator_next
    (wpAny_call_entry F.slot_str_ascii_iterator_next hit.typeIs F.entry_str_ascii_iterator_next ?_ (F.args_str_ascii_iterator_next_1 _)))
  show wpAny _ _ (field (.ref it) 0 >>= _) _ _ s
  refine wpAny_bind (wpAny_field ho hd (x := .str x t) rfl ?_)
  show wpAny _ _ (field (.ref it) 1 >>= _) _ _ s
  refine wpAny_bind (wpAny_field ho hd (x := .int i 0) rfl ?_)
  simp only [Int.toNat_natCast, hx]
  refine wpAny_bind (wpAny_rule (wpAny_bind (wpAny_setField ho hd (by simp) (wpAny_bind (wpAny_letGo ?_)))))
  have hself := Heap.get?_update_self (h := s.heap) (Obj.mapFields (·.setIfInBounds 0 Value.none)) ho (Obj.isFreed_of_fields (Obj.data_mapFields hd _))
  show wpAny _ _ (newExc (.type "StopIteration") [] >>= _) _ _ _
  refine wpAny_bind ?_
  simp only [newExc, newTuple]
  refine wpAny_bind (wpAny_newObj_type ?_ (by size_fits))
  refine wpAny_bind (m := firstArgMember _ _) (wpAny_of_eq (a := Value.none) (by first | rfl | (simp only [firstArgMember]; rfl)) ?_)
  refine wpAny_newObj_type ?_ (by size_fits)
  simp only [raiseNew]
  refine wpAny_bind (wpAny_handled ?_)
  first | rw [show A.in1.handled = none from hh] | rw [hh]
  refine wpAny_bind (wpAny_pure (wpAny_throw ?_))
  exact hE _ _ (((Heap.SameBut.update ..).extBut.push _).push _) ⟨⟨_, Heap.get?_push_of_some _ (Heap.get?_push_of_some _ hself)⟩, (by rw [Heap.size_push, Heap.size_push, (Heap.SameBut.update ..).1]; omega)⟩ ⟨_, Heap.get?_push_size _ rfl, rfl⟩

theorem enumStr_end {E : Value → Shared → Prop} {s : Shared} {e it : Addr} {x : Str} {t : Tok} {i : Nat} {j : Int} {old : Value} {Q : Option Value → Shared → Prop} (hh : A.handled = none)
    (he : IsEnum s.heap e it j old) (hit : s.heap.IsStrIter it "str_ascii_iterator" x t i) (hx : x.cps[i]? = none)
    (hQ : ∀ h', Heap.ExtBut it s.heap h' → ((∃ o, h'.get? it = some o) ∧ s.heap.objs.size ≤ h'.objs.size) → Q none { s with heap := h' }) : wpAny (model prog w) A (pyNext (.ref e)) Q E s := by
  have hT : s.TypeIs (.ref e) "enumerate" := ⟨_, he, rfl⟩
  unfold pyNext
  refine wpAny_bind (wpAny_attempt (wpAny_callSpecial?_slot (name := Str.ofString "__next__") hT F.slot_enumerate_next
    (wpAny_call_entry F.slot_enumerate_next hT F.entry_enumerate_next ?_ (F.args_enumerate_next_1 _))))
  show wpAny _ _ (field (.ref e) 2 >>= _) _ _ _
  refine wpAny_bind (wpAny_field he rfl (x := .ref it) rfl ?_)
  refine wpAny_bind (strIter_end (A := A.in1) hh hit hx fun h' x he' hi' hx' => ?_)
  obtain ⟨o, ho, hc⟩ := hx'
  refine wpAny_bind (wpAny_isInstance (T := "StopIteration") (b := true) ⟨o, ho, hc⟩ isSubtype_stop ?_)
  exact wpAny_pure (hQ _ he' hi')

theorem gen_enum_loop {elts : List PySem.Expr} {k₀ : Nat} {pos : Pos} {body : List Stmt} {hB : Heap} {x : Str} {t : Tok} {e it : Addr} (J : Nat → Nat → (Str → Option Value) → Prop)
    (hh : (A.over (.forLoop (.Tuple elts k₀ pos) (.ref e) body [] env) fs).handled = none) (hei : e ≠ it) (heL : e ≠ env.locals) (hiL : it ≠ env.locals) (he0 : hB.get? e = none) (hi0 : hB.get? it = none)
    (turn : ∀ i c k m s₀ s₁ T t1 t2 oe oit, x.cps[i]? = some c → J i k m → SinceW [env.locals, e, it] s₀ s₁ → Fr hB env.locals s₁.heap m →
      News hB env.locals s₁.heap [(T, tupO [.int i t1, .str ⟨#[c]⟩ t2]), (e, oe), (it, oit)] →
      s₀.heap.objs.size ≤ T →
      (∀ k' m' s₀' s₃, J (i + 1) k' m' → s₀'.heap.objs.size ≤ s₃.heap.objs.size → SinceW [env.locals, e, it] s₀' s₃ → Fr hB env.locals s₃.heap m' → s₃.heap.get? e = some oe → s₃.heap.get? it = some oit →
        Seg (model prog w) A R Y k' s₀' (.forLoop (.Tuple elts k₀ pos) (.ref e) body [] env) ((model prog w).den (.forLoop (.Tuple elts k₀ pos) (.ref e) body [] env)) fs s₃) →
      wpAny (model prog w) (A.over (.forLoop (.Tuple elts k₀ pos) (.ref e) body [] env) fs) (assign (.Tuple elts k₀ pos) env (.ref T)) (fun _ s₃ =>
            Seg (model prog w) A R Y k s₀ (.forLoop (.Tuple elts k₀ pos) (.ref e) body [] env) ((execs body env).wrap (fun f => match f with
              | .next | .cont => .pure (.again (.forLoop (.Tuple elts k₀ pos) (.ref e) body [] env))
              | .brk => .pure (.done .next)
              | .ret v => .pure (.done (.ret v))) (fun e => (do noteFrame e env; theTreesLotGoes e : Sem Unit).bind fun _ => .raise e) id id) fs s₃) NoE s₁)
    (done : ∀ k m s₀ s₁ oe oit, J x.cps.size k m → s₀.heap.objs.size ≤ s₁.heap.objs.size → SinceW [env.locals, e, it] s₀ s₁ → Fr hB env.locals s₁.heap m → s₁.heap.get? e = some oe → s₁.heap.get? it = some oit → Seg (model prog w) A R Y k s₀ (.block [] env) ((model prog w).den (.block [] env)) fs s₁) :
    ∀ (d i k : Nat) (m : Str → Option Value) (s₀ s : Shared) (old : Value) (oit : Obj), x.cps.size - i = d → i ≤ x.cps.size → J i k m → s₀.heap.objs.size ≤ s.heap.objs.size → SinceW [env.locals, e, it] s₀ s → Fr hB env.locals s.heap m →
      IsEnum s.heap e it i old → s.heap.get? it = some oit → oit.cls = .type "str_ascii_iterator" → oit.data = .fields #[.str x t, .int i 0] →
      Seg (model prog w) A R Y k s₀ (.forLoop (.Tuple elts k₀ pos) (.ref e) body [] env) ((model prog w).den (.forLoop (.Tuple elts k₀ pos) (.ref e) body [] env)) fs s := by
  have D := Draws.strAscii (prog := prog) (w := w) (A := (A.over (.forLoop (.Tuple elts k₀ pos) (.ref e) body [] env) fs).in1) hh it x t
  have hef : e ∉ [it] := fun hm => hei (List.mem_singleton.mp hm)
  intro d
  induction d with
  | zero =>
    intro i k m s₀ s old oit hd hi hJ hsz hS F he hit hc hdat
    obtain rfl : i = x.cps.size := by omega
    refine seg_forLoop (enumStr_end hh he ⟨oit, hit, hc, hdat⟩ (by simp) fun h' he' hi' => ?_)
    obtain ⟨⟨oi', hi'⟩, hzz⟩ := hi'
    have keep : ∀ b o, b ∉ [env.locals, e, it] → s.heap.get? b = some o → h'.get? b = some o := fun b o hb q => he' b o (fun z => hb (by simp [z])) q
    refine done k m s₀ _ _ oi' hJ (Nat.le_trans hsz hzz) (hS.step keep) ⟨F.ns.extBut he' (Ne.symm hiL), fun b o q => he' b o (fun z => ?_) (F.keep b o q), F.above⟩ (he' e _ hei he) hi'
    rw [z, hi0] at q; cases q
  | succ d ih =>
    intro i k m s₀ s old oit hd hi hJ hsz hS F he hit hc hdat
    have hlt : i < x.cps.size := by omega
    refine seg_forLoop (wpAny_pyNext_enum_itemD D he ⟨oit, hit, hc, hdat⟩ hlt hei hef fun xv h' tk hP heo hst hT hz hk => ?_)
    obtain ⟨cp, u, hcp, rfl⟩ := hP
    refine wpAny_letOwnedTupleGo_enum heo fun h₂ he₂ hs₂ => ?_
    replace hs₂ : Heap.SameBut e h' h₂ := hs₂
    obtain ⟨o', ho', hc', hd'⟩ := hst
    have helt : e < s.heap.objs.size := Heap.lt_size he
    have hilt : it < s.heap.objs.size := Heap.lt_size hit
    have ej : ((i : Int) + 1) = ((i + 1 : Nat) : Int) := by omega
    rw [ej] at he₂
    have hit₂ : h₂.get? it = some o' := hs₂.extBut _ _ (Ne.symm hei) ho'
    have keep : ∀ b o, b ∉ [env.locals, e, it] → s.heap.get? b = some o → h₂.get? b = some o := fun b o hb q => hs₂.extBut b o (fun z => hb (by simp [z])) (hk b o (fun z => hb (by simp [z])) (fun z => hb (by simp [z])) q)
    have keep' : ∀ b o, b ≠ e → b ≠ it → s.heap.get? b = some o → h₂.get? b = some o := fun b o h1 h2 q => hs₂.extBut b o h1 (hk b o h1 h2 q)
    have F₂ : Fr hB env.locals h₂ m := ⟨F.ns.at' fun o q => keep' _ o (Ne.symm heL) (Ne.symm hiL) q, fun b o q => keep' b o (fun z => by rw [z, he0] at q; cases q) (fun z => by rw [z, hi0] at q; cases q) (F.keep b o q), F.above⟩
    have N₂ : News hB env.locals h₂ [(s.heap.objs.size, tupO [.int i tk, .str ⟨#[cp]⟩ u]), (e, enumO it (i + 1) (.str ⟨#[cp]⟩ u)), (it, o')] := fun p hp => by
      rcases List.mem_cons.mp hp with rfl | hp
      · exact ⟨hs₂.extBut _ _ (Nat.ne_of_gt helt) hT, fr_ne F (Nat.le_refl _), fr_none F (Nat.le_refl _)⟩
      · rcases List.mem_cons.mp hp with rfl | hp
        · exact ⟨he₂, heL, he0⟩
        · rw [List.mem_singleton.mp hp]; exact ⟨hit₂, hiL, hi0⟩
    exact turn i cp k m s₀ _ _ tk u _ o' hcp hJ (hS.step keep) F₂ N₂ hsz fun k' m' s₀' s₃ hJ' hz' hS' F' he' hi' => ih (i + 1) k' m' s₀' s₃ _ o' (by omega) hlt hJ' hz' hS' F' he' hi' hc' hd'

theorem pyNext_gen {E : Value → Shared → Prop} {s : Shared} {a : Addr} {g n : Nat} {gs : GenState} {P : Nat → Shared → Shared → Prop} {Q : Option Value → Shared → Prop} (hh : A.handled = none)
    (hl : s.heap.NoLimit) (hroom : A.depth < recursionLimit)
    (hg : s.heap.IsGen a g) (hgs : s.gens[g]? = some gs)
    (hgo : gs.Goes (model prog w) A.in1 (fun n s₀ r s₁ => r = .ok (.ret .none) ∧ P n s₀ s₁) Y n (.send .none) (s.setGen g .running))
    (hY : ∀ v s₁ gs', gs'.bare = true → Y (n - 1) (s.setGen g .running) v s₁ (fun r' s'' => match n with
        | 0 => False
        | m + 1 => gs'.Goes (model prog w) A.in1 (fun n s₀ r s₁ => r = .ok (.ret .none) ∧ P n s₀ s₁) Y m r' s'') → Q (some v) (s₁.setGen g gs'))
    (hP : ∀ s₁, P n (s.setGen g .running) s₁ → ∀ h', (∀ b o, s₁.heap.get? b = some o → h'.get? b = some o) → Q none { s₁.setGen g .finished with heap := h' }) :
    wpAny (model prog w) A (pyNext (.ref a)) Q E s := by
  unfold pyNext
  refine wpAny_bind (wpAny_attempt (wpAny_callSpecial?_slot (name := Str.ofString "__next__") hg.typeIs slot_gen_next
    (wpAny_call_entry slot_gen_next hg.typeIs entry_gen_next ?_ (args_gen_next _))))
  show wpAny _ _ (Builtin.Generator.genWake (.ref a) (.send .none)) _ _ s
  unfold Builtin.Generator.genWake
  refine wpAny_bind (wpAny_holding (wpAny_genNumber hg (wpAny_bind (wpAny_genState hgs ?_))))
  cases gs with
  | running => exact hgo.elim
  | finished => exact hgo.elim
  | _ =>
    refine wpAny_bind (wpAny_roomToWake hl hroom ?_)
    show wpAny _ _ (.resume g (.send .none) [] _) _ _ s
    refine wpAny_resumeQ hgs hgo (fun x s₁ hx => ?_) (fun v s₁ gs' hb hv => ?_)
    · obtain ⟨rfl, hp⟩ := hx
      show wpAny _ _ (newExc (.type "StopIteration") [] >>= _) _ _ _
      refine wpAny_bind ?_
      simp only [newExc, newTuple]
      refine wpAny_bind (wpAny_newObj_type ?_ (by size_fits))
      refine wpAny_bind (m := firstArgMember _ _) (wpAny_of_eq (a := Value.none) (by first | rfl | (simp only [firstArgMember]; rfl)) ?_)
      refine wpAny_newObj_type ?_ (by size_fits)
      simp only [raiseNew]
      refine wpAny_bind (wpAny_bind (wpAny_handled ?_))
      rw [show A.in1.handled = none from hh]
      refine wpAny_throw ?_
      refine wpAny_bind (wpAny_isInstance (T := "StopIteration") (b := true) ⟨_, Heap.get?_push_size _ rfl, rfl⟩ isSubtype_stop ?_)
      exact wpAny_pure (hP s₁ hp _ fun b o hb => Heap.get?_push_of_some _ (Heap.get?_push_of_some _ hb))
    · exact wpAny_pure ⟨v, rfl, wpAny_pure (hY v s₁ gs' hb hv)⟩
end

/-- what _iter_escaped_chars tells: the place and the unit -/
def escGo : Nat → Bool → List Nat → List (Nat × List Nat)
  | i, true, [] => [(i - 1, [92])]
  | _, false, [] => []
  | i, true, c :: r => (i, [92, c]) :: escGo (i + 1) false r
  | i, false, c :: r => if c = 92 then escGo (i + 1) true r else (i, [c]) :: escGo (i + 1) false r
def unitsOf (x : Str) : List (Nat × List Nat) := escGo 0 false x.cps.toList
abbrev unitO (u : Nat × List Nat) (t t' : Tok) : Obj := tupO [.int u.1 t, .str ⟨u.2.toArray⟩ t']

abbrev Under (hB : Heap) (h : Heap) : Prop := ∀ b o, hB.get? b = some o → h.get? b = some o
def genY (hB : Heap) (C e it : Addr) (us : List (Nat × List Nat)) : Protocol := fun m s₀ v s kap =>
  ∃ (u : Nat × List Nat) (T : Addr) (t t' : Tok) (oC oe oi : Obj), us[us.length - 1 - m]? = some u ∧ v = .ref T ∧ s.heap.get? T = some (unitO u t t') ∧ s₀.heap.objs.size ≤ T ∧ T ≠ e ∧ T ≠ it ∧ SinceW [C, e, it] s₀ s ∧
    s.heap.get? C = some oC ∧ s.heap.get? e = some oe ∧ s.heap.get? it = some oi ∧
    ∀ (s'' : Shared), Under hB s''.heap → s''.heap.get? C = some oC → s''.heap.get? e = some oe → s''.heap.get? it = some oi → kap (.send .none) s''
abbrev genP (C e it : Addr) : Nat → Shared → Shared → Prop := fun n s₀ s₁ => n = 0 ∧ SinceW [C, e, it] s₀ s₁
abbrev genR (C e it : Addr) : GenEnd := fun n s₀ r s₁ => r = .ok (.ret .none) ∧ genP C e it n s₀ s₁

def GenSt (prog : Program) (w : World) (A : Around) (hB : Heap) (a : Addr) (g : Nat) (us : List (Nat × List Nat)) (j : Nat) (own : Led) (s : Shared) : Prop :=
  ∃ C oC oa gs rest, own = (C, oC) :: (a, oa) :: rest ∧ Holds s.heap own ∧ s.heap.IsGen a g ∧ s.gens[g]? = some gs ∧ (C ≠ a ∧ hB.get? C = none) ∧
    ((j = 0 ∧ rest = [] ∧ ∀ s'' : Shared, Under hB s''.heap → s''.heap.get? C = some oC → s''.heap.get? a = some oa →
        gs.Goes (model prog w) A.in1 (genR C (s''.heap.objs.size + 1) s''.heap.objs.size) (genY hB C (s''.heap.objs.size + 1) s''.heap.objs.size us) us.length (.send .none) s'') ∨
     (0 < j ∧ ∃ e it oe oi, rest = [(e, oe), (it, oi)] ∧ e ≠ a ∧ it ≠ a ∧ hB.get? e = none ∧ hB.get? it = none ∧ ∀ s'' : Shared, Under hB s''.heap → s''.heap.get? C = some oC → s''.heap.get? e = some oe → s''.heap.get? it = some oi →
        gs.Goes (model prog w) A.in1 (genR C e it) (genY hB C e it us) (us.length - j) (.send .none) s''))

theorem none_of_le {hB h : Heap} {b : Addr} (hU : Under hB h) (hb : h.objs.size ≤ b) : hB.get? b = none := by
  cases q : hB.get? b with
  | none => rfl
  | some o => exact absurd (Heap.lt_size (hU _ _ q)) (Nat.not_lt.mpr hb)
theorem bare_set {gens : Array GenState} {g : Nat} {x : GenState} (h : AllBare gens) (hx : x.bare = true) : AllBare (gens.setIfInBounds g x) := fun y hy => by
  rcases Array.mem_or_eq_of_mem_setIfInBounds hy with h1 | rfl
  · exact h y h1
  · exact hx

theorem iter_gen {prog : Program} {w : World} {A : Around} {hB : Heap} (hh : A.handled = none) (hroom : A.depth < recursionLimit) (hl : hB.NoLimit) (tgt : PySem.Expr) (a : Addr) (g : Nat) (us : List (Nat × List Nat)) :
    Iter prog w A (Under hB) (fun s s' => s'.gens = s.gens) tgt (.ref a) us.length (fun j v extra => ∃ u T t t', us[j]? = some u ∧ v = .ref T ∧ extra = [(T, unitO u t t')]) (GenSt prog w A hB a g us) where
  next := fun j own s Q E hj st hU hQ => by
    obtain ⟨C, oC, oa, gs, rest, rfl, hH, hg, hgs, ⟨hCa, hC0⟩, hcase⟩ := st
    -- both cases in one shape
    have key : ∃ e it, (e = s.heap.objs.size + 1 ∧ it = s.heap.objs.size ∨ ∃ oe oi, rest = [(e, oe), (it, oi)]) ∧ e ≠ a ∧ it ≠ a ∧ hB.get? e = none ∧ hB.get? it = none ∧ gs.Goes (model prog w) A.in1 (genR C e it) (genY hB C e it us) (us.length - j) (.send .none) (s.setGen g .running) := by
      rcases hcase with ⟨rfl, rfl, hgo⟩ | ⟨hj0, e, it, oe, oi, rfl, hea, hia, he0, hi0, hgo⟩
      · have lt : a < s.heap.objs.size := Heap.lt_size (hH _ (.tail _ (.head _)))
        exact ⟨_, _, .inl ⟨rfl, rfl⟩, Nat.ne_of_gt (Nat.lt_succ_of_lt lt), Nat.ne_of_gt lt, none_of_le hU (Nat.le_succ _), none_of_le hU (Nat.le_refl _), hgo (s.setGen g .running) hU (hH _ (.head _)) (hH _ (.tail _ (.head _)))⟩
      · exact ⟨e, it, .inr ⟨oe, oi, rfl⟩, hea, hia, he0, hi0, hgo (s.setGen g .running) hU (hH _ (.head _)) (hH _ (.tail _ (.tail _ (.head _)))) (hH _ (.tail _ (.tail _ (.tail _ (.head _)))))⟩
    obtain ⟨e, it, hei, hea, hia, he0, hi0, hgo⟩ := key
    obtain ⟨m, hm⟩ : ∃ m, us.length - j = m + 1 := ⟨us.length - j - 1, by omega⟩
    rw [hm] at hgo
    have hlim : s.heap.NoLimit := hl.keeps hU
    obtain ⟨og, nm, qn, hog, hcg, hdg, hsg⟩ := id hg
    have eoa : oa = og := by have := hH (a, oa) (.tail _ (.head _)); rw [hog] at this; exact (Option.some.inj this).symm
    subst eoa
    refine pyNext_gen (P := genP C e it) hh hlim hroom hg hgs hgo (fun v s₁ gs' hb hv => ?_) (fun s₁ hp h' hk => ?_)
    · obtain ⟨u, T, t, t', oC', oe', oi', hu, rfl, hT, hTs, hTe, hTi, ⟨h₁, tk₁, rfl, hk₁⟩, hC', he', hi', hkap⟩ := hv
      have hidx : us.length - 1 - (m + 1 - 1) = j := by omega
      rw [hidx] at hu
      have haC : a ∉ [C, e, it] := fun hm => by
        rcases List.mem_cons.mp hm with q | hm
        · exact hCa q.symm
        · rcases List.mem_cons.mp hm with q | hm
          · exact hea q.symm
          · exact hia (List.mem_singleton.mp hm).symm
      have hoa : h₁.get? a = some oa := hk₁ a oa haC (hH _ (.tail _ (.head _)))
      have hgl : g < s.gens.size := by
        rcases Nat.lt_or_ge g s.gens.size with h' | h'
        · exact h'
        · rw [Array.getElem?_eq_none h'] at hgs; cases hgs
      refine ⟨_, rfl, letOwned_off hoa hcg hdg (by decide) ?_⟩
      refine hQ _ [(T, unitO u t t')] [(C, oC'), (a, oa), (e, oe'), (it, oi')] _ ⟨u, T, t, t', hu, rfl, rfl⟩ ⟨C, oC', oa, gs', [(e, oe'), (it, oi')], rfl, ?_, ⟨oa, nm, qn, hoa, hcg, hdg, hsg⟩, ?_, ⟨hCa, hC0⟩, .inr ⟨Nat.succ_pos _, e, it, oe', oi', rfl, hea, hia, he0, hi0, fun s'' a1 a2 a3 a4 => ?_⟩⟩ (Holds.cons hT .nil) ?_ ?_ ⟨fun b o hb q => ?_, rfl, fun hbare => ?_⟩
      · exact Holds.cons hC' (Holds.cons hoa (Holds.cons he' (Holds.cons hi' .nil)))
      · show ((s.gens.setIfInBounds g .running).setIfInBounds g gs')[g]? = some gs'
        simp [hgl]
      · have e2 : us.length - (j + 1) = m := by omega
        rw [e2]; exact hkap s'' a1 a2 a3 a4
      · intro p hp
        rw [List.mem_singleton.mp hp]
        refine ⟨hTs, fun hm => ?_⟩
        simp only [List.map_cons, List.map_nil] at hm
        rcases List.mem_cons.mp hm with q | hm
        · exact absurd (Heap.lt_size (hH (C, oC) (.head _))) (by rw [← q]; exact Nat.not_lt.mpr hTs)
        · rcases List.mem_cons.mp hm with q | hm
          · exact absurd (Heap.lt_size (hH (a, oa) (.tail _ (.head _)))) (by rw [← q]; exact Nat.not_lt.mpr hTs)
          · rcases List.mem_cons.mp hm with q | hm
            · exact hTe q
            · exact hTi (List.mem_singleton.mp hm)
      · intro p hp
        rcases hei with ⟨rfl, rfl⟩ | ⟨oe, oi, rfl⟩
        · rcases List.mem_cons.mp hp with rfl | hp
          · exact .inl (by simp)
          · rcases List.mem_cons.mp hp with rfl | hp
            · exact .inl (by simp)
            · rcases List.mem_cons.mp hp with rfl | hp
              · exact .inr (Nat.le_succ _)
              · rw [List.mem_singleton.mp hp]; exact .inr (Nat.le_refl _)
        · rcases List.mem_cons.mp hp with rfl | hp
          · exact .inl (by simp)
          · rcases List.mem_cons.mp hp with rfl | hp
            · exact .inl (by simp)
            · rcases List.mem_cons.mp hp with rfl | hp
              · exact .inl (by simp)
              · rw [List.mem_singleton.mp hp]; exact .inl (by simp)
      · refine hk₁ b o (fun hm => ?_) q
        rcases List.mem_cons.mp hm with z | hm
        · exact hb (by simp [z])
        · rcases hei with ⟨rfl, rfl⟩ | ⟨oe, oi, rfl⟩
          · have hbl := Heap.lt_size q
            rcases List.mem_cons.mp hm with z | hm
            · rw [z] at hbl; exact absurd hbl (Nat.not_lt.mpr (Nat.le_succ _))
            · rw [List.mem_singleton.mp hm] at hbl; exact absurd hbl (Nat.lt_irrefl _)
          · rcases List.mem_cons.mp hm with z | hm
            · exact hb (by simp [z])
            · exact hb (by simp [List.mem_singleton.mp hm])
      · exact bare_set (bare_set hbare rfl) hb
    · exact absurd hp.1 (Nat.succ_ne_zero m)
  done := fun own s Q E st hU hQ => by
    obtain ⟨C, oC, oa, gs, rest, rfl, hH, hg, hgs, ⟨hCa, hC0⟩, hcase⟩ := st
    have key : ∃ e it, (e = s.heap.objs.size + 1 ∧ it = s.heap.objs.size ∨ ∃ oe oi, rest = [(e, oe), (it, oi)]) ∧ hB.get? e = none ∧ hB.get? it = none ∧ gs.Goes (model prog w) A.in1 (genR C e it) (genY hB C e it us) 0 (.send .none) (s.setGen g .running) := by
      rcases hcase with ⟨hj, rfl, hgo⟩ | ⟨hj0, e, it, oe, oi, rfl, hea, hia, he0, hi0, hgo⟩
      · have := hgo (s.setGen g .running) hU (hH _ (.head _)) (hH _ (.tail _ (.head _)))
        rw [hj] at this
        exact ⟨_, _, .inl ⟨rfl, rfl⟩, none_of_le hU (Nat.le_succ _), none_of_le hU (Nat.le_refl _), this⟩
      · have := hgo (s.setGen g .running) hU (hH _ (.head _)) (hH _ (.tail _ (.tail _ (.head _)))) (hH _ (.tail _ (.tail _ (.tail _ (.head _)))))
        rw [Nat.sub_self] at this
        exact ⟨e, it, .inr ⟨oe, oi, rfl⟩, he0, hi0, this⟩
    obtain ⟨e, it, hei, he0, hi0, hgo⟩ := key
    refine pyNext_gen (P := genP C e it) hh (hl.keeps hU) hroom hg hgs hgo (fun v s₁ gs' hb hv => ?_) (fun s₁ hp h' hk => ?_)
    · obtain ⟨u, T, t, t', oC', oe', oi', hu, rfl, hT, hTs, hTe, hTi, ⟨h₁, tk₁, rfl, hk₁⟩, hC', he', hi', hkap⟩ := hv
      refine (hkap _ (fun b o q => hk₁ b o (fun hm => ?_) (hU b o q)) hC' he' hi').elim
      rcases List.mem_cons.mp hm with z | hm
      · rw [z, hC0] at q; cases q
      · rcases List.mem_cons.mp hm with z | hm
        · rw [z, he0] at q; cases q
        · rw [List.mem_singleton.mp hm, hi0] at q; cases q
    · obtain ⟨_, h₁, tk₁, rfl, hk₁⟩ := hp
      refine ⟨rfl, hQ _ ⟨fun b o hb q => hk b o (hk₁ b o (fun hm => ?_) q), rfl, fun hbare => bare_set (bare_set hbare rfl) rfl⟩⟩
      rcases List.mem_cons.mp hm with z | hm
      · exact hb (by simp [z])
      · rcases hei with ⟨rfl, rfl⟩ | ⟨oe, oi, rfl⟩
        · have hbl := Heap.lt_size q
          rcases List.mem_cons.mp hm with z | hm
          · rw [z] at hbl; exact absurd hbl (Nat.not_lt.mpr (Nat.le_succ _))
          · rw [List.mem_singleton.mp hm] at hbl; exact absurd hbl (Nat.lt_irrefl _)
        · rcases List.mem_cons.mp hm with z | hm
          · exact hb (by simp [z])
          · exact hb (by simp [List.mem_singleton.mp hm])
  keep := fun j own s s' st hk hG => by
    obtain ⟨C, oC, oa, gs, rest, rfl, hH, hg, hgs, hCa, hcase⟩ := st
    obtain ⟨og, nm, qn, hog, hcg, hdg, hsg⟩ := id hg
    have eoa : oa = og := by have := hH (a, oa) (.tail _ (.head _)); rw [hog] at this; exact (Option.some.inj this).symm
    subst eoa
    exact ⟨C, oC, oa, gs, rest, rfl, hk, ⟨oa, nm, qn, hk _ (.tail _ (.head _)), hcg, hdg, hsg⟩, by rw [hG]; exact hgs, hCa, hcase⟩
  holds := fun j own s st => by
    obtain ⟨C, oC, oa, gs, rest, rfl, hH, _⟩ := st
    exact hH
  self := fun j own s Q E st hQ => by
    obtain ⟨C, oC, oa, gs, rest, rfl, hH, hg, _⟩ := st
    exact wpAny_pyIter_gen hg hQ
end Mine

end

section
open PySem PySem.W PyProof.Rows PySem.Calls
set_option maxRecDepth 100000
namespace Mine
section
variable {prog : Program} {w : World} {A : Around} {E : Value → Shared → Prop} {s : Shared}

theorem gen_enter {f : Addr} {vals : List Value} {Q : Value → Shared → Prop} {K : Frag}
  {oc : Value} {od : Option Addr} {osl : Array (Option Value)} {name : Str} {params : Arguments} {body : List Stmt} {scope : Scope} {pm cd doc : Value} (binds : List (Str × Value))
  (X : K.In s.heap) (hlim : s.heap.NoLimit) (hroom : A.depth < recursionLimit)
  (ho : K.lookup f = some ⟨oc, od, .func (docDef name params body scope pm cd doc), osl⟩)
  (hcd : codeIn K cd name = true)
  (hbind : bindArgs (docDef name params body scope pm cd doc) ⟨vals, []⟩ = pure binds)
  (hloc : (binds.all fun x => decide (scope.names.lookup x.1 = some .local)) = true)
  (h : ∀ C a g oC s', s.heap.objs.size = C → C < a → (∀ s'' : Shared, s''.heap.get? C = some oC → s''.heap.Ns C (fun x => binds.reverse.lookup x)) → s'.heap.get? C = some oC → s'.heap.IsGen a g →
     s'.gens[g]? = some (.fresh (.func body (envOf name scope C f cd))) → Ext s s' → Q (.ref a) s')
  (hco : scope.isCoroutine = false := by rfl) (hgen : scope.isGenerator = true := by rfl) (hk : scope.kind = .function := by rfl)
  (hcell : ∀ x ∈ scope.names, x.2 ≠ .cell := by decide) :
  wpAny (model prog w) A (call (.ref f) vals) Q E s := by
  refine wpAny_call (codeAny_call_generator (body := body) hroom (X _ _ ho) rfl hco hgen rfl (codeRec_of X hcd) ?_)
  rw [hbind]
  refine wpAny_pure (wpAny_newFunctionEnv hcell (locs hloc) (fun h₁ hns hsb => ⟨hlim.fresh _ hsb, ?_⟩) hk)
  obtain ⟨oC, hoC, nC⟩ := LCg.ns_obj hns
  have lt : s.heap.objs.size < h₁.objs.size := Heap.lt_size hoC
  have old : ∀ b o, s.heap.get? b = some o → h₁.get? b = some o := fun b o e => hsb.extBut b o (Nat.ne_of_lt (Heap.lt_size e)) (Heap.get?_push_of_some _ e)
  refine h s.heap.objs.size h₁.objs.size s.gens.size oC _ rfl lt (fun s'' e => nC.ns e) (Heap.get?_push_of_some _ hoC) ⟨_, _, _, Heap.get?_push_size _ rfl, rfl, rfl, rfl⟩ ?_ ⟨fun b o e => Heap.get?_push_of_some _ (old b o e), rfl, fun hb => hb.push rfl⟩
  show (s.gens.push _)[s.gens.size]? = _
  rw [Array.getElem?_push_size]
  rfl
end


section
variable {M : Model} {A : Around} {E : Value → Shared → Prop} {s : Shared} {env : Env}
theorem g_store {W : List Addr} {hB : Heap} {s₀ : Shared} {x : Str} {v : Value} {m : Str → Option Value} {Q : Unit → Shared → Prop} (S : SinceW W s₀ s) (F : Fr hB env.locals s.heap m) (hC : env.locals ∈ W)
    (h : ∀ h', SinceW W s₀ { s with heap := h', toks := s.toks + 1 } → Fr hB env.locals h' (fun y => if y = x then some v else m y) → Heap.SameBut env.locals s.heap h' → Q () { s with heap := h', toks := s.toks + 1 })
    (hl : env.kindOf x = some .local := by rfl) (hp : (env.scope.kind == .class || (env.scope.kind == .module && env.locals != env.globals)) = false := by rfl) :
    wpAny M A (storeName env x v) Q E s :=
  wpAny_storeName_local hl F.ns (fun h' hn hs => h h' (S.step fun b o hb e => hs.extBut b o (fun q => hb (by rw [show b = env.locals from q]; exact hC)) e) (F.set hn hs) hs) hp
theorem g_name {hB : Heap} {x : Str} {pos : Pos} {v : Value} {m : Str → Option Value} {Q : Value → Shared → Prop} (F : Fr hB env.locals s.heap m) (hv : m x = some v) (h : Q v s)
    (hk : env.scope.kind = .function := by rfl) (hl : env.kindOf x = some .local := by rfl) (hd : (x == ("__debug__" : Str)) = false := by decide) : wpAny M A (eval (.Name x pos) env) Q E s :=
  wpAny_Name (wpAny_loadName_local hk hl F.ns hv h) hd
end

theorem warm2 (w : World) (h : Heap) (X : (hd.heap_39 w.params).In h) : Challenge.rw_wo0010_01.prog = Challenge.rw_wo0010_01.prog := by revert X; k_fill; intro _; rfl

abbrev gmap (x : Str) (t : Tok) (esc : Bool) (p : Int) (tp : Tok) (och : Option Value) : Str → Option Value := fun y =>
  if y = Str.ofString "ch" then och else if y = Str.ofString "pos" then some (.int p tp) else if y = Str.ofString "escape" then some (.bool esc) else if y = Str.ofString "addr" then some (.str x t) else none

theorem escGo_idx {us pre r : List (Nat × List Nat)} {u : Nat × List Nat} (h : us = pre ++ u :: r) : us[us.length - 1 - r.length]? = some u := by
  subst h
  have : (pre ++ u :: r).length - 1 - r.length = pre.length := by simp only [List.length_append, List.length_cons]; omega
  rw [this]; simp

theorem str_cat1 (c : Nat) : Str.ofString "\\" ++ (⟨#[c]⟩ : Str) = ⟨[92, c].toArray⟩ := by
  show Str.mk _ = Str.mk _
  rfl

theorem gmap_init (x : Str) (t tk : Tok) : (fun y => if y = Str.ofString "escape" then some (.bool false) else if y = Str.ofString "pos" then some (.int 0 tk) else [(Str.ofString "addr", Value.str x t)].reverse.lookup y) = gmap x t false 0 tk none := by
  funext y
  by_cases h1 : y = Str.ofString "ch"
  · subst h1; rfl
  by_cases h2 : y = Str.ofString "pos"
  · subst h2; rfl
  by_cases h3 : y = Str.ofString "escape"
  · subst h3; rfl
  by_cases h4 : y = Str.ofString "addr"
  · subst h4; rfl
  have : (y == Str.ofString "addr") = false := by simpa using h4
  simp [gmap, h1, h2, h3, h4, List.lookup, this]
theorem gmap_upd (x : Str) (t : Tok) (esc esc' : Bool) (p p' : Int) (tp tp' : Tok) (och : Option Value) (vc : Value) :
    (fun y => if y = Str.ofString "escape" then some (.bool esc') else if y = Str.ofString "ch" then some vc else if y = Str.ofString "pos" then some (.int p' tp') else gmap x t esc p tp och y) = gmap x t esc' p' tp' (some vc) := by
  funext y
  by_cases h1 : y = Str.ofString "ch"
  · subst h1; rfl
  by_cases h2 : y = Str.ofString "pos"
  · subst h2; rfl
  by_cases h3 : y = Str.ofString "escape"
  · subst h3; rfl
  by_cases h4 : y = Str.ofString "addr"
  · subst h4; rfl
  simp [gmap, h1, h2, h3, h4]
theorem gmap_upd0 (x : Str) (t : Tok) (esc : Bool) (p p' : Int) (tp tp' : Tok) (och : Option Value) (vc : Value) :
    (fun y => if y = Str.ofString "ch" then some vc else if y = Str.ofString "pos" then some (.int p' tp') else gmap x t esc p tp och y) = gmap x t esc p' tp' (some vc) := by
  funext y
  by_cases h1 : y = Str.ofString "ch"
  · subst h1; rfl
  by_cases h2 : y = Str.ofString "pos"
  · subst h2; rfl
  simp [gmap, h1, h2]

theorem str_one (c : Nat) : ((⟨#[c]⟩ : Str) == Str.ofString "\\") = decide (c = 92) := by
  by_cases h : c = 92
  · subst h; decide
  · rw [decide_eq_false h]
    refine beq_eq_false_iff_ne.mpr fun e => h ?_
    have : (#[c] : Array Nat) = #[92] := congrArg Str.cps e
    have := congrArg (fun a => a[0]?) this
    simpa using this
theorem seg_leaf_next {M : Model} {A : Around} {R : GenEnd} {Y : Protocol} {n : Nat} {s₀ : Shared} {c c₁ : Code} {p₁ : Pos} {fs : List Frame} {s : Shared} {env : Env} {g : Bool} {l kp : List Value} {hd : Option Value}
    {K : Flow → Sem Fin} {H : Value → Sem Fin} {gd : Bool → Bool} {lv : List Value → List Value} (h : Seg M A R Y n s₀ c₁ (K .next) fs s) :
    Seg M A R Y n s₀ c (.pure (.done .next)) (.ret (fun r => ((match r with | .ok f => (.pure f : Sem Flow) | .error e => .raise e).onRaise fun (x : Value) => do
        if (← field x 1) == Value.none then unsupported "frame.own-activation:exception-without-traceback"
        setFlight x env.frame).wrap K H gd lv) hd g l c₁ p₁ kp :: fs) s := seg_leaf (.ok .next) h

def GJ (x : Str) (t : Tok) (i k : Nat) (m : Str → Option Value) : Prop := ∃ esc p tp och, m = gmap x t esc p tp och ∧ (esc = true → 0 < i ∧ p = ((i - 1 : Nat) : Int)) ∧ k = (escGo i esc (x.cps.toList.drop i)).length ∧
  ∃ pre, unitsOf x = pre ++ escGo i esc (x.cps.toList.drop i)

set_option maxHeartbeats 4000000 in
theorem gen_call {w : World} {A : Around} {s : Shared} {hB : Heap} {x : Str} {t : Tok} {Q E : Value → Shared → Prop} {mean mg mb} (hx : x.cps.all (· < 128) = true)
  (X : (hd.heap_39 w.params).In hB) (T : Top hd.view_39 (looseW hd.view_39 [Str.ofString "_twin_re_1"]) mean mg mb hB) (U : Under hB s.heap) (hz0 : hB.objs.size ≤ s.heap.objs.size) (hroom : A.depth < recursionLimit)
  (h : ∀ a g own s', (∀ A' : Around, A'.handled = none → A'.depth < recursionLimit → GenSt TP w A' hB a g (unitsOf x) 0 own s') → s'.heap.IsGen a g → Holds s'.heap own → (∀ p ∈ own, s.heap.objs.size ≤ p.1) → Ext s s' → Q (.ref a) s') :
  wpAny (model TP w) A (call (.ref 38) [.str x t]) Q E s := by
  refine gen_enter [(Str.ofString "addr", .str x t)] (X.keeps U) (T.nolimit.keeps U) hroom (by k_dflt k_is) (by k_dflt k_is) rfl rfl ?_
  intro C a g oC s' hC hCa nC hoC hg hgs hE
  obtain ⟨oa, nm, qn, hoa, hca, hda, hsa⟩ := id hg
  have hC0 : hB.get? C = none := none_of_le U (Nat.le_of_eq hC)
  refine h a g [(C, oC), (a, oa)] s' (fun A' hh' hr' => ⟨C, oC, oa, _, [], rfl, Holds.cons hoC (Holds.cons hoa .nil), hg, hgs, ⟨Nat.ne_of_lt hCa, hC0⟩, .inl ⟨rfl, rfl, fun s'' hU hC'' ha'' => ⟨rfl, ?_⟩⟩⟩) hg (Holds.cons hoC (Holds.cons hoa .nil)) (fun p hp => ?_) hE
  · refine seg_func ?_
    have hCl : C < s''.heap.objs.size := Heap.lt_size hC''
    have F : Fr hB C s''.heap _ := ⟨nC s'' hC'', hU, ?_⟩
    · generalize he : s''.heap.objs.size + 1 = e
      generalize hi : s''.heap.objs.size = it
      have hei : e ≠ it := by omega
      have heC : e ≠ C := by omega
      have hiC : it ≠ C := by omega
      have he0 : hB.get? e = none := none_of_le hU (by omega)
      have hi0 : hB.get? it = none := none_of_le hU (by omega)
      refine seg_execs_cons (seg_exec (wpAny_Assign_Name (wpAny_Constant_int ?_)))
      refine g_store (W := [C, e, it]) (hB := hB) (s₀ := s'') ((SinceW.refl _ s'').step fun _ _ _ q => q) F (by simp [envOf]) fun h₁ S₁ F₁ hs₁ => ?_
      refine seg_execs_cons (seg_exec (wpAny_Assign_Name (wpAny_Constant_bool ?_)))
      refine g_store (W := [C, e, it]) (hB := hB) (s₀ := s'') S₁ F₁ (by simp [envOf]) fun h₂ S₂ F₂ hs₂ => ?_
      have hz : h₂.objs.size = it := by rw [hs₂.1, hs₁.1]; exact hi
      refine seg_execs_cons (seg_For ?_)
      refine wpAny_Call_NameR (Name_function_global rfl rfl (loadGlobal_builtin (T.g.keeps F₂.keep) (mg_none_of X T.g (by k_dflt k_is)) (T.b.keeps F₂.keep) ((T.builtins _ (by decide)).trans boot_enumerate) ?_))
      refine PyProof.Rows.callWith_type rfl (evalArgs_plain (spliced_cons (g_name F₂ rfl (spliced_nil ?_))))
      refine call_enumerate_str fun h₃ he₃ hi₃ hz₃ hk₃ => ?_
      rw [hz] at he₃ hi₃
      have hk₃' : ∀ b o, h₂.get? b = some o → h₃.get? b = some o := hk₃
      rw [show ({ heap := h₂, gens := s''.gens, drawn := s''.drawn, toks := s''.toks + 1 + 1 + 1, os := s''.os } : Shared).heap.objs.size = it from hz]
      rw [show it + 1 = e by omega] at he₃ ⊢
      refine wpAny_pyIter_enum he₃ fun p => ?_
      obtain ⟨oi, hoi, hci, hdi⟩ := hi₃
      have hty : strIterType x = "str_ascii_iterator" := by simp [strIterType, hx]
      rw [hty] at hci
      have F₃ : Fr hB C h₃ _ := F₂.keeps hk₃'
      refine gen_enum_loop (J := GJ x t) (hB := hB) (x := x) (t := t) (it := it) ?_ hei heC hiC he0 hi0 ?_ ?_ x.cps.size 0 _ _ _ _ _ oi (Nat.sub_zero _) (Nat.zero_le _) ?_ (by show _ ≤ h₃.objs.size; rw [hz₃]; show _ ≤ h₂.objs.size + 2; omega) (S₂.step fun b o _ q => hk₃' b o q) F₃ he₃ hoi hci hdi
      · exact hh'
      · rintro i c k m s₀ s₁ Ta t1 t2 oe oit hc ⟨esc, p, tp, och, rfl, hesc, rfl, pre, hpre⟩ S F N hsz again
        have hci : i < x.cps.size := (Array.getElem?_eq_some_iff.mp hc).1
        have hdrop : x.cps.toList.drop i = c :: x.cps.toList.drop (i + 1) := by
          rw [List.drop_eq_getElem_cons (by simpa using hci)]
          congr 1
          have := (Array.getElem?_eq_some_iff.mp hc).2
          simpa using this
        rw [hdrop] at hpre ⊢
        have zT := N _ (.head _)
        have ze := (N _ (.tail _ (.head _))).1
        have zi := (N _ (.tail _ (.tail _ (.head _)))).1
        have Tlt := Heap.lt_size zT.1
        have elt := Heap.lt_size ze
        have ilt := Heap.lt_size zi
        have ht : IsTup s₁.heap Ta #[.int i t1, .str ⟨#[c]⟩ t2] := ⟨_, zT.1, rfl, _, rfl⟩
        refine assign_Tuple_tuple (by exact hh') ht rfl rfl fun h₄ hx₄ => ?_
        have hx₄' : ∀ b o, s₁.heap.get? b = some o → h₄.get? b = some o := fun b o q => hx₄ b o (Nat.ne_of_lt (Heap.lt_size q)) q
        refine assignInOrder_cons (wpAny_assign_Name (g_store (W := [C, e, it]) (hB := hB) (s₀ := s₀) (S.step fun b o _ q => hx₄' b o q) (F.keeps hx₄') (by simp [envOf]) fun h₅ S₅ F₅ hs₅ => ?_))
        refine assignInOrder_cons (wpAny_assign_Name (g_store (W := [C, e, it]) (hB := hB) (s₀ := s₀) S₅ F₅ (by simp [envOf]) fun h₆ S₆ F₆ hs₆ => ?_))
        refine assignInOrder_nil ?_
        have he₆ : h₆.get? e = some oe := hs₆.extBut _ _ heC (hs₅.extBut _ _ heC (hx₄' _ _ ze))
        have hi₆ : h₆.get? it = some oit := hs₆.extBut _ _ hiC (hs₅.extBut _ _ hiC (hx₄' _ _ zi))
        obtain ⟨oC₆, gC₆, nC₆⟩ := LCg.ns_obj F₆.ns
        have hT₆ := hs₆.extBut _ _ zT.2.1 (hs₅.extBut _ _ zT.2.1 (hx₄' _ _ zT.1))
        have hz₆ : Ta < h₆.objs.size := Heap.lt_size hT₆
        refine seg_execs_cons (seg_If ?_)
        refine isTrue_plain (g_name F₆ (v := .bool esc) rfl (wpAny_truthy_bool ?_))
        cases esc with
        | true =>
          rw [if_pos rfl]
          show Seg _ _ _ _ (((i, [92, c]) :: escGo (i + 1) false (x.cps.toList.drop (i + 1))).length) _ _ _ _ _
          have hpre' : unitsOf x = pre ++ (i, [92, c]) :: escGo (i + 1) false (x.cps.toList.drop (i + 1)) := hpre
          refine seg_execs_cons (seg_Expr_Yield rfl rfl rfl ?_)
          refine Tuple_ (spliced_cons (g_name F₆ (v := .int i t1) rfl (spliced_cons (wpAny_BinOp (wpAny_Constant_str (g_name F₆ (v := .str ⟨#[c]⟩ t2) rfl (add_str (fun t' tk => spliced_nil ?_) (by show (1 : Nat) + 1 ≤ sizeLine; decide))))))))
          refine wpAny_newTuple ?_ (Nat.le_of_ble_eq_true rfl)
          intro kap hkap
          refine ⟨(i, [92, c]), _, t1, t', _, oe, oit, escGo_idx hpre', rfl, ?_, ?_, ?_, ?_, ?_, Heap.get?_push_of_some _ gC₆, Heap.get?_push_of_some _ he₆, Heap.get?_push_of_some _ hi₆, fun s₇ hU₇ hC₇ he₇ hi₇ => hkap .none s₇ ?_⟩
          · refine (Heap.get?_push_size _ rfl).trans ?_
            rw [str_cat1]
          · exact Nat.le_trans hsz (Nat.le_of_lt hz₆)
          · exact Nat.ne_of_gt (Heap.lt_size he₆)
          · exact Nat.ne_of_gt (Heap.lt_size hi₆)
          · exact S₆.step fun b o _ q => Heap.get?_push_of_some _ q
          · show Seg _ _ _ _ _ _ _ _ _ _
            refine seg_execs_cons (seg_exec (wpAny_Assign_Name (wpAny_Constant_bool ?_)))
            have F₇ : Fr hB C s₇.heap _ := ⟨nC₆.ns hC₇, hU₇, F₆.above⟩
            refine g_store (W := [C, e, it]) (hB := hB) (s₀ := s₇) (SinceW.refl _ s₇) F₇ (by simp [envOf]) fun h₈ S₈ F₈ hs₈ => ?_
            refine seg_execs_nil ?_
            refine seg_again rfl (again _ _ _ _ ⟨false, _, _, _, gmap_upd .., (fun q => by cases q), rfl, pre ++ [(i, [92, c])], (by rw [hpre']; simp)⟩ (by show _ ≤ h₈.objs.size; rw [hs₈.1]; exact Nat.le_refl _) S₈ F₈ (hs₈.extBut _ _ heC he₇) (hs₈.extBut _ _ hiC hi₇))
        | false =>
          rw [if_neg Bool.false_ne_true]
          refine seg_execs_cons (seg_If ?_)
          refine wpAny_isTrue_Compare1 (g_name F₆ (v := .str ⟨#[c]⟩ t2) rfl (wpAny_Constant_str (eq_str (wpAny_truthy_bool ?_))))
          rw [str_one]
          by_cases hc92 : c = 92
          · rw [decide_eq_true hc92, if_pos rfl]
            have hk : escGo i false (c :: x.cps.toList.drop (i + 1)) = escGo (i + 1) true (x.cps.toList.drop (i + 1)) := by rw [escGo, if_pos hc92]
            rw [hk] at hpre ⊢
            refine seg_execs_cons (seg_exec (wpAny_Assign_Name (wpAny_Constant_bool ?_)))
            refine g_store (W := [C, e, it]) (hB := hB) (s₀ := s₀) (S₆.step fun _ _ _ q => q) F₆ (by simp [envOf]) fun h₈ S₈ F₈ hs₈ => ?_
            refine seg_execs_nil (seg_execs_nil ?_)
            refine seg_again rfl (again _ _ _ _ ⟨true, _, _, _, gmap_upd .., (fun _ => ⟨Nat.succ_pos _, rfl⟩), rfl, pre, hpre⟩ ?_ S₈ F₈ (hs₈.extBut _ _ heC he₆) (hs₈.extBut _ _ hiC hi₆))
            show _ ≤ h₈.objs.size
            rw [hs₈.1]; exact Nat.le_trans hsz (Nat.le_of_lt hz₆)
          · rw [decide_eq_false hc92, if_neg Bool.false_ne_true]
            have hk : escGo i false (c :: x.cps.toList.drop (i + 1)) = (i, [c]) :: escGo (i + 1) false (x.cps.toList.drop (i + 1)) := by rw [escGo, if_neg hc92]
            rw [hk] at hpre ⊢
            refine seg_execs_cons (seg_Expr_Yield rfl rfl rfl ?_)
            refine Tuple_ (spliced_cons (g_name F₆ (v := .int i t1) rfl (spliced_cons (g_name F₆ (v := .str ⟨#[c]⟩ t2) rfl (spliced_nil ?_)))))
            refine wpAny_newTuple ?_ (Nat.le_of_ble_eq_true rfl)
            intro kap hkap
            refine ⟨(i, [c]), _, t1, t2, _, oe, oit, escGo_idx hpre, rfl, Heap.get?_push_size _ rfl, ?_, ?_, ?_, ?_, Heap.get?_push_of_some _ gC₆, Heap.get?_push_of_some _ he₆, Heap.get?_push_of_some _ hi₆, fun s₇ hU₇ hC₇ he₇ hi₇ => hkap .none s₇ ?_⟩
            · exact Nat.le_trans hsz (Nat.le_of_lt hz₆)
            · exact Nat.ne_of_gt (Heap.lt_size he₆)
            · exact Nat.ne_of_gt (Heap.lt_size hi₆)
            · exact S₆.step fun b o _ q => Heap.get?_push_of_some _ q
            · show Seg _ _ _ _ _ _ _ _ _ _
              have F₇ : Fr hB C s₇.heap _ := ⟨nC₆.ns hC₇, hU₇, F₆.above⟩
              refine seg_execs_nil (seg_execs_nil ?_)
              exact seg_again rfl (again _ _ s₇ s₇ ⟨false, _, _, _, gmap_upd0 .., (fun q => by cases q), rfl, pre ++ [(i, [c])], (by rw [hpre]; simp)⟩ (Nat.le_refl _) (SinceW.refl _ s₇) F₇ he₇ hi₇)
      · rintro k m s₀ s₁ oe oit ⟨esc, p, tp, och, rfl, hesc, rfl, pre, hpre⟩ hsz S F he₆ hi₆
        have hd0 : x.cps.toList.drop x.cps.size = [] := by simp
        rw [hd0] at hpre ⊢
        refine seg_leaf_next (seg_execs_cons (seg_If ?_))
        refine isTrue_plain (g_name F (v := .bool esc) rfl (wpAny_truthy_bool ?_))
        cases esc with
        | true =>
          rw [if_pos rfl]
          obtain ⟨hpos, rfl⟩ := hesc rfl
          obtain ⟨oC₆, gC₆, nC₆⟩ := LCg.ns_obj F.ns
          refine seg_execs_cons (seg_Expr_Yield rfl rfl rfl ?_)
          refine Tuple_ (spliced_cons (g_name F (v := .int ((x.cps.size - 1 : Nat) : Int) tp) rfl ?_))
          refine spliced_cons (wpAny_Constant_str (k := 0) (pos := ⟨15, 20, 15, 24⟩) ?_)
          refine spliced_nil ?_
          refine wpAny_newTuple ?_ (Nat.le_of_ble_eq_true rfl)
          intro kap hkap
          refine ⟨(x.cps.size - 1, [92]), _, tp, _, _, oe, oit, escGo_idx hpre, rfl, Heap.get?_push_size _ rfl, ?_, ?_, ?_, ?_, Heap.get?_push_of_some _ gC₆, Heap.get?_push_of_some _ he₆, Heap.get?_push_of_some _ hi₆, fun s₇ hU₇ hC₇ he₇ hi₇ => hkap .none s₇ ?_⟩
          · exact hsz
          · exact Nat.ne_of_gt (Heap.lt_size he₆)
          · exact Nat.ne_of_gt (Heap.lt_size hi₆)
          · exact S.step fun b o _ q => Heap.get?_push_of_some _ q
          · show Seg _ _ _ _ _ _ _ _ _ _
            refine seg_execs_nil (seg_execs_nil ?_)
            exact seg_end (.ok (.ret .none)) ⟨rfl, rfl, SinceW.refl _ _⟩
        | false =>
          rw [if_neg Bool.false_ne_true]
          refine seg_execs_nil (seg_execs_nil ?_)
          exact seg_end (.ok (.ret .none)) ⟨rfl, rfl, S⟩
      · exact ⟨false, 0, s''.toks, none, gmap_init .., (fun q => by cases q), by simp [unitsOf], [], by simp [unitsOf]⟩
    · exact Nat.le_trans hz0 (Nat.le_of_eq hC)
  · rcases List.mem_cons.mp hp with rfl | hp
    · exact Nat.le_of_eq hC
    · rw [List.mem_singleton.mp hp]; exact Nat.le_of_lt (hC ▸ hCa)
end Mine

end

section
open PySem PySem.W PyProof.Rows PySem.Calls
set_option maxRecDepth 100000
namespace Mine
noncomputable abbrev LO := looseW hd.view_39 [Str.ofString "_twin_re_1"]
abbrev Asc (x : Str) : Prop := x.cps.all (· < 128) = true
section
variable {prog : Program} {w : World} {A : Around} {E : Value → Shared → Prop} {s : Shared} {env : Env} {h₀ : Heap} {m : Str → Option Value} {news : Led}
theorem assign_nm {x : Str} {px : Pos} {v : Value} {Q : Unit → Shared → Prop} (F : Fr h₀ env.locals s.heap m) (N : News h₀ env.locals s.heap news)
    (h : ∀ h', Fr h₀ env.locals h' (fun y => if y = x then some v else m y) → News h₀ env.locals h' news → Q () { s with heap := h', toks := s.toks + 1 })
    (hl : env.kindOf x = some .local := by rfl) (hp : (env.scope.kind == .class || (env.scope.kind == .module && env.locals != env.globals)) = false := by rfl) :
    wpAny (model prog w) A (assign (.Name x px) env v) Q E s :=
  wpAny_assign_Name (wpAny_storeName_local hl F.ns (fun h' hn hs => h h' (F.set hn hs) (N.set hs)) hp)
theorem assign_pair {x1 x2 : Str} {p1 p2 pos : Pos} {k : Nat} {T : Addr} {v1 v2 : Value} {Q : Unit → Shared → Prop} (hh : A.handled = none) (F : Fr h₀ env.locals s.heap m) (N : News h₀ env.locals s.heap news)
    (ht : (T, tupO [v1, v2]) ∈ news)
    (h : ∀ h', Fr h₀ env.locals h' (fun y => if y = x2 then some v2 else if y = x1 then some v1 else m y) → News h₀ env.locals h' news → Q () { s with heap := h', toks := s.toks + 1 + 1 })
    (hl1 : env.kindOf x1 = some .local := by rfl) (hl2 : env.kindOf x2 = some .local := by rfl) (hp : (env.scope.kind == .class || (env.scope.kind == .module && env.locals != env.globals)) = false := by rfl) :
    wpAny (model prog w) A (assign (.Tuple [.Name x1 p1, .Name x2 p2] k pos) env (.ref T)) Q E s := by
  have hT : IsTup s.heap T #[v1, v2] := ⟨_, N.get ht, rfl, _, rfl⟩
  refine assign_Tuple_tuple hh hT rfl rfl fun h₄ hx₄ => ?_
  have hk : ∀ b o, s.heap.get? b = some o → h₄.get? b = some o := fun b o q => hx₄ b o (Nat.ne_of_lt (Heap.lt_size q)) q
  have N₄ : News h₀ env.locals h₄ news := fun p hp => ⟨hk _ _ (N p hp).1, (N p hp).2⟩
  refine assignInOrder_cons (assign_nm (F.keeps hk) N₄ (fun h₅ F₅ N₅ => ?_) hl1 hp)
  refine assignInOrder_cons (assign_nm F₅ N₅ (fun h₆ F₆ N₆ => assignInOrder_nil (h h₆ F₆ N₆)) hl2 hp)

theorem gen_start {own : Led} {s' : Shared} {L : Addr} (F : Fr h₀ L s.heap m) (N : News h₀ L s.heap news) (X : Ext s s') (hH : Holds s'.heap own) (ho : ∀ p ∈ own, s.heap.objs.size ≤ p.1) :
    Fr h₀ L s'.heap m ∧ News h₀ L s'.heap (news ++ own) ∧ OwnOff own (news.map (·.1)) :=
  ⟨fr_ext F X, news_app (news_ext N X) fun p hp => ⟨hH p hp, fr_ne F (ho p hp), fr_none F (ho p hp)⟩, fun p hp b hb e => by
    obtain ⟨r, hr, e'⟩ := List.mem_map.mp hb
    have h1 := Heap.lt_size (N r hr).1
    rw [show r.1 = p.1 from e'.trans e.symm] at h1
    exact absurd h1 (Nat.not_lt.mpr (ho p hp))⟩
end
end Mine

end

section
open PySem PySem.W PyProof.Rows PySem.Calls
set_option maxRecDepth 100000
set_option linter.all false
namespace Mine
local macro_rules | `(tactic| walk_at "call builtin:list.append") => `(tactic| (k_here; (with_reducible show wpAny _ _ (call (Value.builtin _) [Value.ref _, _]) _ _ _); k_dflt (refine' append_K ?k1 ?k2 ?k3 ?_ ?z; (case k1 => k_asm); (case k2 => k_asm); (case k3 => k_upd); (case z => first | assumption | exact Nat.le_of_ble_eq_true rfl); k_whole); intro h' F' N'; (try k_sweep)))
theorem warm3 (w : World) (h : Heap) (X : (hd.heap_39 w.params).In h) : Challenge.rw_wo0010_01.prog = Challenge.rw_wo0010_01.prog := by revert X; k_fill; intro _; rfl

abbrev stripMap (x : Str) (t : Tok) (D : Addr) (start : Int) (ts : Tok) (vop : Value) (opos och : Option Value) : Str → Option Value :=
  (fun y => if y = Str.ofString "ch" then och else if y = Str.ofString "pos" then opos else if y = Str.ofString "open_pos" then some vop else if y = Str.ofString "start" then some (.int start ts) else if y = Str.ofString "result" then some (.ref D) else if y = Str.ofString "addr" then some (.str x t) else none)

def vopIs (o : Option Nat) (v : Value) : Prop := match o with
  | none => v = .none
  | some k => ∃ t, v = .int k t

structure StripSt where
  start : Nat
  opn : Option Nat
  res : List Str

abbrev sliceN (x : Str) (a b : Nat) : Str := Txt.slice x (some (a : Int)) (some (b : Int))
def stripStep (x : Str) (st : StripSt) (u : Nat × List Nat) : StripSt :=
  if u.2 = [34] then (match st.opn with
    | none => { st with opn := some u.1 }
    | some o => { start := u.1 + 1, opn := none, res := if st.start = o then st.res else st.res ++ [sliceN x st.start o] })
  else st
theorem fold_succ {α β : Type} (f : β → α → β) (z : β) (us : List α) {j : Nat} {u : α} (h : us[j]? = some u) : (us.take (j + 1)).foldl f z = f ((us.take j).foldl f z) u := by
  rw [List.take_add_one, h]; simp
theorem is_quote (c : List Nat) : ((⟨c.toArray⟩ : Str) == Str.ofString "\"") = decide (c = [34]) := by
  by_cases h : c = [34]
  · subst h; decide
  · rw [decide_eq_false h]
    refine beq_eq_false_iff_ne.mpr fun e => h ?_
    have : c.toArray = #[34] := congrArg Str.cps e
    simpa using congrArg Array.toList this

def StripJ (x : Str) (t : Tok) (D : Addr) (j : Nat) (m : Str → Option Value) (news : Led) : Prop :=
  ∃ ts vop opos och vs c, m = stripMap x t D (((unitsOf x).take j).foldl (stripStep x) ⟨0, none, []⟩).start ts vop opos och ∧ vopIs (((unitsOf x).take j).foldl (stripStep x) ⟨0, none, []⟩).opn vop ∧
    news = [(D, W.listOf (vs : List Value).toArray c)] ∧ StrsAre vs (((unitsOf x).take j).foldl (stripStep x) ⟨0, none, []⟩).res ∧
    (((unitsOf x).take j).foldl (stripStep x) ⟨0, none, []⟩).res.length ≤ j ∧ ∀ r ∈ (((unitsOf x).take j).foldl (stripStep x) ⟨0, none, []⟩).res, r.length ≤ x.length
theorem strip_turn {h₀ : Heap} {L : Addr} {own : Led} {s₁ : Shared} {QQ : Flow → Shared → Prop} {h' : Heap} {tk : Nat} {Ta : Addr} {oT : Obj} {x : Str} {t : Tok} {D : Addr} {j : Nat} (off : OwnOff own [D]) (st : StripSt)
    (hst : ((unitsOf x).take (j + 1)).foldl (stripStep x) ⟨0, none, []⟩ = st) {ts : Tok} {vop : Value} {opos och : Option Value} {vs : List Value} {c : Nat}
    (F' : Fr h₀ L h' (stripMap x t D st.start ts vop opos och)) (N' : News h₀ L h' ((Ta, oT) :: (D, W.listOf vs.toArray c) :: own)) (hv : vopIs st.opn vop) (hvs : StrsAre vs st.res) (hrl : st.res.length ≤ j + 1) (hrx : ∀ r ∈ st.res, r.length ≤ x.length) :
    TurnPost h₀ L (StripJ x t D (j + 1)) own (fun s s' => s'.gens = s.gens) s₁ QQ .next { s₁ with heap := h', toks := tk } :=
  ⟨_, [(D, W.listOf vs.toArray c)], F', news_sub N' (fun p hp => .tail _ hp), off, ⟨ts, vop, opos, och, vs, c, by rw [hst], by rw [hst]; exact hv, rfl, by rw [hst]; exact hvs, by rw [hst]; exact hrl, by rw [hst]; exact hrx⟩, ⟨rfl, id⟩, rfl⟩
theorem strs_snoc {vs : List Value} {ss : List Str} (h : StrsAre vs ss) (y : Str) (t : Tok) : StrsAre (vs ++ [.str y t]) (ss ++ [y]) := by
  induction h with
  | nil => exact .cons y t .nil
  | cons z u _ ih => exact .cons z u ih
theorem strs_len {vs : List Value} {ss : List Str} (h : StrsAre vs ss) : vs.length = ss.length := by
  induction h with
  | nil => rfl
  | cons z u _ ih => simp [ih]
theorem escGo_len : ∀ (r : List Nat) (i : Nat) (e : Bool), (escGo i e r).length ≤ r.length + (if e then 1 else 0)
  | [], i, true => by simp [escGo]
  | [], i, false => by simp [escGo]
  | c :: r, i, true => by have := escGo_len r (i + 1) false; simp [escGo] at this ⊢; omega
  | c :: r, i, false => by
    rw [escGo]
    by_cases h : c = 92
    · rw [if_pos h]; have := escGo_len r (i + 1) true; simp at this ⊢; omega
    · rw [if_neg h]; have := escGo_len r (i + 1) false; simp at this ⊢; omega
theorem units_len (x : Str) : (unitsOf x).length ≤ x.length := by
  have := escGo_len x.cps.toList 0 false
  simpa [unitsOf, Str.length] using this

def stripRes (x : Str) : List Str := if ((unitsOf x).foldl (stripStep x) ⟨0, none, []⟩).start < x.length then
    ((unitsOf x).foldl (stripStep x) ⟨0, none, []⟩).res ++ [Txt.slice x (some (((unitsOf x).foldl (stripStep x) ⟨0, none, []⟩).start : Int)) none]
  else ((unitsOf x).foldl (stripStep x) ⟨0, none, []⟩).res
def stripS (x : Str) : Str := if (Builtin.Str.occurrences x (Str.ofString "\"") 0 x.length 1).isEmpty = true then x else Txt.join (Str.ofString "") (stripRes x)
theorem fold_facts (x : Str) : ∀ (us : List (Nat × List Nat)) (st : StripSt), (∀ r ∈ st.res, r.length ≤ x.length) → (us.foldl (stripStep x) st).res.length ≤ st.res.length + us.length ∧ ∀ r ∈ (us.foldl (stripStep x) st).res, r.length ≤ x.length
  | [], st, h => ⟨Nat.le_refl _, h⟩
  | u :: us, st, h => by
    have key : (stripStep x st u).res.length ≤ st.res.length + 1 ∧ ∀ r ∈ (stripStep x st u).res, r.length ≤ x.length := by
      unfold stripStep
      split
      · split
        · exact ⟨Nat.le_succ _, h⟩
        · dsimp only
          split
          · exact ⟨Nat.le_succ _, h⟩
          · refine ⟨by simp, fun r hr => ?_⟩
            rcases List.mem_append.mp hr with hr | hr
            · exact h r hr
            · rw [List.mem_singleton.mp hr]; exact Txt.slice_le _ _ _
      · exact ⟨Nat.le_succ _, h⟩
    have ih := fold_facts x us (stripStep x st u) key.2
    refine ⟨?_, ih.2⟩
    simp only [List.foldl_cons, List.length_cons]
    omega
theorem stripRes_len (x : Str) : (stripRes x).length ≤ x.length + 1 := by
  have h1 := (fold_facts x (unitsOf x) ⟨0, none, []⟩ fun r hr => nomatch hr).1
  have h2 := units_len x
  unfold stripRes
  simp only [List.length_nil] at h1
  split
  · simp only [List.length_append, List.length_singleton]; omega
  · omega
theorem stripRes_le (x : Str) : ∀ r ∈ stripRes x, r.length ≤ x.length := by
  have h1 := (fold_facts x (unitsOf x) ⟨0, none, []⟩ fun r hr => nomatch hr).2
  unfold stripRes
  split
  · intro r hr
    rcases List.mem_append.mp hr with hr | hr
    · exact h1 r hr
    · rw [List.mem_singleton.mp hr]; exact Txt.slice_le _ _ _
  · exact h1
theorem sum_le {ys : List Str} {B : Nat} (h : ∀ r ∈ ys, r.length ≤ B) : (ys.map (·.length)).sum ≤ ys.length * B := by
  induction ys with
  | nil => simp
  | cons y ys ih =>
    have h1 := h y (.head _)
    have h2 := ih fun r hr => h r (.tail _ hr)
    simp only [List.map_cons, List.sum_cons, List.length_cons, Nat.succ_mul]
    omega
theorem join_small {ys : List Str} {B : Nat} (hB : B ≤ 1000) (h : ∀ r ∈ ys, r.length ≤ B) (hl : ys.length ≤ B + 1) : (ys.map (·.length)).sum ≤ 1001000 := by
  have h1 := sum_le h
  have h2 : ys.length * B ≤ 1001 * 1000 := Nat.mul_le_mul (by omega) hB
  omega

set_option maxHeartbeats 4000000 in
theorem strip_c {w : World} {A : Around} {s : Shared} {x : Str} {t : Tok} {Q E : Value → Shared → Prop} {mean mg mb} (hx : Asc x) (hlen : x.length ≤ 1000)
  (X : (hd.heap_39 w.params).In s.heap) (T : Top hd.view_39 LO mean mg mb s.heap) (hh : A.handled = none) (hr : A.depth + 10 < recursionLimit) 
  (h : ∀ s' t', Ext s s' → Q (.str (stripS x) t') s') :
  wpAny (model TP w) A (call (.ref 45) [.str x t]) Q E s := by
  refine call_plainK [(Str.ofString "addr", .str x t)] X T.nolimit (by omega) (by k_dflt k_is) (by k_dflt k_is) rfl rfl ?_
  intro h₁ F
  have N : News s.heap s.heap.objs.size h₁ [] := News.nil
  k_steps
  · dsimp only
    rename ((Builtin.Str.occurrences _ _ _ _ _).isEmpty = _) => hq
    have e : stripS x = x := by rw [stripS, hq]; rfl
    rw [e] at h
    exact h _ _ ⟨F.keep, .same⟩
  · rename ((Builtin.Str.occurrences _ _ _ _ _).isEmpty = _) => hq
    have hfin : ∀ s' t', Ext s s' → Q (.str (Txt.join (Str.ofString "") (stripRes x)) t') s' := fun s' t' e => by
      have := h s' t' e
      rw [stripS, hq] at this
      exact this
    rename_i _ _ _ D _ _ h₂ F₂ N₂
    refine wpAny_For ?_ (fun _ => rfl)
    k_steps
    refine gen_call hx X T F₂.keep ?_ (by show A.depth + 1 < _; omega) fun a g own s' G hig hH ho Ex => ?_
    · exact Nat.le_trans F₂.above (Nat.le_of_lt F₂.ns.lt)
    refine wpAny_pyIter_gen hig ?_
    obtain ⟨ts₀, F₂'⟩ : ∃ ts, Fr s.heap s.heap.objs.size h₂ (stripMap x t D 0 ts .none none none) := ⟨_, fr_eqm F₂ (by funext y; by_cases e0 : y = Str.ofString "ch"; (subst e0; rfl); by_cases e1 : y = Str.ofString "pos"; (subst e1; rfl); by_cases e2 : y = Str.ofString "open_pos"; (subst e2; rfl); by_cases e3 : y = Str.ofString "start"; (subst e3; rfl); by_cases e4 : y = Str.ofString "result"; (subst e4; rfl); by_cases e5 : y = Str.ofString "addr"; (subst e5; rfl); have b0 : (y == Str.ofString "ch") = false := (by simpa using e0); have b1 : (y == Str.ofString "pos") = false := (by simpa using e1); have b2 : (y == Str.ofString "open_pos") = false := (by simpa using e2); have b3 : (y == Str.ofString "start") = false := (by simpa using e3); have b4 : (y == Str.ofString "result") = false := (by simpa using e4); have b5 : (y == Str.ofString "addr") = false := (by simpa using e5); simp [List.lookup, e0, b0, e1, b1, e2, b2, e3, b3, e4, b4, e5, b5])⟩
    obtain ⟨F₃, N₃, off₃⟩ := gen_start F₂' N₂ Ex hH ho
    refine for_walk (iter_gen ?hh ?hd T.nolimit _ a g (unitsOf x)) (StripJ x t D) (fun _ _ _ _ _ F _ => F.keep) (G _ ?hh ?hd) F₃ N₃ off₃ ⟨ts₀, .none, none, none, [], 0, rfl, rfl, rfl, .nil, Nat.le_refl _, fun _ hr => nomatch hr⟩ ?_ ?_
    case hh => exact hh
    case hd => show A.depth + 1 < _; omega
    · rintro j v extra own m news s₁ hj ⟨u, Ta, t1, t2, hu, rfl, rfl⟩ ⟨ts, vop, opos, och, vs, c, rfl, hvop, rfl, hvs, hrl, hrx⟩ F N off offx hlts S
      have hD : @LT.lt Nat _ D Ta := hlts _ (.head _) _ (.head _)
      simp only [List.map_cons, List.map_nil] at off
      refine assign_pair hh F N (.head _) fun h₄ F₄ N₄ => ?_
      simp only [List.cons_append, List.nil_append] at N₄
      clear F N
      have hstep := fold_succ (stripStep x) ⟨0, none, []⟩ _ hu
      generalize List.foldl (stripStep x) ⟨0, none, []⟩ (List.take j (unitsOf x)) = st at hvop hvs hrl hrx hstep F₄
      obtain ⟨start, opn, res⟩ := st
      have hul := units_len x
      have hsz : vs.toArray.size ≤ sizeLine := by
        have h1 := strs_len hvs
        have h2 : vs.toArray.size = vs.length := by simp
        rw [h2, h1, sizeLine_eq]
        exact Nat.le_trans hrl (by omega)
      cases opn with
      | none =>
        obtain rfl : vop = .none := hvop
        k_steps
        · rename ((_ : Str) == _) = true => hq
          rename Fr _ _ _ _ => F'
          rename News _ _ _ _ => N'
          have hq' : u.2 = [34] := by simpa [is_quote] using hq
          exact strip_turn off ⟨start, some u.1, res⟩ (by rw [hstep, stripStep, if_pos hq']) (fr_eqm F' (by funext y; by_cases e0 : y = Str.ofString "open_pos"; (subst e0; rfl); by_cases e1 : y = Str.ofString "ch"; (subst e1; rfl); by_cases e2 : y = Str.ofString "pos"; (subst e2; rfl); by_cases e3 : y = Str.ofString "start"; (subst e3; rfl); by_cases e4 : y = Str.ofString "result"; (subst e4; rfl); by_cases e5 : y = Str.ofString "addr"; (subst e5; rfl); have b0 : (y == Str.ofString "open_pos") = false := (by simpa using e0); have b1 : (y == Str.ofString "ch") = false := (by simpa using e1); have b2 : (y == Str.ofString "pos") = false := (by simpa using e2); have b3 : (y == Str.ofString "start") = false := (by simpa using e3); have b4 : (y == Str.ofString "result") = false := (by simpa using e4); have b5 : (y == Str.ofString "addr") = false := (by simpa using e5); simp [List.lookup, e0, b0, e1, b1, e2, b2, e3, b3, e4, b4, e5, b5, stripMap])) N' ⟨t1, rfl⟩ hvs (Nat.le_succ_of_le hrl) hrx
        · rename ((_ : Str) == _) = false => hq
          have hq' : u.2 ≠ [34] := by simpa [is_quote] using hq
          exact strip_turn off ⟨start, none, res⟩ (by rw [hstep, stripStep, if_neg hq']) (fr_eqm F₄ (by funext y; by_cases e0 : y = Str.ofString "open_pos"; (subst e0; rfl); by_cases e1 : y = Str.ofString "ch"; (subst e1; rfl); by_cases e2 : y = Str.ofString "pos"; (subst e2; rfl); by_cases e3 : y = Str.ofString "start"; (subst e3; rfl); by_cases e4 : y = Str.ofString "result"; (subst e4; rfl); by_cases e5 : y = Str.ofString "addr"; (subst e5; rfl); have b0 : (y == Str.ofString "open_pos") = false := (by simpa using e0); have b1 : (y == Str.ofString "ch") = false := (by simpa using e1); have b2 : (y == Str.ofString "pos") = false := (by simpa using e2); have b3 : (y == Str.ofString "start") = false := (by simpa using e3); have b4 : (y == Str.ofString "result") = false := (by simpa using e4); have b5 : (y == Str.ofString "addr") = false := (by simpa using e5); simp [List.lookup, e0, b0, e1, b1, e2, b2, e3, b3, e4, b4, e5, b5, stripMap])) N₄ rfl hvs (Nat.le_succ_of_le hrl) hrx
      | some o =>
        obtain ⟨to, rfl⟩ : ∃ t, vop = .int o t := hvop
        k_steps
        · rename ((_ : Str) == _) = true => hq
          rename ((_ : Int) ≠ _) => hne
          rename Fr _ _ _ _ => F'
          rename News _ _ _ _ => N'
          have hq' : u.2 = [34] := by simpa [is_quote] using hq
          have he : start ≠ o := by have : (start : Int) ≠ o := hne; omega
          rw [List.push_toArray] at N'
          refine strip_turn off ⟨u.1 + 1, none, res ++ [sliceN x start o]⟩ (by rw [hstep, stripStep, if_pos hq']; simp only [if_neg he]) (fr_eqm F' (by funext y; by_cases e0 : y = Str.ofString "open_pos"; (subst e0; rfl); by_cases e1 : y = Str.ofString "ch"; (subst e1; rfl); by_cases e2 : y = Str.ofString "pos"; (subst e2; rfl); by_cases e3 : y = Str.ofString "start"; (subst e3; rfl); by_cases e4 : y = Str.ofString "result"; (subst e4; rfl); by_cases e5 : y = Str.ofString "addr"; (subst e5; rfl); have b0 : (y == Str.ofString "open_pos") = false := (by simpa using e0); have b1 : (y == Str.ofString "ch") = false := (by simpa using e1); have b2 : (y == Str.ofString "pos") = false := (by simpa using e2); have b3 : (y == Str.ofString "start") = false := (by simpa using e3); have b4 : (y == Str.ofString "result") = false := (by simpa using e4); have b5 : (y == Str.ofString "addr") = false := (by simpa using e5); simp [List.lookup, e0, b0, e1, b1, e2, b2, e3, b3, e4, b4, e5, b5, stripMap])) N' rfl (strs_snoc hvs _ _) ?_ ?_
          · simp only [List.length_append, List.length_singleton]; exact Nat.succ_le_succ hrl
          · intro r hr
            rcases List.mem_append.mp hr with hr | hr
            · exact hrx r hr
            · rw [List.mem_singleton.mp hr]; exact Txt.slice_le _ _ _
        · rename ((_ : Str) == _) = true => hq
          rename ((_ : Int) = _) => heq
          rename Fr _ _ _ _ => F'
          rename News _ _ _ _ => N'
          have hq' : u.2 = [34] := by simpa [is_quote] using hq
          have he : start = o := by have : (start : Int) = o := heq; omega
          exact strip_turn off ⟨u.1 + 1, none, res⟩ (by rw [hstep, stripStep, if_pos hq']; simp only [if_pos he]) (fr_eqm F' (by funext y; by_cases e0 : y = Str.ofString "open_pos"; (subst e0; rfl); by_cases e1 : y = Str.ofString "ch"; (subst e1; rfl); by_cases e2 : y = Str.ofString "pos"; (subst e2; rfl); by_cases e3 : y = Str.ofString "start"; (subst e3; rfl); by_cases e4 : y = Str.ofString "result"; (subst e4; rfl); by_cases e5 : y = Str.ofString "addr"; (subst e5; rfl); have b0 : (y == Str.ofString "open_pos") = false := (by simpa using e0); have b1 : (y == Str.ofString "ch") = false := (by simpa using e1); have b2 : (y == Str.ofString "pos") = false := (by simpa using e2); have b3 : (y == Str.ofString "start") = false := (by simpa using e3); have b4 : (y == Str.ofString "result") = false := (by simpa using e4); have b5 : (y == Str.ofString "addr") = false := (by simpa using e5); simp [List.lookup, e0, b0, e1, b1, e2, b2, e3, b3, e4, b4, e5, b5, stripMap])) N' rfl hvs (Nat.le_succ_of_le hrl) hrx
        · rename ((_ : Str) == _) = false => hq
          have hq' : u.2 ≠ [34] := by simpa [is_quote] using hq
          exact strip_turn off ⟨start, some o, res⟩ (by rw [hstep, stripStep, if_neg hq']) (fr_eqm F₄ (by funext y; by_cases e0 : y = Str.ofString "open_pos"; (subst e0; rfl); by_cases e1 : y = Str.ofString "ch"; (subst e1; rfl); by_cases e2 : y = Str.ofString "pos"; (subst e2; rfl); by_cases e3 : y = Str.ofString "start"; (subst e3; rfl); by_cases e4 : y = Str.ofString "result"; (subst e4; rfl); by_cases e5 : y = Str.ofString "addr"; (subst e5; rfl); have b0 : (y == Str.ofString "open_pos") = false := (by simpa using e0); have b1 : (y == Str.ofString "ch") = false := (by simpa using e1); have b2 : (y == Str.ofString "pos") = false := (by simpa using e2); have b3 : (y == Str.ofString "start") = false := (by simpa using e3); have b4 : (y == Str.ofString "result") = false := (by simpa using e4); have b5 : (y == Str.ofString "addr") = false := (by simpa using e5); simp [List.lookup, e0, b0, e1, b1, e2, b2, e3, b3, e4, b4, e5, b5, stripMap])) N₄ ⟨to, rfl⟩ hvs (Nat.le_succ_of_le hrl) hrx
    · rintro m news s₁ ⟨ts, vop, opos, och, vs, c, rfl, hvop, rfl, hvs, hrl, hrx⟩ F N S
      rw [List.take_of_length_le (Nat.le_refl _)] at hvop hvs hrl hrx F
      have hul := units_len x
      have hsz : vs.toArray.size ≤ sizeLine := by
        have h1 := strs_len hvs
        have h2 : vs.toArray.size = vs.length := by simp
        rw [h2, h1, sizeLine_eq]
        exact Nat.le_trans hrl (by omega)
      k_steps
      · rename ((_ : Int) < _) => hlt
        rename Fr _ _ _ _ => F'
        rename News _ _ _ _ => N'
        have hres : stripRes x = ((unitsOf x).foldl (stripStep x) ⟨0, none, []⟩).res ++ [Txt.slice x (some (((unitsOf x).foldl (stripStep x) ⟨0, none, []⟩).start : Int)) none] := by rw [stripRes, if_pos (by omega)]
        refine join_list (News.isList N' (.head _)) (ys := stripRes x) (by rw [hres]; simpa using strs_snoc hvs _ _) ?_ ?_
        · have h1 := join_small hlen (stripRes_le x) (stripRes_len x); exact Nat.le_trans h1 (by decide)
        · intro t' k
          exact hfin _ _ ⟨F'.keep, ⟨S.os.trans Ex.side.os, fun b => S.bare (Ex.side.bare b)⟩⟩
      · rename (¬ ((_ : Int) < _)) => hlt
        have hres : stripRes x = ((unitsOf x).foldl (stripStep x) ⟨0, none, []⟩).res := by rw [stripRes, if_neg (by omega)]
        refine join_list (News.isList N (.head _)) (ys := stripRes x) (by rw [hres]; simpa using hvs) ?_ ?_
        · have h1 := join_small hlen (stripRes_le x) (stripRes_len x); exact Nat.le_trans h1 (by decide)
        · intro t' k
          exact hfin _ _ ⟨F.keep, ⟨S.os.trans Ex.side.os, fun b => S.bare (Ex.side.bare b)⟩⟩
end Mine

end

section
open PySem PySem.W PyProof.Rows PySem.Calls
set_option maxRecDepth 100000
set_option linter.all false
namespace Mine
theorem warm4 (w : World) (h : Heap) (X : (hd.heap_39 w.params).In h) : Challenge.rw_wo0010_01.prog = Challenge.rw_wo0010_01.prog := by revert X; k_fill; intro _; rfl

theorem join_list_eq : ∀ ys : List Str, (Txt.join (Str.ofString "") ys).cps.toList = ys.flatMap (·.cps.toList) := by
  have key : ∀ ys : List Str, (Str.join (Str.ofString "") ys).cps.toList = ys.flatMap (·.cps.toList) := by
    intro ys
    induction ys with
    | nil => rfl
    | cons y r ih =>
      cases r with
      | nil => show y.cps.toList = _; simp
      | cons z r =>
        show (y ++ Str.ofString "" ++ Str.join (Str.ofString "") (z :: r)).cps.toList = _
        have e : ∀ a b : Str, (a ++ b).cps.toList = a.cps.toList ++ b.cps.toList := fun a b => Array.toList_append
        rw [e, e, ih]
        simp [Str.ofString, show cpsOfBytes 0 0 [] = [] from rfl]
  intro ys
  show (Builtin.Str.glued _ ys).cps.toList = _
  rw [StrLaws.glued_eq_join]
  exact key ys
theorem slice_sub (x : Str) (l u : Option Int) : ∀ c ∈ (Txt.slice x l u).cps.toList, c ∈ x.cps.toList := by
  intro c hc
  unfold Txt.slice at hc
  split at hc
  · exact hc
  · simp only [List.mem_filterMap] at hc
    obtain ⟨i, _, hi⟩ := hc
    exact Array.mem_def.mp (Array.mem_of_getElem? hi)
theorem asc_iff (x : Str) : Asc x ↔ ∀ c ∈ x.cps.toList, c < 128 := by
  show x.cps.all _ = true ↔ _
  rw [← Array.all_toList, List.all_eq_true]
  simp only [decide_eq_true_eq]
theorem stripRes_asc {x : Str} (hx : Asc x) : ∀ r ∈ stripRes x, Asc r := by
  have sl : ∀ l u, Asc (Txt.slice x l u) := fun l u => (asc_iff _).mpr fun c hc => (asc_iff x).mp hx c (slice_sub x l u c hc)
  have fold : ∀ (us : List (Nat × List Nat)) (st : StripSt), (∀ r ∈ st.res, Asc r) → ∀ r ∈ (us.foldl (stripStep x) st).res, Asc r := by
    intro us
    induction us with
    | nil => intro st h; exact h
    | cons u us ih =>
      intro st h
      refine ih _ ?_
      unfold stripStep
      split
      · split
        · exact h
        · dsimp only
          split
          · exact h
          · intro r hr
            rcases List.mem_append.mp hr with hr | hr
            · exact h r hr
            · rw [List.mem_singleton.mp hr]; exact sl _ _
      · exact h
  have h1 := fold (unitsOf x) ⟨0, none, []⟩ fun r hr => nomatch hr
  unfold stripRes
  split
  · intro r hr
    rcases List.mem_append.mp hr with hr | hr
    · exact h1 r hr
    · rw [List.mem_singleton.mp hr]; exact sl _ _
  · exact h1
theorem strip_asc {x : Str} (hx : Asc x) : Asc (stripS x) := by
  unfold stripS
  split
  · exact hx
  · refine (asc_iff _).mpr fun c hc => ?_
    rw [join_list_eq] at hc
    obtain ⟨r, hr, hc⟩ := List.mem_flatMap.mp hc
    exact (asc_iff r).mp (stripRes_asc hx r hr) c hc

def chkStep (o : Option Int) (u : Nat × List Nat) : Option Int := match o with
  | none => none
  | some k => if u.2 = [40] then some (k + 1) else if u.2 = [41] then (if k - 1 < 0 then none else some (k - 1)) else some k
def chkU (us : List (Nat × List Nat)) : Bool := us.foldl chkStep (some 0) == some 0
def chk (x : Str) : Bool := chkU (unitsOf (stripS x))
theorem chk_none : ∀ us : List (Nat × List Nat), us.foldl chkStep none = none
  | [] => rfl
  | _ :: us => chk_none us
theorem chk_early {us : List (Nat × List Nat)} {j : Nat} (h : (us.take (j + 1)).foldl chkStep (some 0) = none) : chkU us = false := by
  unfold chkU
  rw [← List.take_append_drop (j + 1) us, List.foldl_append, h, chk_none]; rfl
theorem is_one (c : List Nat) (n : Nat) (y : Str) (hy : y = ⟨#[n]⟩) : ((⟨c.toArray⟩ : Str) == y) = decide (c = [n]) := by
  subst hy
  by_cases h : c = [n]
  · subst h; simp
  · rw [decide_eq_false h]
    refine beq_eq_false_iff_ne.mpr fun e => h ?_
    have : c.toArray = #[n] := congrArg Str.cps e
    simpa using congrArg Array.toList this

abbrev chkMap (x : Str) (t : Tok) (k : Int) (ts : Tok) (opos och : Option Value) : Str → Option Value :=
  (fun y => if y = Str.ofString "ch" then och else if y = Str.ofString "pos" then opos else if y = Str.ofString "opens" then some (.int k ts) else if y = Str.ofString "addr" then some (.str x t) else none)
def ChkJ (x : Str) (t : Tok) (j : Nat) (m : Str → Option Value) (news : Led) : Prop :=
  ∃ k ts opos och, m = chkMap x t k ts opos och ∧ ((unitsOf x).take j).foldl chkStep (some 0) = some k ∧ news = []
theorem chk_turn {h₀ : Heap} {L : Addr} {own : Led} {s₁ : Shared} {QQ : Flow → Shared → Prop} {h' : Heap} {tk : Nat} {Ta : Addr} {oT : Obj} {x : Str} {t : Tok} {j : Nat} (k : Int)
    (hst : ((unitsOf x).take (j + 1)).foldl chkStep (some 0) = some k) {ts : Tok} {opos och : Option Value}
    (F' : Fr h₀ L h' (chkMap x t k ts opos och)) (N' : News h₀ L h' ((Ta, oT) :: own)) :
    TurnPost h₀ L (ChkJ x t (j + 1)) own (fun s s' => s'.gens = s.gens) s₁ QQ .next { s₁ with heap := h', toks := tk } :=
  ⟨_, [], F', news_sub N' (fun p hp => .tail _ hp), (fun p hp b hb => by cases hb), ⟨k, ts, opos, och, rfl, hst, rfl⟩, ⟨rfl, id⟩, rfl⟩

theorem fin_side {s s₁ s' s₂ : Shared} {h₁ h₂ h₃ : Heap} {k₁ k₂ k₃ : Nat} (Ex₁ : Ext { s with heap := h₁, toks := k₁ } s₁) (Ex : Ext { s₁ with heap := h₂, toks := k₂ } s') (S : Side s' s₂) : Side s { s₂ with heap := h₃, toks := k₃ } :=
  ⟨S.os.trans (Ex.side.os.trans Ex₁.side.os), fun b => S.bare (Ex.side.bare (Ex₁.side.bare b))⟩
set_option maxHeartbeats 4000000 in
theorem check_c {w : World} {A : Around} {s : Shared} {x : Str} {t : Tok} {Q E : Value → Shared → Prop} {mean mg mb} (hx : Asc x) (hlen : x.length ≤ 1000)
  (X : (hd.heap_39 w.params).In s.heap) (T : Top hd.view_39 LO mean mg mb s.heap) (hh : A.handled = none) (hr : A.depth + 20 < recursionLimit)
  (h : ∀ s', Ext s s' → Q (.bool (chk x)) s') :
  wpAny (model TP w) A (call (.ref 52) [.str x t]) Q E s := by
  refine call_plainK [(Str.ofString "addr", .str x t)] X T.nolimit (by omega) (by k_dflt k_is) (by k_dflt k_is) rfl rfl ?_
  intro h₁ F
  have N : News s.heap s.heap.objs.size h₁ [] := News.nil
  k_steps
  refine strip_c hx hlen (X.keeps F.keep) (T.keeps F.keep) hh (by show A.depth + 1 + 10 < _; omega) fun s₁ t₁ Ex₁ => ?_
  replace F := fr_ext F Ex₁
  replace N := news_ext N Ex₁
  k_steps
  rename Fr _ _ _ _ => F₂
  rename News _ _ _ _ => N₂
  have hxs := strip_asc hx
  generalize hy : stripS x = y at hxs F₂
  have hck : chk x = chkU (unitsOf y) := by rw [chk, hy]
  rw [hck] at h
  refine wpAny_For ?_ (fun _ => rfl)
  k_steps
  refine gen_call hxs X T F₂.keep ?_ (by show A.depth + 1 < _; omega) fun a g own s' G hig hH ho Ex => ?_
  · exact Nat.le_trans F₂.above (Nat.le_of_lt F₂.ns.lt)
  refine wpAny_pyIter_gen hig ?_
  obtain ⟨ts₀, F₂'⟩ : ∃ ts, Fr s.heap s.heap.objs.size _ (chkMap y t₁ 0 ts none none) := ⟨_, fr_eqm F₂ (by funext y; by_cases e0 : y = Str.ofString "ch"; (subst e0; rfl); by_cases e1 : y = Str.ofString "pos"; (subst e1; rfl); by_cases e2 : y = Str.ofString "opens"; (subst e2; rfl); by_cases e3 : y = Str.ofString "addr"; (subst e3; rfl); have b0 : (y == Str.ofString "ch") = false := (by simpa using e0); have b1 : (y == Str.ofString "pos") = false := (by simpa using e1); have b2 : (y == Str.ofString "opens") = false := (by simpa using e2); have b3 : (y == Str.ofString "addr") = false := (by simpa using e3); simp [List.lookup, e0, b0, e1, b1, e2, b2, e3, b3])⟩
  obtain ⟨F₃, N₃, off₃⟩ := gen_start F₂' N₂ Ex hH ho
  refine for_walk (iter_gen ?hh ?hd T.nolimit _ a g (unitsOf y)) (ChkJ y t₁) (fun _ _ _ _ _ F _ => F.keep) (G _ ?hh ?hd) F₃ N₃ off₃ ⟨0, ts₀, none, none, rfl, rfl, rfl⟩ ?_ ?_
  case hh => exact hh
  case hd => show A.depth + 1 < _; omega
  · rintro j v extra own m news s₂ hj ⟨u, Ta, t1, t2, hu, rfl, rfl⟩ ⟨k, ts, opos, och, rfl, hk, rfl⟩ F N off offx hlts S
    refine assign_pair hh F N (.head _) fun h₄ F₄ N₄ => ?_
    simp only [List.cons_append, List.nil_append] at N₄
    clear F N
    have hstep := fold_succ chkStep (some 0) _ hu
    rw [hk] at hstep
    have e40 : ∀ c, ((⟨c.toArray⟩ : Str) == Str.ofString "(") = decide (c = [40]) := fun c => is_one c 40 _ rfl
    have e41 : ∀ c, ((⟨c.toArray⟩ : Str) == Str.ofString ")") = decide (c = [41]) := fun c => is_one c 41 _ rfl
    k_steps
    · rename ((_ : Str) == _) = true => hq
      rename Fr _ _ _ _ => F'
      rename News _ _ _ _ => N'
      rw [e40, decide_eq_true_eq] at hq
      exact chk_turn (k + 1) (by rw [hstep]; simp [chkStep, hq]) (fr_eqm F' (by funext y; by_cases e0 : y = Str.ofString "opens"; (subst e0; rfl); by_cases e1 : y = Str.ofString "ch"; (subst e1; rfl); by_cases e2 : y = Str.ofString "pos"; (subst e2; rfl); by_cases e3 : y = Str.ofString "addr"; (subst e3; rfl); have b0 : (y == Str.ofString "opens") = false := (by simpa using e0); have b1 : (y == Str.ofString "ch") = false := (by simpa using e1); have b2 : (y == Str.ofString "pos") = false := (by simpa using e2); have b3 : (y == Str.ofString "addr") = false := (by simpa using e3); simp [List.lookup, e0, b0, e1, b1, e2, b2, e3, b3, chkMap])) N'
    · rename ((_ : Int) < _) => hlt
      rename (_ == _) = true => hq
      rename Fr _ _ _ _ => F'
      rw [e41, decide_eq_true_eq] at hq
      have e : chkU (unitsOf y) = false := chk_early (j := j) (by rw [hstep]; simp only [chkStep]; rw [if_neg (by rw [hq]; decide), if_pos hq, if_pos hlt])
      rw [e] at h
      exact h _ ⟨F'.keep, fin_side Ex₁ Ex S⟩
    · rename (¬ ((_ : Int) < _)) => hlt
      rename (_ == _) = true => hq
      rename Fr _ _ _ _ => F'
      rename News _ _ _ _ => N'
      rw [e41, decide_eq_true_eq] at hq
      exact chk_turn (k - 1) (by rw [hstep]; simp only [chkStep]; rw [if_neg (by rw [hq]; decide), if_pos hq, if_neg hlt]) (fr_eqm F' (by funext y; by_cases e0 : y = Str.ofString "opens"; (subst e0; rfl); by_cases e1 : y = Str.ofString "ch"; (subst e1; rfl); by_cases e2 : y = Str.ofString "pos"; (subst e2; rfl); by_cases e3 : y = Str.ofString "addr"; (subst e3; rfl); have b0 : (y == Str.ofString "opens") = false := (by simpa using e0); have b1 : (y == Str.ofString "ch") = false := (by simpa using e1); have b2 : (y == Str.ofString "pos") = false := (by simpa using e2); have b3 : (y == Str.ofString "addr") = false := (by simpa using e3); simp [List.lookup, e0, b0, e1, b1, e2, b2, e3, b3, chkMap])) N'
    · rename (_ == Str.ofString ")") = false => hq
      rename (_ == Str.ofString "(") = false => hq'
      rw [e41, decide_eq_false_iff_not] at hq
      rw [e40, decide_eq_false_iff_not] at hq'
      exact chk_turn k (by rw [hstep]; simp only [chkStep]; rw [if_neg hq', if_neg hq]) (fr_eqm F₄ (by funext y; by_cases e0 : y = Str.ofString "ch"; (subst e0; rfl); by_cases e1 : y = Str.ofString "pos"; (subst e1; rfl); by_cases e2 : y = Str.ofString "opens"; (subst e2; rfl); by_cases e3 : y = Str.ofString "addr"; (subst e3; rfl); have b0 : (y == Str.ofString "ch") = false := (by simpa using e0); have b1 : (y == Str.ofString "pos") = false := (by simpa using e1); have b2 : (y == Str.ofString "opens") = false := (by simpa using e2); have b3 : (y == Str.ofString "addr") = false := (by simpa using e3); simp [List.lookup, e0, b0, e1, b1, e2, b2, e3, b3, chkMap])) N₄
  · rintro m news s₂ ⟨k, ts, opos, och, rfl, hk, rfl⟩ F N S
    rw [List.take_of_length_le (Nat.le_refl _)] at hk
    k_steps
    have e : chkU (unitsOf y) = (k == 0) := by rw [chkU, hk]; rfl
    rw [e] at h
    exact h _ ⟨F.keep, fin_side Ex₁ Ex S⟩
end Mine

end

section
open PySem PySem.W PyProof.Rows PySem.Calls
set_option maxRecDepth 100000
set_option linter.all false
namespace Mine
local macro_rules | `(tactic| walk_at "call builtin:list.append") => `(tactic| (k_here; (with_reducible show wpAny _ _ (call (Value.builtin _) [Value.ref _, _]) _ _ _); k_dflt (refine' append_K ?k1 ?k2 ?k3 ?_ ?z; (case k1 => k_asm); (case k2 => k_asm); (case k3 => k_upd); (case z => first | assumption | exact Nat.le_of_ble_eq_true rfl); k_whole); intro h' F' N'; (try k_sweep)))
theorem warm5 (w : World) (h : Heap) (X : (hd.heap_39 w.params).In h) : Challenge.rw_wo0010_01.prog = Challenge.rw_wo0010_01.prog := by revert X; k_fill; intro _; rfl
def prep (x : Str) : Str := if chk x = true then x else Str.ofString "('', '')"
abbrev preMap (D R : Addr) (ov : Option Value) : Str → Option Value :=
  (fun y => if y = Str.ofString "v" then ov else if y = Str.ofString "accepted_values" then some (.ref R) else if y = Str.ofString "email_header_fields" then some (.ref D) else none)
def PreJ (fs : List Str) (D R : Addr) (j : Nat) (m : Str → Option Value) (news : Led) : Prop :=
  ∃ ov vs c, m = preMap D R ov ∧ news = [(R, W.listOf (vs : List Value).toArray c)] ∧ StrsAre vs ((fs.take j).map prep)
theorem strs_get {vs : List Value} {ss : List Str} (h : StrsAre vs ss) {j : Nat} {v : Value} (hv : vs[j]? = some v) : ∃ y t, v = .str y t ∧ ss[j]? = some y := by
  induction h generalizing j with
  | nil => cases hv
  | cons y t r ih =>
    cases j with
    | zero => exact ⟨y, t, (Option.some.inj hv).symm, rfl⟩
    | succ j => exact ih hv
theorem pre_turn {h₀ : Heap} {L : Addr} {own : Led} {s₁ : Shared} {QQ : Flow → Shared → Prop} {h' : Heap} {tk : Nat} {fs : List Str} {D R : Addr} {j : Nat} {gens : Array GenState} {os : _} {drawn : _} (off : OwnOff own [R]) {y : Str}
    (hy : fs[j]? = some y) (z : Str) (hz : prep y = z) {tz : Tok} {ov : Option Value} {vs : List Value} {c : Nat}
    (F' : Fr h₀ L h' (preMap D R ov)) (N' : News h₀ L h' ((R, W.listOf (vs.toArray.push (.str z tz)) c) :: own)) (hvs : StrsAre vs ((fs.take j).map prep)) (S : Side s₁ ⟨h', gens, drawn, tk, os⟩) :
    TurnPost h₀ L (PreJ fs D R (j + 1)) own GT s₁ QQ .next ⟨h', gens, drawn, tk, os⟩ :=
  ⟨_, [(R, W.listOf (vs ++ [Value.str z tz]).toArray c)], F', by rw [← List.push_toArray]; exact N', off, ⟨ov, _, c, rfl, rfl, by rw [List.take_add_one, hy, Option.toList_some, List.map_append, List.map_singleton, hz]; exact strs_snoc hvs _ _⟩, S, trivial⟩
theorem isList_keep {h h' : Heap} {D : Addr} {vs : Array Value} (x : h.IsList D vs) (k : ∀ b o, h.get? b = some o → h'.get? b = some o) : h'.IsList D vs := by
  obtain ⟨o, ho, r⟩ := x
  exact ⟨o, k _ _ ho, r⟩
set_option maxHeartbeats 4000000 in
theorem pre_c {w : World} {A : Around} {s : Shared} {D : Addr} {vs : List Value} {fs : List Str} {Q E : Value → Shared → Prop} {mean mg mb} (hD : s.heap.IsList D vs.toArray) (hvs : StrsAre vs fs) (hx : ∀ x ∈ fs, Asc x ∧ x.length ≤ 1000) (hn : fs.length ≤ 1000)
  (X : (hd.heap_39 w.params).In s.heap) (T : Top hd.view_39 LO mean mg mb s.heap) (hh : A.handled = none) (hr : A.depth + 30 < recursionLimit)
  (h : ∀ s' l c ws, Ext s s' → s.heap.get? l = none → s'.heap.get? l = some (W.listOf (ws : List Value).toArray c) → StrsAre ws (fs.map prep) → Q (.ref l) s') :
  wpAny (model TP w) A (call (.ref 59) [.ref D]) Q E s := by
  refine call_plainK [(Str.ofString "email_header_fields", .ref D)] X T.nolimit (by omega) (by k_dflt k_is) (by k_dflt k_is) rfl rfl ?_
  intro h₁ F
  have N : News s.heap s.heap.objs.size h₁ [] := News.nil
  k_steps
  rename Fr _ _ _ _ => F₂
  rename News _ _ _ _ => N₂
  rename_i R _ _ _
  refine wpAny_For ?_ (fun _ => rfl)
  k_steps
  have F₂' : Fr s.heap s.heap.objs.size _ (preMap D R none) := fr_eqm F₂ (by funext y; by_cases e0 : y = Str.ofString "v"; (subst e0; rfl); by_cases e1 : y = Str.ofString "accepted_values"; (subst e1; rfl); by_cases e2 : y = Str.ofString "email_header_fields"; (subst e2; rfl); have b0 : (y == Str.ofString "v") = false := (by simpa using e0); have b1 : (y == Str.ofString "accepted_values") = false := (by simpa using e1); have b2 : (y == Str.ofString "email_header_fields") = false := (by simpa using e2); simp [List.lookup, e0, b0, e1, b1, e2, b2])
  refine start_list F₂' N₂ (isList_keep hD F₂.keep) fun I own s₁ hDI st F₃ N₃ off₃ S₃ Ex₃ => ?_
  refine for_walk (iter_list ?hh _ I D vs hDI) (PreJ fs D R) (fun _ _ _ _ _ F _ => isList_keep hD F.keep) st F₃ N₃ off₃ ⟨none, [], 0, rfl, rfl, .nil⟩ ?_ ?_
  case hh => exact hh
  · rintro j v extra own m news s₂ hj ⟨hv, rfl⟩ ⟨ov, vs', c, rfl, rfl, hvs'⟩ F N off offx hlts S
    obtain ⟨y, ty, rfl, hy⟩ := strs_get hvs hv
    have hym := hx y (List.mem_of_getElem? hy)
    simp only [List.map_cons, List.map_nil] at off
    simp only [List.cons_append, List.nil_append] at N
    refine assign_nm F N fun h₄ F₄ N₄ => ?_
    clear F N
    have hsz : vs'.toArray.size ≤ sizeLine := by
      have h1 := strs_len hvs'
      have h2 : vs'.toArray.size = vs'.length := by simp
      rw [h2, h1, sizeLine_eq]
      simp only [List.length_map, List.length_take]
      omega
    k_steps
    refine check_c hym.1 hym.2 (X.keeps F₄.keep) (T.keeps F₄.keep) hh (by show A.depth + 1 + 20 < _; omega) fun s₅ Ex₅ => ?_
    have F₅ := fr_ext F₄ Ex₅
    have N₅ := news_ext N₄ Ex₅
    clear F₄ N₄
    cases hc : chk y with
    | true =>
      k_steps
      rename Fr _ _ _ _ => F'
      rename News _ _ _ _ => N'
      exact pre_turn off hy y (by rw [prep, hc]; rfl) (fr_eqm F' (by funext y; by_cases e0 : y = Str.ofString "v"; (subst e0; rfl); by_cases e1 : y = Str.ofString "accepted_values"; (subst e1; rfl); by_cases e2 : y = Str.ofString "email_header_fields"; (subst e2; rfl); have b0 : (y == Str.ofString "v") = false := (by simpa using e0); have b1 : (y == Str.ofString "accepted_values") = false := (by simpa using e1); have b2 : (y == Str.ofString "email_header_fields") = false := (by simpa using e2); simp [List.lookup, e0, b0, e1, b1, e2, b2, preMap])) N' hvs' ⟨Ex₅.side.os, fun b => Ex₅.side.bare b⟩
    | false =>
      k_steps
      rename Fr _ _ _ _ => F'
      rename News _ _ _ _ => N'
      exact pre_turn off hy (Str.ofString "('', '')") (by rw [prep, hc]; rfl) (fr_eqm F' (by funext y; by_cases e0 : y = Str.ofString "v"; (subst e0; rfl); by_cases e1 : y = Str.ofString "accepted_values"; (subst e1; rfl); by_cases e2 : y = Str.ofString "email_header_fields"; (subst e2; rfl); have b0 : (y == Str.ofString "v") = false := (by simpa using e0); have b1 : (y == Str.ofString "accepted_values") = false := (by simpa using e1); have b2 : (y == Str.ofString "email_header_fields") = false := (by simpa using e2); simp [List.lookup, e0, b0, e1, b1, e2, b2, preMap])) N' hvs' ⟨Ex₅.side.os, fun b => Ex₅.side.bare b⟩
  · rintro m news s₂ ⟨ov, vs', c, rfl, rfl, hvs'⟩ F N S
    rw [List.take_of_length_le (by rw [strs_len hvs]; exact Nat.le_refl _)] at hvs'
    k_steps
    exact h _ R c vs' ⟨F.keep, ⟨S.os.trans S₃.os, fun b => S.bare (S₃.bare b)⟩⟩ (N _ (.head _)).2.2 (N _ (.head _)).1 hvs'
end Mine

end

section
open PySem
set_option maxRecDepth 100000
set_option linter.all false
namespace Mine
open PySem.Sre

abbrev qc : Array Nat := #[14, 4, 0, 1, 1, 6, 1, 16, 46, 1]
def stS (text : Array Nat) (s h : Nat) (b o o' : Bool) (sn : Seen) (pc pos : Nat) (ans : Option Bool) : M :=
  { code := qc, text := text, lim := text.size, start := s, lastStart := text.size, wholeText := false, mustAdvance := b, pc := pc, pos := pos, handed := h, outermost := o, marks := #[],
    lastmark := -1, lastindex := -1, loops := #[], inner := none, frames := [{ wait := .nextStart, pc := 5, pos := s, outermost := o' }], weight := 1, answer := ans, seen := sn, outcome := none }
def lineAt (text : Array Nat) (s : Nat) : Bool := s == 0 || text.getD (s - 1) 0 == 10
def steps : Nat → M → M
  | 0, m => m
  | n + 1, m => steps n m.step
theorem step_at (text : Array Nat) (s h : Nat) (b o o' : Bool) (sn : Seen) :
    (stS text s h b o o' sn 5 s none).step = if lineAt text s = true then stS text s h b o o' ((sn.add 6).add 44) 7 s none else stS text s h b o o' ((sn.add 6).add 44) 5 s (some false) := by
  rfl
theorem accepts7 (c : Nat) (sn : Seen) : accepts qc 7 c sn = .ok (c == 46, sn) := rfl
theorem step_lit (text : Array Nat) (s h : Nat) (b o o' : Bool) (sn : Seen) (hs : s < text.size) :
    (stS text s h b o o' sn 7 s none).step = if text.getD s 0 = 46 then stS text s h b o o' (sn.add 16) 9 (s + 1) none else stS text s h b o o' (sn.add 16) 7 s (some false) := by
  have key : ∀ q : Bool, (text.getD s 0 == 46) = q → (stS text s h b o o' sn 7 s none).step = match q with | true => stS text s h b o o' (sn.add 16) 9 (s + 1) none | false => stS text s h b o o' (sn.add 16) 7 s (some false) := by
    intro q hq
    have e : accepts qc 7 (text.getD s 0) (sn.add 16) = .ok (q, sn.add 16) := by rw [accepts7, hq]
    show (if s ≥ text.size then M.say { stS text s h b o o' (sn.add 16) 7 s none with seen := sn.add 16 } false else
      match accepts qc 7 (text.getD s 0) (sn.add 16) with
      | .error why => M.stick (stS text s h b o o' (sn.add 16) 7 s none) why
      | .ok (false, seen) => M.say (stS text s h b o o' seen 7 s none) false
      | .ok (true, seen) => stS text s h b o o' seen 9 (s + 1) none) = _
    rw [if_neg (by omega), e]
    cases q <;> rfl
  by_cases hc : text.getD s 0 = 46
  · rw [if_pos hc]; exact key true (by simpa using hc)
  · rw [if_neg hc]; exact key false (by simpa using hc)
theorem step_end (text : Array Nat) (h : Nat) (b o o' : Bool) (sn : Seen) :
    (stS text text.size h b o o' sn 7 text.size none).step = stS text text.size h b o o' (sn.add 16) 7 text.size (some false) := by
  show (if text.size ≥ text.size then stS text text.size h b o o' (sn.add 16) 7 text.size (some false) else
      match accepts qc 7 (text.getD text.size 0) (sn.add 16) with
      | .error why => M.stick (stS text text.size h b o o' (sn.add 16) 7 text.size none) why
      | .ok (false, seen) => M.say (stS text text.size h b o o' seen 7 text.size none) false
      | .ok (true, seen) => stS text text.size h b o o' seen 9 (text.size + 1) none) = _
  rw [if_pos (Nat.le_refl _)]
theorem step_back (text : Array Nat) (s h : Nat) (b o o' : Bool) (sn : Seen) (pc pos : Nat) :
    (stS text s h b o o' sn pc pos (some false)).step = if s < text.size then stS text (s + 1) (s + 1) false false false sn 5 (s + 1) none else { stS text s h b o' o' sn 5 s (some false) with frames := [], weight := 0 } := by
  have e : (stS text s h b o o' sn pc pos (some false)).step = if s < text.size then M.attemptFrom { stS text s h false o' o' sn 5 s none with frames := [], weight := 0 } (s + 1) false else M.say { stS text s h b o' o' sn 5 s none with frames := [], weight := 0 } false := rfl
  rw [e]
  by_cases hs : s < text.size
  · rw [if_pos hs, if_pos hs]; rfl
  · rw [if_neg hs, if_neg hs]; rfl
theorem step_succ (text : Array Nat) (s h : Nat) (b o o' : Bool) (sn : Seen) :
    (stS text s h b o o' sn 9 (s + 1) none).step = stS text s (s + 1) b o o' (sn.add 1) 9 (s + 1) (some true) := by
  show (if (o && ((false && (s + 1 != text.size)) || (b && (s + 1 == s)))) = true then M.say (stS text s h b o o' (sn.add 1) 9 (s + 1) none) false else stS text s (s + 1) b o o' (sn.add 1) 9 (s + 1) (some true)) = _
  rw [show (s + 1 == s) = false from by simp, Bool.false_and, Bool.and_false, Bool.or_false, Bool.and_false]
  rfl
theorem step_done (text : Array Nat) (s h : Nat) (b o o' : Bool) (sn : Seen) (pc pos : Nat) :
    (steps 2 (stS text s h b o o' sn pc pos (some true))).outcome = some .matched ∧ (steps 2 (stS text s h b o o' sn pc pos (some true))).start = s ∧ (steps 2 (stS text s h b o o' sn pc pos (some true))).handed = h := ⟨rfl, rfl, rfl⟩
theorem step_lost (text : Array Nat) (s h : Nat) (b o o' : Bool) (sn : Seen) :
    ({ stS text s h b o' o' sn 5 s (some false) with frames := [], weight := 0 } : M).step.outcome = some .failed := rfl

/-- the first dot at a line's beginning, from here on -/
def dotFrom (text : Array Nat) : (fuel s : Nat) → Option Nat
  | 0, _ => none
  | n + 1, s => if lineAt text s = true ∧ text.getD s 0 = 46 then some s else dotFrom text n (s + 1)
def Finds (m : M) (n : Nat) (r : Option Nat) : Prop := ∃ k, k ≤ n ∧ match r with
  | none => (steps k m).outcome = some .failed
  | some p => (steps k m).outcome = some .matched ∧ (steps k m).start = p ∧ (steps k m).handed = p + 1
theorem Finds.step {m : M} {n : Nat} {r : Option Nat} (x : Finds m.step n r) : Finds m (n + 1) r := by
  obtain ⟨k, hk, x⟩ := x
  exact ⟨k + 1, Nat.succ_le_succ hk, x⟩
theorem finds (text : Array Nat) : ∀ (n s h : Nat) (b o o' : Bool) (sn : Seen), s + n = text.size → Finds (stS text s h b o o' sn 5 s none) (5 * n + 5) (dotFrom text n s)
  | 0, s, h, b, o, o', sn, e => by
    obtain rfl : s = text.size := by omega
    refine Finds.step (n := 4) ?_
    rw [step_at]
    cases lineAt text text.size with
    | false =>
      rw [if_neg Bool.false_ne_true]
      refine Finds.step (n := 3) ?_
      rw [step_back, if_neg (Nat.lt_irrefl _)]
      exact ⟨1, by omega, step_lost _ _ _ _ false _ _⟩
    | true =>
      rw [if_pos rfl]
      refine Finds.step (n := 3) ?_
      rw [step_end]
      refine Finds.step (n := 2) ?_
      rw [step_back, if_neg (Nat.lt_irrefl _)]
      exact ⟨1, by omega, step_lost _ _ _ _ false _ _⟩
  | n + 1, s, h, b, o, o', sn, e => by
    have hs : s < text.size := by omega
    unfold dotFrom
    refine Finds.step (n := 5 * (n + 1) + 4) ?_
    rw [step_at]
    cases hl : lineAt text s with
    | false =>
      rw [if_neg Bool.false_ne_true, if_neg (fun x => Bool.false_ne_true x.1)]
      refine Finds.step (n := 5 * (n + 1) + 3) ?_
      rw [step_back, if_pos hs]
      obtain ⟨k, hk, x⟩ := finds text n (s + 1) (s + 1) false false false ((sn.add 6).add 44) (by omega)
      exact ⟨k, by omega, x⟩
    | true =>
      rw [if_pos rfl]
      refine Finds.step (n := 5 * (n + 1) + 3) ?_
      rw [step_lit _ _ _ _ _ _ _ hs]
      by_cases hc : text.getD s 0 = 46
      · rw [if_pos hc, if_pos ⟨rfl, hc⟩]
        refine Finds.step (n := 5 * (n + 1) + 2) ?_
        rw [step_succ]
        exact ⟨2, by omega, step_done _ _ _ _ _ _ _ _ _⟩
      · rw [if_neg hc, if_neg (fun x => hc x.2)]
        refine Finds.step (n := 5 * (n + 1) + 2) ?_
        rw [step_back, if_pos hs]
        obtain ⟨k, hk, x⟩ := finds text n (s + 1) (s + 1) false false false (((sn.add 6).add 44).add 16) (by omega)
        exact ⟨k, by omega, x⟩
theorem search_at (text : Array Nat) (s : Nat) (b : Bool) (hs : s < text.size) : ∃ sn, forSearch qc text 0 s text.size b = stS text s s b true true sn 5 s none := by
  refine ⟨({} : Seen).add 14, ?_⟩
  have e : forSearch qc text 0 s text.size b = if s > text.size || text.size - s < 1 then M.say { stS text s s b true true (({} : Seen).add 14) 5 s none with frames := [], weight := 0, lastStart := 0 } false else stS text s s b true true (({} : Seen).add 14) 5 s none := by
    rfl
  rw [e, if_neg (by simp; omega)]
theorem steps_stay (m : M) (h : m.outcome.isSome = true) : ∀ k, steps k m = m
  | 0 => rfl
  | k + 1 => by
    have e : m.step = m := by unfold M.step; rw [if_pos h]
    show steps k m.step = m
    rw [e]; exact steps_stay m h k
theorem runFor_steps : ∀ (n : Nat) (m : M), M.runFor n m = steps n m
  | 0, _ => rfl
  | n + 1, m => by
    show (if m.outcome.isSome then m else M.runFor n m.step) = steps n m.step
    by_cases h : m.outcome.isSome = true
    · rw [if_pos h]
      have e : m.step = m := by unfold M.step; rw [if_pos h]
      rw [e, steps_stay m h]
    · rw [if_neg h]; exact runFor_steps n m.step
theorem steps_add (m : M) : ∀ (a b : Nat), steps (a + b) m = steps b (steps a m)
  | 0, b => by rw [Nat.zero_add]; rfl
  | a + 1, b => by
    rw [Nat.succ_add]
    exact steps_add m.step a b
open PySem.Builtin.Re in
theorem drive {M' : Model} {A : Around} {E : Value → Shared → Prop} {s : Shared} {Q : M → Shared → Prop} {k : Nat} : ∀ (turns : Nat) (m : M), (steps k m).outcome.isSome = true → k ≤ 4 * turns → 0 < turns → Q (steps k m) s →
    wpAny M' A (reDrive turns m) Q E s := by
  intro turns
  induction turns generalizing k with
  | zero => intro m h hk h0; omega
  | succ n ih =>
    intro m h hk h0 hQ
    show wpAny _ A (if (M.runFor 4 m).outcome.isSome then pure (M.runFor 4 m) else do rule "sre.turn"; reDrive n (M.runFor 4 m)) Q E s
    rw [runFor_steps]
    by_cases h4 : (steps 4 m).outcome.isSome = true
    · rw [if_pos h4]
      refine wpAny_pure ?_
      have : steps k m = steps 4 m := by
        rcases Nat.le_total k 4 with hk4 | hk4
        · obtain ⟨d, hd⟩ := Nat.exists_eq_add_of_le hk4
          rw [hd, steps_add, steps_stay _ h]
        · obtain ⟨d, rfl⟩ := Nat.exists_eq_add_of_le hk4
          rw [steps_add, steps_stay _ h4]
      rw [← this]; exact hQ
    · rw [if_neg h4]
      have hk4 : 4 ≤ k := by
        rcases Nat.lt_or_ge k 4 with hk4 | hk4
        · exfalso
          obtain ⟨d, hd⟩ := Nat.exists_eq_add_of_le (Nat.le_of_lt hk4)
          rw [hd, steps_add, steps_stay _ h] at h4
          exact h4 h
        · exact hk4
      obtain ⟨d, rfl⟩ := Nat.exists_eq_add_of_le hk4
      rw [steps_add] at h hQ
      have hd : 0 < d := by
        rcases Nat.eq_zero_or_pos d with rfl | hd
        · exact absurd h h4
        · exact hd
      refine wpAny_bind (wpAny_rule ?_)
      exact ih (k := d) _ h (by omega) (by omega) hQ
end Mine

end

section
open PySem PySem.W PyProof.Rows PySem.Calls PySem.Builtin PySem.Builtin.Re
set_option maxRecDepth 100000
set_option linter.all false
namespace Mine
section
variable {prog : Program} {w : World} {A : Around} {E : Value → Shared → Prop} {s : Shared}

theorem look_buf : typeLookup (.type "bytes") "__buffer__" = pure (some (.builtin "bytes.__buffer__")) := by rw [typeLookup_type, builtinLookup_eq_fast]; kernel_rfl
theorem look_rel : typeLookup (.type "bytes") "__release_buffer__" = pure none := by rw [typeLookup_type, builtinLookup_eq_fast]; kernel_rfl
theorem look_call : typeLookup (.type "bytes") "__call__" = pure none := by rw [typeLookup_type, builtinLookup_eq_fast]; kernel_rfl
theorem own_buf {b : Array UInt8} {t : Tok} {Q : Bool → Shared → Prop} (h : Q true s) : wpAny (model prog w) A (Bytes.slotIsOwn (.bytes b t) "__buffer__") Q E s := by
  unfold Bytes.slotIsOwn
  refine wpAny_bind (wpAny_specialOf (typeIs_bytes s b t) look_buf ?_)
  show wpAny _ A (if (!"bytes.__buffer__".endsWith ("." ++ "__buffer__")) = true then _ else isInstance (.bytes b t) (.type ("bytes.__buffer__".dropRight ("__buffer__".length + 1)))) Q E s
  rw [show (!"bytes.__buffer__".endsWith ("." ++ "__buffer__")) = false from by decide +kernel, if_neg Bool.false_ne_true, show "bytes.__buffer__".dropRight ("__buffer__".length + 1) = "bytes" from by decide +kernel]
  exact wpAny_isInstance (typeIs_bytes s b t) F.sub_bytes_bytes h
theorem own_rel {b : Array UInt8} {t : Tok} {Q : Bool → Shared → Prop} (h : Q false s) : wpAny (model prog w) A (Bytes.ownRelease (.bytes b t)) Q E s := by
  unfold Bytes.ownRelease Bytes.slotIsOwn
  refine wpAny_bind (wpAny_bind (wpAny_specialOf (typeIs_bytes s b t) look_rel ?_))
  exact wpAny_pure (wpAny_pure h)
theorem buffer_bytes {id : String} {full : Bool} {b : Array UInt8} {t : Tok} {Q : Option (Array UInt8) → Shared → Prop} (h : Q (some b) s) : wpAny (model prog w) A (Bytes.buffer? id (.bytes b t) full) Q E s := by
  unfold Bytes.buffer?
  refine wpAny_bind (wpAny_specialOf (typeIs_bytes s b t) look_buf ?_)
  refine wpAny_bind (own_buf ?_)
  refine wpAny_bind (wpAny_specialOf (typeIs_bytes s b t) look_buf ?_)
  refine wpAny_bind (own_rel ?_)
  exact wpAny_pure h
theorem bufferQ {id : String} {b : Array UInt8} {t : Tok} {Q : Option (Array UInt8) → Shared → Prop} (h : Q (some b) s) : wpAny (model prog w) A (Bytes.bufferQuiet? id (.bytes b t)) Q E s := by
  unfold Bytes.bufferQuiet?
  exact wpAny_bind (wpAny_attempt (buffer_bytes (wpAny_pure h)))
theorem text_of {b : Array UInt8} {t : Tok} {Q : Array Nat × Nat → Shared → Prop} (h : Q (b.map (·.toNat), 1) s) : wpAny (model prog w) A (reTextOf (.bytes b t)) Q E s := by
  unfold reTextOf
  refine wpAny_bind (wpAny_pure (α := Option Str) ?_)
  exact wpAny_bind (bufferQ (wpAny_pure h))

structure PatIn (h : Heap) (P : Addr) : Prop where
  ex : ∃ o pf C oC its n, h.get? P = some o ∧ o.data = .fields pf ∧ reRawNat (pf.getD 6 .none) = 1 ∧ reRawNat (pf.getD 2 .none) = 0 ∧ pf.getD 5 .none = .ref C ∧ h.get? C = some oC ∧ oC.data = .seq its n ∧ (its.map reRawOf).map Int.toNat = qc
theorem PatIn.keeps {h h' : Heap} {P : Addr} (x : PatIn h P) (k : ∀ b o, h.get? b = some o → h'.get? b = some o) : PatIn h' P := by
  obtain ⟨o, pf, C, oC, its, n, h1, h2, h3, h4, h5, h6, h7⟩ := x.ex
  exact ⟨o, pf, C, oC, its, n, k _ _ h1, h2, h3, h4, h5, k _ _ h6, h7⟩
abbrev tgt (P : Addr) (b : Array UInt8) (t : Tok) : ReTarget := { pattern := .ref P, string := .bytes b t, code := qc, text := b.map (·.toNat), kind := 1, groups := 0, pos := 0, lim := (b.map (·.toNat)).size }
theorem whole_target {P : Addr} {b : Array UInt8} {t : Tok} {Q : ReTarget → Shared → Prop} (hP : PatIn s.heap P) (h : Q (tgt P b t) s) : wpAny (model prog w) A (reWholeTarget (.ref P) (.bytes b t)) Q E s := by
  obtain ⟨o, pf, C, oC, its, n, h1, h2, h3, h4, h5, h6, h7, h8⟩ := hP.ex
  unfold reWholeTarget
  refine wpAny_bind (wpAny_fieldsOf h1 h2 ?_)
  refine wpAny_bind (text_of ?_)
  show wpAny _ A (if (reRawNat (pf.getD 6 .none) == 0 && 1 == 1) = true then _ else if (reRawNat (pf.getD 6 .none) == 1 && 1 == 0) = true then _ else _) Q E s
  rw [h3]
  show wpAny _ A (reNoCollectionInside (.bytes b t) 1 >>= _) Q E s
  refine wpAny_bind ?_
  unfold reNoCollectionInside
  show wpAny _ A (isInstance (.bytes b t) (.type "bytes") >>= _) _ E s
  refine wpAny_bind (wpAny_isInstance (typeIs_bytes s b t) F.sub_bytes_bytes ?_)
  refine wpAny_pure ?_
  rw [h5, h4]
  refine wpAny_bind ?_
  unfold reRawItems
  refine wpAny_bind (wpAny_seqItems h6 h7 (wpAny_pure ?_))
  refine wpAny_pure ?_
  show Q { pattern := .ref P, string := .bytes b t, code := ((some its).getD #[] |>.map reRawOf).map (·.toNat), text := _, kind := 1, groups := 0, pos := 0, lim := _ } s
  rw [show (some its).getD #[] = its from rfl]
  rw [show (its.map reRawOf).map (·.toNat) = qc from h8]
  exact h

theorem rules_loop {β : Type} (f : β → PUnit → Sem (ForInStep PUnit)) (hf : ∀ i r s (Q : ForInStep PUnit → Shared → Prop), Q (.yield ⟨⟩) s → wpAny (model prog w) A (f i r) Q E s) :
    ∀ (l : List β) (r : PUnit) (s : Shared) (Q : PUnit → Shared → Prop), Q ⟨⟩ s → wpAny (model prog w) A (forIn l r f) Q E s
  | [], _, _, _, h => wpAny_pure h
  | x :: l, r, s, Q, h => by
    rw [List.forIn_cons]
    exact wpAny_bind (hf _ _ _ _ (rules_loop f hf l _ _ _ h))
theorem run_end {m : Sre.M} {n : Nat} {r : Option Nat} {Q : Option Sre.M → Shared → Prop} (hf : Finds m n r) (hn : n ≤ 1000000) (hno : r = none → Q none s) (hso : ∀ p mf, r = some p → mf.start = p → mf.handed = p + 1 → Q (some mf) s) :
    wpAny (model prog w) A (reRunToEnd m) Q E s := by
  obtain ⟨k, hk, hr⟩ := hf
  unfold reRunToEnd
  have hsome : (steps k m).outcome.isSome = true := by
    cases r with
    | none => rw [hr]; rfl
    | some p => rw [hr.1]; rfl
  have hbig : k ≤ 4 * 2 ^ 64 := Nat.le_trans (Nat.le_trans hk hn) (by decide)
  refine wpAny_bind (drive (k := k) _ m hsome hbig (by decide) ?_)
  refine wpAny_bind (rules_loop _ (fun i r s Q hQ => ?_) _ _ _ _ ?_)
  · split
    · exact wpAny_bind (wpAny_rule (wpAny_pure hQ))
    · exact wpAny_pure hQ
  · cases r with
    | none => 
      rw [hr]
      exact wpAny_pure (hno rfl)
    | some p =>
      rw [hr.1]
      exact wpAny_pure (hso p _ rfl hr.2.1 hr.2.2)
theorem search_over (text : Array Nat) (b : Bool) : Finds (Sre.forSearch qc text 0 text.size text.size b) 1 none := by
  refine ⟨1, Nat.le_refl _, ?_⟩
  have e : Sre.forSearch qc text 0 text.size text.size b = if (decide (text.size > text.size) || decide (text.size - text.size < 1)) = true then { stS text text.size text.size b true true (({} : Sre.Seen).add 14) 5 text.size (some false) with frames := [], weight := 0, lastStart := 0 } else stS text text.size text.size b true true (({} : Sre.Seen).add 14) 5 text.size none := by
    rfl
  rw [e, if_pos (by simp)]
  rfl
theorem next_found {P : Addr} {b : Array UInt8} {t : Tok} {start : Nat} {must : Bool} {Q : Option Sre.M → Shared → Prop} (hs : start ≤ b.size) (hb : b.size ≤ 100000)
    (hno : dotFrom (b.map (·.toNat)) (b.size - start) start = none → Q none s) (hso : ∀ p mf, dotFrom (b.map (·.toNat)) (b.size - start) start = some p → mf.start = p → mf.handed = p + 1 → Q (some mf) s) :
    wpAny (model prog w) A (reNextFound (tgt P b t) start must) Q E s := by
  delta reNextFound
  dsimp only
  have hsz : (b.map (·.toNat)).size = b.size := Array.size_map
  rcases Nat.lt_or_ge start b.size with hlt | hge
  · obtain ⟨sn, e⟩ := search_at (b.map (·.toNat)) start must (by rw [hsz]; exact hlt)
    rw [e]
    exact run_end (finds (b.map (·.toNat)) (b.size - start) start start must true true sn (by rw [hsz]; omega)) (by omega) hno hso
  · obtain rfl : start = b.size := by omega
    have x := search_over (b.map (·.toNat)) must
    rw [hsz] at x ⊢
    rw [Nat.sub_self] at hno hso
    exact run_end x (by decide) hno hso
end
end Mine

end

section
open PySem PySem.W PyProof.Rows PySem.Calls PySem.Builtin PySem.Builtin.Re
set_option maxRecDepth 100000
set_option linter.all false
namespace Mine
inductive BytesAre : List Value → List (List UInt8) → Prop
  | nil : BytesAre [] []
  | cons (p : List UInt8) (t : Tok) {vs ps} : BytesAre vs ps → BytesAre (.bytes p.toArray t :: vs) (p :: ps)
theorem bytes_snoc {vs : List Value} {ps : List (List UInt8)} (h : BytesAre vs ps) (y : List UInt8) (t : Tok) : BytesAre (vs ++ [.bytes y.toArray t]) (ps ++ [y]) := by
  induction h with
  | nil => exact .cons y t .nil
  | cons z u _ ih => exact .cons z u ih
theorem bytes_len {vs : List Value} {ps : List (List UInt8)} (h : BytesAre vs ps) : vs.length = ps.length := by
  induction h with
  | nil => rfl
  | cons z u _ ih => simp [ih]
theorem bytes_get {vs : List Value} {ps : List (List UInt8)} (h : BytesAre vs ps) {i : Nat} (hi : i < vs.length) : ∃ p t, vs[i]? = some (.bytes p.toArray t) ∧ ps[i]? = some p := by
  induction h generalizing i with
  | nil => cases hi
  | cons z u _ ih =>
    cases i with
    | zero => exact ⟨z, u, rfl, rfl⟩
    | succ i => exact ih (by simpa using hi)
theorem slot_bytes_join : Slot "bytes" "join" "bytes.join" :=
  .of (owner := "bytes") (n := "join") (by rw [typeLookup_type, builtinLookup_eq_fast]; kernel_rfl) (by decide +kernel) (by decide +kernel) (by decide +kernel)
    (by first | exact .inl (by decide +kernel) | exact .inr (by decide +kernel)) (by rw [isSubtype_type]; kernel_rfl)
theorem entry_bytes_join : entryFor table "bytes.join" = some Builtin.«bytes.join» := entryFor_of_tree (by kernel_rfl)
theorem args_bytes_join_2 (a b : Value) : argsOk "bytes.join" ⟨[a, b], []⟩ := by
  unfold argsOk; rw [signature?_of (id := "bytes.join") (n := ['n', 'i', 'o', 'j']) (o := ['s', 'e', 't', 'y', 'b']) (by kernel_rfl) FB.owner_bytes]; kernel_rfl
section
variable {prog : Program} {w : World} {A : Around} {E : Value → Shared → Prop} {s : Shared}
theorem take_bytes {id : String} {b : Array UInt8} {t : Tok} {Q : Option (Array UInt8 × Option Value) → Shared → Prop} (h : Q (some (b, none)) s) : wpAny (model prog w) A (Bytes.takeBufferQuiet? id (.bytes b t) 0) Q E s := by
  unfold Bytes.takeBufferQuiet? Bytes.takeBuffer?
  refine wpAny_bind (wpAny_attempt ?_)
  refine wpAny_bind (wpAny_specialOf (typeIs_bytes s b t) look_buf ?_)
  refine wpAny_bind (own_buf ?_)
  refine wpAny_bind (wpAny_specialOf (typeIs_bytes s b t) look_buf ?_)
  refine wpAny_bind (buffer_bytes ?_)
  exact wpAny_pure (wpAny_pure h)
theorem letgo_all {keep : List Value} {Q : Unit → Shared → Prop} : ∀ (taken : List (Value × Option Value)) (s : Shared), (∀ x ∈ taken, x.2 = none) → Q () s → wpAny (model prog w) A (Bytes.joinLetGo taken keep) Q E s
  | [], s, _, h => wpAny_pure h
  | (x, u) :: rest, s, hn, h => by
    obtain rfl : u = none := hn _ (.head _)
    unfold Bytes.joinLetGo
    dsimp only
    refine wpAny_bind (wpAny_letGo ?_)
    exact letgo_all rest s (fun y hy => hn y (.tail _ hy)) h
theorem joined_flat : ∀ (ps : List (Array UInt8)), Bytes.joined #[] ps = (ps.flatMap (·.toList)).toArray := by
  intro ps
  have key : ∀ (l : List (Array UInt8)) (k : Nat) (acc : Array UInt8), (l.zipIdx k).foldl (fun out (p, i) => (if i > 0 then out ++ #[] else out) ++ p) acc = acc ++ (l.flatMap (·.toList)).toArray := by
    intro l
    induction l with
    | nil => intro k acc; simp
    | cons p l ih =>
      intro k acc
      rw [List.zipIdx_cons, List.foldl_cons, ih]
      have e : ((if k > 0 then acc ++ #[] else acc) : Array UInt8) = acc := by split <;> simp
      show ((if k > 0 then acc ++ #[] else acc) ++ p) ++ _ = _
      rw [e, Array.append_assoc]
      congr 1
      apply Array.toList_inj.mp
      simp
  have := key ps 0 #[]
  unfold Bytes.joined
  rw [this]; simp
theorem m1_ne {m : Array Value → Sort _} (I : Array Value) (h1 : (x : Value) → m #[x]) (h2 : (x : Array Value) → m x) (h : I.size ≠ 1) : Bytes.joinM.match_1 m I h1 h2 = h2 I := by
  unfold Bytes.joinM.match_1
  rw [dif_neg h]
theorem join_bytes {D : Addr} {oD : Obj} {n : Nat} {vs : List Value} {ps : List (List UInt8)} {t : Tok} {Q : Value → Shared → Prop} (ho : s.heap.get? D = some oD) (hd : oD.data = .seq vs.toArray n) (hc : oD.cls = .type "list")
    (hb : BytesAre vs ps) (hsz : (ps.flatMap id).length ≤ 100000) (h : ∀ t' k, Q (.bytes (ps.flatMap id).toArray t') { s with toks := k }) :
    wpAny (model prog w) A (call (.builtin "bytes.join") [.bytes #[] t, .ref D]) Q E s := by
  obtain ⟨I, hI⟩ : ∃ I, I = vs.toArray := ⟨_, rfl⟩
  rw [← hI] at hd
  refine wpAny_call_entry slot_bytes_join (typeIs_bytes s _ _) entry_bytes_join ?_ (args_bytes_join_2 _ _)
  show wpAny _ _ (Bytes.joinM .bytes ⟨[.bytes #[] t, .ref D], []⟩) _ _ s
  unfold Bytes.joinM
  refine wpAny_bind (wpAny_pure (α := Value × Value) (a := (.bytes #[] t, .ref D)) ?_)
  dsimp only
  rw [if_pos (by decide)]
  refine wpAny_bind ?_
  unfold Bytes.joinItems
  refine wpAny_bind (wpAny_typeOf_ref ho ?_)
  rw [hc]
  refine wpAny_pure ?_
  refine wpAny_bind (wpAny_seqItems ho hd ?_)
  dsimp only
  rw [if_pos (by decide)]
  by_cases h1 : I.size = 1
  · subst hI
    match vs, hb, h1 with
    | [x], hb, _ =>
      obtain ⟨p, tp, rfl, rfl⟩ : ∃ p tp, x = .bytes p.toArray tp ∧ ps = [p] := by
        cases hb with
        | cons p tp hb' =>
          cases hb'
          exact ⟨p, tp, rfl, rfl⟩
      show wpAny _ _ (typeOf _ >>= _) _ _ _
      refine wpAny_bind (wpAny_typeOf (typeIs_bytes s _ _) ?_)
      rw [if_pos (by decide)]
      refine wpAny_bind (wpAny_rule ?_)
      refine wpAny_pure ⟨_, rfl, ?_⟩
      have := h tp s.toks
      show Q (.bytes p.toArray tp) s
      simpa using this
  · rw [m1_ne _ _ _ h1]
    refine wpAny_bind ?_
    rw [Std.Legacy.Range.forIn_eq_forIn_range']
    refine wpAny_forIn_list _ (fun rest r s' => s' = s ∧ ∃ j, rest = List.range' j (I.size - j) ∧ j ≤ I.size ∧ r.1 = ((ps.take j).map (·.toArray)).toArray ∧ ∀ x ∈ r.2, x.2 = none) _ (fun i rest r s' hI' => ?_) (fun r s' hI' => ?_) _ _ ⟨rfl, 0, ?_, Nat.zero_le _, rfl, fun x hx => nomatch hx⟩
    · obtain ⟨rfl, j, hr, hj, hp, hn⟩ := hI'
      have hlt : j < I.size := by
        rcases Nat.lt_or_ge j I.size with hl | hl
        · exact hl
        · rw [Nat.sub_eq_zero_of_le hl] at hr; cases hr
      obtain ⟨e1, e2⟩ : i = j ∧ rest = List.range' (j + 1) (I.size - (j + 1)) := by
        have e : I.size - j = (I.size - (j + 1)) + 1 := by omega
        rw [e, List.range'_succ] at hr
        injection hr with a b
        exact ⟨a, b⟩
      subst e1
      have hvl : i < vs.length := by rw [hI] at hlt; simpa using hlt
      obtain ⟨p, tp, hv, hpi⟩ := bytes_get hb hvl
      have hx : I.getD i .none = .bytes p.toArray tp := by
        rw [Array.getD_eq_getD_getElem?, hI, List.getElem?_toArray, hv]; rfl
      refine wpAny_bind (wpAny_seqItems ho hd ?_)
      dsimp only
      rw [hx]
      split
      · refine wpAny_bind (wpAny_specialOf (typeIs_bytes s' _ _) look_buf ?_)
        refine wpAny_bind (wpAny_holding (take_bytes ?_))
        refine wpAny_bind (wpAny_seqItems ho hd ?_)
        dsimp only
        rw [if_neg (by simp)]
        exact wpAny_pure ⟨rfl, i + 1, e2, hlt, by dsimp only; rw [hp, List.take_add_one, hpi]; simp, fun x hx => by
          rcases List.mem_append.mp hx with hx | hx
          · exact hn x hx
          · rw [List.mem_singleton.mp hx]⟩
      · refine wpAny_bind (wpAny_holding (take_bytes ?_))
        refine wpAny_bind (wpAny_seqItems ho hd ?_)
        dsimp only
        rw [if_neg (by simp)]
        exact wpAny_pure ⟨rfl, i + 1, e2, hlt, by dsimp only; rw [hp, List.take_add_one, hpi]; simp, fun x hx => by
          rcases List.mem_append.mp hx with hx | hx
          · exact hn x hx
          · rw [List.mem_singleton.mp hx]⟩
    · obtain ⟨rfl, j, hr, hj, hp, hn⟩ := hI'
      have hj' : j = ps.length := by
        have e : I.size = vs.length := by rw [hI]; simp
        rw [← bytes_len hb, ← e]
        have := congrArg List.length hr
        simp at this; omega
      rw [hj', List.take_length] at hp
      refine wpAny_bind (wpAny_pure (α := Array UInt8) (a := #[]) ?_)
      have hfl : Bytes.joined #[] r.1.toList = (ps.flatMap id).toArray := by
        rw [hp, joined_flat]
        congr 1
        have key : ∀ l : List (List UInt8), ((l.map (·.toArray)).flatMap (·.toList)) = l.flatMap id := by
          intro l
          induction l with
          | nil => rfl
          | cons y l ih => simp only [List.map_cons, List.flatMap_cons, ih]; rfl
        exact key ps
      have hsum : Array.foldl (fun x1 x2 => x1 + x2.size) ((#[] : Array UInt8).size * (r.1.size - 1)) r.1 = (ps.flatMap id).length := by
        rw [hp]
        have key : ∀ (l : List (List UInt8)) (n : Nat), List.foldl (fun (x1 : Nat) (x2 : Array UInt8) => x1 + x2.size) n (l.map (·.toArray)) = n + (l.flatMap id).length := by
          intro l
          induction l with
          | nil => intro n; simp
          | cons y l ih => intro n; simp only [List.map_cons, List.foldl_cons]; rw [ih]; simp [Nat.add_assoc]
        simp [key]
      rw [hsum, hfl]
      have hnot : ¬ Bytes.tooLong (ps.flatMap id).length = true := by unfold Bytes.tooLong; rw [sizeLine_eq, decide_eq_true_eq]; omega
      rw [if_neg hnot]
      refine wpAny_bind (wpAny_mkBytes ?_ (by rw [sizeLine_eq]; exact Nat.le_trans (by rw [List.size_toArray]; exact hsz) (by decide)))
      refine wpAny_bind (wpAny_holding (wpAny_point ?_))
      refine wpAny_bind (letgo_all _ _ hn ?_)
      exact wpAny_pure ⟨_, rfl, h _ _⟩
    · simp
end
end Mine

end

section
open PySem PySem.W PyProof.Rows PySem.Calls PySem.Builtin PySem.Builtin.Re
set_option maxRecDepth 100000
set_option linter.all false
namespace Mine
def quoteB : Bool → List UInt8 → List UInt8
  | _, [] => []
  | f, c :: r => (if f = true ∧ c = 46 then [46, 46] else [c]) ++ quoteB (c == 10) r
theorem quoteB_len : ∀ (l : List UInt8) (f : Bool), (quoteB f l).length ≤ 2 * l.length
  | [], f => by simp [quoteB]
  | c :: r, f => by
    have := quoteB_len r (c == 10)
    unfold quoteB
    split <;> simp <;> omega
theorem line_succ (b : Array UInt8) {s : Nat} (hs : s < b.size) : lineAt (b.map (·.toNat)) (s + 1) = (b[s] == 10) := by
  have e : (b.map (·.toNat)).getD s 0 = b[s].toNat := by simp [hs]
  have e2 : lineAt (b.map (·.toNat)) (s + 1) = ((b.map (·.toNat)).getD s 0 == 10) := by
    show ((s + 1 == 0) || _) = _
    rw [show (s + 1 == 0) = false from by simp, Bool.false_or]; rfl
  rw [e2, e, Bool.eq_iff_iff, beq_iff_eq, beq_iff_eq]
  exact ⟨fun h => UInt8.toNat_inj.mp h, fun h => by rw [h]; rfl⟩
theorem get_nat (b : Array UInt8) {s : Nat} (hs : s < b.size) : ((b.map (·.toNat)).getD s 0 = 46) ↔ b[s] = 46 := by
  have e : (b.map (·.toNat)).getD s 0 = b[s].toNat := by simp [hs]
  rw [e]
  exact ⟨fun h => UInt8.toNat_inj.mp h, fun h => by rw [h]; rfl⟩
theorem dot_none (b : Array UInt8) : ∀ n s, s + n = b.size → dotFrom (b.map (·.toNat)) n s = none → quoteB (lineAt (b.map (·.toNat)) s) (b.toList.drop s) = b.toList.drop s
  | 0, s, e, _ => by rw [List.drop_eq_nil_of_le (by simp; omega)]; rfl
  | n + 1, s, e, h => by
    have hs : s < b.size := by omega
    have hc : b.toList.drop s = b[s] :: b.toList.drop (s + 1) := by rw [List.drop_eq_getElem_cons (l := b.toList) (i := s) (by simpa using hs)]; rfl
    rw [dotFrom] at h
    by_cases hd : lineAt (b.map (·.toNat)) s = true ∧ (b.map (·.toNat)).getD s 0 = 46
    · rw [if_pos hd] at h; cases h
    · rw [if_neg hd] at h
      have ih := dot_none b n (s + 1) (by omega) h
      rw [hc, quoteB, if_neg (fun x => hd ⟨x.1, (get_nat b hs).mpr x.2⟩), ← line_succ b hs, ih]
      rfl
theorem dot_some (b : Array UInt8) : ∀ n s p, s + n = b.size → dotFrom (b.map (·.toNat)) n s = some p → s ≤ p ∧ p < b.size ∧
    quoteB (lineAt (b.map (·.toNat)) s) (b.toList.drop s) = (b.extract s p).toList ++ [46, 46] ++ quoteB (lineAt (b.map (·.toNat)) (p + 1)) (b.toList.drop (p + 1))
  | 0, s, p, e, h => by cases h
  | n + 1, s, p, e, h => by
    have hs : s < b.size := by omega
    have hc : b.toList.drop s = b[s] :: b.toList.drop (s + 1) := by rw [List.drop_eq_getElem_cons (l := b.toList) (i := s) (by simpa using hs)]; rfl
    rw [dotFrom] at h
    by_cases hd : lineAt (b.map (·.toNat)) s = true ∧ (b.map (·.toNat)).getD s 0 = 46
    · rw [if_pos hd] at h
      obtain rfl : s = p := Option.some.inj h
      refine ⟨Nat.le_refl _, hs, ?_⟩
      rw [hc, quoteB, if_pos ⟨hd.1, (get_nat b hs).mp hd.2⟩, ← line_succ b hs]
      simp
    · rw [if_neg hd] at h
      obtain ⟨h1, h2, h3⟩ := dot_some b n (s + 1) p (by omega) h
      refine ⟨by omega, h2, ?_⟩
      rw [hc, quoteB, if_neg (fun x => hd ⟨x.1, (get_nat b hs).mpr x.2⟩), ← line_succ b hs, h3]
      have hx : (b.extract s p).toList = b[s] :: (b.extract (s + 1) p).toList := by
        simp only [Array.toList_extract, List.extract_eq_take_drop]
        rw [hc, show p - s = (p - (s + 1)) + 1 from by omega, List.take_succ_cons]
      rw [hx]; simp
theorem entry_sub_loop : entryFor table "re.Pattern.sub.loop" = some Builtin.«re.Pattern.sub.loop» := entryFor_of_tree (by kernel_rfl)
theorem plain_sub_loop : plainId "re.Pattern.sub.loop" = true := by decide +kernel
section
variable {prog : Program} {w : World} {A : Around} {E : Value → Shared → Prop} {s : Shared}
theorem slice_bytes {b : Array UInt8} {i j : Nat} (hb : b.size ≤ 100000) {Q : Value → Shared → Prop} (h : ∀ t, Q (.bytes (b.extract i j) t) { s with toks := s.toks + 1 }) :
    wpAny (model prog w) A (reSlice (b.map (·.toNat)) 1 i j) Q E s := by
  have e : ((b.map (·.toNat)).extract i j).map (·.toUInt8) = b.extract i j := by
    apply Array.ext'
    simp only [Array.toList_map, Array.toList_extract, List.extract_eq_take_drop, List.map_take, List.map_drop, List.map_map]
    have : ∀ l : List UInt8, l.map ((fun x : Nat => x.toUInt8) ∘ fun x : UInt8 => x.toNat) = l := by
      intro l
      induction l with
      | nil => rfl
      | cons y l ih => rw [List.map_cons, ih]; simp
    rw [this]
  show wpAny _ A (mkBytes (((b.map (·.toNat)).extract i j).map (·.toUInt8))) Q E s
  rw [e]
  exact wpAny_mkBytes (h _) (by rw [sizeLine_eq]; simp; omega)
structure SubSt (h₀ h : Heap) (D : Addr) (ps : List (List UInt8)) : Prop where
  under : ∀ b o, h₀.get? b = some o → h.get? b = some o
  new : h₀.get? D = none
  obj : ∃ oD n vs, h.get? D = some oD ∧ oD.cls = .type "list" ∧ oD.data = .seq (vs : List Value).toArray n ∧ oD.isFreed = false ∧ BytesAre vs ps
theorem sub_push {h₀ : Heap} {D : Addr} {ps : List (List UInt8)} {y : List UInt8} {t : Tok} {Q : Unit → Shared → Prop} (X : SubSt h₀ s.heap D ps) (hl : ps.length ≤ 200000)
    (h : ∀ h', SubSt h₀ h' D (ps ++ [y]) → Q () { s with heap := h' }) : wpAny (model prog w) A (updateSeq D (·.push (.bytes y.toArray t))) Q E s := by
  obtain ⟨oD, n, vs, ho, hc, hd, hf, hb⟩ := X.obj
  have hvl : vs.toArray.size ≤ sizeLine := by rw [sizeLine_eq, List.size_toArray, bytes_len hb]; omega
  refine wpAny_updateSeq ho hd (h _ ?_) hvl (by simp; rw [sizeLine_eq, bytes_len hb]; omega)
  refine ⟨fun b o e => ?_, X.new, ?_⟩
  · have hne : D ≠ b := fun q => by rw [← q, X.new] at e; cases e
    exact (Heap.get?_update_other _ _ hne).trans (X.under b o e)
  · obtain ⟨c, d, dt, sl⟩ := oD
    simp only at hd hc; subst hd
    refine ⟨_, (if (vs.toArray.push (.bytes y.toArray t)).size == vs.toArray.size then n else n + 1), vs ++ [.bytes y.toArray t], Heap.get?_update_self _ ho rfl, hc, ?_, rfl, bytes_snoc hb y t⟩
    rw [← List.push_toArray]; rfl
theorem bytes_value (l : List UInt8) (t : Tok) : Value.bytes l.toArray t = .bytes l.toArray t := rfl
theorem sub_loop {h₀ : Heap} {P D : Addr} {b : Array UInt8} {t t2 : Tok} {R : Result → Shared → Prop} (hP : PatIn h₀ P) (hb : b.size ≤ 20000) :
    ∀ (k start : Nat) (n : Int) (must : Bool) (ps : List (List UInt8)) (s : Shared), start + k = b.size → SubSt h₀ s.heap D ps → ps.length ≤ 2 * start → (ps.flatMap _root_.id).length ≤ 2 * start →
    (∀ s' t', (∀ b o, h₀.get? b = some o → s'.heap.get? b = some o) → s'.gens = s.gens → s'.os = s.os →
      R (.ok (.ret (.bytes (ps.flatMap _root_.id ++ quoteB (lineAt (b.map (·.toNat)) start) (b.toList.drop start)).toArray t'))) s') →
    codeAny (model prog w) A (.builtin "re.Pattern.sub.loop" ⟨[.ref P, .bytes b t, .bytes #[46, 46] t2, rawInt 0, rawInt 0, rawInt n, rawInt start, rawInt start, .bool must, .ref D, .bool false], []⟩) R s := by
  intro k
  induction k using Nat.strongRecOn with
  | ind k ih =>
  intro start n must ps s hk X hpl hpf h
  refine codeAny_builtin entry_sub_loop ?_
  rw [Around.under_plainId plain_sub_loop]
  show wpAny _ _ (reWholeTarget (.ref P) (.bytes b t) >>= _) _ _ s
  refine wpAny_bind (whole_target (hP.keeps X.under) ?_)
  show wpAny _ _ (reLiteralCannotBeTurned (.bytes #[46, 46] t2) >>= _) _ _ s
  unfold reLiteralCannotBeTurned
  refine wpAny_bind (wpAny_bind (wpAny_pure (α := Option Str) (a := none) ?_))
  show wpAny _ _ (isInstance _ _ >>= _) _ _ s
  refine wpAny_bind (wpAny_isInstance (typeIs_bytes s _ _) F.sub_bytes_bytes ?_)
  refine wpAny_pure ?_
  dsimp only
  rw [if_neg (by simp)]
  have fin : ∀ (ps' : List (List UInt8)) (s₁ : Shared), SubSt h₀ s₁.heap D ps' → s₁.gens = s.gens → s₁.os = s.os → ps'.length ≤ 200000 →
      ps'.flatMap _root_.id = ps.flatMap _root_.id ++ quoteB (lineAt (b.map (·.toNat)) start) (b.toList.drop start) →
      wpAny (model prog w) A.in1 (do
        let joiner ← reSlice (b.map (·.toNat)) 1 0 0
        let text ← if ((← seqItems? (.ref D)).getD #[]).isEmpty then pure joiner
          else call (.builtin (if (1 : Nat) == 0 then "str.join" else "bytes.join")) [joiner, .ref D]
        if false then ret (← holding [text] do newTuple [text, ← mkInt n]) else ret text)
       (fun fin s' => match fin with | .done f => R (.ok f) s' | .again c' => c'.quiet = true ∧ codeAny (model prog w) A c' R s') (fun e s' => R (.error e) s') s₁ := by
    intro ps' s₁ X' hg ho hl e
    have hq := quoteB_len (b.toList.drop start) (lineAt (b.map (·.toNat)) start)
    simp only [List.length_drop, Array.length_toList] at hq
    obtain ⟨oD, nn, vs, hoD, hc, hd, hf, hbs⟩ := X'.obj
    refine wpAny_bind (slice_bytes (by omega) fun tj => ?_)
    have e0 : b.extract 0 0 = #[] := by simp
    rw [e0]
    refine wpAny_bind (wpAny_seqItems hoD hd ?_)
    have hZ : (ps'.flatMap _root_.id).length ≤ 100000 := by rw [e, List.length_append]; omega
    have hret : ∀ t' k, wpAny (model prog w) A.in1 (if false = true then do ret (← holding [.bytes (ps'.flatMap _root_.id).toArray t'] do newTuple [.bytes (ps'.flatMap _root_.id).toArray t', ← mkInt n]) else ret (.bytes (ps'.flatMap _root_.id).toArray t'))
       (fun fin s' => match fin with | .done f => R (.ok f) s' | .again c' => c'.quiet = true ∧ codeAny (model prog w) A c' R s') (fun e s' => R (.error e) s') { s₁ with toks := k } := by
      intro t' k
      rw [if_neg Bool.false_ne_true]
      refine wpAny_pure ?_
      rw [e]
      exact h _ _ X'.under hg ho
    cases vs with
    | nil =>
      cases hbs
      rw [if_pos (by rfl)]
      exact wpAny_bind (wpAny_pure (hret tj _))
    | cons v vs =>
      rw [if_neg (by simp)]
      rw [if_neg (show ¬ ((1 : Nat) == 0) = true by decide)]
      exact wpAny_bind (join_bytes hoD hd hc hbs hZ fun t' k => hret t' k)
  refine wpAny_bind (next_found (by simp; omega) (by omega) (fun hno => ?_) fun p mf hp hm1 hm2 => ?_)
  · rw [Int.toNat_natCast] at hno
    have hq := dot_none b (b.size - start) start (by omega) hno
    dsimp only
    rw [Int.toNat_natCast]
    by_cases hlt : start < (b.map (·.toNat)).size
    · rw [if_pos hlt]
      refine wpAny_bind (slice_bytes (by omega) fun t' => ?_)
      have hex : b.extract start (b.map (·.toNat)).size = (b.toList.drop start).toArray := by
        apply Array.ext'
        rw [Array.size_map]
        simp only [Array.toList_extract, List.extract_eq_take_drop]
        rw [List.take_of_length_le (by simp)]
      rw [hex]
      refine wpAny_bind (sub_push X (by omega) fun h' X' => ?_)
      refine fin _ _ X' rfl rfl (by simp; omega) ?_
      rw [hq]; simp
    · rw [if_neg hlt]
      refine fin _ _ X rfl rfl (by omega) ?_
      have : b.toList.drop start = [] := List.drop_eq_nil_of_le (by simp at hlt ⊢; omega)
      rw [this]; simp [quoteB]
  · rw [Int.toNat_natCast] at hp
    obtain ⟨h1, h2, h3⟩ := dot_some b (b.size - start) start p (by omega) hp
    dsimp only
    rw [Int.toNat_natCast, hm1, hm2]
    have hag : ∀ (ps' : List (List UInt8)) (s₁ : Shared), SubSt h₀ s₁.heap D ps' → s₁.gens = s.gens → s₁.os = s.os → ps'.length ≤ 2 * start + 1 → ps'.flatMap _root_.id = ps.flatMap _root_.id ++ (b.extract start p).toList →
       wpAny (model prog w) A.in1 (do
        let item ← pure (Value.bytes #[46, 46] t2)
        if item != .none then updateSeq D (·.push item)
        again (.builtin "re.Pattern.sub.loop" ⟨[.ref P, .bytes b t, .bytes #[46, 46] t2, rawInt 0, rawInt 0, rawInt (n + 1), rawInt ((p + 1 : Nat) : Int), rawInt ((p + 1 : Nat) : Int), .bool (p + 1 == p), .ref D, .bool false], []⟩))
       (fun fin s' => match fin with | .done f => R (.ok f) s' | .again c' => c'.quiet = true ∧ codeAny (model prog w) A c' R s') (fun e s' => R (.error e) s') s₁ := by
      intro ps' s₁ X' hg ho hl e
      refine wpAny_bind (wpAny_pure ?_)
      rw [if_pos (by rfl)]
      refine wpAny_bind (sub_push (y := [46, 46]) X' (by omega) fun h' X'' => ?_)
      refine wpAny_pure ⟨plainId_quiet plain_sub_loop _, ?_⟩
      have hxl : (b.extract start p).toList.length = p - start := by rw [Array.length_toList, Array.size_extract]; omega
      have h46 : (List.flatMap _root_.id [([46, 46] : List UInt8)]).length = 2 := rfl
      refine ih (b.size - (p + 1)) (by omega) (p + 1) (n + 1) _ _ _ (by omega) X'' (by simp; omega) ?_ fun s' t' hu hg' ho' => ?_
      · rw [List.flatMap_append, List.length_append, e, List.length_append, hxl, h46]
        omega
      · have := h s' t' hu (hg'.trans hg) (ho'.trans ho)
        rw [h3] at this
        rw [List.flatMap_append, e]
        simpa using this
    by_cases hlt : start < p
    · rw [if_pos hlt]
      refine wpAny_bind (slice_bytes (by omega) fun t' => ?_)
      rw [show b.extract start p = (b.extract start p).toList.toArray from rfl]
      refine wpAny_bind (sub_push X (by omega) fun h' X' => ?_)
      refine hag _ _ X' rfl rfl (by simp; omega) (by rw [List.flatMap_append]; simp only [List.flatMap_cons, List.flatMap_nil, List.append_nil]; rfl)
    · rw [if_neg hlt]
      obtain rfl : start = p := by omega
      have hnil : (b.extract start start).toList = [] := by rw [Array.toList_extract, List.extract_eq_take_drop, Nat.sub_self]; rfl
      refine hag _ _ X rfl rfl (by omega) (by rw [hnil, List.append_nil])
end
end Mine

end

section
open PySem PySem.W PyProof.Rows PySem.Calls PySem.Builtin PySem.Builtin.Re
set_option maxRecDepth 100000
set_option linter.all false
namespace Mine
theorem slot_sub : Slot "re.Pattern" "sub" "re.Pattern.sub" :=
  .of (owner := "re.Pattern") (n := "sub") (by rw [typeLookup_type, builtinLookup_eq_fast]; kernel_rfl) (by decide +kernel) (by decide +kernel) (by decide +kernel)
    (by first | exact .inl (by decide +kernel) | exact .inr (by decide +kernel)) (by rw [isSubtype_type]; kernel_rfl)
theorem entry_sub : entryFor table "re.Pattern.sub" = some Builtin.«re.Pattern.sub» := entryFor_of_tree (by kernel_rfl)
theorem args_sub (a b c : Value) : argsOk "re.Pattern.sub" ⟨[a, b, c], []⟩ := by
  first | (unfold argsOk; kernel_rfl) | (unfold argsOk; rfl)
theorem type_sub : typeOf (.builtin "re.Pattern.sub") = pure (.type "method_descriptor") := by show builtinType _ = _; rw [builtinType_eq_fast]; kernel_rfl
theorem plainAttrs_pat : PlainAttrs "re.Pattern" :=
  ⟨⟨"object.__getattribute__", by rw [typeLookup_type, builtinLookup_eq_fast]; kernel_rfl, by decide +kernel⟩, by rw [typeLookup_type, builtinLookup_eq_fast]; kernel_rfl⟩
theorem warm7 (w : World) (h : Heap) (X : (hd.heap_39 w.params).In h) : Challenge.rw_wo0010_01.prog = Challenge.rw_wo0010_01.prog := by revert X; k_fill; intro _; rfl
theorem pat_in {w : World} {h : Heap} (X : (hd.heap_39 w.params).In h) : PatIn h 64 :=
  ⟨_, _, 63, _, _, _, X 64 _ (by k_dflt k_is), rfl, rfl, rfl, rfl, X 63 _ (by k_dflt k_is), rfl, by simp [reRawOf]⟩
theorem pat_obj {w : World} {h : Heap} (X : (hd.heap_39 w.params).In h) : ∃ o, h.get? 64 = some o ∧ o.cls = .type "re.Pattern" ∧ o.dict = none := ⟨_, X 64 _ (by k_dflt k_is), rfl, rfl⟩
section
variable {prog : Program} {w : World} {A : Around} {E : Value → Shared → Prop} {s : Shared}
theorem named_sub (a b : Value) : reNamed "re.Pattern.sub" "sub" ["repl", "string", "count"] 2 [a, b] [] = pure [some a, some b, none] := by
  rfl
theorem sub_bytes {P : Addr} {b : Array UInt8} {t t2 : Tok} {Q : Value → Shared → Prop} (hP : PatIn s.heap P) (hTy : s.TypeIs (.ref P) "re.Pattern") (hb : b.size ≤ 20000)
    (h : ∀ s' t', Ext s s' → Q (.bytes (quoteB true b.toList).toArray t') s') :
    wpAny (model prog w) A (call (.builtin "re.Pattern.sub") [.ref P, .bytes #[46, 46] t2, .bytes b t]) Q E s := by
  refine wpAny_call (codeAny_call_builtin slot_sub.plain entry_sub (slot_sub.check _ _ _ _ _ _ _ _ hTy (args_sub _ _ _) ?_))
  show wpAny _ _ (reNamed "re.Pattern.sub" "sub" ["repl", "string", "count"] 2 [_, _] [] >>= _) _ _ s
  rw [named_sub]
  refine wpAny_bind (wpAny_pure ?_)
  refine wpAny_bind (wpAny_pure ?_)
  refine wpAny_bind (wpAny_specialOf (typeIs_bytes s _ _) look_call ?_)
  rw [if_neg (by decide)]
  refine wpAny_bind (wpAny_pure (α := Option Str) (a := none) ?_)
  refine wpAny_bind (bufferQ ?_)
  refine wpAny_bind (wpAny_pure ?_)
  dsimp only
  rw [if_neg (by decide)]
  rw [if_pos (by simp)]
  refine wpAny_bind (wpAny_pure ?_)
  refine wpAny_bind (wpAny_holding (whole_target hP ?_))
  rw [if_neg (by simp)]
  refine wpAny_bind (wpAny_newList ?_)
  refine wpAny_pure ⟨plainId_quiet plain_sub_loop _, ?_⟩
  have X : SubSt s.heap (s.heap.push { cls := .type "list", data := .seq ([] : List Value).toArray }) s.heap.objs.size [] :=
    ⟨fun b o e => Heap.get?_push_of_some _ e, none_of_le (hB := s.heap) (h := s.heap) (fun _ _ e => e) (Nat.le_refl _), _, _, [], Heap.get?_push_size _ rfl, rfl, rfl, rfl, .nil⟩
  refine sub_loop (h₀ := s.heap) hP hb b.size 0 0 false [] _ (by simp) X (Nat.zero_le _) (Nat.zero_le _) fun s' t' hu hg ho => ?_
  refine h s' t' ⟨hu, ho, fun x => ?_⟩
  rw [hg]; exact x
end
set_option maxHeartbeats 4000000 in
theorem quote_c {w : World} {A : Around} {s : Shared} {b : Array UInt8} {t : Tok} {Q E : Value → Shared → Prop} {mean mg mb} (hb : b.size ≤ 20000)
  (X : (hd.heap_39 w.params).In s.heap) (T : Top hd.view_39 LO mean mg mb s.heap) (hh : A.handled = none) (hr : A.depth + 30 < recursionLimit)
  (h : ∀ s' t', Ext s s' → Q (.bytes (quoteB true b.toList).toArray t') s') :
  wpAny (model TP w) A (call (.ref 71) [.bytes b t]) Q E s := by
  refine call_plainK [(Str.ofString "bindata", .bytes b t)] X T.nolimit (by omega) (by k_dflt k_is) (by k_dflt k_is) rfl rfl ?_
  intro h₁ F
  have N : News s.heap s.heap.objs.size h₁ [] := News.nil
  k_steps
  obtain ⟨oP, hoP, hcP, hdP⟩ := pat_obj (X.keeps F.keep)
  have hTy : ∀ g d k o, (⟨h₁, g, d, k, o⟩ : Shared).TypeIs (.ref 64) "re.Pattern" := fun g d k o => ⟨oP, hoP, hcP⟩
  refine getMethod_builtin (hTy _ _ _ _) plainAttrs_pat slot_sub type_sub (fun a e => by cases e; exact ⟨oP, hoP, hdP⟩) ?_
  k_steps
  exact sub_bytes (pat_in (X.keeps F.keep)) (hTy _ _ _ _) hb fun s' t' Ex => h s' t' ⟨fun b o e => Ex.keep b o (F.keep b o e), Ex.side.os, fun x => Ex.side.bare x⟩
end Mine

end

section
open PySem PySem.W PyProof.Rows PySem.Calls PySem.Builtin PySem.Builtin.Re
set_option maxRecDepth 100000
set_option linter.all false
namespace Mine
def toB (x : List Nat) : List UInt8 := x.map (·.toUInt8)
section
variable {prog : Program} {w : World} {A : Around} {E : Value → Shared → Prop} {s : Shared}
theorem asc_bad {x : Str} (hx : Asc x) : ∀ c ∈ x.cps.toList, Builtin._codecs.utf8Codec.bad c = false := fun c hc => by
  have := (asc_iff x).mp hx c hc
  show (decide (0xD800 ≤ c) && decide (c ≤ 0xDFFF)) = false
  simp; omega
theorem asc_bytes : ∀ (l : List Nat) (acc : Array UInt8), (∀ c ∈ l, c < 128) → l.foldl (fun acc y => acc ++ (Builtin._codecs.utf8Codec.bytesOf y).toArray) acc = acc ++ (toB l).toArray
  | [], acc, _ => by simp [toB]
  | c :: r, acc, h => by
    have hc : Builtin._codecs.utf8Codec.bytesOf c = [c.toUInt8] := by
      show Str.utf8Of c = _
      unfold Str.utf8Of
      rw [if_pos (h c (.head _))]
    rw [List.foldl_cons, asc_bytes r _ fun d hd => h d (.tail _ hd), hc]
    simp [toB]
theorem narrow {id : String} {self : Value} {x : Str} {Q : Array UInt8 → Shared → Prop} (hx : Asc x) (hl : x.length ≤ 20000) (h : Q (toB x.cps.toList).toArray s) :
    wpAny (model prog w) A (Builtin._codecs.encodeNarrow id Builtin._codecs.utf8Codec none self x) Q E s := by
  unfold Builtin._codecs.encodeNarrow
  dsimp only
  refine wpAny_bind ?_
  rw [Std.Legacy.Range.forIn_eq_forIn_range']
  have hfold : (x.cps.extract 0 x.cps.size).foldl (fun acc y => acc ++ (Builtin._codecs.utf8Codec.bytesOf y).toArray) #[] = (toB x.cps.toList).toArray := by
    rw [Array.extract_size, ← Array.foldl_toList, asc_bytes _ _ ((asc_iff x).mp hx)]; simp
  have hfind : x.cps.findIdx? Builtin._codecs.utf8Codec.bad = none := by
    rw [Array.findIdx?_eq_none_iff]
    intro c hc
    exact asc_bad hx c (Array.mem_def.mp hc)
  refine wpAny_forIn_list _ (fun rest r s' => s' = s ∧ ((r.1 = 0 ∧ r.2.1 = #[] ∧ (rest = [] → x.cps.size = 0)) ∨ (r.1 = x.cps.size ∧ r.2.1 = (toB x.cps.toList).toArray))) _ (fun i rest r s' hI => ?_) (fun r s' hI => ?_) _ _ ⟨rfl, .inl ⟨rfl, rfl, ?_⟩⟩
  · obtain ⟨rfl, hI⟩ := hI
    obtain ⟨i0, out, st⟩ := r
    dsimp only at hI ⊢
    have hout : ¬ out.size > sizeLine := by
      rcases hI with ⟨_, rfl, _⟩ | ⟨_, rfl⟩
      · simp
      · rw [sizeLine_eq]; simp [toB]; exact Nat.le_trans hl (by decide)
    rw [if_neg hout]
    rcases hI with ⟨rfl, rfl, _⟩ | ⟨rfl, rfl⟩
    · by_cases h0 : x.cps.size = 0
      · rw [Array.getElem?_eq_none (by omega)]
        refine wpAny_pure ?_
        refine wpAny_pure ?_
        have : x.cps.toList = [] := by simpa using h0
        rw [this] at h
        exact h
      · have hlt : 0 < x.cps.size := by omega
        rw [Array.getElem?_eq_getElem hlt]
        dsimp only
        have hc := asc_bad hx x.cps[0] (by simp)
        rw [hc, if_pos (by rfl)]
        refine wpAny_pure ⟨rfl, .inr ?_⟩
        dsimp only
        have e : x.cps.extract 0 x.cps.size = x.cps := Array.extract_size
        rw [e, hfind]
        refine ⟨by simp, ?_⟩
        show (x.cps.extract 0 x.cps.size).foldl _ _ = _
        exact hfold
    · rw [Array.getElem?_eq_none (by omega)]
      exact wpAny_pure (wpAny_pure h)
  · obtain ⟨rfl, hI⟩ := hI
    rcases hI with ⟨h1, h2, h3⟩ | ⟨h1, h2⟩
    · have h0 := h3 rfl
      have : x.cps.toList = [] := by simpa using h0
      rw [this] at h
      rw [h2]
      exact wpAny_pure h
    · rw [h2]; exact wpAny_pure h
  · intro e
    have := congrArg List.length e
    simpa [Str.length] using this
theorem args_encode (a b : Value) : argsOk "str.encode" ⟨[a, b], []⟩ := F.args_str_encode_2 a b
theorem encode_c {x : Str} {t t2 : Tok} {Q : Value → Shared → Prop} (hx : Asc x) (hl : x.length ≤ 20000) (h : ∀ t' k, Q (.bytes (toB x.cps.toList).toArray t') { s with toks := k }) :
    wpAny (model prog w) A (call (.builtin "str.encode") [.str x t, .str (Str.ofString "utf-8") t2]) Q E s := by
  refine wpAny_call_entry F.slot_str_encode (typeIs_str _ _ _) F.entry_str_encode ?_ (args_encode _ _)
  show wpAny _ _ (Builtin.«str.encode» _) _ _ s
  unfold Builtin.«str.encode»
  refine wpAny_bind (wpAny_of_eq (a := (.str x t, x, [.str (Str.ofString "utf-8") t2])) (by rfl) ?_)
  refine wpAny_bind (wpAny_of_eq (a := [some (.str (Str.ofString "utf-8") t2), none]) (by rfl) ?_)
  dsimp only
  refine wpAny_bind ?_
  unfold Str.codecArg
  refine wpAny_bind (wpAny_of_eq (a := Str.ofString "utf-8") (by rfl) ?_)
  rw [if_neg (by decide +kernel), if_neg (by decide +kernel)]
  refine wpAny_pure ?_
  refine wpAny_bind (wpAny_of_eq (a := none) (by rfl) ?_)
  refine wpAny_bind ?_
  show wpAny _ _ (Builtin._codecs.encodeRoad "str.encode" (.str x t) x (Str.ofString "utf-8") none) _ _ _
  rw [encodeRoad_utf8]
  refine wpAny_bind (narrow hx hl ?_)
  refine wpAny_mkBytes ?_ (by rw [sizeLine_eq]; simp [toB]; exact Nat.le_trans hl (by decide))
  exact wpAny_pure ⟨_, rfl, h _ _⟩
theorem entry_dtext : entryFor table "_codecs.decode.text" = some Builtin.«_codecs.decode.text» := entryFor_of_tree (by kernel_rfl)
theorem kind_dtext : builtinKind "_codecs.decode.text" = none := by decide +kernel
theorem plain_dtext : plainId "_codecs.decode.text" = true := by decide +kernel
theorem args_dtext (a b c d : Value) : argsOk "_codecs.decode.text" ⟨[a, b, c, d], []⟩ := by
  first | (unfold argsOk; kernel_rfl) | (unfold argsOk; rfl)
open Builtin._codecs in
theorem decodeRoad_utf8 (id : String) (b : Array UInt8) (held : List Value) : decodeRoad id b (Str.ofString "utf-8") none held = (do mkStr ⟨(← runDecoder id utf8Decoder none true b 0 held).1⟩) := by
  first | rfl | (unfold decodeRoad; rfl) | (unfold decodeRoad; simp only []; rfl)
open Builtin._codecs in
theorem run_ascii {id : String} {x : List Nat} {held : List Value} {Q : Array Nat × Nat → Shared → Prop} (hx : ∀ c ∈ x, c < 128) (hl : x.length ≤ 50000) (h : ∀ n, Q (x.toArray, n) s) :
    wpAny (model prog w) A (runDecoder id utf8Decoder none true (toB x).toArray 0 held) Q E s := by
  unfold runDecoder
  dsimp only
  refine wpAny_bind ?_
  rw [Std.Legacy.Range.forIn_eq_forIn_range']
  have hsz : (toB x).toArray.size = x.length := by simp [toB]
  refine wpAny_forIn_list _ (fun rest r s' => s' = s ∧ ∃ j, rest = List.range' j (x.length - j) ∧ j ≤ x.length ∧ r.1 = j ∧ r.2.1 = (x.take j).toArray) _ (fun i rest r s' hI => ?_) (fun r s' hI => ?_) _ _ ⟨rfl, 0, ?_, Nat.zero_le _, rfl, rfl⟩
  · obtain ⟨rfl, j, hr, hj, hp, ho⟩ := hI
    obtain ⟨p, out, st⟩ := r
    dsimp only at hp ho ⊢
    subst hp ho
    have hlt : p < x.length := by
      rcases Nat.lt_or_ge p x.length with hl | hl
      · exact hl
      · rw [Nat.sub_eq_zero_of_le hl] at hr; cases hr
    obtain ⟨e1, e2⟩ : i = p ∧ rest = List.range' (p + 1) (x.length - (p + 1)) := by
      have e : x.length - p = (x.length - (p + 1)) + 1 := by omega
      rw [e, List.range'_succ] at hr
      injection hr with a b
      exact ⟨a, b⟩
    rw [if_neg (by rw [sizeLine_eq]; simp; omega), if_neg (by rw [hsz]; omega)]
    have hb : ((toB x).toArray.getD p 0).toNat = x[p] := by
      have h1 := hx x[p] (List.getElem_mem hlt)
      simp [toB, hlt]
      omega
    have hat : utf8Decoder.find true (toB x).toArray p = .char x[p] (p + 1) := by
      have : Bytes.utf8At (toB x).toArray p = (.char x[p], p + 1) := by
        unfold Bytes.utf8At
        dsimp only
        rw [hb, if_pos (hx _ (List.getElem_mem hlt))]
      unfold utf8Decoder
      dsimp only
      rw [this]
    rw [hat]
    show wpAny _ A (pure _) _ _ _
    refine wpAny_pure ⟨rfl, p + 1, e2, hlt, rfl, ?_⟩
    show (x.take p).toArray ++ [x[p]].toArray = _
    rw [List.take_succ_eq_append_getElem hlt]; simp
  · obtain ⟨rfl, j, hr, hj, hp, ho⟩ := hI
    have hj' : j = x.length := by
      have := congrArg List.length hr
      simp at this; omega
    rw [hj', List.take_length] at ho
    refine wpAny_pure ?_
    rw [ho]
    exact h _
  · simp [hsz]
theorem dtext_c {x : List Nat} {t t2 t3 : Tok} {id : Str} {Q : Value → Shared → Prop} (hx : ∀ c ∈ x, c < 128) (hl : x.length ≤ 50000) (h : ∀ t' k, Q (.str ⟨x.toArray⟩ t') { s with toks := k }) :
    wpAny (model prog w) A (call (.builtin "_codecs.decode.text") [.bytes (toB x).toArray t, .str (Str.ofString "utf-8") t2, .none, .str id t3]) Q E s := by
  refine call_function_tree kind_dtext plain_dtext entry_dtext (args_dtext _ _ _ _) ?_
  unfold Builtin.«_codecs.decode.text»
  dsimp only
  refine wpAny_bind (wpAny_pure (α := Option Str) (a := none) ?_)
  unfold Bytes.bytesLike
  refine wpAny_bind (wpAny_bind (buffer_bytes ?_))
  refine wpAny_pure ?_
  unfold Builtin._codecs.dataHeld Bytes.bytesLike
  refine wpAny_bind (wpAny_bind (wpAny_bind (buffer_bytes ?_)))
  refine wpAny_pure ?_
  refine wpAny_pure ?_
  rw [decodeRoad_utf8]
  refine wpAny_bind (wpAny_bind (run_ascii hx hl fun n => ?_))
  refine wpAny_mkStr ?_ (by show x.toArray.size ≤ sizeLine; rw [sizeLine_eq]; simp; omega)
  exact wpAny_pure (h _ _)
theorem args_decode (a b : Value) : argsOk "bytes.decode" ⟨[a, b], []⟩ := by
  unfold argsOk; rw [signature?_of (id := "bytes.decode") (n := ['e', 'd', 'o', 'c', 'e', 'd']) (o := ['s', 'e', 't', 'y', 'b']) (by kernel_rfl) FB.owner_bytes]; kernel_rfl
theorem decode_c {x : List Nat} {t t2 : Tok} {Q : Value → Shared → Prop} (hx : ∀ c ∈ x, c < 128) (hl : x.length ≤ 50000) (h : ∀ t' k, Q (.str ⟨x.toArray⟩ t') { s with toks := k }) :
    wpAny (model prog w) A (call (.builtin "bytes.decode") [.bytes (toB x).toArray t, .str (Str.ofString "utf-8") t2]) Q E s := by
  refine wpAny_call_entry FB.slot_bytes_decode (typeIs_bytes s _ _) FB.entry_bytes_decode ?_ (args_decode _ _)
  show wpAny _ _ (Bytes.decodeM .bytes _) _ _ s
  unfold Bytes.decodeM
  dsimp only
  refine wpAny_bind (wpAny_of_eq (a := [some (.str (Str.ofString "utf-8") t2), none]) (by rfl) ?_)
  dsimp only
  refine wpAny_bind ?_
  unfold Bytes.checkCodecArg
  refine wpAny_bind (wpAny_pure (α := Option Str) (a := some (Str.ofString "utf-8")) ?_)
  dsimp only
  rw [if_neg (by decide +kernel), if_neg (by decide +kernel)]
  refine wpAny_pure ?_
  refine wpAny_bind (wpAny_pure (α := Unit) (a := ()) ?_)
  rw [if_neg (by decide +kernel)]
  unfold Bytes.thenGiveBack
  dsimp only
  refine wpAny_bind (wpAny_of_eq (a := (toB x).toArray) (by rfl) ?_)
  by_cases hne : (toB x).toArray.isEmpty = true
  · rw [if_pos hne]
    have : x = [] := by simpa [toB] using hne
    subst this
    refine wpAny_bind (wpAny_rule ?_)
    unfold retStr
    refine wpAny_bind (wpAny_mkStr ?_ (Nat.zero_le _))
    exact wpAny_pure ⟨_, rfl, h _ _⟩
  · rw [if_neg hne]
    refine wpAny_bind (wpAny_mkStr ?_ (by decide +kernel))
    refine wpAny_bind (wpAny_bind (wpAny_pure (α := Option Str) (a := some (Str.ofString "utf-8")) ?_))
    refine wpAny_mkStr ?_ (by decide +kernel)
    refine wpAny_bind (wpAny_pure ?_)
    refine wpAny_bind (wpAny_mkStr ?_ (by decide +kernel))
    refine wpAny_bind (dtext_c hx hl fun t' k => ?_)
    exact wpAny_pure ⟨_, rfl, h _ _⟩
end
end Mine

end

section
open PySem PySem.W PyProof.Rows PySem.Calls
set_option maxRecDepth 100000
set_option linter.all false
namespace Mine
theorem call_cellK {prog : Program} {w : World} {A : Around} {s : Shared} {f : Addr} {vals : List Value} {Q E : Value → Shared → Prop} {K : Frag}
  {oc : Value} {od : Option Addr} {osl : Array (Option Value)} {name : Str} {params : Arguments} {body : List Stmt} {scope : Scope} {pm cd doc : Value} (binds : List (Str × Value))
  (X : K.In s.heap) (hlim : s.heap.NoLimit) (hroom : A.depth < recursionLimit)
  (ho : K.lookup f = some ⟨oc, od, .func (docDef name params body scope pm cd doc), osl⟩)
  (hcd : codeIn K cd name = true)
  (hbind : bindArgs (docDef name params body scope pm cd doc) ⟨vals, []⟩ = pure binds)
  (hkind : ∀ n, ∀ x ∈ binds, scope.names.lookup x.1 = some .local ∨ (scope.names.lookup x.1 = some .cell ∧ ((cellsFrom n scope.names []).lookup x.1).isSome = true))
  (hnd : ((cellsFrom 0 scope.names []).map (·.1)).Nodup)
  (h : ∀ h₁ tk cells, Fr s.heap s.heap.objs.size h₁ (bindL (envOfC name scope s.heap.objs.size f cd).kindOf binds fun _ => none) → News s.heap s.heap.objs.size h₁ cells →
     CellsAre (bindC (envOfC name scope s.heap.objs.size f cd).kindOf binds fun _ => none) (cellsFrom (s.heap.objs.size + 1) scope.names []) cells →
     wpAny (model prog w) (A.deeper (envOfC name scope s.heap.objs.size f cd)) (execs body (envOfC name scope s.heap.objs.size f cd))
     (fun fl s' => Q (match fl with | .ret v => v | _ => .none) s') NoE { s with heap := h₁, toks := tk })
  (hco : scope.isCoroutine = false := by rfl) (hgen : scope.isGenerator = false := by rfl) (hk : scope.kind = .function := by rfl) :
  wpAny (model prog w) A (call (.ref f) vals) Q E s := by
  refine wpAny_call ?_
  refine codeAny_call_function hroom (X _ _ ho) rfl hco hgen rfl (codeRec_of X hcd) (BindsTo.of_eq hbind _ _ _ _ ?_)
  refine wpAny_newFunctionEnv_cells hk (hkind _) fun env' he s' x => ?_
  subst he
  refine ⟨hlim.keeps x.toInCall.keep, codeAny_func ?_⟩
  obtain ⟨h₁, tk, rfl, _⟩ := x.done
  have hk₁ := x.toInCall.keep
  obtain ⟨cells, NC, Y⟩ := Cl.news (h₀ := s.heap) (Nat.le_refl _) fun n c hm => ⟨x.cell n c (lookup_of_mem_nodup (cellsFrom_names scope.names 0 (s.heap.objs.size + 1) [] [] rfl ▸ hnd) hm), x.above n c hm⟩
  exact wpAny_mono (h h₁ tk cells ⟨x.toInCall.ns, hk₁, Nat.le_refl _⟩ (fun p hp => ⟨(NC p hp).1, (NC p hp).2.1, (NC p hp).2.2⟩) Y) (fun _ _ y => y) fun _ _ y => y.elim
end Mine

end

section
open PySem PySem.W PyProof.Rows PySem.Calls
set_option maxRecDepth 100000
set_option linter.all false
namespace Mine
section
variable {prog : Program} {w : World} {A : Around} {E : Value → Shared → Prop} {s : Shared}
theorem start_enum {h₀ : Heap} {L l : Addr} {m : Str → Option Value} {news : Led} {vs : List Value} {Q : Value → Shared → Prop} (F : Fr h₀ L s.heap m) (N : News h₀ L s.heap news) (hl : s.heap.IsList l vs.toArray)
    (h : ∀ e it own s', e ≠ it → e ≠ l → l ≠ it → EnumSt e it l 0 own s' → Fr h₀ L s'.heap m → News h₀ L s'.heap (news ++ own) → OwnOff own (news.map (·.1)) → Ext s s' → s'.gens = s.gens →
      (∀ (Q' : Value → Shared → Prop) E', Q' (.ref e) s' → wpAny (model prog w) A (pyIter (.ref e)) Q' E' s') → Q (.ref e) s') :
    wpAny (model prog w) A (call (.type "enumerate") [.ref l]) Q E s := by
  obtain ⟨ol, hol, _⟩ := id hl
  have lt := Heap.lt_size hol
  refine call_enumerate_list hl fun h' he hit hsz hk => ?_
  obtain ⟨o, ho, hc, hd⟩ := hit
  have e0 : s.heap.objs.size + 1 ≠ s.heap.objs.size := Nat.succ_ne_self _
  have st : EnumSt (s.heap.objs.size + 1) s.heap.objs.size l 0 [(s.heap.objs.size + 1, { cls := .type "enumerate", dict := none, data := .fields #[.none, .bool false, .ref s.heap.objs.size, rawInt 0, .none, .none], slots := #[] }), (s.heap.objs.size, o)] { s with heap := h' } :=
    ⟨.none, o, rfl, he, ho, hc, hd⟩
  refine h _ _ _ _ e0 (Nat.ne_of_gt (Nat.lt_succ_of_lt lt)) (Nat.ne_of_lt lt) st (F.keeps hk) ?_ ?_ ⟨hk, .same⟩ rfl (fun Q' E' hq => wpAny_pyIter_enum he hq)
  · refine news_app (fun p hp => ⟨hk _ _ (N p hp).1, (N p hp).2⟩) fun p hp => ?_
    rcases List.mem_cons.mp hp with rfl | hp
    · exact ⟨he, fr_ne F (Nat.le_succ _), fr_none F (Nat.le_succ _)⟩
    · rw [List.mem_singleton.mp hp]; exact ⟨ho, fr_ne F (Nat.le_refl _), fr_none F (Nat.le_refl _)⟩
  · intro p hp b hb q
    obtain ⟨r, hr, e'⟩ := List.mem_map.mp hb
    have h1 := Heap.lt_size (N r hr).1
    have e2 : r.1 = p.1 := e'.trans q.symm
    rcases List.mem_cons.mp hp with rfl | hp
    · rw [e2] at h1; exact absurd h1 (Nat.not_lt.mpr (Nat.le_succ _))
    · rw [List.mem_singleton.mp hp] at e2; rw [e2] at h1; exact Nat.lt_irrefl _ h1
end
end Mine

end

section
open PySem PySem.W PyProof.Rows PySem.Calls
set_option maxRecDepth 100000
set_option linter.all false
namespace Mine
theorem warm8 (w : World) (h : Heap) (X : (hd.heap_39 w.params).In h) : Challenge.rw_wo0010_01.prog = Challenge.rw_wo0010_01.prog := by revert X; k_fill; intro _; rfl
section
variable {M : Model} {A : Around} {E : Value → Shared → Prop} {s : Shared} {env : Env} {h₀ : Heap} {L : Addr} {m : Str → Option Value} {news : Led} {Q : Value → Shared → Prop}
theorem name_l {x : Str} {pos : Pos} {v : Value} (F : Fr h₀ env.locals s.heap m) (hv : m x = some v) (hk : env.scope.kind = .function) (hx : env.kindOf x = some .local) (h : Q v s) (hd : (x == ("__debug__" : Str)) = false := by decide) :
    wpAny M A (eval (.Name x pos) env) Q E s := wpAny_Name (wpAny_loadName_local hk hx F.ns hv h) hd
theorem name_c {x : Str} {pos : Pos} {v : Value} {c : Addr} {o : Obj} (N : News h₀ L s.heap news) (hm : (c, o) ∈ news) (hd : o.data = .cell (some v)) (hc : env.cells.lookup x = some c) (hk : env.scope.kind = .function) (hx : env.kindOf x = some .cell) (h : Q v s) (hb : (x == ("__debug__" : Str)) = false := by decide) :
    wpAny M A (eval (.Name x pos) env) Q E s := wpAny_Name (wpAny_loadName_cell hk hx hc ⟨o, (N _ hm).1, hd⟩ h) hb
end
def rowEnd (j : Nat) (x : Str) : Str := x ++ (if j % 2 = 0 then Str.ofString "\n" else Str.ofString "\r\n")
def sentRows (fs : List Str) : List Str := fs.zipIdx.map fun p => rowEnd p.2 p.1
theorem sentRows_succ {fs : List Str} {j : Nat} {y : Str} (h : fs[j]? = some y) : sentRows (fs.take (j + 1)) = sentRows (fs.take j) ++ [rowEnd j y] := by
  have hl : (fs.take j).length = j := by
    have := (List.getElem?_eq_some_iff.mp h).1
    simp; omega
  unfold sentRows
  rw [List.take_add_one, h, List.zipIdx_append, List.map_append, hl]
  simp
theorem sentRows_len (fs : List Str) : (sentRows fs).length = fs.length := by simp [sentRows]
theorem sentRows_le {fs : List Str} (hx : ∀ x ∈ fs, Asc x ∧ x.length ≤ 1000) : ∀ r ∈ sentRows fs, r.length ≤ 1002 := by
  intro r hr
  obtain ⟨p, hp, rfl⟩ := List.mem_map.mp hr
  have h1 := (hx p.1 (List.fst_mem_of_mem_zipIdx hp)).2
  unfold rowEnd
  rw [Str.length_append]
  have h2 : (if p.2 % 2 = 0 then Str.ofString "\n" else Str.ofString "\r\n" : Str).length ≤ 2 := by split <;> decide
  omega
theorem sentRows_sum {fs : List Str} (hx : ∀ x ∈ fs, Asc x ∧ x.length ≤ 1000) (hn : fs.length ≤ 10) : ((sentRows fs).map (·.length)).sum + (sentRows fs).length * (Str.ofString "").length ≤ 10020 := by
  have h1 := sum_le (sentRows_le hx)
  rw [sentRows_len] at h1
  have h2 : (Str.ofString "").length = 0 := rfl
  rw [h2, Nat.mul_zero, Nat.add_zero]
  omega
abbrev footS : Str := Str.ofString "a.\r.\n\n.a.\r\n\x0b.\n."
abbrev grownS : Str := Str.ofString "a.\r.\n\n..a.\r\n\x0b.\n.."
def sentText (fs : List Str) : Str := Txt.join (Str.ofString "") (sentRows fs) ++ footS
theorem sentJoin_len {fs : List Str} (hx : ∀ x ∈ fs, Asc x ∧ x.length ≤ 1000) (hn : fs.length ≤ 10) : (Txt.join (Str.ofString "") (sentRows fs)).length ≤ 10020 := by
  have h1 := sentRows_sum hx hn
  show (Builtin.Str.glued _ (sentRows fs)).length ≤ _
  rw [StrLaws.glued_eq_join]
  exact Nat.le_trans (StrLaws.join_length_le _ _) h1
theorem sentText_fit {fs : List Str} (hx : ∀ x ∈ fs, Asc x ∧ x.length ≤ 1000) (hn : fs.length ≤ 10) : (Txt.join (Str.ofString "") (sentRows fs)).length + footS.length ≤ sizeLine := by
  rw [sizeLine_eq]
  exact Nat.le_trans (Nat.add_le_add (sentJoin_len hx hn) (show footS.length ≤ 20 by decide)) (by decide)
abbrev sentMap (D : Addr) (tf tg : Tok) (ot od : Option Value) : Str → Option Value :=
  (fun y => if y = Str.ofString "told" then od else if y = Str.ofString "text" then ot else if y = Str.ofString "grown" then some (.str grownS tg) else if y = Str.ofString "foot" then some (.str footS tf) else if y = Str.ofString "rows" then some (.ref D) else none)
theorem asc_app {a b : Str} (ha : Asc a) (hb : Asc b) : Asc (a ++ b) := (asc_iff _).mpr fun c hc => by
  have e : (a ++ b).cps.toList = a.cps.toList ++ b.cps.toList := Array.toList_append
  rw [e] at hc
  rcases List.mem_append.mp hc with h | h
  · exact (asc_iff a).mp ha c h
  · exact (asc_iff b).mp hb c h
theorem sentText_asc {fs : List Str} (hx : ∀ x ∈ fs, Asc x ∧ x.length ≤ 1000) : Asc (sentText fs) := by
  refine asc_app ((asc_iff _).mpr fun c hc => ?_) ((asc_iff _).mpr (by decide))
  rw [join_list_eq] at hc
  obtain ⟨r, hr, hc⟩ := List.mem_flatMap.mp hc
  obtain ⟨p, hp, rfl⟩ := List.mem_map.mp hr
  refine (asc_iff _).mp (asc_app (hx p.1 (List.fst_mem_of_mem_zipIdx hp)).1 ?_) c hc
  split <;> exact (asc_iff _).mpr (by decide)
theorem sentText_len {fs : List Str} (hx : ∀ x ∈ fs, Asc x ∧ x.length ≤ 1000) (hn : fs.length ≤ 10) : (sentText fs).length ≤ 10100 := by
  unfold sentText
  rw [Str.length_append]
  exact Nat.le_trans (Nat.add_le_add (sentJoin_len hx hn) (show footS.length ≤ 20 by decide)) (by decide)
def quoteN : Bool → List Nat → List Nat
  | _, [] => []
  | f, c :: r => (if f = true ∧ c = 46 then [46, 46] else [c]) ++ quoteN (c == 10) r
theorem toB_quote : ∀ (l : List Nat) (f : Bool), (∀ c ∈ l, c < 128) → quoteB f (toB l) = toB (quoteN f l)
  | [], _, _ => rfl
  | c :: r, f, h => by
    have hc := h c (.head _)
    have ih := toB_quote r (c == 10) fun d hd => h d (.tail _ hd)
    have e46 : (c.toUInt8 = 46) ↔ c = 46 := by
      rw [← UInt8.toNat_inj]; simp; omega
    have e10 : (c.toUInt8 == 10) = (c == 10) := by
      rw [Bool.eq_iff_iff, beq_iff_eq, beq_iff_eq, ← UInt8.toNat_inj]; simp; omega
    show quoteB f (c.toUInt8 :: toB r) = _
    rw [quoteB, quoteN, e10, ih]
    by_cases h1 : f = true ∧ c = 46
    · rw [if_pos h1, if_pos ⟨h1.1, e46.mpr h1.2⟩]; rfl
    · rw [if_neg h1, if_neg (fun x => h1 ⟨x.1, e46.mp x.2⟩)]; rfl
theorem quoteN_asc : ∀ (l : List Nat) (f : Bool), (∀ c ∈ l, c < 128) → ∀ c ∈ quoteN f l, c < 128
  | [], _, _ => fun _ h => nomatch h
  | c :: r, f, h => by
    intro d hd
    rw [quoteN] at hd
    rcases List.mem_append.mp hd with hd | hd
    · split at hd
      · simp at hd; omega
      · rw [List.mem_singleton.mp hd]; exact h c (.head _)
    · exact quoteN_asc r _ (fun e he => h e (.tail _ he)) d hd
theorem quoteN_len : ∀ (l : List Nat) (f : Bool), (quoteN f l).length ≤ 2 * l.length
  | [], _ => by simp [quoteN]
  | c :: r, f => by
    have := quoteN_len r (c == 10)
    rw [quoteN, List.length_append, List.length_cons]
    have h2 : (if f = true ∧ c = 46 then [46, 46] else [c]).length ≤ 2 := by split <;> simp
    omega
def toldS (fs : List Str) : Str := ⟨(quoteN true (sentText fs).cps.toList).toArray⟩
def sentOut (td : Str) : List Str := if (Txt.slice td (some ((td.length : Int) - ((17 : Nat) : Int))) none != grownS) = true then [] else
  (Txt.split (Txt.slice td none (some ((td.length : Int) - ((17 : Nat) : Int)))) (Str.ofString "\n")).take ((Txt.split (Txt.slice td none (some ((td.length : Int) - ((17 : Nat) : Int)))) (Str.ofString "\n")).length - 1)
theorem strs_take {vs : List Value} {ss : List Str} (h : StrsAre vs ss) : ∀ n, StrsAre (vs.take n) (ss.take n) := by
  induction h with
  | nil => intro n; simp; exact .nil
  | cons z u _ ih =>
    intro n
    cases n with
    | zero => exact .nil
    | succ n => exact .cons z u (ih n)
set_option maxHeartbeats 4000000 in
theorem sent_c {w : World} {A : Around} {s : Shared} {D : Addr} {vs : List Value} {fs : List Str} {Q E : Value → Shared → Prop} {mean mg mb} (hD : s.heap.IsList D vs.toArray) (hvs : StrsAre vs fs) (hx : ∀ x ∈ fs, Asc x ∧ x.length ≤ 1000) (hn : fs.length ≤ 10)
  (h : ∀ s' l items n, Ext s s' → s.heap.get? l = none → s'.heap.get? l = some { cls := .type "list", data := .seq items n } → StrsAre items.toList (sentOut (toldS fs)) → Q (.ref l) s')
  (X : (hd.heap_39 w.params).In s.heap) (T : Top hd.view_39 LO mean mg mb s.heap) (hh : A.handled = none) (hr : A.depth + 40 < recursionLimit) :
  wpAny (model TP w) A (call (.ref 95) [.ref D]) Q E s := by
  refine call_cellK [(Str.ofString "rows", .ref D)] X T.nolimit (by omega) (by k_dflt k_is) (by k_dflt k_is) rfl (fun n x hx => .inl (by rw [List.mem_singleton.mp hx]; rfl)) (by decide) ?_
  intro h₁ tk cells F N Y
  obtain ⟨oc, rfl, hoc⟩ := CellsAre.one Y
  replace F : Fr s.heap s.heap.objs.size h₁ (fun y => if y = Str.ofString "rows" then some (.ref D) else none) := F
  clear Y
  iterate 27 (first | (k_unfold; (try dsimp only)) | (k_end; wrow_close) | walk1 | (dsimp only; walk1) | (leave1; walk_say "STEP leave1"; try dsimp only))
  refine comp_eval [(Str.ofString "ends", s.heap.objs.size + 1)] ?q1 ?q2 ?q3 ?_
  case q1 => rfl
  case q2 => rfl
  case q3 => decide
  iterate 6 (first | (k_unfold; (try dsimp only)) | (k_end; wrow_close) | walk1 | (dsimp only; walk1) | (leave1; walk_say "STEP leave1"; try dsimp only))
  rename Fr _ _ _ _ => F₂
  rename News _ _ _ _ => N₂
  rename_i lE _ _ _ oE hoE
  refine start_enum F₂ N₂ (isList_keep hD F₂.keep) fun e it own s₁ hei hel hli st F₃ N₃ off₃ Ex₃ hg₃ hiter => ?_
  refine hiter _ _ ?_
  refine comp_block (iter_enum ?hh e it D vs hei hel hli) (fun h hk _ => isList_keep hD hk) (fun _ => trivial) (fun _ _ _ _ _ => trivial) ?hsz (by decide) rfl
    (fun j ys => StrsAre ys (sentRows (fs.take j))) st F₃ N₃ off₃ .nil (fun j ys hj => ?hlen) ?turn ?done
  case hh => exact hh
  case hsz => rw [strs_len hvs, sizeLine_eq]; omega
  case hlen => rw [strs_len hj, sentRows_len, List.length_take]; exact Nat.min_le_left _ _
  case turn =>
    rintro j v extra rest ys C mC s₅ hj ⟨T, tt, x, rfl, rfl, hxj⟩ hys F N S
    obtain ⟨y, ty, rfl, hy⟩ := strs_get hvs hxj
    simp only [List.cons_append, List.nil_append] at N
    refine assign_pair hh F N (.head _) (fun h₄ F₄ N₄ => ?_) ?ha ?hb ?hc
    case ha => rfl
    case hb => rfl
    case hc => rfl
    refine wpAny_pure ?_
    rw [if_pos rfl]
    clear F N
    (first | (k_unfold; (try dsimp only)) | (k_end; wrow_close) | walk1 | (dsimp only; walk1) | (leave1; walk_say "STEP leave1"; try dsimp only))
    refine name_l F₄ (v := .str y ty) ?e1 ?e2 ?e3 ?_
    case e1 => rfl
    case e2 => rfl
    case e3 => rfl
    refine wpAny_Subscript_BinOp_late ?_ ?ht
    case ht => intro _ _; rfl
    refine name_c (L := C) N₄ (c := s.heap.objs.size + 1) (o := oE) (by simp) hoE ?e1 ?e2 ?e3 ?_
    case e1 => rfl
    case e2 => rfl
    case e3 => rfl
    (first | (k_unfold; (try dsimp only)) | (k_end; wrow_close) | walk1 | (dsimp only; walk1) | (leave1; walk_say "STEP leave1"; try dsimp only))
    refine name_l F₄ (v := .int j tt) ?e1 ?e2 ?e3 ?_
    case e1 => rfl
    case e2 => rfl
    case e3 => rfl
    (first | (k_unfold; (try dsimp only)) | (k_end; wrow_close) | walk1 | (dsimp only; walk1) | (leave1; walk_say "STEP leave1"; try dsimp only))
    (first | (k_unfold; (try dsimp only)) | (k_end; wrow_close) | walk1 | (dsimp only; walk1) | (leave1; walk_say "STEP leave1"; try dsimp only))
    have hmod : (j : Int).fmod 2 = ((j % 2 : Nat) : Int) := by rw [Int.fmod_eq_emod_of_nonneg _ (by decide)]; omega
    rw [hmod]
    have hyl := hx y (List.mem_of_getElem? hy)
    have hL := News.isList N₄ (List.mem_cons_of_mem _ (List.mem_cons_self))
    refine ⟨"list", _, PySem.F.slot_list_getitem.lookup, hL.typeIs, ?_⟩
    have N₅ := news_sub N₄ (news' := (lE, _) :: (s.heap.objs.size + 1, oE) :: rest) (fun p hp => List.mem_cons_of_mem _ hp)
    rcases Nat.mod_two_eq_zero_or_one j with hp | hp
    · rw [hp]
      refine wpAny_getItem_list hL (by decide) (by decide) rfl ?_
      refine add_str (fun t' k => ⟨?_, ⟨_, F₄⟩, N₅, ⟨rfl, _root_.id⟩, trivial⟩) (by rw [sizeLine_eq]; exact Nat.le_trans (Nat.add_le_add hyl.2 (show _ ≤ 2 by decide)) (by decide))
      rw [sentRows_succ hy, rowEnd, hp]
      exact strs_snoc hys _ _
    · rw [hp]
      refine wpAny_getItem_list hL (by decide) (by decide) rfl ?_
      refine add_str (fun t' k => ⟨?_, ⟨_, F₄⟩, N₅, ⟨rfl, _root_.id⟩, trivial⟩) (by rw [sizeLine_eq]; exact Nat.le_trans (Nat.add_le_add hyl.2 (show _ ≤ 2 by decide)) (by decide))
      rw [sentRows_succ hy, rowEnd, hp]
      exact strs_snoc hys _ _
  case done =>
    intro R C ys s' mC hys F N hlt nC hCD hCL hC0 hCn S
    refine comp_done F N nC hCD hCL hC0 hCn S fun s₆ F₆ N₆ S₆ => ?_
    clear F N
    (first | (k_unfold; (try dsimp only)) | (k_end; wrow_close) | walk1 | (dsimp only; walk1) | (leave1; walk_say "STEP leave1"; try dsimp only))
    rw [List.take_of_length_le (by rw [strs_len hvs]; exact Nat.le_refl _)] at hys
    refine join_list (News.isList N₆ (.head _)) (ys := sentRows fs) hys ?_ fun t₇ k₇ => ?_
    · exact Nat.le_trans (sentRows_sum hx hn) (by decide)
    obtain ⟨tf, tg, F₆'⟩ : ∃ tf tg, Fr s.heap s.heap.objs.size s₆.heap (sentMap D tf tg none none) := ⟨_, _, fr_eqm F₆ (by funext y; by_cases e0 : y = Str.ofString "told"; (subst e0; rfl); by_cases e1 : y = Str.ofString "text"; (subst e1; rfl); by_cases e2 : y = Str.ofString "grown"; (subst e2; rfl); by_cases e3 : y = Str.ofString "foot"; (subst e3; rfl); by_cases e4 : y = Str.ofString "rows"; (subst e4; rfl); have b0 : (y == Str.ofString "told") = false := (by simpa using e0); have b1 : (y == Str.ofString "text") = false := (by simpa using e1); have b2 : (y == Str.ofString "grown") = false := (by simpa using e2); have b3 : (y == Str.ofString "foot") = false := (by simpa using e3); have b4 : (y == Str.ofString "rows") = false := (by simpa using e4); simp [List.lookup, e0, b0, e1, b1, e2, b2, e3, b3, e4, b4, sentMap])⟩
    refine name_l F₆' (v := .str footS tf) ?e1 ?e2 ?e3 ?_
    case e1 => rfl
    case e2 => rfl
    case e3 => rfl
    refine add_str (fun t₈ k₈ => ?_) ?hsz
    case hsz => exact sentText_fit hx hn
    have hta : Asc (sentText fs) := sentText_asc hx
    have htl : (sentText fs).length ≤ 10100 := sentText_len hx hn
    change wpAny _ _ (storeName _ _ (Value.str (sentText fs) t₈)) _ _ _
    clear F₆ hys
    generalize hTX : sentText fs = tx at hta htl ⊢
    iterate 14 (try (first | (k_unfold; (try dsimp only)) | (k_end; wrow_close) | walk1 | (dsimp only; walk1) | (leave1; walk_say "STEP leave1"; try dsimp only)))
    refine getMethod_builtin (typeIs_str _ _ _) PySem.F.plainAttrs_str PySem.F.slot_str_encode PySem.F.type_str_encode (fun _ e => nomatch e) ?_
    iterate 5 (try (first | (k_unfold; (try dsimp only)) | (k_end; wrow_close) | walk1 | (dsimp only; walk1) | (leave1; walk_say "STEP leave1"; try dsimp only)))
    refine encode_c hta (by omega) fun t₉ k₉ => ?_
    iterate 2 (first | (k_unfold; (try dsimp only)) | (k_end; wrow_close) | walk1 | (dsimp only; walk1) | (leave1; walk_say "STEP leave1"; try dsimp only))
    rename Fr _ _ _ _ => F₈
    rename News _ _ _ _ => N₈
    have hba : ∀ c ∈ tx.cps.toList, c < 128 := (asc_iff tx).mp hta
    have hbl : tx.cps.toList.length ≤ 10100 := htl
    refine quote_c (by simp [toB]; simp at hbl; omega) (X.keeps F₈.keep) (T.keeps F₈.keep) hh (by show A.depth + 1 + 30 < _; omega) fun s₉ t₁₀ Ex₉ => ?_
    have F₉ := fr_ext F₈ Ex₉
    have N₉ := news_ext N₈ Ex₉
    clear F₈ N₈
    rw [show (toB tx.cps.toList).toArray.toList = toB tx.cps.toList from rfl, toB_quote _ _ hba]
    refine getMethod_builtin (typeIs_bytes _ _ _) FB.plainAttrs_bytes FB.slot_bytes_decode FB.type_bytes_decode (fun _ e => nomatch e) ?_
    iterate 6 (try (first | (k_unfold; (try dsimp only)) | (k_end; wrow_close) | walk1 | (dsimp only; walk1) | (leave1; walk_say "STEP leave1"; try dsimp only)))
    have hql := quoteN_len tx.cps.toList true
    refine decode_c (quoteN_asc _ true hba) (by omega) fun t₁₁ k₁₁ => ?_
    have htd : (⟨(quoteN true tx.cps.toList).toArray⟩ : Str).length ≤ 20200 := by
      show (quoteN true tx.cps.toList).toArray.size ≤ _
      rw [List.size_toArray]; omega
    have hTD : toldS fs = ⟨(quoteN true tx.cps.toList).toArray⟩ := by rw [toldS, hTX]
    generalize (⟨(quoteN true tx.cps.toList).toArray⟩ : Str) = td at htd hTD ⊢
    have hside : ∀ (h' : Heap) k, Side s { s₉ with heap := h', toks := k } := fun h' k => ⟨Ex₉.side.os.trans (S₆.os.trans Ex₃.side.os), fun b => Ex₉.side.bare (S₆.bare (Ex₃.side.bare b))⟩
    k_steps
    · rename ((_ != _) = true) => hne
      rename Fr _ _ _ _ => F'
      rename News _ _ _ _ => N'
      refine h _ _ _ _ ⟨F'.keep, hside _ _⟩ (N' _ (.head _)).2.2 (N' _ (.head _)).1 ?_
      rw [hTD, sentOut, if_pos hne]
      exact .nil
    · rename ((_ != _) = false) => hne
      rename (List.map _ _ = Txt.split _ _) => hsp
      rename (StrsAre _ _) => hsa
      rename Fr _ _ _ _ => F'
      rename News _ _ _ _ => N'
      refine h _ _ _ _ ⟨F'.keep, hside _ _⟩ (N' _ (.head _)).2.2 (N' _ (.head _)).1 ?_
      rw [hTD, sentOut, if_neg (by rw [hne]; exact Bool.false_ne_true), ← hsp]
      rw [show (-1 : Int) = -((1 : Nat) : Int) from rfl, slicePick_butLast _ 1 (Nat.le_refl _)]
      have hle := strs_len hsa
      rw [List.size_toArray, hle]
      exact strs_take hsa _
end Mine

end

section
open PySem PySem.W PyProof.Rows PySem.Calls
set_option maxRecDepth 100000
set_option linter.all false
namespace Mine
theorem warm9 (w : World) (h : Heap) (X : (hd.heap_39 w.params).In h) : Challenge.rw_wo0010_01.prog = Challenge.rw_wo0010_01.prog := by revert X; k_fill; intro _; rfl
abbrev cellMap (D R : Addr) (op onum : Option Value) : Str → Option Value :=
  (fun y => if y = Str.ofString "number" then onum else if y = Str.ofString "place" then op else if y = Str.ofString "cells" then some (.ref R) else if y = Str.ofString "script" then some (.ref D) else none)
def cellStep (ks : List Int) (p : Nat × Int) : List Int := ks.set (p.1 % 6) (ks.getD (p.1 % 6) 0 + p.2)
def cells0 : List Int := [2, 0, 11, 4, 1, 1]
def cellsUp (ns : List Int) (j : Nat) : List Int := ((ns.take j).zipIdx.map fun p => (p.2, p.1)).foldl cellStep cells0
def CellJ (ns : List Int) (D R : Addr) (j : Nat) (m : Str → Option Value) (news : Led) : Prop :=
  ∃ op onum cs oR n, m = cellMap D R op onum ∧ news = [(R, oR)] ∧ oR.cls = .type "list" ∧ oR.data = .seq (cs : List Value).toArray n ∧ IntsAre cs (cellsUp ns j)
theorem ints_get {vs : List Value} {ss : List Int} (h : IntsAre vs ss) {j : Nat} {v : Value} (hv : vs[j]? = some v) : ∃ y t, v = .int y t ∧ ss[j]? = some y := by
  induction h generalizing j with
  | nil => cases hv
  | cons y t r ih =>
    cases j with
    | zero => exact ⟨y, t, (Option.some.inj hv).symm, rfl⟩
    | succ j => exact ih hv
theorem ints_len {vs : List Value} {ss : List Int} (h : IntsAre vs ss) : vs.length = ss.length := by
  induction h with
  | nil => rfl
  | cons z u _ ih => simp [ih]
theorem cellStep_len (ks : List Int) (p : Nat × Int) : (cellStep ks p).length = ks.length := by simp [cellStep]
theorem cellFold_len : ∀ (l : List (Nat × Int)) (ks : List Int), (l.foldl cellStep ks).length = ks.length
  | [], _ => rfl
  | p :: l, ks => by rw [List.foldl_cons, cellFold_len l, cellStep_len]
theorem cellsUp_len (ns : List Int) (j : Nat) : (cellsUp ns j).length = 6 := cellFold_len _ _
theorem ints_set {vs : List Value} {ks : List Int} (h : IntsAre vs ks) : ∀ (i : Nat) (k : Int) (t : Tok), IntsAre (vs.set i (.int k t)) (ks.set i k) := by
  induction h with
  | nil => intro i k t; exact .nil
  | cons z u hr ih =>
    intro i k t
    cases i with
    | zero => exact .cons k t hr
    | succ i => exact .cons z u (ih i k t)
theorem cellsUp_succ {ns : List Int} {j : Nat} {y : Int} (h : ns[j]? = some y) : cellsUp ns (j + 1) = cellStep (cellsUp ns j) (j, y) := by
  have hl : (ns.take j).length = j := by
    have := (List.getElem?_eq_some_iff.mp h).1
    simp; omega
  unfold cellsUp
  rw [List.take_add_one, h, List.zipIdx_append, List.map_append, hl, List.foldl_append]
  simp
set_option maxHeartbeats 4000000 in
theorem cells_c {w : World} {A : Around} {s : Shared} {D : Addr} {vs : List Value} {ns : List Int} {Q E : Value → Shared → Prop} {mean mg mb} (hD : s.heap.IsList D vs.toArray) (hvs : IntsAre vs ns) (hn : ns.length ≤ 1000)
  (X : (hd.heap_39 w.params).In s.heap) (T : Top hd.view_39 LO mean mg mb s.heap) (hh : A.handled = none) (hr : A.depth + 40 < recursionLimit)
  (h : ∀ s' l o n cs, Ext s s' → s.heap.get? l = none → s'.heap.get? l = some o → o.cls = .type "list" → o.data = .seq (cs : List Value).toArray n → IntsAre cs (cellsUp ns ns.length) → Q (.ref l) s') :
  wpAny (model TP w) A (call (.ref 78) [.ref D]) Q E s := by
  refine call_plainK [(Str.ofString "script", .ref D)] X T.nolimit (by omega) (by k_dflt k_is) (by k_dflt k_is) rfl rfl ?_
  intro h₁ F
  have N : News s.heap s.heap.objs.size h₁ [] := News.nil
  iterate 20 (first | (k_unfold; (try dsimp only)) | (k_end; wrow_close) | walk1 | (dsimp only; walk1) | (leave1; walk_say "STEP leave1"; try dsimp only))
  refine wpAny_For ?_ (fun _ => rfl)
  iterate 6 (first | (k_unfold; (try dsimp only)) | (k_end; wrow_close) | walk1 | (dsimp only; walk1) | (leave1; walk_say "STEP leave1"; try dsimp only))
  rename Fr _ _ _ _ => F₂
  rename News _ _ _ _ => N₂
  rename_i R _ _ _
  have F₂' : Fr s.heap s.heap.objs.size _ (cellMap D R none none) := fr_eqm F₂ (by funext y; by_cases e0 : y = Str.ofString "number"; (subst e0; rfl); by_cases e1 : y = Str.ofString "place"; (subst e1; rfl); by_cases e2 : y = Str.ofString "cells"; (subst e2; rfl); by_cases e3 : y = Str.ofString "script"; (subst e3; rfl); have b0 : (y == Str.ofString "number") = false := (by simpa using e0); have b1 : (y == Str.ofString "place") = false := (by simpa using e1); have b2 : (y == Str.ofString "cells") = false := (by simpa using e2); have b3 : (y == Str.ofString "script") = false := (by simpa using e3); simp [List.lookup, e0, b0, e1, b1, e2, b2, e3, b3])
  refine start_enum F₂' N₂ (isList_keep hD F₂.keep) fun e it own s₁ hei hel hli st F₃ N₃ off₃ Ex₃ hg₃ hiter => ?_
  refine hiter _ _ ?_
  refine for_walk (iter_enum ?hh e it D vs hei hel hli) (CellJ ns D R) (fun _ _ _ _ _ F _ => isList_keep hD F.keep) st F₃ N₃ off₃ ⟨none, none, _, _, 0, rfl, rfl, rfl, rfl, ?i0⟩ ?turn ?done
  case hh => exact hh
  case i0 => exact .cons _ _ (.cons _ _ (.cons _ _ (.cons _ _ (.cons _ _ (.cons _ _ .nil)))))
  case turn =>
    rintro j v extra own m news s₂ hj ⟨Ta, tt, x, rfl, rfl, hxj⟩ ⟨op, onum, cs, oR, n, rfl, rfl, hcR, hdR, hcs⟩ F N off offx hlts S
    have hRT : @LT.lt Nat _ R Ta := hlts _ (.head _) _ (.head _)
    simp only [List.map_cons, List.map_nil] at off
    obtain ⟨y, ty, rfl, hy⟩ := ints_get hvs hxj
    refine assign_pair hh F N (.head _) fun h₄ F₄ N₄ => ?_
    simp only [List.cons_append, List.nil_append] at N₄
    clear F N
    iterate 8 (try (first | (k_unfold; (try dsimp only)) | (k_end; wrow_close) | walk1 | (dsimp only; walk1) | (leave1; walk_say "STEP leave1"; try dsimp only)))
    have hmod : (j : Int).fmod 6 = ((j % 6 : Nat) : Int) := by rw [Int.fmod_eq_emod_of_nonneg _ (by decide)]; omega
    rw [hmod]
    have hlk := cellsUp_len ns j
    have hcl := ints_len hcs
    have hlt : j % 6 < cs.length := by rw [hcl, hlk]; exact Nat.mod_lt _ (by decide)
    obtain ⟨k, tk', hkv, hkn⟩ := ints_get hcs (List.getElem?_eq_getElem hlt)
    have hL : h₄.IsList R cs.toArray := ⟨oR, (N₄ (R, oR) (.tail _ (.head _))).1, hcR, n, hdR⟩
    refine wpAny_getItem_list (x := .int k tk') hL (by omega) (by omega) (by rw [Int.toNat_natCast, List.getElem?_toArray, List.getElem?_eq_getElem hlt, hkv]) ?_
    iterate 2 (first | (k_unfold; (try dsimp only)) | (k_end; wrow_close) | walk1 | (dsimp only; walk1) | (leave1; walk_say "STEP leave1"; try dsimp only))
    have hLn : @LT.lt Int _ ((j % 6 : Nat) : Int) (cs.toArray.size : Int) := by rw [List.size_toArray]; omega
    refine wpAny_setItem_list hL (by omega) (by omega) hLn fun h₅ hL₅ hs₅ => ?_
    obtain ⟨o₅, ho₅, hc₅, n₅, hd₅⟩ := hL₅
    have zR := N₄ (R, oR) (.tail _ (.head _))
    have hset : ∀ v : Value, cs.toArray.setIfInBounds ((j % 6 : Nat) : Int).toNat v = (cs.set (j % 6) v).toArray := fun v => by
      rw [Int.toNat_natCast]; exact List.setIfInBounds_toArray _ _ _
    rw [hset] at hd₅
    refine wpAny_execs_nil ?_
    refine ⟨_, [(R, o₅)], fr_eqm (F₄.change hs₅ zR.2.1 zR.2.2) (by funext y; by_cases e0 : y = Str.ofString "number"; (subst e0; rfl); by_cases e1 : y = Str.ofString "place"; (subst e1; rfl); by_cases e2 : y = Str.ofString "cells"; (subst e2; rfl); by_cases e3 : y = Str.ofString "script"; (subst e3; rfl); have b0 : (y == Str.ofString "number") = false := (by simpa using e0); have b1 : (y == Str.ofString "place") = false := (by simpa using e1); have b2 : (y == Str.ofString "cells") = false := (by simpa using e2); have b3 : (y == Str.ofString "script") = false := (by simpa using e3); simp [List.lookup, e0, b0, e1, b1, e2, b2, e3, b3, cellMap]), ?_, off, ⟨some (.int j tt), some (.int y ty), _, o₅, n₅, rfl, rfl, hc₅, hd₅, ?_⟩, ⟨rfl, _root_.id⟩, trivial⟩
    · intro p hp
      rcases List.mem_cons.mp hp with rfl | hp
      · exact ⟨ho₅, zR.2⟩
      · have z := N₄ p (.tail _ (.tail _ hp))
        exact ⟨hs₅.extBut _ _ (off p hp R (.head _)) z.1, z.2⟩
    · rw [cellsUp_succ hy, cellStep]
      have e : (cellsUp ns j).getD (j % 6) 0 = k := by rw [List.getD_eq_getElem?_getD, hkn]; rfl
      rw [e]
      exact ints_set hcs _ _ _
  case done =>
    rintro m news s₂ ⟨op, onum, cs, oR, n, rfl, rfl, hc, hd, hcs⟩ F N S
    k_steps
    rw [ints_len hvs] at hcs
    exact h _ R oR n cs ⟨F.keep, ⟨S.os.trans Ex₃.side.os, fun b => S.bare (Ex₃.side.bare b)⟩⟩ (N _ (.head _)).2.2 (N _ (.head _)).1 hc hd hcs
end Mine

end

section
open PySem PySem.W PyProof.Rows PySem.Calls
set_option maxRecDepth 100000
set_option linter.all false
namespace Mine
local macro_rules | `(tactic| walk_at "call builtin:list.append") => `(tactic| (k_here; (with_reducible show wpAny _ _ (call (Value.builtin _) [Value.ref _, _]) _ _ _); k_dflt (refine' append_K ?k1 ?k2 ?k3 ?_ ?z; (case k1 => k_asm); (case k2 => k_asm); (case k3 => k_upd); (case z => first | assumption | exact Nat.le_of_ble_eq_true rfl); k_whole); intro h' F' N'; (try k_sweep)))
theorem warm10 (w : World) (h : Heap) (X : (hd.heap_39 w.params).In h) : Challenge.rw_wo0010_01.prog = Challenge.rw_wo0010_01.prog := by revert X; k_fill; intro _; rfl
abbrev partMap (D K R : Addr) (x : Str) (tx : Tok) (op oc : Option Value) : Str → Option Value :=
  (fun y => if y = Str.ofString "cell" then oc else if y = Str.ofString "place" then op else if y = Str.ofString "letters" then some (.str x tx) else if y = Str.ofString "told" then some (.ref R) else if y = Str.ofString "kinds" then some (.ref K) else if y = Str.ofString "cells" then some (.ref D) else none)
def kindsS : List Str := [Str.ofString "", Str.ofString "\\)", Str.ofString "\"(\" ", Str.ofString "\\\\", Str.ofString "\\\"", Str.ofString " \"(\""]
structure PartSt where
  lets : List Nat
  told : List Str
def kindAt (n : Nat) : List Nat := match n with | 0 => [] | 1 => [92, 41] | 2 => [34, 40, 34, 32] | 3 => [92, 92] | 4 => [92, 34] | _ => [32, 34, 40, 34]
def opens (lets : List Nat) (cell : Int) : Bool := lets.count 41 == 3 || (decide (lets.count 40 < 3) && cell % 2 == 0)
def letOf (lets : List Nat) (cell : Int) : Nat := if opens lets cell then 40 else 41
def partStep (st : PartSt) (p : Nat × Int) : PartSt :=
  { lets := st.lets ++ [letOf st.lets p.2], told := st.told ++ [⟨((if p.1 % 2 = 0 then kindAt (p.2 / 2 % 6).toNat else []) ++ [letOf st.lets p.2]).toArray⟩] }
def partsUp (ns : List Int) (j : Nat) : PartSt := ((ns.take j).zipIdx.map fun p => (p.2, p.1)).foldl partStep ⟨[], []⟩
def PartJ (ns : List Int) (D K R : Addr) (oK : Obj) (j : Nat) (m : Str → Option Value) (news : Led) : Prop :=
  ∃ tx op oc vs c, m = partMap D K R ⟨(partsUp ns j).lets.toArray⟩ tx op oc ∧ news = [(R, W.listOf (vs : List Value).toArray c), (K, oK)] ∧ StrsAre vs (partsUp ns j).told
theorem partFold_len : ∀ (l : List (Nat × Int)) (st : PartSt), (l.foldl partStep st).lets.length = st.lets.length + l.length
  | [], _ => rfl
  | p :: l, st => by rw [List.foldl_cons, partFold_len l]; simp [partStep]; omega
theorem partsUp_len (ns : List Int) (j : Nat) (hj : j ≤ ns.length) : (partsUp ns j).lets.length = j := by
  unfold partsUp
  rw [partFold_len]; simp; omega
theorem txt_count (l : List Nat) (c : Nat) (y : Str) (hy : y = ⟨#[c]⟩) : Txt.count ⟨l.toArray⟩ y = (l.count c : Int) := by
  subst hy
  rw [count_cnt]
  have key : ∀ l : List Nat, cnt c l = (l.count c : Int) := by
    intro l
    induction l with
    | nil => rfl
    | cons d l ih =>
      rw [cnt_cons, ih, List.count_cons]
      by_cases h : d = c
      · simp [h]; omega
      · simp [h]
  exact key l
theorem str_app (a b : List Nat) : (⟨a.toArray⟩ : Str) ++ (⟨b.toArray⟩ : Str) = ⟨(a ++ b).toArray⟩ := by
  show (⟨a.toArray ++ b.toArray⟩ : Str) = _
  rw [List.append_toArray]
theorem letOf_open {lets : List Nat} {y : Int} (h : lets.count 41 = 3 ∨ (lets.count 40 < 3 ∧ y % 2 = 0)) : letOf lets y = 40 := by
  rw [letOf, opens, if_pos]
  rcases h with h | ⟨h1, h2⟩
  · simp [h]
  · simp [h1, h2]
theorem letOf_close {lets : List Nat} {y : Int} (h : lets.count 41 ≠ 3) (h' : ¬ lets.count 40 < 3 ∨ y % 2 ≠ 0) : letOf lets y = 41 := by
  rw [letOf, opens, if_neg]
  rcases h' with h1 | h1
  · simp [h, h1]
  · simp [h, h1]
def LetPost (h₀ : Heap) (L : Addr) (s₂ : Shared) (D K R : Addr) (x : Str) (vj vy : Value) (led : Led) (f : Flow) (s' : Shared) : Prop :=
  f = .next ∧ ∃ h' k t', s' = { s₂ with heap := h', toks := k } ∧ Fr h₀ L h' (partMap D K R x t' (some vj) (some vy)) ∧ News h₀ L h' led
theorem let_leaf {h₀ : Heap} {L : Addr} {s₂ : Shared} {D K R : Addr} {x x₀ z : Str} {tx₀ t' : Tok} {vj vy : Value} {led : Led} {h' : Heap} {k : Nat} (hz : z = x)
    (F : Fr h₀ L h' (fun y => if y = Str.ofString "letters" then some (.str z t') else partMap D K R x₀ tx₀ (some vj) (some vy) y)) (N : News h₀ L h' led) :
    LetPost h₀ L s₂ D K R x vj vy led .next { s₂ with heap := h', toks := k } :=
  ⟨rfl, h', k, t', rfl, fr_eqm F (by subst hz; exact (by funext y; by_cases e0 : y = Str.ofString "cell"; (subst e0; rfl); by_cases e1 : y = Str.ofString "place"; (subst e1; rfl); by_cases e2 : y = Str.ofString "letters"; (subst e2; rfl); by_cases e3 : y = Str.ofString "told"; (subst e3; rfl); by_cases e4 : y = Str.ofString "kinds"; (subst e4; rfl); by_cases e5 : y = Str.ofString "cells"; (subst e5; rfl); have b0 : (y == Str.ofString "cell") = false := (by simpa using e0); have b1 : (y == Str.ofString "place") = false := (by simpa using e1); have b2 : (y == Str.ofString "letters") = false := (by simpa using e2); have b3 : (y == Str.ofString "told") = false := (by simpa using e3); have b4 : (y == Str.ofString "kinds") = false := (by simpa using e4); have b5 : (y == Str.ofString "cells") = false := (by simpa using e5); simp [List.lookup, e0, b0, e1, b1, e2, b2, e3, b3, e4, b4, e5, b5, partMap])), N⟩
theorem kindsS_at (n : Nat) (h : n < 6) : kindsS[n]? = some ⟨(kindAt n).toArray⟩ := by
  match n, h with
  | 0, _ => rfl
  | 1, _ => rfl
  | 2, _ => rfl
  | 3, _ => rfl
  | 4, _ => rfl
  | 5, _ => rfl
theorem partFold_told : ∀ (l : List (Nat × Int)) (st : PartSt), (l.foldl partStep st).told.length = st.told.length + l.length
  | [], _ => rfl
  | p :: l, st => by rw [List.foldl_cons, partFold_told l]; simp [partStep]; omega
theorem partsUp_told (ns : List Int) (j : Nat) (hj : j ≤ ns.length) : (partsUp ns j).told.length = j := by
  unfold partsUp
  rw [partFold_told]; simp; omega
theorem partsUp_succ {ns : List Int} {j : Nat} {y : Int} (h : ns[j]? = some y) : partsUp ns (j + 1) = partStep (partsUp ns j) (j, y) := by
  have hl : (ns.take j).length = j := by
    have := (List.getElem?_eq_some_iff.mp h).1
    simp; omega
  unfold partsUp
  rw [List.take_add_one, h, List.zipIdx_append, List.map_append, hl, List.foldl_append]
  simp
theorem item_last (l : List Nat) (c : Nat) : Txt.item ⟨(l ++ [c]).toArray⟩ (l.length : Int) = ⟨[c].toArray⟩ := by
  refine item_meets (Int.natCast_nonneg _) ?_
  simp
theorem part_turn {h₀ : Heap} {L : Addr} {own : Led} {s₁ : Shared} {QQ : Flow → Shared → Prop} {h' : Heap} {k : Nat} {Ta D K R : Addr} {oT oK : Obj} {ns : List Int} {j : Nat} {y : Int} {lets : List Nat} {told : List Str} {us : List Value} {c : Nat} {z : Str} {t' tz : Tok} {vj vy : Value} {gens : Array GenState} {os : _} {drawn : _}
    (off : OwnOff own [R, K]) (hy : ns[j]? = some y) (hst : partsUp ns j = ⟨lets, told⟩) (hz : (⟨(if j % 2 = 0 then kindAt (y / 2 % 6).toNat else []).toArray⟩ : Str) = z)
    (F : Fr h₀ L h' (partMap D K R ⟨(lets ++ [letOf lets y]).toArray⟩ t' (some vj) (some vy)))
    (N : News h₀ L h' ((Ta, oT) :: (R, W.listOf (us ++ [Value.str (z ++ Txt.item ⟨(lets ++ [letOf lets y]).toArray⟩ j) tz]).toArray c) :: (K, oK) :: own)) (hus : StrsAre us told)
    (hll : lets.length = j) (S : Side s₁ ⟨h', gens, drawn, k, os⟩) :
    TurnPost h₀ L (PartJ ns D K R oK (j + 1)) own GT s₁ QQ .next ⟨h', gens, drawn, k, os⟩ := by
  refine ⟨_, [(R, _), (K, oK)], F, news_sub N (fun p hp => .tail _ hp), off, ⟨t', some vj, some vy, _, c, ?_, rfl, ?_⟩, S, trivial⟩
  · rw [partsUp_succ hy, hst, partStep]
  · rw [partsUp_succ hy, hst, partStep, ← hll, item_last]
    dsimp only
    subst hz
    rw [hll, str_app]
    exact strs_snoc hus _ _
set_option maxHeartbeats 4000000 in
theorem parts_c {w : World} {A : Around} {s : Shared} {D : Addr} {vs : List Value} {ns : List Int} {Q E : Value → Shared → Prop} {mean mg mb} (hD : s.heap.IsList D vs.toArray) (hvs : IntsAre vs ns) (hn : ns.length ≤ 6)
  (X : (hd.heap_39 w.params).In s.heap) (T : Top hd.view_39 LO mean mg mb s.heap) (hh : A.handled = none) (hr : A.depth + 40 < recursionLimit)
  (h : ∀ s' l c cs, Ext s s' → s.heap.get? l = none → s'.heap.get? l = some (W.listOf (cs : List Value).toArray c) → StrsAre cs (partsUp ns ns.length).told → Q (.ref l) s') :
  wpAny (model TP w) A (call (.ref 85) [.ref D]) Q E s := by
  refine call_plainK [(Str.ofString "cells", .ref D)] X T.nolimit (by omega) (by k_dflt k_is) (by k_dflt k_is) rfl rfl ?_
  intro h₁ F
  have N : News s.heap s.heap.objs.size h₁ [] := News.nil
  iterate 31 (first | (k_unfold; (try dsimp only)) | (k_end; wrow_close) | walk1 | (dsimp only; walk1) | (leave1; walk_say "STEP leave1"; try dsimp only))
  refine wpAny_For ?_ (fun _ => rfl)
  iterate 6 (first | (k_unfold; (try dsimp only)) | (k_end; wrow_close) | walk1 | (dsimp only; walk1) | (leave1; walk_say "STEP leave1"; try dsimp only))
  rename Fr _ _ _ _ => F₂
  rename News _ _ _ _ => N₂

  rename_i K _ _ _ _ R _ hKR _ _
  obtain ⟨tx0, F₂'⟩ : ∃ tx, Fr s.heap s.heap.objs.size _ (partMap D K R ⟨[].toArray⟩ tx none none) := ⟨_, fr_eqm F₂ (by funext y; by_cases e0 : y = Str.ofString "cell"; (subst e0; rfl); by_cases e1 : y = Str.ofString "place"; (subst e1; rfl); by_cases e2 : y = Str.ofString "letters"; (subst e2; rfl); by_cases e3 : y = Str.ofString "told"; (subst e3; rfl); by_cases e4 : y = Str.ofString "kinds"; (subst e4; rfl); by_cases e5 : y = Str.ofString "cells"; (subst e5; rfl); have b0 : (y == Str.ofString "cell") = false := (by simpa using e0); have b1 : (y == Str.ofString "place") = false := (by simpa using e1); have b2 : (y == Str.ofString "letters") = false := (by simpa using e2); have b3 : (y == Str.ofString "told") = false := (by simpa using e3); have b4 : (y == Str.ofString "kinds") = false := (by simpa using e4); have b5 : (y == Str.ofString "cells") = false := (by simpa using e5); simp [List.lookup, e0, b0, e1, b1, e2, b2, e3, b3, e4, b4, e5, b5])⟩
  obtain ⟨kv, hkv, N₂'⟩ : ∃ kv : List Value, StrsAre kv kindsS ∧ News s.heap s.heap.objs.size _ [(R, W.listOf ([] : List Value).toArray 0), (K, W.listOf kv.toArray 0)] :=
    ⟨_, .cons _ _ (.cons _ _ (.cons _ _ (.cons _ _ (.cons _ _ (.cons _ _ .nil))))), N₂⟩
  refine start_enum F₂' N₂' (isList_keep hD F₂.keep) fun e it own s₁ hei hel hli st F₃ N₃ off₃ Ex₃ hg₃ hiter => ?_
  refine hiter _ _ ?_
  refine for_walk (iter_enum ?hh e it D vs hei hel hli) (PartJ ns D K R (W.listOf kv.toArray 0)) (fun _ _ _ _ _ F _ => isList_keep hD F.keep) st F₃ N₃ off₃ ⟨tx0, none, none, [], 0, rfl, rfl, .nil⟩ ?turn ?done
  case hh => exact hh
  case turn =>
    rintro j v extra own m news s₂ hj ⟨Ta, tt, x, rfl, rfl, hxj⟩ ⟨tx, op, oc, us, c, rfl, rfl, hus⟩ F N off offx hlts S
    have hRT : @LT.lt Nat _ R Ta := hlts _ (.head _) _ (.head _)
    have hKT : @LT.lt Nat _ K Ta := hlts _ (.head _) _ (.tail _ (.head _))
    simp only [List.map_cons, List.map_nil] at off
    obtain ⟨y, ty, rfl, hy⟩ := ints_get hvs hxj
    refine assign_pair hh F N (.head _) fun h₄ F₄ N₄ => ?_
    simp only [List.cons_append, List.nil_append] at N₄
    clear F N
    generalize hst : partsUp ns j = st at F₄ hus
    obtain ⟨lets, told⟩ := st
    dsimp only at F₄ hus
    have hll : lets.length = j := by have := partsUp_len ns j (by rw [← ints_len hvs]; omega); rw [hst] at this; exact this
    have hln : ns.length = vs.length := (ints_len hvs).symm
    have htl : told.length = j := by have := partsUp_told ns j (by rw [← ints_len hvs]; omega); rw [hst] at this; exact this
    have hsz : us.toArray.size ≤ sizeLine := by rw [List.size_toArray, strs_len hus, htl, sizeLine_eq]; omega
    have hxl : (⟨lets.toArray⟩ : Str).length ≤ 6 := by show lets.toArray.size ≤ 6; rw [List.size_toArray]; omega
    obtain ⟨tx', F₄'⟩ : ∃ tx', Fr s.heap s.heap.objs.size h₄ (partMap D K R ⟨lets.toArray⟩ tx' (some (.int j tt)) (some (.int y ty))) := ⟨tx, fr_eqm F₄ (by funext y; by_cases e0 : y = Str.ofString "cell"; (subst e0; rfl); by_cases e1 : y = Str.ofString "place"; (subst e1; rfl); by_cases e2 : y = Str.ofString "letters"; (subst e2; rfl); by_cases e3 : y = Str.ofString "told"; (subst e3; rfl); by_cases e4 : y = Str.ofString "kinds"; (subst e4; rfl); by_cases e5 : y = Str.ofString "cells"; (subst e5; rfl); have b0 : (y == Str.ofString "cell") = false := (by simpa using e0); have b1 : (y == Str.ofString "place") = false := (by simpa using e1); have b2 : (y == Str.ofString "letters") = false := (by simpa using e2); have b3 : (y == Str.ofString "told") = false := (by simpa using e3); have b4 : (y == Str.ofString "kinds") = false := (by simpa using e4); have b5 : (y == Str.ofString "cells") = false := (by simpa using e5); simp [List.lookup, e0, b0, e1, b1, e2, b2, e3, b3, e4, b4, e5, b5, partMap])⟩
    clear F₄
    refine wpAny_execs_cons (wpAny_mono (Q := LetPost s.heap s.heap.objs.size s₂ D K R ⟨(lets ++ [letOf lets y]).toArray⟩ (.int j tt) (.int y ty) ((Ta, tupO [.int j tt, .int y ty]) :: (R, W.listOf us.toArray c) :: (K, W.listOf kv.toArray 0) :: own)) ?if1 (fun f s' hp => ?rest) (fun _ _ e => e))
    case if1 =>
      have e41 : Txt.count ⟨lets.toArray⟩ (Str.ofString ")") = (lets.count 41 : Int) := txt_count lets 41 _ rfl
      have e40 : Txt.count ⟨lets.toArray⟩ (Str.ofString "(") = (lets.count 40 : Int) := txt_count lets 40 _ rfl
      k_steps
      · rename (Txt.count _ (Str.ofString ")") = 3) => h3
        rename Fr _ _ _ _ => F'
        rename News _ _ _ _ => N'
        rw [e41] at h3
        exact let_leaf (by rw [letOf, opens, show (lets.count 41 == 3) = true from by simpa using (by omega : lets.count 41 = 3)]; exact str_app lets [40]) F' N'
      · rename (Txt.count _ (Str.ofString ")") ≠ 3) => h3
        rename (Txt.count _ (Str.ofString "(") < 3) => h0
        rename (_ = (0 : Int)) => hm
        rename Fr _ _ _ _ => F'
        rename News _ _ _ _ => N'
        rw [e41] at h3
        rw [e40] at h0
        exact let_leaf (by rw [letOf_open (.inr ⟨by omega, by rw [Int.fmod_eq_emod_of_nonneg _ (by decide)] at hm; exact hm⟩)]; exact str_app lets [40]) F' N'
      · rename (Txt.count _ (Str.ofString ")") ≠ 3) => h3
        rename (_ ≠ (0 : Int)) => hm
        rename Fr _ _ _ _ => F'
        rename News _ _ _ _ => N'
        rw [e41] at h3
        exact let_leaf (by rw [letOf_close (by omega) (.inr (by rw [Int.fmod_eq_emod_of_nonneg _ (by decide)] at hm; exact hm))]; exact str_app lets [41]) F' N'
      · rename (Txt.count _ (Str.ofString ")") ≠ 3) => h3
        rename (¬ (Txt.count _ (Str.ofString "(") < 3)) => h0
        rename Fr _ _ _ _ => F'
        rename News _ _ _ _ => N'
        rw [e41] at h3
        rw [e40] at h0
        exact let_leaf (by rw [letOf_close (by omega) (.inl (by omega))]; exact str_app lets [41]) F' N'
    case rest =>
      obtain ⟨rfl, h', k, t', rfl, F', N'⟩ := hp
      clear F₄' N₄
      dsimp only
      have offR : OwnOff own [R] := fun p hp b hb => off p hp b (by rw [List.mem_singleton.mp hb]; exact .head _)
      have hKR' : @LT.lt Nat _ K R := hKR
      have hxl' : (⟨(lets ++ [letOf lets y]).toArray⟩ : Str).length = j + 1 := by show (lets ++ [letOf lets y]).toArray.size = _; rw [List.size_toArray]; simp [hll]
      iterate 9 (first | (k_unfold; (try dsimp only)) | (k_end; wrow_close) | walk1 | (dsimp only; walk1) | (leave1; walk_say "STEP leave1"; try dsimp only))
      iterate 9 (first | (k_unfold; (try dsimp only)) | (k_end; wrow_close) | walk1 | (dsimp only; walk1) | (leave1; walk_say "STEP leave1"; try dsimp only))
      · iterate 9 (first | (k_unfold; (try dsimp only)) | (k_end; wrow_close) | walk1 | (dsimp only; walk1) | (leave1; walk_say "STEP leave1"; try dsimp only))
        rename ((_ : Int).fmod 2 = 0) => hpar
        have hidx : (y.fdiv 2).fmod 6 = (((y / 2 % 6).toNat : Nat) : Int) := by
          rw [Int.fdiv_eq_ediv_of_nonneg _ (by decide), Int.fmod_eq_emod_of_nonneg _ (by decide)]; omega
        rw [hidx]
        have hlt6 : (y / 2 % 6).toNat < 6 := by omega
        have hK := News.isList N' (.tail _ (.tail _ (.head _)))
        obtain ⟨vk, hvk⟩ : ∃ vk, kv[(y / 2 % 6).toNat]? = some vk := ⟨_, List.getElem?_eq_getElem (by rw [strs_len hkv]; exact hlt6)⟩
        obtain ⟨zk, tzk, rfl, hzk⟩ := strs_get hkv hvk
        refine subscriptTail_builtin hK.typeIs PySem.F.slot_list_getitem.lookup (wpAny_getItem_list (x := .str zk tzk) hK (by omega) (by omega) (by rw [Int.toNat_natCast, List.getElem?_toArray]; exact hvk) ?_)
        have hzl : zk.length ≤ 4 := by
          have := List.mem_of_getElem? hzk
          revert this; generalize zk = q; decide +revert
        k_steps
        rename Fr _ _ _ _ => F₉
        rename News _ _ _ _ => N₉
        rw [List.push_toArray] at N₉
        refine part_turn off hy hst (z := zk) ?_ F₉ N₉ hus hll ⟨rfl, _root_.id⟩
        rw [if_pos (by rw [Int.fmod_eq_emod_of_nonneg _ (by decide)] at hpar; omega)]
        have := kindsS_at _ hlt6
        rw [hzk] at this
        exact (Option.some.inj this).symm
      · rename ((_ : Int).fmod 2 ≠ 0) => hpar
        k_steps
        rename Fr _ _ _ _ => F₉
        rename News _ _ _ _ => N₉
        rw [List.push_toArray] at N₉
        refine part_turn off hy hst (z := Str.ofString "") ?_ F₉ N₉ hus hll ⟨rfl, _root_.id⟩
        rw [if_neg (by rw [Int.fmod_eq_emod_of_nonneg _ (by decide)] at hpar; omega)]
        rfl
  case done =>
    rintro m news s₂ ⟨tx, op, oc, us, c, rfl, rfl, hus⟩ F N S
    k_steps
    rw [ints_len hvs] at hus
    exact h _ R c us ⟨F.keep, ⟨S.os.trans Ex₃.side.os, fun b => S.bare (Ex₃.side.bare b)⟩⟩ (N _ (.head _)).2.2 (N _ (.head _)).1 hus
end Mine

end

section
open PySem PySem.W PyProof.Rows PySem.Calls
set_option maxRecDepth 100000
set_option linter.all false
namespace Mine
section
variable {prog : Program} {w : World} {A : Around} {s₀ : Shared} {hB : Heap} {x : Str} {px : Pos} {a : Addr} {n : Nat} {Item : Nat → Value → Led → Prop} {St : Nat → Led → Shared → Prop} {R : Result → Shared → Prop}
abbrev lstO (acc : Array Value) (c : Nat) : Obj := { cls := .type "list", dict := none, data := .seq acc c, slots := #[] }
structure ListOf (hB : Heap) (S : Addr) (J : Nat → List Value → Led → Prop) (n : Nat) (s₀ s : Shared) : Prop where
  ex : ∃ ys tl c, J n ys tl ∧ s.heap.get? S = some (lstO ys.toArray c) ∧ Holds s.heap tl ∧ (∀ p ∈ tl, hB.get? p.1 = none ∧ p.1 ≠ S)
  under : Under hB s.heap
  side : Side s₀ s
theorem extend_loop (I : Iter prog w A.in1 (Under hB) (fun s s' => s'.gens = s.gens) (.Name x px) (.ref a) n Item St) (hn : n ≤ sizeLine) (S : Addr) (res : Value) (J : Nat → List Value → Led → Prop) (hJl : ∀ j ys tl, J j ys tl → ys.length = j)
    (hJ : ∀ j ys tl v extra, J j ys tl → Item j v extra → J (j + 1) (ys ++ [v]) (tl ++ extra)) (hS0 : hB.get? S = none) :
    ∀ (k j : Nat) (s : Shared) (own tl : Led) (ys : List Value) (c : Nat), n - j = k → j ≤ n → St j own s → Under hB s.heap → s.heap.get? S = some (lstO ys.toArray c) → J j ys tl → Holds s.heap tl →
    (∀ p ∈ own, hB.get? p.1 = none ∧ p.1 ≠ S ∧ p.1 ∉ tl.map (·.1)) → (∀ p ∈ tl, hB.get? p.1 = none ∧ p.1 ≠ S) → Side s₀ s →
    (∀ s', ListOf hB S J n s₀ s' → R (.ok (.ret res)) s') →
    codeAny (model prog w) A (.builtin "list.extend.loop" ⟨[.ref S, .ref a, res], []⟩) R s := by
  intro k
  induction k with
  | zero =>
    intro j s own tl ys c hk hj st hU hS hJ0 hT ho ht hSd hR
    obtain rfl : j = n := by omega
    refine codeAny_builtin F.entry_extend_loop ?_
    rw [Around.under_plainId F.plain_extend_loop _]
    show wpAny _ A.in1 (pyNext (.ref a) >>= _) _ _ s
    refine wpAny_bind (wpAny_mono (I.done own s (fun s' => R (.ok (.ret res)) s') _ st hU fun s' M => ?_) (fun r s' hr => ?_) fun _ _ e => e)
    · refine hR s' ⟨⟨ys, tl, c, hJ0, M.keep _ _ (fun q => ?_) hS, fun p hp => M.keep _ _ (fun q => ?_) (hT p hp), ht⟩, fun b o e => M.keep _ _ (fun q => ?_) (hU b o e), hSd.trans M.side⟩
      · obtain ⟨p, hp, e⟩ := List.mem_map.mp q
        exact (ho p hp).2.1 e
      · obtain ⟨r, hr, e⟩ := List.mem_map.mp q
        exact (ho r hr).2.2 (List.mem_map.mpr ⟨p, hp, e.symm⟩)
      · obtain ⟨p, hp, e'⟩ := List.mem_map.mp q
        have := (ho p hp).1
        rw [e', e] at this; cases this
    · obtain ⟨rfl, hq⟩ := hr
      exact wpAny_pure hq
  | succ k ih =>
    intro j s own tl ys c hk hj st hU hS hJ0 hT ho ht hSd hR
    have hlt : j < n := by omega
    refine codeAny_builtin F.entry_extend_loop ?_
    rw [Around.under_plainId F.plain_extend_loop _]
    show wpAny _ A.in1 (pyNext (.ref a) >>= _) _ _ s
    refine wpAny_bind (wpAny_mono (I.next j own s (fun v s' => wpAny (model prog w) A.in1 (updateSeq S (·.push v) >>= fun _ => again (.builtin "list.extend.loop" ⟨[.ref S, .ref a, res], []⟩))
      (fun fin s' => match fin with | .done f => R (.ok f) s' | .again c' => c'.quiet = true ∧ codeAny (model prog w) A c' R s') (fun e s' => R (.error e) s') s') _ hlt st hU fun v extra own' s' hit st' hx hxs hg M => ?_) (fun r s' hr => ?_) fun _ _ e => e)
    · have notown : ∀ b o, s.heap.get? b = some o → (∀ p ∈ own, p.1 ≠ b) → s'.heap.get? b = some o := fun b o e hne => M.keep b o (fun q => by
        obtain ⟨p, hp, e'⟩ := List.mem_map.mp q
        exact hne p hp e') e
      have hS' := notown S _ hS fun p hp => (ho p hp).2.1
      have hT' : Holds s'.heap tl := fun p hp => notown _ _ (hT p hp) fun r hr e => (ho r hr).2.2 (List.mem_map.mpr ⟨p, hp, e.symm⟩)
      have hU' : Under hB s'.heap := fun b o e => notown b o (hU b o e) fun p hp q => by
        have := (ho p hp).1
        rw [q, e] at this; cases this
      have hSlt := Heap.lt_size hS
      have hex : ∀ p ∈ extra, hB.get? p.1 = none ∧ p.1 ≠ S := fun p hp => ⟨none_of_le hU (hxs p hp).1, fun q => by
        have := (hxs p hp).1
        rw [q] at this; exact absurd hSlt (Nat.not_lt.mpr this)⟩
      have ho' : ∀ p ∈ own', hB.get? p.1 = none ∧ p.1 ≠ S ∧ p.1 ∉ (tl ++ extra).map (·.1) := fun p hp => by
        have hnx : p.1 ∉ extra.map (·.1) := fun q => by
          obtain ⟨r, hr, e⟩ := List.mem_map.mp q
          exact (hxs r hr).2 (List.mem_map.mpr ⟨p, hp, e.symm⟩)
        rcases hg p hp with q | q
        · obtain ⟨r, hr, e⟩ := List.mem_map.mp q
          have z := ho r hr
          rw [e] at z
          refine ⟨z.1, z.2.1, fun y => ?_⟩
          rw [List.map_append] at y
          rcases List.mem_append.mp y with y | y
          · exact z.2.2 y
          · exact hnx y
        · refine ⟨none_of_le hU q, fun e => ?_, fun y => ?_⟩
          · rw [e] at q; exact absurd hSlt (Nat.not_lt.mpr q)
          · rw [List.map_append] at y
            rcases List.mem_append.mp y with y | y
            · obtain ⟨r, hr, e⟩ := List.mem_map.mp y
              have := Heap.lt_size (hT r hr)
              rw [e] at this; exact absurd this (Nat.not_lt.mpr q)
            · exact hnx y
      have hyl := hJl _ _ _ hJ0
      have oth : ∀ b o, b ≠ S → s'.heap.get? b = some o → (s'.heap.update S (Obj.mapSeq (·.push v))).get? b = some o := fun b o hb e => (Heap.get?_update_other _ _ (Ne.symm hb)).trans e
      refine wpAny_bind (wpAny_updateSeq hS' rfl (wpAny_pure ⟨plainId_quiet F.plain_extend_loop _, ?_⟩) (by rw [List.size_toArray]; omega) (by rw [Array.size_push, List.size_toArray]; omega))
      refine ih (j + 1) _ own' (tl ++ extra) (ys ++ [v]) (if (ys.toArray.push v).size == ys.toArray.size then c else c + 1) (by omega) hlt (I.keep _ _ _ _ st' (fun p hp => oth _ _ (ho' p hp).2.1 (I.holds _ _ _ st' p hp)) rfl)
        (fun b o e => oth b o (fun q => by rw [q, hS0] at e; cases e) (hU' b o e)) ?_ (hJ _ _ _ _ _ hJ0 hit) (fun p hp => ?_) ho' (fun p hp => ?_) ((hSd.trans M.side).trans .same) hR
      · rw [← List.push_toArray]; exact Heap.get?_update_self _ hS' rfl
      · rcases List.mem_append.mp hp with hp | hp
        · exact oth _ _ (ht p hp).2 (hT' p hp)
        · exact oth _ _ (hex p hp).2 (hx p hp)
      · rcases List.mem_append.mp hp with hp | hp
        · exact ht p hp
        · exact hex p hp
    · obtain ⟨v, rfl, hv⟩ := hr
      show wpAny _ A.in1 ((pure () : Sem Unit) >>= fun _ => (updateSeq S (·.push v) >>= fun _ => again (.builtin "list.extend.loop" ⟨[.ref S, .ref a, res], []⟩))) _ _ s'
      exact wpAny_bind hv

/-- list(a generator) -/
theorem list_gen {E : Value → Shared → Prop} {s : Shared} {own : Led} {Q : Value → Shared → Prop} (I : Iter prog w A.in1.in1 (Under hB) (fun s s' => s'.gens = s.gens) (.Name x px) (.ref a) n Item St) (hn : n ≤ sizeLine) (J : Nat → List Value → Led → Prop) (hJl : ∀ j ys tl, J j ys tl → ys.length = j)
    (hJ : ∀ j ys tl v extra, J j ys tl → Item j v extra → J (j + 1) (ys ++ [v]) (tl ++ extra)) (j0 : J 0 [] []) (st : St 0 own s) (hU : Under hB s.heap) (ho : ∀ p ∈ own, hB.get? p.1 = none) (hT : s.TypeIs (.ref a) "generator")
    (h : ∀ s', ListOf hB s.heap.objs.size J n s s' → Q (.ref s.heap.objs.size) s') :
    wpAny (model prog w) A (call (.type "list") [.ref a]) Q E s := by
  have hH := I.holds _ _ _ st
  have hal : a < s.heap.objs.size := by
    obtain ⟨o, ho, _⟩ := hT
    exact Heap.lt_size ho
  have hoS : ∀ p ∈ own, p.1 ≠ s.heap.objs.size := fun p hp => Nat.ne_of_lt (Heap.lt_size (hH p hp))
  have hS0 : hB.get? s.heap.objs.size = none := none_of_le hU (Nat.le_refl _)
  refine callType_codes (Q₁ := fun obj s₁ => obj = .ref s.heap.objs.size ∧ s₁ = { s with heap := s.heap.push { cls := .type "list", data := .seq #[] } }) F.called_list (F.typeCall_list_1 _) F.entry_list_init
    (code_list_new _ ⟨rfl, rfl⟩) fun obj s₁ h₁ => ?_
  obtain ⟨rfl, rfl⟩ := h₁
  generalize hSeq : s.heap.objs.size = S at hoS hS0 h hal ⊢
  have hS : (s.heap.push { cls := .type "list", data := .seq #[] }).get? S = some { cls := .type "list", data := .seq #[] } := by rw [← hSeq]; exact Heap.get?_push_size _ rfl
  have hT₁ : Shared.TypeIs { s with heap := s.heap.push { cls := .type "list", data := .seq #[] } } (.ref a) "generator" := by
    obtain ⟨o, ho, hc⟩ := hT
    exact ⟨o, Heap.get?_push_of_some _ ho, hc⟩
  refine ⟨⟨_, hS, rfl⟩, F.args_list_init_2 _ _, ?_⟩
  show wpAny _ A.in1.in1 (do let old ← Builtin.List.listItems (.ref S); Builtin.List.listUpdate (.ref S) (fun _ => #[]); letGo old.toList.reverse; Builtin.List.listExtendWith (.ref S) (.ref a) .none) _ _ _
  refine wpAny_bind ?_
  unfold Builtin.List.listItems
  refine wpAny_bind (wpAny_seqItems hS rfl (wpAny_pure ?_))
  show wpAny _ _ (updateSeq S (fun _ => #[]) >>= fun _ => letGo (#[] : Array Value).toList.reverse >>= fun _ => Builtin.List.listExtendWith (.ref S) (.ref a) .none) _ _ _
  refine wpAny_bind (wpAny_updateSeq hS rfl ?_)
  have hS₂ := Heap.get?_update_self (Obj.mapSeq (fun _ => (#[] : Array Value))) hS rfl
  refine wpAny_bind (wpAny_letGo ?_)
  have hSa : S ≠ a := fun e => by rw [← e] at hal; exact Nat.lt_irrefl _ hal
  unfold Builtin.List.listExtendWith
  have hT₂ : ∀ (f : Obj → Obj) (h' : Heap) g d k os, (∃ o, h'.get? a = some o ∧ o.cls = .type "generator") → Shared.TypeIs ⟨h'.update S f, g, d, k, os⟩ (.ref a) "generator" := fun f h' g d k os ⟨o, ho, hc⟩ => ⟨o, (Heap.get?_update_other _ _ hSa).trans ho, hc⟩
  refine wpAny_bind (wpAny_typeOf (hT₂ _ _ _ _ _ _ hT₁) ?_)
  have h1 : Builtin.List.listSameRef (.ref S) (.ref a) = false := by simp [Builtin.List.listSameRef, hSa]
  have h2 : (Value.type "generator" == Value.type "list") = false := by decide
  have h3 : (Value.type "generator" == Value.type "tuple") = false := by decide
  simp only [h1, h2, h3, Bool.or_false, Bool.false_eq_true, if_false]
  have oth₀ : ∀ b o, b ≠ S → s.heap.get? b = some o → ((s.heap.push { cls := .type "list", data := .seq #[] }).update S (Obj.mapSeq (fun _ => (#[] : Array Value)))).get? b = some o :=
    fun b o hb e => (Heap.get?_update_other _ _ (Ne.symm hb)).trans (Heap.get?_push_of_some _ e)
  refine wpAny_bind (I.self 0 own _ _ _ (I.keep _ _ _ _ st (fun p hp => oth₀ _ _ (hoS p hp) (hH p hp)) rfl) ?_)
  refine wpAny_bind (wpAny_holding ?_)
  unfold Builtin.List.listLengthHint
  refine wpAny_bind (wpAny_specialOf (hT₂ _ _ _ _ _ _ hT₁) F.gen_no_len ?_)
  show wpAny _ _ (specialOf (Value.ref a) (Str.ofString "__length_hint__") >>= _) _ _ _
  refine wpAny_bind (wpAny_specialOf (hT₂ _ _ _ _ _ _ hT₁) F.gen_no_hint ?_)
  refine wpAny_pure ?_
  show wpAny _ _ (rule "list.extend.makes-room" >>= fun _ => Builtin.List.listTouch (.ref S) >>= fun _ =>
    again (.builtin "list.extend.loop" ⟨[.ref S, .ref a, .none], []⟩)) _ _ _
  refine wpAny_bind (wpAny_rule ?_)
  refine wpAny_bind ?_
  show wpAny _ _ (updateSeq S (·.push .none) >>= fun _ => updateSeq S (·.pop)) _ _ _
  refine wpAny_bind (wpAny_updateSeq hS₂ rfl ?_)
  have hS₃ := Heap.get?_update_self (Obj.mapSeq (·.push Value.none)) hS₂ rfl
  refine wpAny_updateSeq (hz := by seq_fits) hS₃ rfl ?_
  have hS₄ := Heap.get?_update_self (Obj.mapSeq (·.pop)) hS₃ rfl
  have oth : ∀ b o, b ≠ S → s.heap.get? b = some o → ((((s.heap.push { cls := .type "list", data := .seq #[] }).update S (Obj.mapSeq (fun _ => (#[] : Array Value)))).update S (Obj.mapSeq (·.push Value.none))).update S (Obj.mapSeq (·.pop))).get? b = some o :=
    fun b o hb e => (Heap.get?_update_other _ _ (Ne.symm hb)).trans ((Heap.get?_update_other _ _ (Ne.symm hb)).trans (oth₀ b o hb e))
  refine wpAny_pure ⟨plainId_quiet F.plain_extend_loop _, ?_⟩
  refine extend_loop (A := A.in1) (s₀ := s) I hn S .none J hJl hJ hS0 n 0 _ own [] [] _ rfl (Nat.zero_le _) (I.keep _ _ _ _ st (fun p hp => oth _ _ (hoS p hp) (hH p hp)) rfl)
    (fun b o e => oth b o (fun q => by rw [q, hS0] at e; cases e) (hU b o e)) hS₄ j0 Holds.nil (fun p hp => ⟨ho p hp, hoS p hp, fun q => by cases q⟩) (fun p hp => by cases hp) ⟨rfl, _root_.id⟩ fun s' L => ?_
  exact ⟨rfl, h s' L⟩
end
end Mine

end

section
open PySem PySem.W PyProof.Rows PySem.Calls PySem.Spec
set_option maxRecDepth 100000
set_option linter.all false
namespace Mine
theorem strs_carried : ∀ {vs : List Value} {ns : List Str}, StrsAre vs ns → CarriedAll vs (ns.map PyData.str)
  | _, _, .nil => .nil
  | _, _, .cons _ t r => .cons (.str _ t) (strs_carried r)
theorem asc_ok {x : Str} (h : Asc x) : PyData.strOk x = true := by
  unfold PyData.strOk
  rw [← Array.all_toList, List.all_eq_true]
  intro c hc
  have := (asc_iff x).mp h c hc
  simp; omega
theorem strs_canLay0 : ∀ ns : List Str, (∀ x ∈ ns, Asc x) → PyData.canLayAll0 (ns.map PyData.str) = true
  | [], _ => rfl
  | y :: r, h => by simp [PyData.canLayAll0, PyData.canLay0, strs_canLay0 r (fun x hx => h x (.tail _ hx)), asc_ok (h y (.head _))]
theorem strs_depth : ∀ ns : List Str, PyData.depthAll (ns.map PyData.str) = 0
  | [] => rfl
  | _ :: r => by simp [PyData.depthAll, PyData.depth, strs_depth r]
theorem strs_shaped (ns : List Str) (h : ∀ x ∈ ns, Asc x) : SeqAt.shaped (.list (ns.map PyData.str)) = true := by
  simp [SeqAt.shaped, PyData.canLay0, PyData.depth, strs_canLay0 ns h, strs_depth]
theorem strs_sameAll : ∀ ns ms : List Str, PySem.Spec.sameAll (ns.map PyData.str) (ms.map PyData.str) = (ns == ms)
  | [], [] => by simp [PySem.Spec.sameAll]
  | [], _ :: _ => by simp [PySem.Spec.sameAll]
  | _ :: _, [] => by simp [PySem.Spec.sameAll]
  | a :: r, b :: t => by
    simp only [List.map_cons, PySem.Spec.sameAll, PySem.Spec.same, strs_sameAll r t, List.cons_beq_cons]
theorem strs_same (ns ms : List Str) : PySem.Spec.same (.list (ns.map PyData.str)) (.list (ms.map PyData.str)) = (ns == ms) := by
  simp only [PySem.Spec.same]; exact strs_sameAll ns ms
section
variable {prog : Program} {w : World} {A : Around} {E : Value → Shared → Prop} {s : Shared} {a b : Addr} {xs ys : List Value} {ns ms : List Str} {Q : Value → Shared → Prop}
theorem eq_strs (ha : s.heap.IsList a xs.toArray) (hb : s.heap.IsList b ys.toArray) (hi : StrsAre xs ns) (hj : StrsAre ys ms) (an : ∀ x ∈ ns, Asc x) (am : ∀ x ∈ ms, Asc x) (hu : A.units + 64 < cLine) (h : Q (.bool (ns == ms)) s) :
    wpAny (model prog w) A (compareOp .Eq (.ref a) (.ref b)) Q E s :=
  eq_dataH_same (reads_newData ha (strs_carried hi)) (reads_newData hb (strs_carried hj)) (strs_shaped _ an) (strs_shaped _ am) hu (SeqAt.noMix_of_shape (.list .str) rfl _ _ (list_map_has fun _ => rfl) (list_map_has fun _ => rfl)) (by rw [strs_same]; exact h)
theorem ne_strs (ha : s.heap.IsList a xs.toArray) (hb : s.heap.IsList b ys.toArray) (hi : StrsAre xs ns) (hj : StrsAre ys ms) (an : ∀ x ∈ ns, Asc x) (am : ∀ x ∈ ms, Asc x) (hu : A.units + 64 < cLine) (h : Q (.bool (!(ns == ms))) s) :
    wpAny (model prog w) A (compareOp .NotEq (.ref a) (.ref b)) Q E s :=
  ne_dataH_same (reads_newData ha (strs_carried hi)) (reads_newData hb (strs_carried hj)) (strs_shaped _ an) (strs_shaped _ am) hu (SeqAt.noMix_of_shape (.list .str) rfl _ _ (list_map_has fun _ => rfl) (list_map_has fun _ => rfl)) (by rw [strs_same]; exact h)
end
end Mine

end

section
open PySem PySem.W PyProof.Rows PySem.Calls
set_option maxRecDepth 100000
set_option linter.all false
namespace Mine
theorem seq_list_iadd : seqSlot? (.type "list") (dunderI "add") = pure (some (.builtin "list.__iadd__")) := PySem.seqSlot_of PySem.F.slot_list_iadd.lookup (by decide +kernel)
theorem fillI_list : fillsInplaceSlot (.type "list") "add" (Operator.Add == .Add) = pure false := by
  unfold fillsInplaceSlot
  show (typeLookup (.type "list") (dunderI "add") >>= fun fi => pure (fi.isSome && !isSeqSlot fi)) = pure false
  rw [PySem.F.slot_list_iadd.lookup]
  have : isSeqSlot (some (.builtin "list.__iadd__")) = true := by decide +kernel
  show (pure ((some (Value.builtin "list.__iadd__")).isSome && !isSeqSlot (some (.builtin "list.__iadd__"))) : Sem Bool) = _
  rw [this]; rfl
section
variable {prog : Program} {w : World} {A : Around} {E : Value → Shared → Prop} {s : Shared}
theorem iadd_lists {l b : Addr} {vs ws : List Value} {n n2 : Nat} {Q : Value → Shared → Prop} (hl : s.heap.get? l = some (lstO vs.toArray n)) (hb : s.heap.get? b = some (lstO ws.toArray n2)) (hsz : vs.length + ws.length ≤ sizeLine)
    (h : ∀ h' c, h'.get? l = some (lstO (vs ++ ws).toArray c) → Heap.SameBut l s.heap h' → Q (.ref l) { s with heap := h' }) : wpAny (model prog w) A (inplaceOp .Add (.ref l) (.ref b)) Q E s := by
  have ha : s.TypeIs (.ref l) "list" := ⟨_, hl, rfl⟩
  have hbT : s.TypeIs (.ref b) "list" := ⟨_, hb, rfl⟩
  unfold inplaceOp
  refine wpAny_holding ?_
  refine wpAny_bind (wpAny_typeOf ha (wpAny_bind (wpAny_of_eq fillI_list ?_)))
  show wpAny _ A (if false = true then _ else _) Q E s
  rw [if_neg Bool.false_ne_true]
  refine wpAny_bind (wpAny_binaryOp1_none (nm := "add") ha hbT noFill_list_add ?_)
  refine wpAny_bind (wpAny_of_eq seq_list_iadd ?_)
  refine wpAny_bind (wpAny_rule ?_)
  refine call_meets PySem.F.slot_list_iadd ha PySem.F.entry_list_iadd (PySem.F.args_list_iadd_2 _ _) (AutoSeq1.list___iadd___list_list_0 l vs.toArray n b ws.toArray n2 ?_ ?_ ?_) ⟨hl, hb, ?_⟩
  · have : Builtin.List.listTooLong (vs.toArray.size + ws.toArray.size) = false := by
      unfold Builtin.List.listTooLong
      simp; omega
    rw [this]; simp
  · simp; omega
  · simp; omega
  · refine h _ (if (vs.toArray ++ ws.toArray).size == vs.toArray.size then n else n + 1) ?_ (Heap.SameBut.update ..)
    rw [Heap.get?_update_self _ hl rfl]
    have e : (vs.toArray ++ ws.toArray) = (vs ++ ws).toArray := by simp
    show some (lstO (vs.toArray ++ ws.toArray) _) = _
    dsimp only
    exact congrArg (fun z => some (lstO z (if ((vs.toArray ++ ws.toArray).size == vs.toArray.size) = true then n else n + 1))) e
end
end Mine

end

section
open PySem PySem.W PyProof.Rows PySem.Calls
set_option maxRecDepth 100000
set_option linter.all false
namespace Mine
theorem warm11 (w : World) (h : Heap) (X : (hd.heap_39 w.params).In h) : Challenge.rw_wo0010_01.prog = Challenge.rw_wo0010_01.prog := by revert X; k_fill; intro _; rfl
theorem strs_app {vs us : List Value} {ps ts : List Str} (h : StrsAre vs ps) (h' : StrsAre us ts) : StrsAre (vs ++ us) (ps ++ ts) := by
  induction h with
  | nil => exact h'
  | cons y t r ih => exact .cons y t ih
theorem units_sum {ps ts : List Str} (hp : ∀ x ∈ ps, Asc x ∧ x.length ≤ 20) (hpn : ps.length ≤ 10) (ht : ∀ x ∈ ts, Asc x ∧ x.length ≤ 20) (htn : ts.length ≤ 10) :
    ((ps ++ ts).map (·.length)).sum + (ps ++ ts).length * (Str.ofString "").length ≤ 400 := by
  have h1 : ((ps ++ ts).map (·.length)).sum ≤ (ps ++ ts).length * 20 := sum_le fun r hr => by
    rcases List.mem_append.mp hr with hr | hr
    · exact (hp r hr).2
    · exact (ht r hr).2
  have h2 : (Str.ofString "").length = 0 := rfl
  rw [h2, Nat.mul_zero, Nat.add_zero]
  rw [List.length_append] at h1
  omega
theorem units_jlen {ps ts : List Str} (hp : ∀ x ∈ ps, Asc x ∧ x.length ≤ 20) (hpn : ps.length ≤ 10) (ht : ∀ x ∈ ts, Asc x ∧ x.length ≤ 20) (htn : ts.length ≤ 10) :
    (Txt.join (Str.ofString "") (ps ++ ts)).length ≤ 400 := by
  show (Builtin.Str.glued _ (ps ++ ts)).length ≤ _
  rw [StrLaws.glued_eq_join]
  exact Nat.le_trans (StrLaws.join_length_le _ _) (units_sum hp hpn ht htn)
theorem units_asc {ps ts : List Str} (hp : ∀ x ∈ ps, Asc x ∧ x.length ≤ 20) (ht : ∀ x ∈ ts, Asc x ∧ x.length ≤ 20) : Asc (Txt.join (Str.ofString "") (ps ++ ts)) := by
  refine (asc_iff _).mpr fun c hc => ?_
  rw [join_list_eq] at hc
  obtain ⟨r, hr, hc⟩ := List.mem_flatMap.mp hc
  refine (asc_iff r).mp ?_ c hc
  rcases List.mem_append.mp hr with hr | hr
  · exact (hp r hr).1
  · exact (ht r hr).1
def uStr (u : Nat × List Nat) : Str := ⟨u.2.toArray⟩
theorem escGo_asc : ∀ (l : List Nat) (i : Nat) (e : Bool), (∀ c ∈ l, c < 128) → ∀ u ∈ escGo i e l, Asc (uStr u)
  | [], i, true, _ => by simp [escGo, uStr, asc_iff]
  | [], i, false, _ => by simp [escGo]
  | c :: r, i, true, h => by
    have hc := h c (.head _)
    have ih := escGo_asc r (i + 1) false fun d hd => h d (.tail _ hd)
    intro u hu
    rw [escGo] at hu
    rcases List.mem_cons.mp hu with rfl | hu
    · rw [asc_iff]; intro d hd; simp [uStr] at hd; omega
    · exact ih u hu
  | c :: r, i, false, h => by
    have hc := h c (.head _)
    intro u hu
    rw [escGo] at hu
    split at hu
    · exact escGo_asc r (i + 1) true (fun d hd => h d (.tail _ hd)) u hu
    · rcases List.mem_cons.mp hu with rfl | hu
      · rw [asc_iff]; intro d hd; simp [uStr] at hd; omega
      · exact escGo_asc r (i + 1) false (fun d hd => h d (.tail _ hd)) u hu
inductive UnitsAre : List Value → Led → List (Nat × List Nat) → Prop
  | nil : UnitsAre [] [] []
  | cons (u : Nat × List Nat) (T : Addr) (t t' : Tok) {vs tl us} : UnitsAre vs tl us → UnitsAre (.ref T :: vs) ((T, unitO u t t') :: tl) (u :: us)
theorem UnitsAre.snoc {vs : List Value} {tl : Led} {us : List (Nat × List Nat)} (h : UnitsAre vs tl us) (u : Nat × List Nat) (T : Addr) (t t' : Tok) : UnitsAre (vs ++ [.ref T]) (tl ++ [(T, unitO u t t')]) (us ++ [u]) := by
  induction h with
  | nil => exact .cons u T t t' .nil
  | cons u' T' a b _ ih => exact .cons u' T' a b ih
theorem UnitsAre.len {vs : List Value} {tl : Led} {us : List (Nat × List Nat)} (h : UnitsAre vs tl us) : vs.length = us.length := by
  induction h with
  | nil => rfl
  | cons u' T' a b _ ih => simp [ih]
theorem UnitsAre.get {vs : List Value} {tl : Led} {us : List (Nat × List Nat)} (h : UnitsAre vs tl us) {j : Nat} {v : Value} (hv : vs[j]? = some v) : ∃ T t t' u, v = .ref T ∧ us[j]? = some u ∧ (T, unitO u t t') ∈ tl := by
  induction h generalizing j with
  | nil => cases hv
  | cons u T a b _ ih =>
    cases j with
    | zero => exact ⟨T, a, b, u, (Option.some.inj hv).symm, rfl, .head _⟩
    | succ j =>
      obtain ⟨T', t, t', u', e, hu, hm⟩ := ih hv
      exact ⟨T', t, t', u', e, hu, .tail _ hm⟩
def UnitsJ (us : List (Nat × List Nat)) (j : Nat) (ys : List Value) (tl : Led) : Prop := j ≤ us.length ∧ UnitsAre ys tl (us.take j)
theorem news_none {h₀ h : Heap} {L b : Addr} {m : Str → Option Value} (F : Fr h₀ L h m) (e : h.get? b = none) : b ≠ L ∧ h₀.get? b = none := by
  refine ⟨fun q => ?_, ?_⟩
  · obtain ⟨o, _, _, ho, _⟩ := F.ns
    rw [← q, e] at ho; cases ho
  · cases q : h₀.get? b with
    | none => rfl
    | some o => have := F.keep _ _ q; rw [e] at this; cases this
theorem join_len (ys : List Str) : (Txt.join (Str.ofString "") ys).length ≤ (ys.map (·.length)).sum := by
  show (Builtin.Str.glued _ ys).length ≤ _
  rw [StrLaws.glued_eq_join]
  have := StrLaws.join_length_le (Str.ofString "") ys
  have h2 : (Str.ofString "").length = 0 := rfl
  rw [h2, Nat.mul_zero, Nat.add_zero] at this
  exact this
theorem strip_len {x : Str} (hx : x.length ≤ 400) : (stripS x).length ≤ 200000 := by
  unfold stripS
  split
  · omega
  · refine Nat.le_trans (join_len _) ?_
    have h1 := sum_le (stripRes_le x)
    have h2 := stripRes_len x
    have h3 : (stripRes x).length * x.length ≤ 401 * 400 := Nat.mul_le_mul (by omega) hx
    omega
theorem post_tok {s : Shared} {c : Prop} [Decidable c] {y z : Str} {t : Tok} {Q : Value → Shared → Prop} (h1 : (if c then y else z).length ≤ sizeLine) (h : ∀ t' k, s.toks ≤ k → Q (.str (if c then y else z) t') { s with toks := k }) :
    (if c then Made.val (.str y t) else Made.str z).post Q s := by
  by_cases hc : c
  · rw [if_pos hc]; have h' := h t s.toks (Nat.le_refl _); rw [if_pos hc] at h'; exact h'
  · rw [if_neg hc]; have h' := h s.toks (s.toks + 1) (Nat.le_succ _); rw [if_neg hc] at h' h1; exact ⟨h1, h'⟩
theorem news_push {h₀ h : Heap} {L : Addr} {news : Led} (N : News h₀ L h news) (o : Obj) : News h₀ L (h.push o) news := fun p hp => ⟨Heap.get?_push_of_some _ (N p hp).1, (N p hp).2⟩
theorem filt_succ {ss : List Str} {j : Nat} {y : Str} (h : ss[j]? = some y) : (ss.take (j + 1)).filter (fun y => y != Str.ofString "") = (ss.take j).filter (fun y => y != Str.ofString "") ++ (if (y != Str.ofString "") = true then [y] else []) := by
  rw [List.take_add_one, h, List.filter_append]
  congr 1
  rw [Option.toList_some, List.filter_cons]
  split <;> rfl
abbrev unitMap (P Tl U Sh : Addr) (op : Option Value) : Str → Option Value :=
  (fun y => if y = Str.ofString "part" then op else if y = Str.ofString "shown" then some (.ref Sh) else if y = Str.ofString "units" then some (.ref U) else if y = Str.ofString "tail" then some (.ref Tl) else if y = Str.ofString "parts" then some (.ref P) else none)
def shownOf (q : Str) : List Str := ([Txt.replace (Txt.slice q none (some (-1))) (Str.ofString "\"(\"") (Str.ofString ""), Txt.slice q (some (-1)) none] : List Str).filter (fun y => y != Str.ofString "")
def ShownJ (ps : List Str) (P Tl U Sh : Addr) (tl : Led) (j : Nat) (m : Str → Option Value) (news : Led) : Prop :=
  ∃ op zs n, m = unitMap P Tl U Sh op ∧ news = (Sh, lstO (zs : List Value).toArray n) :: tl ∧ StrsAre zs ((ps.take j).flatMap shownOf)
theorem shownOf_len (q : Str) : (shownOf q).length ≤ 2 := by
  unfold shownOf
  exact Nat.le_trans (List.length_filter_le _ _) (Nat.le_refl _)
theorem shown_len (ps : List Str) (j : Nat) : ((ps.take j).flatMap shownOf).length ≤ 2 * ps.length := by
  have key : ∀ l : List Str, (l.flatMap shownOf).length ≤ 2 * l.length := by
    intro l
    induction l with
    | nil => simp
    | cons a l ih => have := shownOf_len a; simp only [List.flatMap_cons, List.length_append, List.length_cons]; omega
  have := key (ps.take j)
  rw [List.length_take] at this
  omega
set_option maxHeartbeats 4000000 in
theorem units_c {w : World} {A : Around} {s : Shared} {P Tl : Addr} {vs us : List Value} {ps ts : List Str} {Q E : Value → Shared → Prop} {mean mg mb} (hP : s.heap.IsList P vs.toArray) (hvs : StrsAre vs ps) (hT : s.heap.IsList Tl us.toArray) (hus : StrsAre us ts)
  (hp : ∀ x ∈ ps, Asc x ∧ x.length ≤ 20) (hpn : ps.length ≤ 10) (ht : ∀ x ∈ ts, Asc x ∧ x.length ≤ 20) (htn : ts.length ≤ 10)
  (X : (hd.heap_39 w.params).In s.heap) (T : Top hd.view_39 LO mean mg mb s.heap) (hh : A.handled = none) (hr : A.depth + 40 < recursionLimit) (hu : A.units + 200 < cLine)
  (heq : ps.flatMap shownOf ++ ts = (unitsOf (stripS (Txt.join (Str.ofString "") (ps ++ ts)))).map uStr)
  (h : ∀ s' U c ys tl, Ext s s' → (∀ p ∈ (U, lstO ys.toArray c) :: tl, s.heap.get? p.1 = none) → Holds s'.heap ((U, lstO ys.toArray c) :: tl) → UnitsAre ys tl (unitsOf (stripS (Txt.join (Str.ofString "") (ps ++ ts)))) → Q (.ref U) s') :
  wpAny (model TP w) A (call (.ref 90) [.ref P, .ref Tl]) Q E s := by
  refine call_plainK [(Str.ofString "parts", .ref P), (Str.ofString "tail", .ref Tl)] X T.nolimit (by omega) (by k_dflt k_is) (by k_dflt k_is) rfl rfl ?_
  intro h₁ F
  have N : News s.heap s.heap.objs.size h₁ [] := News.nil
  iterate 20 (first | (k_unfold; (try dsimp only)) | (k_end; wrow_close) | walk1 | (dsimp only; walk1) | (leave1; walk_say "STEP leave1"; try dsimp only))
  have hP₁ := isList_keep hP F.keep
  have hT₁ := isList_keep hT F.keep
  iterate 2 (first | (k_unfold; (try dsimp only)) | (k_end; wrow_close) | walk1 | (dsimp only; walk1) | (leave1; walk_say "STEP leave1"; try dsimp only))
  have hfit : vs.length + us.length ≤ sizeLine := by rw [strs_len hvs, strs_len hus, sizeLine_eq]; omega
  refine add_lists F N hP₁ hT₁ (fun h₂ F₂ N₂ => ?_) hfit
  clear F N
  (first | (k_unfold; (try dsimp only)) | (k_end; wrow_close) | walk1 | (dsimp only; walk1) | (leave1; walk_say "STEP leave1"; try dsimp only))
  refine join_list (News.isList N₂ (.head _)) (ys := ps ++ ts) ?h1 ?h2 fun t₃ k₃ => ?_
  case h1 => exact strs_app hvs hus
  case h2 => exact Nat.le_trans (units_sum hp hpn ht htn) (by decide)
  have hja : Asc (Txt.join (Str.ofString "") (ps ++ ts)) := units_asc hp ht
  have hjl : (Txt.join (Str.ofString "") (ps ++ ts)).length ≤ 400 := units_jlen hp hpn ht htn
  generalize hx : Txt.join (Str.ofString "") (ps ++ ts) = x at hja hjl ⊢
  iterate 3 (try (first | (k_unfold; (try dsimp only)) | (k_end; wrow_close) | walk1 | (dsimp only; walk1) | (leave1; walk_say "STEP leave1"; try dsimp only)))
  refine strip_c hja (by omega) (X.keeps F₂.keep) (T.keeps F₂.keep) hh (by show A.depth + 1 + 10 < _; omega) fun s₄ t₄ Ex₄ => ?_
  have F₄ := fr_ext F₂ Ex₄
  have N₄ := news_ext N₂ Ex₄
  have hsa := strip_asc hja
  generalize hy : stripS x = y at hsa ⊢
  clear F₂ N₂
  iterate 3 (try (first | (k_unfold; (try dsimp only)) | (k_end; wrow_close) | walk1 | (dsimp only; walk1) | (leave1; walk_say "STEP leave1"; try dsimp only)))
  have hz0 : s.heap.objs.size ≤ s₄.heap.objs.size := Nat.le_trans F₄.above (Nat.le_of_lt F₄.ns.lt)
  refine gen_call hsa (X.keeps F₄.keep) (T.keeps F₄.keep) (fun _ _ e => e) (Nat.le_refl _) (by show A.depth + 1 < _; omega) fun a g own s₅ G hig hH ho Ex₅ => ?_
  obtain ⟨F₅, N₅, off₅⟩ := gen_start F₄ N₄ Ex₅ hH ho
  iterate 3 (try (first | (k_unfold; (try dsimp only)) | (k_end; wrow_close) | walk1 | (dsimp only; walk1) | (leave1; walk_say "STEP leave1"; try dsimp only)))
  have hul := units_len y
  refine list_gen (hB := s₄.heap) (x := Str.ofString "z") (px := ⟨0, 0, 0, 0⟩) (iter_gen ?hh ?hd (T.keeps F₄.keep).nolimit _ a g (unitsOf y)) ?hn (UnitsJ (unitsOf y)) (fun j ys tl hj => ?hl) (fun j ys tl v extra hj hi => ?hj) ⟨Nat.zero_le _, .nil⟩ (G _ ?hh ?hd) Ex₅.keep (fun p hp => none_of_le (hB := s₄.heap) (fun _ _ e => e) (ho p hp)) hig.typeIs fun s₆ LO => ?_
  case hh => exact hh
  case hd => show A.depth + 1 < _; omega
  case hn => rw [sizeLine_eq]; have := strip_len hjl; rw [hy] at this; omega
  case hl => rw [hj.2.len, List.length_take]; exact Nat.min_eq_left hj.1
  case hj =>
    obtain ⟨u, Ta, t1, t2, hu, rfl, rfl⟩ := hi
    refine ⟨(List.getElem?_eq_some_iff.mp hu).1, ?_⟩
    rw [List.take_add_one, hu]
    exact hj.2.snoc u Ta t1 t2
  obtain ⟨ys, tl, c, ⟨_, hun⟩, hS, hTl, hnone⟩ := LO.ex
  rw [List.take_of_length_le (Nat.le_refl _)] at hun
  have F₆ := F₄.keeps LO.under
  have N₆ : News s.heap s.heap.objs.size s₆.heap ((s₅.heap.objs.size, lstO ys.toArray c) :: tl) := fun p hp => by
    rcases List.mem_cons.mp hp with rfl | hp
    · exact ⟨hS, news_none F₄ (none_of_le (hB := s₄.heap) Ex₅.keep (Nat.le_refl _))⟩
    · exact ⟨hTl p hp, news_none F₄ (hnone p hp).1⟩
  clear F₄ N₄ F₅ N₅ off₅ hH ho G
  iterate 9 (first | (k_unfold; (try dsimp only)) | (k_end; wrow_close) | walk1 | (dsimp only; walk1) | (leave1; walk_say "STEP leave1"; try dsimp only))
  refine wpAny_For ?_ (fun _ => rfl)
  (first | (k_unfold; (try dsimp only)) | (k_end; wrow_close) | walk1 | (dsimp only; walk1) | (leave1; walk_say "STEP leave1"; try dsimp only))
  rename Fr _ _ _ _ => F₇
  rename News _ _ _ _ => N₇
  rename_i Sh _ hSh _
  obtain ⟨hShU, hSht⟩ := hSh
  have F₇' : Fr s.heap s.heap.objs.size _ (unitMap P Tl s₅.heap.objs.size Sh none) := fr_eqm F₇ (by funext y; by_cases e0 : y = Str.ofString "part"; (subst e0; rfl); by_cases e1 : y = Str.ofString "shown"; (subst e1; rfl); by_cases e2 : y = Str.ofString "units"; (subst e2; rfl); by_cases e3 : y = Str.ofString "tail"; (subst e3; rfl); by_cases e4 : y = Str.ofString "parts"; (subst e4; rfl); have b0 : (y == Str.ofString "part") = false := (by simpa using e0); have b1 : (y == Str.ofString "shown") = false := (by simpa using e1); have b2 : (y == Str.ofString "units") = false := (by simpa using e2); have b3 : (y == Str.ofString "tail") = false := (by simpa using e3); have b4 : (y == Str.ofString "parts") = false := (by simpa using e4); simp [List.lookup, e0, b0, e1, b1, e2, b2, e3, b3, e4, b4])
  refine start_list F₇' N₇ (isList_keep hP F₇.keep) fun I own₂ s₇ hPI st F₈ N₈ off₈ S₈ Ex₈ => ?_
  refine for_walk (iter_list ?hh _ I P vs hPI) (ShownJ ps P Tl s₅.heap.objs.size Sh ((s₅.heap.objs.size, lstO ys.toArray c) :: tl)) (fun _ _ _ _ _ F _ => isList_keep hP F.keep) st F₈ N₈ off₈ ⟨none, [], 0, rfl, rfl, .nil⟩ ?turn ?done
  case hh => exact hh
  case turn =>
    rintro j v extra own m news s₉ hj ⟨hv, rfl⟩ ⟨op, zs, n, rfl, rfl, hzs⟩ F N off offx hlts S
    obtain ⟨q, tq, rfl, hq⟩ := strs_get hvs hv
    have hqq := hp q (List.mem_of_getElem? hq)
    simp only [List.map_cons, List.map_nil] at off
    simp only [List.cons_append, List.nil_append] at N
    refine assign_nm F N (fun h₄ F₄ N₄ => ?_) ?ha ?hb
    case ha => rfl
    case hb => rfl
    clear F N
    refine wpAny_execs_cons (wpAny_AugAssign_Name ?_)
    refine wpAny_loadName_local ?l1 ?l2 F₄.ns (v := .ref Sh) ?l3 ?_
    case l1 => rfl
    case l2 => rfl
    case l3 => rfl
    refine comp_eval [] ?q1 ?q2 ?q3 ?_
    case q1 => rfl
    case q2 => rfl
    case q3 => decide
    iterate 3 (first | (k_unfold; (try dsimp only)) | (k_end; wrow_close) | walk1 | (dsimp only; walk1) | (leave1; walk_say "STEP leave1"; try dsimp only))
    refine wpAny_Subscript_str_slice ?_ ?ht1
    case ht1 => intro _ _; rfl
    refine name_l F₄ (v := .str q tq) ?l1 ?l2 ?l3 ?_
    case l1 => rfl
    case l2 => rfl
    case l3 => rfl
    iterate 5 (first | (k_unfold; (try dsimp only)) | (k_end; wrow_close) | walk1 | (dsimp only; walk1) | (leave1; walk_say "STEP leave1"; try dsimp only))
    refine ⟨q, tq, none, some (-1, _), rfl, rfl, rfl, post_tok ?_ fun t₁ k₁ hk₁ => ?_⟩
    · exact Nat.le_trans (Txt.slice_le q none (some (-1))) (by rw [sizeLine_eq]; omega)
    have F₅ := F₄.push { cls := .type "slice", data := .fields #[.none, .int (-1) (s₉.toks + 1 + 1), .none] }
    have N₅ := news_push N₄ { cls := .type "slice", data := .fields #[.none, .int (-1) (s₉.toks + 1 + 1), .none] }
    have hk0 : 0 < k₁ := Nat.lt_of_lt_of_le (Nat.succ_pos _) hk₁
    clear F₄ N₄
    change wpAny _ _ _ _ _ { heap := h₄.push { cls := .type "slice", data := .fields #[.none, .int (-1) (s₉.toks + 1 + 1), .none] }, gens := s₉.gens, drawn := s₉.drawn, toks := k₁, os := s₉.os }
    generalize h₄.push { cls := .type "slice", data := .fields #[.none, .int (-1) (s₉.toks + 1 + 1), .none] } = h₅ at F₅ N₅ ⊢
    iterate 7 (try (first | (k_unfold; (try dsimp only)) | (k_end; wrow_close) | walk1 | (dsimp only; walk1) | (leave1; walk_say "STEP leave1"; try dsimp only)))
    refine SC.replaceW (Nat.ne_of_gt hk0) (Nat.succ_ne_zero _) (Nat.ne_of_lt (Nat.lt_succ_self _)) ?hyz ?hxl ?hzl fun t₂ k₂ => ?_
    case hyz => decide
    case hxl => exact Nat.le_trans (Txt.slice_le q none (some (-1))) (by omega)
    case hzl => decide
    (first | (k_unfold; (try dsimp only)) | (k_end; wrow_close) | walk1 | (dsimp only; walk1) | (leave1; walk_say "STEP leave1"; try dsimp only))
    refine wpAny_Subscript_str_slice ?_ ?ht2
    case ht2 => intro _ _; rfl
    refine name_l F₅ (v := .str q tq) ?l1 ?l2 ?l3 ?_
    case l1 => rfl
    case l2 => rfl
    case l3 => rfl
    iterate 5 (first | (k_unfold; (try dsimp only)) | (k_end; wrow_close) | walk1 | (dsimp only; walk1) | (leave1; walk_say "STEP leave1"; try dsimp only))
    refine ⟨q, tq, some (-1, _), none, rfl, rfl, rfl, post_tok ?_ fun t₃ k₃ hk₃ => ?_⟩
    · exact Nat.le_trans (Txt.slice_le q (some (-1)) none) (by rw [sizeLine_eq]; omega)
    have F₆ := F₅.push { cls := .type "slice", data := .fields #[.int (-1) (k₂ + 1), .none, .none] }
    have N₆ := news_push N₅ { cls := .type "slice", data := .fields #[.int (-1) (k₂ + 1), .none, .none] }
    change wpAny _ _ _ _ _ { heap := h₅.push { cls := .type "slice", data := .fields #[.int (-1) (k₂ + 1), .none, .none] }, gens := s₉.gens, drawn := s₉.drawn, toks := k₃, os := s₉.os }
    generalize h₅.push { cls := .type "slice", data := .fields #[.int (-1) (k₂ + 1), .none, .none] } = h₆ at F₆ N₆ ⊢
    clear F₅ N₅
    (first | (k_unfold; (try dsimp only)) | (k_end; wrow_close) | walk1 | (dsimp only; walk1) | (leave1; walk_say "STEP leave1"; try dsimp only))
    refine newList_N F₆ N₆ (fun h₇ F₇ N₇ => ?_) ?hz7
    case hz7 => show 2 ≤ sizeLine; rw [sizeLine_eq]; decide
    clear F₆ N₆
    generalize hz1 : Txt.replace _ (Str.ofString "\"(\"") (Str.ofString "") = z1 at N₇ ⊢
    refine start_list F₇ N₇ (News.isList N₇ (.head _)) fun I₂ own₃ s₈ hPI₂ st₂ F₉ N₉ off₉ S₉ Ex₉ => ?_
    refine comp_block (iter_list ?hh2 _ I₂ _ _ hPI₂) (fun h _ hn => ⟨_, hn _ (.head _), rfl, _, rfl⟩) (fun _ => trivial) (fun _ _ _ _ _ => trivial) ?hsz2 ?hcell2 ?hkind2
      (fun j ys => StrsAre ys ((([z1, Txt.slice q (some (-1)) none] : List Str).take j).filter (fun y => y != Str.ofString ""))) st₂ F₉ N₉ off₉ .nil (fun j ys hj => ?hlen2) ?turn2 ?done2
    case hh2 => exact hh
    case hsz2 => show 2 ≤ sizeLine; rw [sizeLine_eq]; decide
    case hcell2 => decide
    case hkind2 => rfl
    case hlen2 => rw [strs_len hj]; exact Nat.le_trans (List.length_filter_le _ _) (by rw [List.length_take]; exact Nat.min_le_left _ _)
    case turn2 =>
      rintro j v extra rest ys₂ C mC s₅' hj ⟨hv, rfl⟩ hys F N S
      obtain ⟨x2, tx2, rfl, hx2⟩ := strs_get (ss := [z1, Txt.slice q (some (-1)) none]) (.cons _ _ (.cons _ _ .nil)) hv
      refine assign_nm F N (fun h₉ F' N' => ?_) ?ha ?hb
      case ha => rfl
      case hb => rfl
      rw [List.forIn_cons]
      refine wpAny_bind ?_
      rw [if_pos rfl]
      refine wpAny_bind ?_
      (first | (k_unfold; (try dsimp only)) | (k_end; wrow_close) | walk1 | (dsimp only; walk1) | (leave1; walk_say "STEP leave1"; try dsimp only))
      refine name_l F' (v := .str x2 tx2) ?l1 ?l2 ?l3 ?_
      case l1 => rfl
      case l2 => rfl
      case l3 => rfl
      iterate 3 (first | (k_unfold; (try dsimp only)) | (k_end; wrow_close) | walk1 | (dsimp only; walk1) | (leave1; walk_say "STEP leave1"; try dsimp only))
      refine wpAny_pure ?_
      dsimp only
      rw [List.forIn_nil]
      refine wpAny_pure ?_
      have hset := filt_succ (ss := [z1, Txt.slice q (some (-1)) none]) hx2
      cases hbv : (x2 != Str.ofString "") with
      | true =>
        rw [if_pos rfl]
        refine name_l F' (v := .str x2 tx2) ?l1 ?l2 ?l3 ?_
        case l1 => rfl
        case l2 => rfl
        case l3 => rfl
        refine ⟨?_, ⟨_, F'⟩, N', ⟨rfl, _root_.id⟩, trivial⟩
        rw [hset, hbv]
        exact strs_snoc hys _ _
      | false =>
        rw [if_neg Bool.false_ne_true]
        refine ⟨?_, ⟨_, F'⟩, N', ⟨rfl, _root_.id⟩, trivial⟩
        rw [hset, hbv]
        simpa using hys
    case done2 =>
      intro D₂ C ys₂ s' mC hys F N hlt nC hCD hCL hC0 hCn S₂
      refine comp_done F N nC hCD hCL hC0 hCn S₂ fun s'' F₁ N₁ S₁ => ?_
      clear F N
      rw [List.length_cons, List.length_singleton] at hys
      have hz1' : Txt.replace (Txt.slice q none (some (-1))) (Str.ofString "\"(\"") (Str.ofString "") = z1 := hz1
      replace hys : StrsAre ys₂ (shownOf q) := by rw [shownOf, hz1']; exact hys
      have zS := N₁ (Sh, lstO zs.toArray n) (.tail _ (.tail _ (.head _)))
      have hz9 : zs.length + ys₂.length ≤ sizeLine := by
        rw [strs_len hys, strs_len hzs, sizeLine_eq]
        have h1 := shown_len ps j
        have h2 := shownOf_len q
        omega
      refine iadd_lists zS.1 (N₁ (D₂, _) (.head _)).1 hz9 fun h₈ c₈ hSh₈ hs₈ => ?_
      have F₈' := F₁.change hs₈ zS.2.1 zS.2.2
      have N₈' : News s.heap s.heap.objs.size h₈ ((Sh, lstO (zs ++ ys₂).toArray c₈) :: (s₅.heap.objs.size, lstO ys.toArray c) :: (tl ++ own)) := fun p hp => by
        rcases List.mem_cons.mp hp with rfl | hp
        · exact ⟨hSh₈, zS.2⟩
        · have z := N₁ p (.tail _ (.tail _ (.tail _ hp)))
          refine ⟨hs₈.extBut _ _ ?_ z.1, z.2⟩
          rcases List.mem_cons.mp hp with rfl | hp
          · exact Nat.ne_of_lt hShU
          · rcases List.mem_append.mp hp with hp | hp
            · exact Nat.ne_of_lt (ktn_ltOf hSht p hp)
            · exact off p hp Sh (.head _)
      refine wpAny_storeName_local ?kl F₈'.ns (fun h₉ hn₉ hs₉ => ?_) ?kp
      case kl => rfl
      case kp => rfl
      refine wpAny_execs_nil ?_
      refine ⟨_, (Sh, lstO (zs ++ ys₂).toArray c₈) :: (s₅.heap.objs.size, lstO ys.toArray c) :: tl, fr_eqm (F₈'.set hn₉ hs₉) (by funext y; by_cases e0 : y = Str.ofString "part"; (subst e0; rfl); by_cases e1 : y = Str.ofString "shown"; (subst e1; rfl); by_cases e2 : y = Str.ofString "units"; (subst e2; rfl); by_cases e3 : y = Str.ofString "tail"; (subst e3; rfl); by_cases e4 : y = Str.ofString "parts"; (subst e4; rfl); have b0 : (y == Str.ofString "part") = false := (by simpa using e0); have b1 : (y == Str.ofString "shown") = false := (by simpa using e1); have b2 : (y == Str.ofString "units") = false := (by simpa using e2); have b3 : (y == Str.ofString "tail") = false := (by simpa using e3); have b4 : (y == Str.ofString "parts") = false := (by simpa using e4); simp [List.lookup, e0, b0, e1, b1, e2, b2, e3, b3, e4, b4, unitMap]), N₈'.set hs₉, off, ⟨some (.str q tq), zs ++ ys₂, c₈, rfl, rfl, ?_⟩, ⟨S₁.os.trans S₉.os, fun b => S₁.bare (S₉.bare b)⟩, trivial⟩
      rw [List.take_add_one, hq, List.flatMap_append]
      have e : (some q).toList.flatMap shownOf = shownOf q := by simp
      rw [e]
      exact strs_app hzs hys
  case done =>
    rintro m news s' ⟨op, zs, n, rfl, rfl, hzs⟩ F N S
    iterate 4 (first | (k_unfold; (try dsimp only)) | (k_end; wrow_close) | walk1 | (dsimp only; walk1) | (leave1; walk_say "STEP leave1"; try dsimp only))
    refine comp_eval [] ?q1 ?q2 ?q3 ?_
    case q1 => rfl
    case q2 => rfl
    case q3 => decide
    iterate 1 (first | (k_unfold; (try dsimp only)) | (k_end; wrow_close) | walk1 | (dsimp only; walk1) | (leave1; walk_say "STEP leave1"; try dsimp only))
    refine start_list F N (News.isList N (.tail _ (.head _))) fun I₄ own₄ s₈ hPI₄ st₄ F₉ N₉ off₉ S₉ Ex₉ => ?_
    refine comp_block (iter_list ?hh2 _ I₄ _ _ hPI₄) (fun h _ hn => ⟨_, hn _ (.tail _ (.head _)), rfl, _, rfl⟩) (fun _ => trivial) (fun _ _ _ _ _ => trivial) ?hsz2 ?hcell2 ?hkind2
      (fun j ys => StrsAre ys (((unitsOf y).take j).map uStr)) st₄ F₉ N₉ off₉ .nil (fun j ys hj => ?hlen2) ?turn2 ?done2
    case hh2 => exact hh
    case hsz2 => rw [hun.len, sizeLine_eq]; have := strip_len hjl; rw [hy] at this; omega
    case hcell2 => decide
    case hkind2 => rfl
    case hlen2 => rw [strs_len hj, List.length_map, List.length_take]; exact Nat.min_le_left _ _
    case turn2 =>
      rintro j v extra rest ys₂ C mC s₅' hj ⟨hv, rfl⟩ hys F N S
      obtain ⟨Tj, t1, t2, u, rfl, hu, hmem⟩ := hun.get hv
      refine assign_pair hh F N (List.mem_append_left _ (List.mem_append_right _ (.tail _ (.tail _ hmem)))) (fun h₄ F₄ N₄ => ?_) ?ha ?hb ?hc
      case ha => rfl
      case hb => rfl
      case hc => rfl
      rw [List.forIn_nil]
      refine wpAny_pure ?_
      rw [if_pos rfl]
      refine name_l F₄ (v := .str ⟨u.2.toArray⟩ t2) ?l1 ?l2 ?l3 ?_
      case l1 => rfl
      case l2 => rfl
      case l3 => rfl
      refine ⟨?_, ⟨_, F₄⟩, N₄, ⟨rfl, _root_.id⟩, trivial⟩
      rw [List.take_add_one, hu, List.map_append]
      exact strs_snoc hys _ _
    case done2 =>
      intro D₂ C ys₂ s'' mC hys F N hlt nC hCD hCL hC0 hCn S₂
      refine comp_done F N nC hCD hCL hC0 hCn S₂ fun s₁₀ F₁ N₁ S₁ => ?_
      clear F N
      rw [List.take_of_length_le (by rw [hun.len]; exact Nat.le_refl _)] at hys
      rw [List.take_of_length_le (by rw [strs_len hvs]; exact Nat.le_refl _)] at hzs
      iterate 3 (first | (k_unfold; (try dsimp only)) | (k_end; wrow_close) | walk1 | (dsimp only; walk1) | (leave1; walk_say "STEP leave1"; try dsimp only))
      have hz5 : zs.length + us.length ≤ sizeLine := by
        rw [strs_len hzs, strs_len hus, sizeLine_eq]
        have h1 := shown_len ps ps.length
        rw [List.take_length] at h1
        omega
      refine add_lists F₁ N₁ (News.isList N₁ (.tail _ (.head _))) (isList_keep hT F₁.keep) (fun h₁₁ F₁₁ N₁₁ => ?_) hz5
      have hass : ∀ x ∈ (unitsOf y).map uStr, Asc x := fun x hx => by
        obtain ⟨u, hu, rfl⟩ := List.mem_map.mp hx
        exact escGo_asc _ _ _ ((asc_iff y).mp hsa) u hu
      have heq' : ps.flatMap shownOf ++ ts = (unitsOf y).map uStr := by rw [← hy, ← hx]; exact heq
      refine eq_strs (News.isList N₁₁ (.tail _ (.head _))) (News.isList N₁₁ (.head _)) hys (strs_app hzs hus) hass (by rw [heq']; exact hass) (by show A.units + 3 + 64 < cLine; omega) ?_
      rw [heq', beq_self_eq_true]
      iterate 2 (first | (k_unfold; (try dsimp only)) | (k_end; wrow_close) | walk1 | (dsimp only; walk1) | (leave1; walk_say "STEP leave1"; try dsimp only))
      refine name_l F₁₁ (v := .ref s₅.heap.objs.size) ?l1 ?l2 ?l3 ?_
      case l1 => rfl
      case l2 => rfl
      case l3 => rfl
      dsimp only
      have hE : Ext s { heap := h₁₁, gens := s₁₀.gens, drawn := s₁₀.drawn, toks := s₁₀.toks, os := s₁₀.os } :=
        ⟨F₁₁.keep, S₁.os.trans (S₉.os.trans (S.os.trans (S₈.os.trans (LO.side.os.trans (Ex₅.side.os.trans Ex₄.side.os))))),
          fun b => S₁.bare (S₉.bare (S.bare (S₈.bare (LO.side.bare (Ex₅.side.bare (Ex₄.side.bare b))))))⟩
      have hfin : UnitsAre ys tl (unitsOf (stripS (Txt.join (Str.ofString "") (ps ++ ts)))) := by rw [hx, hy]; exact hun
      exact h _ _ c ys tl hE (fun p hp => (N₁₁ p (.tail _ (.tail _ (.tail _ hp)))).2.2) (fun p hp => (N₁₁ p (.tail _ (.tail _ (.tail _ hp)))).1) hfin
end Mine

end

section
open PySem PySem.W PyProof.Rows PySem.Calls
set_option maxRecDepth 100000
set_option linter.all false
namespace Mine
theorem warm12 (w : World) (h : Heap) (X : (hd.heap_39 w.params).In h) : Challenge.rw_wo0010_01.prog = Challenge.rw_wo0010_01.prog := by revert X; k_fill; intro _; rfl
section
variable {prog : Program} {w : World} {A : Around} {E : Value → Shared → Prop} {s : Shared} {env : Env} {h₀ : Heap} {m : Str → Option Value} {news : Led}
theorem assign_triple {x1 x2 x3 : Str} {p1 p2 p3 pos : Pos} {k : Nat} {T : Addr} {v1 v2 v3 : Value} {Q : Unit → Shared → Prop} (hh : A.handled = none) (F : Fr h₀ env.locals s.heap m) (N : News h₀ env.locals s.heap news)
    (ht : (T, tupO [v1, v2, v3]) ∈ news)
    (h : ∀ h', Fr h₀ env.locals h' (fun y => if y = x3 then some v3 else if y = x2 then some v2 else if y = x1 then some v1 else m y) → News h₀ env.locals h' news → Q () { s with heap := h', toks := s.toks + 1 + 1 + 1 })
    (hl1 : env.kindOf x1 = some .local := by rfl) (hl2 : env.kindOf x2 = some .local := by rfl) (hl3 : env.kindOf x3 = some .local := by rfl) (hp : (env.scope.kind == .class || (env.scope.kind == .module && env.locals != env.globals)) = false := by rfl) :
    wpAny (model prog w) A (assign (.Tuple [.Name x1 p1, .Name x2 p2, .Name x3 p3] k pos) env (.ref T)) Q E s := by
  have hT : IsTup s.heap T #[v1, v2, v3] := ⟨_, N.get ht, rfl, _, rfl⟩
  refine assign_Tuple_tuple hh hT rfl rfl fun h₄ hx₄ => ?_
  have hk : ∀ b o, s.heap.get? b = some o → h₄.get? b = some o := fun b o q => hx₄ b o (Nat.ne_of_lt (Heap.lt_size q)) q
  have N₄ : News h₀ env.locals h₄ news := fun p hp => ⟨hk _ _ (N p hp).1, (N p hp).2⟩
  refine assignInOrder_cons (assign_nm (F.keeps hk) N₄ (fun h₅ F₅ N₅ => ?_) hl1 hp)
  refine assignInOrder_cons (assign_nm F₅ N₅ (fun h₆ F₆ N₆ => ?_) hl2 hp)
  refine assignInOrder_cons (assign_nm F₆ N₆ (fun h₇ F₇ N₇ => assignInOrder_nil (h h₇ F₇ N₇)) hl3 hp)
end
abbrev leastMap (U D Sm : Addr) (oi oj ok ow : Option Value) : Str → Option Value :=
  (fun y => if y = Str.ofString "ways" then ow else if y = Str.ofString "k" then ok else if y = Str.ofString "j" then oj else if y = Str.ofString "i" then oi else if y = Str.ofString "sums" then some (.ref Sm) else if y = Str.ofString "downs" then some (.ref D) else if y = Str.ofString "ups" then some (.ref U) else none)
def perms3 : List (Nat × Nat × Nat) := [(0, 1, 2), (0, 2, 1), (1, 0, 2), (1, 2, 0), (2, 0, 1), (2, 1, 0)]
def absI (a : Int) : Int := if a < 0 then -a else a
def minI (a b : Int) : Int := if b < a then b else a
def waysOf (ns ms : List Int) (p : Nat × Nat × Nat) : List Int := [absI (ns.getD 0 0 - ms.getD p.1 0), absI (ns.getD 1 0 - ms.getD p.2.1 0), absI (ns.getD 2 0 - ms.getD p.2.2 0)]
def costOf (ns ms : List Int) (sz : Int) (p : Nat × Nat × Nat) : Int := ((waysOf ns ms p).map fun x => minI x (sz - x)).sum
def LeastJ (ns ms : List Int) (sz : Int) (U D Sm : Addr) (base : Led) (j : Nat) (m : Str → Option Value) (news : Led) : Prop :=
  ∃ oi oj ok ow ys n, m = leastMap U D Sm oi oj ok ow ∧ news = (Sm, lstO (ys : List Value).toArray n) :: base ∧ IntsAre ys ((perms3.take j).map (costOf ns ms sz))
theorem perms3_lt : ∀ p ∈ perms3, p.1 < 3 ∧ p.2.1 < 3 ∧ p.2.2 < 3 := by decide
theorem ints_at {vs : List Value} {ks : List Int} (h : IntsAre vs ks) {i : Nat} (hi : i < ks.length) : ∃ t, vs[i]? = some (.int (ks.getD i 0) t) := by
  have hl : i < vs.length := by rw [ints_len h]; exact hi
  obtain ⟨y, t, e, hy⟩ := ints_get h (List.getElem?_eq_getElem hl)
  refine ⟨t, ?_⟩
  rw [List.getElem?_eq_getElem hl, e, List.getD_eq_getElem?_getD, hy]; rfl
theorem sub_at {prog : Program} {w : World} {A : Around} {E : Value → Shared → Prop} {s : Shared} {value slice : PySem.Expr} {l : Addr} {vs : List Value} {k : Nat} {u : Tok} {x : Value} {Q : Value → Shared → Prop}
    (hl : s.heap.IsList l vs.toArray) (hx : vs[k]? = some x) (hk : k < 2 ^ 62) (h : Q x s) (hs : subscripted slice false (.ref l) (.int k u) = operate [.ref l, .int k u] (getItem (.ref l) (.int k u)) := by with_unfolding_all rfl) :
    wpAny (model prog w) A (subscriptTail value slice (.ref l) (.int k u)) Q E s :=
  tail_any hl.typeIs PySem.F.slot_list_getitem.lookup (wpAny_getItem_list hl (by omega) (by omega) (by rw [Int.toNat_natCast, List.getElem?_toArray]; exact hx) h) hs
theorem least_pack {h₀ h : Heap} {L a1 a2 a3 a4 a5 a6 a7 a8 a9 : Addr} {o1 o2 o3 o4 o5 o6 o7 o8 o9 : Obj} (N : News h₀ L h [(a1, o1), (a2, o2), (a3, o3), (a4, o4), (a5, o5), (a6, o6), (a7, o7), (a8, o8), (a9, o9)]) :
    News h₀ L h ((a8, o8) :: (a1, o1) :: [(a2, o2), (a3, o3), (a4, o4), (a5, o5), (a6, o6), (a7, o7), (a9, o9)]) := fun p hp => N p (by
  simp only [List.mem_cons, List.not_mem_nil, or_false] at hp ⊢
  rcases hp with h | h | h | h | h | h | h | h | h <;> simp [h])
set_option maxHeartbeats 4000000 in
theorem least_c {w : World} {A : Around} {s : Shared} {U D : Addr} {us ds : List Value} {ns ms : List Int} {sz : Int} {ts : Tok} {Q E : Value → Shared → Prop} {mean mg mb} (hU : s.heap.IsList U us.toArray) (hus : IntsAre us ns) (hD : s.heap.IsList D ds.toArray) (hds : IntsAre ds ms)
  (hn : ns.length = 3) (hm : ms.length = 3)
  (X : (hd.heap_39 w.params).In s.heap) (T : Top hd.view_39 LO mean mg mb s.heap) (hh : A.handled = none) (hr : A.depth + 40 < recursionLimit)
  (h : ∀ s' M t, Ext s s' → M ∈ perms3.map (costOf ns ms sz) → (∀ a, a ∈ perms3.map (costOf ns ms sz) → M ≤ a) → Q (.int M t) s') :
  wpAny (model TP w) A (call (.ref 105) [.ref U, .ref D, .int sz ts]) Q E s := by
  refine call_cellK [(Str.ofString "ups", .ref U), (Str.ofString "downs", .ref D), (Str.ofString "size", .int sz ts)] X T.nolimit (by omega) (by k_dflt k_is) (by k_dflt k_is) rfl (fun n x hx => ?hc) (by decide) ?_
  case hc =>
    simp only [List.mem_cons, List.not_mem_nil, or_false] at hx
    rcases hx with rfl | rfl | rfl
    · exact .inl rfl
    · exact .inl rfl
    · exact .inr ⟨rfl, rfl⟩
  intro h₁ tk cells F N Y
  obtain ⟨oc, rfl, hoc⟩ := CellsAre.one Y
  replace F : Fr s.heap s.heap.objs.size h₁ (fun y => if y = Str.ofString "downs" then some (.ref D) else if y = Str.ofString "ups" then some (.ref U) else none) := F
  clear Y
  iterate 6 (first | (k_unfold; (try dsimp only)) | (k_end; wrow_close) | walk1 | (dsimp only; walk1) | (leave1; walk_say "STEP leave1"; try dsimp only))
  refine wpAny_execs_cons ?_
  refine wpAny_For ?_ ?hs
  case hs => intro x; unfold foldedSetIterable; rfl
  iterate 63 (first | (k_unfold; (try dsimp only)) | (k_end; wrow_close) | walk1 | (dsimp only; walk1) | (leave1; walk_say "STEP leave1"; try dsimp only))
  rename Fr _ _ _ _ => F₂
  rename News _ _ _ _ => N₂
  rename_i Sm gA l0 gB D1 gC l1 D2 gD l2 D3 gE l3 D4 gF l4 D5 gG l5 D6 gH l6 l gI l7
  have hoc' : oc.data = .cell (some (.int sz ts)) := hoc
  have F₂' : Fr s.heap s.heap.objs.size gI (leastMap U D Sm none none none none) := fr_eqm F₂ (by funext y; by_cases e0 : y = Str.ofString "ways"; (subst e0; rfl); by_cases e1 : y = Str.ofString "k"; (subst e1; rfl); by_cases e2 : y = Str.ofString "j"; (subst e2; rfl); by_cases e3 : y = Str.ofString "i"; (subst e3; rfl); by_cases e4 : y = Str.ofString "sums"; (subst e4; rfl); by_cases e5 : y = Str.ofString "downs"; (subst e5; rfl); by_cases e6 : y = Str.ofString "ups"; (subst e6; rfl); have b0 : (y == Str.ofString "ways") = false := (by simpa using e0); have b1 : (y == Str.ofString "k") = false := (by simpa using e1); have b2 : (y == Str.ofString "j") = false := (by simpa using e2); have b3 : (y == Str.ofString "i") = false := (by simpa using e3); have b4 : (y == Str.ofString "sums") = false := (by simpa using e4); have b5 : (y == Str.ofString "downs") = false := (by simpa using e5); have b6 : (y == Str.ofString "ups") = false := (by simpa using e6); simp [List.lookup, e0, b0, e1, b1, e2, b2, e3, b3, e4, b4, e5, b5, e6, b6])
  obtain ⟨base, vs, N₂', hvs, hb0, hbS, hlen, hcell, hbS'⟩ : ∃ (base : Led) (vs : List Value), News s.heap s.heap.objs.size gI ((Sm, lstO ([] : List Value).toArray 0) :: (l, lstO (vs : List Value).toArray 0) :: base) ∧
      (∀ (j : Nat) (v : Value), vs[j]? = some v → ∃ (T : Addr) (t1 t2 t3 : Tok) (p : Nat × Nat × Nat), v = .ref T ∧ perms3[j]? = some p ∧ (T, tupO [.int p.1 t1, .int p.2.1 t2, .int p.2.2 t3]) ∈ base) ∧ True ∧ (∀ p ∈ base, p.1 ≠ Sm) ∧ vs.length = 6 ∧ (s.heap.objs.size + 1, oc) ∈ base ∧ l ≠ Sm := by
    refine ⟨_, [Value.ref D1, Value.ref D2, Value.ref D3, Value.ref D4, Value.ref D5, Value.ref D6], least_pack N₂, fun j v hv => ?_, trivial, ?_, rfl, ?_, ?_⟩
    · match j, hv with
      | 5, hv => exact ⟨_, _, _, _, (2, 1, 0), (Option.some.inj hv).symm, rfl, .head _⟩
      | 4, hv => exact ⟨_, _, _, _, (2, 0, 1), (Option.some.inj hv).symm, rfl, .tail _ (.head _)⟩
      | 3, hv => exact ⟨_, _, _, _, (1, 2, 0), (Option.some.inj hv).symm, rfl, .tail _ (.tail _ (.head _))⟩
      | 2, hv => exact ⟨_, _, _, _, (1, 0, 2), (Option.some.inj hv).symm, rfl, .tail _ (.tail _ (.tail _ (.head _)))⟩
      | 1, hv => exact ⟨_, _, _, _, (0, 2, 1), (Option.some.inj hv).symm, rfl, .tail _ (.tail _ (.tail _ (.tail _ (.head _))))⟩
      | 0, hv => exact ⟨_, _, _, _, (0, 1, 2), (Option.some.inj hv).symm, rfl, .tail _ (.tail _ (.tail _ (.tail _ (.tail _ (.head _)))))⟩
      | j + 6, hv => simp at hv
    · have e0 : @LT.lt Nat _ (s.heap.objs.size + 1) Sm := l0
      have e1 : @LT.lt Nat _ Sm D1 := l1.1
      have e2 : @LT.lt Nat _ Sm D2 := l2.2.1
      have e3 : @LT.lt Nat _ Sm D3 := l3.2.2.1
      have e4 : @LT.lt Nat _ Sm D4 := l4.2.2.2.1
      have e5 : @LT.lt Nat _ Sm D5 := l5.2.2.2.2.1
      have e6 : @LT.lt Nat _ Sm D6 := l6.2.2.2.2.2.1
      intro p hp
      simp only [List.mem_cons, List.not_mem_nil, or_false] at hp
      rcases hp with rfl | rfl | rfl | rfl | rfl | rfl | rfl
      · exact Nat.ne_of_gt e6
      · exact Nat.ne_of_gt e5
      · exact Nat.ne_of_gt e4
      · exact Nat.ne_of_gt e3
      · exact Nat.ne_of_gt e2
      · exact Nat.ne_of_gt e1
      · exact Nat.ne_of_lt e0
    · exact .tail _ (.tail _ (.tail _ (.tail _ (.tail _ (.tail _ (.head _))))))
    · have e7 : @LT.lt Nat _ Sm l := l7.2.2.2.2.2.2.1
      exact Nat.ne_of_gt e7
  clear F₂ N₂ hb0 hoc
  refine start_list F₂' N₂' (News.isList N₂' (.tail _ (.head _))) fun I own s₁ hlI st F₃ N₃ off₃ S₃ Ex₃ => ?_
  refine for_walk (iter_list ?hh _ I l vs hlI) (LeastJ ns ms sz U D Sm ((l, lstO vs.toArray 0) :: base)) ?hB st F₃ N₃ off₃ ⟨none, none, none, none, [], 0, rfl, rfl, .nil⟩ ?turn ?done
  case hh => exact hh
  case hB =>
    rintro j h m news ⟨oi, oj, ok, ow, ys, n, rfl, rfl, hys⟩ F N
    exact News.isList N (.tail _ (.head _))
  case turn =>
    rintro j v extra own m news s₉ hj ⟨hv, rfl⟩ ⟨oi, oj, ok, ow, ys, n, rfl, rfl, hys⟩ F N off offx hlts S
    obtain ⟨Tp, t1, t2, t3, p, rfl, hp, hmem⟩ := hvs j v hv
    obtain ⟨p1, p2, p3⟩ := p
    have hp3 := perms3_lt _ (List.mem_of_getElem? hp)
    dsimp only at hmem hp3
    obtain ⟨tu0, hu0⟩ := ints_at hus (i := 0) (by omega)
    obtain ⟨tu1, hu1⟩ := ints_at hus (i := 1) (by omega)
    obtain ⟨tu2, hu2⟩ := ints_at hus (i := 2) (by omega)
    obtain ⟨td1, hd1⟩ := ints_at hds (i := p1) (by omega)
    obtain ⟨td2, hd2⟩ := ints_at hds (i := p2) (by omega)
    obtain ⟨td3, hd3⟩ := ints_at hds (i := p3) (by omega)
    simp only [List.nil_append] at N
    refine assign_triple hh F N (List.mem_append_left _ (.tail _ (.tail _ hmem))) (fun h₄ F₄ N₄ => ?_) ?ha ?hb ?hc ?hd
    case ha => rfl
    case hb => rfl
    case hc => rfl
    case hd => rfl
    have hU₄ := isList_keep hU F₄.keep
    have hD₄ := isList_keep hD F₄.keep
    clear F N
    iterate 12 (first | (k_unfold; (try dsimp only)) | (k_end; wrow_close) | walk1 | (dsimp only; walk1) | (leave1; walk_say "STEP leave1"; try dsimp only))
    refine sub_at hU₄ hu0 (by decide) ?_
    iterate 3 (first | (k_unfold; (try dsimp only)) | (k_end; wrow_close) | walk1 | (dsimp only; walk1) | (leave1; walk_say "STEP leave1"; try dsimp only))
    refine sub_at hD₄ hd1 (by omega) ?_
    iterate 6 (first | (k_unfold; (try dsimp only)) | (k_end; wrow_close) | walk1 | (dsimp only; walk1) | (leave1; walk_say "STEP leave1"; try dsimp only))
    iterate 6 (first | (k_unfold; (try dsimp only)) | (k_end; wrow_close) | walk1 | (dsimp only; walk1) | (leave1; walk_say "STEP leave1"; try dsimp only))
    refine sub_at hU₄ hu1 (by decide) ?_
    iterate 3 (first | (k_unfold; (try dsimp only)) | (k_end; wrow_close) | walk1 | (dsimp only; walk1) | (leave1; walk_say "STEP leave1"; try dsimp only))
    refine sub_at hD₄ hd2 (by omega) ?_
    iterate 6 (first | (k_unfold; (try dsimp only)) | (k_end; wrow_close) | walk1 | (dsimp only; walk1) | (leave1; walk_say "STEP leave1"; try dsimp only))
    iterate 6 (first | (k_unfold; (try dsimp only)) | (k_end; wrow_close) | walk1 | (dsimp only; walk1) | (leave1; walk_say "STEP leave1"; try dsimp only))
    refine sub_at hU₄ hu2 (by decide) ?_
    iterate 3 (first | (k_unfold; (try dsimp only)) | (k_end; wrow_close) | walk1 | (dsimp only; walk1) | (leave1; walk_say "STEP leave1"; try dsimp only))
    refine sub_at hD₄ hd3 (by omega) ?_
    iterate 6 (first | (k_unfold; (try dsimp only)) | (k_end; wrow_close) | walk1 | (dsimp only; walk1) | (leave1; walk_say "STEP leave1"; try dsimp only))
    rename Fr _ _ _ _ => F₅
    rename News _ _ _ _ => N₅
    iterate 12 (first | (k_unfold; (try dsimp only)) | (k_end; wrow_close) | walk1 | (dsimp only; walk1) | (leave1; walk_say "STEP leave1"; try dsimp only))
    refine comp_eval [(Str.ofString "size", s.heap.objs.size + 1)] ?q1 ?q2 ?q3 ?_
    case q1 => rfl
    case q2 => rfl
    case q3 => decide
    (first | (k_unfold; (try dsimp only)) | (k_end; wrow_close) | walk1 | (dsimp only; walk1) | (leave1; walk_say "STEP leave1"; try dsimp only))
    obtain ⟨wv, hways, N₅'⟩ : ∃ wv : List Value, IntsAre wv (waysOf ns ms (p1, p2, p3)) ∧ News s.heap s.heap.objs.size _ ((_, lstO wv.toArray 0) :: ((Sm, lstO ys.toArray n) :: (l, lstO vs.toArray 0) :: base ++ own)) := ⟨_, .cons _ _ (.cons _ _ (.cons _ _ .nil)), N₅⟩
    refine start_list F₅ N₅' (News.isList N₅' (.head _)) fun I₂ own₂ s₁₀ hI₂ st₂ F₆ N₆ off₆ S₆ Ex₆ => ?_
    refine comp_block (iter_list ?hh2 _ I₂ _ _ hI₂) (fun h _ hn => ⟨_, hn _ (.head _), rfl, _, rfl⟩) (fun _ => trivial) (fun _ _ _ _ _ => trivial) ?hsz2 ?hcell2 ?hkind2
      (fun j ys => IntsAre ys (((waysOf ns ms (p1, p2, p3)).take j).map fun x => minI x (sz - x))) st₂ F₆ N₆ off₆ .nil (fun j ys hj => ?hlen2) ?turn2 ?done2
    case hh2 => exact hh
    case hsz2 => rw [ints_len hways, sizeLine_eq]; exact (by decide : (3 : Nat) ≤ 16777216)
    case hcell2 => decide
    case hkind2 => rfl
    case hlen2 => rw [ints_len hj, List.length_map, List.length_take]; exact Nat.min_le_left _ _
    case turn2 =>
      rintro j2 v2 extra rest ys₂ C mC s₁₁ hj2 ⟨hv2, rfl⟩ hys2 F N S2
      obtain ⟨y, ty, rfl, hy⟩ := ints_get hways hv2
      refine assign_nm F N (fun h₇ F₇ N₇ => ?_) ?ha ?hb
      case ha => rfl
      case hb => rfl
      rw [List.forIn_nil]
      refine wpAny_pure ?_
      rw [if_pos rfl]
      clear F N
      iterate 4 (first | (k_unfold; (try dsimp only)) | (k_end; wrow_close) | walk1 | (dsimp only; walk1) | (leave1; walk_say "STEP leave1"; try dsimp only))
      refine name_l F₇ (v := .int y ty) ?e1 ?e2 ?e3 ?_
      case e1 => rfl
      case e2 => rfl
      case e3 => rfl
      iterate 2 (first | (k_unfold; (try dsimp only)) | (k_end; wrow_close) | walk1 | (dsimp only; walk1) | (leave1; walk_say "STEP leave1"; try dsimp only))
      refine name_c (L := C) N₇ (c := s.heap.objs.size + 1) (o := oc) (List.mem_append_left _ (.tail _ (List.mem_append_left _ (.tail _ (.tail _ hcell))))) hoc' ?e1 ?e2 ?e3 ?_
      case e1 => rfl
      case e2 => rfl
      case e3 => rfl
      refine name_l F₇ (v := .int y ty) ?e1 ?e2 ?e3 ?_
      case e1 => rfl
      case e2 => rfl
      case e3 => rfl
      iterate 2 (first | (k_unfold; (try dsimp only)) | (k_end; wrow_close) | walk1 | (dsimp only; walk1) | (leave1; walk_say "STEP leave1"; try dsimp only))
      refine min_two_N hh F₇ N₇ fun h₈ tk₈ F₈ N₈ => ?_
      refine ⟨?_, ⟨_, F₈⟩, N₈, ⟨rfl, _root_.id⟩, trivial⟩
      rw [List.take_add_one, hy, List.map_append]
      exact hys2.append (.cons _ _ .nil)
    case done2 =>
      intro D₂ C ys₂ s' mC hys2 F N hlt nC hCD hCL hC0 hCn S₂
      refine comp_done F N nC hCD hCL hC0 hCn S₂ fun s'' F₁₀ N₁₀ S₁₀ => ?_
      clear F N
      rw [List.take_of_length_le (by rw [ints_len hways]; exact Nat.le_refl _)] at hys2
      iterate 1 (first | (k_unfold; (try dsimp only)) | (k_end; wrow_close) | walk1 | (dsimp only; walk1) | (leave1; walk_say "STEP leave1"; try dsimp only))
      refine sumK hh F₁₀ N₁₀ (News.isList N₁₀ (.head _)) hys2 fun h₁₁ tk₁₁ t₁₁ F₁₁ N₁₁ => ?_
      iterate 1 (first | (k_unfold; (try dsimp only)) | (k_end; wrow_close) | walk1 | (dsimp only; walk1) | (leave1; walk_say "STEP leave1"; try dsimp only))
      have zS := N₁₁ (Sm, lstO ys.toArray n) (.tail _ (.tail _ (.head _)))
      have hyl : ys.length ≤ 6 := by
        rw [ints_len hys, List.length_map, List.length_take]
        exact Nat.le_trans (Nat.min_le_right _ _) (by decide)
      refine append_at zS.1 (fun h₁₂ hs₁₂ hD₁₂ => ?_) ?hsz
      case hsz => show ys.toArray.size ≤ sizeLine; rw [List.size_toArray, sizeLine_eq]; omega
      refine wpAny_execs_nil ?_
      rw [List.push_toArray] at hD₁₂
      refine ⟨_, (Sm, lstO (ys ++ [Value.int (costOf ns ms sz (p1, p2, p3)) t₁₁]).toArray (n + 1)) :: (l, lstO vs.toArray 0) :: base, fr_eqm (F₁₁.change hs₁₂ zS.2.1 zS.2.2) (by funext y; by_cases e0 : y = Str.ofString "ways"; (subst e0; rfl); by_cases e1 : y = Str.ofString "k"; (subst e1; rfl); by_cases e2 : y = Str.ofString "j"; (subst e2; rfl); by_cases e3 : y = Str.ofString "i"; (subst e3; rfl); by_cases e4 : y = Str.ofString "sums"; (subst e4; rfl); by_cases e5 : y = Str.ofString "downs"; (subst e5; rfl); by_cases e6 : y = Str.ofString "ups"; (subst e6; rfl); have b0 : (y == Str.ofString "ways") = false := (by simpa using e0); have b1 : (y == Str.ofString "k") = false := (by simpa using e1); have b2 : (y == Str.ofString "j") = false := (by simpa using e2); have b3 : (y == Str.ofString "i") = false := (by simpa using e3); have b4 : (y == Str.ofString "sums") = false := (by simpa using e4); have b5 : (y == Str.ofString "downs") = false := (by simpa using e5); have b6 : (y == Str.ofString "ups") = false := (by simpa using e6); simp [List.lookup, e0, b0, e1, b1, e2, b2, e3, b3, e4, b4, e5, b5, e6, b6, leastMap]), ?_, off, ⟨some (.int p1 t1), some (.int p2 t2), some (.int p3 t3), some (.ref _), _, n + 1, rfl, rfl, ?_⟩, ⟨S₁₀.os.trans S₆.os, fun b => S₁₀.bare (S₆.bare b)⟩, trivial⟩
      · intro p hp
        rcases List.mem_cons.mp hp with rfl | hp
        · exact ⟨hD₁₂, zS.2⟩
        · have z := N₁₁ p (.tail _ (.tail _ (.tail _ hp)))
          refine ⟨hs₁₂.extBut _ _ ?_ z.1, z.2⟩
          rcases List.mem_append.mp hp with hp | hp
          · rcases List.mem_cons.mp hp with rfl | hp
            · exact hbS'
            · exact hbS p hp
          · exact off p hp Sm (.head _)
      · rw [List.take_add_one, hp, List.map_append]
        exact hys.append (.cons _ _ .nil)
  case done =>
    rintro m news s' ⟨oi, oj, ok, ow, ys, n, rfl, rfl, hys⟩ F N S
    iterate 8 (first | (k_unfold; (try dsimp only)) | (k_end; wrow_close) | walk1 | (dsimp only; walk1) | (leave1; walk_say "STEP leave1"; try dsimp only))
    rw [hlen] at hys
    refine kso_min F N (News.isList N (.head _)) hys (by rw [List.length_map]; decide) hh fun h₅ M t₅ tk₅ F₅ N₅ hM hmin => ?_
    exact h _ M t₅ ⟨F₅.keep, S.os.trans S₃.os, fun b => S.bare (S₃.bare b)⟩ hM hmin
end Mine

end

section
open PySem PySem.W PyProof.Rows PySem.Calls
set_option maxRecDepth 100000
set_option linter.all false
namespace Mine
theorem warm13 (w : World) (h : Heap) (X : (hd.heap_39 w.params).In h) : Challenge.rw_wo0010_01.prog = Challenge.rw_wo0010_01.prog := by revert X; k_fill; intro _; rfl
abbrev marksMap (P Mk : Addr) (od of oc ofl ok ot orr oe : Option Value) : Str → Option Value :=
  (fun y => if y = Str.ofString "end" then oe else if y = Str.ofString "rows" then orr else if y = Str.ofString "told" then ot else if y = Str.ofString "kept" then ok else if y = Str.ofString "field" then ofl else if y = Str.ofString "c" then oc else if y = Str.ofString "fields" then of else if y = Str.ofString "deep" then od else if y = Str.ofString "marks" then some (.ref Mk) else if y = Str.ofString "parts" then some (.ref P) else none)
def fieldAt (ms ps : List Str) (deep : Int) (c : Nat) : Str :=
  (((ms.getD c Str.empty ++ Txt.mul (Str.ofString "(") deep) ++ Txt.join (Str.ofString "") (ps.drop c ++ ps.take c)) ++ Txt.mul (Str.ofString "\"") (deep.fdiv 2)) ++ Txt.mul (Str.ofString ")") deep
def lastField (ms : List Str) (deep : Int) : Str := (ms.getD 6 Str.empty ++ Str.ofString "(((") ++ Txt.mul (Str.ofString ")") (deep + 1)
def fieldsUp (ms ps : List Str) (deep : Int) (j : Nat) : List Str := (List.range j).map (fieldAt ms ps deep)
def fieldsOf (ms ps : List Str) (deep : Int) : List Str := fieldsUp ms ps deep 6 ++ [lastField ms deep]
def endAt (c : Nat) : Str := Txt.mul (Str.ofString "\r") ((c % 2 : Nat) : Int)
structure Fate (row field m m' : Str) (c : Nat) : Prop where
  fate : (row = Str.ofString "." ++ field ++ endAt c ∧ m' = m ++ Str.ofString ".") ∨ (row ≠ Str.ofString "." ++ field ++ endAt c ∧ row = Str.ofString "('', '')" ++ endAt c ∧ m' = m)
structure Round (ps ms ms' : List Str) (deep : Int) : Prop where
  len : (sentOut (toldS ((fieldsOf ms ps deep).map prep))).length = 7
  each : ∀ c, c < 7 → Fate ((sentOut (toldS ((fieldsOf ms ps deep).map prep))).getD c Str.empty) ((fieldsOf ms ps deep).getD c Str.empty) (ms.getD c Str.empty) (ms'.getD c Str.empty) c
def MarksJ (ms : Nat → List Str) (P Mk : Addr) (base : Led) (j : Nat) (m : Str → Option Value) (news : Led) : Prop :=
  ∃ od of oc ofl ok ot orr oe mv n oM, m = marksMap P Mk od of oc ofl ok ot orr oe ∧ news = (Mk, oM) :: base ∧ oM.cls = .type "list" ∧ oM.data = .seq (mv : List Value).toArray n ∧ StrsAre mv (ms j)
def FieldsJ (ms ps : List Str) (P Mk Fl : Addr) (y : Int) (ty : Tok) (ok ot orr oe : Option Value) (base : Led) (j : Nat) (m : Str → Option Value) (news : Led) : Prop :=
  ∃ oc ofl fv n, m = marksMap P Mk (some (.int y ty)) (some (.ref Fl)) oc ofl ok ot orr oe ∧ news = (Fl, lstO (fv : List Value).toArray n) :: base ∧ StrsAre fv (fieldsUp ms ps y j)
theorem strs_at {vs : List Value} {ss : List Str} (h : StrsAre vs ss) {i : Nat} (hi : i < ss.length) : ∃ t, vs[i]? = some (.str (ss.getD i Str.empty) t) := by
  have hl : i < vs.length := by rw [strs_len h]; exact hi
  obtain ⟨y, t, e, hy⟩ := strs_get h (List.getElem?_eq_getElem hl)
  refine ⟨t, ?_⟩
  rw [List.getElem?_eq_getElem hl, e, List.getD_eq_getElem?_getD, hy]; rfl
theorem getD_len {ss : List Str} {n : Nat} (h : ∀ x ∈ ss, Asc x ∧ x.length ≤ n) {i : Nat} : (ss.getD i Str.empty).length ≤ n := by
  rw [List.getD_eq_getElem?_getD]
  cases e : ss[i]? with
  | none => exact Nat.zero_le _
  | some x => exact (h x (List.mem_of_getElem? e)).2
theorem getD_asc {ss : List Str} {n : Nat} (h : ∀ x ∈ ss, Asc x ∧ x.length ≤ n) {i : Nat} : Asc (ss.getD i Str.empty) := by
  rw [List.getD_eq_getElem?_getD]
  cases e : ss[i]? with
  | none => exact (asc_iff _).mpr (by intro c hc; simp [Str.empty] at hc)
  | some x => exact (h x (List.mem_of_getElem? e)).1
section
variable {prog : Program} {w : World} {A : Around} {E : Value → Shared → Prop} {s : Shared} {h₀ : Heap} {L : Addr} {m : Str → Option Value} {news : Led}
theorem strs_drop {vs : List Value} {ss : List Str} (h : StrsAre vs ss) : ∀ n, StrsAre (vs.drop n) (ss.drop n) := by
  induction h with
  | nil => intro n; simp; exact .nil
  | cons z u r ih =>
    intro n
    cases n with
    | zero => exact .cons z u r
    | succ n => exact ih n
theorem slice_from_strs {value slice : PySem.Expr} {l : Addr} {vs : List Value} {ss : List Str} {k : Nat} {t : Tok} {Q : Value → Shared → Prop}
    (F : Fr h₀ L s.heap m) (N : News h₀ L s.heap news) (hl : s.heap.IsList l vs.toArray) (hvs : StrsAre vs ss) (hk : k ≤ ss.length) (hsz : vs.length ≤ sizeLine)
    (h : ∀ h' D ws, Fr h₀ L h' m → News h₀ L h' ((D, lstO (ws : List Value).toArray 0) :: news) → StrsAre ws (ss.drop k) → Q (.ref D) { s with heap := h' })
    (hs : subscripted slice false (.ref l) (.ref s.heap.objs.size) = operate [.ref s.heap.objs.size, .ref l] (getItem (.ref l) (.ref s.heap.objs.size)))
    (ht : ∀ r, letTemporaryGo value (.ref l) r = pure ()) :
    wpAny (model prog w) A (subscriptTail value slice (.ref l) (.ref s.heap.objs.size)) Q E { s with heap := s.heap.push { cls := .type "slice", data := .fields #[.int k t, .none, .none] } } := by
  refine slice_list F N hl (.int k t) .none (fun h' F' N' => ?_) hs ht (by rw [List.size_toArray]; exact hsz)
  rw [slicePick_from vs.toArray k (by rw [List.size_toArray, strs_len hvs]; exact hk)] at N'
  exact h h' _ _ F' N' (strs_drop hvs k)
theorem slice_upto_strs {value slice : PySem.Expr} {l : Addr} {vs : List Value} {ss : List Str} {k : Nat} {t : Tok} {Q : Value → Shared → Prop}
    (F : Fr h₀ L s.heap m) (N : News h₀ L s.heap news) (hl : s.heap.IsList l vs.toArray) (hvs : StrsAre vs ss) (hk : k ≤ ss.length) (hsz : vs.length ≤ sizeLine)
    (h : ∀ h' D ws, Fr h₀ L h' m → News h₀ L h' ((D, lstO (ws : List Value).toArray 0) :: news) → StrsAre ws (ss.take k) → Q (.ref D) { s with heap := h' })
    (hs : subscripted slice false (.ref l) (.ref s.heap.objs.size) = operate [.ref s.heap.objs.size, .ref l] (getItem (.ref l) (.ref s.heap.objs.size)))
    (ht : ∀ r, letTemporaryGo value (.ref l) r = pure ()) :
    wpAny (model prog w) A (subscriptTail value slice (.ref l) (.ref s.heap.objs.size)) Q E { s with heap := s.heap.push { cls := .type "slice", data := .fields #[.none, .int k t, .none] } } := by
  refine slice_list F N hl .none (.int k t) (fun h' F' N' => ?_) hs ht (by rw [List.size_toArray]; exact hsz)
  rw [slicePick_upto vs.toArray k (by rw [List.size_toArray, strs_len hvs]; exact hk)] at N'
  exact h h' _ _ F' N' (strs_take hvs k)
end
theorem join_sum {qs : List Str} (h : ∀ x ∈ qs, Asc x ∧ x.length ≤ 20) : (qs.map (·.length)).sum + qs.length * (Str.ofString "").length ≤ qs.length * 20 := by
  have h1 := sum_le (fun x hx => (h x hx).2)
  have h2 : (Str.ofString "").length = 0 := rfl
  rw [h2, Nat.mul_zero, Nat.add_zero]
  exact h1
theorem asc_join {qs : List Str} (h : ∀ x ∈ qs, Asc x) : Asc (Txt.join (Str.ofString "") qs) := by
  refine (asc_iff _).mpr fun c hc => ?_
  rw [join_list_eq] at hc
  obtain ⟨r, hr, hc⟩ := List.mem_flatMap.mp hc
  exact (asc_iff r).mp (h r hr) c hc
theorem asc_mul {x : Str} (hx : x = Str.ofString "(" ∨ x = Str.ofString ")" ∨ x = Str.ofString "\"") {y : Int} (h : 0 ≤ y ∧ y ≤ 3) : Asc (Txt.mul x y) ∧ (Txt.mul x y).length ≤ 3 := by
  have : y = 0 ∨ y = 1 ∨ y = 2 ∨ y = 3 := by omega
  rcases hx with rfl | rfl | rfl <;> rcases this with rfl | rfl | rfl | rfl <;> decide +kernel
theorem fields_ok {ps ms : List Str} {y : Int} (hp : ∀ x ∈ ps, Asc x ∧ x.length ≤ 20) (hpn : ps.length = 6) (hb : ms.length = 7 ∧ ∀ x ∈ ms, Asc x ∧ x.length ≤ 10) (hyb : 0 ≤ y ∧ y ≤ 2) :
    ∀ x ∈ fieldsOf ms ps y, Asc x ∧ x.length ≤ 1000 := by
  intro x hx
  have hfd : 0 ≤ y.fdiv 2 ∧ y.fdiv 2 ≤ 1 := by rw [Int.fdiv_eq_ediv_of_nonneg _ (by decide)]; omega
  have a1 := asc_mul (.inl rfl) (y := y) (by omega)
  have a2 := asc_mul (.inr (.inl rfl)) (y := y) (by omega)
  have a3 := asc_mul (.inr (.inr rfl)) (y := y.fdiv 2) (by omega)
  have a4 := asc_mul (.inr (.inl rfl)) (y := y + 1) (by omega)
  rcases List.mem_append.mp hx with hx | hx
  · obtain ⟨c, hc, rfl⟩ := List.mem_map.mp hx
    have hrp : ∀ x ∈ ps.drop c ++ ps.take c, Asc x ∧ x.length ≤ 20 := fun x hx => (List.mem_append.mp hx).elim (fun h => hp x (List.mem_of_mem_drop h)) (fun h => hp x (List.mem_of_mem_take h))
    have hc6 := List.mem_range.mp hc
    have hrn : (ps.drop c ++ ps.take c).length = 6 := by rw [List.length_append, List.length_drop, List.length_take]; omega
    have hjl : (Txt.join (Str.ofString "") (ps.drop c ++ ps.take c)).length ≤ 120 := by
      have h1 := join_len (ps.drop c ++ ps.take c)
      have h2 := sum_le (fun x hx => (hrp x hx).2)
      omega
    have hm := getD_len hb.2 (i := c)
    refine ⟨asc_app (asc_app (asc_app (asc_app (getD_asc hb.2) a1.1) (asc_join fun x hx => (hrp x hx).1)) a3.1) a2.1, ?_⟩
    unfold fieldAt
    rw [Str.length_append, Str.length_append, Str.length_append, Str.length_append]
    omega
  · rw [List.mem_singleton.mp hx]
    have hm := getD_len hb.2 (i := 6)
    refine ⟨asc_app (asc_app (getD_asc hb.2) (by decide +kernel)) a4.1, ?_⟩
    unfold lastField
    rw [Str.length_append, Str.length_append]
    have : (Str.ofString "(((").length = 3 := rfl
    omega
theorem prep_ok {fs : List Str} (h : ∀ x ∈ fs, Asc x ∧ x.length ≤ 1000) : ∀ x ∈ fs.map prep, Asc x ∧ x.length ≤ 1000 := by
  intro x hx
  obtain ⟨z, hz, rfl⟩ := List.mem_map.mp hx
  unfold prep
  split
  · exact h z hz
  · exact ⟨by decide +kernel, by decide⟩
theorem news_cons {h₀ h : Heap} {L : Addr} {news : Led} {a : Addr} {o : Obj} (N : News h₀ L h news) (ho : h.get? a = some o) (hn : a ≠ L ∧ h₀.get? a = none) : News h₀ L h ((a, o) :: news) := fun p hp => by
  rcases List.mem_cons.mp hp with rfl | hp
  · exact ⟨ho, hn⟩
  · exact N p hp
theorem marks_pack2 {h₀ h : Heap} {L a1 a2 a3 a4 a5 a6 : Addr} {o1 o2 o3 o4 o5 o6 : Obj} {own : Led} (N : News h₀ L h ((a1, o1) :: (a2, o2) :: (a3, o3) :: (a4, o4) :: ([(a5, o5), (a6, o6)] ++ own))) : News h₀ L h ((a5, o5) :: (a1, o1) :: (a4, o4) :: (a6, o6) :: own) := fun p hp => N p (by
  simp only [List.mem_cons, List.mem_append, List.not_mem_nil, or_false] at hp ⊢
  rcases hp with h | h | h | h | h <;> simp [h])
theorem marks_pack3 {h₀ h : Heap} {L a1 a2 a3 a4 : Addr} {o1 o2 o3 o4 : Obj} {own : Led} (N : News h₀ L h ((a1, o1) :: (a2, o2) :: (a3, o3) :: (a4, o4) :: own)) : News h₀ L h ([(a1, o1), (a4, o4)] ++ own) := fun p hp => N p (by
  simp only [List.cons_append, List.nil_append, List.mem_cons] at hp ⊢
  rcases hp with h | h | h <;> simp [h])
def RowsJ (ms ms' : List Str) (P Mk Fl Lt Lr : Addr) (y : Int) (ty : Tok) (ofl ok : Option Value) (base : Led) (j : Nat) (m : Str → Option Value) (news : Led) : Prop :=
  ∃ oc oe mv n oM, m = marksMap P Mk (some (.int y ty)) (some (.ref Fl)) oc ofl ok (some (.ref Lt)) (some (.ref Lr)) oe ∧ news = (Mk, oM) :: base ∧ oM.cls = .type "list" ∧ oM.data = .seq (mv : List Value).toArray n ∧ StrsAre mv (ms'.take j ++ ms.drop j)
theorem strs_set {vs : List Value} {ss : List Str} (h : StrsAre vs ss) : ∀ (i : Nat) (k : Str) (t : Tok), StrsAre (vs.set i (.str k t)) (ss.set i k) := by
  induction h with
  | nil => intro i k t; exact .nil
  | cons z u hr ih =>
    intro i k t
    cases i with
    | zero => exact .cons k t hr
    | succ i => exact .cons z u (ih i k t)
theorem mixed_get (xs zs : List Str) (d : Str) : ∀ c, c ≤ xs.length → (xs.take c ++ zs.drop c).getD c d = zs.getD c d := fun c hc => by
  rw [List.getD_eq_getElem?_getD, List.getD_eq_getElem?_getD, List.getElem?_append_right (by rw [List.length_take]; omega), List.length_take, Nat.min_eq_left hc, Nat.sub_self, List.getElem?_drop, Nat.add_zero]
theorem mixed_set (xs zs : List Str) (c : Nat) (hx : c < xs.length) (hz : c < zs.length) : (xs.take c ++ zs.drop c).set c (xs.getD c Str.empty) = xs.take (c + 1) ++ zs.drop (c + 1) := by
  have hl : (xs.take c).length = c := by rw [List.length_take]; omega
  rw [List.set_append_right _ _ (by omega), hl, Nat.sub_self, List.drop_eq_getElem_cons hz, List.set_cons_zero, List.getD_eq_getElem?_getD, List.getElem?_eq_getElem hx]
  have e : xs.take (c + 1) = xs.take c ++ [xs[c]] := List.take_succ_eq_append_getElem hx
  rw [e, List.append_assoc]
  rfl
theorem mixed_same (xs zs : List Str) (c : Nat) (hx : c < xs.length) (hz : c < zs.length) (h : xs.getD c Str.empty = zs.getD c Str.empty) : xs.take c ++ zs.drop c = xs.take (c + 1) ++ zs.drop (c + 1) := by
  rw [List.getD_eq_getElem?_getD, List.getElem?_eq_getElem hx, List.getD_eq_getElem?_getD, List.getElem?_eq_getElem hz] at h
  have h' : xs[c] = zs[c] := h
  rw [List.drop_eq_getElem_cons hz, List.take_succ_eq_append_getElem hx, h']
  simp
theorem marks_pack {h₀ h : Heap} {L a1 a2 a3 : Addr} {o1 o2 o3 : Obj} (N : News h₀ L h [(a1, o1), (a2, o2), (a3, o3)]) : News h₀ L h [(a2, o2), (a1, o1)] := fun p hp => N p (by
  simp only [List.mem_cons, List.not_mem_nil, or_false] at hp ⊢
  rcases hp with h | h <;> simp [h])
def deepAt (j : Nat) : Int := ([2, 1, 0] : List Int).getD j 0
set_option maxHeartbeats 4000000 in
theorem marks_c {w : World} {A : Around} {s : Shared} {P : Addr} {pv : List Value} {ps : List Str} {Q E : Value → Shared → Prop} {mean mg mb} (hP : s.heap.IsList P pv.toArray) (hpv : StrsAre pv ps)
  (hp : ∀ x ∈ ps, Asc x ∧ x.length ≤ 20) (hpn : ps.length = 6) (ms : Nat → List Str) (hms0 : ms 0 = List.replicate 7 (Str.ofString ".")) (hmsb : ∀ j, j ≤ 3 → (ms j).length = 7 ∧ ∀ x ∈ ms j, Asc x ∧ x.length ≤ 10)
  (hround : ∀ j, j < 3 → Round ps (ms j) (ms (j + 1)) (deepAt j))
  (X : (hd.heap_39 w.params).In s.heap) (T : Top hd.view_39 LO mean mg mb s.heap) (hh : A.handled = none) (hr : A.depth + 60 < recursionLimit) (hu : A.units + 200 < cLine)
  (h : ∀ s' l c cs, Ext s s' → s.heap.get? l = none → s'.heap.get? l = some (lstO (cs : List Value).toArray c) → IntsAre cs ((ms 3).map fun m => (m.length : Int)) → Q (.ref l) s') :
  wpAny (model TP w) A (call (.ref 100) [.ref P]) Q E s := by
  refine call_plainK [(Str.ofString "parts", .ref P)] X T.nolimit (by omega) (by k_dflt k_is) (by k_dflt k_is) rfl rfl ?_
  intro h₁ F
  have N : News s.heap s.heap.objs.size h₁ [] := News.nil
  iterate 11 (first | (k_unfold; (try dsimp only)) | (k_end; wrow_close) | walk1 | (dsimp only; walk1) | (leave1; walk_say "STEP leave1"; try dsimp only))
  refine wpAny_execs_cons ?_
  refine wpAny_For ?_ ?hs
  case hs => intro x; unfold foldedSetIterable; rfl
  iterate 9 (first | (k_unfold; (try dsimp only)) | (k_end; wrow_close) | walk1 | (dsimp only; walk1) | (leave1; walk_say "STEP leave1"; try dsimp only))
  rename Fr _ _ _ _ => F₂
  rename News _ _ _ _ => N₂
  rename_i g1 g2 g3 Mk g4 g5 g6 L3 g7 hML
  have F₂' : Fr s.heap s.heap.objs.size g7 (marksMap P Mk none none none none none none none none) := fr_eqm F₂ (by funext y; by_cases e0 : y = Str.ofString "end"; (subst e0; rfl); by_cases e1 : y = Str.ofString "rows"; (subst e1; rfl); by_cases e2 : y = Str.ofString "told"; (subst e2; rfl); by_cases e3 : y = Str.ofString "kept"; (subst e3; rfl); by_cases e4 : y = Str.ofString "field"; (subst e4; rfl); by_cases e5 : y = Str.ofString "c"; (subst e5; rfl); by_cases e6 : y = Str.ofString "fields"; (subst e6; rfl); by_cases e7 : y = Str.ofString "deep"; (subst e7; rfl); by_cases e8 : y = Str.ofString "marks"; (subst e8; rfl); by_cases e9 : y = Str.ofString "parts"; (subst e9; rfl); have b0 : (y == Str.ofString "end") = false := (by simpa using e0); have b1 : (y == Str.ofString "rows") = false := (by simpa using e1); have b2 : (y == Str.ofString "told") = false := (by simpa using e2); have b3 : (y == Str.ofString "kept") = false := (by simpa using e3); have b4 : (y == Str.ofString "field") = false := (by simpa using e4); have b5 : (y == Str.ofString "c") = false := (by simpa using e5); have b6 : (y == Str.ofString "fields") = false := (by simpa using e6); have b7 : (y == Str.ofString "deep") = false := (by simpa using e7); have b8 : (y == Str.ofString "marks") = false := (by simpa using e8); have b9 : (y == Str.ofString "parts") = false := (by simpa using e9); simp [List.lookup, e0, b0, e1, b1, e2, b2, e3, b3, e4, b4, e5, b5, e6, b6, e7, b7, e8, b8, e9, b9])
  obtain ⟨mv, lv, hmv, hlv, N₂'⟩ : ∃ (mv lv : List Value), StrsAre mv (ms 0) ∧ IntsAre lv [2, 1, 0] ∧ News s.heap s.heap.objs.size g7 [(Mk, lstO mv.toArray 0), (L3, lstO lv.toArray 0)] := by
    rw [hms0]
    exact ⟨_, _, .cons _ _ (.cons _ _ (.cons _ _ (.cons _ _ (.cons _ _ (.cons _ _ (.cons _ _ .nil)))))), .cons _ _ (.cons _ _ (.cons _ _ .nil)), marks_pack N₂⟩
  clear F₂ N₂
  refine start_list F₂' N₂' (News.isList N₂' (.tail _ (.head _))) fun I own s₁ hlI st F₃ N₃ off₃ S₃ Ex₃ => ?_
  refine for_walk (iter_list ?hh _ I L3 lv hlI) (MarksJ ms P Mk [(L3, lstO lv.toArray 0)]) ?hB st F₃ N₃ off₃ ⟨none, none, none, none, none, none, none, none, mv, 0, _, rfl, rfl, rfl, rfl, hmv⟩ ?turn ?done
  case hh => exact hh
  case hB =>
    rintro j h m news ⟨od, of, oc, ofl, ok, ot, orr, oe, mv, n, oM, rfl, rfl, hcM, hdM, hmv⟩ F N
    exact News.isList N (.tail _ (.head _))
  case turn =>
    rintro j v extra own m news s₉ hj ⟨hv, rfl⟩ ⟨od, of, oc, ofl, ok, ot, orr, oe, mv, n, oM, rfl, rfl, hcM, hdM, hmv⟩ F N off offx hlts S
    obtain ⟨y, ty, rfl, hy⟩ := ints_get hlv hv
    simp only [List.nil_append] at N
    refine assign_nm F N (fun h₄ F₄ N₄ => ?_) ?ha ?hb
    case ha => rfl
    case hb => rfl
    clear F N
    iterate 7 (first | (k_unfold; (try dsimp only)) | (k_end; wrow_close) | walk1 | (dsimp only; walk1) | (leave1; walk_say "STEP leave1"; try dsimp only))
    refine wpAny_execs_cons ?_
    refine wpAny_For ?_ ?hs
    case hs => intro x; rfl
    iterate 7 (first | (k_unfold; (try dsimp only)) | (k_end; wrow_close) | walk1 | (dsimp only; walk1) | (leave1; walk_say "STEP leave1"; try dsimp only))
    rename Fr _ _ _ _ => F₅
    rename News _ _ _ _ => N₅
    rename IsRange _ _ _ _ _ _ _ _ => hrange
    rename_i Fl gh2 Fo1 No1 hFlt gh1 Fo2 No2 gh tk₅ t₅ u₅ v₅ ga
    clear Fo1 No1 Fo2 No2
    have hdeep : y = deepAt j := by rw [deepAt, List.getD_eq_getElem?_getD, hy]; rfl
    have hj3 : j < 3 := by rw [← show lv.length = 3 from ints_len hlv]; exact hj
    have hb := hmsb j (by omega)
    have hR := hround j hj3
    rw [← hdeep] at hR
    have hyb : 0 ≤ y ∧ y ≤ 2 := by
      have := List.mem_of_getElem? hy
      simp only [List.mem_cons, List.not_mem_nil, or_false] at this
      rcases this with h | h | h <;> omega
    clear hdeep hv hy
    have F₅' : Fr s.heap s.heap.objs.size gh (marksMap P Mk (some (.int y ty)) (some (.ref Fl)) oc ofl ok ot orr oe) := fr_eqm F₅ (by funext y; by_cases e0 : y = Str.ofString "end"; (subst e0; rfl); by_cases e1 : y = Str.ofString "rows"; (subst e1; rfl); by_cases e2 : y = Str.ofString "told"; (subst e2; rfl); by_cases e3 : y = Str.ofString "kept"; (subst e3; rfl); by_cases e4 : y = Str.ofString "field"; (subst e4; rfl); by_cases e5 : y = Str.ofString "c"; (subst e5; rfl); by_cases e6 : y = Str.ofString "fields"; (subst e6; rfl); by_cases e7 : y = Str.ofString "deep"; (subst e7; rfl); by_cases e8 : y = Str.ofString "marks"; (subst e8; rfl); by_cases e9 : y = Str.ofString "parts"; (subst e9; rfl); have b0 : (y == Str.ofString "end") = false := (by simpa using e0); have b1 : (y == Str.ofString "rows") = false := (by simpa using e1); have b2 : (y == Str.ofString "told") = false := (by simpa using e2); have b3 : (y == Str.ofString "kept") = false := (by simpa using e3); have b4 : (y == Str.ofString "field") = false := (by simpa using e4); have b5 : (y == Str.ofString "c") = false := (by simpa using e5); have b6 : (y == Str.ofString "fields") = false := (by simpa using e6); have b7 : (y == Str.ofString "deep") = false := (by simpa using e7); have b8 : (y == Str.ofString "marks") = false := (by simpa using e8); have b9 : (y == Str.ofString "parts") = false := (by simpa using e9); simp [List.lookup, e0, b0, e1, b1, e2, b2, e3, b3, e4, b4, e5, b5, e6, b6, e7, b7, e8, b8, e9, b9, marksMap])
    clear F₅
    refine start_range F₅' N₅ hrange (by decide) fun I₂ own₂ s₁₀ st₂ F₆ N₆ off₆ S₆ => ?_
    refine for_walk (iter_range ?hh _ I₂ 0 6) (FieldsJ (ms j) ps P Mk Fl y ty ok ot orr oe ([(Mk, oM), (L3, lstO lv.toArray 0)] ++ own)) (fun _ _ _ _ _ _ _ => trivial) st₂ F₆ N₆ off₆ ⟨oc, ofl, [], 0, rfl, rfl, .nil⟩ ?turn2 ?done2
    case hh => exact hh
    case turn2 =>
      rintro c v2 extra own2 m2 news2 s₁₁ hc ⟨⟨tc, hvc⟩, rfl⟩ ⟨oc, ofl, fv, n2, rfl, rfl, hfv⟩ F N off2 offx2 hlts2 S2
      rw [Int.zero_add] at hvc
      subst hvc
      simp only [List.nil_append] at N
      refine assign_nm F N (fun h₇ F₇ N₇ => ?_) ?ha ?hb
      case ha => rfl
      case hb => rfl
      clear F N
      iterate 8 (first | (k_unfold; (try dsimp only)) | (k_end; wrow_close) | walk1 | (dsimp only; walk1) | (leave1; walk_say "STEP leave1"; try dsimp only))
      obtain ⟨tm, hmc⟩ := strs_at hmv (i := c) (by omega)
      refine sub_at ⟨oM, (N₇ (Mk, oM) (.tail _ (.head _))).1, hcM, n, hdM⟩ hmc (by omega) ?_
      have hml : ((ms j).getD c Str.empty).length ≤ 10 := getD_len hb.2
      generalize hmk : (ms j).getD c Str.empty = mk at hmc hml ⊢
      iterate 3 (first | (k_unfold; (try dsimp only)) | (k_end; wrow_close) | walk1 | (dsimp only; walk1) | (leave1; walk_say "STEP leave1"; try dsimp only))
      refine KXi.mul (n := 1) rfl (by decide) (by omega) (by omega) fun t₈ k₈ hz1 hz2 => ?_
      have hl1 : (Txt.mul (Str.ofString "(") y).length ≤ 2 := by have := hz2 hyb.1; omega
      refine add_str (fun t₉ k₉ => ?_) ?hsz1
      case hsz1 => rw [sizeLine_eq]; omega
      iterate 4 (first | (k_unfold; (try dsimp only)) | (k_end; wrow_close) | walk1 | (dsimp only; walk1) | (leave1; walk_say "STEP leave1"; try dsimp only))
      have hP₇ := isList_keep hP F₇.keep
      iterate 9 (first | (k_unfold; (try dsimp only)) | (k_end; wrow_close) | walk1 | (dsimp only; walk1) | (leave1; walk_say "STEP leave1"; try dsimp only))
      refine slice_from_strs (s := ⟨_, _, _, _, _⟩) F₇ N₇ hP₇ hpv (by omega) ?hsz2 (fun h₈ D₈ dv F₈ N₈ hdv => ?_) ?hs2 ?ht2
      case hsz2 => rw [strs_len hpv, hpn, sizeLine_eq]; decide
      case hs2 => with_unfolding_all rfl
      case ht2 => intro _; with_unfolding_all rfl
      clear F₇ N₇
      have hP₈ := isList_keep hP F₈.keep
      iterate 7 (first | (k_unfold; (try dsimp only)) | (k_end; wrow_close) | walk1 | (dsimp only; walk1) | (leave1; walk_say "STEP leave1"; try dsimp only))
      refine slice_upto_strs (s := ⟨_, _, _, _, _⟩) F₈ N₈ hP₈ hpv (by omega) ?hsz3 (fun h₉ D₉ tv F₉ N₉ htv => ?_) ?hs3 ?ht3
      case hsz3 => rw [strs_len hpv, hpn, sizeLine_eq]; decide
      case hs3 => with_unfolding_all rfl
      case ht3 => intro _; with_unfolding_all rfl
      clear F₈ N₈
      have hrp : ∀ x ∈ ps.drop c ++ ps.take c, Asc x ∧ x.length ≤ 20 := fun x hx => (List.mem_append.mp hx).elim (fun h => hp x (List.mem_of_mem_drop h)) (fun h => hp x (List.mem_of_mem_take h))
      have hrn : (ps.drop c ++ ps.take c).length = 6 := by rw [List.length_append, List.length_drop, List.length_take]; omega
      refine add_lists F₉ N₉ (News.isList N₉ (.tail _ (.head _))) (News.isList N₉ (.head _)) (fun h₁₀ F₁₀ N₁₀ => ?_) ?hsz4
      case hsz4 => rw [strs_len hdv, strs_len htv, List.length_drop, List.length_take, sizeLine_eq]; omega
      clear F₉ N₉
      (first | (k_unfold; (try dsimp only)) | (k_end; wrow_close) | walk1 | (dsimp only; walk1) | (leave1; walk_say "STEP leave1"; try dsimp only))
      refine join_list (News.isList N₁₀ (.head _)) (ys := ps.drop c ++ ps.take c) (strs_app hdv htv) ?hj2 fun t₁₁ k₁₁ => ?_
      case hj2 => exact Nat.le_trans (join_sum hrp) (by rw [hrn]; decide)
      have hjl : (Txt.join (Str.ofString "") (ps.drop c ++ ps.take c)).length ≤ 120 := by
        have h1 := join_len (ps.drop c ++ ps.take c)
        have h2 := sum_le (fun x hx => (hrp x hx).2)
        omega
      refine add_str (fun t₁₂ k₁₂ => ?_) ?hsz5
      case hsz5 => rw [Str.length_append, sizeLine_eq]; omega
      iterate 18 (first | (k_unfold; (try dsimp only)) | (k_end; wrow_close) | walk1 | (dsimp only; walk1) | (leave1; walk_say "STEP leave1"; try dsimp only))
      have hfd : 0 ≤ y.fdiv 2 ∧ y.fdiv 2 ≤ 1 := by rw [Int.fdiv_eq_ediv_of_nonneg _ (by decide)]; omega
      refine KXi.mul (n := 1) rfl (by decide) (by omega) (by omega) fun t₁₃ k₁₃ hz3 hz4 => ?_
      have hl2 : (Txt.mul (Str.ofString "\"") (y.fdiv 2)).length ≤ 1 := by have := hz4 hfd.1; omega
      refine add_str (fun t₁₄ k₁₄ => ?_) ?hsz6
      case hsz6 => rw [Str.length_append, Str.length_append, sizeLine_eq]; omega
      iterate 3 (first | (k_unfold; (try dsimp only)) | (k_end; wrow_close) | walk1 | (dsimp only; walk1) | (leave1; walk_say "STEP leave1"; try dsimp only))
      refine KXi.mul (n := 1) rfl (by decide) (by omega) (by omega) fun t₁₅ k₁₅ hz5 hz6 => ?_
      have hl3 : (Txt.mul (Str.ofString ")") y).length ≤ 2 := by have := hz6 hyb.1; omega
      refine add_str (fun t₁₆ k₁₆ => ?_) ?hsz7
      case hsz7 => rw [Str.length_append, Str.length_append, Str.length_append, sizeLine_eq]; omega
      iterate 1 (first | (k_unfold; (try dsimp only)) | (k_end; wrow_close) | walk1 | (dsimp only; walk1) | (leave1; walk_say "STEP leave1"; try dsimp only))
      rename Fr _ _ _ _ => F₁₁
      rename News _ _ _ _ => N₁₁
      have zF := N₁₁ (Fl, lstO fv.toArray n2) (.tail _ (.tail _ (.tail _ (.head _))))
      have hfvl : fv.length = c := by rw [strs_len hfv, fieldsUp, List.length_map, List.length_range]
      refine append_at zF.1 (fun h₁₂ hs₁₂ hD₁₂ => ?_) ?hsz8
      case hsz8 => show fv.toArray.size ≤ sizeLine; rw [List.size_toArray, sizeLine_eq]; omega
      refine wpAny_execs_nil ?_
      rw [List.push_toArray] at hD₁₂
      subst hmk
      refine ⟨_, (Fl, lstO (fv ++ [Value.str (fieldAt (ms j) ps y c) t₁₆]).toArray (n2 + 1)) :: ([(Mk, oM), (L3, lstO lv.toArray 0)] ++ own), fr_eqm (F₁₁.change hs₁₂ zF.2.1 zF.2.2) (by funext y; by_cases e0 : y = Str.ofString "end"; (subst e0; rfl); by_cases e1 : y = Str.ofString "rows"; (subst e1; rfl); by_cases e2 : y = Str.ofString "told"; (subst e2; rfl); by_cases e3 : y = Str.ofString "kept"; (subst e3; rfl); by_cases e4 : y = Str.ofString "field"; (subst e4; rfl); by_cases e5 : y = Str.ofString "c"; (subst e5; rfl); by_cases e6 : y = Str.ofString "fields"; (subst e6; rfl); by_cases e7 : y = Str.ofString "deep"; (subst e7; rfl); by_cases e8 : y = Str.ofString "marks"; (subst e8; rfl); by_cases e9 : y = Str.ofString "parts"; (subst e9; rfl); have b0 : (y == Str.ofString "end") = false := (by simpa using e0); have b1 : (y == Str.ofString "rows") = false := (by simpa using e1); have b2 : (y == Str.ofString "told") = false := (by simpa using e2); have b3 : (y == Str.ofString "kept") = false := (by simpa using e3); have b4 : (y == Str.ofString "field") = false := (by simpa using e4); have b5 : (y == Str.ofString "c") = false := (by simpa using e5); have b6 : (y == Str.ofString "fields") = false := (by simpa using e6); have b7 : (y == Str.ofString "deep") = false := (by simpa using e7); have b8 : (y == Str.ofString "marks") = false := (by simpa using e8); have b9 : (y == Str.ofString "parts") = false := (by simpa using e9); simp [List.lookup, e0, b0, e1, b1, e2, b2, e3, b3, e4, b4, e5, b5, e6, b6, e7, b7, e8, b8, e9, b9, marksMap]), ?_, off2, ⟨some (.int c tc), some (.str _ t₁₂), _, n2 + 1, rfl, rfl, ?_⟩, ⟨rfl, _root_.id⟩, trivial⟩
      · intro p hp
        rcases List.mem_cons.mp hp with rfl | hp
        · exact ⟨hD₁₂, zF.2⟩
        · have z := N₁₁ p (.tail _ (.tail _ (.tail _ (.tail _ hp))))
          refine ⟨hs₁₂.extBut _ _ ?_ z.1, z.2⟩
          rcases List.mem_append.mp hp with hp | hp
          · exact Nat.ne_of_lt (hFlt p hp)
          · exact off2 p hp Fl (.head _)
      · rw [fieldsUp, List.range_succ, List.map_append]
        exact strs_snoc hfv _ _
    case done2 =>
      rintro m2 news2 s₁₁ ⟨oc, ofl, fv, n2, rfl, rfl, hfv⟩ F N S2
      iterate 12 (first | (k_unfold; (try dsimp only)) | (k_end; wrow_close) | walk1 | (dsimp only; walk1) | (leave1; walk_say "STEP leave1"; try dsimp only))
      obtain ⟨tm, hmc⟩ := strs_at hmv (i := 6) (by omega)
      refine sub_at (k := 6) ⟨oM, (N (Mk, oM) (.tail _ (.head _))).1, hcM, n, hdM⟩ hmc (by omega) ?_
      have hml : ((ms j).getD 6 Str.empty).length ≤ 10 := getD_len hb.2
      (first | (k_unfold; (try dsimp only)) | (k_end; wrow_close) | walk1 | (dsimp only; walk1) | (leave1; walk_say "STEP leave1"; try dsimp only))
      refine add_str (fun t₇ k₇ => ?_) ?hsz1
      case hsz1 => show _ + 3 ≤ _; rw [sizeLine_eq]; omega
      iterate 6 (first | (k_unfold; (try dsimp only)) | (k_end; wrow_close) | walk1 | (dsimp only; walk1) | (leave1; walk_say "STEP leave1"; try dsimp only))
      refine KXi.mul (n := 1) rfl (by decide) (by omega) (by omega) fun t₈ k₈ hz1 hz2 => ?_
      have hl1 : (Txt.mul (Str.ofString ")") (y + 1)).length ≤ 3 := by have := hz2 (by omega); omega
      refine add_str (fun t₉ k₉ => ?_) ?hsz2
      case hsz2 => rw [Str.length_append, sizeLine_eq]; show (_ + 3) + _ ≤ _; omega
      (first | (k_unfold; (try dsimp only)) | (k_end; wrow_close) | walk1 | (dsimp only; walk1) | (leave1; walk_say "STEP leave1"; try dsimp only))
      have zF := N (Fl, lstO fv.toArray n2) (.head _)
      have hfvl : fv.length = 6 := by rw [strs_len hfv, fieldsUp, List.length_map, List.length_range]
      refine append_at zF.1 (fun h₁₂ hs₁₂ hD₁₂ => ?_) ?hsz8
      case hsz8 => show fv.toArray.size ≤ sizeLine; rw [List.size_toArray, sizeLine_eq]; omega
      rw [List.push_toArray] at hD₁₂
      have F₂₀ := F.change hs₁₂ zF.2.1 zF.2.2
      have hfs := strs_snoc hfv (lastField (ms j) y) t₉
      have hfd : fieldsUp (ms j) ps y 6 ++ [lastField (ms j) y] = fieldsOf (ms j) ps y := rfl
      rw [hfd] at hfs
      have N₂₀ : News s.heap s.heap.objs.size h₁₂ ((Fl, lstO (fv ++ [Value.str (lastField (ms j) y) t₉]).toArray (n2 + 1)) :: ([(Mk, oM), (L3, lstO lv.toArray 0)] ++ own)) := by
        intro p hp
        rcases List.mem_cons.mp hp with rfl | hp
        · exact ⟨hD₁₂, zF.2⟩
        · have z := N p (.tail _ hp)
          exact ⟨hs₁₂.extBut _ _ (Nat.ne_of_lt (hFlt p hp)) z.1, z.2⟩
      clear F N hD₁₂ zF
      have hfvl' : (fv ++ [Value.str (lastField (ms j) y) t₉]).length = 7 := by rw [List.length_append, hfvl]; rfl
      generalize fv ++ [Value.str (lastField (ms j) y) t₉] = fw at hfs N₂₀ hfvl'
      iterate 10 (first | (k_unfold; (try dsimp only)) | (k_end; wrow_close) | walk1 | (dsimp only; walk1) | (leave1; walk_say "STEP leave1"; try dsimp only))
      iterate 9 (first | (k_unfold; (try dsimp only)) | (k_end; wrow_close) | walk1 | (dsimp only; walk1) | (leave1; walk_say "STEP leave1"; try dsimp only))
      rename Fr _ _ _ _ => F₂₁
      rename News _ _ _ _ => N₂₁
      have hfo : ∀ x ∈ fieldsOf (ms j) ps y, Asc x ∧ x.length ≤ 1000 := fields_ok hp hpn hb hyb
      have hfn : (fieldsOf (ms j) ps y).length = 7 := by rw [← strs_len hfs]; exact hfvl'
      refine ⟨X.keeps F₂₁.keep, ?_⟩
      refine pre_c (News.isList N₂₁ (.tail _ (.head _))) hfs hfo (by omega) (X.keeps F₂₁.keep) (T.keeps F₂₁.keep) hh (by show A.depth + 1 + 30 < _; omega) fun s₁₂ Lt ct tv Ex₁₂ hLt0 hLt htv => ?_
      have F₂₂ := fr_ext F₂₁ Ex₁₂
      have N₂₂ := news_cons (news_ext N₂₁ Ex₁₂) hLt (news_none F₂₁ hLt0)
      clear F₂₁ N₂₁
      iterate 10 (first | (k_unfold; (try dsimp only)) | (k_end; wrow_close) | walk1 | (dsimp only; walk1) | (leave1; walk_say "STEP leave1"; try dsimp only))
      rename Fr _ _ _ _ => F₂₃
      rename News _ _ _ _ => N₂₃
      refine ⟨X.keeps F₂₃.keep, ?_⟩
      refine sent_c (News.isList N₂₃ (.head _)) htv (prep_ok hfo) (by rw [List.length_map]; omega) (fun s₁₃ Lr rv nr Ex₁₃ hLr0 hLr hrv => ?_) (X.keeps F₂₃.keep) (T.keeps F₂₃.keep) hh (by show A.depth + 1 + 40 < _; omega)
      have hMLr : Mk ≠ Lr := fun e => by
        have z := (N₂₃ (Mk, oM) (.tail _ (.tail _ (.tail _ (.head _))))).1
        dsimp only at z
        rw [e, hLr0] at z
        cases z
      have hMF : @LT.lt Nat _ Mk Fl := hFlt (Mk, oM) (.head _)
      have hML' : @LT.lt Nat _ Mk L3 := hML.1
      have F₂₄ := fr_ext F₂₃ Ex₁₃
      have N₂₄ := news_cons (news_ext N₂₃ Ex₁₃) hLr (news_none F₂₃ hLr0)
      clear F₂₃ N₂₃
      iterate 8 (first | (k_unfold; (try dsimp only)) | (k_end; wrow_close) | walk1 | (dsimp only; walk1) | (leave1; walk_say "STEP leave1"; try dsimp only))
      rename Fr _ _ _ _ => F₂₅
      rename News _ _ _ _ => N₂₅
      have hfa : ∀ x ∈ fieldsOf (ms j) ps y, Asc x := fun x hx => (hfo x hx).1
      refine ne_strs (News.isList N₂₅ (.tail _ (.tail _ (.tail _ (.head _))))) (News.isList N₂₅ (.tail _ (.tail _ (.head _)))) hfs hfs hfa hfa (by show A.units + 3 + 64 < cLine; omega) ?_
      rw [beq_self_eq_true]
      iterate 24 (first | (k_unfold; (try dsimp only)) | (k_end; wrow_close) | walk1 | (dsimp only; walk1) | (leave1; walk_say "STEP leave1"; try dsimp only))
      obtain ⟨hRl, hRe⟩ := hR
      generalize sentOut (toldS ((fieldsOf (ms j) ps y).map prep)) = out at hrv hRl hRe
      have hrl : rv.size = 7 := by rw [← Array.length_toList, strs_len hrv]; exact hRl
      refine len_list (News.isList (n := nr) N₂₅ (.head _)) (by rw [hrl]; decide) ?_
      rw [hrl]
      iterate 5 (first | (k_unfold; (try dsimp only)) | (k_end; wrow_close) | walk1 | (dsimp only; walk1) | (leave1; walk_say "STEP leave1"; try dsimp only))
      rw [if_neg Bool.false_ne_true]
      refine wpAny_execs_nil ?_
      dsimp only
      refine wpAny_execs_cons ?_
      refine wpAny_For ?_ ?hs
      case hs => intro x; rfl
      iterate 7 (first | (k_unfold; (try dsimp only)) | (k_end; wrow_close) | walk1 | (dsimp only; walk1) | (leave1; walk_say "STEP leave1"; try dsimp only))
      rename Fr _ _ _ _ => F₂₆
      rename News _ _ _ _ => N₂₆
      rename IsRange _ _ _ _ _ _ _ _ => hrange2
      obtain ⟨ok, F₂₆'⟩ : ∃ ok, Fr s.heap s.heap.objs.size _ (marksMap P Mk (some (.int y ty)) (some (.ref Fl)) oc ofl ok (some (.ref Lt)) (some (.ref Lr)) oe) := ⟨some (.ref _), fr_eqm F₂₆ (by funext y; by_cases e0 : y = Str.ofString "end"; (subst e0; rfl); by_cases e1 : y = Str.ofString "rows"; (subst e1; rfl); by_cases e2 : y = Str.ofString "told"; (subst e2; rfl); by_cases e3 : y = Str.ofString "kept"; (subst e3; rfl); by_cases e4 : y = Str.ofString "field"; (subst e4; rfl); by_cases e5 : y = Str.ofString "c"; (subst e5; rfl); by_cases e6 : y = Str.ofString "fields"; (subst e6; rfl); by_cases e7 : y = Str.ofString "deep"; (subst e7; rfl); by_cases e8 : y = Str.ofString "marks"; (subst e8; rfl); by_cases e9 : y = Str.ofString "parts"; (subst e9; rfl); have b0 : (y == Str.ofString "end") = false := (by simpa using e0); have b1 : (y == Str.ofString "rows") = false := (by simpa using e1); have b2 : (y == Str.ofString "told") = false := (by simpa using e2); have b3 : (y == Str.ofString "kept") = false := (by simpa using e3); have b4 : (y == Str.ofString "field") = false := (by simpa using e4); have b5 : (y == Str.ofString "c") = false := (by simpa using e5); have b6 : (y == Str.ofString "fields") = false := (by simpa using e6); have b7 : (y == Str.ofString "deep") = false := (by simpa using e7); have b8 : (y == Str.ofString "marks") = false := (by simpa using e8); have b9 : (y == Str.ofString "parts") = false := (by simpa using e9); simp [List.lookup, e0, b0, e1, b1, e2, b2, e3, b3, e4, b4, e5, b5, e6, b6, e7, b7, e8, b8, e9, b9, marksMap])⟩
      have N₂₆' := marks_pack2 N₂₆
      clear F₂₆ N₂₆
      refine start_range F₂₆' N₂₆' hrange2 (by decide) fun I₃ own₃ s₁₄ st₃ F₃₀ N₃₀ off₃₀ S₃₀ => ?_
      refine for_walk (iter_range ?hh _ I₃ 0 7) (RowsJ (ms j) (ms (j + 1)) P Mk Fl Lt Lr y ty ofl ok ((Lr, lstO rv nr) :: (Fl, lstO fw.toArray (n2 + 1)) :: (L3, lstO lv.toArray 0) :: own)) (fun _ _ _ _ _ _ _ => trivial) st₃ F₃₀ N₃₀ off₃₀ ⟨oc, oe, mv, n, oM, rfl, rfl, hcM, hdM, ?j0⟩ ?turn3 ?done3
      case hh => exact hh
      case j0 => rw [List.take_zero, List.drop_zero, List.nil_append]; exact hmv
      case turn3 =>
        rintro c v2 extra own3 m2 news2 s₁₅ hc ⟨⟨tc, hvc⟩, rfl⟩ ⟨oc, oe, mv', n3, oM', rfl, rfl, hcM', hdM', hmv'⟩ F N off3 offx3 hlts3 S3
        rw [Int.zero_add] at hvc
        subst hvc
        simp only [List.nil_append] at N
        refine assign_nm F N (fun h₇ F₇ N₇ => ?_) ?ha ?hb
        case ha => rfl
        case hb => rfl
        clear F N
        iterate 9 (first | (k_unfold; (try dsimp only)) | (k_end; wrow_close) | walk1 | (dsimp only; walk1) | (leave1; walk_say "STEP leave1"; try dsimp only))
        have hmod : (c : Int).fmod 2 = ((c % 2 : Nat) : Int) := by rw [Int.fmod_eq_emod_of_nonneg _ (by decide)]; omega
        rw [hmod]
        refine KXi.mul (n := 1) rfl (by decide) (by omega) (by omega) fun t₈ k₈ hz1 hz2 => ?_
        have hel : (Txt.mul (Str.ofString "\r") ((c % 2 : Nat) : Int)).length ≤ 1 := by have := hz2 (by omega); omega
        have hen : endAt c = Txt.mul (Str.ofString "\r") ((c % 2 : Nat) : Int) := rfl
        obtain ⟨hfate⟩ := hRe c hc
        generalize Txt.mul (Str.ofString "\r") ((c % 2 : Nat) : Int) = en at hel hen ⊢
        rw [hen] at hfate
        clear hz1 hz2 hen
        iterate 7 (first | (k_unfold; (try dsimp only)) | (k_end; wrow_close) | walk1 | (dsimp only; walk1) | (leave1; walk_say "STEP leave1"; try dsimp only))
        rename Fr _ _ _ _ => F₈
        rename News _ _ _ _ => N₈
        obtain ⟨trw, hrw⟩ := strs_at hrv (i := c) (by omega)
        refine sub_at (vs := rv.toList) (by rw [Array.toArray_toList]; exact News.isList (n := nr) N₈ (.tail _ (.head _))) hrw (by omega) ?_
        generalize out.getD c Str.empty = row at hrw hfate ⊢
        iterate 6 (first | (k_unfold; (try dsimp only)) | (k_end; wrow_close) | walk1 | (dsimp only; walk1) | (leave1; walk_say "STEP leave1"; try dsimp only))
        obtain ⟨tfl, hfl⟩ := strs_at hfs (i := c) (by omega)
        refine sub_at (News.isList N₈ (.tail _ (.tail _ (.head _)))) hfl (by omega) ?_
        have hfll : ((fieldsOf (ms j) ps y).getD c Str.empty).length ≤ 1000 := getD_len hfo
        generalize (fieldsOf (ms j) ps y).getD c Str.empty = fld at hfl hfll hfate ⊢
        refine add_str (fun t₉ k₉ => ?_) ?hsz1
        case hsz1 => show 1 + _ ≤ _; rw [sizeLine_eq]; omega
        (first | (k_unfold; (try dsimp only)) | (k_end; wrow_close) | walk1 | (dsimp only; walk1) | (leave1; walk_say "STEP leave1"; try dsimp only))
        refine add_str (fun t₁₀ k₁₀ => ?_) ?hsz2
        case hsz2 => rw [Str.length_append, sizeLine_eq]; show (1 + _) + _ ≤ _; omega
        refine eq_str ?_
        rcases hfate with ⟨hrow, hm'⟩ | ⟨hrow, hrow2, hm'⟩
        · rw [hrow, beq_self_eq_true]
          iterate 6 (first | (k_unfold; (try dsimp only)) | (k_end; wrow_close) | walk1 | (dsimp only; walk1) | (leave1; walk_say "STEP leave1"; try dsimp only))
          have hL : Heap.IsList _ Mk mv'.toArray := ⟨oM', (N₈ (Mk, oM') (.head _)).1, hcM', n3, hdM'⟩
          have hmx : (ms (j + 1)).length = 7 := (hmsb (j + 1) (by omega)).1
          have hml' : mv'.length = 7 := by rw [strs_len hmv', List.length_append, List.length_take, List.length_drop, hmx, hb.1]; omega
          obtain ⟨tmk, hmk⟩ := strs_at hmv' (i := c) (by rw [← strs_len hmv']; omega)
          rw [mixed_get _ _ _ c (by omega)] at hmk
          refine wpAny_getItem_list (x := .str ((ms j).getD c Str.empty) tmk) hL (by omega) (by omega) (by rw [Int.toNat_natCast, List.getElem?_toArray]; exact hmk) ?_
          have hmkl : ((ms j).getD c Str.empty).length ≤ 10 := getD_len hb.2
          (first | (k_unfold; (try dsimp only)) | (k_end; wrow_close) | walk1 | (dsimp only; walk1) | (leave1; walk_say "STEP leave1"; try dsimp only))
          refine SB.iadd (fun t₁₁ k₁₁ => ?_) ?hsz3
          case hsz3 => rw [sizeLine_eq]; show _ + 1 ≤ _; omega
          have hLn : @LT.lt Int _ ((c : Nat) : Int) (mv'.toArray.size : Int) := by rw [List.size_toArray]; omega
          refine wpAny_setItem_list hL (by omega) (by omega) hLn fun h₉ hL₉ hs₉ => ?_
          obtain ⟨o₉, ho₉, hc₉, n₉, hd₉⟩ := hL₉
          have zM := N₈ (Mk, oM') (.head _)
          rw [Int.toNat_natCast, List.setIfInBounds_toArray] at hd₉
          dsimp only
          refine wpAny_execs_nil ?_
          dsimp only
          refine wpAny_execs_nil ?_
          refine ⟨_, (Mk, o₉) :: (Lr, lstO rv nr) :: (Fl, lstO fw.toArray (n2 + 1)) :: (L3, lstO lv.toArray 0) :: own, fr_eqm (F₈.change hs₉ zM.2.1 zM.2.2) (by funext y; by_cases e0 : y = Str.ofString "end"; (subst e0; rfl); by_cases e1 : y = Str.ofString "rows"; (subst e1; rfl); by_cases e2 : y = Str.ofString "told"; (subst e2; rfl); by_cases e3 : y = Str.ofString "kept"; (subst e3; rfl); by_cases e4 : y = Str.ofString "field"; (subst e4; rfl); by_cases e5 : y = Str.ofString "c"; (subst e5; rfl); by_cases e6 : y = Str.ofString "fields"; (subst e6; rfl); by_cases e7 : y = Str.ofString "deep"; (subst e7; rfl); by_cases e8 : y = Str.ofString "marks"; (subst e8; rfl); by_cases e9 : y = Str.ofString "parts"; (subst e9; rfl); have b0 : (y == Str.ofString "end") = false := (by simpa using e0); have b1 : (y == Str.ofString "rows") = false := (by simpa using e1); have b2 : (y == Str.ofString "told") = false := (by simpa using e2); have b3 : (y == Str.ofString "kept") = false := (by simpa using e3); have b4 : (y == Str.ofString "field") = false := (by simpa using e4); have b5 : (y == Str.ofString "c") = false := (by simpa using e5); have b6 : (y == Str.ofString "fields") = false := (by simpa using e6); have b7 : (y == Str.ofString "deep") = false := (by simpa using e7); have b8 : (y == Str.ofString "marks") = false := (by simpa using e8); have b9 : (y == Str.ofString "parts") = false := (by simpa using e9); simp [List.lookup, e0, b0, e1, b1, e2, b2, e3, b3, e4, b4, e5, b5, e6, b6, e7, b7, e8, b8, e9, b9, marksMap]), ?_, off3, ⟨some (.int c tc), some (.str en _), _, n₉, o₉, rfl, rfl, hc₉, hd₉, ?_⟩, ⟨rfl, _root_.id⟩, trivial⟩
          · intro p hp
            rcases List.mem_cons.mp hp with rfl | hp
            · exact ⟨ho₉, zM.2⟩
            · have z := N₈ p (.tail _ hp)
              refine ⟨hs₉.extBut _ _ ?_ z.1, z.2⟩
              rcases List.mem_cons.mp hp with rfl | hp
              · exact Ne.symm hMLr
              rcases List.mem_cons.mp hp with rfl | hp
              · exact Nat.ne_of_gt hMF
              rcases List.mem_cons.mp hp with rfl | hp
              · exact Nat.ne_of_gt hML'
              rcases List.mem_append.mp hp with hp | hp
              · exact off p hp Mk (.head _)
              · exact off3 p hp Mk (.head _)
          · rw [← hm', ← mixed_set _ _ _ (by omega) (by omega)]
            exact strs_set hmv' _ _ _
        · rw [beq_eq_false_iff_ne.mpr hrow]
          iterate 8 (first | (k_unfold; (try dsimp only)) | (k_end; wrow_close) | walk1 | (dsimp only; walk1) | (leave1; walk_say "STEP leave1"; try dsimp only))
          refine sub_at (vs := rv.toList) (by rw [Array.toArray_toList]; exact News.isList (n := nr) N₈ (.tail _ (.head _))) hrw (by omega) ?_
          iterate 3 (first | (k_unfold; (try dsimp only)) | (k_end; wrow_close) | walk1 | (dsimp only; walk1) | (leave1; walk_say "STEP leave1"; try dsimp only))
          refine add_str (fun t₁₁ k₁₁ => ?_) ?hsz3
          case hsz3 => rw [sizeLine_eq]; show 8 + _ ≤ _; omega
          subst hrow2
          (first | (k_unfold; (try dsimp only)) | (k_end; wrow_close) | walk1 | (dsimp only; walk1) | (leave1; walk_say "STEP leave1"; try dsimp only))
          rw [bne_self_eq_false]
          iterate 3 (first | (k_unfold; (try dsimp only)) | (k_end; wrow_close) | walk1 | (dsimp only; walk1) | (leave1; walk_say "STEP leave1"; try dsimp only))
          refine wpAny_execs_nil ?_
          dsimp only
          refine wpAny_execs_nil ?_
          have hmx : (ms (j + 1)).length = 7 := (hmsb (j + 1) (by omega)).1
          refine ⟨_, (Mk, oM') :: (Lr, lstO rv nr) :: (Fl, lstO fw.toArray (n2 + 1)) :: (L3, lstO lv.toArray 0) :: own, fr_eqm F₈ (by funext y; by_cases e0 : y = Str.ofString "end"; (subst e0; rfl); by_cases e1 : y = Str.ofString "rows"; (subst e1; rfl); by_cases e2 : y = Str.ofString "told"; (subst e2; rfl); by_cases e3 : y = Str.ofString "kept"; (subst e3; rfl); by_cases e4 : y = Str.ofString "field"; (subst e4; rfl); by_cases e5 : y = Str.ofString "c"; (subst e5; rfl); by_cases e6 : y = Str.ofString "fields"; (subst e6; rfl); by_cases e7 : y = Str.ofString "deep"; (subst e7; rfl); by_cases e8 : y = Str.ofString "marks"; (subst e8; rfl); by_cases e9 : y = Str.ofString "parts"; (subst e9; rfl); have b0 : (y == Str.ofString "end") = false := (by simpa using e0); have b1 : (y == Str.ofString "rows") = false := (by simpa using e1); have b2 : (y == Str.ofString "told") = false := (by simpa using e2); have b3 : (y == Str.ofString "kept") = false := (by simpa using e3); have b4 : (y == Str.ofString "field") = false := (by simpa using e4); have b5 : (y == Str.ofString "c") = false := (by simpa using e5); have b6 : (y == Str.ofString "fields") = false := (by simpa using e6); have b7 : (y == Str.ofString "deep") = false := (by simpa using e7); have b8 : (y == Str.ofString "marks") = false := (by simpa using e8); have b9 : (y == Str.ofString "parts") = false := (by simpa using e9); simp [List.lookup, e0, b0, e1, b1, e2, b2, e3, b3, e4, b4, e5, b5, e6, b6, e7, b7, e8, b8, e9, b9, marksMap]), N₈, off3, ⟨some (.int c tc), some (.str en _), mv', n3, oM', rfl, rfl, hcM', hdM', ?_⟩, ⟨rfl, _root_.id⟩, trivial⟩
          rw [← mixed_same _ _ _ (by omega) (by omega) hm']
          exact hmv'
      case done3 =>
        rintro m2 news2 s₁₅ ⟨oc, oe, mv', n3, oM', rfl, rfl, hcM', hdM', hmv'⟩ F N S3
        dsimp only
        refine wpAny_execs_nil ?_
        have hmx : (ms (j + 1)).length = 7 := (hmsb (j + 1) (by omega)).1
        rw [List.take_of_length_le (by omega), List.drop_of_length_le (by omega), List.append_nil] at hmv'
        refine ⟨_, [(Mk, oM'), (L3, lstO lv.toArray 0)], F, marks_pack3 N, off, ⟨some (.int y ty), some (.ref Fl), oc, ofl, ok, some (.ref Lt), some (.ref Lr), oe, mv', n3, oM', rfl, rfl, hcM', hdM', hmv'⟩,
          ⟨S3.os.trans (S₃₀.os.trans (Ex₁₃.side.os.trans (Ex₁₂.side.os.trans (S2.os.trans S₆.os)))), fun b => S3.bare (S₃₀.bare (Ex₁₃.side.bare (Ex₁₂.side.bare (S2.bare (S₆.bare b)))))⟩, trivial⟩
  case done =>
    rintro m news s' ⟨od, of, oc, ofl, ok, ot, orr, oe, mv, n, oM, rfl, rfl, hcM, hdM, hmv⟩ F N S
    rw [show lv.length = 3 from ints_len hlv] at hmv
    obtain ⟨hb3, hb3'⟩ := hmsb 3 (by omega)
    have hmvl : mv.length = 7 := by rw [strs_len hmv]; exact hb3
    iterate 2 (first | (k_unfold; (try dsimp only)) | (k_end; wrow_close) | walk1 | (dsimp only; walk1) | (leave1; walk_say "STEP leave1"; try dsimp only))
    refine comp_eval [] ?q1 ?q2 ?q3 ?_
    case q1 => rfl
    case q2 => rfl
    case q3 => decide
    iterate 1 (first | (k_unfold; (try dsimp only)) | (k_end; wrow_close) | walk1 | (dsimp only; walk1) | (leave1; walk_say "STEP leave1"; try dsimp only))
    have hL : Heap.IsList s'.heap Mk mv.toArray := ⟨oM, (N (Mk, oM) (.head _)).1, hcM, n, hdM⟩
    refine start_list F N hL fun I₄ own₄ s₈ hPI₄ st₄ F₉ N₉ off₉ S₉ Ex₉ => ?_
    refine comp_block (iter_list ?hh2 _ I₄ _ _ hPI₄) (fun h _ hn => ⟨oM, hn (Mk, oM) (.head _), hcM, n, hdM⟩) (fun _ => trivial) (fun _ _ _ _ _ => trivial) ?hsz2 ?hcell2 ?hkind2
      (fun j ys => IntsAre ys (((ms 3).take j).map fun m => (m.length : Int))) st₄ F₉ N₉ off₉ .nil (fun j ys hj => ?hlen2) ?turn2 ?done2
    case hh2 => exact hh
    case hsz2 => rw [hmvl, sizeLine_eq]; decide
    case hcell2 => decide
    case hkind2 => rfl
    case hlen2 => rw [ints_len hj, List.length_map, List.length_take]; exact Nat.min_le_left _ _
    case turn2 =>
      rintro j v extra rest ys₂ C mC s₅' hj ⟨hv, rfl⟩ hys F N S
      obtain ⟨x, tx, rfl, hx⟩ := strs_get hmv hv
      have hxl := (hb3' x (List.mem_of_getElem? hx)).2
      refine assign_nm F N (fun h₄ F₄ N₄ => ?_) ?ha ?hb
      case ha => rfl
      case hb => rfl
      rw [List.forIn_nil]
      refine wpAny_pure ?_
      rw [if_pos rfl]
      clear F N
      iterate 4 (first | (k_unfold; (try dsimp only)) | (k_end; wrow_close) | walk1 | (dsimp only; walk1) | (leave1; walk_say "STEP leave1"; try dsimp only))
      refine name_l F₄ (v := .str x tx) ?e1 ?e2 ?e3 ?_
      case e1 => rfl
      case e2 => rfl
      case e3 => rfl
      (first | (k_unfold; (try dsimp only)) | (k_end; wrow_close) | walk1 | (dsimp only; walk1) | (leave1; walk_say "STEP leave1"; try dsimp only))
      refine PySem.P.len_str (by omega) ?_
      refine ⟨?_, ⟨_, F₄⟩, N₄, ⟨rfl, _root_.id⟩, trivial⟩
      rw [List.take_add_one, hx, List.map_append]
      exact hys.append (.cons _ _ .nil)
    case done2 =>
      intro D₂ C ys₂ s'' mC hys F N hlt nC hCD hCL hC0 hCn S₂
      refine comp_done F N nC hCD hCL hC0 hCn S₂ fun s₁₀ F₁ N₁ S₁ => ?_
      clear F N
      rw [List.take_of_length_le (by omega)] at hys
      dsimp only
      exact h _ D₂ _ ys₂ ⟨F₁.keep, S₁.os.trans (S₉.os.trans (S.os.trans S₃.os)), fun b => S₁.bare (S₉.bare (S.bare (S₃.bare b)))⟩ (N₁ _ (.head _)).2.2 (N₁ _ (.head _)).1 hys
end Mine

end

section
open PySem PySem.W PyProof.Rows PySem.Calls
set_option maxRecDepth 100000
set_option linter.all false
namespace Mine
theorem warm14 (w : World) (h : Heap) (X : (hd.heap_39 w.params).In h) : Challenge.rw_wo0010_01.prog = Challenge.rw_wo0010_01.prog := by revert X; k_fill; intro _; rfl
theorem CellsAre.five {cm : Str → Option Value} {n1 n2 n3 n4 n5 : Str} {c1 c2 c3 c4 c5 : Addr} {cells : List (Addr × Obj)} (x : CellsAre cm [(n1, c1), (n2, c2), (n3, c3), (n4, c4), (n5, c5)] cells) :
    ∃ o1 o2 o3 o4 o5, cells = [(c1, o1), (c2, o2), (c3, o3), (c4, o4), (c5, o5)] ∧ o1.data = .cell (cm n1) ∧ o2.data = .cell (cm n2) ∧ o3.data = .cell (cm n3) ∧ o4.data = .cell (cm n4) ∧ o5.data = .cell (cm n5) := by
  cases x with | cons h1 r => cases r with | cons h2 r => cases r with | cons h3 r => cases r with | cons h4 r => cases r with | cons h5 r => cases r; exact ⟨_, _, _, _, _, rfl, h1, h2, h3, h4, h5⟩
def Cells5 (b : Addr) (v1 v2 v3 v4 v5 : Option Value) (cs : Led) : Prop := ∃ o1 o2 o3 o4 o5 : Obj, cs = [(b + 1, o1), (b + 2, o2), (b + 3, o3), (b + 4, o4), (b + 5, o5)] ∧
  o1.data = .cell v1 ∧ o2.data = .cell v2 ∧ o3.data = .cell v3 ∧ o4.data = .cell v4 ∧ o5.data = .cell v5
def updC (c : Addr) (o : Obj) (cs : Led) : Led := cs.map fun p => if p.1 = c then (c, o) else p
def OffC (b : Addr) (rest : Led) : Prop := ∀ p ∈ rest, p.1 < b + 1 ∨ b + 5 < p.1
section
variable {b : Addr} {v1 v2 v3 v4 v5 : Option Value} {cs : Led} {o : Obj} {v : Value}
theorem Cells5.at1 (x : Cells5 b v1 v2 v3 v4 v5 cs) : ∃ o, (b + 1, o) ∈ cs ∧ o.data = .cell v1 := by
  obtain ⟨o1, o2, o3, o4, o5, rfl, h1, h2, h3, h4, h5⟩ := x; exact ⟨o1, by simp, h1⟩
theorem Cells5.at2 (x : Cells5 b v1 v2 v3 v4 v5 cs) : ∃ o, (b + 2, o) ∈ cs ∧ o.data = .cell v2 := by
  obtain ⟨o1, o2, o3, o4, o5, rfl, h1, h2, h3, h4, h5⟩ := x; exact ⟨o2, by simp, h2⟩
theorem Cells5.at3 (x : Cells5 b v1 v2 v3 v4 v5 cs) : ∃ o, (b + 3, o) ∈ cs ∧ o.data = .cell v3 := by
  obtain ⟨o1, o2, o3, o4, o5, rfl, h1, h2, h3, h4, h5⟩ := x; exact ⟨o3, by simp, h3⟩
theorem Cells5.at4 (x : Cells5 b v1 v2 v3 v4 v5 cs) : ∃ o, (b + 4, o) ∈ cs ∧ o.data = .cell v4 := by
  obtain ⟨o1, o2, o3, o4, o5, rfl, h1, h2, h3, h4, h5⟩ := x; exact ⟨o4, by simp, h4⟩
theorem Cells5.at5 (x : Cells5 b v1 v2 v3 v4 v5 cs) : ∃ o, (b + 5, o) ∈ cs ∧ o.data = .cell v5 := by
  obtain ⟨o1, o2, o3, o4, o5, rfl, h1, h2, h3, h4, h5⟩ := x; exact ⟨o5, by simp, h5⟩
theorem Cells5.up1 (x : Cells5 b v1 v2 v3 v4 v5 cs) (ho : o.data = .cell (some v)) : Cells5 b (some v) v2 v3 v4 v5 (updC (b + 1) o cs) := by
  obtain ⟨o1, o2, o3, o4, o5, rfl, h1, h2, h3, h4, h5⟩ := x; exact ⟨o, o2, o3, o4, o5, by simp [updC], ho, h2, h3, h4, h5⟩
theorem Cells5.up2 (x : Cells5 b v1 v2 v3 v4 v5 cs) (ho : o.data = .cell (some v)) : Cells5 b v1 (some v) v3 v4 v5 (updC (b + 2) o cs) := by
  obtain ⟨o1, o2, o3, o4, o5, rfl, h1, h2, h3, h4, h5⟩ := x; exact ⟨o1, o, o3, o4, o5, by simp [updC], h1, ho, h3, h4, h5⟩
theorem Cells5.up3 (x : Cells5 b v1 v2 v3 v4 v5 cs) (ho : o.data = .cell (some v)) : Cells5 b v1 v2 (some v) v4 v5 (updC (b + 3) o cs) := by
  obtain ⟨o1, o2, o3, o4, o5, rfl, h1, h2, h3, h4, h5⟩ := x; exact ⟨o1, o2, o, o4, o5, by simp [updC], h1, h2, ho, h4, h5⟩
theorem Cells5.up4 (x : Cells5 b v1 v2 v3 v4 v5 cs) (ho : o.data = .cell (some v)) : Cells5 b v1 v2 v3 (some v) v5 (updC (b + 4) o cs) := by
  obtain ⟨o1, o2, o3, o4, o5, rfl, h1, h2, h3, h4, h5⟩ := x; exact ⟨o1, o2, o3, o, o5, by simp [updC], h1, h2, h3, ho, h5⟩
theorem Cells5.up5 (x : Cells5 b v1 v2 v3 v4 v5 cs) (ho : o.data = .cell (some v)) : Cells5 b v1 v2 v3 v4 (some v) (updC (b + 5) o cs) := by
  obtain ⟨o1, o2, o3, o4, o5, rfl, h1, h2, h3, h4, h5⟩ := x; exact ⟨o1, o2, o3, o4, o, by simp [updC], h1, h2, h3, h4, ho⟩
theorem Cells5.off (x : Cells5 b v1 v2 v3 v4 v5 cs) {h₀ h : Heap} {L a : Addr} (N : News h₀ L h cs) (hn : h.get? a = none) : a < b + 1 ∨ b + 5 < a := by
  obtain ⟨o1, o2, o3, o4, o5, rfl, h1, h2, h3, h4, h5⟩ := x
  have key : ∀ c o, (c, o) ∈ [(b + 1, o1), (b + 2, o2), (b + 3, o3), (b + 4, o4), (b + 5, o5)] → a ≠ c := fun c o hm e => by
    have := (N _ hm).1
    rw [e] at hn
    dsimp only at this
    rw [hn] at this; cases this
  have e1 := key (b + 1) o1 (by simp)
  have e2 := key (b + 2) o2 (by simp)
  have e3 := key (b + 3) o3 (by simp)
  have e4 := key (b + 4) o4 (by simp)
  have e5 := key (b + 5) o5 (by simp)
  have f1 : @Ne Nat a (b + 1) := e1
  have f2 : @Ne Nat a (b + 2) := e2
  have f3 : @Ne Nat a (b + 3) := e3
  have f4 : @Ne Nat a (b + 4) := e4
  have f5 : @Ne Nat a (b + 5) := e5
  show @LT.lt Nat _ a (b + 1) ∨ @LT.lt Nat _ (b + 5) a
  omega
theorem Cells5.ne (x : Cells5 b v1 v2 v3 v4 v5 cs) {a : Addr} (h : a < b + 1 ∨ b + 5 < a) : ∀ p ∈ cs, p.1 ≠ a := fun p hp e => by
  obtain ⟨o1, o2, o3, o4, o5, rfl, h1, h2, h3, h4, h5⟩ := x
  have h' : @LT.lt Nat _ a (b + 1) ∨ @LT.lt Nat _ (b + 5) a := h
  simp only [List.mem_cons, List.not_mem_nil, or_false] at hp
  rcases hp with rfl | rfl | rfl | rfl | rfl
  · have : @Eq Nat (b + 1) a := e
    omega
  · have : @Eq Nat (b + 2) a := e
    omega
  · have : @Eq Nat (b + 3) a := e
    omega
  · have : @Eq Nat (b + 4) a := e
    omega
  · have : @Eq Nat (b + 5) a := e
    omega
theorem Cells5.ownOff (x : Cells5 b v1 v2 v3 v4 v5 cs) {own : Led} (h : ∀ p ∈ own, ∀ q ∈ cs, p.1 ≠ q.1) : OffC b own := fun p hp => by
  obtain ⟨o1, hm1, _⟩ := x.at1
  obtain ⟨o2, hm2, _⟩ := x.at2
  obtain ⟨o3, hm3, _⟩ := x.at3
  obtain ⟨o4, hm4, _⟩ := x.at4
  obtain ⟨o5, hm5, _⟩ := x.at5
  have f1 : @Ne Nat p.1 (b + 1) := h p hp _ hm1
  have f2 : @Ne Nat p.1 (b + 2) := h p hp _ hm2
  have f3 : @Ne Nat p.1 (b + 3) := h p hp _ hm3
  have f4 : @Ne Nat p.1 (b + 4) := h p hp _ hm4
  have f5 : @Ne Nat p.1 (b + 5) := h p hp _ hm5
  show @LT.lt Nat _ p.1 (b + 1) ∨ @LT.lt Nat _ (b + 5) p.1
  omega
theorem Cells5.above (x : Cells5 b v1 v2 v3 v4 v5 cs) {a : Addr} (hn : ∀ p ∈ cs, p.1 < a) : a < b + 1 ∨ b + 5 < a := by
  obtain ⟨o, hm, _⟩ := x.at5
  exact .inr (hn _ hm)
end
theorem store_cell {M : Model} {A : Around} {E : Value → Shared → Prop} {s : Shared} {env : Env} {h₀ : Heap} {m : Str → Option Value} {rest cs : Led} {name : Str} {b c : Addr} {o : Obj} {v₀ : Option Value} {v : Value} {Q : Unit → Shared → Prop}
    (F : Fr h₀ env.locals s.heap m) (N : News h₀ env.locals s.heap (rest ++ cs)) (hm : (c, o) ∈ cs) (hd : o.data = .cell v₀) (hoff : OffC b rest) (hcb : b + 1 ≤ c ∧ c ≤ b + 5)
    (h : ∀ h' o', o'.data = .cell (some v) → Fr h₀ env.locals h' m → News h₀ env.locals h' (rest ++ updC c o' cs) → Q () { s with heap := h' })
    (hk : env.scope.kind = .function) (hl : env.kindOf name = some .cell) (hc : env.cells.lookup name = some c) : wpAny M A (storeName env name v) Q E s := by
  have z := N (c, o) (List.mem_append_right _ hm)
  refine wpAny_storeName_cell hk hl hc ⟨o, z.1, hd⟩ fun h' hcell hs => ?_
  obtain ⟨o', ho', hd'⟩ := hcell
  refine h h' o' hd' (F.change hs z.2.1 z.2.2) fun p hp => ?_
  rcases List.mem_append.mp hp with hp | hp
  · have zp := N p (List.mem_append_left _ hp)
    have hne : p.1 ≠ c := fun e => by
      have h1 := hoff p hp
      rw [e] at h1
      have h2 : @LT.lt Nat _ c (b + 1) ∨ @LT.lt Nat _ (b + 5) c := h1
      have h3 : @LE.le Nat _ (b + 1) c := hcb.1
      have h4 : @LE.le Nat _ c (b + 5) := hcb.2
      omega
    exact ⟨hs.extBut _ _ hne zp.1, zp.2⟩
  · obtain ⟨q, hq, rfl⟩ := List.mem_map.mp hp
    have zq := N q (List.mem_append_right _ hq)
    by_cases e : q.1 = c
    · rw [if_pos e]; exact ⟨ho', z.2⟩
    · rw [if_neg e]; exact ⟨hs.extBut _ _ e zq.1, zq.2⟩
theorem rev5 {h₀ h : Heap} {L a1 a2 a3 a4 a5 : Addr} {o1 o2 o3 o4 o5 : Obj} (N : News h₀ L h [(a1, o1), (a2, o2), (a3, o3), (a4, o4), (a5, o5)]) : News h₀ L h ([] ++ [(a5, o5), (a4, o4), (a3, o3), (a2, o2), (a1, o1)]) := fun p hp => N p (by
  simp only [List.nil_append, List.mem_cons, List.not_mem_nil, or_false] at hp ⊢
  rcases hp with h | h | h | h | h <;> simp [h])
theorem offC_nil {b : Addr} : OffC b [] := fun p hp => nomatch hp
theorem offC_cons {b a : Addr} {o : Obj} {r : Led} (h : a < b + 1 ∨ b + 5 < a) (x : OffC b r) : OffC b ((a, o) :: r) := fun p hp => by
  rcases List.mem_cons.mp hp with rfl | hp
  · exact h
  · exact x p hp
theorem offC_app {b : Addr} {a r : Led} (h : OffC b a) (x : OffC b r) : OffC b (a ++ r) := fun p hp => (List.mem_append.mp hp).elim (h p) (x p)
theorem store_cell2 {M : Model} {A : Around} {E : Value → Shared → Prop} {s : Shared} {env : Env} {h₀ : Heap} {m : Str → Option Value} {pre cs post : Led} {name : Str} {c : Addr} {o : Obj} {v₀ : Option Value} {v : Value} {Q : Unit → Shared → Prop}
    (F : Fr h₀ env.locals s.heap m) (N : News h₀ env.locals s.heap (pre ++ (cs ++ post))) (hm : (c, o) ∈ cs) (hd : o.data = .cell v₀) (hpre : ∀ p ∈ pre, p.1 ≠ c) (hpost : ∀ p ∈ post, p.1 ≠ c)
    (h : ∀ h' o', o'.data = .cell (some v) → Fr h₀ env.locals h' m → News h₀ env.locals h' (pre ++ (updC c o' cs ++ post)) → Q () { s with heap := h' })
    (hk : env.scope.kind = .function) (hl : env.kindOf name = some .cell) (hc : env.cells.lookup name = some c) : wpAny M A (storeName env name v) Q E s := by
  have z := N (c, o) (List.mem_append_right _ (List.mem_append_left _ hm))
  refine wpAny_storeName_cell hk hl hc ⟨o, z.1, hd⟩ fun h' hcell hs => ?_
  obtain ⟨o', ho', hd'⟩ := hcell
  refine h h' o' hd' (F.change hs z.2.1 z.2.2) fun p hp => ?_
  rcases List.mem_append.mp hp with hp | hp
  · have zp := N p (List.mem_append_left _ hp)
    exact ⟨hs.extBut _ _ (hpre p hp) zp.1, zp.2⟩
  · rcases List.mem_append.mp hp with hp | hp
    · obtain ⟨q, hq, rfl⟩ := List.mem_map.mp hp
      have zq := N q (List.mem_append_right _ (List.mem_append_left _ hq))
      by_cases e : q.1 = c
      · rw [if_pos e]; exact ⟨ho', z.2⟩
      · rw [if_neg e]; exact ⟨hs.extBut _ _ e zq.1, zq.2⟩
    · have zp := N p (List.mem_append_right _ (List.mem_append_right _ hp))
      exact ⟨hs.extBut _ _ (hpost p hp) zp.1, zp.2⟩
theorem offC_ne {b : Addr} {r : Led} (x : OffC b r) (k : Nat) (h1 : 1 ≤ k) (h5 : k ≤ 5) : ∀ p ∈ r, p.1 ≠ b + k := fun p hp e => by
  have h := x p hp
  rw [e] at h
  have h2 : @LT.lt Nat _ (b + k) (b + 1) ∨ @LT.lt Nat _ (b + 5) (b + k) := h
  omega
theorem news_assoc {h₀ h : Heap} {L : Addr} {x y : Addr × Obj} {R cs own : Led} (N : News h₀ L h ([] ++ (x :: y :: (R ++ cs)) ++ own)) : News h₀ L h ((x :: y :: R) ++ (cs ++ own)) := fun p hp => N p (by
  simp only [List.nil_append, List.cons_append, List.mem_cons, List.mem_append] at hp ⊢
  rcases hp with h | h | h | h | h <;> simp [h])
theorem news_swap {h₀ h : Heap} {L : Addr} {x y : Addr × Obj} {r : Led} (N : News h₀ L h (x :: y :: r)) : News h₀ L h (y :: x :: r) := fun p hp => N p (by
  simp only [List.mem_cons] at hp ⊢
  rcases hp with h | h | h <;> simp [h])
abbrev lawMap (S P U Z Li Co : Addr) (ou od : Option Value) : Str → Option Value :=
  (fun y => if y = Str.ofString "downs" then od else if y = Str.ofString "ups" then ou else if y = Str.ofString "costs" then some (.ref Co) else if y = Str.ofString "lines" then some (.ref Li) else if y = Str.ofString "turned" then some (.ref Z) else if y = Str.ofString "units" then some (.ref U) else if y = Str.ofString "parts" then some (.ref P) else if y = Str.ofString "script" then some (.ref S) else none)
def widthOf (x : Str) : Int := (Txt.replace x (Str.ofString "\"(\"") (Str.ofString "")).length
def costAt (ps : List Str) (ds : List Int) (c : Nat) : Int := ((List.range 6).map fun k => (ps.map widthOf).getD k 0 * absI (ds.getD k 0 - ds.getD c 0)).sum
def costsUp (ps : List Str) (ds : List Int) (j : Nat) : List Int := (List.range j).map (costAt ps ds)
def LawJ (b S P U Z Li Co Wd Dt : Addr) (sz : Int) (tz : Tok) (ps : List Str) (ds : List Int) (R : Led) (j : Nat) (m : Str → Option Value) (news : Led) : Prop :=
  ∃ ou od ly cy nl nc v4 v5 cs, m = lawMap S P U Z Li Co ou od ∧ news = (Li, lstO (ly : List Value).toArray nl) :: (Co, lstO (cy : List Value).toArray nc) :: (R ++ cs) ∧
    Cells5 b (some (.ref Wd)) (some (.int sz tz)) (some (.ref Dt)) v4 v5 cs ∧ IntsAre ly (costsUp ps ds j) ∧ IntsAre cy (costsUp ps ds j)
def tailS : List Str := [Str.ofString "\"", Str.ofString "\\)", Str.ofString "\\"]
theorem tailS_ok : ∀ x ∈ tailS, Asc x ∧ x.length ≤ 20 := by decide +kernel
def U1 (ps : List Str) : List (Nat × List Nat) := unitsOf (stripS (Txt.join (Str.ofString "") (ps ++ tailS)))
def U2 (ps : List Str) : List (Nat × List Nat) := unitsOf (stripS (Txt.join (Str.ofString "") ((ps.drop 3 ++ ps.take 3) ++ [])))
def pickU (us : List (Nat × List Nat)) (ch : Str) (f : Nat → Int) : List Int := (us.filter (fun u => uStr u == ch)).map (fun u => f u.1)
structure LineOk (ps : List Str) (ds : List Int) (c : Nat) (st sz : Int) : Prop where
  ups : (pickU (U1 ps) (Str.ofString "(") fun x => ((x : Int) - st).fmod sz).length = 3
  downs : (pickU (U1 ps) (Str.ofString ")") fun x => ((x : Int) - st).fmod sz).length = 3
  least : ∀ M, M ∈ perms3.map (costOf (pickU (U1 ps) (Str.ofString "(") fun x => ((x : Int) - st).fmod sz) (pickU (U1 ps) (Str.ofString ")") fun x => ((x : Int) - st).fmod sz) 999) →
      (∀ a, a ∈ perms3.map (costOf (pickU (U1 ps) (Str.ofString "(") fun x => ((x : Int) - st).fmod sz) (pickU (U1 ps) (Str.ofString ")") fun x => ((x : Int) - st).fmod sz) 999) → M ≤ a) → M = costAt ps ds c
structure FinOk (ps : List Str) (ds : List Int) (sz : Int) : Prop where
  ups : (pickU (U2 ps) (Str.ofString "(") fun x => (x : Int)).length = 3
  downs : (pickU (U2 ps) (Str.ofString ")") fun x => (x : Int)).length = 3
  least : ∀ M M', M ∈ perms3.map (costOf (pickU (U2 ps) (Str.ofString "(") fun x => (x : Int)) (pickU (U2 ps) (Str.ofString ")") fun x => (x : Int)) sz) →
      (∀ a, a ∈ perms3.map (costOf (pickU (U2 ps) (Str.ofString "(") fun x => (x : Int)) (pickU (U2 ps) (Str.ofString ")") fun x => (x : Int)) sz) → M ≤ a) →
      M' ∈ costsUp ps ds 6 → (∀ a, a ∈ costsUp ps ds 6 → M' ≤ a) → M = M'
structure Good (ps : List Str) (ds : List Int) : Prop where
  marks : ∃ ms : Nat → List Str, ms 0 = List.replicate 7 (Str.ofString ".") ∧ (∀ j, j ≤ 3 → (ms j).length = 7 ∧ ∀ x ∈ ms j, Asc x ∧ x.length ≤ 10) ∧ (∀ j, j < 3 → Round ps (ms j) (ms (j + 1)) (deepAt j)) ∧ (ms 3).map (fun m => (m.length : Int)) = ds
  dlen : ds.length = 7
  dlast : ds.drop 6 = [2]
  dmax : 4 ∈ ds ∧ ∀ a ∈ ds, a ≤ 4
  len : ps.length = 6
  ok : ∀ x ∈ ps, Asc x ∧ x.length ≤ 20
  wid : ∀ x ∈ ps, widthOf x ≤ 3
  heq1 : ps.flatMap shownOf ++ tailS = (U1 ps).map uStr
  u1last : ((U1 ps).drop ((U1 ps).length - 3)).map (fun u => (u.1 : Int)) = [(ps.map widthOf).sum, (ps.map widthOf).sum + 2, (ps.map widthOf).sum + 3]
  linec : ∀ c, c < 6 → LineOk ps ds c (((ps.map widthOf).take (c + 1)).sum - 1) (ps.map widthOf).sum
  u2len : (U2 ps).length ≤ 100
  fin : FinOk ps ds (ps.map widthOf).sum
  szp : 0 < (ps.map widthOf).sum
  u2ne : U2 ps ≠ []
  u1len : (U1 ps).length ≤ 100
  heq2 : (ps.drop 3 ++ ps.take 3).flatMap shownOf ++ [] = (U2 ps).map uStr
theorem pick_last3 (vs : List Value) : slicePick vs.toArray (some (-3)) none none = (vs.drop (vs.length - 3)).toArray := by
  have e : sliceBounds (some (-3)) none none vs.toArray.size = (((vs.length - 3 : Nat) : Int), ((vs.length : Nat) : Int), 1) := by
    simp only [sliceBounds, Option.getD_none, show (1 : Int) > 0 by decide, if_true, show ((-3 : Int) < 0) by decide, List.size_toArray]
    congr 1
    omega
  rw [kmk_pick_nat _ e]
  rw [List.take_of_length_le (by rw [List.length_drop]; exact Nat.le_refl _)]
theorem slice_last3 {prog : Program} {w : World} {A : Around} {E : Value → Shared → Prop} {s : Shared} {h₀ : Heap} {L : Addr} {m : Str → Option Value} {news : Led} {value slice : PySem.Expr} {l : Addr} {vs : List Value} {t : Tok} {Q : Value → Shared → Prop}
    (F : Fr h₀ L s.heap m) (N : News h₀ L s.heap news) (hl : s.heap.IsList l vs.toArray) (hsz : vs.length ≤ sizeLine)
    (h : ∀ h' D, Fr h₀ L h' m → News h₀ L h' ((D, lstO (vs.drop (vs.length - 3)).toArray 0) :: news) → Q (.ref D) { s with heap := h' })
    (hs : subscripted slice false (.ref l) (.ref s.heap.objs.size) = operate [.ref s.heap.objs.size, .ref l] (getItem (.ref l) (.ref s.heap.objs.size)))
    (ht : ∀ r, letTemporaryGo value (.ref l) r = pure ()) :
    wpAny (model prog w) A (subscriptTail value slice (.ref l) (.ref s.heap.objs.size)) Q E { s with heap := s.heap.push { cls := .type "slice", data := .fields #[.int (-3) t, .none, .none] } } := by
  refine slice_list F N hl (.int (-3) t) .none (fun h' F' N' => ?_) hs ht (by rw [List.size_toArray]; exact hsz)
  rw [pick_last3] at N'
  exact h h' _ F' N'
theorem slice_from_ints {prog : Program} {w : World} {A : Around} {E : Value → Shared → Prop} {s : Shared} {h₀ : Heap} {L : Addr} {m : Str → Option Value} {news : Led} {value slice : PySem.Expr} {l : Addr} {vs : List Value} {ns : List Int} {k : Nat} {t : Tok} {Q : Value → Shared → Prop}
    (F : Fr h₀ L s.heap m) (N : News h₀ L s.heap news) (hl : s.heap.IsList l vs.toArray) (hvs : IntsAre vs ns) (hsz : vs.length ≤ sizeLine)
    (h : ∀ h' D ws, Fr h₀ L h' m → News h₀ L h' ((D, lstO (ws : List Value).toArray 0) :: news) → IntsAre ws (ns.drop k) → Q (.ref D) { s with heap := h' })
    (hs : subscripted slice false (.ref l) (.ref s.heap.objs.size) = operate [.ref s.heap.objs.size, .ref l] (getItem (.ref l) (.ref s.heap.objs.size)))
    (ht : ∀ r, letTemporaryGo value (.ref l) r = pure ()) :
    wpAny (model prog w) A (subscriptTail value slice (.ref l) (.ref s.heap.objs.size)) Q E { s with heap := s.heap.push { cls := .type "slice", data := .fields #[.int k t, .none, .none] } } := by
  refine slice_list F N hl (.int k t) .none (fun h' F' N' => ?_) hs ht (by rw [List.size_toArray]; exact hsz)
  rw [slicePick_from' vs.toArray k] at N'
  exact h h' _ _ F' N' (hvs.drop k)
theorem slice_upto_ints {prog : Program} {w : World} {A : Around} {E : Value → Shared → Prop} {s : Shared} {h₀ : Heap} {L : Addr} {m : Str → Option Value} {news : Led} {value slice : PySem.Expr} {l : Addr} {vs : List Value} {ns : List Int} {k : Nat} {t : Tok} {Q : Value → Shared → Prop}
    (F : Fr h₀ L s.heap m) (N : News h₀ L s.heap news) (hl : s.heap.IsList l vs.toArray) (hvs : IntsAre vs ns) (hsz : vs.length ≤ sizeLine)
    (h : ∀ h' D ws, Fr h₀ L h' m → News h₀ L h' ((D, lstO (ws : List Value).toArray 0) :: news) → IntsAre ws (ns.take k) → Q (.ref D) { s with heap := h' })
    (hs : subscripted slice false (.ref l) (.ref s.heap.objs.size) = operate [.ref s.heap.objs.size, .ref l] (getItem (.ref l) (.ref s.heap.objs.size)))
    (ht : ∀ r, letTemporaryGo value (.ref l) r = pure ()) :
    wpAny (model prog w) A (subscriptTail value slice (.ref l) (.ref s.heap.objs.size)) Q E { s with heap := s.heap.push { cls := .type "slice", data := .fields #[.none, .int k t, .none] } } := by
  refine slice_list F N hl .none (.int k t) (fun h' F' N' => ?_) hs ht (by rw [List.size_toArray]; exact hsz)
  rw [slicePick_upto' vs.toArray k] at N'
  exact h h' _ _ F' N' (hvs.take k)
theorem ufilt_succ {us : List (Nat × List Nat)} {p : (Nat × List Nat) → Bool} {j : Nat} {y : Nat × List Nat} (h : us[j]? = some y) : (us.take (j + 1)).filter p = (us.take j).filter p ++ (if p y = true then [y] else []) := by
  rw [List.take_add_one, h, List.filter_append]
  congr 1
  rw [Option.toList_some, List.filter_cons]
  split <;> rfl
theorem comp_done_use2 {prog : Program} {w : World} {A : Around} {E : Value → Shared → Prop} {env : Env} {h₀ : Heap} {m : Str → Option Value} {news : Led} {D C : Addr} {ys : List Value} {s' s₀ : Shared} {mC : Str → Option Value} {Q' : Shared → Prop} {y : Str} {py : Pos}
    (F : Fr h₀ env.locals s'.heap m) (N : News h₀ env.locals s'.heap ((D, LCg.lst ys) :: news)) (nC : s'.heap.Ns C mC) (hCD : C ≠ D) (hCL : C ≠ env.locals) (hC0 : h₀.get? C = none) (hCn : ∀ p ∈ news, p.1 ≠ C) (S : Side s₀ s')
    (hy : env.kindOf y = some .local) (hk : (env.scope.kind == .class || (env.scope.kind == .module && env.locals != env.globals)) = false)
    (h : ∀ s'', Fr h₀ env.locals s''.heap (fun z => if z = y then some (.ref D) else m z) → News h₀ env.locals s''.heap ((D, LCg.lst ys) :: news) → Side s₀ s'' → Q' s'') :
    compPost (model prog w) A E (some (assign (.Name y py) env)) (fun _ s' => Q' s') (.ref D) C (.ok .next) s' :=
  comp_done_use (Q := fun _ s' => Q' s') F N nC hCD hCL hC0 hCn S hy hk h
theorem width_lt {ps : List Str} (hw : ∀ x ∈ ps, widthOf x ≤ 3) {k : Nat} : 0 ≤ (ps.map widthOf).getD k 0 ∧ (ps.map widthOf).getD k 0 ≤ 3 := by
  rw [List.getD_eq_getElem?_getD, List.getElem?_map]
  cases h : ps[k]? with
  | none => exact ⟨by decide, by decide⟩
  | some x => exact ⟨by show 0 ≤ widthOf x; unfold widthOf; omega, hw x (List.mem_of_getElem? h)⟩
theorem small_bits {a : Int} (h : 0 ≤ a ∧ a ≤ 3) : Builtin.Int.intBits a ≤ 64 := by
  have : a = 0 ∨ a = 1 ∨ a = 2 ∨ a = 3 := by omega
  rcases this with rfl | rfl | rfl | rfl <;> decide
theorem news_holds {h₀ h h' : Heap} {L : Addr} {m : Str → Option Value} {led : Led} (hh : Holds h' led) (hn : ∀ p ∈ led, h.get? p.1 = none) (F : Fr h₀ L h m) : News h₀ L h' led := fun p hp => ⟨hh p hp, news_none F (hn p hp)⟩
theorem reveal {oc oc' : Value} {od od' : Option Addr} {osl osl' : Array (Option Value)} {x : Option Obj} {n : Str} {ps ps' : Arguments} {bd bd' : List Stmt} {sc sc' : Scope} {pm pm' cd cd' doc doc' : Value}
    (h : x = some ⟨oc, od, .func (docDef n ps bd sc pm cd doc), osl⟩) (h' : x = some ⟨oc', od', .func (docDef n ps' bd' sc' pm' cd' doc'), osl'⟩) : bd = bd' ∧ sc = sc' := by
  rw [h] at h'
  injection h' with e
  injection e with _ _ e _
  injection e with e
  have e1 : (docDef n ps bd sc pm cd doc).body = (docDef n ps' bd' sc' pm' cd' doc').body := congrArg _ e
  have e2 : (docDef n ps bd sc pm cd doc).scope = (docDef n ps' bd' sc' pm' cd' doc').scope := congrArg _ e
  injection e1 with e1
  exact ⟨e1, e2⟩
set_option maxHeartbeats 4000000 in
theorem law_body {w : World} {A : Around} {s : Shared} {S : Addr} {sv : List Value} {sn : List Int} {QF : Flow → Shared → Prop} {mean mg mb} (hS : s.heap.IsList S sv.toArray) (hsv : IntsAre sv sn) (hsn : sn.length ≤ 63)
  (X : (hd.heap_39 w.params).In s.heap) (T : Top hd.view_39 LO mean mg mb s.heap) (hh : A.handled = none) (hr : A.depth + 80 < recursionLimit) (hu : A.units + 300 < cLine)
  (HG : ∀ ks : List Int, ks.length = 6 → ∃ ds, Good (partsUp ks 6).told ds)
  {fa : Addr} {cdv : Value} {oc : Value} {od : Option Addr} {osl : Array (Option Value)} {pm cd0 doc : Value} {params : Arguments} {body : List Stmt} {scope : Scope}
  (hb : (hd.heap_39 w.params).lookup 110 = some ⟨oc, od, .func (docDef (Str.ofString "law") params body scope pm cd0 doc), osl⟩)
  {h₁ : Heap} {tk : Nat} {o1 o2 o3 o4 o5 : Obj} (F : Fr s.heap s.heap.objs.size h₁ (fun y => if y = Str.ofString "script" then some (.ref S) else none))
  (N : News s.heap s.heap.objs.size h₁ [(s.heap.objs.size + 1 + 1 + 1 + 1 + 1, o1), (s.heap.objs.size + 1 + 1 + 1 + 1, o2), (s.heap.objs.size + 1 + 1 + 1, o3), (s.heap.objs.size + 1 + 1, o4), (s.heap.objs.size + 1, o5)])
  (hc1 : o1.data = .cell none) (hc2 : o2.data = .cell none) (hc3 : o3.data = .cell none) (hc4 : o4.data = .cell none) (hc5 : o5.data = .cell none)
  (h : ∀ s', Ext s s' → QF (.ret (.bool true)) s') :
  wpAny (model TP w) (A.deeper (envOfC (Str.ofString "law") scope s.heap.objs.size fa cdv)) (execs body (envOfC (Str.ofString "law") scope s.heap.objs.size fa cdv)) QF NoE { s with heap := h₁, toks := tk } := by
  obtain ⟨eb, es⟩ := reveal hb (by k_dflt k_is)
  rw [eb, es]
  clear eb es hb
  obtain ⟨cs, N', hC⟩ : ∃ cs, News s.heap s.heap.objs.size h₁ ([] ++ cs) ∧ Cells5 s.heap.objs.size none none none none none cs := ⟨_, rev5 N, _, _, _, _, _, rfl, hc5, hc4, hc3, hc2, hc1⟩
  clear N hc1 hc2 hc3 hc4 hc5
  rename News _ _ _ _ => N
  iterate 12 (first | (k_unfold; (try dsimp only)) | (k_end; wrow_close) | walk1 | (dsimp only; walk1) | (leave1; walk_say "STEP leave1"; try dsimp only))
  refine ⟨X.keeps F.keep, ?_⟩
  refine cells_c (isList_keep hS F.keep) hsv (by omega) (X.keeps F.keep) (T.keeps F.keep) hh (by show A.depth + 1 + 40 < _; omega) fun s₁ Lc oC nC cv Ex₁ hLc0 hLc hcC hdC hcv => ?_
  have F₁ := fr_ext F Ex₁
  have N₁ := news_ext N Ex₁
  clear F N
  (first | (k_unfold; (try dsimp only)) | (k_end; wrow_close) | walk1 | (dsimp only; walk1) | (leave1; walk_say "STEP leave1"; try dsimp only))
  refine ⟨X.keeps F₁.keep, ?_⟩
  refine parts_c ⟨oC, hLc, hcC, nC, hdC⟩ hcv (by rw [cellsUp_len]; exact Nat.le_refl _) (X.keeps F₁.keep) (T.keeps F₁.keep) hh (by show A.depth + 1 + 40 < _; omega) fun s₂ P cP pv Ex₂ hP0 hP hpv => ?_
  have F₂ := fr_ext F₁ Ex₂
  have N₂ := news_cons (news_ext N₁ Ex₂) hP (news_none F₁ hP0)
  rw [cellsUp_len] at hpv
  obtain ⟨ds, G⟩ := HG (cellsUp sn sn.length) (cellsUp_len _ _)
  generalize hps : (partsUp (cellsUp sn sn.length) 6).told = ps at hpv G
  have hpn : ps.length = 6 := G.len
  have hp : ∀ x ∈ ps, Asc x ∧ x.length ≤ 20 := G.ok
  have hw : ∀ x ∈ ps, widthOf x ≤ 3 := G.wid
  have hoP : P < s.heap.objs.size + 1 ∨ s.heap.objs.size + 5 < P := hC.off (fun p hp => N₁ p hp) hP0
  clear F₁ N₁
  iterate 4 (first | (k_unfold; (try dsimp only)) | (k_end; wrow_close) | walk1 | (dsimp only; walk1) | (leave1; walk_say "STEP leave1"; try dsimp only))
  rename Fr _ _ _ _ => F₃
  rename News _ _ _ _ => N₃
  refine comp_eval [] ?q1 ?q2 ?q3 ?_
  case q1 => rfl
  case q2 => rfl
  case q3 => decide
  (first | (k_unfold; (try dsimp only)) | (k_end; wrow_close) | walk1 | (dsimp only; walk1) | (leave1; walk_say "STEP leave1"; try dsimp only))
  have hpl : pv.length = 6 := by rw [strs_len hpv]; exact hpn
  refine start_list F₃ N₃ (News.isList N₃ (.head _)) fun I₃ own₃ s₃ hI₃ st₃ F₄ N₄ off₄ S₄ Ex₄ => ?_
  refine comp_block (iter_list ?hh2 _ I₃ _ _ hI₃) (fun h _ hn => ⟨_, hn _ (.head _), rfl, _, rfl⟩) (fun _ => trivial) (fun _ _ _ _ _ => trivial) ?hsz2 ?hcell2 ?hkind2
    (fun j ys => IntsAre ys ((ps.take j).map widthOf)) st₃ F₄ N₄ off₄ .nil (fun j ys hj => ?hlen2) ?turn2 ?done2
  case hh2 => exact hh
  case hsz2 => rw [hpl, sizeLine_eq]; decide
  case hcell2 => decide
  case hkind2 => rfl
  case hlen2 => rw [ints_len hj, List.length_map, List.length_take]; exact Nat.min_le_left _ _
  case turn2 =>
    rintro j v extra rest ys₂ C mC s₅' hj ⟨hv, rfl⟩ hys F N S
    obtain ⟨x, tx, rfl, hx⟩ := strs_get hpv hv
    have hxl := (hp x (List.mem_of_getElem? hx)).2
    refine assign_nm F N (fun h₄ F₄ N₄ => ?_) ?ha ?hb
    case ha => rfl
    case hb => rfl
    rw [List.forIn_nil]
    refine wpAny_pure ?_
    rw [if_pos rfl]
    clear F N
    iterate 5 (first | (k_unfold; (try dsimp only)) | (k_end; wrow_close) | walk1 | (dsimp only; walk1) | (leave1; walk_say "STEP leave1"; try dsimp only))
    refine name_l F₄ (v := .str x tx) ?l1 ?l2 ?l3 ?_
    case l1 => rfl
    case l2 => rfl
    case l3 => rfl
    iterate 7 (first | (k_unfold; (try dsimp only)) | (k_end; wrow_close) | walk1 | (dsimp only; walk1) | (leave1; walk_say "STEP leave1"; try dsimp only))
    refine SC.replaceW (Nat.succ_ne_zero _) (Nat.succ_ne_zero _) (Nat.ne_of_lt (Nat.lt_succ_self _)) ?hyz ?hxl ?hzl fun t₂ k₂ => ?_
    case hyz => decide
    case hxl => exact Nat.le_trans hxl (by decide)
    case hzl => decide
    (first | (k_unfold; (try dsimp only)) | (k_end; wrow_close) | walk1 | (dsimp only; walk1) | (leave1; walk_say "STEP leave1"; try dsimp only))
    have hwx := hw x (List.mem_of_getElem? hx)
    unfold widthOf at hwx
    refine PySem.P.len_str (by omega) ?_
    refine ⟨?_, ⟨_, F₄⟩, N₄, ⟨rfl, _root_.id⟩, trivial⟩
    rw [List.take_add_one, hx, List.map_append]
    exact hys.append (.cons _ _ .nil)
  case done2 =>
    intro Wd C wv s₄ mC hwv F N hlt nC hCD hCL hC0 hCn S₅
    refine comp_done F N nC hCD hCL hC0 hCn S₅ fun s₅ F₅ N₅ S₆ => ?_
    clear F N
    rw [List.take_of_length_le (by omega)] at hwv
    have hoW : Wd < s.heap.objs.size + 1 ∨ s.heap.objs.size + 5 < Wd := hC.above fun p hp => hlt p (.tail _ hp)
    obtain ⟨ow, hmw, hdw⟩ := hC.at1
    refine store_cell (rest := [(Wd, LCg.lst wv), (P, W.listOf pv.toArray cP)]) (b := s.heap.objs.size) F₅ N₅ hmw hdw ?ho1 ?hb1 (fun h₆ ow' hdw' F₆ N₆ => ?_) ?hk1 ?hl1 ?hcl1
    case ho1 => exact offC_cons hoW (offC_cons hoP offC_nil)
    case hb1 => exact ⟨Nat.le_refl _, by show @LE.le Nat _ (s.heap.objs.size + 1) (s.heap.objs.size + 5); omega⟩
    case hk1 => rfl
    case hl1 => rfl
    case hcl1 => rfl
    replace hC := hC.up1 hdw'
    clear F₅ N₅ hmw hdw
    generalize updC (s.heap.objs.size + 1) ow' cs = cs at N₆ hC
    iterate 6 (first | (k_unfold; (try dsimp only)) | (k_end; wrow_close) | walk1 | (dsimp only; walk1) | (leave1; walk_say "STEP leave1"; try dsimp only))
    obtain ⟨ow, hmw, hdw⟩ := hC.at1
    refine name_c N₆ (List.mem_append_right _ hmw) hdw ?e1 ?e2 ?e3 ?_
    case e1 => rfl
    case e2 => rfl
    case e3 => rfl
    clear hmw hdw
    (first | (k_unfold; (try dsimp only)) | (k_end; wrow_close) | walk1 | (dsimp only; walk1) | (leave1; walk_say "STEP leave1"; try dsimp only))
    refine sumK hh F₆ N₆ (News.isList N₆ (.head _)) hwv fun h₇ tk₇ t₇ F₇ N₇ => ?_
    clear F₆ N₆
    have hszp := G.szp
    generalize hsz : (ps.map widthOf).sum = sz at hszp
    obtain ⟨ow, hmw, hdw⟩ := hC.at2
    refine store_cell (rest := [(Wd, LCg.lst wv), (P, W.listOf pv.toArray cP)]) (b := s.heap.objs.size) F₇ N₇ hmw hdw ?ho1 ?hb1 (fun h₆ ow' hdw' F₆ N₆ => ?_) ?hk1 ?hl1 ?hcl1
    case ho1 => exact offC_cons hoW (offC_cons hoP offC_nil)
    case hb1 => exact ⟨by show @LE.le Nat _ (s.heap.objs.size + 1) (s.heap.objs.size + 2); omega, by show @LE.le Nat _ (s.heap.objs.size + 2) (s.heap.objs.size + 5); omega⟩
    case hk1 => rfl
    case hl1 => rfl
    case hcl1 => rfl
    replace hC := hC.up2 hdw'
    clear F₇ N₇ hmw hdw
    generalize updC (s.heap.objs.size + 2) ow' cs = cs at N₆ hC
    iterate 18 (first | (k_unfold; (try dsimp only)) | (k_end; wrow_close) | walk1 | (dsimp only; walk1) | (leave1; walk_say "STEP leave1"; try dsimp only))
    rename Fr _ _ _ _ => F₈
    rename News _ _ _ _ => N₈
    replace F₈ : Fr s.heap s.heap.objs.size _ _ := F₈
    obtain ⟨tv, htv, N₈'⟩ : ∃ tv : List Value, StrsAre tv tailS ∧ News s.heap s.heap.objs.size _ ((_, lstO tv.toArray 0) :: ([(Wd, LCg.lst wv), (P, W.listOf pv.toArray cP)] ++ cs)) := ⟨_, .cons _ _ (.cons _ _ (.cons _ _ .nil)), N₈⟩
    refine ⟨X.keeps F₈.keep, ?_⟩
    refine units_c (News.isList N₈' (.tail _ (.tail _ (.head _)))) hpv (News.isList N₈' (.head _)) htv hp (by omega) tailS_ok (by decide) (X.keeps F₈.keep) (T.keeps F₈.keep) hh (by show A.depth + 1 + 40 < _; omega) (by show A.units + 3 + 200 < _; omega) G.heq1 fun s₉ U cU uv ul Ex₉ hU0 hUh hun => ?_
    have F₉ := fr_ext F₈ Ex₉
    replace hun : UnitsAre uv ul (U1 ps) := hun
    have N₉ := news_app (news_holds hUh hU0 F₈) (news_ext N₈' Ex₉)
    have hoU : OffC s.heap.objs.size ((U, lstO uv.toArray cU) :: ul) := fun p hp => hC.off (fun q hq => N₈' q (.tail _ (List.mem_append_right _ hq))) (hU0 p hp)
    clear F₈ N₈ N₈' 
    iterate 4 (first | (k_unfold; (try dsimp only)) | (k_end; wrow_close) | walk1 | (dsimp only; walk1) | (leave1; walk_say "STEP leave1"; try dsimp only))
    rename Fr _ _ _ _ => F₁₀
    rename News _ _ _ _ => N₁₀
    replace F₁₀ : Fr s.heap s.heap.objs.size _ _ := F₁₀
    have hP₁₀ := News.isList N₁₀ (a := P) (List.mem_append_right _ (.tail _ (.tail _ (.head _))))
    iterate 12 (first | (k_unfold; (try dsimp only)) | (k_end; wrow_close) | walk1 | (dsimp only; walk1) | (leave1; walk_say "STEP leave1"; try dsimp only))
    refine slice_from_strs (k := 3) (s := ⟨_, _, _, _, _⟩) F₁₀ N₁₀ hP₁₀ hpv (by omega) ?hsz2 (fun h₈ D₈ dv F₈ N₈ hdv => ?_) ?hs2 ?ht2
    case hsz2 => rw [hpl, sizeLine_eq]; decide
    case hs2 => with_unfolding_all rfl
    case ht2 => intro _; with_unfolding_all rfl
    have hP₈ := News.isList N₈ (a := P) (.tail _ (List.mem_append_right _ (.tail _ (.tail _ (.head _)))))
    clear F₁₀ N₁₀ hP₁₀
    iterate 7 (first | (k_unfold; (try dsimp only)) | (k_end; wrow_close) | walk1 | (dsimp only; walk1) | (leave1; walk_say "STEP leave1"; try dsimp only))
    refine slice_upto_strs (k := 3) (s := ⟨_, _, _, _, _⟩) F₈ N₈ hP₈ hpv (by omega) ?hsz3 (fun h₉ D₉ tv₉ F₉ N₉ htv₉ => ?_) ?hs3 ?ht3
    case hsz3 => rw [hpl, sizeLine_eq]; decide
    case hs3 => with_unfolding_all rfl
    case ht3 => intro _; with_unfolding_all rfl
    clear F₈ N₈ hP₈
    refine add_lists F₉ N₉ (News.isList N₉ (.tail _ (.head _))) (News.isList N₉ (.head _)) (fun h₁₀ F₁₀ N₁₀ => ?_) ?hsz4
    case hsz4 => rw [strs_len hdv, strs_len htv₉, List.length_drop, List.length_take, sizeLine_eq]; omega
    clear F₉ N₉
    iterate 5 (first | (k_unfold; (try dsimp only)) | (k_end; wrow_close) | walk1 | (dsimp only; walk1) | (leave1; walk_say "STEP leave1"; try dsimp only))
    rename Fr _ _ _ _ => F₁₁
    rename News _ _ _ _ => N₁₁
    replace F₁₁ : Fr s.heap s.heap.objs.size _ _ := F₁₁
    refine ⟨X.keeps F₁₁.keep, ?_⟩
    have hp3 : ∀ x ∈ ps.drop 3 ++ ps.take 3, Asc x ∧ x.length ≤ 20 := fun x hx => (List.mem_append.mp hx).elim (fun h => hp x (List.mem_of_mem_drop h)) (fun h => hp x (List.mem_of_mem_take h))
    refine units_c (us := []) (News.isList N₁₁ (.tail _ (.head _))) (strs_app hdv htv₉) (News.isList N₁₁ (.head _)) .nil hp3 (by rw [List.length_append, List.length_drop, List.length_take]; omega) (fun x hx => nomatch hx) (by decide) (X.keeps F₁₁.keep) (T.keeps F₁₁.keep) hh (by show A.depth + 1 + 40 < _; omega) (by show A.units + 3 + 200 < _; omega) G.heq2 fun s₁₀ Z cZ zv zl Ex₁₀ hZ0 hZh hzn => ?_
    have F₁₂ := fr_ext F₁₁ Ex₁₀
    replace hzn : UnitsAre zv zl (U2 ps) := hzn
    have N₁₂ := news_app (news_holds hZh hZ0 F₁₁) (news_ext N₁₁ Ex₁₀)
    have hoZ : OffC s.heap.objs.size ((Z, lstO zv.toArray cZ) :: zl) := fun p hp => hC.off (fun q hq => N₁₁ q (.tail _ (.tail _ (.tail _ (.tail _ (List.mem_append_right _ (.tail _ (List.mem_append_right _ hq)))))))) (hZ0 p hp)
    clear F₁₁ N₁₁
    have N₁₃ : News s.heap s.heap.objs.size s₁₀.heap (((Z, lstO zv.toArray cZ) :: zl ++ ((U, lstO uv.toArray cU) :: ul ++ [(Wd, LCg.lst wv), (P, W.listOf pv.toArray cP)])) ++ cs) := news_sub N₁₂ (fun p hp => by
      simp only [List.mem_append, List.mem_cons, List.not_mem_nil, or_false] at hp ⊢
      rcases hp with (h | h | h) | h
      · exact .inl h
      · exact .inr (.inr (.inr (.inr (.inr (.inl h)))))
      · exact .inr (.inr (.inr (.inr (.inr (.inr (.inr (.inl h)))))))
      · exact .inr (.inr (.inr (.inr (.inr (.inr (.inr (.inr h))))))))
    have hoR : OffC s.heap.objs.size ((Z, lstO zv.toArray cZ) :: zl ++ ((U, lstO uv.toArray cU) :: ul ++ [(Wd, LCg.lst wv), (P, W.listOf pv.toArray cP)])) := offC_app hoZ (offC_app hoU (offC_cons hoW (offC_cons hoP offC_nil)))
    clear N₁₂
    iterate 6 (first | (k_unfold; (try dsimp only)) | (k_end; wrow_close) | walk1 | (dsimp only; walk1) | (leave1; walk_say "STEP leave1"; try dsimp only))
    rename Fr _ _ _ _ => F₁₃
    rename News _ _ _ _ => N₁₄
    replace F₁₃ : Fr s.heap s.heap.objs.size _ _ := F₁₃
    have hUm : ∀ {r : Led} {x : Addr × Obj}, x ∈ (U, lstO uv.toArray cU) :: ul → x ∈ ((Z, lstO zv.toArray cZ) :: zl ++ ((U, lstO uv.toArray cU) :: ul ++ [(Wd, LCg.lst wv), (P, W.listOf pv.toArray cP)])) ++ r := fun hx => List.mem_append_left _ (List.mem_append_right _ (List.mem_append_left _ hx))
    refine comp_eval [] ?q1 ?q2 ?q3 ?_
    case q1 => rfl
    case q2 => rfl
    case q3 => decide
    iterate 9 (first | (k_unfold; (try dsimp only)) | (k_end; wrow_close) | walk1 | (dsimp only; walk1) | (leave1; walk_say "STEP leave1"; try dsimp only))
    have hUl : Heap.IsList _ U uv.toArray := News.isList N₁₄ (hUm (.head _))
    refine slice_last3 (s := ⟨_, _, _, _, _⟩) F₁₃ N₁₄ hUl ?hsz5 (fun h₁₅ D₅ F₁₅ N₁₅ => ?_) ?hs5 ?ht5
    case hsz5 => rw [hun.len]; exact Nat.le_trans G.u1len (by rw [sizeLine_eq]; decide)
    case hs5 => with_unfolding_all rfl
    case ht5 => intro _; with_unfolding_all rfl
    clear F₁₃ N₁₄ hUl
    refine start_list F₁₅ N₁₅ (News.isList N₁₅ (.head _)) fun I₄ own₄ s₁₁ hPI₄ st₄ F₁₆ N₁₆ off₁₆ S₁₆ Ex₁₆ => ?_
    refine comp_block (iter_list ?hh2 _ I₄ _ _ hPI₄) (fun h _ hn => ⟨_, hn _ (.head _), rfl, _, rfl⟩) (fun _ => trivial) (fun _ _ _ _ _ => trivial) ?hsz2 ?hcell2 ?hkind2
      (fun j ys => IntsAre ys ((((U1 ps).drop (uv.length - 3)).take j).map fun u => (u.1 : Int))) st₄ F₁₆ N₁₆ off₁₆ .nil (fun j ys hj => ?hlen2) ?turn3 ?done3
    case hh2 => exact hh
    case hsz2 => rw [List.length_drop, hun.len]; exact Nat.le_trans (Nat.sub_le _ _) (Nat.le_trans G.u1len (by rw [sizeLine_eq]; decide))
    case hcell2 => decide
    case hkind2 => rfl
    case hlen2 => rw [ints_len hj, List.length_map, List.length_take]; exact Nat.min_le_left _ _
    case turn3 =>
      rintro j v extra rest ys₂ C mC s₅' hj ⟨hv, rfl⟩ hys F N S
      rw [List.getElem?_drop] at hv
      obtain ⟨Tj, t1, t2, u, rfl, hu', hmem⟩ := hun.get hv
      refine assign_pair hh F N (List.mem_append_left _ (.tail _ (hUm (.tail _ hmem)))) (fun h₄ F₄ N₄ => ?_) ?ha ?hb ?hc
      case ha => rfl
      case hb => rfl
      case hc => rfl
      rw [List.forIn_nil]
      refine wpAny_pure ?_
      rw [if_pos rfl]
      refine name_l F₄ (v := .int u.1 t1) ?l1 ?l2 ?l3 ?_
      case l1 => rfl
      case l2 => rfl
      case l3 => rfl
      refine ⟨?_, ⟨_, F₄⟩, N₄, ⟨rfl, _root_.id⟩, trivial⟩
      rw [List.take_add_one, List.getElem?_drop, hu', List.map_append]
      exact hys.append (.cons _ _ .nil)
    case done3 =>
      intro D₆ C ys₂ s₁₂ mC hys F N hlt nC hCD hCL hC0 hCn S₂
      refine comp_done F N nC hCD hCL hC0 hCn S₂ fun s₁₃ F₁₇ N₁₇ S₁₇ => ?_
      clear F N
      have hn3 : (uv.drop (uv.length - 3)).length = ((U1 ps).drop (uv.length - 3)).length := by rw [List.length_drop, List.length_drop, hun.len]
      rw [hn3, List.take_length] at hys
      rw [hun.len, G.u1last, hsz] at hys
      obtain ⟨ow, hmw, hdw⟩ := hC.at2
      iterate 2 (first | (k_unfold; (try dsimp only)) | (k_end; wrow_close) | walk1 | (dsimp only; walk1) | (leave1; walk_say "STEP leave1"; try dsimp only))
      refine name_c N₁₇ (.tail _ (.tail _ (List.mem_append_right _ hmw))) hdw ?e1 ?e2 ?e3 ?_
      case e1 => rfl
      case e2 => rfl
      case e3 => rfl
      iterate 2 (first | (k_unfold; (try dsimp only)) | (k_end; wrow_close) | walk1 | (dsimp only; walk1) | (leave1; walk_say "STEP leave1"; try dsimp only))
      refine name_c N₁₇ (.tail _ (.tail _ (List.mem_append_right _ hmw))) hdw ?e1 ?e2 ?e3 ?_
      case e1 => rfl
      case e2 => rfl
      case e3 => rfl
      iterate 4 (first | (k_unfold; (try dsimp only)) | (k_end; wrow_close) | walk1 | (dsimp only; walk1) | (leave1; walk_say "STEP leave1"; try dsimp only))
      refine name_c N₁₇ (.tail _ (.tail _ (List.mem_append_right _ hmw))) hdw ?e1 ?e2 ?e3 ?_
      case e1 => rfl
      case e2 => rfl
      case e3 => rfl
      iterate 3 (first | (k_unfold; (try dsimp only)) | (k_end; wrow_close) | walk1 | (dsimp only; walk1) | (leave1; walk_say "STEP leave1"; try dsimp only))
      refine newList_N F₁₇ N₁₇ (fun h₁₈ F₁₈ N₁₈ => ?_) ?hz7
      case hz7 => show 3 ≤ sizeLine; rw [sizeLine_eq]; decide
      clear F₁₇ N₁₇ hmw hdw
      refine ne_intsK (News.isList N₁₈ (.tail _ (.head _))) hys (News.isList N₁₈ (.head _)) (.cons _ _ (.cons _ _ (.cons _ _ .nil))) (by show A.units + 3 + 64 < cLine; omega) ?_
      rw [decide_eq_true rfl]
      iterate 7 (first | (k_unfold; (try dsimp only)) | (k_end; wrow_close) | walk1 | (dsimp only; walk1) | (leave1; walk_say "STEP leave1"; try dsimp only))
      refine newList_N F₁₈ N₁₈ (fun h₁₉ F₁₉ N₁₉ => ?_) ?hz8
      case hz8 => exact Nat.zero_le _
      clear F₁₈ N₁₈
      have hzl : zv.length ≠ 0 := by rw [hzn.len]; exact fun e => G.u2ne (List.length_eq_zero_iff.mp e)
      have hZl : Heap.IsList _ Z zv.toArray := News.isList N₁₉ (.tail _ (.tail _ (.tail _ (.tail _ (List.mem_append_left _ (List.mem_append_left _ (.head _)))))))
      show wpAny _ _ (richCompare .Eq (.ref Z) (.ref _)) _ _ _
      refine SeqAt.RcAt.lists_lengths (items2 := #[]) hZl (News.isList N₁₉ (.head _)) ?hszz ?huu _ _ _ _ ?_
      case hszz => rw [List.size_toArray]; simpa using hzl
      case huu => show A.units + 3 < cLine; omega
      clear hZl
      iterate 3 (first | (k_unfold; (try dsimp only)) | (k_end; wrow_close) | walk1 | (dsimp only; walk1) | (leave1; walk_say "STEP leave1"; try dsimp only))
      rw [if_neg Bool.false_ne_true]
      refine wpAny_execs_nil ?_
      dsimp only
      have N₂₀ := news_sub N₁₉ (news' := ((Z, lstO zv.toArray cZ) :: zl ++ ((U, lstO uv.toArray cU) :: ul ++ [(Wd, LCg.lst wv), (P, W.listOf pv.toArray cP)])) ++ cs) (fun p hp => .tail _ (.tail _ (.tail _ (.tail _ hp))))
      clear N₁₉
      iterate 8 (first | (k_unfold; (try dsimp only)) | (k_end; wrow_close) | walk1 | (dsimp only; walk1) | (leave1; walk_say "STEP leave1"; try dsimp only))
      rename Fr _ _ _ _ => F₂₀
      rename News _ _ _ _ => N₂₁
      replace F₂₀ : Fr s.heap s.heap.objs.size _ _ := F₂₀
      refine ⟨X.keeps F₂₀.keep, ?_⟩
      have hPm : ∀ {r : Led} {x : Addr × Obj}, x ∈ [(Wd, LCg.lst wv), (P, W.listOf pv.toArray cP)] → x ∈ ((Z, lstO zv.toArray cZ) :: zl ++ ((U, lstO uv.toArray cU) :: ul ++ [(Wd, LCg.lst wv), (P, W.listOf pv.toArray cP)])) ++ r := fun hx => List.mem_append_left _ (List.mem_append_right _ (List.mem_append_right _ hx))
      obtain ⟨ms, hms0, hmsb, hmsr, hms3⟩ := G.marks
      refine marks_c (News.isList N₂₁ (hPm (.tail _ (.head _)))) hpv hp hpn ms hms0 hmsb hmsr (X.keeps F₂₀.keep) (T.keeps F₂₀.keep) hh (by show A.depth + 1 + 60 < _; omega) (by show A.units + 3 + 200 < _; omega) fun s₁₄ Dt cD dv₂ Ex₁₄ hDt0 hDt hdt => ?_
      rw [hms3] at hdt
      have F₂₂ := fr_ext F₂₀ Ex₁₄
      have N₂₂ := news_cons (news_ext N₂₁ Ex₁₄) hDt (news_none F₂₀ hDt0)
      have hoD : OffC s.heap.objs.size ((Dt, lstO dv₂.toArray cD) :: ((Z, lstO zv.toArray cZ) :: zl ++ ((U, lstO uv.toArray cU) :: ul ++ [(Wd, LCg.lst wv), (P, W.listOf pv.toArray cP)]))) := offC_cons (hC.off (fun q hq => N₂₁ q (List.mem_append_right _ hq)) hDt0) hoR
      clear F₂₀ N₂₁ hoR
      obtain ⟨ow, hmw, hdw⟩ := hC.at3
      refine store_cell (rest := (Dt, lstO dv₂.toArray cD) :: ((Z, lstO zv.toArray cZ) :: zl ++ ((U, lstO uv.toArray cU) :: ul ++ [(Wd, LCg.lst wv), (P, W.listOf pv.toArray cP)]))) (b := s.heap.objs.size) F₂₂ N₂₂ hmw hdw hoD ?hb1 (fun h₆ ow' hdw' F₂₃ N₂₃ => ?_) ?hk1 ?hl1 ?hcl1
      case hb1 => exact ⟨by show @LE.le Nat _ (s.heap.objs.size + 1) (s.heap.objs.size + 3); omega, by show @LE.le Nat _ (s.heap.objs.size + 3) (s.heap.objs.size + 5); omega⟩
      case hk1 => rfl
      case hl1 => rfl
      case hcl1 => rfl
      replace hC := hC.up3 hdw'
      clear F₂₂ N₂₂ hmw hdw
      generalize updC (s.heap.objs.size + 3) ow' cs = cs at N₂₃ hC
      refine wpAny_execs_cons ?_
      iterate 4 (first | (k_unfold; (try dsimp only)) | (k_end; wrow_close) | walk1 | (dsimp only; walk1) | (leave1; walk_say "STEP leave1"; try dsimp only))
      obtain ⟨ow, hmw, hdw⟩ := hC.at3
      refine name_c N₂₃ (List.mem_append_right _ hmw) hdw ?e1 ?e2 ?e3 ?_
      case e1 => rfl
      case e2 => rfl
      case e3 => rfl
      iterate 5 (first | (k_unfold; (try dsimp only)) | (k_end; wrow_close) | walk1 | (dsimp only; walk1) | (leave1; walk_say "STEP leave1"; try dsimp only))
      have hDl : Heap.IsList _ Dt dv₂.toArray := News.isList N₂₃ (.head _)
      have hdvl : dv₂.length = 7 := by rw [ints_len hdt]; exact G.dlen
      refine slice_from_ints (k := 6) (s := ⟨_, _, _, _, _⟩) F₂₃ N₂₃ hDl hdt ?hsz6 (fun h₂₄ D₇ wv₂ F₂₄ N₂₄ hwv₂ => ?_) ?hs6 ?ht6
      case hsz6 => rw [hdvl, sizeLine_eq]; decide
      case hs6 => with_unfolding_all rfl
      case ht6 => intro _; with_unfolding_all rfl
      clear F₂₃ N₂₃ hDl
      iterate 4 (first | (k_unfold; (try dsimp only)) | (k_end; wrow_close) | walk1 | (dsimp only; walk1) | (leave1; walk_say "STEP leave1"; try dsimp only))
      refine newList_N F₂₄ N₂₄ (fun h₂₅ F₂₅ N₂₅ => ?_) ?hz9
      case hz9 => show 1 ≤ sizeLine; rw [sizeLine_eq]; decide
      clear F₂₄ N₂₄
      rw [G.dlast] at hwv₂
      refine ne_intsK (News.isList N₂₅ (.tail _ (.head _))) hwv₂ (News.isList N₂₅ (.head _)) (.cons _ _ .nil) (by show A.units + 3 + 64 < cLine; omega) ?_
      rw [decide_eq_true rfl]
      iterate 8 (first | (k_unfold; (try dsimp only)) | (k_end; wrow_close) | walk1 | (dsimp only; walk1) | (leave1; walk_say "STEP leave1"; try dsimp only))
      refine name_c N₂₅ (.tail _ (.tail _ (List.mem_append_right _ hmw))) hdw ?e1 ?e2 ?e3 ?_
      case e1 => rfl
      case e2 => rfl
      case e3 => rfl
      clear hmw hdw
      (first | (k_unfold; (try dsimp only)) | (k_end; wrow_close) | walk1 | (dsimp only; walk1) | (leave1; walk_say "STEP leave1"; try dsimp only))
      refine kso_max F₂₅ N₂₅ (News.isList N₂₅ (.tail _ (.tail _ (.head _)))) hdt (by rw [G.dlen]; decide) hh fun h₂₆ M t₂₆ tk₂₆ F₂₆ N₂₆ hMm hMx => ?_
      clear F₂₅ N₂₅
      have hM4 : M = 4 := by
        have h1 := G.dmax.2 M hMm
        have h2 := hMx 4 G.dmax.1
        omega
      subst hM4
      iterate 5 (first | (k_unfold; (try dsimp only)) | (k_end; wrow_close) | walk1 | (dsimp only; walk1) | (leave1; walk_say "STEP leave1"; try dsimp only))
      rw [if_neg Bool.false_ne_true]
      refine wpAny_execs_nil ?_
      dsimp only
      have N₂₇ := news_sub N₂₆ (news' := ((Dt, lstO dv₂.toArray cD) :: ((Z, lstO zv.toArray cZ) :: zl ++ ((U, lstO uv.toArray cU) :: ul ++ [(Wd, LCg.lst wv), (P, W.listOf pv.toArray cP)]))) ++ cs) (fun p hp => .tail _ (.tail _ hp))
      clear N₂₆
      refine wpAny_execs_cons ?_
      iterate 5 (first | (k_unfold; (try dsimp only)) | (k_end; wrow_close) | walk1 | (dsimp only; walk1) | (leave1; walk_say "STEP leave1"; try dsimp only))
      refine wpAny_execs_cons ?_
      iterate 5 (first | (k_unfold; (try dsimp only)) | (k_end; wrow_close) | walk1 | (dsimp only; walk1) | (leave1; walk_say "STEP leave1"; try dsimp only))
      refine wpAny_execs_cons ?_
      refine wpAny_For ?_ ?hs
      case hs => intro x; rfl
      iterate 7 (first | (k_unfold; (try dsimp only)) | (k_end; wrow_close) | walk1 | (dsimp only; walk1) | (leave1; walk_say "STEP leave1"; try dsimp only))
      rename Fr _ _ _ _ => F₃₀
      rename News _ _ _ _ => N₃₀
      rename IsRange _ _ _ _ _ _ _ _ => hrange
      rename_i Li gh4 Fo1 No1 hLi gh3 Co gh2 hCo gh1 Fo2 No2 gh tk₃₀ t₃₀ u₃₀ v₃₀ ga
      clear Fo1 No1 Fo2 No2
      have hoLi : Li < s.heap.objs.size + 1 ∨ s.heap.objs.size + 5 < Li := hC.above fun p hp => hLi p (List.mem_append_right _ hp)
      have hoCo : Co < s.heap.objs.size + 1 ∨ s.heap.objs.size + 5 < Co := hC.above fun p hp => ktn_ltOf hCo.2 p (List.mem_append_right _ hp)
      have hLiCo : @LT.lt Nat _ Li Co := hCo.1
      obtain ⟨R, hDm, hZm, hUm', hWm, hoR, N₃₁, hLiR, hCoR⟩ : ∃ R : Led, (Dt, lstO dv₂.toArray cD) ∈ R ∧ (∀ x ∈ (Z, lstO zv.toArray cZ) :: zl, x ∈ R) ∧ (∀ x ∈ (U, lstO uv.toArray cU) :: ul, x ∈ R) ∧ (Wd, LCg.lst wv) ∈ R ∧ OffC s.heap.objs.size R ∧
          News s.heap s.heap.objs.size gh ((Li, lstO ([] : List Value).toArray 0) :: (Co, lstO ([] : List Value).toArray 0) :: (R ++ cs)) ∧ (∀ p ∈ R, @LT.lt Nat _ p.1 Li) ∧ (∀ p ∈ R, @LT.lt Nat _ p.1 Co) :=
        ⟨_, .head _, fun x hx => .tail _ (List.mem_append_left _ hx), fun x hx => .tail _ (List.mem_append_right _ (List.mem_append_left _ hx)), .tail _ (List.mem_append_right _ (List.mem_append_right _ (.head _))), hoD,
          news_swap N₃₀, fun p hp => hLi p (List.mem_append_left _ hp), fun p hp => ktn_ltOf hCo.2 p (List.mem_append_left _ hp)⟩
      have F₃₁ : Fr s.heap s.heap.objs.size gh (lawMap S P U Z Li Co none none) := fr_eqm F₃₀ (by funext y; by_cases e0 : y = Str.ofString "downs"; (subst e0; rfl); by_cases e1 : y = Str.ofString "ups"; (subst e1; rfl); by_cases e2 : y = Str.ofString "costs"; (subst e2; rfl); by_cases e3 : y = Str.ofString "lines"; (subst e3; rfl); by_cases e4 : y = Str.ofString "turned"; (subst e4; rfl); by_cases e5 : y = Str.ofString "units"; (subst e5; rfl); by_cases e6 : y = Str.ofString "parts"; (subst e6; rfl); by_cases e7 : y = Str.ofString "script"; (subst e7; rfl); have b0 : (y == Str.ofString "downs") = false := (by simpa using e0); have b1 : (y == Str.ofString "ups") = false := (by simpa using e1); have b2 : (y == Str.ofString "costs") = false := (by simpa using e2); have b3 : (y == Str.ofString "lines") = false := (by simpa using e3); have b4 : (y == Str.ofString "turned") = false := (by simpa using e4); have b5 : (y == Str.ofString "units") = false := (by simpa using e5); have b6 : (y == Str.ofString "parts") = false := (by simpa using e6); have b7 : (y == Str.ofString "script") = false := (by simpa using e7); simp [List.lookup, e0, b0, e1, b1, e2, b2, e3, b3, e4, b4, e5, b5, e6, b6, e7, b7])
      clear F₃₀ N₃₀ hLi hCo hoD hUm hPm
      refine start_range F₃₁ N₃₁ hrange (by decide) fun I₅ own₅ s₁₅ st₅ F₃₂ N₃₂ off₃₂ S₃₂ => ?_
      refine for_walk (iter_range ?hh _ I₅ 0 6) (LawJ s.heap.objs.size S P U Z Li Co Wd Dt sz t₇ ps ds R) (fun _ _ _ _ _ _ _ => trivial) st₅ F₃₂ N₃₂ off₃₂ ⟨none, none, [], [], 0, 0, none, none, cs, rfl, rfl, hC, .nil, .nil⟩ ?turn4 ?done4
      case hh => exact hh
      case turn4 =>
        rintro c v2 extra own m2 news2 s₁₆ hc ⟨⟨tc, hvc⟩, rfl⟩ ⟨ou, od, ly, cy, nl, nc, v4, v5, cs, rfl, rfl, hC, hly, hcy⟩ F N off offx hlts S3
        rw [Int.zero_add] at hvc
        subst hvc
        replace N := news_assoc N
        have hownC : OffC s.heap.objs.size own := hC.ownOff fun p hp q hq => off p hp q.1 (by simp only [List.map_cons, List.map_append]; exact .tail _ (.tail _ (List.mem_append_right _ (List.mem_map_of_mem hq))))
        obtain ⟨ow, hmw, hdw⟩ := hC.at4
        refine wpAny_assign_Name ?_
        refine store_cell2 (pre := (Li, lstO ly.toArray nl) :: (Co, lstO cy.toArray nc) :: R) F N hmw hdw ?hb1 ?hb2 (fun h₃₃ ow' hdw' F₃₃ N₃₃ => ?_) ?hk1 ?hl1 ?hcl1
        case hb1 => exact offC_ne (offC_cons hoLi (offC_cons hoCo hoR)) 4 (by decide) (by decide)
        case hb2 => exact fun p hp => off p hp _ (by simp only [List.map_cons, List.map_append]; exact .tail _ (.tail _ (List.mem_append_right _ (List.mem_map_of_mem hmw))))
        case hk1 => rfl
        case hl1 => rfl
        case hcl1 => rfl
        replace hC := hC.up4 hdw'
        clear F N hmw hdw
        generalize updC (s.heap.objs.size + 4) ow' cs = cs at N₃₃ hC
        replace F₃₃ : Fr s.heap s.heap.objs.size _ _ := F₃₃
        have hcm : ∀ {x : Addr × Obj}, x ∈ cs → x ∈ ((Li, lstO ly.toArray nl) :: (Co, lstO cy.toArray nc) :: R) ++ (cs ++ own) := fun hx => List.mem_append_right _ (List.mem_append_left _ hx)
        obtain ⟨ow1, hmw1, hdw1⟩ := hC.at1
        obtain ⟨ow4, hmw4, hdw4⟩ := hC.at4
        refine wpAny_execs_cons ?_
        iterate 7 (first | (k_unfold; (try dsimp only)) | (k_end; wrow_close) | walk1 | (dsimp only; walk1) | (leave1; walk_say "STEP leave1"; try dsimp only))
        refine name_c N₃₃ (hcm hmw1) hdw1 ?e1 ?e2 ?e3 ?_
        case e1 => rfl
        case e2 => rfl
        case e3 => rfl
        iterate 4 (first | (k_unfold; (try dsimp only)) | (k_end; wrow_close) | walk1 | (dsimp only; walk1) | (leave1; walk_say "STEP leave1"; try dsimp only))
        refine name_c N₃₃ (hcm hmw4) hdw4 ?e1 ?e2 ?e3 ?_
        case e1 => rfl
        case e2 => rfl
        case e3 => rfl
        iterate 3 (first | (k_unfold; (try dsimp only)) | (k_end; wrow_close) | walk1 | (dsimp only; walk1) | (leave1; walk_say "STEP leave1"; try dsimp only))
        have hWl : Heap.IsList _ Wd wv.toArray := News.isList N₃₃ (List.mem_append_left _ (.tail _ (.tail _ hWm)))
        refine slice_upto_ints (k := c + 1) (s := ⟨_, _, _, _, _⟩) F₃₃ N₃₃ hWl hwv ?hsz6 (fun h₃₄ D₈ wv₈ F₃₄ N₃₄ hwv₈ => ?_) ?hs6 ?ht6
        case hsz6 => rw [ints_len hwv, List.length_map, hpn, sizeLine_eq]; decide
        case hs6 => with_unfolding_all rfl
        case ht6 => intro _; with_unfolding_all rfl
        clear F₃₃ N₃₃ hWl hmw1 hdw1 hmw4 hdw4
        (first | (k_unfold; (try dsimp only)) | (k_end; wrow_close) | walk1 | (dsimp only; walk1) | (leave1; walk_say "STEP leave1"; try dsimp only))
        refine sumK hh F₃₄ N₃₄ (News.isList N₃₄ (.head _)) hwv₈ fun h₃₅ tk₃₅ t₃₅ F₃₅ N₃₅ => ?_
        replace N₃₅ := news_sub N₃₅ (news' := ((Li, lstO ly.toArray nl) :: (Co, lstO cy.toArray nc) :: R) ++ (cs ++ own)) (fun p hp => .tail _ hp)
        clear F₃₄ N₃₄
        iterate 2 (first | (k_unfold; (try dsimp only)) | (k_end; wrow_close) | walk1 | (dsimp only; walk1) | (leave1; walk_say "STEP leave1"; try dsimp only))
        generalize hst : ((ps.map widthOf).take (c + 1)).sum - 1 = st
        obtain ⟨ow5, hmw5, hdw5⟩ := hC.at5
        refine store_cell2 (pre := (Li, lstO ly.toArray nl) :: (Co, lstO cy.toArray nc) :: R) F₃₅ N₃₅ hmw5 hdw5 ?hb1 ?hb2 (fun h₃₆ ow' hdw' F₃₆ N₃₆ => ?_) ?hk1 ?hl1 ?hcl1
        case hb1 => exact offC_ne (offC_cons hoLi (offC_cons hoCo hoR)) 5 (by decide) (by decide)
        case hb2 => exact offC_ne hownC 5 (by decide) (by decide)
        case hk1 => rfl
        case hl1 => rfl
        case hcl1 => rfl
        replace hC := hC.up5 hdw'
        clear F₃₅ N₃₅ hmw5 hdw5 hcm
        generalize updC (s.heap.objs.size + 5) ow' cs = cs at N₃₆ hC
        replace F₃₆ : Fr s.heap s.heap.objs.size _ _ := F₃₆
        have hcm : ∀ {x : Addr × Obj}, x ∈ cs → x ∈ ((Li, lstO ly.toArray nl) :: (Co, lstO cy.toArray nc) :: R) ++ (cs ++ own) := fun hx => List.mem_append_right _ (List.mem_append_left _ hx)
        refine wpAny_execs_cons ?_
        refine comp_assign [(Str.ofString "start", s.heap.objs.size + 5), (Str.ofString "size", s.heap.objs.size + 2)] ?q0 ?q1 ?q2 ?q3 ?_
        case q0 => rfl
        case q1 => rfl
        case q2 => rfl
        case q3 => decide
        (first | (k_unfold; (try dsimp only)) | (k_end; wrow_close) | walk1 | (dsimp only; walk1) | (leave1; walk_say "STEP leave1"; try dsimp only))
        obtain ⟨ow2, hmw2, hdw2⟩ := hC.at2
        obtain ⟨ow5, hmw5, hdw5⟩ := hC.at5
        refine start_list F₃₆ N₃₆ (News.isList N₃₆ (List.mem_append_left _ (.tail _ (.tail _ (hUm' _ (.head _)))))) fun I₆ own₆ s₁₇ hI₆ st₆ F₃₇ N₃₇ off₃₇ S₃₇ Ex₃₇ => ?_
        refine comp_block (iter_list ?hh2 _ I₆ U uv hI₆) (fun h _ hn => ⟨_, hn _ (List.mem_append_left _ (.tail _ (.tail _ (hUm' _ (.head _))))), rfl, _, rfl⟩) (fun _ => trivial) (fun _ _ _ _ _ => trivial) ?hsz2 ?hcell2 ?hkind2
          (fun j ys => IntsAre ys ((((U1 ps).take j).filter (fun u => uStr u == Str.ofString "(")).map (fun u => ((u.1 : Int) - st).fmod sz))) st₆ F₃₇ N₃₇ off₃₇ .nil (fun j ys hj => ?hlen2) ?turn5 ?done5
        case hh2 => exact hh
        case hsz2 => rw [hun.len]; exact Nat.le_trans G.u1len (by rw [sizeLine_eq]; decide)
        case hcell2 => decide
        case hkind2 => rfl
        case hlen2 => rw [ints_len hj, List.length_map]; exact Nat.le_trans (List.length_filter_le _ _) (by rw [List.length_take]; exact Nat.min_le_left _ _)
        case turn5 =>
          rintro j v extra rest ys₂ C mC s₁₈ hj ⟨hv, rfl⟩ hys F N S5
          obtain ⟨Tj, t1, t2, u, rfl, hu', hmem⟩ := hun.get hv
          simp only [List.nil_append] at N
          refine assign_pair hh F N (List.mem_append_left _ (List.mem_append_left _ (.tail _ (.tail _ (hUm' _ (.tail _ hmem)))))) (fun h₄ F₄ N₄ => ?_) ?ha ?hb ?hc
          case ha => rfl
          case hb => rfl
          case hc => rfl
          clear F N
          have hset := ufilt_succ (p := fun u => uStr u == Str.ofString "(") hu'
          rw [List.forIn_cons]
          refine wpAny_bind ?_
          rw [if_pos rfl]
          refine wpAny_bind ?_
          (first | (k_unfold; (try dsimp only)) | (k_end; wrow_close) | walk1 | (dsimp only; walk1) | (leave1; walk_say "STEP leave1"; try dsimp only))
          refine name_l F₄ (v := .str (uStr u) t2) ?l1 ?l2 ?l3 ?_
          case l1 => rfl
          case l2 => rfl
          case l3 => rfl
          (first | (k_unfold; (try dsimp only)) | (k_end; wrow_close) | walk1 | (dsimp only; walk1) | (leave1; walk_say "STEP leave1"; try dsimp only))
          refine eq_str ?_
          (first | (k_unfold; (try dsimp only)) | (k_end; wrow_close) | walk1 | (dsimp only; walk1) | (leave1; walk_say "STEP leave1"; try dsimp only))
          refine wpAny_pure ?_
          dsimp only
          rw [List.forIn_nil]
          refine wpAny_pure ?_
          cases hbv : (uStr u == Str.ofString "(") with
          | true =>
            rw [if_pos rfl]
            iterate 2 (first | (k_unfold; (try dsimp only)) | (k_end; wrow_close) | walk1 | (dsimp only; walk1) | (leave1; walk_say "STEP leave1"; try dsimp only))
            refine name_l F₄ (v := .int u.1 t1) ?l1 ?l2 ?l3 ?_
            case l1 => rfl
            case l2 => rfl
            case l3 => rfl
            refine name_c (L := C) N₄ (List.mem_append_left _ (hcm hmw5)) hdw5 ?e1 ?e2 ?e3 ?_
            case e1 => rfl
            case e2 => rfl
            case e3 => rfl
            (first | (k_unfold; (try dsimp only)) | (k_end; wrow_close) | walk1 | (dsimp only; walk1) | (leave1; walk_say "STEP leave1"; try dsimp only))
            refine name_c (L := C) N₄ (List.mem_append_left _ (hcm hmw2)) hdw2 ?e1 ?e2 ?e3 ?_
            case e1 => rfl
            case e2 => rfl
            case e3 => rfl
            (first | (k_unfold; (try dsimp only)) | (k_end; wrow_close) | walk1 | (dsimp only; walk1) | (leave1; walk_say "STEP leave1"; try dsimp only))
            rename Fr _ _ _ _ => F₅
            rename News _ _ _ _ => N₅
            refine ⟨?_, ⟨_, F₅⟩, N₅, ⟨rfl, _root_.id⟩, trivial⟩
            rw [hset, hbv, List.map_append]
            exact hys.append (.cons _ _ .nil)
          | false =>
            rw [if_neg Bool.false_ne_true]
            refine ⟨?_, ⟨_, F₄⟩, N₄, ⟨rfl, _root_.id⟩, trivial⟩
            rw [hset, hbv]
            simpa using hys
        case done5 =>
          intro Up C uvs s₁₈ mC hups F N hlt nC hCD hCL hC0 hCn S₅'
          refine comp_done_use2 F N nC hCD hCL hC0 hCn S₅' ?hy ?hk fun s₁₉ F₃₈ N₃₈ S₃₈ => ?_
          case hy => rfl
          case hk => rfl
          clear F N hmw2 hdw2 hmw5 hdw5
          rw [List.take_of_length_le (by rw [hun.len]; exact Nat.le_refl _)] at hups
          replace F₃₈ : Fr s.heap s.heap.objs.size _ _ := F₃₈
          dsimp only
          refine wpAny_execs_cons ?_
          refine comp_assign [(Str.ofString "start", s.heap.objs.size + 5), (Str.ofString "size", s.heap.objs.size + 2)] ?q0 ?q1 ?q2 ?q3 ?_
          case q0 => rfl
          case q1 => rfl
          case q2 => rfl
          case q3 => decide
          (first | (k_unfold; (try dsimp only)) | (k_end; wrow_close) | walk1 | (dsimp only; walk1) | (leave1; walk_say "STEP leave1"; try dsimp only))
          obtain ⟨ow2, hmw2, hdw2⟩ := hC.at2
          obtain ⟨ow5, hmw5, hdw5⟩ := hC.at5
          refine start_list F₃₈ N₃₈ (News.isList N₃₈ (.tail _ (List.mem_append_left _ (.tail _ (.tail _ (hUm' _ (.head _))))))) fun I₇ own₇ s₂₀ hI₇ st₇ F₃₉ N₃₉ off₃₉ S₃₉ Ex₃₉ => ?_
          refine comp_block (iter_list ?hh2 _ I₇ U uv hI₇) (fun h _ hn => ⟨_, hn _ (.tail _ (List.mem_append_left _ (.tail _ (.tail _ (hUm' _ (.head _)))))), rfl, _, rfl⟩) (fun _ => trivial) (fun _ _ _ _ _ => trivial) ?hsz2 ?hcell2 ?hkind2
            (fun j ys => IntsAre ys ((((U1 ps).take j).filter (fun u => uStr u == Str.ofString ")")).map (fun u => ((u.1 : Int) - st).fmod sz))) st₇ F₃₉ N₃₉ off₃₉ .nil (fun j ys hj => ?hlen2) ?turn6 ?done6
          case hh2 => exact hh
          case hsz2 => rw [hun.len]; exact Nat.le_trans G.u1len (by rw [sizeLine_eq]; decide)
          case hcell2 => decide
          case hkind2 => rfl
          case hlen2 => rw [ints_len hj, List.length_map]; exact Nat.le_trans (List.length_filter_le _ _) (by rw [List.length_take]; exact Nat.min_le_left _ _)
          case turn6 =>
            rintro j v extra rest ys₂ C mC s₂₁ hj ⟨hv, rfl⟩ hys F N S5
            obtain ⟨Tj, t1, t2, u, rfl, hu', hmem⟩ := hun.get hv
            simp only [List.nil_append] at N
            refine assign_pair hh F N (List.mem_append_left _ (.tail _ (List.mem_append_left _ (.tail _ (.tail _ (hUm' _ (.tail _ hmem))))))) (fun h₄ F₄ N₄ => ?_) ?ha ?hb ?hc
            case ha => rfl
            case hb => rfl
            case hc => rfl
            clear F N
            have hset := ufilt_succ (p := fun u => uStr u == Str.ofString ")") hu'
            rw [List.forIn_cons]
            refine wpAny_bind ?_
            rw [if_pos rfl]
            refine wpAny_bind ?_
            (first | (k_unfold; (try dsimp only)) | (k_end; wrow_close) | walk1 | (dsimp only; walk1) | (leave1; walk_say "STEP leave1"; try dsimp only))
            refine name_l F₄ (v := .str (uStr u) t2) ?l1 ?l2 ?l3 ?_
            case l1 => rfl
            case l2 => rfl
            case l3 => rfl
            (first | (k_unfold; (try dsimp only)) | (k_end; wrow_close) | walk1 | (dsimp only; walk1) | (leave1; walk_say "STEP leave1"; try dsimp only))
            refine eq_str ?_
            (first | (k_unfold; (try dsimp only)) | (k_end; wrow_close) | walk1 | (dsimp only; walk1) | (leave1; walk_say "STEP leave1"; try dsimp only))
            refine wpAny_pure ?_
            dsimp only
            rw [List.forIn_nil]
            refine wpAny_pure ?_
            cases hbv : (uStr u == Str.ofString ")") with
            | true =>
              rw [if_pos rfl]
              iterate 2 (first | (k_unfold; (try dsimp only)) | (k_end; wrow_close) | walk1 | (dsimp only; walk1) | (leave1; walk_say "STEP leave1"; try dsimp only))
              refine name_l F₄ (v := .int u.1 t1) ?l1 ?l2 ?l3 ?_
              case l1 => rfl
              case l2 => rfl
              case l3 => rfl
              refine name_c (L := C) N₄ (List.mem_append_left _ (.tail _ (hcm hmw5))) hdw5 ?e1 ?e2 ?e3 ?_
              case e1 => rfl
              case e2 => rfl
              case e3 => rfl
              (first | (k_unfold; (try dsimp only)) | (k_end; wrow_close) | walk1 | (dsimp only; walk1) | (leave1; walk_say "STEP leave1"; try dsimp only))
              refine name_c (L := C) N₄ (List.mem_append_left _ (.tail _ (hcm hmw2))) hdw2 ?e1 ?e2 ?e3 ?_
              case e1 => rfl
              case e2 => rfl
              case e3 => rfl
              (first | (k_unfold; (try dsimp only)) | (k_end; wrow_close) | walk1 | (dsimp only; walk1) | (leave1; walk_say "STEP leave1"; try dsimp only))
              rename Fr _ _ _ _ => F₅
              rename News _ _ _ _ => N₅
              refine ⟨?_, ⟨_, F₅⟩, N₅, ⟨rfl, _root_.id⟩, trivial⟩
              rw [hset, hbv, List.map_append]
              exact hys.append (.cons _ _ .nil)
            | false =>
              rw [if_neg Bool.false_ne_true]
              refine ⟨?_, ⟨_, F₄⟩, N₄, ⟨rfl, _root_.id⟩, trivial⟩
              rw [hset, hbv]
              simpa using hys
          case done6 =>
            intro Dn C dvs s₂₁ mC hdns F N hlt nC hCD hCL hC0 hCn S₆'
            refine comp_done_use2 F N nC hCD hCL hC0 hCn S₆' ?hy ?hk fun s₂₂ F₄₀ N₄₀ S₄₀ => ?_
            case hy => rfl
            case hk => rfl
            clear F N hmw2 hdw2 hmw5 hdw5
            rw [List.take_of_length_le (by rw [hun.len]; exact Nat.le_refl _)] at hdns
            replace F₄₀ : Fr s.heap s.heap.objs.size _ _ := F₄₀
            dsimp only
            refine wpAny_execs_cons ?_
            iterate 16 (first | (k_unfold; (try dsimp only)) | (k_end; wrow_close) | walk1 | (dsimp only; walk1) | (leave1; walk_say "STEP leave1"; try dsimp only))
            refine ⟨X.keeps F₄₀.keep, ?_⟩
            have hGl := G.linec c hc
            rw [hsz, hst] at hGl
            replace hups : IntsAre uvs (pickU (U1 ps) (Str.ofString "(") fun x => ((x : Int) - st).fmod sz) := hups
            replace hdns : IntsAre dvs (pickU (U1 ps) (Str.ofString ")") fun x => ((x : Int) - st).fmod sz) := hdns
            refine least_c (News.isList N₄₀ (.tail _ (.head _))) hups (News.isList N₄₀ (.head _)) hdns hGl.ups hGl.downs (X.keeps F₄₀.keep) (T.keeps F₄₀.keep) hh (by show A.depth + 1 + 40 < _; omega) fun s₂₃ M tM Ex₂₃ hMm hMx => ?_
            have hM := hGl.least M hMm hMx
            subst hM
            have F₄₁ := F₄₀.keeps Ex₂₃.keep
            have N₄₁ : News s.heap s.heap.objs.size s₂₃.heap (((Li, lstO ly.toArray nl) :: (Co, lstO cy.toArray nc) :: R) ++ (cs ++ own)) := fun p hp => ⟨Ex₂₃.keep _ _ (N₄₀ p (.tail _ (.tail _ hp))).1, (N₄₀ p (.tail _ (.tail _ hp))).2⟩
            clear F₄₀ N₄₀
            (first | (k_unfold; (try dsimp only)) | (k_end; wrow_close) | walk1 | (dsimp only; walk1) | (leave1; walk_say "STEP leave1"; try dsimp only))
            have zL := N₄₁ (Li, lstO ly.toArray nl) (.head _)
            have hlyl : ly.length = c := by rw [ints_len hly, costsUp, List.length_map, List.length_range]
            have hcyl : cy.length = c := by rw [ints_len hcy, costsUp, List.length_map, List.length_range]
            refine append_at zL.1 (fun h₄₂ hs₄₂ hD₄₂ => ?_) ?hsz8
            case hsz8 => show ly.toArray.size ≤ sizeLine; rw [List.size_toArray, sizeLine_eq]; omega
            rw [List.push_toArray] at hD₄₂
            have F₄₂ := F₄₁.change hs₄₂ zL.2.1 zL.2.2
            have hcsLi := hC.ne hoLi
            have hcsCo := hC.ne hoCo
            have N₄₂ : News s.heap s.heap.objs.size h₄₂ (((Li, lstO (ly ++ [Value.int (costAt ps ds c) tM]).toArray (nl + 1)) :: (Co, lstO cy.toArray nc) :: R) ++ (cs ++ own)) := fun p hp => by
              rcases List.mem_cons.mp hp with rfl | hp
              · exact ⟨hD₄₂, zL.2⟩
              · have z := N₄₁ p (.tail _ hp)
                refine ⟨hs₄₂.extBut _ _ ?_ z.1, z.2⟩
                rcases List.mem_cons.mp hp with rfl | hp
                · exact Nat.ne_of_gt hLiCo
                rcases List.mem_append.mp hp with hp | hp
                · exact Nat.ne_of_lt (hLiR p hp)
                rcases List.mem_append.mp hp with hp | hp
                · exact hcsLi p hp
                · exact off p hp Li (.head _)
            clear F₄₁ N₄₁ zL hD₄₂ hcm
            have hcm : ∀ {x : Addr × Obj}, x ∈ cs → x ∈ ((Li, lstO (ly ++ [Value.int (costAt ps ds c) tM]).toArray (nl + 1)) :: (Co, lstO cy.toArray nc) :: R) ++ (cs ++ own) := fun hx => List.mem_append_right _ (List.mem_append_left _ hx)
            refine wpAny_execs_cons ?_
            iterate 10 (first | (k_unfold; (try dsimp only)) | (k_end; wrow_close) | walk1 | (dsimp only; walk1) | (leave1; walk_say "STEP leave1"; try dsimp only))
            refine comp_eval [(Str.ofString "widths", s.heap.objs.size + 1), (Str.ofString "dots", s.heap.objs.size + 3), (Str.ofString "c", s.heap.objs.size + 4)] ?q1 ?q2 ?q3 ?_
            case q1 => rfl
            case q2 => rfl
            case q3 => decide
            iterate 7 (first | (k_unfold; (try dsimp only)) | (k_end; wrow_close) | walk1 | (dsimp only; walk1) | (leave1; walk_say "STEP leave1"; try dsimp only))
            rename Fr _ _ _ _ => F₄₃
            rename News _ _ _ _ => N₄₃
            rename IsRange _ _ _ _ _ _ _ _ => hrange2
            replace F₄₃ : Fr s.heap s.heap.objs.size _ _ := F₄₃
            obtain ⟨ow1, hmw1, hdw1⟩ := hC.at1
            obtain ⟨ow3, hmw3, hdw3⟩ := hC.at3
            obtain ⟨ow4, hmw4, hdw4⟩ := hC.at4
            refine start_range F₄₃ N₄₃ hrange2 (by decide) fun I₈ own₈ s₂₄ st₈ F₄₄ N₄₄ off₄₄ S₄₄ => ?_
            refine comp_block (iter_range ?hh2 _ I₈ 0 6) (fun _ _ _ => trivial) (fun _ => trivial) (fun _ _ _ _ _ => trivial) ?hsz2 ?hcell2 ?hkind2
              (fun j ys => IntsAre ys ((List.range j).map fun k => (ps.map widthOf).getD k 0 * absI (ds.getD k 0 - ds.getD c 0))) st₈ F₄₄ N₄₄ off₄₄ .nil (fun j ys hj => ?hlen2) ?turn7 ?done7
            case hh2 => exact hh
            case hsz2 => rw [sizeLine_eq]; decide
            case hcell2 => decide
            case hkind2 => rfl
            case hlen2 => rw [ints_len hj, List.length_map, List.length_range]; exact Nat.le_refl _
            case turn7 =>
              rintro k v2 extra rest ys₂ C mC s₂₅ hk ⟨⟨tk7, hvk⟩, rfl⟩ hys F N S7
              rw [Int.zero_add] at hvk
              subst hvk
              simp only [List.nil_append] at N
              refine assign_nm F N (fun h₄ F₄ N₄ => ?_) ?ha ?hb
              case ha => rfl
              case hb => rfl
              rw [List.forIn_nil]
              refine wpAny_pure ?_
              rw [if_pos rfl]
              clear F N
              obtain ⟨tw1, hw1⟩ := ints_at hwv (i := k) (by rw [List.length_map, hpn]; omega)
              obtain ⟨td1, hd1⟩ := ints_at hdt (i := k) (by rw [G.dlen]; omega)
              obtain ⟨td2, hd2⟩ := ints_at hdt (i := c) (by rw [G.dlen]; omega)
              have hWl : Heap.IsList h₄ Wd wv.toArray := News.isList N₄ (List.mem_append_left _ (List.mem_append_left _ (.tail _ (.tail _ hWm))))
              have hDl : Heap.IsList h₄ Dt dv₂.toArray := News.isList N₄ (List.mem_append_left _ (List.mem_append_left _ (.tail _ (.tail _ hDm))))
              iterate 2 (first | (k_unfold; (try dsimp only)) | (k_end; wrow_close) | walk1 | (dsimp only; walk1) | (leave1; walk_say "STEP leave1"; try dsimp only))
              refine name_c (L := C) N₄ (List.mem_append_left _ (hcm hmw1)) hdw1 ?e1 ?e2 ?e3 ?_
              case e1 => rfl
              case e2 => rfl
              case e3 => rfl
              refine name_l F₄ (v := .int k tk7) ?l1 ?l2 ?l3 ?_
              case l1 => rfl
              case l2 => rfl
              case l3 => rfl
              refine sub_at hWl hw1 (by omega) ?_
              iterate 6 (first | (k_unfold; (try dsimp only)) | (k_end; wrow_close) | walk1 | (dsimp only; walk1) | (leave1; walk_say "STEP leave1"; try dsimp only))
              refine name_c (L := C) N₄ (List.mem_append_left _ (hcm hmw3)) hdw3 ?e1 ?e2 ?e3 ?_
              case e1 => rfl
              case e2 => rfl
              case e3 => rfl
              refine name_l F₄ (v := .int k tk7) ?l1 ?l2 ?l3 ?_
              case l1 => rfl
              case l2 => rfl
              case l3 => rfl
              refine sub_at hDl hd1 (by omega) ?_
              (first | (k_unfold; (try dsimp only)) | (k_end; wrow_close) | walk1 | (dsimp only; walk1) | (leave1; walk_say "STEP leave1"; try dsimp only))
              refine name_c (L := C) N₄ (List.mem_append_left _ (hcm hmw3)) hdw3 ?e1 ?e2 ?e3 ?_
              case e1 => rfl
              case e2 => rfl
              case e3 => rfl
              refine name_c (L := C) N₄ (List.mem_append_left _ (hcm hmw4)) hdw4 ?e1 ?e2 ?e3 ?_
              case e1 => rfl
              case e2 => rfl
              case e3 => rfl
              refine sub_at hDl hd2 (by omega) ?_
              iterate 2 (first | (k_unfold; (try dsimp only)) | (k_end; wrow_close) | walk1 | (dsimp only; walk1) | (leave1; walk_say "STEP leave1"; try dsimp only))
              refine call_abs_int fun ua tka => ?_
              refine PyProof.Rows.mul_int ?_ (IntMulOk.of_left (small_bits (width_lt hw)))
              refine ⟨?_, ⟨_, F₄⟩, N₄, ⟨rfl, _root_.id⟩, trivial⟩
              rw [List.range_succ, List.map_append]
              exact hys.append (.cons _ _ .nil)
            case done7 =>
              intro D₉' C cvs s₂₅ mC hcvs F N hlt nC hCD hCL hC0 hCn S₇'
              refine comp_done F N nC hCD hCL hC0 hCn S₇' fun s₂₆ F₄₅ N₄₅ S₄₅ => ?_
              clear F N hmw1 hdw1 hmw3 hdw3 hmw4 hdw4
              replace F₄₅ : Fr s.heap s.heap.objs.size _ _ := F₄₅
              (first | (k_unfold; (try dsimp only)) | (k_end; wrow_close) | walk1 | (dsimp only; walk1) | (leave1; walk_say "STEP leave1"; try dsimp only))
              refine sumK hh F₄₅ N₄₅ (News.isList N₄₅ (.head _)) hcvs fun h₄₆ tk₄₆ t₄₆ F₄₆ N₄₆ => ?_
              (first | (k_unfold; (try dsimp only)) | (k_end; wrow_close) | walk1 | (dsimp only; walk1) | (leave1; walk_say "STEP leave1"; try dsimp only))
              have zC := N₄₆ (Co, lstO cy.toArray nc) (.tail _ (.tail _ (.head _)))
              refine append_at zC.1 (fun h₄₇ hs₄₇ hD₄₇ => ?_) ?hsz9
              case hsz9 => show cy.toArray.size ≤ sizeLine; rw [List.size_toArray, sizeLine_eq]; omega
              rw [List.push_toArray] at hD₄₇
              refine wpAny_execs_nil ?_
              refine ⟨_, (Li, lstO (ly ++ [Value.int (costAt ps ds c) tM]).toArray (nl + 1)) :: (Co, lstO (cy ++ [Value.int (costAt ps ds c) t₄₆]).toArray (nc + 1)) :: (R ++ cs),
                fr_eqm (F₄₆.change hs₄₇ zC.2.1 zC.2.2) (by funext y; by_cases e0 : y = Str.ofString "downs"; (subst e0; rfl); by_cases e1 : y = Str.ofString "ups"; (subst e1; rfl); by_cases e2 : y = Str.ofString "costs"; (subst e2; rfl); by_cases e3 : y = Str.ofString "lines"; (subst e3; rfl); by_cases e4 : y = Str.ofString "turned"; (subst e4; rfl); by_cases e5 : y = Str.ofString "units"; (subst e5; rfl); by_cases e6 : y = Str.ofString "parts"; (subst e6; rfl); by_cases e7 : y = Str.ofString "script"; (subst e7; rfl); have b0 : (y == Str.ofString "downs") = false := (by simpa using e0); have b1 : (y == Str.ofString "ups") = false := (by simpa using e1); have b2 : (y == Str.ofString "costs") = false := (by simpa using e2); have b3 : (y == Str.ofString "lines") = false := (by simpa using e3); have b4 : (y == Str.ofString "turned") = false := (by simpa using e4); have b5 : (y == Str.ofString "units") = false := (by simpa using e5); have b6 : (y == Str.ofString "parts") = false := (by simpa using e6); have b7 : (y == Str.ofString "script") = false := (by simpa using e7); simp [List.lookup, e0, b0, e1, b1, e2, b2, e3, b3, e4, b4, e5, b5, e6, b6, e7, b7, lawMap]), ?_, ?_, ⟨some (.ref Up), some (.ref Dn), _, _, nl + 1, nc + 1, _, _, cs, rfl, rfl, hC, ?_, ?_⟩,
                ⟨S₄₅.os.trans (S₄₄.os.trans (Ex₂₃.side.os.trans (S₄₀.os.trans (S₃₉.os.trans (S₃₈.os.trans S₃₇.os))))), fun b => S₄₅.bare (S₄₄.bare (Ex₂₃.side.bare (S₄₀.bare (S₃₉.bare (S₃₈.bare (S₃₇.bare b))))))⟩, trivial⟩
              · intro p hp
                rcases List.mem_cons.mp hp with rfl | hp
                · have z := N₄₆ _ (.tail _ (.head _))
                  exact ⟨hs₄₇.extBut _ _ (Nat.ne_of_lt hLiCo) z.1, z.2⟩
                rcases List.mem_cons.mp hp with rfl | hp
                · exact ⟨hD₄₇, zC.2⟩
                rcases List.mem_append.mp hp with hp | hp
                · rcases List.mem_append.mp hp with hp | hp
                  · have z := N₄₆ p (.tail _ (.tail _ (.tail _ (List.mem_append_left _ hp))))
                    exact ⟨hs₄₇.extBut _ _ (Nat.ne_of_lt (hCoR p hp)) z.1, z.2⟩
                  · have z := N₄₆ p (.tail _ (hcm hp))
                    exact ⟨hs₄₇.extBut _ _ (hcsCo p hp) z.1, z.2⟩
                · have z := N₄₆ p (.tail _ (List.mem_append_right _ (List.mem_append_right _ hp)))
                  exact ⟨hs₄₇.extBut _ _ (off p hp Co (.tail _ (.head _))) z.1, z.2⟩
              · intro p hp b hb
                rcases List.mem_cons.mp hb with rfl | hb
                · exact off p hp _ (.head _)
                rcases List.mem_cons.mp hb with rfl | hb
                · exact off p hp _ (.tail _ (.head _))
                obtain ⟨q, hq, rfl⟩ := List.mem_map.mp hb
                rcases List.mem_append.mp hq with hq | hq
                · exact off p hp _ (.tail _ (.tail _ (List.mem_map_of_mem (List.mem_append_left _ hq))))
                · exact Ne.symm (hC.ne (hownC p hp) q hq)
              · rw [costsUp, List.range_succ, List.map_append]
                exact hly.append (.cons _ _ .nil)
              · rw [costsUp, List.range_succ, List.map_append]
                exact hcy.append (.cons _ _ .nil)
      case done4 =>
        rintro m2 news2 s' ⟨ou, od, ly, cy, nl, nc, v4, v5, cs, rfl, rfl, hC, hly, hcy⟩ F N S₄'
        dsimp only
        refine wpAny_execs_cons ?_
        refine comp_assign [] ?q0 ?q1 ?q2 ?q3 ?_
        case q0 => rfl
        case q1 => rfl
        case q2 => rfl
        case q3 => decide
        (first | (k_unfold; (try dsimp only)) | (k_end; wrow_close) | walk1 | (dsimp only; walk1) | (leave1; walk_say "STEP leave1"; try dsimp only))
        refine start_list F N (News.isList N (.tail _ (.tail _ (List.mem_append_left _ (hZm _ (.head _)))))) fun I₉ own₉ s₂₉ hI st F₅₀ N₅₀ off₅₀ S₅₀ Ex₅₀ => ?_
        refine comp_block (iter_list ?hh2 _ I₉ Z zv hI) (fun h _ hn => ⟨_, hn _ (.tail _ (.tail _ (List.mem_append_left _ (hZm _ (.head _))))), rfl, _, rfl⟩) (fun _ => trivial) (fun _ _ _ _ _ => trivial) ?hsz2 ?hcell2 ?hkind2
          (fun j ys => IntsAre ys ((((U2 ps).take j).filter (fun u => uStr u == Str.ofString "(")).map (fun u => (u.1 : Int)))) st F₅₀ N₅₀ off₅₀ .nil (fun j ys hj => ?hlen2) ?turn8 ?done8
        case hh2 => exact hh
        case hsz2 => rw [hzn.len]; exact Nat.le_trans G.u2len (by rw [sizeLine_eq]; decide)
        case hcell2 => decide
        case hkind2 => rfl
        case hlen2 => rw [ints_len hj, List.length_map]; exact Nat.le_trans (List.length_filter_le _ _) (by rw [List.length_take]; exact Nat.min_le_left _ _)
        case turn8 =>
          rintro j v extra rest ys₂ C mC s₁₈ hj ⟨hv, rfl⟩ hys F N S5
          obtain ⟨Tj, t1, t2, u, rfl, hu', hmem⟩ := hzn.get hv
          simp only [List.nil_append] at N
          refine assign_pair hh F N (List.mem_append_left _ (.tail _ (.tail _ (List.mem_append_left _ (hZm _ (.tail _ hmem)))))) (fun h₄ F₄ N₄ => ?_) ?ha ?hb ?hc
          case ha => rfl
          case hb => rfl
          case hc => rfl
          clear F N
          have hset := ufilt_succ (p := fun u => uStr u == Str.ofString "(") hu'
          rw [List.forIn_cons]
          refine wpAny_bind ?_
          rw [if_pos rfl]
          refine wpAny_bind ?_
          (first | (k_unfold; (try dsimp only)) | (k_end; wrow_close) | walk1 | (dsimp only; walk1) | (leave1; walk_say "STEP leave1"; try dsimp only))
          refine name_l F₄ (v := .str (uStr u) t2) ?l1 ?l2 ?l3 ?_
          case l1 => rfl
          case l2 => rfl
          case l3 => rfl
          (first | (k_unfold; (try dsimp only)) | (k_end; wrow_close) | walk1 | (dsimp only; walk1) | (leave1; walk_say "STEP leave1"; try dsimp only))
          refine eq_str ?_
          (first | (k_unfold; (try dsimp only)) | (k_end; wrow_close) | walk1 | (dsimp only; walk1) | (leave1; walk_say "STEP leave1"; try dsimp only))
          refine wpAny_pure ?_
          dsimp only
          rw [List.forIn_nil]
          refine wpAny_pure ?_
          cases hbv : (uStr u == Str.ofString "(") with
          | true =>
            rw [if_pos rfl]
            refine name_l F₄ (v := .int u.1 t1) ?l1 ?l2 ?l3 ?_
            case l1 => rfl
            case l2 => rfl
            case l3 => rfl
            refine ⟨?_, ⟨_, F₄⟩, N₄, ⟨rfl, _root_.id⟩, trivial⟩
            rw [hset, hbv, List.map_append]
            exact hys.append (.cons _ _ .nil)
          | false =>
            rw [if_neg Bool.false_ne_true]
            refine ⟨?_, ⟨_, F₄⟩, N₄, ⟨rfl, _root_.id⟩, trivial⟩
            rw [hset, hbv]
            simpa using hys
        case done8 =>
          intro Up C uvs s₃₀ mC hups F N hlt nC hCD hCL hC0 hCn S₈'
          refine comp_done_use2 F N nC hCD hCL hC0 hCn S₈' ?hy ?hk fun s₃₁ F₅₁ N₅₁ S₅₁ => ?_
          case hy => rfl
          case hk => rfl
          clear F N
          rw [List.take_of_length_le (by rw [hzn.len]; exact Nat.le_refl _)] at hups
          replace F₅₁ : Fr s.heap s.heap.objs.size _ _ := F₅₁
          dsimp only
          refine wpAny_execs_cons ?_
          refine comp_assign [] ?q0 ?q1 ?q2 ?q3 ?_
          case q0 => rfl
          case q1 => rfl
          case q2 => rfl
          case q3 => decide
          (first | (k_unfold; (try dsimp only)) | (k_end; wrow_close) | walk1 | (dsimp only; walk1) | (leave1; walk_say "STEP leave1"; try dsimp only))
          refine start_list F₅₁ N₅₁ (News.isList N₅₁ (.tail _ (.tail _ (.tail _ (List.mem_append_left _ (hZm _ (.head _))))))) fun I₁₀ own₁₀ s₃₂ hI st F₅₁a N₅₁a off₅₁ S₅₁a Ex₅₁ => ?_
          refine comp_block (iter_list ?hh2 _ I₁₀ Z zv hI) (fun h _ hn => ⟨_, hn _ (.tail _ (.tail _ (.tail _ (List.mem_append_left _ (hZm _ (.head _)))))), rfl, _, rfl⟩) (fun _ => trivial) (fun _ _ _ _ _ => trivial) ?hsz2 ?hcell2 ?hkind2
            (fun j ys => IntsAre ys ((((U2 ps).take j).filter (fun u => uStr u == Str.ofString ")")).map (fun u => (u.1 : Int)))) st F₅₁a N₅₁a off₅₁ .nil (fun j ys hj => ?hlen2) ?turn9 ?done9
          case hh2 => exact hh
          case hsz2 => rw [hzn.len]; exact Nat.le_trans G.u2len (by rw [sizeLine_eq]; decide)
          case hcell2 => decide
          case hkind2 => rfl
          case hlen2 => rw [ints_len hj, List.length_map]; exact Nat.le_trans (List.length_filter_le _ _) (by rw [List.length_take]; exact Nat.min_le_left _ _)
          case turn9 =>
            rintro j v extra rest ys₂ C mC s₁₈ hj ⟨hv, rfl⟩ hys F N S5
            obtain ⟨Tj, t1, t2, u, rfl, hu', hmem⟩ := hzn.get hv
            simp only [List.nil_append] at N
            refine assign_pair hh F N (List.mem_append_left _ (.tail _ (.tail _ (.tail _ (List.mem_append_left _ (hZm _ (.tail _ hmem))))))) (fun h₄ F₄ N₄ => ?_) ?ha ?hb ?hc
            case ha => rfl
            case hb => rfl
            case hc => rfl
            clear F N
            have hset := ufilt_succ (p := fun u => uStr u == Str.ofString ")") hu'
            rw [List.forIn_cons]
            refine wpAny_bind ?_
            rw [if_pos rfl]
            refine wpAny_bind ?_
            (first | (k_unfold; (try dsimp only)) | (k_end; wrow_close) | walk1 | (dsimp only; walk1) | (leave1; walk_say "STEP leave1"; try dsimp only))
            refine name_l F₄ (v := .str (uStr u) t2) ?l1 ?l2 ?l3 ?_
            case l1 => rfl
            case l2 => rfl
            case l3 => rfl
            (first | (k_unfold; (try dsimp only)) | (k_end; wrow_close) | walk1 | (dsimp only; walk1) | (leave1; walk_say "STEP leave1"; try dsimp only))
            refine eq_str ?_
            (first | (k_unfold; (try dsimp only)) | (k_end; wrow_close) | walk1 | (dsimp only; walk1) | (leave1; walk_say "STEP leave1"; try dsimp only))
            refine wpAny_pure ?_
            dsimp only
            rw [List.forIn_nil]
            refine wpAny_pure ?_
            cases hbv : (uStr u == Str.ofString ")") with
            | true =>
              rw [if_pos rfl]
              refine name_l F₄ (v := .int u.1 t1) ?l1 ?l2 ?l3 ?_
              case l1 => rfl
              case l2 => rfl
              case l3 => rfl
              refine ⟨?_, ⟨_, F₄⟩, N₄, ⟨rfl, _root_.id⟩, trivial⟩
              rw [hset, hbv, List.map_append]
              exact hys.append (.cons _ _ .nil)
            | false =>
              rw [if_neg Bool.false_ne_true]
              refine ⟨?_, ⟨_, F₄⟩, N₄, ⟨rfl, _root_.id⟩, trivial⟩
              rw [hset, hbv]
              simpa using hys
          case done9 =>
            intro Dn C dvs s₃₃ mC hdns F N hlt nC hCD hCL hC0 hCn S₉'
            refine comp_done_use2 F N nC hCD hCL hC0 hCn S₉' ?hy ?hk fun s₃₄ F₅₂ N₅₂ S₅₂ => ?_
            case hy => rfl
            case hk => rfl
            clear F N
            rw [List.take_of_length_le (by rw [hzn.len]; exact Nat.le_refl _)] at hdns
            replace F₅₂ : Fr s.heap s.heap.objs.size _ _ := F₅₂
            dsimp only
            refine wpAny_execs_cons ?_
            iterate 4 (first | (k_unfold; (try dsimp only)) | (k_end; wrow_close) | walk1 | (dsimp only; walk1) | (leave1; walk_say "STEP leave1"; try dsimp only))
            (first | (k_unfold; (try dsimp only)) | (k_end; wrow_close) | walk1 | (dsimp only; walk1) | (leave1; walk_say "STEP leave1"; try dsimp only))
            refine eq_intsK (News.isList N₅₂ (.tail _ (.tail _ (.head _)))) hly (News.isList N₅₂ (.tail _ (.tail _ (.tail _ (.head _))))) hcy (by show A.units + 3 + 64 < cLine; omega) ?_
            rw [decide_eq_true rfl]
            iterate 12 (first | (k_unfold; (try dsimp only)) | (k_end; wrow_close) | walk1 | (dsimp only; walk1) | (leave1; walk_say "STEP leave1"; try dsimp only))
            obtain ⟨ow2, hmw2, hdw2⟩ := hC.at2
            refine name_c N₅₂ (.tail _ (.tail _ (.tail _ (.tail _ (List.mem_append_right _ hmw2))))) hdw2 ?e1 ?e2 ?e3 ?_
            case e1 => rfl
            case e2 => rfl
            case e3 => rfl
            (first | (k_unfold; (try dsimp only)) | (k_end; wrow_close) | walk1 | (dsimp only; walk1) | (leave1; walk_say "STEP leave1"; try dsimp only))
            refine ⟨X.keeps F₅₂.keep, ?_⟩
            replace hups : IntsAre uvs (pickU (U2 ps) (Str.ofString "(") fun x => (x : Int)) := hups
            replace hdns : IntsAre dvs (pickU (U2 ps) (Str.ofString ")") fun x => (x : Int)) := hdns
            have hGf := G.fin
            rw [hsz] at hGf
            refine least_c (News.isList N₅₂ (.tail _ (.head _))) hups (News.isList N₅₂ (.head _)) hdns hGf.ups hGf.downs (X.keeps F₅₂.keep) (T.keeps F₅₂.keep) hh (by show A.depth + 1 + 40 < _; omega) fun s₃₅ M tM Ex₃₅ hMm hMx => ?_
            have F₅₃ := F₅₂.keeps Ex₃₅.keep
            have N₅₃ := news_ext (s' := s₃₅) N₅₂ Ex₃₅
            clear F₅₂ N₅₂
            iterate 6 (first | (k_unfold; (try dsimp only)) | (k_end; wrow_close) | walk1 | (dsimp only; walk1) | (leave1; walk_say "STEP leave1"; try dsimp only))
            refine kso_min F₅₃ N₅₃ (News.isList N₅₃ (.tail _ (.tail _ (.tail _ (.head _))))) hcy (by rw [costsUp, List.length_map]; decide) hh fun h₅₄ M' t₅₄ tk₅₄ F₅₄ N₅₄ hMm' hMx' => ?_
            have hMM := hGf.least M M' hMm hMx hMm' hMx'
            subst hMM
            (first | (k_unfold; (try dsimp only)) | (k_end; wrow_close) | walk1 | (dsimp only; walk1) | (leave1; walk_say "STEP leave1"; try dsimp only))
            rw [beq_self_eq_true]
            exact h _ ⟨F₅₄.keep, (Ex₃₅.side.os.trans (S₅₂.os.trans (S₅₁a.os.trans (S₅₁.os.trans (S₅₀.os.trans (S₄'.os.trans (S₃₂.os.trans (Ex₁₄.side.os.trans (S₁₇.os.trans (S₁₆.os.trans (Ex₁₀.side.os.trans (Ex₉.side.os.trans (S₆.os.trans (S₄.os.trans (Ex₂.side.os.trans Ex₁.side.os))))))))))))))), fun b => (Ex₃₅.side.bare (S₅₂.bare (S₅₁a.bare (S₅₁.bare (S₅₀.bare (S₄'.bare (S₃₂.bare (Ex₁₄.side.bare (S₁₇.bare (S₁₆.bare (Ex₁₀.side.bare (Ex₉.side.bare (S₆.bare (S₄.bare (Ex₂.side.bare (Ex₁.side.bare b))))))))))))))))⟩
end Mine

end

section
open PySem PySem.W PyProof.Rows PySem.Calls
set_option maxRecDepth 100000
set_option linter.all false
namespace Mine
inductive Tk where
  | ch (c : Nat)
  | es (c : Nat)
  | qu (c : Nat)
def Tk.raw : Tk → List Nat
  | .ch c => [c]
  | .es c => [92, c]
  | .qu c => [34, c, 34]
def Tk.vis : Tk → List Nat
  | .ch c => [c]
  | .es c => [92, c]
  | .qu _ => []
def Tk.ok : Tk → Prop
  | .ch c => c ≠ 92 ∧ c ≠ 34
  | .es _ => True
  | .qu c => c ≠ 92 ∧ c ≠ 34
def Tk.seen : Tk → Bool
  | .qu _ => false
  | _ => true
def raws (ts : List Tk) : List Nat := ts.flatMap Tk.raw
def viss (ts : List Tk) : List Nat := ts.flatMap Tk.vis
def unitsR : Nat → List Tk → List (Nat × List Nat)
  | _, [] => []
  | i, .ch c :: ts => (i, [c]) :: unitsR (i + 1) ts
  | i, .es c :: ts => (i + 1, [92, c]) :: unitsR (i + 2) ts
  | i, .qu c :: ts => (i, [34]) :: (i + 1, [c]) :: (i + 2, [34]) :: unitsR (i + 3) ts
theorem esc_raw : ∀ (ts : List Tk) (i : Nat) (r : List Nat), (∀ t ∈ ts, t.ok) → escGo i false (raws ts ++ r) = unitsR i ts ++ escGo (i + (raws ts).length) false r
  | [], i, r, _ => rfl
  | .ch c :: ts, i, r, h => by
    have hc : c ≠ 92 := (h _ (.head _)).1
    have ih := esc_raw ts (i + 1) r fun t ht => h t (.tail _ ht)
    show escGo i false (c :: (raws ts ++ r)) = (i, [c]) :: (unitsR (i + 1) ts ++ _)
    rw [escGo, if_neg hc, ih]
    have e : i + 1 + (raws ts).length = i + (raws (.ch c :: ts)).length := by show _ = i + ((raws ts).length + 1); omega
    rw [e]
  | .es c :: ts, i, r, h => by
    have ih := esc_raw ts (i + 1 + 1) r fun t ht => h t (.tail _ ht)
    show escGo i false (92 :: c :: (raws ts ++ r)) = (i + 1, [92, c]) :: (unitsR (i + 2) ts ++ _)
    rw [escGo, if_pos rfl]
    show (i + 1, [92, c]) :: escGo (i + 1 + 1) false (raws ts ++ r) = _
    rw [ih]
    have e : i + 1 + 1 + (raws ts).length = i + (raws (.es c :: ts)).length := by show _ = i + ((raws ts).length + 1 + 1); omega
    rw [e]
  | .qu c :: ts, i, r, h => by
    have hc : c ≠ 92 := (h _ (.head _)).1
    have ih := esc_raw ts (i + 1 + 1 + 1) r fun t ht => h t (.tail _ ht)
    show escGo i false (34 :: c :: 34 :: (raws ts ++ r)) = (i, [34]) :: (i + 1, [c]) :: (i + 2, [34]) :: (unitsR (i + 3) ts ++ _)
    rw [escGo, if_neg (by decide), escGo, if_neg hc, escGo, if_neg (by decide), ih]
    have e : i + 1 + 1 + 1 + (raws ts).length = i + (raws (.qu c :: ts)).length := by show _ = i + ((raws ts).length + 1 + 1 + 1); omega
    rw [e]
theorem seg_app {X : List Nat} {a i : Nat} {p rest : List Nat} (ha : a ≤ i) (hX : X.drop i = p ++ rest) : (X.drop a).take (i + p.length - a) = (X.drop a).take (i - a) ++ p := by
  have e : i + p.length - a = (i - a) + p.length := by omega
  rw [e, List.take_add, List.drop_drop]
  have e2 : a + (i - a) = i := by omega
  rw [e2, hX, List.take_left']
  rfl
def joinL (res : List Str) : List Nat := res.flatMap (·.cps.toList)
theorem sliceN_list (x : Str) {a b : Nat} (h : a ≤ b) (hb : b ≤ x.length) : (sliceN x a b).cps.toList = (x.cps.toList.drop a).take (b - a) := by
  have e := eq_of_beq (slice_closesL (x := x) (i := (a : Int)) (j := (b : Int)) (by omega) (by omega) (by omega))
  unfold sliceN
  rw [e]
  have e1 : (a : Int).toNat = a := by omega
  have e2 : ((b : Int) - (a : Int)).toNat = b - a := by omega
  rw [e1, e2]
theorem drop_next {X p rest : List Nat} {i : Nat} (h : X.drop i = p ++ rest) : X.drop (i + p.length) = rest := by
  rw [← List.drop_drop, h, List.drop_left']
  rfl
theorem fold_raw (x : Str) (r : List Nat) : ∀ (ts : List Tk) (i : Nat) (st : StripSt), (∀ t ∈ ts, t.ok) → st.opn = none → st.start ≤ i → x.cps.toList.drop i = raws ts ++ r → i + (raws ts).length ≤ x.length →
    ((unitsR i ts).foldl (stripStep x) st).opn = none ∧ ((unitsR i ts).foldl (stripStep x) st).start ≤ i + (raws ts).length ∧
    joinL ((unitsR i ts).foldl (stripStep x) st).res ++ (x.cps.toList.drop ((unitsR i ts).foldl (stripStep x) st).start).take (i + (raws ts).length - ((unitsR i ts).foldl (stripStep x) st).start) =
      joinL st.res ++ (x.cps.toList.drop st.start).take (i - st.start) ++ viss ts
  | [], i, st, _, ho, hs, _, _ => ⟨ho, hs, by simp [raws, viss, unitsR]⟩
  | .ch c :: ts, i, st, h, ho, hs, hX, hl => by
    have hc := h _ (.head _)
    have hst : stripStep x st (i, [c]) = st := by
      unfold stripStep
      rw [if_neg (by intro e; injection e with e; exact hc.2 e)]
    have hl' : (raws (.ch c :: ts)).length = 1 + (raws ts).length := by show (raws ts).length + 1 = _; omega
    have hX' : x.cps.toList.drop i = [c] ++ (raws ts ++ r) := hX
    have ih := fold_raw x r ts (i + 1) st (fun t ht => h t (.tail _ ht)) ho (by omega) (drop_next hX') (by omega)
    show ((unitsR (i + 1) ts).foldl (stripStep x) (stripStep x st (i, [c]))).opn = none ∧ ((unitsR (i + 1) ts).foldl (stripStep x) (stripStep x st (i, [c]))).start ≤ _ ∧ joinL ((unitsR (i + 1) ts).foldl (stripStep x) (stripStep x st (i, [c]))).res ++ _ = _
    rw [hst, hl']
    have e : i + (1 + (raws ts).length) = i + 1 + (raws ts).length := by omega
    rw [e]
    refine ⟨ih.1, ih.2.1, ?_⟩
    show joinL ((unitsR (i + 1) ts).foldl (stripStep x) st).res ++ (x.cps.toList.drop ((unitsR (i + 1) ts).foldl (stripStep x) (stripStep x st (i, [c]))).start).take (i + 1 + (raws ts).length - ((unitsR (i + 1) ts).foldl (stripStep x) (stripStep x st (i, [c]))).start) = _
    rw [hst, ih.2.2]
    have e2 := seg_app (a := st.start) hs hX'
    have e3 : i + 1 - st.start = i + [c].length - st.start := rfl
    rw [e3, e2]
    simp [viss, Tk.vis]
  | .es c :: ts, i, st, h, ho, hs, hX, hl => by
    have hst : stripStep x st (i + 1, [92, c]) = st := by
      unfold stripStep
      rw [if_neg (by intro e; injection e with e _; exact absurd e (by decide))]
    have hl' : (raws (.es c :: ts)).length = 2 + (raws ts).length := by show (raws ts).length + 1 + 1 = _; omega
    have hX' : x.cps.toList.drop i = [92, c] ++ (raws ts ++ r) := hX
    have ih := fold_raw x r ts (i + 2) st (fun t ht => h t (.tail _ ht)) ho (by omega) (drop_next hX') (by omega)
    show ((unitsR (i + 2) ts).foldl (stripStep x) (stripStep x st (i + 1, [92, c]))).opn = none ∧ ((unitsR (i + 2) ts).foldl (stripStep x) (stripStep x st (i + 1, [92, c]))).start ≤ _ ∧
      joinL ((unitsR (i + 2) ts).foldl (stripStep x) (stripStep x st (i + 1, [92, c]))).res ++ (x.cps.toList.drop ((unitsR (i + 2) ts).foldl (stripStep x) (stripStep x st (i + 1, [92, c]))).start).take (i + (raws (.es c :: ts)).length - ((unitsR (i + 2) ts).foldl (stripStep x) (stripStep x st (i + 1, [92, c]))).start) = _
    rw [hst, hl']
    have e : i + (2 + (raws ts).length) = i + 2 + (raws ts).length := by omega
    rw [e]
    refine ⟨ih.1, ih.2.1, ?_⟩
    rw [ih.2.2]
    have e2 := seg_app (a := st.start) hs hX'
    have e3 : i + 2 - st.start = i + [92, c].length - st.start := rfl
    rw [e3, e2]
    simp [viss, Tk.vis]
  | .qu c :: ts, i, st, h, ho, hs, hX, hl => by
    have hc := h _ (.head _)
    have hl' : (raws (.qu c :: ts)).length = 3 + (raws ts).length := by show (raws ts).length + 1 + 1 + 1 = _; omega
    have hX' : x.cps.toList.drop i = [34, c, 34] ++ (raws ts ++ r) := hX
    obtain ⟨st₀, op, res⟩ := st
    dsimp only at ho hs
    subst ho
    have hst : stripStep x (stripStep x (stripStep x ⟨st₀, none, res⟩ (i, [34])) (i + 1, [c])) (i + 2, [34]) = ⟨i + 3, none, if st₀ = i then res else res ++ [sliceN x st₀ i]⟩ := by
      have h1 : stripStep x ⟨st₀, none, res⟩ (i, [34]) = ⟨st₀, some i, res⟩ := by unfold stripStep; rw [if_pos rfl]
      have h2 : stripStep x ⟨st₀, some i, res⟩ (i + 1, [c]) = ⟨st₀, some i, res⟩ := by unfold stripStep; rw [if_neg (by intro e; injection e with e; exact hc.2 e)]
      rw [h1, h2]
      unfold stripStep
      rw [if_pos rfl]
    have ih := fold_raw x r ts (i + 3) ⟨i + 3, none, if st₀ = i then res else res ++ [sliceN x st₀ i]⟩ (fun t ht => h t (.tail _ ht)) rfl (Nat.le_refl _) (drop_next hX') (by omega)
    show ((unitsR (i + 3) ts).foldl (stripStep x) (stripStep x (stripStep x (stripStep x ⟨st₀, none, res⟩ (i, [34])) (i + 1, [c])) (i + 2, [34]))).opn = none ∧ ((unitsR (i + 3) ts).foldl (stripStep x) (stripStep x (stripStep x (stripStep x ⟨st₀, none, res⟩ (i, [34])) (i + 1, [c])) (i + 2, [34]))).start ≤ _ ∧
      joinL ((unitsR (i + 3) ts).foldl (stripStep x) (stripStep x (stripStep x (stripStep x ⟨st₀, none, res⟩ (i, [34])) (i + 1, [c])) (i + 2, [34]))).res ++ (x.cps.toList.drop ((unitsR (i + 3) ts).foldl (stripStep x) (stripStep x (stripStep x (stripStep x ⟨st₀, none, res⟩ (i, [34])) (i + 1, [c])) (i + 2, [34]))).start).take (i + (raws (.qu c :: ts)).length - ((unitsR (i + 3) ts).foldl (stripStep x) (stripStep x (stripStep x (stripStep x ⟨st₀, none, res⟩ (i, [34])) (i + 1, [c])) (i + 2, [34]))).start) = _
    rw [hst, hl']
    have e : i + (3 + (raws ts).length) = i + 3 + (raws ts).length := by omega
    rw [e]
    refine ⟨ih.1, ih.2.1, ?_⟩
    rw [ih.2.2]
    have e4 : joinL (if st₀ = i then res else res ++ [sliceN x st₀ i]) = joinL res ++ (x.cps.toList.drop st₀).take (i - st₀) := by
      by_cases he : st₀ = i
      · rw [if_pos he, he, Nat.sub_self]; simp
      · rw [if_neg he]
        unfold joinL
        rw [List.flatMap_append]
        simp only [List.flatMap_cons, List.flatMap_nil, List.append_nil]
        rw [sliceN_list x hs (by omega)]
    dsimp only
    rw [e4, Nat.sub_self]
    simp [viss, Tk.vis]
end Mine

end

section
open PySem PySem.W PyProof.Rows PySem.Calls
set_option maxRecDepth 100000
set_option linter.all false
namespace Mine
theorem raws_seen : ∀ ts : List Tk, raws (ts.filter Tk.seen) = viss ts
  | [] => rfl
  | .ch c :: ts => by
    have ih := raws_seen ts
    show [c] ++ raws (ts.filter Tk.seen) = [c] ++ viss ts
    rw [ih]
  | .es c :: ts => by
    have ih := raws_seen ts
    show [92, c] ++ raws (ts.filter Tk.seen) = [92, c] ++ viss ts
    rw [ih]
  | .qu c :: ts => raws_seen ts
theorem noquote_vis : ∀ ts : List Tk, 34 ∉ raws ts → viss ts = raws ts
  | [], _ => rfl
  | .ch c :: ts, h => by
    have ih := noquote_vis ts fun hm => h (List.mem_append_right _ hm)
    show [c] ++ viss ts = [c] ++ raws ts
    rw [ih]
  | .es c :: ts, h => by
    have ih := noquote_vis ts fun hm => h (List.mem_append_right _ hm)
    show [92, c] ++ viss ts = [92, c] ++ raws ts
    rw [ih]
  | .qu c :: ts, h => absurd (List.mem_append_left _ (.head _)) h
theorem fold_skip (x : Str) : ∀ (us : List (Nat × List Nat)) (st : StripSt), (∀ u ∈ us, u.2 ≠ [34]) → us.foldl (stripStep x) st = st
  | [], _, _ => rfl
  | u :: us, st, h => by
    rw [List.foldl_cons]
    have : stripStep x st u = st := by unfold stripStep; rw [if_neg (h u (.head _))]
    rw [this]
    exact fold_skip x us st fun v hv => h v (.tail _ hv)
theorem slice_end (x : Str) {a : Nat} (h : a ≤ x.length) : (Txt.slice x (some (a : Int)) none).cps.toList = x.cps.toList.drop a := by
  have e := slice_from_eq (x := x) (i := (a : Int)) (b := (x.length : Int)) (by omega) (by omega) rfl
  rw [e]
  have e1 : (a : Int).toNat = a := by omega
  have e2 : ((x.length : Int) - (a : Int)).toNat = x.length - a := by omega
  rw [e1, e2]
  show (x.cps.toList.drop a).take (x.length - a) = _
  rw [List.take_of_length_le]
  rw [List.length_drop]
  exact Nat.le_refl _
def QOk (n : Nat) (q : List Nat) : Prop := q = [] ∨ ∃ r, q = 34 :: r ∧ ∀ u ∈ escGo (n + 1) false r, u.2 ≠ [34]
theorem strip_tk {x : Str} {ts : List Tk} {q : List Nat} (hts : ∀ t ∈ ts, t.ok) (hx : x.cps.toList = raws ts ++ q) (hq : QOk (raws ts).length q) : (stripS x).cps.toList = viss ts ++ q := by
  have hlen : x.length = (raws ts).length + q.length := by
    show x.cps.size = _
    rw [← Array.length_toList, hx, List.length_append]
  unfold stripS
  rw [show Str.ofString "\"" = ⟨#[34]⟩ from rfl, empty_one]
  by_cases hm : 34 ∈ x.cps.toList
  · rw [decide_eq_true hm]
    rw [if_neg (by decide)]
    rw [join_list_eq]
    show joinL (stripRes x) = _
    have hf := fold_raw x q ts 0 ⟨0, none, []⟩ hts rfl (Nat.le_refl _) (by rw [List.drop_zero]; exact hx) (by omega)
    have hu : unitsOf x = unitsR 0 ts ++ escGo (raws ts).length false q := by
      unfold unitsOf
      rw [hx, esc_raw ts 0 q hts, Nat.zero_add]
    generalize hst : (unitsR 0 ts).foldl (stripStep x) ⟨0, none, []⟩ = st at hf
    obtain ⟨h1, h2, h3⟩ := hf
    have hfin : ((unitsOf x).foldl (stripStep x) ⟨0, none, []⟩).start = st.start ∧ ((unitsOf x).foldl (stripStep x) ⟨0, none, []⟩).res = st.res := by
      rw [hu, List.foldl_append, hst]
      rcases hq with rfl | ⟨r, rfl, hr⟩
      · exact ⟨rfl, rfl⟩
      · rw [show escGo (raws ts).length false (34 :: r) = ((raws ts).length, [34]) :: escGo ((raws ts).length + 1) false r from by rw [escGo, if_neg (by decide)]]
        rw [List.foldl_cons, fold_skip x _ _ hr]
        unfold stripStep
        rw [if_pos rfl, h1]
        exact ⟨rfl, rfl⟩
    have key : joinL st.res ++ x.cps.toList.drop st.start = viss ts ++ q := by
      have e1 : x.cps.toList.drop st.start = (x.cps.toList.drop st.start).take (0 + (raws ts).length - st.start) ++ q := by
        conv => lhs; rw [← List.take_append_drop (0 + (raws ts).length - st.start) (x.cps.toList.drop st.start)]
        rw [List.drop_drop]
        have e2 : st.start + (0 + (raws ts).length - st.start) = (raws ts).length := by omega
        rw [e2]
        congr 1
        rw [hx, List.drop_left']
        rfl
      rw [e1, ← List.append_assoc, h3]
      simp [joinL]
    have hle : st.start ≤ x.length := by omega
    unfold stripRes
    rw [hfin.1, hfin.2]
    by_cases hlt : st.start < x.length
    · rw [if_pos hlt]
      unfold joinL
      rw [List.flatMap_append]
      simp only [List.flatMap_cons, List.flatMap_nil, List.append_nil]
      rw [slice_end x hle]
      exact key
    · rw [if_neg hlt]
      have e0 : x.cps.toList.drop st.start = [] := List.drop_of_length_le (by show x.length ≤ _; omega)
      rw [e0, List.append_nil] at key
      exact key
  · rw [decide_eq_false hm]
    rw [if_pos (by decide), hx]
    have h34 : 34 ∉ raws ts := fun h => hm (by rw [hx]; exact List.mem_append_left _ h)
    rw [noquote_vis ts h34]
theorem units_tk {x : Str} {ts : List Tk} {q : List Nat} (hts : ∀ t ∈ ts, t.ok) (hx : x.cps.toList = raws ts ++ q) (hq : QOk (raws ts).length q) :
    unitsOf (stripS x) = unitsR 0 (ts.filter Tk.seen) ++ escGo (viss ts).length false q := by
  unfold unitsOf
  rw [strip_tk hts hx hq, ← raws_seen, esc_raw _ 0 q (fun t ht => hts t (List.mem_filter.mp ht).1), Nat.zero_add]
end Mine

end

section
open PySem PySem.W PyProof.Rows PySem.Calls
set_option maxRecDepth 100000
set_option linter.all false
namespace Mine
def dotted (l : List Nat) : List Nat := match l with
  | [] => []
  | c :: r => if c = 46 then 46 :: 46 :: r else c :: r
theorem quote_plain : ∀ (l rest : List Nat), 10 ∉ l → quoteN false (l ++ 10 :: rest) = l ++ 10 :: quoteN true rest
  | [], rest, _ => by
    show quoteN false (10 :: rest) = 10 :: quoteN true rest
    rw [quoteN]; simp
  | c :: l, rest, h => by
    have hc : c ≠ 10 := fun e => h (by rw [e]; exact .head _)
    have ih := quote_plain l rest fun hm => h (.tail _ hm)
    show quoteN false (c :: (l ++ 10 :: rest)) = c :: (l ++ 10 :: quoteN true rest)
    rw [quoteN]
    have e : (c == 10) = false := by simpa using hc
    rw [e, ih]; simp
theorem quote_row : ∀ (l rest : List Nat), 10 ∉ l → quoteN true (l ++ 10 :: rest) = dotted l ++ 10 :: quoteN true rest
  | [], rest, _ => by
    show quoteN true (10 :: rest) = 10 :: quoteN true rest
    rw [quoteN]; simp
  | c :: l, rest, h => by
    have hc : c ≠ 10 := fun e => h (by rw [e]; exact .head _)
    have e : (c == 10) = false := by simpa using hc
    show quoteN true (c :: (l ++ 10 :: rest)) = _
    rw [quoteN, e, quote_plain l rest fun hm => h (.tail _ hm)]
    show _ = (if c = 46 then 46 :: 46 :: l else c :: l) ++ 10 :: quoteN true rest
    by_cases h46 : c = 46
    · rw [if_pos ⟨rfl, h46⟩, if_pos h46]; rfl
    · rw [if_neg (fun x => h46 x.2), if_neg h46]; rfl
def lay (rows : List (List Nat)) : List Nat := rows.flatMap fun r => r ++ [10]
theorem quote_rows : ∀ (rows : List (List Nat)) (rest : List Nat), (∀ r ∈ rows, 10 ∉ r) → quoteN true (lay rows ++ rest) = lay (rows.map dotted) ++ quoteN true rest
  | [], rest, _ => rfl
  | r :: rows, rest, h => by
    have ih := quote_rows rows rest fun q hq => h q (.tail _ hq)
    have e : lay (r :: rows) ++ rest = r ++ 10 :: (lay rows ++ rest) := by simp [lay]
    rw [e, quote_row r _ (h r (.head _)), ih]
    simp [lay]
def glue (c : Nat) : List (List Nat) → List Nat
  | [] => []
  | [a] => a
  | a :: b :: r => a ++ c :: glue c (b :: r)
theorem cut_one {c : Nat} : ∀ {a a' r r' : List Nat}, c ∉ a → c ∉ a' → a ++ c :: r = a' ++ c :: r' → a = a' ∧ r = r'
  | [], [], r, r', _, _, h => ⟨rfl, by injection h⟩
  | [], y :: a', r, r', _, h2, h => by injection h with e _; exact absurd (by rw [e]; exact .head _) h2
  | x :: a, [], r, r', h1, _, h => by injection h with e _; exact absurd (by rw [← e]; exact .head _) h1
  | x :: a, y :: a', r, r', h1, h2, h => by
    have h' : x :: (a ++ c :: r) = y :: (a' ++ c :: r') := h
    injection h' with e h'
    obtain ⟨e1, e2⟩ := cut_one (fun m => h1 (.tail _ m)) (fun m => h2 (.tail _ m)) h'
    exact ⟨by rw [e, e1], e2⟩
theorem glue_mem {c : Nat} : ∀ {a b : List Nat} {r : List (List Nat)}, c ∈ glue c (a :: b :: r)
  | a, b, r => List.mem_append_right _ (.head _)
theorem glue_inj {c : Nat} : ∀ {xs ys : List (List Nat)}, xs ≠ [] → ys ≠ [] → (∀ a ∈ xs, c ∉ a) → (∀ a ∈ ys, c ∉ a) → glue c xs = glue c ys → xs = ys
  | [], _, h, _, _, _, _ => absurd rfl h
  | _, [], _, h, _, _, _ => absurd rfl h
  | [a], [b], _, _, _, _, h => by rw [show a = b from h]
  | [a], b :: b' :: r, _, _, h1, _, h => absurd (show c ∈ a by rw [show a = glue c (b :: b' :: r) from h]; exact glue_mem) (h1 a (.head _))
  | a :: a' :: r, [b], _, _, _, h2, h => absurd (show c ∈ b by rw [show b = glue c (a :: a' :: r) from h.symm]; exact glue_mem) (h2 b (.head _))
  | a :: a' :: r, b :: b' :: r', _, _, h1, h2, h => by
    obtain ⟨e1, e2⟩ := cut_one (h1 a (.head _)) (h2 b (.head _)) h
    have ih := glue_inj (xs := a' :: r) (ys := b' :: r') (by simp) (by simp) (fun x hx => h1 x (.tail _ hx)) (fun x hx => h2 x (.tail _ hx)) e2
    rw [e1, ih]
theorem join_glue (c : Nat) : ∀ ys : List Str, (Str.join ⟨#[c]⟩ ys).cps.toList = glue c (ys.map (·.cps.toList))
  | [] => rfl
  | [y] => rfl
  | y :: z :: r => by
    have ih := join_glue c (z :: r)
    show (y ++ (⟨#[c]⟩ : Str) ++ Str.join ⟨#[c]⟩ (z :: r)).cps.toList = y.cps.toList ++ c :: glue c ((z :: r).map (·.cps.toList))
    have e : ∀ a b : Str, (a ++ b).cps.toList = a.cps.toList ++ b.cps.toList := fun a b => Array.toList_append
    rw [e, e, ih, List.append_assoc]
    rfl
theorem str_ext {x y : Str} (h : x.cps.toList = y.cps.toList) : x = y := by
  obtain ⟨⟨a⟩⟩ := x
  obtain ⟨⟨b⟩⟩ := y
  have : a = b := h
  rw [this]
theorem lay_glue (c : Nat) : ∀ rows : List (List Nat), rows.flatMap (fun r => r ++ [c]) = glue c (rows ++ [[]])
  | [] => rfl
  | r :: rows => by
    have ih := lay_glue c rows
    rw [List.flatMap_cons, ih]
    cases rows with
    | nil => show r ++ [c] ++ [] = r ++ c :: []; simp
    | cons q rows => show r ++ [c] ++ glue c ((q :: rows) ++ [[]]) = r ++ c :: glue c ((q :: rows) ++ [[]]); simp
theorem split_lay {x : Str} {rows : List (List Nat)} (hx : x.cps.toList = lay rows) (h : ∀ r ∈ rows, 10 ∉ r) : Txt.split x (Str.ofString "\n") = rows.map (fun r => ⟨r.toArray⟩) ++ [⟨#[]⟩] := by
  have e10 : Str.ofString "\n" = ⟨#[10]⟩ := rfl
  rw [e10]
  have hj := StrLaws.join_split x ⟨#[10]⟩
  have hf := StrLaws.split_free x 10
  have hl := split_len x 10
  generalize Txt.split x ⟨#[10]⟩ = ss at hj hf hl
  have hne : ss ≠ [] := fun e => by
    subst e
    have h0 : (0 : Int) = 1 + cnt 10 x.cps.toList := hl
    have h1 := txt_count x.cps.toList 10 ⟨#[10]⟩ rfl
    rw [count_cnt] at h1
    have h2 : cnt 10 x.cps.toList = (x.cps.toList.count 10 : Int) := h1
    omega
  have h1 := congrArg (fun s : Str => s.cps.toList) hj
  rw [join_glue, hx, lay, lay_glue] at h1
  have key := glue_inj (c := 10) (by simpa using hne) (by simp) (fun a ha => by obtain ⟨p, hp, rfl⟩ := List.mem_map.mp ha; exact hf p hp)
    (fun a ha => by rcases List.mem_append.mp ha with ha | ha; exact h a ha; rw [List.mem_singleton.mp ha]; simp) h1
  have back : ss = (ss.map (·.cps.toList)).map (fun l => (⟨l.toArray⟩ : Str)) := by
    rw [List.map_map]
    have : ((fun l => (⟨l.toArray⟩ : Str)) ∘ fun s : Str => s.cps.toList) = id := by funext s; exact str_ext rfl
    rw [this, List.map_id]
  rw [back, key, List.map_append]
  rfl
def endL (c : Nat) : List Nat := if c % 2 = 0 then [] else [13]
def rowL (p : Str × Nat) : List Nat := p.1.cps.toList ++ endL p.2
theorem sentRow_list (p : Str × Nat) : (rowEnd p.2 p.1).cps.toList = rowL p ++ [10] := by
  obtain ⟨x, c⟩ := p
  have e : ∀ a b : Str, (a ++ b).cps.toList = a.cps.toList ++ b.cps.toList := fun a b => Array.toList_append
  unfold rowEnd rowL endL
  rw [e]
  dsimp only
  by_cases h : c % 2 = 0
  · rw [if_pos h, if_pos h, List.append_nil]; rfl
  · rw [if_neg h, if_neg h, List.append_assoc]; rfl
theorem sentText_list (fs : List Str) : (sentText fs).cps.toList = lay (fs.zipIdx.map rowL) ++ footS.cps.toList := by
  have e : ∀ a b : Str, (a ++ b).cps.toList = a.cps.toList ++ b.cps.toList := fun a b => Array.toList_append
  unfold sentText
  rw [e, join_list_eq]
  congr 1
  unfold sentRows lay
  rw [List.flatMap_map, List.flatMap_map]
  congr 1
  funext p
  exact sentRow_list p
theorem foot_grown : quoteN true footS.cps.toList = grownS.cps.toList := by decide +kernel
theorem str_list (l : List Nat) : (⟨l.toArray⟩ : Str).cps.toList = l := rfl
theorem told_list {fs : List Str} (h : ∀ x ∈ fs, 10 ∉ x.cps.toList) : (toldS fs).cps.toList = lay ((fs.zipIdx.map rowL).map dotted) ++ grownS.cps.toList := by
  unfold toldS
  rw [str_list, sentText_list]
  have fg := foot_grown
  generalize footS.cps.toList = F at fg ⊢
  generalize grownS.cps.toList = G at fg ⊢
  rw [quote_rows, fg]
  intro r hr
  obtain ⟨p, hp, rfl⟩ := List.mem_map.mp hr
  intro hm
  rcases List.mem_append.mp hm with hm | hm
  · exact h p.1 (List.fst_mem_of_mem_zipIdx hp) hm
  · unfold endL at hm
    split at hm
    · cases hm
    · exact absurd (List.mem_singleton.mp hm) (by decide)
theorem dotted_no {l : List Nat} (h : 10 ∉ l) : 10 ∉ dotted l := by
  cases l with
  | nil => exact h
  | cons c r =>
    show 10 ∉ (if c = 46 then 46 :: 46 :: r else c :: r)
    split
    · rename_i e
      intro hm
      rcases List.mem_cons.mp hm with e' | hm
      · exact absurd e' (by decide)
      · rcases List.mem_cons.mp hm with e' | hm
        · exact absurd e' (by decide)
        · exact h (.tail _ hm)
    · exact h
theorem rowL_no {fs : List Str} (h : ∀ x ∈ fs, 10 ∉ x.cps.toList) : ∀ r ∈ (fs.zipIdx.map rowL).map dotted, 10 ∉ r := by
  intro r hr
  obtain ⟨q, hq, rfl⟩ := List.mem_map.mp hr
  obtain ⟨p, hp, rfl⟩ := List.mem_map.mp hq
  refine dotted_no fun hm => ?_
  rcases List.mem_append.mp hm with hm | hm
  · exact h p.1 (List.fst_mem_of_mem_zipIdx hp) hm
  · unfold endL at hm
    split at hm
    · cases hm
    · exact absurd (List.mem_singleton.mp hm) (by decide)
theorem sent_rows {fs : List Str} (h : ∀ x ∈ fs, 10 ∉ x.cps.toList) : sentOut (toldS fs) = ((fs.zipIdx.map rowL).map dotted).map fun r => (⟨r.toArray⟩ : Str) := by
  have hT := told_list h
  have hno := rowL_no h
  generalize (fs.zipIdx.map rowL).map dotted = rows at hT hno ⊢
  generalize toldS fs = td at hT
  have hg : grownS.cps.toList.length = 17 := by decide +kernel
  have hlen : td.length = (lay rows).length + 17 := by
    show td.cps.size = _
    rw [← Array.length_toList, hT, List.length_append, hg]
  have e17 : (td.length : Int) - ((17 : Nat) : Int) = ((lay rows).length : Int) := by omega
  have s1 : Txt.slice td (some ((td.length : Int) - ((17 : Nat) : Int))) none = grownS := by
    rw [e17]
    refine str_ext ?_
    rw [slice_end td (by omega), hT, List.drop_left']
    rfl
  have s2 : (Txt.slice td none (some ((td.length : Int) - ((17 : Nat) : Int)))).cps.toList = lay rows := by
    rw [e17]
    have e := eq_of_beq (slice_closes_toL (x := td) (j := ((lay rows).length : Int)) (by omega) (by omega))
    rw [e]
    have e2 : (((lay rows).length : Int) - 0).toNat = (lay rows).length := by omega
    have e3 : (0 : Int).toNat = 0 := rfl
    rw [e2, e3, List.drop_zero, hT]
    show (lay rows ++ grownS.cps.toList).take (lay rows).length = _
    rw [List.take_left']
    rfl
  unfold sentOut
  rw [if_neg (by rw [s1]; simp)]
  rw [split_lay s2 hno, List.length_append, List.length_map]
  have e1 : rows.length + [(⟨#[]⟩ : Str)].length - 1 = rows.length := by show rows.length + 1 - 1 = _; omega
  rw [e1, List.take_left']
  rw [List.length_map]
end Mine

end

section
open PySem PySem.W PyProof.Rows PySem.Calls
set_option maxRecDepth 100000
set_option linter.all false
namespace Mine
def bstep (o : Option Int) (b : Nat) : Option Int := match o with
  | none => none
  | some k => if b = 40 then some (k + 1) else if b = 41 then (if k - 1 < 0 then none else some (k - 1)) else some k
def isBr (c : Nat) : Bool := c == 40 || c == 41
theorem bstep_filter : ∀ (l : List Nat) (o : Option Int), l.foldl bstep o = (l.filter isBr).foldl bstep o
  | [], _ => rfl
  | c :: l, o => by
    rw [List.foldl_cons, List.filter_cons]
    by_cases h : isBr c = true
    · rw [if_pos h, List.foldl_cons]; exact bstep_filter l _
    · rw [if_neg h]
      have e : bstep o c = o := by
        unfold isBr at h
        simp only [Bool.or_eq_true, beq_iff_eq, not_or] at h
        cases o with
        | none => rfl
        | some k => show (if c = 40 then _ else _) = _; rw [if_neg h.1, if_neg h.2]
      rw [e]
      exact bstep_filter l _
theorem chk_one (o : Option Int) (i c : Nat) : chkStep o (i, [c]) = bstep o c := by
  cases o with
  | none => rfl
  | some k =>
    show (if [c] = [40] then _ else _) = (if c = 40 then _ else _)
    simp only [List.cons.injEq, and_true]
theorem chk_two (o : Option Int) (i a b : Nat) : chkStep o (i, [a, b]) = o := by
  cases o with
  | none => rfl
  | some k => show (if [a, b] = [40] then _ else _) = _; rw [if_neg (by simp), if_neg (by simp)]
def chs : List Tk → List Nat
  | [] => []
  | .ch c :: ts => c :: chs ts
  | _ :: ts => chs ts
theorem chk_units : ∀ (ts : List Tk) (i : Nat) (o : Option Int), (unitsR i (ts.filter Tk.seen)).foldl chkStep o = (chs ts).foldl bstep o
  | [], _, _ => rfl
  | .ch c :: ts, i, o => by
    show (unitsR (i + 1) (ts.filter Tk.seen)).foldl chkStep (chkStep o (i, [c])) = (chs ts).foldl bstep (bstep o c)
    rw [chk_one, chk_units ts]
  | .es c :: ts, i, o => by
    show (unitsR (i + 2) (ts.filter Tk.seen)).foldl chkStep (chkStep o (i + 1, [92, c])) = (chs ts).foldl bstep o
    rw [chk_two, chk_units ts]
  | .qu c :: ts, i, o => chk_units ts i o
theorem chk_tail : ∀ (r : List Nat) (i : Nat) (o : Option Int), 92 ∉ r → (escGo i false r).foldl chkStep o = r.foldl bstep o
  | [], _, _, _ => rfl
  | c :: r, i, o, h => by
    rw [escGo, if_neg (fun e => h (by rw [e]; exact .head _)), List.foldl_cons, chk_one, List.foldl_cons]
    exact chk_tail r _ _ fun hm => h (.tail _ hm)
def bal (l : List Nat) : Bool := l.foldl bstep (some 0) == some 0
theorem chk_tk {x : Str} {ts : List Tk} {q : List Nat} (hts : ∀ t ∈ ts, t.ok) (hx : x.cps.toList = raws ts ++ q) (hq : QOk (raws ts).length q) (h92 : 92 ∉ q) : chk x = bal ((chs ts ++ q).filter isBr) := by
  unfold chk chkU bal
  rw [units_tk hts hx hq, List.foldl_append, chk_units, chk_tail _ _ _ h92, ← List.foldl_append, bstep_filter]
def kindTk : Nat → List Tk
  | 0 => []
  | 1 => [.es 41]
  | 2 => [.qu 40, .ch 32]
  | 3 => [.es 92]
  | 4 => [.es 34]
  | _ => [.ch 32, .qu 40]
def partTk (p : Nat × Nat) : List Tk := kindTk p.1 ++ [.ch p.2]
def mkPart (p : Nat × Nat) : Str := ⟨(kindAt p.1 ++ [p.2]).toArray⟩
theorem kind_raw : ∀ k, raws (kindTk k) = kindAt k
  | 0 => rfl
  | 1 => rfl
  | 2 => rfl
  | 3 => rfl
  | 4 => rfl
  | _ + 5 => rfl
theorem kind_chs : ∀ k b, (chs (kindTk k ++ [.ch b])).filter isBr = [b].filter isBr
  | 0, _ => rfl
  | 1, _ => rfl
  | 2, _ => rfl
  | 3, _ => rfl
  | 4, _ => rfl
  | _ + 5, _ => rfl
theorem kind_ok : ∀ k, ∀ t ∈ kindTk k, t.ok
  | 0 => fun t h => nomatch h
  | 1 => fun t h => by rw [List.mem_singleton.mp h]; trivial
  | 2 => fun t h => by
    rcases List.mem_cons.mp h with rfl | h
    · exact ⟨by decide, by decide⟩
    · rw [List.mem_singleton.mp h]; exact ⟨by decide, by decide⟩
  | 3 => fun t h => by rw [List.mem_singleton.mp h]; trivial
  | 4 => fun t h => by rw [List.mem_singleton.mp h]; trivial
  | _ + 5 => fun t h => by
    rcases List.mem_cons.mp h with rfl | h
    · exact ⟨by decide, by decide⟩
    · rw [List.mem_singleton.mp h]; exact ⟨by decide, by decide⟩
theorem raws_app (a b : List Tk) : raws (a ++ b) = raws a ++ raws b := List.flatMap_append
theorem chs_app : ∀ (a b : List Tk), chs (a ++ b) = chs a ++ chs b
  | [], _ => rfl
  | .ch c :: a, b => by show c :: chs (a ++ b) = c :: (chs a ++ chs b); rw [chs_app a b]
  | .es c :: a, b => chs_app a b
  | .qu c :: a, b => chs_app a b
theorem part_raw (p : Nat × Nat) : raws (partTk p) = (mkPart p).cps.toList := by
  unfold partTk mkPart
  rw [raws_app, kind_raw]; rfl
theorem parts_raw : ∀ kb : List (Nat × Nat), raws (kb.flatMap partTk) = (kb.map mkPart).flatMap (·.cps.toList)
  | [] => rfl
  | p :: kb => by
    have ih := parts_raw kb
    rw [List.flatMap_cons, raws_app, part_raw, ih]; rfl
def BrOk (kb : List (Nat × Nat)) : Prop := ∀ p ∈ kb, p.2 = 40 ∨ p.2 = 41
theorem part_ok {p : Nat × Nat} (h : p.2 = 40 ∨ p.2 = 41) : ∀ t ∈ partTk p, t.ok := fun t ht => by
  rcases List.mem_append.mp ht with ht | ht
  · exact kind_ok _ t ht
  · rw [List.mem_singleton.mp ht]
    show p.2 ≠ 92 ∧ p.2 ≠ 34
    omega
theorem parts_ok {kb : List (Nat × Nat)} (h : BrOk kb) : ∀ t ∈ kb.flatMap partTk, t.ok := fun t ht => by
  obtain ⟨p, hp, ht⟩ := List.mem_flatMap.mp ht
  exact part_ok (h p hp) t ht
theorem parts_chs : ∀ {kb : List (Nat × Nat)}, BrOk kb → (chs (kb.flatMap partTk)).filter isBr = kb.map (·.2)
  | [], _ => rfl
  | p :: kb, h => by
    have ih := parts_chs (kb := kb) fun q hq => h q (.tail _ hq)
    rw [List.flatMap_cons, chs_app, List.filter_append, ih, List.map_cons]
    have e := kind_chs p.1 p.2
    unfold partTk
    rw [e]
    have hb : isBr p.2 = true := by
      rcases h p (.head _) with h | h <;> rw [h] <;> rfl
    rw [List.filter_cons, if_pos hb]; rfl
theorem raws_rep (n c : Nat) : raws (List.replicate n (.ch c)) = List.replicate n c := by
  induction n with
  | zero => rfl
  | succ n ih => rw [List.replicate_succ, List.replicate_succ]; show c :: raws (List.replicate n (.ch c)) = _; rw [ih]
theorem chs_rep (n c : Nat) : chs (List.replicate n (.ch c)) = List.replicate n c := by
  induction n with
  | zero => rfl
  | succ n ih => rw [List.replicate_succ, List.replicate_succ]; show c :: chs (List.replicate n (.ch c)) = _; rw [ih]
theorem filter_rep_dot (n : Nat) : (List.replicate n 46).filter isBr = [] := by
  induction n with
  | zero => rfl
  | succ n ih => rw [List.replicate_succ, List.filter_cons, if_neg (by decide)]; exact ih
theorem filter_rep_open (n : Nat) : (List.replicate n 40).filter isBr = List.replicate n 40 := by
  induction n with
  | zero => rfl
  | succ n ih => rw [List.replicate_succ, List.filter_cons, if_pos (by decide), ih]
theorem ok_rep (n c : Nat) (h : c ≠ 92 ∧ c ≠ 34) : ∀ t ∈ List.replicate n (Tk.ch c), t.ok := fun t ht => by
  rw [(List.mem_replicate.mp ht).2]; exact h
def dotsS (d : Nat) : Str := ⟨(List.replicate d 46).toArray⟩
/-- a field of one round -/
def fieldN (d n : Nat) (kb : List (Nat × Nat)) : Str := ((((dotsS d) ++ Txt.mul (Str.ofString "(") (n : Int)) ++ Txt.join (Str.ofString "") (kb.map mkPart)) ++ Txt.mul (Str.ofString "\"") ((n : Int).fdiv 2)) ++ Txt.mul (Str.ofString ")") (n : Int)
theorem app_list (a b : Str) : (a ++ b).cps.toList = a.cps.toList ++ b.cps.toList := Array.toList_append
theorem mul_open (n : Nat) (h : n ≤ 2) : (Txt.mul (Str.ofString "(") (n : Int)).cps.toList = List.replicate n 40 := by
  have : n = 0 ∨ n = 1 ∨ n = 2 := by omega
  rcases this with rfl | rfl | rfl <;> decide +kernel
theorem mul_close (n : Nat) (h : n ≤ 3) : (Txt.mul (Str.ofString ")") (n : Int)).cps.toList = List.replicate n 41 := by
  have : n = 0 ∨ n = 1 ∨ n = 2 ∨ n = 3 := by omega
  rcases this with rfl | rfl | rfl | rfl <;> decide +kernel
theorem mul_mark (n : Nat) (h : n ≤ 2) : (Txt.mul (Str.ofString "\"") ((n : Int).fdiv 2)).cps.toList = List.replicate (n / 2) 34 := by
  have : n = 0 ∨ n = 1 ∨ n = 2 := by omega
  rcases this with rfl | rfl | rfl <;> decide +kernel
theorem field_list (d n : Nat) (kb : List (Nat × Nat)) (h : n ≤ 2) : (fieldN d n kb).cps.toList = List.replicate d 46 ++ (List.replicate n 40 ++ (raws (kb.flatMap partTk) ++ (List.replicate (n / 2) 34 ++ List.replicate n 41))) := by
  unfold fieldN
  rw [app_list, app_list, app_list, app_list, mul_open n h, mul_close n (by omega), mul_mark n h, join_list_eq, ← parts_raw]
  simp [dotsS]
theorem chk_field (d n : Nat) {kb : List (Nat × Nat)} (hkb : BrOk kb) (h : n ≤ 2) : chk (fieldN d n kb) = bal (List.replicate n 40 ++ (kb.map (·.2) ++ List.replicate n 41)) := by
  have hl := field_list d n kb h
  have hpre : ∀ t ∈ List.replicate d (Tk.ch 46) ++ (List.replicate n (Tk.ch 40) ++ kb.flatMap partTk), t.ok := fun t ht => by
    rcases List.mem_append.mp ht with ht | ht
    · exact ok_rep _ _ (by decide) t ht
    rcases List.mem_append.mp ht with ht | ht
    · exact ok_rep _ _ (by decide) t ht
    · exact parts_ok hkb t ht
  have hfil : (chs (List.replicate d (Tk.ch 46) ++ (List.replicate n (Tk.ch 40) ++ kb.flatMap partTk))).filter isBr = List.replicate n 40 ++ kb.map (·.2) := by
    rw [chs_app, chs_app, chs_rep, chs_rep, List.filter_append, List.filter_append, filter_rep_dot, filter_rep_open, parts_chs hkb, List.nil_append]
  have hraw : raws (List.replicate d (Tk.ch 46) ++ (List.replicate n (Tk.ch 40) ++ kb.flatMap partTk)) = List.replicate d 46 ++ (List.replicate n 40 ++ raws (kb.flatMap partTk)) := by
    rw [raws_app, raws_app, raws_rep, raws_rep]
  have h3 : n = 0 ∨ n = 1 ∨ n = 2 := by omega
  rcases h3 with rfl | rfl | rfl
  · rw [chk_tk (q := []) hpre (by rw [hl, hraw]; simp) (.inl rfl) (by simp), List.append_nil, hfil]
    simp
  · rw [chk_tk (ts := (List.replicate d (Tk.ch 46) ++ (List.replicate 1 (Tk.ch 40) ++ kb.flatMap partTk)) ++ [.ch 41]) (q := []) (fun t ht => by
      rcases List.mem_append.mp ht with ht | ht
      · exact hpre t ht
      · rw [List.mem_singleton.mp ht]; exact ⟨by decide, by decide⟩) (by rw [hl, raws_app, hraw]; simp [raws, Tk.raw]) (.inl rfl) (by simp), List.append_nil, chs_app, List.filter_append, hfil]
    simp [chs, isBr]
  · rw [chk_tk (q := [34, 41, 41]) hpre (by rw [hl, hraw]; simp) (.inr ⟨[41, 41], rfl, by
      intro u hu
      have : escGo ((raws (List.replicate d (Tk.ch 46) ++ (List.replicate 2 (Tk.ch 40) ++ kb.flatMap partTk))).length + 1) false [41, 41] = [((raws (List.replicate d (Tk.ch 46) ++ (List.replicate 2 (Tk.ch 40) ++ kb.flatMap partTk))).length + 1, [41]), ((raws (List.replicate d (Tk.ch 46) ++ (List.replicate 2 (Tk.ch 40) ++ kb.flatMap partTk))).length + 1 + 1, [41])] := by
        rw [escGo, if_neg (by decide), escGo, if_neg (by decide), escGo]
      rw [this] at hu
      rcases List.mem_cons.mp hu with rfl | hu
      · show [41] ≠ [34]; decide
      · rw [List.mem_singleton.mp hu]; show [41] ≠ [34]; decide⟩) (by decide), List.filter_append, hfil]
    simp [isBr]
def lastN (d n : Nat) : Str := ((dotsS d) ++ Str.ofString "(((") ++ Txt.mul (Str.ofString ")") ((n : Int) + 1)
theorem last_list (d n : Nat) (h : n ≤ 2) : (lastN d n).cps.toList = List.replicate d 46 ++ (List.replicate 3 40 ++ List.replicate (n + 1) 41) := by
  unfold lastN
  rw [app_list, app_list, show ((n : Int) + 1) = ((n + 1 : Nat) : Int) from rfl, mul_close (n + 1) (by omega), List.append_assoc]
  rfl
theorem chk_last (d n : Nat) (h : n ≤ 2) : chk (lastN d n) = bal (List.replicate 3 40 ++ List.replicate (n + 1) 41) := by
  have hl := last_list d n h
  rw [chk_tk (ts := List.replicate d (Tk.ch 46) ++ (List.replicate 3 (Tk.ch 40) ++ List.replicate (n + 1) (Tk.ch 41))) (q := []) (fun t ht => by
    rcases List.mem_append.mp ht with ht | ht
    · exact ok_rep _ _ (by decide) t ht
    rcases List.mem_append.mp ht with ht | ht
    · exact ok_rep _ _ (by decide) t ht
    · exact ok_rep _ _ (by decide) t ht) (by rw [hl, raws_app, raws_app, raws_rep, raws_rep, raws_rep, List.append_nil]) (.inl rfl) (by simp), List.append_nil, chs_app, chs_app, chs_rep, chs_rep, chs_rep, List.filter_append, filter_rep_dot, List.nil_append]
  congr 1
  have : n = 0 ∨ n = 1 ∨ n = 2 := by omega
  rcases this with rfl | rfl | rfl <;> rfl
end Mine

end

section
open PySem PySem.W PyProof.Rows PySem.Calls
set_option maxRecDepth 100000
set_option linter.all false
namespace Mine
def brksAt (w : List Nat) (n c : Nat) : List Nat := if c < 6 then List.replicate n 40 ++ ((w.drop c ++ w.take c) ++ List.replicate n 41) else List.replicate 3 40 ++ List.replicate (n + 1) 41
def okAt (w : List Nat) (j c : Nat) : Bool := bal (brksAt w (2 - j) c)
def dnum (w : List Nat) : Nat → Nat → Nat
  | 0, _ => 1
  | j + 1, c => dnum w j c + (if okAt w j c = true then 1 else 0)
def msOf (w : List Nat) (j : Nat) : List Str := (List.range 7).map fun c => dotsS (dnum w j c)
theorem dnum_le (w : List Nat) (c : Nat) : ∀ j, 1 ≤ dnum w j c ∧ dnum w j c ≤ j + 1
  | 0 => ⟨Nat.le_refl _, Nat.le_refl _⟩
  | j + 1 => by
    have ih := dnum_le w c j
    show 1 ≤ dnum w j c + _ ∧ dnum w j c + _ ≤ _
    split <;> omega
theorem getD_range {α : Type} (f : Nat → α) (n c : Nat) (d : α) (h : c < n) : ((List.range n).map f).getD c d = f c := by
  rw [List.getD_eq_getElem?_getD, List.getElem?_map, List.getElem?_range h]; rfl
def fieldC (kb : List (Nat × Nat)) (j c : Nat) : Str := if c < 6 then fieldN (dnum (kb.map (·.2)) j c) (2 - j) (kb.drop c ++ kb.take c) else lastN (dnum (kb.map (·.2)) j 6) (2 - j)
theorem deep_eq {j : Nat} (h : j < 3) : deepAt j = ((2 - j : Nat) : Int) := by
  have : j = 0 ∨ j = 1 ∨ j = 2 := by omega
  rcases this with rfl | rfl | rfl <;> rfl
theorem fields_eq (kb : List (Nat × Nat)) {j : Nat} (h : j < 3) : fieldsOf (msOf (kb.map (·.2)) j) (kb.map mkPart) (deepAt j) = (List.range 7).map (fieldC kb j) := by
  rw [deep_eq h]
  unfold fieldsOf fieldsUp
  have e7 : List.range 7 = List.range 6 ++ [6] := rfl
  rw [e7, List.map_append]
  congr 1
  · refine List.map_congr_left fun c hc => ?_
    have hc6 := List.mem_range.mp hc
    unfold fieldAt fieldC msOf
    rw [if_pos hc6, getD_range _ 7 c _ (by omega), ← List.map_drop, ← List.map_take, ← List.map_append]
    rfl
theorem chk_fieldC {kb : List (Nat × Nat)} (hkb : BrOk kb) (j c : Nat) : chk (fieldC kb j c) = okAt (kb.map (·.2)) j c := by
  unfold fieldC okAt brksAt
  by_cases h : c < 6
  · rw [if_pos h, if_pos h, chk_field _ _ (fun p hp => (List.mem_append.mp hp).elim (fun h => hkb p (List.mem_of_mem_drop h)) (fun h => hkb p (List.mem_of_mem_take h))) (by omega), List.map_append, List.map_drop, List.map_take]
  · rw [if_neg h, if_neg h, chk_last _ _ (by omega)]
def Plain (l : List Nat) : Prop := ∀ c ∈ l, c ≠ 10
theorem kind_plain : ∀ k, ∀ c ∈ kindAt k, c ≠ 10
  | 0 => by decide
  | 1 => by decide
  | 2 => by decide
  | 3 => by decide
  | 4 => by decide
  | _ + 5 => by show ∀ c ∈ [32, 34, 40, 34], c ≠ 10; decide
theorem parts_plain {kb : List (Nat × Nat)} (h : BrOk kb) : ∀ c ∈ raws (kb.flatMap partTk), c ≠ 10 := by
  intro c hc
  rw [parts_raw] at hc
  obtain ⟨x, hx, hc⟩ := List.mem_flatMap.mp hc
  obtain ⟨p, hp, rfl⟩ := List.mem_map.mp hx
  rcases List.mem_append.mp (show c ∈ kindAt p.1 ++ [p.2] from hc) with hc | hc
  · exact kind_plain _ c hc
  · rw [List.mem_singleton.mp hc]
    rcases h p hp with h | h <;> rw [h] <;> decide
theorem rep_plain {n a c : Nat} (ha : a ≠ 10) (h : c ∈ List.replicate n a) : c ≠ 10 := by rw [(List.mem_replicate.mp h).2]; exact ha
theorem fieldC_list {kb : List (Nat × Nat)} (hkb : BrOk kb) (j c : Nat) : ∃ r, (fieldC kb j c).cps.toList = 46 :: r ∧ ∀ x ∈ (fieldC kb j c).cps.toList, x ≠ 10 := by
  have hrot : BrOk (kb.drop c ++ kb.take c) := fun p hp => (List.mem_append.mp hp).elim (fun h => hkb p (List.mem_of_mem_drop h)) (fun h => hkb p (List.mem_of_mem_take h))
  have key : ∀ (d : Nat) (l : List Nat), 1 ≤ d → ∃ r, List.replicate d 46 ++ l = 46 :: r := fun d l hd => by
    obtain ⟨d, rfl⟩ : ∃ e, d = e + 1 := ⟨d - 1, by omega⟩
    exact ⟨_, rfl⟩
  unfold fieldC
  by_cases h : c < 6
  · rw [if_pos h, field_list _ _ _ (by omega)]
    obtain ⟨r, hr⟩ := key (dnum (kb.map (·.2)) j c) (List.replicate (2 - j) 40 ++ (raws ((kb.drop c ++ kb.take c).flatMap partTk) ++ (List.replicate ((2 - j) / 2) 34 ++ List.replicate (2 - j) 41))) (dnum_le _ _ _).1
    refine ⟨r, hr, fun x hx => ?_⟩
    rcases List.mem_append.mp hx with hx | hx
    · exact rep_plain (by decide) hx
    rcases List.mem_append.mp hx with hx | hx
    · exact rep_plain (by decide) hx
    rcases List.mem_append.mp hx with hx | hx
    · exact parts_plain hrot x hx
    rcases List.mem_append.mp hx with hx | hx
    · exact rep_plain (by decide) hx
    · exact rep_plain (by decide) hx
  · rw [if_neg h, last_list _ _ (by omega)]
    obtain ⟨r, hr⟩ := key (dnum (kb.map (·.2)) j 6) (List.replicate 3 40 ++ List.replicate (2 - j + 1) 41) (dnum_le _ _ _).1
    refine ⟨r, hr, fun x hx => ?_⟩
    rcases List.mem_append.mp hx with hx | hx
    · exact rep_plain (by decide) hx
    rcases List.mem_append.mp hx with hx | hx
    · exact rep_plain (by decide) hx
    · exact rep_plain (by decide) hx
def badS : Str := Str.ofString "('', '')"
theorem bad_list : badS.cps.toList = [40, 39, 39, 44, 32, 39, 39, 41] := by decide +kernel
theorem end_list (c : Nat) : (endAt c).cps.toList = endL c := by
  unfold endAt endL
  rcases Nat.mod_two_eq_zero_or_one c with h | h
  · rw [h]; decide +kernel
  · rw [h]; decide +kernel
theorem dots_succ (d : Nat) : dotsS (d + 1) = dotsS d ++ Str.ofString "." := by
  refine str_ext ?_
  rw [app_list]
  show List.replicate (d + 1) 46 = List.replicate d 46 ++ [46]
  rw [List.replicate_succ']
theorem round_ok {kb : List (Nat × Nat)} (hkb : BrOk kb) {j : Nat} (hj : j < 3) : Round (kb.map mkPart) (msOf (kb.map (·.2)) j) (msOf (kb.map (·.2)) (j + 1)) (deepAt j) := by
  have hno : ∀ x ∈ ((List.range 7).map (fieldC kb j)).map prep, 10 ∉ x.cps.toList := fun x hx hm => by
    obtain ⟨y, hy, rfl⟩ := List.mem_map.mp hx
    obtain ⟨c, _, rfl⟩ := List.mem_map.mp hy
    unfold prep at hm
    split at hm
    · obtain ⟨r, _, hp⟩ := fieldC_list hkb j c
      exact hp 10 hm rfl
    · have hb : 10 ∈ badS.cps.toList := hm
      rw [bad_list] at hb
      exact absurd hb (by decide)
  have hrows := sent_rows hno
  have hf := fields_eq kb hj
  refine ⟨?_, fun c hc => ?_⟩
  · rw [hf, hrows]; simp
  · have hrow : (sentOut (toldS ((fieldsOf (msOf (kb.map (·.2)) j) (kb.map mkPart) (deepAt j)).map prep))).getD c Str.empty = ⟨(dotted ((prep (fieldC kb j c)).cps.toList ++ endL c)).toArray⟩ := by
      rw [hf, hrows, List.getD_eq_getElem?_getD, List.getElem?_map, List.getElem?_map, List.getElem?_map, List.getElem?_zipIdx, List.getElem?_map, List.getElem?_map, List.getElem?_range hc]
      show (⟨(dotted (rowL (prep (fieldC kb j c), 0 + c))).toArray⟩ : Str) = _
      rw [Nat.zero_add]; rfl
    have hfield : (fieldsOf (msOf (kb.map (·.2)) j) (kb.map mkPart) (deepAt j)).getD c Str.empty = fieldC kb j c := by rw [hf, getD_range _ 7 c _ hc]
    have hm1 : (msOf (kb.map (·.2)) j).getD c Str.empty = dotsS (dnum (kb.map (·.2)) j c) := getD_range _ 7 c _ hc
    have hm2 : (msOf (kb.map (·.2)) (j + 1)).getD c Str.empty = dotsS (dnum (kb.map (·.2)) (j + 1) c) := getD_range _ 7 c _ hc
    rw [hrow, hfield, hm1, hm2]
    obtain ⟨r, hr, _⟩ := fieldC_list hkb j c
    have hck := chk_fieldC hkb j c
    cases hb : okAt (kb.map (·.2)) j c with
    | true =>
      rw [hb] at hck
      refine ⟨.inl ⟨?_, ?_⟩⟩
      · refine str_ext ?_
        rw [str_list, app_list, app_list, end_list]
        unfold prep
        rw [if_pos hck, hr]
        rfl
      · show dotsS (dnum (kb.map (·.2)) j c + (if okAt (kb.map (·.2)) j c = true then 1 else 0)) = _
        rw [hb, if_pos rfl, dots_succ]
    | false =>
      rw [hb] at hck
      have hp : prep (fieldC kb j c) = badS := by unfold prep; rw [if_neg (by rw [hck]; decide)]; rfl
      have hd : dotted (badS.cps.toList ++ endL c) = badS.cps.toList ++ endL c := by rw [bad_list]; rfl
      rw [hp, hd]
      refine ⟨.inr ⟨fun e => ?_, ?_, ?_⟩⟩
      · have e' := congrArg (fun s : Str => s.cps.toList) e
        rw [str_list, bad_list] at e'
        have e2 : (Str.ofString "." ++ fieldC kb j c ++ endAt c).cps.toList = 46 :: ((fieldC kb j c).cps.toList ++ (endAt c).cps.toList) := by
          rw [app_list, app_list]; rfl
        have e3 : 40 :: ([39, 39, 44, 32, 39, 39, 41] ++ endL c) = 46 :: ((fieldC kb j c).cps.toList ++ (endAt c).cps.toList) := e'.trans e2
        injection e3 with e4
        exact absurd e4 (by decide)
      · refine str_ext ?_
        rw [str_list, app_list, end_list]
        rfl
      · show dotsS (dnum (kb.map (·.2)) j c + (if okAt (kb.map (·.2)) j c = true then 1 else 0)) = _
        rw [hb, if_neg (by decide), Nat.add_zero]
def dsOf (w : List Nat) : List Int := (List.range 7).map fun c => (dnum w 3 c : Int)
theorem asc_dots (d : Nat) : Asc (dotsS d) := (asc_iff _).mpr fun c hc => by
  rw [(List.mem_replicate.mp (show c ∈ List.replicate d 46 from hc)).2]; decide
theorem marks_ok {kb : List (Nat × Nat)} (hkb : BrOk kb) : ∃ ms : Nat → List Str, ms 0 = List.replicate 7 (Str.ofString ".") ∧ (∀ j, j ≤ 3 → (ms j).length = 7 ∧ ∀ x ∈ ms j, Asc x ∧ x.length ≤ 10) ∧
    (∀ j, j < 3 → Round (kb.map mkPart) (ms j) (ms (j + 1)) (deepAt j)) ∧ (ms 3).map (fun m => (m.length : Int)) = dsOf (kb.map (·.2)) := by
  refine ⟨msOf (kb.map (·.2)), ?_, fun j hj => ⟨by unfold msOf; simp, fun x hx => ?_⟩, fun j hj => round_ok hkb hj, ?_⟩
  · rfl
  · obtain ⟨c, _, rfl⟩ := List.mem_map.mp hx
    refine ⟨asc_dots _, ?_⟩
    show (List.replicate (dnum (kb.map (·.2)) j c) 46).toArray.size ≤ 10
    rw [List.size_toArray, List.length_replicate]
    have := (dnum_le (kb.map (·.2)) c j).2
    omega
  · unfold msOf dsOf
    rw [List.map_map]
    refine List.map_congr_left fun c _ => ?_
    show (((List.replicate (dnum (kb.map (·.2)) 3 c) 46).toArray.size : Nat) : Int) = _
    rw [List.size_toArray, List.length_replicate]
end Mine

end

section
open PySem PySem.W PyProof.Rows PySem.Calls
set_option maxRecDepth 100000
set_option linter.all false
namespace Mine
def KOk (kb : List (Nat × Nat)) : Prop := ∀ p ∈ kb, p.1 ≤ 5
def kw (k : Nat) : Nat := (viss (kindTk k)).length
def visS : Tk → List Str
  | .ch c => [⟨#[c]⟩]
  | .es c => [⟨#[92, c]⟩]
  | .qu _ => []
theorem small_part (P : Nat × Nat → Prop) (h : ∀ k, k < 6 → P (k, 40) ∧ P (k, 41)) (p : Nat × Nat) (hk : p.1 ≤ 5) (hb : p.2 = 40 ∨ p.2 = 41) : P p := by
  obtain ⟨k, b⟩ := p
  have := h k (Nat.lt_succ_of_le hk)
  rcases hb with hb | hb
  · have e : b = 40 := hb
    subst e; exact this.1
  · have e : b = 41 := hb
    subst e; exact this.2
theorem width_all : ∀ k, k < 6 → widthOf (mkPart (k, 40)) = ((viss (partTk (k, 40))).length : Int) ∧ widthOf (mkPart (k, 41)) = ((viss (partTk (k, 41))).length : Int) := by decide +kernel
theorem shown_all : ∀ k, k < 6 → shownOf (mkPart (k, 40)) = (partTk (k, 40)).flatMap visS ∧ shownOf (mkPart (k, 41)) = (partTk (k, 41)).flatMap visS := by decide +kernel
theorem ok_all : ∀ k, k < 6 → (Asc (mkPart (k, 40)) ∧ (mkPart (k, 40)).length ≤ 20) ∧ (Asc (mkPart (k, 41)) ∧ (mkPart (k, 41)).length ≤ 20) := by decide +kernel
theorem width3_all : ∀ k, k < 6 → (viss (partTk (k, 40))).length ≤ 3 ∧ (viss (partTk (k, 41))).length ≤ 3 := by decide +kernel
theorem viss_app (a b : List Tk) : viss (a ++ b) = viss a ++ viss b := List.flatMap_append
theorem unitsR_app : ∀ (a b : List Tk) (i : Nat), unitsR i (a ++ b) = unitsR i a ++ unitsR (i + (raws a).length) b
  | [], _, _ => rfl
  | .ch c :: a, b, i => by
    have e : i + 1 + (raws a).length = i + (raws (.ch c :: a)).length := by show _ = i + ((raws a).length + 1); omega
    show (i, [c]) :: unitsR (i + 1) (a ++ b) = (i, [c]) :: (unitsR (i + 1) a ++ _)
    rw [unitsR_app a b, e]
  | .es c :: a, b, i => by
    have e : i + 2 + (raws a).length = i + (raws (.es c :: a)).length := by show _ = i + ((raws a).length + 1 + 1); omega
    show (i + 1, [92, c]) :: unitsR (i + 2) (a ++ b) = (i + 1, [92, c]) :: (unitsR (i + 2) a ++ _)
    rw [unitsR_app a b, e]
  | .qu c :: a, b, i => by
    have e : i + 3 + (raws a).length = i + (raws (.qu c :: a)).length := by show _ = i + ((raws a).length + 1 + 1 + 1); omega
    show (i, [34]) :: (i + 1, [c]) :: (i + 2, [34]) :: unitsR (i + 3) (a ++ b) = (i, [34]) :: (i + 1, [c]) :: (i + 2, [34]) :: (unitsR (i + 3) a ++ _)
    rw [unitsR_app a b, e]
theorem units_strs : ∀ (ts : List Tk) (i : Nat), (unitsR i (ts.filter Tk.seen)).map uStr = ts.flatMap visS
  | [], _ => rfl
  | .ch c :: ts, i => by
    show uStr (i, [c]) :: (unitsR (i + 1) (ts.filter Tk.seen)).map uStr = [⟨#[c]⟩] ++ ts.flatMap visS
    rw [units_strs ts]; rfl
  | .es c :: ts, i => by
    show uStr (i + 1, [92, c]) :: (unitsR (i + 2) (ts.filter Tk.seen)).map uStr = [⟨#[92, c]⟩] ++ ts.flatMap visS
    rw [units_strs ts]; rfl
  | .qu c :: ts, i => units_strs ts i
theorem units_le : ∀ (ts : List Tk) (i : Nat), (unitsR i (ts.filter Tk.seen)).length ≤ (viss ts).length
  | [], _ => Nat.le_refl _
  | .ch c :: ts, i => by
    have := units_le ts (i + 1)
    show (unitsR (i + 1) (ts.filter Tk.seen)).length + 1 ≤ (viss ts).length + 1
    omega
  | .es c :: ts, i => by
    have := units_le ts (i + 2)
    show (unitsR (i + 2) (ts.filter Tk.seen)).length + 1 ≤ (viss ts).length + 1 + 1
    omega
  | .qu c :: ts, i => units_le ts i
theorem esc_tail (n : Nat) : escGo n false [34, 92, 41, 92] = [(n, [34]), (n + 2, [92, 41]), (n + 3, [92])] := by
  rw [escGo, if_neg (by decide), escGo, if_pos rfl]
  rfl
theorem U1_eq {kb : List (Nat × Nat)} (h : BrOk kb) : U1 (kb.map mkPart) = unitsR 0 ((kb.flatMap partTk).filter Tk.seen) ++ [((viss (kb.flatMap partTk)).length, [34]), ((viss (kb.flatMap partTk)).length + 2, [92, 41]), ((viss (kb.flatMap partTk)).length + 3, [92])] := by
  unfold U1
  rw [units_tk (ts := kb.flatMap partTk) (q := [34, 92, 41, 92]) (parts_ok h) ?_ (.inr ⟨[92, 41, 92], rfl, fun u hu => ?_⟩), esc_tail]
  · rw [join_list_eq, List.flatMap_append, parts_raw]
    rfl
  · have e : escGo ((raws (kb.flatMap partTk)).length + 1) false [92, 41, 92] = [((raws (kb.flatMap partTk)).length + 2, [92, 41]), ((raws (kb.flatMap partTk)).length + 3, [92])] := by
      rw [escGo, if_pos rfl]; rfl
    rw [e] at hu
    rcases List.mem_cons.mp hu with rfl | hu
    · show [92, 41] ≠ [34]; decide
    · rw [List.mem_singleton.mp hu]; show [92] ≠ [34]; decide
theorem U2_eq {kb : List (Nat × Nat)} (h : BrOk kb) : U2 (kb.map mkPart) = unitsR 0 (((kb.drop 3 ++ kb.take 3).flatMap partTk).filter Tk.seen) := by
  have hrot : BrOk (kb.drop 3 ++ kb.take 3) := fun p hp => (List.mem_append.mp hp).elim (fun q => h p (List.mem_of_mem_drop q)) (fun q => h p (List.mem_of_mem_take q))
  unfold U2
  rw [units_tk (ts := (kb.drop 3 ++ kb.take 3).flatMap partTk) (q := []) (parts_ok hrot) ?_ (.inl rfl)]
  · rw [show escGo _ false [] = ([] : List (Nat × List Nat)) from rfl, List.append_nil]
  · rw [join_list_eq, List.append_nil, ← List.map_drop, ← List.map_take, ← List.map_append, parts_raw, List.append_nil]
theorem width_sum : ∀ {kb : List (Nat × Nat)}, BrOk kb → KOk kb → ((kb.map mkPart).map widthOf).sum = ((viss (kb.flatMap partTk)).length : Int)
  | [], _, _ => rfl
  | p :: kb, h, hk => by
    have ih := width_sum (kb := kb) (fun q hq => h q (.tail _ hq)) (fun q hq => hk q (.tail _ hq))
    rw [List.map_cons, List.map_cons, List.sum_cons, ih, List.flatMap_cons, viss_app, List.length_append, small_part (fun p => widthOf (mkPart p) = ((viss (partTk p)).length : Int)) width_all p (hk p (.head _)) (h p (.head _))]
    omega
theorem shown_flat : ∀ {kb : List (Nat × Nat)}, BrOk kb → KOk kb → (kb.map mkPart).flatMap shownOf = (kb.flatMap partTk).flatMap visS
  | [], _, _ => rfl
  | p :: kb, h, hk => by
    have ih := shown_flat (kb := kb) (fun q hq => h q (.tail _ hq)) (fun q hq => hk q (.tail _ hq))
    rw [List.map_cons, List.flatMap_cons, ih, List.flatMap_cons, List.flatMap_append, small_part (fun p => shownOf (mkPart p) = (partTk p).flatMap visS) shown_all p (hk p (.head _)) (h p (.head _))]
/-- the places of one sign, from the widths ahead of each sign -/
def pos (b : Nat) : Nat → List (Nat × Nat) → List Nat
  | _, [] => []
  | i, p :: r => (if p.2 = b then [i + p.1] else []) ++ pos b (i + p.1 + 1) r
def kws (kb : List (Nat × Nat)) : List (Nat × Nat) := kb.map fun p => (kw p.1, p.2)
theorem pick_app (a b : List (Nat × List Nat)) (ch : Str) (f : Nat → Int) : pickU (a ++ b) ch f = pickU a ch f ++ pickU b ch f := by
  unfold pickU; rw [List.filter_append, List.map_append]
theorem pick_cons (u : Nat × List Nat) (b : List (Nat × List Nat)) (n : Nat) (f : Nat → Int) : pickU (u :: b) ⟨#[n]⟩ f = (if u.2 = [n] then [f u.1] else []) ++ pickU b ⟨#[n]⟩ f := by
  unfold pickU
  rw [List.filter_cons]
  have e : (uStr u == (⟨#[n]⟩ : Str)) = decide (u.2 = [n]) := is_one u.2 n _ rfl
  rw [e]
  by_cases h : u.2 = [n]
  · rw [if_pos h, decide_eq_true h]; rfl
  · rw [if_neg h, decide_eq_false h]; rfl
theorem pick_kind (b : Nat) (hb : b = 40 ∨ b = 41) (f : Nat → Int) (k i c : Nat) (rest : List Tk) :
    pickU (unitsR i ((kindTk k ++ (.ch c :: rest)).filter Tk.seen)) ⟨#[b]⟩ f = (if c = b then [f (i + kw k)] else []) ++ pickU (unitsR (i + kw k + 1) (rest.filter Tk.seen)) ⟨#[b]⟩ f := by
  have h1 : ∀ j, pickU ((j, [c]) :: unitsR (j + 1) (rest.filter Tk.seen)) ⟨#[b]⟩ f = (if c = b then [f j] else []) ++ pickU (unitsR (j + 1) (rest.filter Tk.seen)) ⟨#[b]⟩ f := fun j => by
    rw [pick_cons]
    simp only [List.cons.injEq, and_true]
  have h2 : ∀ (j x y : Nat) (us : List (Nat × List Nat)), pickU ((j, [x, y]) :: us) ⟨#[b]⟩ f = pickU us ⟨#[b]⟩ f := fun j x y us => by
    rw [pick_cons, if_neg (by simp), List.nil_append]
  have h3 : ∀ (j : Nat) (us : List (Nat × List Nat)), pickU ((j, [32]) :: us) ⟨#[b]⟩ f = pickU us ⟨#[b]⟩ f := fun j us => by
    rw [pick_cons, if_neg (by simp only [List.cons.injEq, and_true]; omega), List.nil_append]
  match k with
  | 0 => exact h1 i
  | 1 => exact (h2 (i + 1) 92 41 _).trans (h1 (i + 2))
  | 2 => exact (h3 i _).trans (h1 (i + 1))
  | 3 => exact (h2 (i + 1) 92 92 _).trans (h1 (i + 2))
  | 4 => exact (h2 (i + 1) 92 34 _).trans (h1 (i + 2))
  | _ + 5 => exact (h3 i _).trans (h1 (i + 1))
theorem pick_parts (b : Nat) (hb : b = 40 ∨ b = 41) (f : Nat → Int) : ∀ (kb : List (Nat × Nat)) (i : Nat), pickU (unitsR i ((kb.flatMap partTk).filter Tk.seen)) ⟨#[b]⟩ f = (pos b i (kws kb)).map f
  | [], _ => rfl
  | p :: kb, i => by
    have ih := pick_parts b hb f kb (i + kw p.1 + 1)
    have e : (p :: kb).flatMap partTk = kindTk p.1 ++ (.ch p.2 :: kb.flatMap partTk) := by
      rw [List.flatMap_cons]; unfold partTk; rw [List.append_assoc]; rfl
    rw [e, pick_kind b hb, ih]
    show _ = ((if p.2 = b then [i + kw p.1] else []) ++ pos b (i + kw p.1 + 1) (kws kb)).map f
    rw [List.map_append]
    congr 1
    split <;> rfl
theorem pick_U1 {kb : List (Nat × Nat)} (h : BrOk kb) (b : Nat) (hb : b = 40 ∨ b = 41) (f : Nat → Int) : pickU (U1 (kb.map mkPart)) ⟨#[b]⟩ f = (pos b 0 (kws kb)).map f := by
  rw [U1_eq h, pick_app, pick_parts b hb, pick_cons, pick_cons, pick_cons, if_neg (by simp only [List.cons.injEq, and_true]; omega), if_neg (by simp), if_neg (by simp only [List.cons.injEq, and_true]; omega)]
  show _ ++ ([] : List Int) = _
  rw [List.append_nil]
theorem pick_U2 {kb : List (Nat × Nat)} (h : BrOk kb) (b : Nat) (hb : b = 40 ∨ b = 41) (f : Nat → Int) : pickU (U2 (kb.map mkPart)) ⟨#[b]⟩ f = (pos b 0 (kws (kb.drop 3 ++ kb.take 3))).map f := by
  rw [U2_eq h, pick_parts b hb]
end Mine

end

section
open PySem PySem.W PyProof.Rows PySem.Calls
set_option maxRecDepth 100000
set_option linter.all false
namespace Mine
def wid (v : List (Nat × Nat)) : List Int := v.map fun p => ((p.1 + 1 : Nat) : Int)
def costV (ws ds : List Int) (c : Nat) : Int := ((List.range 6).map fun k => ws.getD k 0 * absI (ds.getD k 0 - ds.getD c 0)).sum
def turnV (us : List Nat) (st sz : Int) : List Int := us.map fun (x : Nat) => ((x : Int) - st).fmod sz
def leastV (m : Int) (cs : List Int) : Bool := cs.contains m && cs.all fun a => decide (m ≤ a)
def lineV (us dn : List Nat) (ws ds : List Int) (sz : Int) (c : Nat) : Bool :=
  leastV (costV ws ds c) (perms3.map (costOf (turnV us ((ws.take (c + 1)).sum - 1) sz) (turnV dn ((ws.take (c + 1)).sum - 1) sz) 999))
def minV (l : List Int) : Int := l.foldl minI (l.headD 0)
def finV (us dn : List Nat) (co : List Int) (sz : Int) : Bool :=
  leastV (minV co) co && leastV (minV co) (perms3.map (costOf (us.map fun (x : Nat) => (x : Int)) (dn.map fun (x : Nat) => (x : Int)) sz))
def oneV (v : List (Nat × Nat)) (ds : List Int) : Bool :=
  let ws := wid v
  let us := pos 40 0 v
  let dn := pos 41 0 v
  let r := v.drop 3 ++ v.take 3
  let ur := pos 40 0 r
  let dr := pos 41 0 r
  us.length == 3 && dn.length == 3 && ur.length == 3 && dr.length == 3 && (List.range 6).all (lineV us dn ws ds ws.sum) && finV ur dr ((List.range 6).map (costV ws ds)) ws.sum
def kwsOf (w : List Nat) (a b c : Nat) : List (Nat × Nat) := List.zip [a, 0, b, 0, c, 0] w
def allV (w : List Nat) (ds : List Int) : Bool := (List.range 3).all fun a => (List.range 3).all fun b => (List.range 3).all fun c => oneV (kwsOf w a b c) ds
def dsV (w : List Nat) (ds : List Int) : Bool := dsOf w == ds && ds.length == 7 && ds.drop 6 == [2] && ds.contains 4 && ds.all (fun a => decide (a ≤ 4))
def tabV : List (List Nat × List Int) := [([40, 40, 40, 41, 41, 41], [4, 3, 2, 1, 2, 3, 2]), ([40, 40, 41, 40, 41, 41], [4, 3, 2, 3, 2, 3, 2]), ([40, 40, 41, 41, 40, 41], [4, 3, 2, 3, 4, 3, 2]), ([40, 40, 41, 41, 41, 40], [3, 2, 1, 2, 3, 4, 2]), ([40, 41, 40, 40, 41, 41], [4, 3, 4, 3, 2, 3, 2]), ([40, 41, 40, 41, 40, 41], [4, 3, 4, 3, 4, 3, 2]), ([40, 41, 40, 41, 41, 40], [3, 2, 3, 2, 3, 4, 2]), ([40, 41, 41, 40, 40, 41], [3, 2, 3, 4, 3, 2, 2]), ([40, 41, 41, 40, 41, 40], [3, 2, 3, 4, 3, 4, 2]), ([40, 41, 41, 41, 40, 40], [2, 1, 2, 3, 4, 3, 2]), ([41, 40, 40, 40, 41, 41], [3, 4, 3, 2, 1, 2, 2]), ([41, 40, 40, 41, 40, 41], [3, 4, 3, 2, 3, 2, 2]), ([41, 40, 40, 41, 41, 40], [3, 4, 3, 2, 3, 4, 2]), ([41, 40, 41, 40, 40, 41], [3, 4, 3, 4, 3, 2, 2]), ([41, 40, 41, 40, 41, 40], [3, 4, 3, 4, 3, 4, 2]), ([41, 40, 41, 41, 40, 40], [2, 3, 2, 3, 4, 3, 2]), ([41, 41, 40, 40, 40, 41], [2, 3, 4, 3, 2, 1, 2]), ([41, 41, 40, 40, 41, 40], [2, 3, 4, 3, 2, 3, 2]), ([41, 41, 40, 41, 40, 40], [2, 3, 4, 3, 4, 3, 2]), ([41, 41, 41, 40, 40, 40], [1, 2, 3, 4, 3, 2, 2])]
theorem all_01 : (dsV [40, 40, 40, 41, 41, 41] [4, 3, 2, 1, 2, 3, 2] && allV [40, 40, 40, 41, 41, 41] [4, 3, 2, 1, 2, 3, 2]) = true := by decide +kernel
theorem all_02 : (dsV [40, 40, 41, 40, 41, 41] [4, 3, 2, 3, 2, 3, 2] && allV [40, 40, 41, 40, 41, 41] [4, 3, 2, 3, 2, 3, 2]) = true := by decide +kernel
theorem all_03 : (dsV [40, 40, 41, 41, 40, 41] [4, 3, 2, 3, 4, 3, 2] && allV [40, 40, 41, 41, 40, 41] [4, 3, 2, 3, 4, 3, 2]) = true := by decide +kernel
theorem all_04 : (dsV [40, 40, 41, 41, 41, 40] [3, 2, 1, 2, 3, 4, 2] && allV [40, 40, 41, 41, 41, 40] [3, 2, 1, 2, 3, 4, 2]) = true := by decide +kernel
theorem all_05 : (dsV [40, 41, 40, 40, 41, 41] [4, 3, 4, 3, 2, 3, 2] && allV [40, 41, 40, 40, 41, 41] [4, 3, 4, 3, 2, 3, 2]) = true := by decide +kernel
theorem all_06 : (dsV [40, 41, 40, 41, 40, 41] [4, 3, 4, 3, 4, 3, 2] && allV [40, 41, 40, 41, 40, 41] [4, 3, 4, 3, 4, 3, 2]) = true := by decide +kernel
theorem all_07 : (dsV [40, 41, 40, 41, 41, 40] [3, 2, 3, 2, 3, 4, 2] && allV [40, 41, 40, 41, 41, 40] [3, 2, 3, 2, 3, 4, 2]) = true := by decide +kernel
theorem all_08 : (dsV [40, 41, 41, 40, 40, 41] [3, 2, 3, 4, 3, 2, 2] && allV [40, 41, 41, 40, 40, 41] [3, 2, 3, 4, 3, 2, 2]) = true := by decide +kernel
theorem all_09 : (dsV [40, 41, 41, 40, 41, 40] [3, 2, 3, 4, 3, 4, 2] && allV [40, 41, 41, 40, 41, 40] [3, 2, 3, 4, 3, 4, 2]) = true := by decide +kernel
theorem all_10 : (dsV [40, 41, 41, 41, 40, 40] [2, 1, 2, 3, 4, 3, 2] && allV [40, 41, 41, 41, 40, 40] [2, 1, 2, 3, 4, 3, 2]) = true := by decide +kernel
theorem all_11 : (dsV [41, 40, 40, 40, 41, 41] [3, 4, 3, 2, 1, 2, 2] && allV [41, 40, 40, 40, 41, 41] [3, 4, 3, 2, 1, 2, 2]) = true := by decide +kernel
theorem all_12 : (dsV [41, 40, 40, 41, 40, 41] [3, 4, 3, 2, 3, 2, 2] && allV [41, 40, 40, 41, 40, 41] [3, 4, 3, 2, 3, 2, 2]) = true := by decide +kernel
theorem all_13 : (dsV [41, 40, 40, 41, 41, 40] [3, 4, 3, 2, 3, 4, 2] && allV [41, 40, 40, 41, 41, 40] [3, 4, 3, 2, 3, 4, 2]) = true := by decide +kernel
theorem all_14 : (dsV [41, 40, 41, 40, 40, 41] [3, 4, 3, 4, 3, 2, 2] && allV [41, 40, 41, 40, 40, 41] [3, 4, 3, 4, 3, 2, 2]) = true := by decide +kernel
theorem all_15 : (dsV [41, 40, 41, 40, 41, 40] [3, 4, 3, 4, 3, 4, 2] && allV [41, 40, 41, 40, 41, 40] [3, 4, 3, 4, 3, 4, 2]) = true := by decide +kernel
theorem all_16 : (dsV [41, 40, 41, 41, 40, 40] [2, 3, 2, 3, 4, 3, 2] && allV [41, 40, 41, 41, 40, 40] [2, 3, 2, 3, 4, 3, 2]) = true := by decide +kernel
theorem all_17 : (dsV [41, 41, 40, 40, 40, 41] [2, 3, 4, 3, 2, 1, 2] && allV [41, 41, 40, 40, 40, 41] [2, 3, 4, 3, 2, 1, 2]) = true := by decide +kernel
theorem all_18 : (dsV [41, 41, 40, 40, 41, 40] [2, 3, 4, 3, 2, 3, 2] && allV [41, 41, 40, 40, 41, 40] [2, 3, 4, 3, 2, 3, 2]) = true := by decide +kernel
theorem all_19 : (dsV [41, 41, 40, 41, 40, 40] [2, 3, 4, 3, 4, 3, 2] && allV [41, 41, 40, 41, 40, 40] [2, 3, 4, 3, 4, 3, 2]) = true := by decide +kernel
theorem all_20 : (dsV [41, 41, 41, 40, 40, 40] [1, 2, 3, 4, 3, 2, 2] && allV [41, 41, 41, 40, 40, 40] [1, 2, 3, 4, 3, 2, 2]) = true := by decide +kernel
theorem all_tab : ∀ p ∈ tabV, (dsV p.1 p.2 && allV p.1 p.2) = true := by
  intro p hp
  simp only [tabV, List.mem_cons, List.not_mem_nil, or_false] at hp
  rcases hp with rfl | rfl | rfl | rfl | rfl | rfl | rfl | rfl | rfl | rfl | rfl | rfl | rfl | rfl | rfl | rfl | rfl | rfl | rfl | rfl
  · exact all_01
  · exact all_02
  · exact all_03
  · exact all_04
  · exact all_05
  · exact all_06
  · exact all_07
  · exact all_08
  · exact all_09
  · exact all_10
  · exact all_11
  · exact all_12
  · exact all_13
  · exact all_14
  · exact all_15
  · exact all_16
  · exact all_17
  · exact all_18
  · exact all_19
  · exact all_20
end Mine

end

section
open PySem PySem.W PyProof.Rows PySem.Calls
set_option maxRecDepth 100000
set_option linter.all false
namespace Mine
theorem kw_len (p : Nat × Nat) : (viss (partTk p)).length = kw p.1 + 1 := by
  unfold partTk kw
  rw [viss_app, List.length_append]; rfl
theorem wid_eq : ∀ {kb : List (Nat × Nat)}, BrOk kb → KOk kb → (kb.map mkPart).map widthOf = wid (kws kb)
  | [], _, _ => rfl
  | p :: kb, h, hk => by
    have ih := wid_eq (kb := kb) (fun q hq => h q (.tail _ hq)) (fun q hq => hk q (.tail _ hq))
    rw [List.map_cons, List.map_cons, ih, small_part (fun p => widthOf (mkPart p) = ((viss (partTk p)).length : Int)) width_all p (hk p (.head _)) (h p (.head _)), kw_len]
    rfl
theorem least_of {m : Int} {cs : List Int} (h : leastV m cs = true) : m ∈ cs ∧ ∀ a ∈ cs, m ≤ a := by
  unfold leastV at h
  rw [Bool.and_eq_true] at h
  refine ⟨by simpa using h.1, fun a ha => ?_⟩
  have := List.all_eq_true.mp h.2 a ha
  simpa using this
theorem least_is {m : Int} {cs : List Int} (h : leastV m cs = true) {M : Int} (hM : M ∈ cs) (hle : ∀ a, a ∈ cs → M ≤ a) : M = m := by
  obtain ⟨h1, h2⟩ := least_of h
  have := hle m h1
  have := h2 M hM
  omega
theorem kws_rot (kb : List (Nat × Nat)) : kws (kb.drop 3 ++ kb.take 3) = (kws kb).drop 3 ++ (kws kb).take 3 := by
  unfold kws; rw [List.map_append, List.map_drop, List.map_take]
theorem viss_le {kb : List (Nat × Nat)} (h : BrOk kb) (hk : KOk kb) : (viss (kb.flatMap partTk)).length ≤ 3 * kb.length := by
  induction kb with
  | nil => exact Nat.le_refl _
  | cons p kb ih =>
    have h1 := ih (fun q hq => h q (.tail _ hq)) (fun q hq => hk q (.tail _ hq))
    have h2 := small_part (fun p => (viss (partTk p)).length ≤ 3) width3_all p (hk p (.head _)) (h p (.head _))
    rw [List.flatMap_cons, viss_app, List.length_append, List.length_cons]
    omega
theorem open_eq : Str.ofString "(" = ⟨#[40]⟩ := rfl
theorem close_eq : Str.ofString ")" = ⟨#[41]⟩ := rfl
theorem good_of {kb : List (Nat × Nat)} {ds : List Int} (h : BrOk kb) (hk : KOk kb) (h6 : kb.length = 6) (hds : dsV (kb.map (·.2)) ds = true) (hone : oneV (kws kb) ds = true) : Good (kb.map mkPart) ds := by
  have hrot : BrOk (kb.drop 3 ++ kb.take 3) := fun p hp => (List.mem_append.mp hp).elim (fun q => h p (List.mem_of_mem_drop q)) (fun q => h p (List.mem_of_mem_take q))
  have hrotk : KOk (kb.drop 3 ++ kb.take 3) := fun p hp => (List.mem_append.mp hp).elim (fun q => hk p (List.mem_of_mem_drop q)) (fun q => hk p (List.mem_of_mem_take q))
  have hr6 : (kb.drop 3 ++ kb.take 3).length = 6 := by rw [List.length_append, List.length_drop, List.length_take, h6]; rfl
  unfold dsV at hds
  simp only [Bool.and_eq_true, beq_iff_eq] at hds
  obtain ⟨⟨⟨⟨hd0, hd1⟩, hd2⟩, hd3⟩, hd4⟩ := hds
  have hw := wid_eq h hk
  have hsum := width_sum h hk
  have hvl := viss_le h hk
  have hvr := viss_le hrot hrotk
  unfold oneV at hone
  dsimp only at hone
  simp only [Bool.and_eq_true, beq_iff_eq] at hone
  obtain ⟨⟨⟨⟨⟨hu, hdn⟩, hur⟩, hdr⟩, hl⟩, hf⟩ := hone
  obtain ⟨ms, hm⟩ := marks_ok h
  rw [hd0] at hm
  have hcost : ∀ c, costAt (kb.map mkPart) ds c = costV (wid (kws kb)) ds c := fun c => by unfold costAt costV; rw [hw]
  have hU1 := U1_eq h
  exact {
    marks := ⟨ms, hm⟩
    dlen := hd1
    dlast := hd2
    dmax := ⟨by simpa using hd3, fun a ha => by simpa using List.all_eq_true.mp hd4 a ha⟩
    len := by rw [List.length_map]; exact h6
    ok := fun x hx => by
      obtain ⟨p, hp, rfl⟩ := List.mem_map.mp hx
      exact small_part (fun p => Asc (mkPart p) ∧ (mkPart p).length ≤ 20) ok_all p (hk p hp) (h p hp)
    wid := fun x hx => by
      obtain ⟨p, hp, rfl⟩ := List.mem_map.mp hx
      have h1 := small_part (fun p => widthOf (mkPart p) = ((viss (partTk p)).length : Int)) width_all p (hk p hp) (h p hp)
      have h2 := small_part (fun p => (viss (partTk p)).length ≤ 3) width3_all p (hk p hp) (h p hp)
      rw [h1]; omega
    heq1 := by
      rw [hU1, List.map_append, units_strs, shown_flat h hk]; rfl
    u1last := by
      rw [hU1, hsum]
      have e : ∀ (l : List (Nat × List Nat)) (a b c : Nat × List Nat), (l ++ [a, b, c]).drop ((l ++ [a, b, c]).length - 3) = [a, b, c] := fun l a b c => by
        rw [List.length_append, show l.length + [a, b, c].length - 3 = l.length from by show l.length + 3 - 3 = _; omega, List.drop_left']
        rfl
      rw [e]
      rfl
    linec := fun c hc => by
      have hlc := List.all_eq_true.mp hl c (List.mem_range.mpr hc)
      unfold lineV at hlc
      rw [hw]
      refine ⟨?_, ?_, fun M hM hle => ?_⟩
      · rw [open_eq, pick_U1 h 40 (.inl rfl), List.length_map]; exact hu
      · rw [close_eq, pick_U1 h 41 (.inr rfl), List.length_map]; exact hdn
      · rw [open_eq, close_eq, pick_U1 h 40 (.inl rfl), pick_U1 h 41 (.inr rfl)] at hM hle
        rw [hcost]
        exact least_is hlc hM hle
    u2len := by
      rw [U2_eq h]
      have := units_le ((kb.drop 3 ++ kb.take 3).flatMap partTk) 0
      omega
    fin := by
      unfold finV at hf
      rw [Bool.and_eq_true] at hf
      rw [hw]
      refine ⟨?_, ?_, fun M M' hM hle hM' hle' => ?_⟩
      · rw [open_eq, pick_U2 h 40 (.inl rfl), List.length_map, kws_rot]; exact hur
      · rw [close_eq, pick_U2 h 41 (.inr rfl), List.length_map, kws_rot]; exact hdr
      · rw [open_eq, close_eq, pick_U2 h 40 (.inl rfl), pick_U2 h 41 (.inr rfl), kws_rot] at hM hle
        have hco : costsUp (kb.map mkPart) ds 6 = (List.range 6).map (costV (wid (kws kb)) ds) := by
          unfold costsUp
          exact List.map_congr_left fun c _ => hcost c
        rw [hco] at hM' hle'
        rw [least_is hf.2 hM hle, least_is hf.1 hM' hle']
    szp := by
      rw [hsum]
      obtain ⟨p, r, rfl⟩ : ∃ p r, kb = p :: r := by
        cases kb with
        | nil => cases h6
        | cons p r => exact ⟨p, r, rfl⟩
      rw [List.flatMap_cons, viss_app, List.length_append, kw_len]
      omega
    u2ne := fun e => by
      have h1 := pick_U2 h 40 (.inl rfl) (fun x => (x : Int))
      rw [e, kws_rot] at h1
      have h2 := congrArg List.length h1
      rw [List.length_map, hur] at h2
      exact absurd h2 (by decide)
    u1len := by
      rw [hU1, List.length_append]
      have := units_le (kb.flatMap partTk) 0
      show _ + 3 ≤ 100
      omega
    heq2 := by
      rw [U2_eq h, units_strs, List.append_nil, ← List.map_drop, ← List.map_take, ← List.map_append, shown_flat hrot hrotk] }
def letB (lets : List Nat) (b : Bool) : Nat := if (lets.count 41 == 3 || (decide (lets.count 40 < 3) && b)) = true then 40 else 41
def wordB (a b c d e f : Bool) : List Nat :=
  [letB [] a, letB [letB [] a] b, letB [letB [] a, letB [letB [] a] b] c, letB [letB [] a, letB [letB [] a] b, letB [letB [] a, letB [letB [] a] b] c] d,
   letB [letB [] a, letB [letB [] a] b, letB [letB [] a, letB [letB [] a] b] c, letB [letB [] a, letB [letB [] a] b, letB [letB [] a, letB [letB [] a] b] c] d] e,
   letB [letB [] a, letB [letB [] a] b, letB [letB [] a, letB [letB [] a] b] c, letB [letB [] a, letB [letB [] a] b, letB [letB [] a, letB [letB [] a] b] c] d,
     letB [letB [] a, letB [letB [] a] b, letB [letB [] a, letB [letB [] a] b] c, letB [letB [] a, letB [letB [] a] b, letB [letB [] a, letB [letB [] a] b] c] d] e] f]
theorem words_all : ∀ a b c d e f : Bool, (tabV.map (·.1)).contains (wordB a b c d e f) = true := by decide +kernel
theorem part_step (lets : List Nat) (told : List Str) (i : Nat) (y : Int) : partStep ⟨lets, told⟩ (i, y) =
    ⟨lets ++ [letB lets (y % 2 == 0)], told ++ [mkPart (if i % 2 = 0 then (y / 2 % 6).toNat else 0, letB lets (y % 2 == 0))]⟩ := by
  have e : letOf lets y = letB lets (y % 2 == 0) := rfl
  unfold partStep
  dsimp only
  rw [e]
  by_cases h : i % 2 = 0
  · rw [if_pos h, if_pos h]; rfl
  · rw [if_neg h, if_neg h]; rfl
theorem told_six (a b c d e f : Int) : (partsUp [a, b, c, d, e, f] 6).told =
    (List.zip [(a / 2 % 6).toNat, 0, (c / 2 % 6).toNat, 0, (e / 2 % 6).toNat, 0] (wordB (a % 2 == 0) (b % 2 == 0) (c % 2 == 0) (d % 2 == 0) (e % 2 == 0) (f % 2 == 0))).map mkPart := by
  have e0 : partsUp [a, b, c, d, e, f] 6 = partStep (partStep (partStep (partStep (partStep (partStep ⟨[], []⟩ (0, a)) (1, b)) (2, c)) (3, d)) (4, e)) (5, f) := rfl
  rw [e0, part_step, part_step, part_step, part_step, part_step, part_step]
  rfl
theorem small_kind (a : Int) : (a / 2 % 6).toNat ≤ 5 := by omega
theorem kw_le (k : Nat) (h : k ≤ 5) : kw k < 3 := by
  have : k = 0 ∨ k = 1 ∨ k = 2 ∨ k = 3 ∨ k = 4 ∨ k = 5 := by omega
  rcases this with rfl | rfl | rfl | rfl | rfl | rfl <;> decide
theorem letB_br (l : List Nat) (b : Bool) : letB l b = 40 ∨ letB l b = 41 := by
  unfold letB; split
  · exact .inl rfl
  · exact .inr rfl
theorem plain_law (ks : List Int) (h6 : ks.length = 6) : ∃ ds, Good (partsUp ks 6).told ds := by
  obtain ⟨a, b, c, d, e, f, rfl⟩ : ∃ a b c d e f, ks = [a, b, c, d, e, f] := by
    match ks, h6 with
    | [a, b, c, d, e, f], _ => exact ⟨a, b, c, d, e, f, rfl⟩
  rw [told_six]
  have hw := words_all (a % 2 == 0) (b % 2 == 0) (c % 2 == 0) (d % 2 == 0) (e % 2 == 0) (f % 2 == 0)
  have hbr : ∀ x ∈ wordB (a % 2 == 0) (b % 2 == 0) (c % 2 == 0) (d % 2 == 0) (e % 2 == 0) (f % 2 == 0), x = 40 ∨ x = 41 := by
    intro x hx
    simp only [wordB, List.mem_cons, List.not_mem_nil, or_false] at hx
    rcases hx with rfl | rfl | rfl | rfl | rfl | rfl <;> exact letB_br _ _
  have hl : (wordB (a % 2 == 0) (b % 2 == 0) (c % 2 == 0) (d % 2 == 0) (e % 2 == 0) (f % 2 == 0)).length = 6 := rfl
  generalize wordB (a % 2 == 0) (b % 2 == 0) (c % 2 == 0) (d % 2 == 0) (e % 2 == 0) (f % 2 == 0) = w at hw hbr hl
  obtain ⟨w0, w1, w2, w3, w4, w5, rfl⟩ : ∃ a b c d e f, w = [a, b, c, d, e, f] := by
    match w, hl with
    | [a, b, c, d, e, f], _ => exact ⟨a, b, c, d, e, f, rfl⟩
  have hm : [w0, w1, w2, w3, w4, w5] ∈ tabV.map (·.1) := by simpa using hw
  obtain ⟨⟨w', ds⟩, hp, hw'⟩ := List.mem_map.mp hm
  have hw'' : w' = [w0, w1, w2, w3, w4, w5] := hw'
  subst hw''
  have hall := all_tab _ hp
  rw [Bool.and_eq_true] at hall
  have ha := small_kind a
  have hc := small_kind c
  have he := small_kind e
  have hone : oneV (kwsOf [w0, w1, w2, w3, w4, w5] (kw (a / 2 % 6).toNat) (kw (c / 2 % 6).toNat) (kw (e / 2 % 6).toNat)) ds = true := by
    have h1 := hall.2
    unfold allV at h1
    have h2 := List.all_eq_true.mp h1 _ (List.mem_range.mpr (kw_le _ ha))
    have h3 := List.all_eq_true.mp h2 _ (List.mem_range.mpr (kw_le _ hc))
    exact List.all_eq_true.mp h3 _ (List.mem_range.mpr (kw_le _ he))
  refine ⟨ds, good_of ?_ ?_ rfl hall.1 hone⟩
  · intro p hp
    have := List.of_mem_zip (a := p.1) (b := p.2) hp
    exact hbr _ this.2
  · intro p hp
    have := (List.of_mem_zip (a := p.1) (b := p.2) hp).1
    simp only [List.mem_cons, List.not_mem_nil, or_false] at this
    omega
end Mine

end

open PySem PySem.W PyProof.Rows PySem.Calls
set_option maxRecDepth 100000 in
set_option maxHeartbeats 8000000 in
theorem PySem.Challenge.cw_wo0010_01_holds : PySem.Challenge.rw_wo0010_01.Holds := by
  refine Mine.hd ?_
  k_fill
  intro w s₀ s₁ mg mb G Y fa o pm cd doc dV kV ho hd hcd hD hmg hg args vals as hpre hlay hrd hwl hlo
  have KX := kIn_of Y
  refine Ground.open G ?_
  intro T B D TE TW
  refine guard_noD D (by decide +kernel) ?_
  have TA := at_of_top T
  clear hmg
  wrow_args hpre hlay hrd hwl hlo
  refine enter_call ?_
  w_top on
  have K0 := below_caller (Top.heap T)
  w_call any ho hd hcd hD T F
  rename Fr _ _ _ _ => F
  rename News _ _ _ _ => N
  rename Heap.IsList _ _ _ => hS
  rename IntsAre _ _ => hI
  rename (¬ _ < _) => hlen
  rename_i hc1 hc2 hc3 hc4 hc5 hz0
  refine wpAny_mono (Mine.law_body hS hI ?hlen KX T ?hh ?hr ?hu Mine.plain_law (by k_dflt k_is) F N hc1 hc2 hc3 hc4 hc5 fun s' Ex => ?fin) (fun _ _ x => x) (fun _ _ x => x.elim)
  case hlen => omega
  case hh => rfl
  case hr => decide +kernel
  case hu => decide +kernel
  case fin => 
    refine ⟨.inl ⟨_, _, [], rfl, fun _ => rfl, ReadsW.bool true, ?_, fun _ => ⟨List.nodup_nil, fun _ hm => (nomatch hm)⟩⟩, .of_keep Ex.keep, Ex.side.os, Ex.side.bare (.of_eq hg)⟩
    first | rfl | wrow_post
